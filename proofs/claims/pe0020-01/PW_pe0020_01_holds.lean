import PyProof.Rows.All
import Wide.All
import OpenK.AllK
import Wide.FinOn
import PySem.Challenge.RW_pe0020_01
set_option Elab.async false
set_option maxRecDepth 100000

-- part Top
section
open PySem PySem.W PyProof.Rows
namespace Mine
set_option maxRecDepth 100000 in
set_option maxHeartbeats 8000000 in
open_top hd for PySem.Challenge.rw_pe0020_01
end Mine
end

-- part Rx
section
open PySem
namespace Mine
open PySem.Sre

def code1 : Array Nat := #[14, 4, 0, 1, 1, 6, 1, 16, 46, 1]
def code2 : Array Nat := #[14, 9, 4, 1, 2, 16, 10, 16, 13, 0, 7, 7, 16, 13, 16, 10, 15, 18, 5, 16, 10, 15, 13, 11, 16, 13, 5, 5, 0, 16, 10, 1, 15, 2, 0, 1]

theorem runFor_add (a b : Nat) (m : M) : M.runFor (a + b) m = M.runFor b (M.runFor a m) := by
  induction a generalizing m with
  | zero => simp [M.runFor]
  | succ a ih =>
    rw [Nat.add_right_comm, M.runFor, M.runFor]
    by_cases h : m.outcome.isSome = true
    · rw [if_pos h, if_pos h]
      cases b with
      | zero => rfl
      | succ b => rw [M.runFor, if_pos h]
    · rw [if_neg h, if_neg h]
      exact ih _

theorem runFor_done {m : M} (h : m.outcome.isSome = true) (k : Nat) : M.runFor k m = m := by
  cases k with
  | zero => rfl
  | succ k => rw [M.runFor, if_pos h]

theorem runFor_step {m : M} (h : m.outcome = none) (k : Nat) : M.runFor (k + 1) m = M.runFor k m.step := by
  rw [M.runFor, if_neg (by rw [h]; decide)]

def litOn (m : M) (width : Nat) (r : Except String (Bool × Seen)) : M := match r with
  | .error why => m.stick why
  | .ok (false, seen) => { m with seen }.say false
  | .ok (true, seen) => { m with seen, pc := m.pc + width, pos := m.pos + 1 }

/-- the machine upon pattern 1 -/
def m1 (t : Array Nat) (q : Nat) (out : Bool) (pc pos handed : Nat) (ans : Option Bool) (frames : List Sre.Frame) (weight : Nat) (seen : Seen) : M :=
  { code := code1, text := t, lim := t.size, start := q, lastStart := t.size, pc := pc, pos := pos, handed := handed, outermost := out, marks := #[],
    frames := frames, weight := weight, answer := ans, seen := seen }
def f1 (q : Nat) (first : Bool) : Sre.Frame := { wait := .nextStart, pc := 5, pos := q, outermost := first }
def st1 (t : Array Nat) (q : Nat) (first : Bool) (seen : Seen) : M := m1 t q first 5 q q none [f1 q first] 1 seen

theorem forSearch1 {t : Array Nat} {p : Nat} (h : p < t.size) : forSearch code1 t 0 p t.size false = st1 t p true (({} : Seen).add 14) := by
  have h1 : ¬ ((decide (p > t.size) || decide (t.size - p < 1)) = true) := by simp; omega
  show (if (decide (p > t.size) || decide (t.size - p < 1)) = true then _ else _) = _
  rw [if_neg h1]
  rfl
theorem forSearch1_end {t : Array Nat} : (M.runFor 1 (forSearch code1 t 0 t.size t.size false)).outcome = some .failed := by
  have h1 : ((decide (t.size > t.size) || decide (t.size - t.size < 1)) = true) := by simp
  have e : forSearch code1 t 0 t.size t.size false = (if (decide (t.size > t.size) || decide (t.size - t.size < 1)) = true then { m1 t t.size true 5 t.size t.size (some false) [] 0 (({} : Seen).add 14) with lastStart := 0 } else st1 t t.size true (({} : Seen).add 14)) := rfl
  rw [e, if_pos h1]
  rfl

section
variable {t : Array Nat} {q : Nat} {first : Bool} {seen : Seen}
theorem st1_at : (st1 t q first seen).step = if (q == 0 || t.getD (q - 1) 0 == 10) = true then m1 t q first 7 q q none [f1 q first] 1 ((seen.add 6).add 44) else m1 t q first 5 q q (some false) [f1 q first] 1 ((seen.add 6).add 44) := rfl
theorem st1_lit : (m1 t q first 7 q q none [f1 q first] 1 seen).step = if q ≥ t.size then m1 t q first 7 q q (some false) [f1 q first] 1 (seen.add 16) else
    if (t.getD q 0 == 46) = true then m1 t q first 9 (q + 1) q none [f1 q first] 1 (seen.add 16) else m1 t q first 7 q q (some false) [f1 q first] 1 (seen.add 16) := by
  have e : (m1 t q first 7 q q none [f1 q first] 1 seen).step = if q ≥ t.size then m1 t q first 7 q q (some false) [f1 q first] 1 (seen.add 16) else litOn (m1 t q first 7 q q none [f1 q first] 1 (seen.add 16)) 2 (.ok (t.getD q 0 == 46, seen.add 16)) := rfl
  rw [e]
  by_cases h : q ≥ t.size
  · rw [if_pos h, if_pos h]
  · rw [if_neg h, if_neg h]
    cases h2 : (t.getD q 0 == 46) <;> rfl
theorem st1_yes : M.runFor 3 (m1 t q first 9 (q + 1) q none [f1 q first] 1 seen) = { m1 t q first 5 q (q + 1) (some true) [] 0 (seen.add 1) with outcome := some .matched } := by
  have e1 : (m1 t q first 9 (q + 1) q none [f1 q first] 1 seen).step = m1 t q first 9 (q + 1) (q + 1) (some true) [f1 q first] 1 (seen.add 1) := by
    cases first <;> rfl
  rw [runFor_step rfl, e1]
  rfl
theorem st1_no {pc pos handed : Nat} : (m1 t q first pc pos handed (some false) [f1 q first] 1 seen).step = if q < t.size then st1 t (q + 1) false seen else m1 t q first 5 q handed (some false) [] 0 seen := by
  by_cases h : q < t.size
  · rw [if_pos h]
    show (if q < t.size then _ else _) = _
    rw [if_pos h]; rfl
  · rw [if_neg h]
    show (if q < t.size then _ else _) = _
    rw [if_neg h]; rfl
end

/-- the first dot at a line's head, from q on -/
def isHead (t : Array Nat) (q : Nat) : Bool := (q == 0 || t.getD (q - 1) 0 == 10) && (decide (q < t.size) && t.getD q 0 == 46)

/-- one start's run: five or four steps -/
theorem st1_miss {t : Array Nat} {q : Nat} {first : Bool} {seen : Seen} (h : isHead t q = false) :
    ∃ k pc seen', k ≤ 2 ∧ M.runFor k (st1 t q first seen) = m1 t q first pc q q (some false) [f1 q first] 1 seen' := by
  unfold isHead at h
  cases h1 : (q == 0 || t.getD (q - 1) 0 == 10) with
  | false =>
    refine ⟨1, 5, (seen.add 6).add 44, by omega, ?_⟩
    rw [runFor_step rfl, st1_at, h1]; rfl
  | true =>
    rw [h1, Bool.true_and] at h
    refine ⟨2, 7, ((seen.add 6).add 44).add 16, by omega, ?_⟩
    rw [runFor_step rfl, st1_at, if_pos h1, runFor_step rfl, st1_lit]
    by_cases h2 : q ≥ t.size
    · rw [if_pos h2]; rfl
    · rw [if_neg h2]
      have h3 : decide (q < t.size) = true := by simpa using h2
      rw [h3, Bool.true_and] at h
      rw [h]; rfl
theorem st1_hit {t : Array Nat} {q : Nat} {first : Bool} {seen : Seen} (h : isHead t q = true) :
    ∃ m, M.runFor 5 (st1 t q first seen) = m ∧ m.outcome = some .matched ∧ m.start = q ∧ m.handed = q + 1 := by
  unfold isHead at h
  obtain ⟨h1, h2⟩ := (Bool.and_eq_true _ _).mp h
  obtain ⟨h3, h4⟩ := (Bool.and_eq_true _ _).mp h2
  refine ⟨_, rfl, ?_⟩
  rw [runFor_step rfl, st1_at, if_pos h1, runFor_step rfl, st1_lit, if_neg (by simpa using h3), if_pos h4, st1_yes]
  exact ⟨rfl, rfl, rfl⟩

/-- what a search from q finds -/
def find1 (t : Array Nat) : (n q : Nat) → Option Nat
  | 0, _ => none
  | n + 1, q => if isHead t q then some q else find1 t n (q + 1)

theorem run1 {t : Array Nat} : ∀ (n q : Nat) (first : Bool) (seen : Seen), q + n = t.size →
    ∃ k m, k ≤ 5 * (n + 1) ∧ M.runFor k (st1 t q first seen) = m ∧ (match find1 t n q with
      | none => m.outcome = some .failed
      | some i => m.outcome = some .matched ∧ m.start = i ∧ m.handed = i + 1) := by
  intro n
  induction n with
  | zero =>
    intro q first seen hq
    have hn : isHead t q = false := by
      unfold isHead
      have : decide (q < t.size) = false := by simp; omega
      rw [this]; simp
    obtain ⟨k, pc, seen', hk, e⟩ := st1_miss (first := first) (seen := seen) hn
    refine ⟨k + 2, _, by omega, rfl, ?_⟩
    rw [runFor_add, e, runFor_step rfl, st1_no, if_neg (by omega)]
    rfl
  | succ n ih =>
    intro q first seen hq
    cases hh : isHead t q with
    | true =>
      obtain ⟨m, e, h1, h2, h3⟩ := st1_hit (first := first) (seen := seen) hh
      refine ⟨5, m, by omega, e, ?_⟩
      rw [find1, hh]
      exact ⟨h1, h2, h3⟩
    | false =>
      obtain ⟨k, pc, seen', hk, e⟩ := st1_miss (first := first) (seen := seen) hh
      obtain ⟨k', m, hk', e', hm⟩ := ih (q + 1) false seen' (by omega)
      refine ⟨k + (k' + 1), m, by omega, ?_, ?_⟩
      · rw [runFor_add, e, runFor_step rfl, st1_no, if_pos (by omega), e']
      · rw [find1, hh]
        exact hm

theorem search1 {t : Array Nat} {p : Nat} (hp : p ≤ t.size) : ∃ k m, k ≤ 5 * (t.size + 1) ∧ M.runFor k (forSearch code1 t 0 p t.size false) = m ∧ (match find1 t (t.size - p) p with
      | none => m.outcome = some .failed
      | some i => m.outcome = some .matched ∧ m.start = i ∧ m.handed = i + 1) := by
  by_cases h : p < t.size
  · rw [forSearch1 h]
    obtain ⟨k, m, hk, e, hm⟩ := run1 (t := t) (t.size - p) p true (({} : Seen).add 14) (by omega)
    exact ⟨k, m, by omega, e, hm⟩
  · have : p = t.size := by omega
    subst this
    refine ⟨1, _, by omega, rfl, ?_⟩
    rw [Nat.sub_self]
    exact forSearch1_end
end Mine
end

-- part Rx2
section
open PySem
namespace Mine
open PySem.Sre

def nl (c : Nat) : Bool := c == 10 || c == 13

theorem inSet2 (c : Nat) (seen : Seen) : ∃ seen', inSet code2 c code2.size 5 true seen = .ok (nl c, seen') := by
  unfold nl
  cases h1 : (c == 10) with
  | true =>
    refine ⟨seen.add 16, ?_⟩
    show (if (c == 10) = true then _ else _) = _
    rw [if_pos h1]; rfl
  | false =>
    cases h2 : (c == 13) with
    | true =>
      refine ⟨(seen.add 16).add 16, ?_⟩
      show (if (c == 10) = true then _ else if (c == 13) = true then _ else _) = _
      rw [if_neg (by rw [h1]; decide), if_pos h2]; rfl
    | false =>
      refine ⟨((seen.add 16).add 16).add 0, ?_⟩
      show (if (c == 10) = true then _ else if (c == 13) = true then _ else _) = _
      rw [if_neg (by rw [h1]; decide), if_neg (by rw [h2]; decide)]; rfl

/-- the first line end's sign from q on -/
def find2 (t : Array Nat) : (n q : Nat) → Option Nat
  | 0, _ => none
  | n + 1, q => if nl (t.getD q 0) then some q else find2 t n (q + 1)

theorem admitted2 {m : M} (hc : m.code = code2) : ∀ (n s : Nat) (seen : Seen), s + n = m.lim → ∃ seen', M.admitted m (n + 1) s seen = .ok (find2 m.text n s, seen') := by
  intro n
  induction n with
  | zero =>
    intro s seen h
    refine ⟨seen, ?_⟩
    rw [M.admitted, if_pos (by omega)]; rfl
  | succ n ih =>
    intro s seen h
    obtain ⟨seen₁, e⟩ := inSet2 (m.text.getD s 0) seen
    rw [M.admitted, if_neg (by omega), hc, e, find2]
    cases hn : nl (m.text.getD s 0) with
    | true => exact ⟨seen₁, rfl⟩
    | false =>
      obtain ⟨seen₂, e₂⟩ := ih (s + 1) seen₁ (by omega)
      exact ⟨seen₂, e₂⟩

/-- the machine upon pattern 2 -/
def m2 (t : Array Nat) (s : Nat) (out : Bool) (pc pos handed : Nat) (ans : Option Bool) (frames : List Sre.Frame) (weight : Nat) (seen : Seen) : M :=
  { code := code2, text := t, lim := t.size, start := s, lastStart := t.size, pc := pc, pos := pos, handed := handed, outermost := out, marks := #[],
    frames := frames, weight := weight, answer := ans, seen := seen }
def f2 (q : Nat) : Sre.Frame := { wait := .nextStart, pc := 10, pos := q, outermost := true }
def b2 (pc q : Nat) : Sre.Frame := { wait := .nextBranch, pc := pc, pos := q, outermost := true, kept := { lastmark := -1, lastindex := -1, whole := false, marks := #[] } }
def l2 (q : Nat) : Sre.Frame := { wait := .lookNot, pc := 26, pos := q, outermost := true, kept := { lastmark := -1, lastindex := -1, whole := false, marks := #[] } }
def st2 (t : Array Nat) (q : Nat) (seen : Seen) : M := m2 t q true 10 q q none [f2 q] 1 seen

def fresh2 (t : Array Nat) (p : Nat) : M := { code := code2, text := t, lim := t.size, start := p, lastStart := t.size, pc := 10, pos := p, handed := p, marks := #[], seen := ({} : Seen).add 14 }
def onAdm (m : M) (r : Except String (Option Nat × Seen)) : M := match r with
  | .ok (some s, seen) => { m with mustAdvance := false, seen }.attemptAt s true
  | .ok (none, seen) => { m with seen }.say false
  | .error why => m.stick why
theorem forSearch2 {t : Array Nat} {p : Nat} (h : p < t.size) : ∃ seen, forSearch code2 t 0 p t.size false = (match find2 t (t.size - p) p with
    | some s => st2 t s seen
    | none => m2 t p true 10 p p (some false) [] 0 seen) := by
  have h1 : ¬ ((decide (p > t.size) || decide (t.size - p < 1)) = true) := by simp; omega
  have e0 : forSearch code2 t 0 p t.size false = if (decide (p > t.size) || decide (t.size - p < 1)) = true then { m2 t p true 10 p p (some false) [] 0 (({} : Seen).add 14) with lastStart := 0 } else onAdm (fresh2 t p) (M.admitted (fresh2 t p) (t.size + 1 - p) p (({} : Seen).add 14)) := rfl
  obtain ⟨seen', e⟩ := admitted2 (m := fresh2 t p) rfl (t.size - p) p (({} : Seen).add 14) (by show p + (t.size - p) = t.size; omega)
  have e' : t.size + 1 - p = t.size - p + 1 := by omega
  rw [e0, if_neg h1, e', e]
  show ∃ seen, onAdm (fresh2 t p) (Except.ok (find2 t (t.size - p) p, seen')) = _
  cases find2 t (t.size - p) p with
  | none => exact ⟨seen', rfl⟩
  | some s => exact ⟨seen', rfl⟩
theorem forSearch2_end {t : Array Nat} : (M.runFor 1 (forSearch code2 t 0 t.size t.size false)).outcome = some .failed := by
  have h1 : ((decide (t.size > t.size) || decide (t.size - t.size < 1)) = true) := by simp
  have e : forSearch code2 t 0 t.size t.size false = (if (decide (t.size > t.size) || decide (t.size - t.size < 1)) = true then { m2 t t.size true 10 t.size t.size (some false) [] 0 (({} : Seen).add 14) with lastStart := 0 } else onAdm (fresh2 t t.size) (M.admitted (fresh2 t t.size) (t.size + 1 - t.size) t.size (({} : Seen).add 14))) := rfl
  rw [e, if_pos h1]
  rfl

section
variable {t : Array Nat} {s pos handed weight : Nat} {out : Bool} {frames : List Sre.Frame} {seen : Seen}
theorem lit2_12 : (m2 t s out 12 pos handed none frames weight seen).step = if pos ≥ t.size then m2 t s out 12 pos handed (some false) frames weight (seen.add 16) else
    if (t.getD pos 0 == 13) = true then m2 t s out 14 (pos + 1) handed none frames weight (seen.add 16) else m2 t s out 12 pos handed (some false) frames weight (seen.add 16) := by
  have e : (m2 t s out 12 pos handed none frames weight seen).step = if pos ≥ t.size then m2 t s out 12 pos handed (some false) frames weight (seen.add 16) else litOn (m2 t s out 12 pos handed none frames weight (seen.add 16)) 2 (.ok (t.getD pos 0 == 13, seen.add 16)) := rfl
  rw [e]
  by_cases h : pos ≥ t.size
  · rw [if_pos h, if_pos h]
  · rw [if_neg h, if_neg h]
    cases h2 : (t.getD pos 0 == 13) <;> rfl
theorem lit2_14 : (m2 t s out 14 pos handed none frames weight seen).step = if pos ≥ t.size then m2 t s out 14 pos handed (some false) frames weight (seen.add 16) else
    if (t.getD pos 0 == 10) = true then m2 t s out 16 (pos + 1) handed none frames weight (seen.add 16) else m2 t s out 14 pos handed (some false) frames weight (seen.add 16) := by
  have e : (m2 t s out 14 pos handed none frames weight seen).step = if pos ≥ t.size then m2 t s out 14 pos handed (some false) frames weight (seen.add 16) else litOn (m2 t s out 14 pos handed none frames weight (seen.add 16)) 2 (.ok (t.getD pos 0 == 10, seen.add 16)) := rfl
  rw [e]
  by_cases h : pos ≥ t.size
  · rw [if_pos h, if_pos h]
  · rw [if_neg h, if_neg h]
    cases h2 : (t.getD pos 0 == 10) <;> rfl
theorem lit2_19 : (m2 t s out 19 pos handed none frames weight seen).step = if pos ≥ t.size then m2 t s out 19 pos handed (some false) frames weight (seen.add 16) else
    if (t.getD pos 0 == 10) = true then m2 t s out 21 (pos + 1) handed none frames weight (seen.add 16) else m2 t s out 19 pos handed (some false) frames weight (seen.add 16) := by
  have e : (m2 t s out 19 pos handed none frames weight seen).step = if pos ≥ t.size then m2 t s out 19 pos handed (some false) frames weight (seen.add 16) else litOn (m2 t s out 19 pos handed none frames weight (seen.add 16)) 2 (.ok (t.getD pos 0 == 10, seen.add 16)) := rfl
  rw [e]
  by_cases h : pos ≥ t.size
  · rw [if_pos h, if_pos h]
  · rw [if_neg h, if_neg h]
    cases h2 : (t.getD pos 0 == 10) <;> rfl
theorem lit2_24 : (m2 t s out 24 pos handed none frames weight seen).step = if pos ≥ t.size then m2 t s out 24 pos handed (some false) frames weight (seen.add 16) else
    if (t.getD pos 0 == 13) = true then m2 t s out 26 (pos + 1) handed none frames weight (seen.add 16) else m2 t s out 24 pos handed (some false) frames weight (seen.add 16) := by
  have e : (m2 t s out 24 pos handed none frames weight seen).step = if pos ≥ t.size then m2 t s out 24 pos handed (some false) frames weight (seen.add 16) else litOn (m2 t s out 24 pos handed none frames weight (seen.add 16)) 2 (.ok (t.getD pos 0 == 13, seen.add 16)) := rfl
  rw [e]
  by_cases h : pos ≥ t.size
  · rw [if_pos h, if_pos h]
  · rw [if_neg h, if_neg h]
    cases h2 : (t.getD pos 0 == 13) <;> rfl
theorem lit2_29 : (m2 t s out 29 pos handed none frames weight seen).step = if pos ≥ t.size then m2 t s out 29 pos handed (some false) frames weight (seen.add 16) else
    if (t.getD pos 0 == 10) = true then m2 t s out 31 (pos + 1) handed none frames weight (seen.add 16) else m2 t s out 29 pos handed (some false) frames weight (seen.add 16) := by
  have e : (m2 t s out 29 pos handed none frames weight seen).step = if pos ≥ t.size then m2 t s out 29 pos handed (some false) frames weight (seen.add 16) else litOn (m2 t s out 29 pos handed none frames weight (seen.add 16)) 2 (.ok (t.getD pos 0 == 10, seen.add 16)) := rfl
  rw [e]
  by_cases h : pos ≥ t.size
  · rw [if_pos h, if_pos h]
  · rw [if_neg h, if_neg h]
    cases h2 : (t.getD pos 0 == 10) <;> rfl

theorem br2_0 : (st2 t s seen).step = m2 t s true 12 s s none [b2 11 s, f2 s] 2 (seen.add 7) := rfl
theorem br2_1 {pc p : Nat} {o : Bool} : (m2 t s o pc p handed (some false) [b2 11 s, f2 s] 2 seen).step = m2 t s true 19 s s none [b2 18 s, f2 s] 2 seen := rfl
theorem br2_2 {pc p : Nat} {o : Bool} : (m2 t s o pc p handed (some false) [b2 18 s, f2 s] 2 seen).step = m2 t s true 24 s s none [b2 23 s, f2 s] 2 seen := rfl
theorem jump_16 : (m2 t s out 16 pos handed none frames weight seen).step = m2 t s out 35 pos handed none frames weight (seen.add 15) := rfl
theorem jump_21 : (m2 t s out 21 pos handed none frames weight seen).step = m2 t s out 35 pos handed none frames weight (seen.add 15) := rfl
theorem jump_32 : (m2 t s out 32 pos handed none frames weight seen).step = m2 t s out 35 pos handed none frames weight (seen.add 15) := rfl
theorem yes2 {k : Nat} : ∃ m, M.runFor 4 (m2 t s true 35 pos handed none [b2 k s, f2 s] 2 seen) = m ∧ m.outcome = some .matched ∧ m.start = s ∧ m.handed = pos := ⟨_, rfl, rfl, rfl, rfl⟩
theorem not2 : (m2 t s true 26 pos handed none [b2 23 s, f2 s] 2 seen).step = m2 t s false 29 pos pos none [l2 pos, b2 23 s, f2 s] 3 (seen.add 5) := rfl
theorem no2 {pc p : Nat} : (m2 t s out pc p handed (some false) [l2 pos, b2 23 s, f2 s] 3 seen).step = m2 t s true 32 pos handed none [b2 23 s, f2 s] 2 seen := rfl
end

/-- how long the line end at s is -/
def width2 (t : Array Nat) (s : Nat) : Nat := if t.getD s 0 == 13 && (decide (s + 1 < t.size) && t.getD (s + 1) 0 == 10) then 2 else 1

theorem fin2 {t : Array Nat} {s k pos pos' handed : Nat} {seen : Seen} (e : pos = pos') : (M.runFor 4 (m2 t s true 35 pos handed none [b2 k s, f2 s] 2 seen)).outcome = some .matched ∧ (M.runFor 4 (m2 t s true 35 pos handed none [b2 k s, f2 s] 2 seen)).start = s ∧ (M.runFor 4 (m2 t s true 35 pos handed none [b2 k s, f2 s] 2 seen)).handed = pos' := by
  subst e
  exact ⟨rfl, rfl, rfl⟩

theorem go {m m' r : M} {k : Nat} (h : m.outcome = none) (e : m.step = m') (e' : M.runFor k m' = r) : M.runFor (k + 1) m = r := by
  rw [runFor_step h, e, e']
theorem ite_hit {m a b c : M} {p q : Prop} [Decidable p] [Decidable q] (e : m = if p then a else if q then b else c) (hp : ¬ p) (hq : q) : m = b := by rw [e, if_neg hp, if_pos hq]
theorem ite_out {m a b : M} {p : Prop} [Decidable p] (e : m = if p then a else b) (hp : p) : m = a := by rw [e, if_pos hp]
theorem ite_miss {m a b c : M} {p q : Prop} [Decidable p] [Decidable q] (e : m = if p then a else if q then b else c) (hp : ¬ p) (hq : ¬ q) : m = c := by rw [e, if_neg hp, if_neg hq]

section
variable {t : Array Nat} {s : Nat} {seen : Seen}
theorem run2_a (hs' : ¬ (s ≥ t.size)) (h13 : (t.getD s 0 == 13) = true) (h1' : ¬ (s + 1 ≥ t.size)) (h2 : (t.getD (s + 1) 0 == 10) = true) :
    ∃ k h sn, M.runFor 4 (st2 t s seen) = m2 t s true 35 (s + 1 + 1) h none [b2 k s, f2 s] 2 sn :=
  ⟨_, _, _, go rfl br2_0 (go rfl (ite_hit lit2_12 hs' h13) (go rfl (ite_hit lit2_14 h1' h2) (go rfl jump_16 rfl)))⟩
theorem run2_b (hs' : ¬ (s ≥ t.size)) (h13 : ¬ (t.getD s 0 == 13) = true) (h10 : (t.getD s 0 == 10) = true) :
    ∃ k h sn, M.runFor 5 (st2 t s seen) = m2 t s true 35 (s + 1) h none [b2 k s, f2 s] 2 sn :=
  ⟨_, _, _, go rfl br2_0 (go rfl (ite_miss lit2_12 hs' h13) (go rfl br2_1 (go rfl (ite_hit lit2_19 hs' h10) (go rfl jump_21 rfl))))⟩
theorem run2_c (hs' : ¬ (s ≥ t.size)) (h13 : (t.getD s 0 == 13) = true) (h10 : ¬ (t.getD s 0 == 10) = true) (h1 : (s + 1 ≥ t.size)) :
    ∃ k h sn, M.runFor 11 (st2 t s seen) = m2 t s true 35 (s + 1) h none [b2 k s, f2 s] 2 sn :=
  ⟨_, _, _, go rfl br2_0 (go rfl (ite_hit lit2_12 hs' h13) (go rfl (ite_out lit2_14 h1) (go rfl br2_1 (go rfl (ite_miss lit2_19 hs' h10) (go rfl br2_2
    (go rfl (ite_hit lit2_24 hs' h13) (go rfl not2 (go rfl (ite_out lit2_29 h1) (go rfl no2 (go rfl jump_32 rfl))))))))))⟩
theorem run2_d (hs' : ¬ (s ≥ t.size)) (h13 : (t.getD s 0 == 13) = true) (h10 : ¬ (t.getD s 0 == 10) = true) (h1 : ¬ (s + 1 ≥ t.size)) (h2 : ¬ (t.getD (s + 1) 0 == 10) = true) :
    ∃ k h sn, M.runFor 11 (st2 t s seen) = m2 t s true 35 (s + 1) h none [b2 k s, f2 s] 2 sn :=
  ⟨_, _, _, go rfl br2_0 (go rfl (ite_hit lit2_12 hs' h13) (go rfl (ite_miss lit2_14 h1 h2) (go rfl br2_1 (go rfl (ite_miss lit2_19 hs' h10) (go rfl br2_2
    (go rfl (ite_hit lit2_24 hs' h13) (go rfl not2 (go rfl (ite_miss lit2_29 h1 h2) (go rfl no2 (go rfl jump_32 rfl))))))))))⟩
theorem run2_end {n pos : Nat} (h : ∃ k h sn, M.runFor n (st2 t s seen) = m2 t s true 35 pos h none [b2 k s, f2 s] 2 sn) (hn : n ≤ 16) (e : pos = s + width2 t s) :
    ∃ k m, k ≤ 20 ∧ M.runFor k (st2 t s seen) = m ∧ m.outcome = some .matched ∧ m.start = s ∧ m.handed = s + width2 t s := by
  obtain ⟨k, h, sn, e1⟩ := h
  refine ⟨n + 4, _, by omega, rfl, ?_⟩
  rw [runFor_add, e1]
  exact fin2 e
end

theorem run2 {t : Array Nat} {s : Nat} {seen : Seen} (hs : s < t.size) (hn : nl (t.getD s 0) = true) :
    ∃ k m, k ≤ 20 ∧ M.runFor k (st2 t s seen) = m ∧ m.outcome = some .matched ∧ m.start = s ∧ m.handed = s + width2 t s := by
  have hs' : ¬ (s ≥ t.size) := by omega
  cases h13 : (t.getD s 0 == 13) with
  | true =>
    have h10 : ¬ ((t.getD s 0 == 10) = true) := by
      have : t.getD s 0 = 13 := by simpa using h13
      rw [this]; decide
    cases hx : (decide (s + 1 < t.size) && t.getD (s + 1) 0 == 10) with
    | true =>
      obtain ⟨h1, h2⟩ := (Bool.and_eq_true _ _).mp hx
      have h1' : ¬ (s + 1 ≥ t.size) := by have := of_decide_eq_true h1; omega
      exact run2_end (run2_a hs' h13 h1' h2) (by omega) (by rw [width2, h13, hx]; rfl)
    | false =>
      have w1 : s + 1 = s + width2 t s := by rw [width2, h13, hx]; rfl
      by_cases h1 : s + 1 ≥ t.size
      · exact run2_end (run2_c hs' h13 h10 h1) (by omega) w1
      · have h2 : ¬ ((t.getD (s + 1) 0 == 10) = true) := by
          rw [show decide (s + 1 < t.size) = true from decide_eq_true (by omega), Bool.true_and] at hx
          rw [hx]; decide
        exact run2_end (run2_d hs' h13 h10 h1 h2) (by omega) w1
  | false =>
    have h10 : (t.getD s 0 == 10) = true := by
      unfold nl at hn
      rw [h13, Bool.or_false] at hn
      exact hn
    have h13' : ¬ ((t.getD s 0 == 13) = true) := by rw [h13]; decide
    exact run2_end (run2_b hs' h13' h10) (by omega) (by rw [width2, h13]; rfl)

theorem find2_is {t : Array Nat} : ∀ {n q s : Nat}, q + n = t.size → find2 t n q = some s → s < t.size ∧ nl (t.getD s 0) = true := by
  intro n
  induction n with
  | zero => intro q s _ h; cases h
  | succ n ih =>
    intro q s hq h
    rw [find2] at h
    cases hn : nl (t.getD q 0) with
    | true =>
      rw [hn, if_pos rfl] at h
      cases h
      exact ⟨by omega, hn⟩
    | false =>
      rw [hn] at h
      exact ih (by omega) h

theorem search2 {t : Array Nat} {p : Nat} (hp : p ≤ t.size) : ∃ k m, k ≤ 20 ∧ M.runFor k (forSearch code2 t 0 p t.size false) = m ∧ (match find2 t (t.size - p) p with
      | none => m.outcome = some .failed
      | some i => m.outcome = some .matched ∧ m.start = i ∧ m.handed = i + width2 t i) := by
  by_cases h : p < t.size
  · obtain ⟨seen, e⟩ := forSearch2 h
    rw [e]
    cases hf : find2 t (t.size - p) p with
    | none => exact ⟨1, _, by omega, rfl, rfl⟩
    | some i =>
      obtain ⟨h1, h2⟩ := find2_is (by omega) hf
      obtain ⟨k, m, hk, e', h3⟩ := run2 (seen := seen) h1 h2
      exact ⟨k, m, hk, e', h3⟩
  · have : p = t.size := by omega
    subst this
    refine ⟨1, _, by omega, rfl, ?_⟩
    rw [Nat.sub_self]
    exact forSearch2_end
end Mine
end

-- part RxF
section
open PySem
namespace Mine
theorem slot_re_sub : Slot "re.Pattern" "sub" "re.Pattern.sub" :=
  .of (owner := "re.Pattern") (n := "sub") (by rw [typeLookup_type, builtinLookup_eq_fast]; kernel_rfl) (by decide +kernel) (by decide +kernel) (by decide +kernel)
    (by first | exact .inl (by decide +kernel) | exact .inr (by decide +kernel)) (by rw [isSubtype_type]; kernel_rfl)
theorem entry_re_sub : entryFor table "re.Pattern.sub" = some Builtin.«re.Pattern.sub» := entryFor_of_tree (by kernel_rfl)
theorem entry_re_loop : entryFor table "re.Pattern.sub.loop" = some Builtin.«re.Pattern.sub.loop» := entryFor_of_tree (by kernel_rfl)
theorem owner_re : Manifest.owners.lookup (String.ofList ['n', 'r', 'e', 't', 't', 'a', 'P', '.', 'e', 'r'].reverse) = some Manifest.sig_re_Pattern := by kernel_rfl
theorem args_re_sub (a b c : Value) : argsOk "re.Pattern.sub" ⟨[a, b, c], []⟩ := by
  unfold argsOk; rw [signature?_of (id := "re.Pattern.sub") (n := ['b', 'u', 's']) (o := ['n', 'r', 'e', 't', 't', 'a', 'P', '.', 'e', 'r']) (by kernel_rfl) owner_re]; kernel_rfl
theorem plain_re_loop : plainId "re.Pattern.sub.loop" = true := by decide +kernel
end Mine
end

-- part RxSub
section
open PySem PySem.Builtin PySem.Builtin.Re PyProof.Rows
namespace Mine
section
variable {Md : Model} {A : Around} {E : Value → Shared → Prop} {s : Shared}

theorem wp_reDrive {k : Nat} : ∀ {turns : Nat} {m : Sre.M} {Q : Sre.M → Shared → Prop}, k ≤ 4 * turns → k ≠ 0 → (Sre.M.runFor k m).outcome.isSome = true → Q (Sre.M.runFor k m) s → wpAny Md A (reDrive turns m) Q E s := by
  induction k using Nat.strongRecOn with
  | ind k ih =>
    intro turns m Q hk hk0 ho hQ
    cases turns with
    | zero => omega
    | succ turns =>
      rw [reDrive]
      show wpAny Md A (if ((Sre.M.runFor 4 m).outcome.isSome) = true then pure (Sre.M.runFor 4 m) else do rule "sre.turn"; reDrive turns (Sre.M.runFor 4 m)) Q E s
      by_cases h4 : k ≤ 4
      · have e : Sre.M.runFor 4 m = Sre.M.runFor k m := by
          obtain ⟨j, hj⟩ := Nat.exists_eq_add_of_le h4
          rw [hj, runFor_add, runFor_done ho]
        rw [e, if_pos ho]
        exact wpAny_pure hQ
      · have e : Sre.M.runFor k m = Sre.M.runFor (k - 4) (Sre.M.runFor 4 m) := by rw [← runFor_add]; congr 1; omega
        by_cases hd : ((Sre.M.runFor 4 m).outcome.isSome) = true
        · rw [if_pos hd]
          rw [e, runFor_done hd] at hQ
          exact wpAny_pure hQ
        · rw [if_neg hd]
          refine wpAny_bind (wpAny_rule ?_)
          rw [e] at ho hQ
          exact ih (k - 4) (by omega) (by omega) (by omega) ho hQ

theorem wp_reRunToEnd {m m' : Sre.M} {k : Nat} {Q : Option Sre.M → Shared → Prop} (hk : k ≤ 4 * 2 ^ 64) (hk0 : k ≠ 0) (e : Sre.M.runFor k m = m') 
    (h : (m'.outcome = some .matched ∧ Q (some m') s) ∨ (m'.outcome = some .failed ∧ Q none s)) : wpAny Md A (reRunToEnd m) Q E s := by
  unfold reRunToEnd
  have ho : (Sre.M.runFor k m).outcome.isSome = true := by
    rw [e]; rcases h with h | h <;> rw [h.1] <;> rfl
  refine wpAny_bind (wp_reDrive hk hk0 ho ?_)
  rw [e]
  refine wpAny_bind (wpAny_forIn_list _ (fun _ _ s' => s' = s) _ ?_ ?_ _ _ rfl)
  · rintro x rest b s' rfl
    by_cases hx : m'.seen.has x = true
    · rw [if_pos hx]; exact wpAny_bind (wpAny_rule (wpAny_pure rfl))
    · rw [if_neg hx]; exact wpAny_pure rfl
  · rintro b s' rfl
    rcases h with h | h
    · rw [h.1]; exact wpAny_pure h.2
    · rw [h.1]; exact wpAny_pure h.2

theorem wp_target {a c : Addr} {o oc : Obj} {fs : Array Value} {items : Array Value} {n : Nat} {x : Str} {t : Tok} {Q : ReTarget → Shared → Prop} (ho : s.heap.get? a = some o) (hd : o.data = .fields fs)
    (hc : s.heap.get? c = some oc) (hcd : oc.data = .seq items n) (h2 : fs.getD 2 .none = .int 0 0) (h5 : fs.getD 5 .none = .ref c) (h6 : fs.getD 6 .none = .int 0 0)
    (h : Q { pattern := .ref a, string := .str x t, code := (items.map reRawOf).map (·.toNat), text := x.cps, kind := 0, groups := 0, pos := 0, lim := x.cps.size } s) :
    wpAny Md A (reWholeTarget (.ref a) (.str x t)) Q E s := by
  unfold reWholeTarget
  refine wpAny_bind (wpAny_fieldsOf ho hd ?_)
  unfold reTextOf
  refine wpAny_bind (wpAny_bind (wpAny_pure (wpAny_pure ?_)))
  rw [h6]
  show wpAny Md A (do
    reNoCollectionInside (.str x t) 0
    let l ← reRawItems (fs.getD 5 .none)
    pure { pattern := .ref a, string := .str x t, code := Array.map (fun x => x.toNat) l, text := x.cps, kind := 0, groups := reRawNat (fs.getD 2 .none), pos := 0, lim := x.cps.size }) Q E s
  refine wpAny_bind ?_
  show wpAny Md A (pure ()) _ E s
  refine wpAny_pure ?_
  rw [h5, h2]
  unfold reRawItems
  refine wpAny_bind (wpAny_bind (wpAny_seqItems hc hcd (wpAny_pure (wpAny_pure ?_))))
  exact h

/-- a written pattern: where it lies -/
structure IsPat (hp : Heap) (a : Addr) (code : Array Nat) : Prop where
  made : ∃ o fs c oc items n, hp.get? a = some o ∧ o.cls = .type "re.Pattern" ∧ o.data = .fields fs ∧ hp.get? c = some oc ∧ oc.cls = .type "tuple" ∧ oc.data = .seq items n ∧ fs.getD 2 .none = .int 0 0 ∧ fs.getD 5 .none = .ref c ∧ fs.getD 6 .none = .int 0 0 ∧ (items.map reRawOf).map (·.toNat) = code

theorem wp_targetP {a : Addr} {code : Array Nat} {x : Str} {t : Tok} {Q : ReTarget → Shared → Prop} (hp : IsPat s.heap a code) 
    (h : Q { pattern := .ref a, string := .str x t, code := code, text := x.cps, kind := 0, groups := 0, pos := 0, lim := x.cps.size } s) :
    wpAny Md A (reWholeTarget (.ref a) (.str x t)) Q E s := by
  obtain ⟨o, fs, c, oc, items, n, h1, _, h3, h4, _, h5, h6, h7, h8, rfl⟩ := hp.made
  exact wp_target h1 h3 h4 h5 h6 h7 h8 h
end

section
variable {prog : Program} {w : World} {A : Around} {E : Value → Shared → Prop} {s : Shared}

theorem str_not_callable : typeLookup (.type "str") "__call__" = pure none := by rw [typeLookup_type, builtinLookup_eq_fast]; kernel_rfl

def loopArgs (a : Addr) (x r : Str) (t tr : Tok) (n done start : Int) (l : Addr) : Args :=
  ⟨[.ref a, .str x t, .str r tr, .int 0 0, .int 0 0, .int n 0, .int done 0, .int start 0, .bool false, .ref l, .bool false], []⟩

theorem sub_named (a b : Value) : reNamed "re.Pattern.sub" "sub" ["repl", "string", "count"] 2 [a, b] [] = pure [some a, some b, none] := by rfl

/-- the call, up to the loop -/
theorem sub_enter {a : Addr} {code : Array Nat} {x r : Str} {t tr : Tok} {Q : Value → Shared → Prop} (hp : IsPat s.heap a code) (hr : r.cps.contains 92 = false)
    (h : codeAny (model prog w) A (.builtin "re.Pattern.sub.loop" (loopArgs a x r t tr 0 0 0 s.heap.objs.size)) (fun r s' => match r with | .ok (.ret v) => Q v s' | .ok _ => False | .error e => E e s') { s with heap := s.heap.push { cls := .type "list", data := .seq #[] } }) :
    wpAny (model prog w) A (call (.builtin "re.Pattern.sub") [.ref a, .str r tr, .str x t]) Q E s := by
  have hT : s.TypeIs (.ref a) "re.Pattern" := by
    obtain ⟨o, fs, c, oc, items, n, h1, h2, _⟩ := hp.made
    exact ⟨o, h1, h2⟩
  refine wpAny_call (codeAny_call_builtin slot_re_sub.plain entry_re_sub (slot_re_sub.check _ _ _ _ _ _ _ _ hT (args_re_sub _ _ _) ?_))
  show wpAny (model prog w) A.in1 (reSubstitute "re.Pattern.sub" "sub" false ⟨[.ref a, .str r tr, .str x t], []⟩) _ _ s
  unfold reSubstitute
  refine wpAny_bind (wpAny_of_eq (sub_named _ _) ?_)
  refine wpAny_bind (wpAny_pure ?_)
  refine wpAny_bind (wpAny_specialOf_val (T := "str") rfl str_not_callable ?_)
  refine wpAny_ite_false rfl ?_
  refine wpAny_bind (wpAny_pure ?_)
  refine wpAny_bind (wpAny_pure ?_)
  rw [hr]
  refine wpAny_ite_false rfl ?_
  refine wpAny_ite_true rfl ?_
  refine wpAny_bind (wpAny_pure ?_)
  refine wpAny_bind (wpAny_holding (wp_targetP hp ?_))
  refine wpAny_ite_false rfl ?_
  refine wpAny_bind (wpAny_newList ?_)
  exact wpAny_pure ⟨plainId_quiet plain_re_loop _, h⟩
end
end Mine
end

-- part RxLoop
section
open PySem PySem.Builtin PySem.Builtin.Re PyProof.Rows
namespace Mine

theorem IsPat.but {h h' : Heap} {a l : Addr} {code : Array Nat} {o : Obj} (hp : IsPat h a code) (hs : Heap.SameBut l h h') (hl : h.get? l = some o) (hc : o.cls = .type "list") : IsPat h' a code := by
  obtain ⟨o₁, fs, c, oc, items, n, h1, h2, h3, h4, h4', h5, r⟩ := hp.made
  have ha : a ≠ l := by
    rintro rfl
    rw [h1] at hl; cases hl
    rw [h2] at hc; revert hc; decide
  have hcl : c ≠ l := by
    rintro rfl
    rw [h4] at hl; cases hl
    rw [h4'] at hc; revert hc; decide
  exact ⟨o₁, fs, c, oc, items, n, (hs.2 a ha).trans h1, h2, h3, (hs.2 c hcl).trans h4, h4', h5, r⟩

def textOf (ps : List (Str × Tok)) : List Nat := ps.flatMap fun p => p.1.cps.toList

theorem strValues_push (ps : List (Str × Tok)) (y : Str) (u : Tok) : (strValues ps).toArray.push (.str y u) = (strValues (ps ++ [(y, u)])).toArray := by
  simp [strValues]
theorem textOf_push (ps : List (Str × Tok)) (y : Str) (u : Tok) : textOf (ps ++ [(y, u)]) = textOf ps ++ y.cps.toList := by simp [textOf]

theorem glue_text (acc : Array Nat) (ys : List Str) : ((ys.foldl (fun acc p => acc ++ (#[] : Array Nat) ++ p.cps) acc)).toList = acc.toList ++ ys.flatMap fun y => y.cps.toList := by
  induction ys generalizing acc with
  | nil => simp
  | cons y ys ih => rw [List.foldl_cons, ih]; simp
theorem join_text (ps : List (Str × Tok)) : (Txt.join ⟨(#[] : Array Nat)⟩ (ps.map (·.1))).cps.toList = textOf ps := by
  unfold Txt.join Builtin.Str.glued
  show (((ps.map (·.1)).drop 1).foldl (fun acc p => acc ++ (#[] : Array Nat) ++ p.cps) _).toList = _
  rw [glue_text]
  cases ps with
  | nil => rfl
  | cons q qs => simp [textOf, List.flatMap_map]
theorem total_text (ps : List (Str × Tok)) : ∀ k, (ps.map (·.1)).foldl (fun a (p : Str) => a + p.length + (⟨(#[] : Array Nat)⟩ : Str).length) k = k + (textOf ps).length := by
  induction ps with
  | nil => intro k; rfl
  | cons q qs ih =>
    intro k
    rw [List.map_cons, List.foldl_cons, ih]
    simp [textOf, PySem.Str.length]
    omega
theorem joinOk_of {ps : List (Str × Tok)} (h : (textOf ps).length ≤ 20000) : JoinOk ⟨(#[] : Array Nat)⟩ (ps.map (·.1)) = true := by
  unfold JoinOk Builtin.Str.tooLong
  have e := total_text ps 0
  rw [List.foldl_toArray', e]
  · rw [sizeLine_eq]; simp; omega
  · rfl

section
variable {Md : Model} {A : Around} {E : Value → Shared → Prop} {s : Shared}
theorem wp_push {l : Addr} {ps : List (Str × Tok)} {ep : Nat} {y : Str} {u : Tok} {Q : Unit → Shared → Prop} (hl : s.heap.get? l = some { cls := .type "list", data := .seq (strValues ps).toArray ep })
    (hz : ps.length ≤ 10000) (h : ∀ h' ep', Heap.SameBut l s.heap h' → h'.get? l = some { cls := .type "list", data := .seq (strValues (ps ++ [(y, u)])).toArray ep' } → Q () { s with heap := h' }) :
    wpAny Md A (updateSeq l fun x => x.push (.str y u)) Q E s := by
  have e : (strValues ps).toArray.size ≤ sizeLine := by rw [sizeLine_eq]; simp [strValues]; omega
  refine wpAny_updateSeq hl rfl (h _ (if ((strValues ps).toArray.push (.str y u)).size == (strValues ps).toArray.size then ep else ep + 1) (Heap.SameBut.update _ _ _) ?_) e (by rw [Array.size_push]; exact Nat.succ_le_succ e)
  rw [← strValues_push]
  exact Heap.get?_update_self _ hl rfl

theorem wp_piece {l : Addr} {x : Str} {p i ep : Nat} {ps : List (Str × Tok)} {β : Type} {k : Unit → Sem β} {Q : β → Shared → Prop} (hx : x.cps.size ≤ 1000) (hz : ps.length ≤ 10000) (hl : s.heap.get? l = some { cls := .type "list", data := .seq (strValues ps).toArray ep })
    (h : ∀ ps' h' ep' tk', Heap.SameBut l s.heap h' → h'.get? l = some { cls := .type "list", data := .seq (strValues ps').toArray ep' } → textOf ps' = textOf ps ++ (x.cps.extract p i).toList → ps'.length ≤ ps.length + 1 → wpAny Md A (k ()) Q E { s with heap := h', toks := tk' }) :
    wpAny Md A (if p < i then do
      let v ← reSlice x.cps 0 p i
      let u ← updateSeq l fun x => x.push v
      k u
    else k ()) Q E s := by
  by_cases hpi : p < i
  · rw [if_pos hpi]
    have hs : (⟨x.cps.extract p i⟩ : Str).length ≤ sizeLine := by
      rw [sizeLine_eq]
      show (x.cps.extract p i).size ≤ _
      rw [Array.size_extract]; omega
    refine wpAny_bind (wpAny_mkStr ?_ hs)
    refine wpAny_bind (wp_push (s := { s with toks := s.toks + 1 }) hl hz fun h' ep' hs hl' => ?_)
    exact h _ h' ep' _ hs hl' (textOf_push _ _ _) (by simp)
  · rw [if_neg hpi]
    refine h ps s.heap ep s.toks (Heap.SameBut.refl _ _) hl ?_ (by omega)
    rw [Array.extract_empty_of_stop_le_start (by omega)]
    simp
end

section
variable {prog : Program} {w : World} {A : Around} {E : Value → Shared → Prop}

theorem sub_loop {a l : Addr} {x r : Str} {t tr : Tok} {code : Array Nat} (find : Nat → Option (Nat × Nat)) (out : Nat → List Nat)
    (hfind : ∀ p, p ≤ x.cps.size → ∃ k m, k ≤ 4 * 2 ^ 64 ∧ k ≠ 0 ∧ Sre.M.runFor k (Sre.forSearch code x.cps 0 p x.cps.size false) = m ∧
      (match find p with | none => m.outcome = some .failed | some (i, j) => m.outcome = some .matched ∧ m.start = i ∧ m.handed = j))
    (hout : ∀ p, p ≤ x.cps.size → (match find p with | none => out p = x.cps.toList.drop p | some (i, j) => p ≤ i ∧ i < j ∧ j ≤ x.cps.size ∧ out p = (x.cps.extract p i).toList ++ (r.cps.toList ++ out j)))
    (hx : x.cps.size ≤ 1000) (hr : r.cps.size ≤ 10) {Q : Value → Shared → Prop} :
    ∀ (n p cnt : Nat) (ps : List (Str × Tok)) (ep : Nat) (s : Shared), x.cps.size - p = n → p ≤ x.cps.size → IsPat s.heap a code → s.heap.get? l = some { cls := .type "list", data := .seq (strValues ps).toArray ep } → ps.length ≤ 2 * p → (textOf ps).length ≤ 11 * p →
      (∀ h' tk txt tok, Heap.SameBut l s.heap h' → txt.cps.toList = textOf ps ++ out p → Q (.str txt tok) { s with heap := h', toks := tk }) →
      codeAny (model prog w) A (.builtin "re.Pattern.sub.loop" (loopArgs a x r t tr cnt p p l)) (fun r s' => match r with | .ok (.ret v) => Q v s' | .ok _ => False | .error e => E e s') s := by
  intro n
  induction n using Nat.strongRecOn with
  | ind n ih =>
    intro p cnt ps ep s hn hp hpat hl hps htx hQ
    refine codeAny_builtin entry_re_loop ?_
    rw [Around.under_plainId plain_re_loop]
    unfold Builtin.«re.Pattern.sub.loop» loopArgs
    refine wpAny_bind (wp_targetP hpat ?_)
    refine wpAny_ite_true rfl ?_
    refine wpAny_bind (wpAny_bind (wpAny_pure ?_))
    refine wpAny_ite_false rfl ?_
    refine wpAny_pure ?_
    dsimp only
    refine wpAny_bind (wpAny_ite_false rfl ?_)
    obtain ⟨k, m, hk, hk0, e, hm⟩ := hfind p hp
    have ho := hout p hp
    unfold reNextFound
    refine wp_reRunToEnd hk hk0 e ?_
    cases hf : find p with
    | none =>
      rw [hf] at hm ho
      refine .inr ⟨hm, ?_⟩
      dsimp only
      refine wp_piece hx (by omega) hl fun ps' h' ep' tk' hs hl' ht' hn' => ?_
      rw [Int.toNat_natCast] at ht'
      refine wpAny_bind (wpAny_mkStr ?_ (by rw [sizeLine_eq]; show (x.cps.extract 0 0).size ≤ _; simp))
      refine wpAny_bind (wpAny_seqItems (s := { s with heap := h', toks := tk' + 1 }) hl' rfl ?_)
      have hend : textOf ps' = textOf ps ++ out p := by
        rw [ht', ho]
        congr 1
        rw [Array.toList_extract, List.extract_eq_take_drop]
        exact List.take_of_length_le (by simp)
      have hz : (x.cps.extract 0 0) = #[] := by simp
      cases hps' : ps' with
      | nil =>
        refine wpAny_ite_true (by rfl) (wpAny_bind (wpAny_pure (wpAny_ite_false rfl (wpAny_pure ?_))))
        refine hQ h' _ _ _ hs ?_
        rw [← hend, hps']
        simp [textOf]
      | cons q qs =>
        refine wpAny_ite_false (by rfl) (wpAny_bind ?_)
        rw [hz]
        have htot : (textOf ps').length ≤ 20000 := by
          rw [ht', List.length_append]
          have : (x.cps.extract p x.cps.size).toList.length ≤ 1000 := by rw [Array.length_toList, Array.size_extract]; omega
          omega
        refine SC.join (l := ps') ⟨_, hl', rfl, _, rfl⟩ rfl (joinOk_of htot) fun t' k => ?_
        refine wpAny_ite_false rfl (wpAny_pure ?_)
        refine hQ h' _ _ _ hs ?_
        rw [← hend]
        exact join_text ps'
    | some ij =>
      obtain ⟨i, j⟩ := ij
      rw [hf] at hm ho
      obtain ⟨hm1, hm2, hm3⟩ := hm
      obtain ⟨h1, h2, h3, h4⟩ := ho
      refine .inl ⟨hm1, ?_⟩
      dsimp only
      rw [hm2, hm3]
      refine wp_piece hx (by omega) hl fun ps' h' ep' tk' hs hl' ht' hn' => ?_
      rw [Int.toNat_natCast] at ht'
      refine wpAny_ite_true rfl (wpAny_bind (wpAny_pure ?_))
      refine wpAny_ite_true rfl (wpAny_bind (wp_push (s := { s with heap := h', toks := tk' }) hl' (by omega) fun h'' ep'' hs' hl'' => ?_))
      refine wpAny_pure ⟨plainId_quiet plain_re_loop _, ?_⟩
      have hji : (j == i) = false := by simp; omega
      rw [hji]
      have hlen : (x.cps.extract p i).toList.length ≤ i - p := by
        rw [Array.length_toList, Array.size_extract]; omega
      refine ih (x.cps.size - j) (by omega) j (cnt + 1) (ps' ++ [(r, tr)]) ep'' { s with heap := h'', toks := tk' } rfl h3 ((hpat.but hs hl rfl).but hs' hl' rfl) hl'' ?_ ?_ ?_
      · rw [List.length_append]
        show ps'.length + 1 ≤ _
        omega
      · rw [textOf_push, ht']
        simp only [List.length_append]
        have : r.cps.toList.length ≤ 10 := by simpa using hr
        omega
      · intro h₃ tk₃ txt tok hs₃ ht₃
        refine hQ h₃ tk₃ txt tok ((hs.trans hs').trans hs₃) ?_
        rw [ht₃, textOf_push, ht', h4]
        simp only [List.append_assoc]
end
end Mine
end

-- part RxList
section
open PySem PySem.Builtin PySem.Builtin.Re PyProof.Rows
namespace Mine

/-- every line end as CR LF -/
def crlfL : List Nat → List Nat
  | [] => []
  | [c] => if nl c then [13, 10] else [c]
  | c :: d :: r => if c == 13 && d == 10 then 13 :: 10 :: crlfL r else if nl c then 13 :: 10 :: crlfL (d :: r) else c :: crlfL (d :: r)

theorem crlf_one {c : Nat} (h : nl c = false) (r : List Nat) : crlfL (c :: r) = c :: crlfL r := by
  have h13 : (c == 13) = false := by
    unfold nl at h
    exact (Bool.or_eq_false_iff.mp h).2
  cases r with
  | nil => simp [crlfL, h]
  | cons d r => rw [crlfL, h13, h]; rfl
theorem crlf_skip {b : List Nat} : ∀ {a : List Nat}, (∀ c ∈ a, nl c = false) → crlfL (a ++ b) = a ++ crlfL b
  | [], _ => rfl
  | c :: a, h => by
    rw [List.cons_append, crlf_one (h c (.head _)), crlf_skip fun x hx => h x (.tail _ hx), List.cons_append]
theorem crlf_two (r : List Nat) : crlfL (13 :: 10 :: r) = 13 :: 10 :: crlfL r := by rw [crlfL]; rfl
theorem crlf_nl {c : Nat} {r : List Nat} (h : nl c = true) (h2 : ¬ (c = 13 ∧ r.head? = some 10)) : crlfL (c :: r) = 13 :: 10 :: crlfL r := by
  cases r with
  | nil => simp [crlfL, h]
  | cons d r =>
    have : (c == 13 && d == 10) = false := by
      cases h3 : (c == 13 && d == 10) with
      | false => rfl
      | true =>
        obtain ⟨h4, h5⟩ := (Bool.and_eq_true _ _).mp h3
        exact absurd ⟨by simpa using h4, by simpa using h5⟩ h2
    rw [crlfL, this, h]; rfl

theorem drop_at {t : Array Nat} {q : Nat} (h : q < t.size) : t.toList.drop q = t.getD q 0 :: t.toList.drop (q + 1) := by
  rw [List.drop_eq_getElem_cons (by simpa using h)]
  congr 1
  simp [Array.getD, h]
theorem extract_at {t : Array Nat} {q i : Nat} (h : q < t.size) (hi : q < i) : (t.extract q i).toList = t.getD q 0 :: (t.extract (q + 1) i).toList := by
  rw [Array.toList_extract, List.extract_eq_take_drop, drop_at h, Array.toList_extract, List.extract_eq_take_drop]
  obtain ⟨d, rfl⟩ : ∃ d, i = q + d + 1 := ⟨i - q - 1, by omega⟩
  rw [show q + d + 1 - q = d + 1 by omega, show q + d + 1 - (q + 1) = d by omega, List.take_succ_cons]

theorem find2_out {t : Array Nat} : ∀ {n q : Nat}, q + n = t.size → (match find2 t n q with
    | none => crlfL (t.toList.drop q) = t.toList.drop q
    | some i => q ≤ i ∧ i + width2 t i ≤ t.size ∧ crlfL (t.toList.drop q) = (t.extract q i).toList ++ ([13, 10] ++ crlfL (t.toList.drop (i + width2 t i)))) := by
  intro n
  induction n with
  | zero =>
    intro q h
    have : t.toList.drop q = [] := List.drop_of_length_le (by simp; omega)
    show crlfL (t.toList.drop q) = t.toList.drop q
    rw [this]; rfl
  | succ n ih =>
    intro q h
    have hq : q < t.size := by omega
    rw [find2]
    cases hn : nl (t.getD q 0) with
    | false =>
      have := ih (q := q + 1) (by omega)
      rw [if_neg (by decide)]
      rw [drop_at hq, crlf_one hn]
      cases hf : find2 t n (q + 1) with
      | none => rw [hf] at this; dsimp only at this ⊢; rw [this]
      | some i =>
        rw [hf] at this
        dsimp only at this ⊢
        obtain ⟨h1, h2, h3⟩ := this
        refine ⟨by omega, h2, ?_⟩
        rw [h3, extract_at hq (by omega)]; rfl
    | true =>
      rw [if_pos rfl]
      dsimp only
      have he : (t.extract q q).toList = [] := by simp
      cases hw : (t.getD q 0 == 13 && (decide (q + 1 < t.size) && t.getD (q + 1) 0 == 10)) with
      | true =>
        have hwid : width2 t q = 2 := by unfold width2; rw [hw]; rfl
        obtain ⟨w1, w2⟩ := (Bool.and_eq_true _ _).mp hw
        obtain ⟨w3, w4⟩ := (Bool.and_eq_true _ _).mp w2
        have w5 : q + 1 < t.size := of_decide_eq_true w3
        have e1 : t.getD q 0 = 13 := by simpa using w1
        have e2 : t.getD (q + 1) 0 = 10 := by simpa using w4
        rw [hwid]
        refine ⟨Nat.le_refl _, by omega, ?_⟩
        rw [he, List.nil_append, drop_at hq, drop_at w5, e1, e2, crlf_two]; rfl
      | false =>
        have hwid : width2 t q = 1 := by unfold width2; rw [hw]; rfl
        rw [hwid]
        refine ⟨Nat.le_refl _, by omega, ?_⟩
        rw [he, List.nil_append, drop_at hq, crlf_nl hn]
        · rfl
        · rintro ⟨e1, e2⟩
          by_cases w5 : q + 1 < t.size
          · rw [drop_at w5] at e2
            have e3 : t.getD (q + 1) 0 = 10 := Option.some.inj e2
            rw [e1, e3, decide_eq_true w5] at hw
            cases hw
          · rw [List.drop_of_length_le (by simp; omega)] at e2
            cases e2

/-- a dot more at the head of each line that begins with one -/
def dotsL : Bool → List Nat → List Nat
  | _, [] => []
  | b, c :: r => if b && c == 46 then 46 :: 46 :: dotsL (c == 10) r else c :: dotsL (c == 10) r
def bol (t : Array Nat) (q : Nat) : Bool := q == 0 || t.getD (q - 1) 0 == 10
theorem bol_succ (t : Array Nat) (q : Nat) : bol t (q + 1) = (t.getD q 0 == 10) := by simp [bol]

theorem find1_out {t : Array Nat} : ∀ {n q : Nat}, q + n = t.size → (match find1 t n q with
    | none => dotsL (bol t q) (t.toList.drop q) = t.toList.drop q
    | some i => q ≤ i ∧ i + 1 ≤ t.size ∧ dotsL (bol t q) (t.toList.drop q) = (t.extract q i).toList ++ ([46, 46] ++ dotsL (bol t (i + 1)) (t.toList.drop (i + 1)))) := by
  intro n
  induction n with
  | zero =>
    intro q h
    have : t.toList.drop q = [] := List.drop_of_length_le (by simp; omega)
    show dotsL (bol t q) (t.toList.drop q) = t.toList.drop q
    rw [this]; rfl
  | succ n ih =>
    intro q h
    have hq : q < t.size := by omega
    have hh : isHead t q = (bol t q && t.getD q 0 == 46) := by
      unfold isHead bol
      rw [show decide (q < t.size) = true from decide_eq_true hq, Bool.true_and]
    rw [find1, hh, drop_at hq, dotsL, ← bol_succ]
    cases hn : (bol t q && t.getD q 0 == 46) with
    | false =>
      have := ih (q := q + 1) (by omega)
      rw [if_neg (by decide), if_neg (by decide)]
      cases hf : find1 t n (q + 1) with
      | none => rw [hf] at this; dsimp only at this ⊢; rw [this]
      | some i =>
        rw [hf] at this
        dsimp only at this ⊢
        obtain ⟨h1, h2, h3⟩ := this
        refine ⟨by omega, h2, ?_⟩
        rw [h3, extract_at hq (by omega)]; rfl
    | true =>
      rw [if_pos rfl, if_pos rfl]
      dsimp only
      refine ⟨Nat.le_refl _, by omega, ?_⟩
      have he : (t.extract q q).toList = [] := by simp
      rw [he, List.nil_append]; rfl

section
variable {prog : Program} {w : World} {A : Around} {E : Value → Shared → Prop} {s : Shared}
theorem bump {k : Nat} {m m' : Sre.M} (e : Sre.M.runFor k m = m') (h : m'.outcome.isSome = true) : Sre.M.runFor (k + 1) m = m' := by rw [runFor_add, e, runFor_done h]
theorem two64 : 1000000 ≤ 4 * 2 ^ 64 := by decide
theorem IsPat.push {h : Heap} {a : Addr} {code : Array Nat} (hp : IsPat h a code) (o : Obj) : IsPat (h.push o) a code := by
  obtain ⟨o₁, fs, c, oc, items, n, h1, h2, h3, h4, r⟩ := hp.made
  exact ⟨o₁, fs, c, oc, items, n, Heap.get?_push_of_some _ h1, h2, h3, Heap.get?_push_of_some _ h4, r⟩

theorem sub2 {a : Addr} {x : Str} {t tr : Tok} {Q : Value → Shared → Prop} (hp : IsPat s.heap a code2) (hx : x.cps.size ≤ 1000)
    (h : ∀ h' tk txt tok, Heap.SameBut s.heap.objs.size (s.heap.push { cls := .type "list", data := .seq #[] }) h' → txt.cps.toList = crlfL x.cps.toList → Q (.str txt tok) { s with heap := h', toks := tk }) :
    wpAny (model prog w) A (call (.builtin "re.Pattern.sub") [.ref a, .str (Str.ofString "\r\n") tr, .str x t]) Q E s := by
  refine sub_enter hp (by decide +kernel) ?_
  refine sub_loop (fun p => (find2 x.cps (x.cps.size - p) p).map fun i => (i, i + width2 x.cps i)) (fun p => crlfL (x.cps.toList.drop p)) ?_ ?_ hx (by decide +kernel) x.cps.size 0 0 [] 0 _ rfl (Nat.zero_le _) (hp.push _) (Heap.get?_push_size _ rfl) (Nat.zero_le _) (Nat.zero_le _) ?_
  · intro p hp'
    obtain ⟨k, m, hk, e, hm⟩ := search2 (t := x.cps) hp'
    refine ⟨k + 1, m, by have := two64; omega, by omega, bump e ?_, ?_⟩
    · cases hf : find2 x.cps (x.cps.size - p) p with
      | none => rw [hf] at hm; rw [hm]; rfl
      | some i => rw [hf] at hm; rw [hm.1]; rfl
    · cases hf : find2 x.cps (x.cps.size - p) p with
      | none => rw [hf] at hm; exact hm
      | some i => rw [hf] at hm; exact hm
  · intro p hp'
    have := find2_out (t := x.cps) (n := x.cps.size - p) (q := p) (by omega)
    cases hf : find2 x.cps (x.cps.size - p) p with
    | none => rw [hf] at this; exact this
    | some i =>
      rw [hf] at this
      refine ⟨this.1, ?_, this.2.1, ?_⟩
      · unfold width2; split <;> omega
      · rw [this.2.2]
        rfl
  · intro h' tk txt tok hs ht
    refine h h' tk txt tok hs ?_
    rw [ht]
    rfl

theorem sub1 {a : Addr} {x : Str} {t tr : Tok} {Q : Value → Shared → Prop} (hp : IsPat s.heap a code1) (hx : x.cps.size ≤ 1000)
    (h : ∀ h' tk txt tok, Heap.SameBut s.heap.objs.size (s.heap.push { cls := .type "list", data := .seq #[] }) h' → txt.cps.toList = dotsL true x.cps.toList → Q (.str txt tok) { s with heap := h', toks := tk }) :
    wpAny (model prog w) A (call (.builtin "re.Pattern.sub") [.ref a, .str (Str.ofString "..") tr, .str x t]) Q E s := by
  refine sub_enter hp (by decide +kernel) ?_
  refine sub_loop (fun p => (find1 x.cps (x.cps.size - p) p).map fun i => (i, i + 1)) (fun p => dotsL (bol x.cps p) (x.cps.toList.drop p)) ?_ ?_ hx (by decide +kernel) x.cps.size 0 0 [] 0 _ rfl (Nat.zero_le _) (hp.push _) (Heap.get?_push_size _ rfl) (Nat.zero_le _) (Nat.zero_le _) ?_
  · intro p hp'
    obtain ⟨k, m, hk, e, hm⟩ := search1 (t := x.cps) hp'
    refine ⟨k + 1, m, by have := two64; omega, by omega, bump e ?_, ?_⟩
    · cases hf : find1 x.cps (x.cps.size - p) p with
      | none => rw [hf] at hm; rw [hm]; rfl
      | some i => rw [hf] at hm; rw [hm.1]; rfl
    · cases hf : find1 x.cps (x.cps.size - p) p with
      | none => rw [hf] at hm; exact hm
      | some i => rw [hf] at hm; exact hm
  · intro p hp'
    have := find1_out (t := x.cps) (n := x.cps.size - p) (q := p) (by omega)
    cases hf : find1 x.cps (x.cps.size - p) p with
    | none => rw [hf] at this; exact this
    | some i =>
      rw [hf] at this
      refine ⟨this.1, Nat.lt_succ_self _, this.2.1, ?_⟩
      rw [this.2.2]
      rfl
  · intro h' tk txt tok hs ht
    refine h h' tk txt tok hs ?_
    rw [ht]
    rfl
end
end Mine
end

-- part C1
section
open PySem PySem.W PyProof.Rows PySem.Spec PySem.Calls
namespace Mine
/-- what a def of the text gives back, whatever the caller's frame and ledger -/
abbrev Ctr (lv : Nat) (w : World) (mean : ExcName → Option Value) (mg mb : Str → Option Value) (f : Addr) (vs : List Value) (R : Tok → Value) : Prop :=
  ∀ (dp un : Nat) (gd : Option (List Code)) (cn : Str) (cs : Scope) (a : Addr) (ccd : Value) (cl : List (Str × Addr)) (outer : List Env) (A₀ : Around) (base h₀ : Heap) (L : Addr) (m : Str → Option Value) (news : List (Addr × Obj)) (s : Shared) (Q E : Value → Shared → Prop),
    Below A₀ base outer h₀ → Fr h₀ L s.heap m → (Mine.hd.heap_39 w.params).In h₀ → News h₀ L s.heap news → Top Mine.hd.view_39 (looseW Mine.hd.view_39 [Str.ofString "_twin_re_1", Str.ofString "_twin_re_2"]) mean mg mb h₀ → cs.kind = .function →
    dp + 5 * lv < recursionLimit → un + 40 * lv < cLine →
    (∀ (t : Tok) (h' : Heap) (tk' : Nat), Fr h₀ L h' m → News h₀ L h' news → Q (R t) { s with heap := h', toks := tk' }) →
    wpAny (model PySem.Challenge.rw_pe0020_01.row.prog w) (ktrTop dp un gd cn cs L a ccd cl outer) (call (.ref f) vs) Q E s

def mailT (b d t : Int) (e : Str) (k : Int) : Str :=
  Txt.mul (Str.ofString " ") b ++ Txt.mul (Str.ofString ".") (1 + d) ++ Str.ofString "a" ++ (if t > 0 then Str.ofString "\r\n" else e) ++ Txt.mul (Str.ofString ".") (if k > 0 then k + t else k) ++ Str.ofString " b"

set_option maxHeartbeats 4000000 in
theorem mail_call {w : World} {mean : ExcName → Option Value} {mg mb : Str → Option Value} {b d t k : Int} {e : Str} {tb td tt te tm : Tok} (hb : 0 ≤ b ∧ b ≤ 20) (hd : 0 ≤ d ∧ d ≤ 20) (ht : 0 ≤ t ∧ t ≤ 20) (hm : 0 ≤ k ∧ k ≤ 20) (he : e.length ≤ 2) :
    Ctr 1 w mean mg mb 69 [.int b tb, .int d td, .int t tt, .str e te, .int k tm] (fun u => .str (mailT b d t e k) u) := by
  dsimp only [Ctr]
  k_fill
  intro dp un gd cn cs a ccd cl outer A₀ base h₀ L m news s Q E B F X N T hk hdp hun hret
  refine wpAny_call ?_
  k_dflt cell_enter
  k_steps
  all_goals (refine cb_retS (Q := Q) hret ?_ (by k_asm) (by k_asm); (simp only [decide_eq_true_eq, decide_eq_false_iff_not] at *); unfold mailT; simp only [*, if_true, if_false])
end Mine
end

-- part C2
section
open PySem PySem.W PyProof.Rows PySem.Spec PySem.Calls
namespace Mine
theorem plainAttrs_re : PlainAttrs "re.Pattern" :=
  ⟨⟨"object.__getattribute__", by rw [typeLookup_type, builtinLookup_eq_fast]; kernel_rfl, by decide +kernel⟩, by rw [typeLookup_type, builtinLookup_eq_fast]; kernel_rfl⟩
theorem type_re_sub : typeOf (.builtin "re.Pattern.sub") = pure (.type "method_descriptor") := by show builtinType _ = _; rw [builtinType_eq_fast]; kernel_rfl

theorem pat1 {w : World} {h : Heap} (X : (Mine.hd.heap_39 w.params).In h) : IsPat h 43 code1 := ⟨_, _, 42, _, _, _, X 43 _ rfl, rfl, rfl, X 42 _ rfl, rfl, rfl, rfl, rfl, rfl, by decide +kernel⟩
theorem pat2 {w : World} {h : Heap} (X : (Mine.hd.heap_39 w.params).In h) : IsPat h 48 code2 := ⟨_, _, 47, _, _, _, X 48 _ rfl, rfl, rfl, X 47 _ rfl, rfl, rfl, rfl, rfl, rfl, by decide +kernel⟩

section
variable {prog : Program} {w : World} {A : Around} {E : Value → Shared → Prop} {s : Shared} {h₀ : Heap} {L : Addr} {m : Str → Option Value} {news : List (Addr × Obj)} {pl : Sem Bool}
theorem re_get1 {Q : Value × List Value → Shared → Prop} (F : Fr h₀ L s.heap m) (X : (Mine.hd.heap_39 w.params).In h₀) (h : Q (.builtin "re.Pattern.sub", [.ref 43]) s) : wpAny (model prog w) A (getMethod (.ref 43) (Str.ofString "sub") pl) Q E s := by
  have X' := X.keeps F.keep
  exact getMethod_builtin (T := "re.Pattern") ⟨_, X' 43 _ rfl, rfl⟩ plainAttrs_re slot_re_sub type_re_sub (fun a e => by cases e; exact ⟨_, X' 43 _ rfl, rfl⟩) h
theorem re_get2 {Q : Value × List Value → Shared → Prop} (F : Fr h₀ L s.heap m) (X : (Mine.hd.heap_39 w.params).In h₀) (h : Q (.builtin "re.Pattern.sub", [.ref 48]) s) : wpAny (model prog w) A (getMethod (.ref 48) (Str.ofString "sub") pl) Q E s := by
  have X' := X.keeps F.keep
  exact getMethod_builtin (T := "re.Pattern") ⟨_, X' 48 _ rfl, rfl⟩ plainAttrs_re slot_re_sub type_re_sub (fun a e => by cases e; exact ⟨_, X' 48 _ rfl, rfl⟩) h
theorem re_sub1 {x : Str} {t tr : Tok} {Q : Value → Shared → Prop} (F : Fr h₀ L s.heap m) (N : News h₀ L s.heap news) (X : (Mine.hd.heap_39 w.params).In h₀) (hx : x.length ≤ 1000)
    (h : ∀ h' tk' tok, Fr h₀ L h' m → News h₀ L h' news → Q (.str ⟨(dotsL true x.cps.toList).toArray⟩ tok) { s with heap := h', toks := tk' }) :
    wpAny (model prog w) A (call (.builtin "re.Pattern.sub") [.ref 43, .str (Str.ofString "..") tr, .str x t]) Q E s := by
  refine sub1 (pat1 (X.keeps F.keep)) hx fun h' tk txt tok hs ht => ?_
  have e : txt = ⟨(dotsL true x.cps.toList).toArray⟩ := by
    cases txt with
    | mk c => congr 1; rw [← ht]
  subst e
  exact h h' tk tok (F.filled hs) (fun p hp => ⟨(hs.2 _ (Nat.ne_of_lt (Heap.lt_size (N p hp).1))).trans (Heap.get?_push_of_some _ (N p hp).1), (N p hp).2⟩)
theorem re_sub2 {x : Str} {t tr : Tok} {Q : Value → Shared → Prop} (F : Fr h₀ L s.heap m) (N : News h₀ L s.heap news) (X : (Mine.hd.heap_39 w.params).In h₀) (hx : x.length ≤ 1000)
    (h : ∀ h' tk' tok, Fr h₀ L h' m → News h₀ L h' news → Q (.str ⟨(crlfL x.cps.toList).toArray⟩ tok) { s with heap := h', toks := tk' }) :
    wpAny (model prog w) A (call (.builtin "re.Pattern.sub") [.ref 48, .str (Str.ofString "\r\n") tr, .str x t]) Q E s := by
  refine sub2 (pat2 (X.keeps F.keep)) hx fun h' tk txt tok hs ht => ?_
  have e : txt = ⟨(crlfL x.cps.toList).toArray⟩ := by
    cases txt with
    | mk c => congr 1; rw [← ht]
  subst e
  exact h h' tk tok (F.filled hs) (fun p hp => ⟨(hs.2 _ (Nat.ne_of_lt (Heap.lt_size (N p hp).1))).trans (Heap.get?_push_of_some _ (N p hp).1), (N p hp).2⟩)
end

theorem crlf_len : ∀ x : List Nat, (crlfL x).length ≤ 2 * x.length
  | [] => Nat.le_refl _
  | [c] => by rw [crlfL]; split <;> simp
  | c :: d :: r => by
    have h1 := crlf_len r
    have h2 := crlf_len (d :: r)
    rw [crlfL]
    simp only [List.length_cons] at *
    split
    · simp only [List.length_cons]; omega
    · split <;> simp only [List.length_cons] <;> omega

def quoteT (x : Str) : Str := ⟨(dotsL true (crlfL x.cps.toList)).toArray⟩

local macro_rules | `(tactic| walk_at "getMethod ref") => `(tactic| (k_here; k_dflt (first | (refine re_get1 (by k_asm) (by k_asm) ?_) | (refine re_get2 (by k_asm) (by k_asm) ?_))))
theorem crlf_fits {x : Str} (h : x.length ≤ 400) : Str.length ⟨(crlfL x.cps.toList).toArray⟩ ≤ 1000 := by
  have h1 := crlf_len x.cps.toList
  have h2 : x.cps.toList.length ≤ 400 := by simpa [Str.length] using h
  show (crlfL x.cps.toList).toArray.size ≤ 1000
  rw [List.size_toArray]; omega
local macro_rules | `(tactic| walk_at "call builtin:re.Pattern.sub") => `(tactic| (k_here; k_dflt (first | (refine' re_sub1 ?k1 ?k2 ?k3 ?kx ?_) | (refine' re_sub2 ?k1 ?k2 ?k3 ?kx ?_)); (case k1 => k_asm); (case k2 => k_asm); (case k3 => k_asm); (case kx => first | omega | exact crlf_fits (by k_asm)); intro h' tk' tok F' N'))

set_option maxHeartbeats 4000000 in
theorem quote_call {w : World} {mean : ExcName → Option Value} {mg mb : Str → Option Value} {x : Str} {tx : Tok} (hx : x.length ≤ 400) :
    Ctr 1 w mean mg mb 55 [.str x tx] (fun u => .str (quoteT x) u) := by
  dsimp only [Ctr]
  k_fill
  intro dp un gd cn cs a ccd cl outer A₀ base h₀ L m news s Q E B F X N T hk hdp hun hret
  refine wpAny_call ?_
  k_dflt cell_enter
  k_steps
  all_goals exact cb_retS (Q := Q) hret rfl (by k_asm) (by k_asm)
end Mine
end

-- part C3
section
open PySem PySem.W PyProof.Rows PySem.Spec PySem.Calls
namespace Mine
local macro_rules | `(tactic| walk_at "exec While BoolOp") => `(tactic| (k_here; k_dflt (refine whl_start 3 ?_)))
local macro_rules | `(tactic| walk_at "exec While") => `(tactic| (k_here; k_dflt (refine whl_start 3 ?_)))
def stripT (x : Str) : Str :=
  if (Txt.item x 0 == Str.ofString " ") = true then Txt.slice x (some (0 + 1)) (some ((x.length : Int) - 1 + 1))
  else if (Txt.item x ((x.length : Int) - 1) == Str.ofString " ") = true then Txt.slice x (some 0) (some ((x.length : Int) - 1 - 1 + 1))
  else Txt.slice x (some 0) (some ((x.length : Int) - 1 + 1))

set_option maxHeartbeats 4000000 in
theorem strip_call {w : World} {mean : ExcName → Option Value} {mg mb : Str → Option Value} {x : Str} {tx t1 : Tok} (hx : x.length ≤ 400) (h0 : 0 < x.length) :
    Ctr 1 w mean mg mb 38 [.str x tx, .int 1 t1] (fun u => .str (stripT x) u) := by
  dsimp only [Ctr]
  k_fill
  intro dp un gd cn cs a ccd cl outer A₀ base h₀ L m news s Q E B F X N T hk hdp hun hret
  refine wpAny_call ?_
  k_dflt cell_enter
  k_steps
  all_goals (refine cb_retS (Q := Q) hret ?_ (by k_asm) (by k_asm); unfold stripT; simp only [*, if_true, if_false, Bool.false_eq_true])
end Mine
end

-- part C4
section
open PySem PySem.W PyProof.Rows PySem.Spec PySem.Calls
namespace Mine
theorem dots_len : ∀ (b : Bool) (x : List Nat), (dotsL b x).length ≤ 2 * x.length
  | _, [] => Nat.le_refl _
  | b, c :: r => by
    have h := dots_len (c == 10) r
    rw [dotsL]
    simp only [List.length_cons] at *
    split <;> simp only [List.length_cons] <;> omega
theorem dots_pos : ∀ (b : Bool) (x : List Nat), 0 < x.length → 0 < (dotsL b x).length
  | _, [], h => h
  | b, c :: r, _ => by rw [dotsL]; split <;> simp
theorem crlf_pos : ∀ x : List Nat, 0 < x.length → 0 < (crlfL x).length
  | [], h => h
  | [c], _ => by rw [crlfL]; split <;> simp
  | c :: d :: r, _ => by rw [crlfL]; split <;> (try split) <;> simp
theorem quote_le {x : Str} (h : x.length ≤ 100) : (quoteT x).length ≤ 400 := by
  have h1 := crlf_len x.cps.toList
  have h2 := dots_len true (crlfL x.cps.toList)
  have h3 : x.cps.toList.length ≤ 100 := by simpa [Str.length] using h
  show (dotsL true (crlfL x.cps.toList)).toArray.size ≤ 400
  rw [List.size_toArray]; omega
theorem quote_pos {x : Str} (h : 0 < x.length) : 0 < (quoteT x).length := by
  show 0 < (dotsL true (crlfL x.cps.toList)).toArray.size
  rw [List.size_toArray]
  exact dots_pos _ _ (crlf_pos _ (by simpa [Str.length] using h))

local macro_rules | `(tactic| walk_at "call ref") => `(tactic| (k_here; (with_reducible show wpAny _ _ (call (Value.ref 55) _) _ _ _); k_dflt (refine' quote_call ?kx _ _ _ _ _ _ _ _ _ _ _ _ _ _ _ _ _ _ ?k1 ?k2 ?k3 ?k4 ?k5 ?kK ?kd ?ku ?_); (case kx => omega); (case k1 => k_asm); (case k2 => k_asm); (case k3 => k_asm); (case k4 => k_asm); (case k5 => k_asm); (case kK => exact rfl); (case kd => ktr_room); (case ku => ktr_units); intro t9 h9 tk9 F9 N9; (try dsimp only); (try k_fold)))
local macro_rules | `(tactic| walk_at "call ref") => `(tactic| (k_here; (with_reducible show wpAny _ _ (call (Value.ref 38) _) _ _ _); k_dflt (refine' strip_call ?kx ?k0 _ _ _ _ _ _ _ _ _ _ _ _ _ _ _ _ _ _ ?k1 ?k2 ?k3 ?k4 ?k5 ?kK ?kd ?ku ?_); (case kx => exact quote_le (by omega)); (case k0 => exact quote_pos (by omega)); (case k1 => k_asm); (case k2 => k_asm); (case k3 => k_asm); (case k4 => k_asm); (case k5 => k_asm); (case kK => exact rfl); (case kd => ktr_room); (case ku => ktr_units); intro t9 h9 tk9 F9 N9; (try dsimp only); (try k_fold)))
set_option maxHeartbeats 4000000 in
theorem done_call0 {w : World} {mean : ExcName → Option Value} {mg mb : Str → Option Value} {x : Str} {tx t1 : Tok} (hx : x.length ≤ 100) (h0 : 0 < x.length) :
    Ctr 2 w mean mg mb 62 [.str x tx, .int 0 t1] (fun u => .str (Str.ofString " " ++ x) u) := by
  dsimp only [Ctr]
  k_fill
  intro dp un gd cn cs a ccd cl outer A₀ base h₀ L m news s Q E B F X N T hk hdp hun hret
  refine wpAny_call ?_
  k_dflt cell_enter
  k_steps
  all_goals exact cb_retS (Q := Q) hret rfl (by k_asm) (by k_asm)
set_option maxHeartbeats 4000000 in
theorem done_call1 {w : World} {mean : ExcName → Option Value} {mg mb : Str → Option Value} {x : Str} {tx t1 : Tok} (hx : x.length ≤ 100) (h0 : 0 < x.length) :
    Ctr 2 w mean mg mb 62 [.str x tx, .int 1 t1] (fun u => .str (stripT (quoteT x)) u) := by
  dsimp only [Ctr]
  k_fill
  intro dp un gd cn cs a ccd cl outer A₀ base h₀ L m news s Q E B F X N T hk hdp hun hret
  refine wpAny_call ?_
  k_dflt cell_enter
  k_steps
  all_goals exact cb_retS (Q := Q) hret rfl (by k_asm) (by k_asm)
end Mine
end

-- part M1
section
open PySem PySem.W PyProof.Rows
namespace Mine
def Ending (e : Str) : Prop := e = Str.ofString "\n" ∨ e = Str.ofString "\r" ∨ e = Str.ofString "\r\n"
theorem Ending.len {e : Str} (h : Ending e) : e.length ≤ 2 := by rcases h with rfl | rfl | rfl <;> decide
theorem str_ext {x y : Str} (h : x.cps.toList = y.cps.toList) : x = y := by
  cases x; cases y; congr 1; exact Array.toList_inj.mp h

theorem foldl_app (c : Nat) : ∀ (n : Nat) (acc : Array Nat), ((List.replicate n (#[c] : Array Nat)).foldl (· ++ ·) acc).toList = acc.toList ++ List.replicate n c
  | 0, acc => by simp
  | n + 1, acc => by rw [List.replicate_succ, List.foldl_cons, foldl_app c n]; simp [List.replicate_succ]

theorem mul_list {x : Str} {c : Nat} (hx : x.cps = #[c]) (n : Int) : (Txt.mul x n).cps.toList = List.replicate n.toNat c := by
  unfold Txt.mul
  by_cases h : n < 1
  · rw [if_pos h, show n.toNat = 0 by omega]; rfl
  · rw [if_neg h]
    by_cases h1 : (n == 1 || x.length == 0) = true
    · rw [if_pos h1]
      have : n = 1 := by
        rcases (Bool.or_eq_true _ _).mp h1 with h | h
        · simpa using h
        · have : x.length = 1 := by show x.cps.size = 1; rw [hx]; rfl
          rw [this] at h; cases h
      rw [this, hx]; rfl
    · rw [if_neg h1, hx]
      show ((List.replicate n.toNat (#[c] : Array Nat)).foldl (· ++ ·) #[]).toList = _
      rw [foldl_app]; rfl

def mailL (b d t : Nat) (e : List Nat) (k : Nat) : List Nat :=
  List.replicate b 32 ++ (List.replicate (1 + d) 46 ++ (97 :: ((if t > 0 then [13, 10] else e) ++ (List.replicate (if k > 0 then k + t else k) 46 ++ [32, 98]))))

theorem mailT_list {b d t k : Int} {e : Str} (hd : 0 ≤ d) (ht : 0 ≤ t) (hk : 0 ≤ k) : (mailT b d t e k).cps.toList = mailL b.toNat d.toNat t.toNat e.cps.toList k.toNat := by
  have e1 : (1 + d).toNat = 1 + d.toNat := by omega
  have c1 : (Str.ofString "a").cps.toList = [97] := by decide +kernel
  have c2 : (Str.ofString " b").cps.toList = [32, 98] := by decide +kernel
  have c3 : (Str.ofString "\r\n").cps.toList = [13, 10] := by decide +kernel
  have m1 := mul_list (x := Str.ofString " ") (c := 32) (by decide +kernel)
  have m2 := mul_list (x := Str.ofString ".") (c := 46) (by decide +kernel)
  unfold mailT mailL
  simp only [Str.cps_append, Array.toList_append, m1, m2, c1, c2, e1]
  have h1 : (if t > 0 then Str.ofString "\r\n" else e).cps.toList = if t.toNat > 0 then [13, 10] else e.cps.toList := by
    by_cases h : t > 0
    · rw [if_pos h, if_pos (by omega), c3]
    · rw [if_neg h, if_neg (by omega)]
  have h2 : (if k > 0 then k + t else k).toNat = if k.toNat > 0 then k.toNat + t.toNat else k.toNat := by
    by_cases h : k > 0
    · rw [if_pos h, if_pos (by omega)]; omega
    · rw [if_neg h, if_neg (by omega)]
  rw [h1, h2]
  simp

def EndL (e : List Nat) : Prop := e = [10] ∨ e = [13] ∨ e = [13, 10]

theorem crlf_tail (n : Nat) : crlfL (List.replicate n 46 ++ [32, 98]) = List.replicate n 46 ++ [32, 98] := by
  have := crlf_skip (a := List.replicate n 46 ++ [32, 98]) (b := []) (by
    intro c hc
    rcases List.mem_append.mp hc with h | h
    · rw [(List.mem_replicate.mp h).2]; rfl
    · simp at h; rcases h with rfl | rfl <;> rfl)
  simpa [crlfL] using this
theorem head_tail (n : Nat) : (List.replicate n 46 ++ [32, 98]).head? ≠ some 10 := by
  cases n with
  | zero => simp
  | succ n => simp [List.replicate_succ]
theorem crlf_mail {b d t k : Nat} {e : List Nat} (he : EndL e) : crlfL (mailL b d t e k) =
    List.replicate b 32 ++ (List.replicate (1 + d) 46 ++ (97 :: 13 :: 10 :: (List.replicate (if k > 0 then k + t else k) 46 ++ [32, 98]))) := by
  unfold mailL
  generalize (if k > 0 then k + t else k) = n
  have he' : EndL (if t > 0 then [13, 10] else e) := by
    split
    · exact .inr (.inr rfl)
    · exact he
  generalize (if t > 0 then [13, 10] else e) = e' at he'
  rw [crlf_skip (by intro c hc; rw [(List.mem_replicate.mp hc).2]; rfl), crlf_skip (by intro c hc; rw [(List.mem_replicate.mp hc).2]; rfl), crlf_one (by rfl)]
  rcases he' with rfl | rfl | rfl
  · rw [List.singleton_append, crlf_nl (by rfl) (by rintro ⟨h, _⟩; cases h), crlf_tail]
  · rw [List.singleton_append, crlf_nl (by rfl) (by rintro ⟨_, h⟩; exact head_tail n h), crlf_tail]
  · rw [show [13, 10] ++ (List.replicate n 46 ++ [32, 98]) = 13 :: 10 :: (List.replicate n 46 ++ [32, 98]) from rfl, crlf_two, crlf_tail]

theorem dots_plain {c : Nat} (hc : c ≠ 46) (b : Bool) (r : List Nat) : dotsL b (c :: r) = c :: dotsL (c == 10) r := by
  rw [dotsL]
  have : (b && c == 46) = false := by simp [hc]
  rw [this]; rfl
theorem dots_off (c : Nat) (r : List Nat) : dotsL false (c :: r) = c :: dotsL (c == 10) r := by
  rw [dotsL]; rfl
theorem dots_skip {r : List Nat} : ∀ {a : List Nat}, (∀ c ∈ a, c ≠ 10) → dotsL false (a ++ r) = a ++ dotsL false r
  | [], _ => rfl
  | c :: a, h => by
    have : (c == 10) = false := by simpa using h c (.head _)
    rw [List.cons_append, dots_off, this, dots_skip fun x hx => h x (.tail _ hx), List.cons_append]
theorem dots_dot (r : List Nat) : dotsL true (46 :: r) = 46 :: 46 :: dotsL false r := by rw [dotsL]; rfl

theorem dots_rest (n : Nat) : dotsL true (List.replicate n 46 ++ [32, 98]) = List.replicate (if n > 0 then n + 1 else 0) 46 ++ [32, 98] := by
  cases n with
  | zero => rfl
  | succ n =>
    rw [if_pos (by omega), List.replicate_succ, List.cons_append, dots_dot, dots_skip (by intro c hc; rw [(List.mem_replicate.mp hc).2]; decide)]
    rfl
theorem dots_mid (d n : Nat) : dotsL false (List.replicate d 46 ++ (97 :: 13 :: 10 :: (List.replicate n 46 ++ [32, 98]))) = List.replicate d 46 ++ (97 :: 13 :: 10 :: (List.replicate (if n > 0 then n + 1 else 0) 46 ++ [32, 98])) := by
  rw [dots_skip (by intro c hc; rw [(List.mem_replicate.mp hc).2]; decide), dots_off]
  rw [show ((97 : Nat) == 10) = false from rfl, dots_off, show ((13 : Nat) == 10) = false from rfl, dots_off, show ((10 : Nat) == 10) = true from rfl, dots_rest]

theorem quote_list {b d t k : Nat} {e : List Nat} (he : EndL e) : dotsL true (crlfL (mailL b d t e k)) = if b > 0 then mailL b d (t + 1) e k else mailL 0 (d + 1) (t + 1) e k := by
  rw [crlf_mail he]
  have hn : (if (if k > 0 then k + t else k) > 0 then (if k > 0 then k + t else k) + 1 else 0) = if k > 0 then k + (t + 1) else k := by
    by_cases h : k > 0
    · rw [if_pos h, if_pos h, if_pos (by omega)]; omega
    · rw [if_neg h, if_neg h, if_neg h]; omega
  have ht : t + 1 > 0 := by omega
  unfold mailL
  rw [if_pos ht, ← hn]
  generalize (if k > 0 then k + t else k) = n
  cases b with
  | zero =>
    rw [if_neg (Nat.lt_irrefl 0), Nat.add_comm 1 d, List.replicate_succ, List.replicate_zero, List.nil_append, List.cons_append, dots_dot, dots_mid, show 1 + (d + 1) = d + 1 + 1 by omega, List.replicate_succ, List.replicate_succ]; rfl
  | succ b =>
    rw [if_pos (Nat.succ_pos b), List.replicate_succ, List.cons_append, dots_plain (by decide), show ((32 : Nat) == 10) = false from rfl, dots_skip (by intro c hc; rw [(List.mem_replicate.mp hc).2]; decide), dots_mid]; rfl

theorem Ending.list {e : Str} (h : Ending e) : EndL e.cps.toList := by
  rcases h with rfl | rfl | rfl
  · exact .inl (by decide +kernel)
  · exact .inr (.inl (by decide +kernel))
  · exact .inr (.inr (by decide +kernel))

/-- the first sign, if it is a blank, is taken off -/
theorem item0 {x : Str} {c : Nat} {r : List Nat} (h : x.cps.toList = c :: r) : (Txt.item x 0 == Str.ofString " ") = (c == 32) := by
  have hl : x.length = r.length + 1 := by show x.cps.size = _; rw [← Array.length_toList, h]; rfl
  have h1 : Txt.item x 0 = ⟨#[c]⟩ := by
    unfold Txt.item Txt.charAt seqIndex?
    have : (decide ((0 : Int) ≤ 0) && decide ((0 : Int) < (x.length : Int))) = true := by simp; omega
    simp only [show ¬ ((0 : Int) < 0) by decide, if_false, this, if_true]
    have h2 : x.cps[0]? = some c := by
      rw [← Array.getElem?_toList, h]; rfl
    show (⟨#[(x.cps[0]?).getD 0]⟩ : Str) = _
    rw [h2]; rfl
  rw [h1, Bool.eq_iff_iff]
  have h3 : Str.ofString " " = ⟨#[32]⟩ := by decide +kernel
  rw [h3]
  simp
theorem itemL {x : Str} {c : Nat} {r : List Nat} (h : x.cps.toList = r ++ [c]) : (Txt.item x ((x.length : Int) - 1) == Str.ofString " ") = (c == 32) := by
  have hl : x.length = r.length + 1 := by show x.cps.size = _; rw [← Array.length_toList, h]; simp
  have h1 : Txt.item x ((x.length : Int) - 1) = ⟨#[c]⟩ := by
    unfold Txt.item Txt.charAt seqIndex?
    have e0 : ¬ ((x.length : Int) - 1 < 0) := by omega
    have : (decide ((0 : Int) ≤ (x.length : Int) - 1) && decide ((x.length : Int) - 1 < (x.length : Int))) = true := by simp; omega
    simp only [e0, if_false, this, if_true]
    have h2 : x.cps[((x.length : Int) - 1).toNat]? = some c := by
      rw [← Array.getElem?_toList, h, show ((x.length : Int) - 1).toNat = r.length by omega]; simp
    show (⟨#[(x.cps[((x.length : Int) - 1).toNat]?).getD 0]⟩ : Str) = _
    rw [h2]; rfl
  rw [h1, Bool.eq_iff_iff]
  have h3 : Str.ofString " " = ⟨#[32]⟩ := by decide +kernel
  rw [h3]
  simp
theorem strip_blank {x : Str} {r : List Nat} (h : x.cps.toList = 32 :: r) : (stripT x).cps.toList = r := by
  have hl : x.length = r.length + 1 := by show x.cps.size = _; rw [← Array.length_toList, h]; rfl
  unfold stripT
  rw [item0 h, if_pos (by rfl)]
  have e := eq_of_beq (slice_closesL (x := x) (i := 0 + 1) (j := (x.length : Int) - 1 + 1) (by omega) (by omega) (by omega))
  rw [e, h]
  show (List.take _ r) = r
  exact List.take_of_length_le (by omega)
theorem strip_none {x : Str} {a c : Nat} {r q : List Nat} (h : x.cps.toList = a :: r) (h' : x.cps.toList = q ++ [c]) (ha : a ≠ 32) (hc : c ≠ 32) : stripT x = x := by
  have hl : x.length = r.length + 1 := by show x.cps.size = _; rw [← Array.length_toList, h]; rfl
  unfold stripT
  rw [item0 h, itemL h', if_neg (by simpa using ha), if_neg (by simpa using hc)]
  have e := eq_of_beq (slice_closesL (x := x) (i := 0) (j := (x.length : Int) - 1 + 1) (by omega) (by omega) (by omega))
  rw [e]
  apply str_ext
  show (List.take _ (List.drop 0 x.cps.toList)) = _
  exact List.take_of_length_le (by rw [List.drop_zero, h, List.length_cons]; omega)

theorem mailL_last (b d t k : Nat) (e : List Nat) : ∃ q, mailL b d t e k = q ++ [98] := by
  unfold mailL
  exact ⟨List.replicate b 32 ++ (List.replicate (1 + d) 46 ++ (97 :: ((if t > 0 then [13, 10] else e) ++ (List.replicate (if k > 0 then k + t else k) 46 ++ [32])))), by simp⟩

section
variable {b d t k : Int} {e : Str}
theorem mail_put (hb : 0 ≤ b) (hd : 0 ≤ d) (ht : 0 ≤ t) (hk : 0 ≤ k) : Str.ofString " " ++ mailT b d t e k = mailT (b + 1) d t e k := by
  apply str_ext
  rw [Str.cps_append, Array.toList_append, mailT_list hd ht hk, mailT_list hd ht hk, show (b + 1).toNat = b.toNat + 1 by omega, show (Str.ofString " ").cps.toList = [32] by decide +kernel]
  unfold mailL
  rw [List.replicate_succ]; rfl
theorem quote_mailT (he : Ending e) (hd : 0 ≤ d) (ht : 0 ≤ t) (hk : 0 ≤ k) : (quoteT (mailT b d t e k)).cps.toList = if b > 0 then mailL b.toNat d.toNat (t.toNat + 1) e.cps.toList k.toNat else mailL 0 (d.toNat + 1) (t.toNat + 1) e.cps.toList k.toNat := by
  unfold quoteT
  show dotsL true (crlfL (mailT b d t e k).cps.toList) = _
  rw [mailT_list hd ht hk, quote_list he.list]
  by_cases h : b > 0
  · rw [if_pos h, if_pos (by omega)]
  · rw [if_neg h, if_neg (by omega)]
theorem mail_take (he : Ending e) (hb : 0 < b) (hd : 0 ≤ d) (ht : 0 ≤ t) (hk : 0 ≤ k) : stripT (quoteT (mailT b d t e k)) = mailT (b - 1) d (t + 1) e k := by
  apply str_ext
  have h := quote_mailT (b := b) he hd ht hk
  rw [if_pos hb] at h
  have h' : (quoteT (mailT b d t e k)).cps.toList = 32 :: mailL (b.toNat - 1) d.toNat (t.toNat + 1) e.cps.toList k.toNat := by
    rw [h]
    obtain ⟨n, hn⟩ : ∃ n, b.toNat = n + 1 := ⟨b.toNat - 1, by omega⟩
    rw [hn]
    unfold mailL
    rw [List.replicate_succ]; rfl
  rw [strip_blank h', mailT_list hd (by omega) hk, show (b - 1).toNat = b.toNat - 1 by omega, show (t + 1).toNat = t.toNat + 1 by omega]
theorem mail_dot (he : Ending e) (hb : b = 0) (hd : 0 ≤ d) (ht : 0 ≤ t) (hk : 0 ≤ k) : stripT (quoteT (mailT b d t e k)) = mailT 0 (d + 1) (t + 1) e k := by
  have h := quote_mailT (b := b) he hd ht hk
  rw [if_neg (by omega)] at h
  obtain ⟨q, hq⟩ := mailL_last 0 (d.toNat + 1) (t.toNat + 1) k.toNat e.cps.toList
  have h1 : (quoteT (mailT b d t e k)).cps.toList = 46 :: (mailL 0 (d.toNat + 1) (t.toNat + 1) e.cps.toList k.toNat).tail := by
    rw [h]
    unfold mailL
    rw [show 1 + (d.toNat + 1) = d.toNat + 1 + 1 by omega, List.replicate_succ]; rfl
  rw [strip_none h1 (h.trans hq) (by decide) (by decide)]
  apply str_ext
  rw [h, mailT_list (by omega) (by omega) hk, show (d + 1).toNat = d.toNat + 1 by omega, show (t + 1).toNat = t.toNat + 1 by omega]; rfl
theorem mail_len (he : Ending e) (hb : b ≤ 20) (hd : 0 ≤ d ∧ d ≤ 20) (ht : 0 ≤ t ∧ t ≤ 20) (hk : 0 ≤ k ∧ k ≤ 20) : (mailT b d t e k).length ≤ 100 ∧ 0 < (mailT b d t e k).length := by
  have h : (mailT b d t e k).length = (mailL b.toNat d.toNat t.toNat e.cps.toList k.toNat).length := by
    rw [← mailT_list hd.1 ht.1 hk.1, Array.length_toList]; rfl
  have h2 : (if t.toNat > 0 then [13, 10] else e.cps.toList).length ≤ 2 := by
    split
    · decide
    · have := he.len
      simpa [Str.length] using this
  have h3 : (if k.toNat > 0 then k.toNat + t.toNat else k.toNat) ≤ 40 := by split <;> omega
  rw [h]
  unfold mailL
  simp only [List.length_append, List.length_replicate, List.length_cons, List.length_nil]
  omega
end
end Mine
end

-- part M2
section
open PySem PySem.W PyProof.Rows PySem.Spec PySem.Calls
namespace Mine
theorem take_one {l : List Nat} {i c : Nat} : ((l.drop i).take 1 == [c]) = true ↔ l[i]? = some c := by
  rw [beq_iff_eq]
  cases h : l.drop i with
  | nil =>
    have : l[i]? = none := by rw [List.getElem?_eq_none_iff]; exact List.drop_eq_nil_iff.mp h
    simp [this]
  | cons a r =>
    have : l[i]? = some a := by
      have := List.getElem?_drop (xs := l) (i := i) (j := 0)
      rw [h] at this; simpa using this.symm
    simp [this]
theorem mailL_before {b d t k i : Nat} {e : List Nat} (h : i < b + d + 1) : (mailL b d t e k)[i]? ≠ some 97 := by
  unfold mailL
  intro hx
  by_cases h1 : i < b
  · rw [List.getElem?_append_left (by simpa using h1), List.getElem?_replicate, if_pos h1] at hx
    cases hx
  · rw [List.getElem?_append_right (by simp; omega), List.length_replicate, List.getElem?_append_left (by simp; omega), List.getElem?_replicate, if_pos (by omega)] at hx
    cases hx
theorem mailL_at (b d t k : Nat) (e : List Nat) : (mailL b d t e k)[b + d + 1]? = some 97 := by
  unfold mailL
  rw [List.getElem?_append_right (by simp; omega), List.length_replicate, List.getElem?_append_right (by simp; omega), List.length_replicate, show b + d + 1 - b - (1 + d) = 0 by omega]; rfl

theorem mail_occ {b d t k : Int} {e : Str} (hb : 0 ≤ b) (hd : 0 ≤ d) (ht : 0 ≤ t) (hk : 0 ≤ k) : ∃ r, Builtin.Str.occurrences (mailT b d t e k) (Str.ofString "a") 0 (mailT b d t e k).length 1 = (b + d + 1).toNat :: r := by
  have ha : (Str.ofString "a").cps.toList = [97] := by decide +kernel
  have hl1 : (Str.ofString "a").length = 1 := by decide +kernel
  have hlen : (mailT b d t e k).length = (mailL b.toNat d.toNat t.toNat e.cps.toList k.toNat).length := by
    rw [← mailT_list hd ht hk, Array.length_toList]; rfl
  have hat : ∀ i, StrLaws.At (mailT b d t e k) (Str.ofString "a") (mailT b d t e k).length i ↔ (mailL b.toNat d.toNat t.toNat e.cps.toList k.toNat)[i]? = some 97 := by
    intro i
    unfold StrLaws.At
    rw [StrLaws.subAt_eq, hl1, ha, mailT_list hd ht hk, take_one]
    refine ⟨fun h => h.2, fun h => ⟨?_, h⟩⟩
    have := (List.getElem?_eq_some_iff.mp h).1
    omega
  rcases StrLaws.occ_head (mailT b d t e k) (Str.ofString "a") 1 (Nat.le_refl _) with ⟨_, h⟩ | ⟨i, r, h1, h2, h3⟩
  · exact absurd ((hat _).mpr (mailL_at _ _ _ _ _)) (h _)
  · refine ⟨r, ?_⟩
    rw [h1]
    congr 1
    rw [hat] at h2
    have h4 : ¬ i < b.toNat + d.toNat + 1 := fun hlt => mailL_before hlt h2
    have h5 : ¬ (b.toNat + d.toNat + 1) < i := fun hlt => h3 _ hlt ((hat _).mpr (mailL_at _ _ _ _ _))
    omega

section
variable {prog : Program} {w : World} {A : Around} {E : Value → Shared → Prop} {s : Shared}
theorem mail_index {b d t k : Int} {e : Str} {tx ty : Tok} {Q : Value → Shared → Prop} (hb : 0 ≤ b) (hd : 0 ≤ d) (ht : 0 ≤ t) (hk : 0 ≤ k) (h : Q (.int (b + d + 1) s.toks) { s with toks := s.toks + 1 }) :
    wpAny (model prog w) A (call (.builtin "str.index") [.str (mailT b d t e k) tx, .str (Str.ofString "a") ty]) Q E s := by
  obtain ⟨r, hr⟩ := mail_occ (e := e) hb hd ht hk
  refine SC.index hr ?_
  rw [show (((b + d + 1).toNat : Nat) : Int) = b + d + 1 by omega]
  exact h
end

/-- what one deed makes of blanks and dots -/
def Step (dd b d b' d' : Int) : Prop := (dd = 0 ∧ b' = b + 1 ∧ d' = d) ∨ (dd = 1 ∧ 0 < b ∧ b' = b - 1 ∧ d' = d) ∨ (dd = 1 ∧ b = 0 ∧ b' = 0 ∧ d' = d + 1)

theorem done_mail {w : World} {mean : ExcName → Option Value} {mg mb : Str → Option Value} {dd b d t k : Int} {e : Str} {tx t1 : Tok} (he : Ending e) (hdd : dd = 0 ∨ dd = 1) (hb : 0 ≤ b ∧ b ≤ 20) (hd : 0 ≤ d ∧ d ≤ 20) (ht : 0 ≤ t ∧ t ≤ 20) (hk' : 0 ≤ k ∧ k ≤ 20)
    (dp un : Nat) (gd : Option (List Code)) (cn : Str) (cs : Scope) (a : Addr) (ccd : Value) (cl : List (Str × Addr)) (outer : List Env) (A₀ : Around) (base h₀ : Heap) (L : Addr) (m : Str → Option Value) (news : List (Addr × Obj)) (s : Shared) (Q E : Value → Shared → Prop)
    (B : Below A₀ base outer h₀) (F : Fr h₀ L s.heap m) (X : (Mine.hd.heap_39 w.params).In h₀) (N : News h₀ L s.heap news) (T : Top Mine.hd.view_39 (looseW Mine.hd.view_39 [Str.ofString "_twin_re_1", Str.ofString "_twin_re_2"]) mean mg mb h₀) (hk : cs.kind = .function)
    (hdp : dp + 5 * 2 < recursionLimit) (hun : un + 40 * 2 < cLine)
    (hret : ∀ (b' d' : Int) (t' : Tok) (h' : Heap) (tk' : Nat), Step dd b d b' d' → Fr h₀ L h' m → News h₀ L h' news → Q (.str (mailT b' d' (t + dd) e k) t') { s with heap := h', toks := tk' }) :
    wpAny (model PySem.Challenge.rw_pe0020_01.row.prog w) (ktrTop dp un gd cn cs L a ccd cl outer) (call (.ref 62) [.str (mailT b d t e k) tx, .int dd t1]) Q E s := by
  have hl := mail_len (t := t) (k := k) he hb.2 hd ht hk'
  rcases hdd with rfl | rfl
  · refine done_call0 hl.1 hl.2 dp un gd cn cs a ccd cl outer A₀ base h₀ L m news s Q E B F X N T hk hdp hun fun t' h' tk' F' N' => ?_
    rw [mail_put hb.1 hd.1 ht.1 hk'.1]
    have := hret (b + 1) d t' h' tk' (.inl ⟨rfl, rfl, rfl⟩) F' N'
    rw [Int.add_zero] at this
    exact this
  · refine done_call1 hl.1 hl.2 dp un gd cn cs a ccd cl outer A₀ base h₀ L m news s Q E B F X N T hk hdp hun fun t' h' tk' F' N' => ?_
    by_cases h0 : 0 < b
    · rw [mail_take he h0 hd.1 ht.1 hk'.1]
      exact hret (b - 1) d t' h' tk' (.inr (.inl ⟨rfl, h0, rfl, rfl⟩)) F' N'
    · have hb0 : b = 0 := by omega
      rw [mail_dot he hb0 hd.1 ht.1 hk'.1]
      exact hret 0 (d + 1) t' h' tk' (.inr (.inr ⟨rfl, hb0, rfl, rfl⟩)) F' N'
end Mine
end

-- part L1
section
open PySem PySem.W PyProof.Rows PySem.Spec PySem.Calls
namespace Mine
section
variable {prog : Program} {w : World} {A : Around} {E : Value → Shared → Prop} {s : Shared} {env : Env} {h₀ : Heap} {x : Str} {body : List Stmt} {Q : Flow → Shared → Prop}

/-- a turn's end: what the word asks, and the walker of the loop as it stood -/
def OneEnd (h₀ : Heap) (L : Addr) (J : (Str → Option Value) → List (Addr × Obj) → Prop) (I : Addr) (oI : Obj) (s₁ s₂ : Shared) : Prop :=
  ∃ h' tk m' news' nx, s₂ = { s₁ with heap := h', toks := tk } ∧ Fr h₀ L h' m' ∧ News h₀ L h' news' ∧ (I, oI) ∈ news' ∧ (∀ p ∈ nx, p ∈ news') ∧ (∀ p ∈ nx, p.1 ≠ I) ∧ J m' nx
def OnePost (h₀ : Heap) (L : Addr) (J : (Str → Option Value) → List (Addr × Obj) → Prop) (I : Addr) (oI : Obj) (s₁ : Shared) (Q : Flow → Shared → Prop) (f : Flow) (s₂ : Shared) : Prop :=
  match f with
  | .ret v => Q (.ret v) s₂
  | .brk => Q .next s₂
  | _ => OneEnd h₀ L J I oI s₁ s₂

theorem range_one {r : Addr} {b₀ : Int} {t₀ u₀ v₀ : Tok} {n : Nat} {m₀ : Str → Option Value} {news : List (Addr × Obj)} (J : Nat → (Str → Option Value) → List (Addr × Obj) → Prop)
    (hh : A.handled = none) (hr : IsRange s.heap r 0 b₀ 1 t₀ u₀ v₀) (hsmall : Builtin.Range.small 0 b₀ 1 = true) (hsz : Builtin.Range.rangeSize 0 b₀ 1 = (n : Int)) (F : Fr h₀ env.locals s.heap m₀) (N : News h₀ env.locals s.heap news) (hj : J 0 m₀ news)
    (turn : ∀ i t m₁ nx h tk oI, i < n → (∀ p ∈ nx, p.1 ≠ s.heap.objs.size) → J i m₁ nx → Fr h₀ env.locals h (fun y => if y = x then some (.int (i : Nat) t) else m₁ y) → News h₀ env.locals h ((s.heap.objs.size, oI) :: nx) →
      wpAny (model prog w) A (execs body env) (OnePost h₀ env.locals (J (i + 1)) s.heap.objs.size oI { s with heap := h, toks := tk } Q) E { s with heap := h, toks := tk })
    (done : ∀ m₁ nx h tk, J n m₁ nx → Fr h₀ env.locals h m₁ → News h₀ env.locals h nx → Q .next { s with heap := h, toks := tk }) :
    wpAny (model prog w) A (pyIter (.ref r)) (fun it s₂ => LoopAtV prog w A h₀ env x body Q E it s₂) E s := by
  refine wpAny_pyIter_range hr hsmall ?_
  have W := Walks.range (prog := prog) (w := w) hh s.heap.objs.size 0 1 n
  refine ⟨_, _, _, n, _, _, m₀, news, J, rfl, W, ?_, ?_, ?_, (by show IsRangeIter _ _ _ _ _; rw [hsz]; simpa using Heap.get?_push_size _ rfl), F.push _, (fun p hp => ⟨Heap.get?_push_of_some _ (N p hp).1, (N p hp).2⟩), hj, ?_, ?_⟩
  · intro hm
    exact absurd F.ns.lt ((List.mem_singleton.mp hm) ▸ Nat.lt_irrefl _)
  · intro b hb
    rw [List.mem_singleton.mp hb]
    exact next_is_new F
  · intro p hp hI
    exact absurd (Heap.lt_size (N p hp).1) ((List.mem_singleton.mp hI) ▸ Nat.lt_irrefl _)
  · rintro i v m₁ nx s₁ own ⟨hh', tk', rfl⟩ hin ⟨t, rfl⟩ hJ hoff hown hget hmem hst F₁ N₁
    have hI0 : h₀.get? s.heap.objs.size = none := next_is_new F
    obtain ⟨oI, hoI⟩ : ∃ oI, hh'.get? s.heap.objs.size = some oI := ⟨_, hst⟩
    have hIown := hmem _ (List.mem_singleton.mpr rfl) hI0 _ hoI
    have e1 : (0 : Int) + (i : Int) * 1 = (i : Int) := by omega
    rw [e1] at F₁
    refine wpAny_mono (turn i t m₁ nx hh' tk' oI hin (fun p hp e => hoff p hp (List.mem_singleton.mpr e)) hJ F₁ (fun p hp => ?_)) (fun f s₂ p => ?_) fun _ _ e => e
    · rcases List.mem_cons.mp hp with rfl | hp
      · exact N₁ _ (List.mem_append_left _ hIown)
      · exact N₁ _ (List.mem_append_right _ hp)
    · have fin : OneEnd h₀ env.locals (J (i + 1)) s.heap.objs.size oI { s with heap := hh', toks := tk' } s₂ → LoopStepU h₀ env.locals [s.heap.objs.size] own (J (i + 1)) { s with heap := hh', toks := tk' } .next s₂ := by
        rintro ⟨h', tk, m', news', nx', e, F', N', hi, hn, hne, hm⟩
        refine ⟨rfl, h', tk, m', nx', e, F', fun p hp => ?_, fun p hp hq => hne p hp (List.mem_singleton.mp hq), hm⟩
        rcases List.mem_append.mp hp with h | h
        · have h1 : p.1 = s.heap.objs.size := List.mem_singleton.mp (hown p h)
          have h2 : hh'.get? p.1 = some p.2 := hget p h
          rw [h1, hoI] at h2
          have h3 : p = (s.heap.objs.size, oI) := Prod.ext h1 (Option.some.inj h2).symm
          rw [h3]
          exact N' _ hi
        · exact N' p (hn p h)
      cases f with
      | ret v => exact .ret p
      | brk => exact .brk p
      | next => exact .next (fin p)
      | cont => exact .cont (fin p)
  · rintro h' tk m' news' F' N' _ hJ
    exact done m' news' h' tk hJ F' N'

theorem list_one {l : Addr} {vs : List Value} {nn : Nat} {m₀ : Str → Option Value} {news : List (Addr × Obj)} (J : Nat → (Str → Option Value) → List (Addr × Obj) → Prop)
    (hh : A.handled = none) (hl : (l, listOf vs.toArray nn) ∈ news) (hJl : ∀ i m nx, J i m nx → (l, listOf vs.toArray nn) ∈ nx) (F : Fr h₀ env.locals s.heap m₀) (N : News h₀ env.locals s.heap news) (hj : J 0 m₀ news)
    (turn : ∀ i v m₁ nx h tk oI, vs[i]? = some v → (∀ p ∈ nx, p.1 ≠ s.heap.objs.size) → J i m₁ nx → Fr h₀ env.locals h (fun y => if y = x then some v else m₁ y) → News h₀ env.locals h ((s.heap.objs.size, oI) :: nx) →
      wpAny (model prog w) A (execs body env) (OnePost h₀ env.locals (J (i + 1)) s.heap.objs.size oI { s with heap := h, toks := tk } Q) E { s with heap := h, toks := tk })
    (done : ∀ m₁ nx h tk, J vs.length m₁ nx → Fr h₀ env.locals h m₁ → News h₀ env.locals h nx → Q .next { s with heap := h, toks := tk }) :
    wpAny (model prog w) A (pyIter (.ref l)) (fun it s₂ => LoopAtV prog w A h₀ env x body Q E it s₂) E s := by
  have hol : s.heap.get? l = some (listOf vs.toArray nn) := (N _ hl).1
  have hls : s.heap.IsList l vs.toArray := ⟨_, hol, rfl, nn, rfl⟩
  have hne : l ≠ s.heap.objs.size := Nat.ne_of_lt (Heap.lt_size hol)
  refine wpAny_pyIter_list hls ?_
  have W := Walks.list (prog := prog) (w := w) hh s.heap.objs.size l hne vs.toArray
  have hlen : vs.toArray.size = vs.length := by simp
  rw [hlen] at W
  refine ⟨_, _, _, vs.length, _, _, m₀, news, J, rfl, W, ?_, ?_, ?_, ⟨⟨_, Heap.get?_push_size _ rfl, rfl, rfl⟩, hls.at fun o e => Heap.get?_push_of_some _ e⟩, F.push _, (fun p hp => ⟨Heap.get?_push_of_some _ (N p hp).1, (N p hp).2⟩), hj, ?_, ?_⟩
  · intro hm
    rcases List.mem_cons.mp hm with e | hm
    · exact absurd F.ns.lt (e ▸ Nat.lt_irrefl _)
    · exact (N _ hl).2.1 ((List.mem_singleton.mp hm).symm)
  · intro b hb
    rw [List.mem_singleton.mp hb]
    exact next_is_new F
  · intro p hp hI
    exact absurd (Heap.lt_size (N p hp).1) ((List.mem_singleton.mp hI) ▸ Nat.lt_irrefl _)
  · rintro i v m₁ nx s₁ own ⟨hh', tk', rfl⟩ hin hP hJ hoff hown hget hmem hst F₁ N₁
    have hP' : vs[i]? = some v := by simpa using hP
    have hI0 : h₀.get? s.heap.objs.size = none := next_is_new F
    obtain ⟨⟨oI, hoI, _⟩, _⟩ := id hst
    have hIown := hmem _ (List.mem_cons.mpr (.inl rfl)) hI0 _ hoI
    have hlo : hh'.get? l = some (listOf vs.toArray nn) := (N₁ _ (List.mem_append.mpr (.inr (hJl _ _ _ hJ)))).1
    refine wpAny_mono (turn i v m₁ nx hh' tk' oI hP' (fun p hp e => hoff p hp (List.mem_singleton.mpr e)) hJ F₁ (fun p hp => ?_)) (fun f s₂ p => ?_) fun _ _ e => e
    · rcases List.mem_cons.mp hp with rfl | hp
      · exact N₁ _ (List.mem_append_left _ hIown)
      · exact N₁ _ (List.mem_append_right _ hp)
    · have fin : OneEnd h₀ env.locals (J (i + 1)) s.heap.objs.size oI { s with heap := hh', toks := tk' } s₂ → LoopStepU h₀ env.locals [s.heap.objs.size] own (J (i + 1)) { s with heap := hh', toks := tk' } .next s₂ := by
        rintro ⟨h', tk, m', news', nx', e, F', N', hi, hn, hne', hm⟩
        refine ⟨rfl, h', tk, m', nx', e, F', fun p hp => ?_, fun p hp hq => hne' p hp (List.mem_singleton.mp hq), hm⟩
        rcases List.mem_append.mp hp with h | h
        · have h2 : hh'.get? p.1 = some p.2 := hget p h
          rcases List.mem_cons.mp (hown p h) with h1 | h1
          · rw [h1, hoI] at h2
            have h3 : p = (s.heap.objs.size, oI) := Prod.ext h1 (Option.some.inj h2).symm
            rw [h3]
            exact N' _ hi
          · have h1 := List.mem_singleton.mp h1
            rw [h1, hlo] at h2
            have h3 : p = (l, listOf vs.toArray nn) := Prod.ext h1 (Option.some.inj h2).symm
            rw [h3]
            exact N' _ (hn _ (hJl _ _ _ hm))
        · exact N' p (hn p h)
      cases f with
      | ret v => exact .ret p
      | brk => exact .brk p
      | next => exact .next (fin p)
      | cont => exact .cont (fin p)
  · rintro h' tk m' news' F' N' _ hJ
    exact done m' news' h' tk hJ F' N'
end
end Mine
end

-- part L2
section
open PySem PySem.W PyProof.Rows PySem.Spec PySem.Calls
namespace Mine

/-- the mails of a row, the first n of them: blanks falling, dots rising -/
def Row (vs : Array Value) (n : Nat) (h c : Int) (e : Str) (k : Int) : Prop :=
  vs.size = n ∧ ∀ i : Nat, i < n → ∃ t, vs[i]? = some (.str (mailT (h - i) i (c + i) e k) t)
theorem Row.nil {h c k : Int} {e : Str} : Row #[] 0 h c e k := ⟨rfl, fun _ hi => absurd hi (Nat.not_lt_zero _)⟩
theorem Row.push {vs : Array Value} {n : Nat} {h c k b d t : Int} {e : Str} {u : Tok} (r : Row vs n h c e k) (hb : b = h - n) (hd : d = n) (ht : t = c + n) : Row (vs.push (.str (mailT b d t e k) u)) (n + 1) h c e k := by
  subst hb hd ht
  refine ⟨by rw [Array.size_push, r.1], fun i hi => ?_⟩
  by_cases h1 : i < n
  · obtain ⟨t, ht⟩ := r.2 i h1
    exact ⟨t, by rw [Array.getElem?_push, if_neg (by rw [r.1]; omega)]; exact ht⟩
  · have h2 : i = n := by omega
    subst h2
    exact ⟨u, by rw [Array.getElem?_push, if_pos r.1.symm]⟩
theorem Row.get {vs : Array Value} {n : Nat} {h c k : Int} {e : Str} (r : Row vs n h c e k) {i : Int} (h0 : 0 ≤ i) (h1 : i < n) : ∃ t, vs[i.toNat]? = some (.str (mailT (h - i) i (c + i) e k) t) := by
  obtain ⟨t, ht⟩ := r.2 i.toNat (by omega)
  rw [show ((i.toNat : Nat) : Int) = i by omega] at ht
  exact ⟨t, ht⟩

section
variable {prog : Program} {w : World} {A : Around} {E : Value → Shared → Prop} {s : Shared} {env : Env} {h₀ : Heap} {x : Str} {body : List Stmt} {Q : Flow → Shared → Prop}

/-- what a loop that grows one list keeps -/
def RowJ (stored : List Str) (m₀ : Str → Option Value) (x : Str) (g : Addr) (rest : List (Addr × Obj)) (n : Nat) (h c : Int) (e : Str) (k : Int) (m : Str → Option Value) (nx : List (Addr × Obj)) : Prop :=
  ∃ gs ep, nx = (g, listOf gs ep) :: rest ∧ (∀ y, y ≠ x → stored.contains y = false → m y = m₀ y) ∧ Row gs n h c e k

theorem row_fr {L : Addr} {hp : Heap} {stored : List Str} {m₀ m₁ : Str → Option Value} {v : Value} (hm : ∀ y, y ≠ x → stored.contains y = false → m₁ y = m₀ y) (F : Fr h₀ L hp (fun y => if y = x then some v else m₁ y)) :
    Fr h₀ L hp (fun y => if y = x then some v else if stored.contains y = true then m₁ y else m₀ y) := by
  have e : (fun y => if y = x then some v else if stored.contains y = true then m₁ y else m₀ y) = fun y => if y = x then some v else m₁ y := by
    funext y
    by_cases h1 : y = x
    · simp only [if_pos h1]
    · simp only [if_neg h1]
      cases h2 : stored.contains y with
      | true => simp
      | false => simp only [Bool.false_eq_true, if_false]; exact (hm y h1 h2).symm
  rw [e]; exact F
theorem row_frOut {L : Addr} {hp : Heap} {stored : List Str} {m₀ m₁ : Str → Option Value} (hm : ∀ y, y ≠ x → stored.contains y = false → m₁ y = m₀ y) (F : Fr h₀ L hp m₁) :
    Fr h₀ L hp (fun y => if y = x then m₁ y else if stored.contains y = true then m₁ y else m₀ y) := by
  have e : (fun y => if y = x then m₁ y else if stored.contains y = true then m₁ y else m₀ y) = m₁ := by
    funext y
    by_cases h1 : y = x
    · simp only [if_pos h1]
    · simp only [if_neg h1]
      cases h2 : stored.contains y with
      | true => simp
      | false => simp only [Bool.false_eq_true, if_false]; exact (hm y h1 h2).symm
  rw [e]; exact F

theorem row_end {stored : List Str} {m₀ m' : Str → Option Value} {L g I : Addr} {oI o₀ : Obj} {rest news' : List (Addr × Obj)} {n : Nat} {h c k : Int} {e : Str} {gs : Array Value} {ep : Nat} {s₁ : Shared} {hp : Heap} {tk : Nat}
    (F : Fr h₀ L hp m') (N : News h₀ L hp news') (hI : (I, oI) ∈ news') (hg : (g, listOf gs ep) ∈ news') (hr : ∀ p ∈ rest, p ∈ news') (hne : ∀ p ∈ (g, o₀) :: rest, p.1 < I)
    (hm : ∀ y, y ≠ x → stored.contains y = false → m' y = m₀ y) (hrow : Row gs n h c e k) : OneEnd h₀ L (RowJ stored m₀ x g rest n h c e k) I oI s₁ { s₁ with heap := hp, toks := tk } := by
  refine ⟨hp, tk, m', news', (g, listOf gs ep) :: rest, rfl, F, N, hI, fun p hp => ?_, fun p hp => ?_, gs, ep, rfl, hm, hrow⟩
  · rcases List.mem_cons.mp hp with rfl | hp
    · exact hg
    · exact hr p hp
  · rcases List.mem_cons.mp hp with rfl | hp
    · exact Nat.ne_of_lt (hne (g, o₀) (.head _))
    · exact Nat.ne_of_lt (hne p (.tail _ hp))

/-- over a row of mails, a list grows -/
theorem row_list {l g : Addr} {vs : Array Value} {nn ng na : Nat} {m₀ : Str → Option Value} {rest : List (Addr × Obj)} {h c h' c' k : Int} {e : Str} (stored : List Str) (cnt : Nat → Nat) (h0 : cnt 0 = 0)
    (hh : A.handled = none) (hl : (l, listOf vs nn) ∈ rest) (hrow : Row vs na h c e k) (F : Fr h₀ env.locals s.heap m₀) (N : News h₀ env.locals s.heap ((g, listOf #[] ng) :: rest))
    (turn : ∀ (i : Nat) t gs ep (u : Str → Option Value) hp tk I oI, i < na → (∀ p ∈ (g, listOf #[] ng) :: rest, p.1 < I) → Row gs (cnt i) h' c' e k →
      Fr h₀ env.locals hp (fun y => if y = x then some (.str (mailT (h - i) i (c + i) e k) t) else if stored.contains y = true then u y else m₀ y) → News h₀ env.locals hp ((I, oI) :: (g, listOf gs ep) :: rest) →
      wpAny (model prog w) A (execs body env) (OnePost h₀ env.locals (RowJ stored m₀ x g rest (cnt (i + 1)) h' c' e k) I oI { s with heap := hp, toks := tk } Q) E { s with heap := hp, toks := tk })
    (done : ∀ gs ep (u : Str → Option Value) hp tk, Row gs (cnt na) h' c' e k → Fr h₀ env.locals hp (fun y => if y = x then u y else if stored.contains y = true then u y else m₀ y) → News h₀ env.locals hp ((g, listOf gs ep) :: rest) → Q .next { s with heap := hp, toks := tk }) :
    wpAny (model prog w) A (pyIter (.ref l)) (fun it s₂ => LoopAtV prog w A h₀ env x body Q E it s₂) E s := by
  refine list_one (vs := vs.toList) (nn := nn) (news := (g, listOf #[] ng) :: rest) (fun i m nx => RowJ stored m₀ x g rest (cnt i) h' c' e k m nx) hh (.tail _ hl) (fun i m nx hJ => ?_) F N ⟨#[], ng, rfl, fun _ _ _ => rfl, by rw [h0]; exact Row.nil⟩ ?_ ?_
  · obtain ⟨gs, ep, rfl, _⟩ := hJ
    exact .tail _ hl
  · rintro i v m₁ nx hp tk oI hv hne ⟨gs, ep, rfl, hm, hr⟩ F₁ N₁
    have hi : i < na := by
      have := (List.getElem?_eq_some_iff.mp hv).1
      rw [Array.length_toList, hrow.1] at this
      exact this
    obtain ⟨t, ht⟩ := hrow.2 i hi
    have hv' : v = .str (mailT (h - i) i (c + i) e k) t := by
      rw [Array.getElem?_toList, ht] at hv
      exact (Option.some.inj hv).symm
    subst hv'
    exact turn i t gs ep m₁ hp tk _ oI hi (fun p hp => Heap.lt_size (N p hp).1) hr (row_fr hm F₁) N₁
  · rintro m₁ nx hp tk ⟨gs, ep, rfl, hm, hr⟩ F₁ N₁
    rw [Array.length_toList, hrow.1] at hr
    exact done gs ep m₁ hp tk hr (row_frOut hm F₁) N₁

/-- over a range, a list grows by one a turn -/
theorem row_range {r g : Addr} {b₀ : Int} {t₀ u₀ v₀ : Tok} {ng na n₀ : Nat} {vs₀ : Array Value} {m₀ : Str → Option Value} {rest : List (Addr × Obj)} {h' c' k : Int} {e : Str} (stored : List Str) (fixed : Row vs₀ n₀ h' c' e k)
    (hh : A.handled = none) (hr : IsRange s.heap r 0 b₀ 1 t₀ u₀ v₀) (hsmall : Builtin.Range.small 0 b₀ 1 = true) (hsz : Builtin.Range.rangeSize 0 b₀ 1 = (na : Int)) (F : Fr h₀ env.locals s.heap m₀) (N : News h₀ env.locals s.heap ((g, listOf #[] ng) :: rest))
    (turn : ∀ (i : Nat) t gs ep (u : Str → Option Value) hp tk I oI, i < na → (∀ p ∈ (g, listOf #[] ng) :: rest, p.1 < I) → Row gs i h' c' e k →
      Fr h₀ env.locals hp (fun y => if y = x then some (.int i t) else if stored.contains y = true then u y else m₀ y) → News h₀ env.locals hp ((I, oI) :: (g, listOf gs ep) :: rest) →
      wpAny (model prog w) A (execs body env) (OnePost h₀ env.locals (RowJ stored m₀ x g rest (i + 1) h' c' e k) I oI { s with heap := hp, toks := tk } Q) E { s with heap := hp, toks := tk })
    (done : ∀ gs ep (u : Str → Option Value) hp tk, Row gs na h' c' e k → Fr h₀ env.locals hp (fun y => if y = x then u y else if stored.contains y = true then u y else m₀ y) → News h₀ env.locals hp ((g, listOf gs ep) :: rest) → Q .next { s with heap := hp, toks := tk }) :
    wpAny (model prog w) A (pyIter (.ref r)) (fun it s₂ => LoopAtV prog w A h₀ env x body Q E it s₂) E s := by
  refine range_one (n := na) (news := (g, listOf #[] ng) :: rest) (fun i m nx => RowJ stored m₀ x g rest i h' c' e k m nx) hh hr hsmall hsz F N ⟨#[], ng, rfl, fun _ _ _ => rfl, Row.nil⟩ ?_ ?_
  · rintro i t m₁ nx hp tk oI hi hne ⟨gs, ep, rfl, hm, hr⟩ F₁ N₁
    exact turn i t gs ep m₁ hp tk _ oI hi (fun p hp => Heap.lt_size (N p hp).1) hr (row_fr hm F₁) N₁
  · rintro m₁ nx hp tk ⟨gs, ep, rfl, hm, hr⟩ F₁ N₁
    exact done gs ep m₁ hp tk hr (row_frOut hm F₁) N₁

/-- level, low and half the lines' lack, behind n deeds -/
def Inv (n : Nat) (lev low c : Int) : Prop := low ≤ 0 ∧ low ≤ lev ∧ lev ≤ n ∧ -low ≤ n ∧ 0 ≤ c ∧ 2 * c = n - (lev - 2 * low)

def OutJ (stored : List Str) (m₀ : Str → Option Value) (D : Addr) (oD : Obj) (e : Str) (k : Int) (n : Nat) (m : Str → Option Value) (nx : List (Addr × Obj)) : Prop :=
  ∃ (lev low c : Int) (tm tl tlo : Tok) (lm : Addr) (ws : Array Value) (nw : Nat), nx = [(lm, listOf ws nw), (D, oD)] ∧ lm ≠ D ∧ Inv n lev low c ∧ Row ws (lev - 2 * low + 1).toNat (lev - 2 * low) c e k ∧
    m (Str.ofString "mail") = some (.str (mailT (lev - low) (-low) (c - low) e k) tm) ∧ m (Str.ofString "mails") = some (.ref lm) ∧ m (Str.ofString "level") = some (.int lev tl) ∧ m (Str.ofString "low") = some (.int low tlo) ∧
    ∀ y, y ≠ Str.ofString "turn" → y ≠ Str.ofString "mail" → y ≠ Str.ofString "mails" → y ≠ Str.ofString "level" → y ≠ Str.ofString "low" → stored.contains y = false → m y = m₀ y

theorem out_fr {L : Addr} {hp : Heap} {stored : List Str} {m₀ m₁ : Str → Option Value} {v a b c d : Value} (ha : m₁ (Str.ofString "mail") = some a) (hb : m₁ (Str.ofString "mails") = some b) (hc : m₁ (Str.ofString "level") = some c) (hd : m₁ (Str.ofString "low") = some d)
    (hm : ∀ y, y ≠ x → y ≠ Str.ofString "mail" → y ≠ Str.ofString "mails" → y ≠ Str.ofString "level" → y ≠ Str.ofString "low" → stored.contains y = false → m₁ y = m₀ y) (F : Fr h₀ L hp (fun y => if y = x then some v else m₁ y)) :
    Fr h₀ L hp (fun y => if y = x then some v else if y = Str.ofString "mail" then some a else if y = Str.ofString "mails" then some b else if y = Str.ofString "level" then some c else if y = Str.ofString "low" then some d else if stored.contains y = true then m₁ y else m₀ y) := by
  have e : (fun y => if y = x then some v else if y = Str.ofString "mail" then some a else if y = Str.ofString "mails" then some b else if y = Str.ofString "level" then some c else if y = Str.ofString "low" then some d else if stored.contains y = true then m₁ y else m₀ y) = fun y => if y = x then some v else m₁ y := by
    funext y
    by_cases h1 : y = x
    · simp only [if_pos h1]
    · simp only [if_neg h1]
      by_cases h2 : y = Str.ofString "mail"
      · rw [if_pos h2, h2, ha]
      · rw [if_neg h2]
        by_cases h3 : y = Str.ofString "mails"
        · rw [if_pos h3, h3, hb]
        · rw [if_neg h3]
          by_cases h4 : y = Str.ofString "level"
          · rw [if_pos h4, h4, hc]
          · rw [if_neg h4]
            by_cases h5 : y = Str.ofString "low"
            · rw [if_pos h5, h5, hd]
            · rw [if_neg h5]
              cases h6 : stored.contains y with
              | true => simp
              | false => simp only [Bool.false_eq_true, if_false]; exact (hm y h1 h2 h3 h4 h5 h6).symm
  rw [e]; exact F

theorem out_end {stored : List Str} {m₀ m' : Str → Option Value} {L D I lm : Addr} {oI oD : Obj} {news' : List (Addr × Obj)} {n : Nat} {lev low c k : Int} {e : Str} {tm tl tlo : Tok} {ws : Array Value} {nw : Nat} {s₁ : Shared} {hp : Heap} {tk : Nat}
    (F : Fr h₀ L hp m') (N : News h₀ L hp news') (hI : (I, oI) ∈ news') (hg : (lm, listOf ws nw) ∈ news') (hD : (D, oD) ∈ news') (h1 : lm ≠ D) (h2 : lm ≠ I) (h3 : D ≠ I) (hinv : Inv n lev low c) (hrow : Row ws (lev - 2 * low + 1).toNat (lev - 2 * low) c e k)
    (ha : m' (Str.ofString "mail") = some (.str (mailT (lev - low) (-low) (c - low) e k) tm)) (hb : m' (Str.ofString "mails") = some (.ref lm)) (hc : m' (Str.ofString "level") = some (.int lev tl)) (hd : m' (Str.ofString "low") = some (.int low tlo))
    (hm : ∀ y, y ≠ Str.ofString "turn" → y ≠ Str.ofString "mail" → y ≠ Str.ofString "mails" → y ≠ Str.ofString "level" → y ≠ Str.ofString "low" → stored.contains y = false → m' y = m₀ y) :
    OneEnd h₀ L (OutJ stored m₀ D oD e k n) I oI s₁ { s₁ with heap := hp, toks := tk } := by
  refine ⟨hp, tk, m', news', [(lm, listOf ws nw), (D, oD)], rfl, F, N, hI, fun p hp => ?_, fun p hp => ?_, lev, low, c, tm, tl, tlo, lm, ws, nw, rfl, h1, hinv, hrow, ha, hb, hc, hd, hm⟩
  · rcases List.mem_cons.mp hp with rfl | hp
    · exact hg
    · exact (List.mem_singleton.mp hp) ▸ hD
  · rcases List.mem_cons.mp hp with rfl | hp
    · exact h2
    · exact (List.mem_singleton.mp hp) ▸ h3

theorem out_range {r D lm : Addr} {b₀ : Int} {t₀ u₀ v₀ tm tl tlo : Tok} {oD : Obj} {ws : Array Value} {nw na : Nat} {m₀ : Str → Option Value} {news : List (Addr × Obj)} {k : Int} {e : Str} (stored : List Str)
    (hh : A.handled = none) (hr : IsRange s.heap r 0 b₀ 1 t₀ u₀ v₀) (hsmall : Builtin.Range.small 0 b₀ 1 = true) (hsz : Builtin.Range.rangeSize 0 b₀ 1 = (na : Int)) (F : Fr h₀ env.locals s.heap m₀) (N : News h₀ env.locals s.heap news)
    (hDe : m₀ (Str.ofString "deeds") = some (.ref D)) (hlm : (lm, listOf ws nw) ∈ news) (hD : (D, oD) ∈ news) (hne : lm ≠ D) (hrow : Row ws 1 0 0 e k)
    (ha : m₀ (Str.ofString "mail") = some (.str (mailT 0 0 0 e k) tm)) (hb : m₀ (Str.ofString "mails") = some (.ref lm)) (hc : m₀ (Str.ofString "level") = some (.int 0 tl)) (hd : m₀ (Str.ofString "low") = some (.int 0 tlo))
    (turn : ∀ (i : Nat) t (lev low c : Int) (tm tl tlo : Tok) (lm : Addr) (ws : Array Value) (nw : Nat) (u : Str → Option Value) hp tk I oI, i < na → lm ≠ D → lm ≠ I → D ≠ I → Inv i lev low c → Row ws (lev - 2 * low + 1).toNat (lev - 2 * low) c e k →
      Fr h₀ env.locals hp (fun y => if y = Str.ofString "turn" then some (.int i t) else if y = Str.ofString "mail" then some (.str (mailT (lev - low) (-low) (c - low) e k) tm) else if y = Str.ofString "mails" then some (.ref lm) else if y = Str.ofString "level" then some (.int lev tl) else if y = Str.ofString "low" then some (.int low tlo) else if stored.contains y = true then u y else m₀ y) →
      News h₀ env.locals hp [(I, oI), (lm, listOf ws nw), (D, oD)] →
      wpAny (model prog w) A (execs body env) (OnePost h₀ env.locals (OutJ stored m₀ D oD e k (i + 1)) I oI { s with heap := hp, toks := tk } Q) E { s with heap := hp, toks := tk })
    (done : ∀ (u : Str → Option Value) hp tk, Fr h₀ env.locals hp u → Q .next { s with heap := hp, toks := tk }) :
    wpAny (model prog w) A (pyIter (.ref r)) (fun it s₂ => LoopAtV prog w A h₀ env (Str.ofString "turn") body Q E it s₂) E s := by
  refine range_one (n := na) (news := [(lm, listOf ws nw), (D, oD)]) (fun i m nx => OutJ stored m₀ D oD e k i m nx) hh hr hsmall hsz F (fun p hp => ?_) ⟨0, 0, 0, tm, tl, tlo, lm, ws, nw, rfl, hne, ?_, hrow, ha, hb, hc, hd, fun _ _ _ _ _ _ _ => rfl⟩ ?_ ?_
  · rcases List.mem_cons.mp hp with rfl | hp
    · exact N _ hlm
    · exact (List.mem_singleton.mp hp) ▸ N _ hD
  · unfold Inv; omega
  · rintro i t m₁ nx hp tk oI hi hne ⟨lev, low, c, tm, tl, tlo, lm, ws, nw, rfl, h1, h2, h3, h4, h5, h6, h7, h8⟩ F₁ N₁
    exact turn i t lev low c tm tl tlo lm ws nw m₁ hp tk _ oI hi h1 (hne (lm, listOf ws nw) (.head _)) (hne (D, oD) (.tail _ (.head _))) h2 h3 (out_fr h4 h5 h6 h7 h8 F₁) N₁
  · rintro m₁ nx hp tk _ F₁ _
    exact done m₁ hp tk F₁
end
end Mine
end

-- part L3
section
open PySem PySem.W PyProof.Rows PySem.Spec PySem.Calls
namespace Mine
theorem fmod3 (a : Int) : 0 ≤ a.fmod 3 ∧ a.fmod 3 ≤ 2 := by
  rw [Int.fmod_eq_emod_of_nonneg _ (by decide)]; omega
theorem fmod3' (a : Int) : 0 ≤ a.fmod 3 ∧ a.fmod 3 ≤ 20 := by have := fmod3 a; omega
theorem fmod2 (a : Int) : a.fmod 2 = 0 ∨ a.fmod 2 = 1 := by
  rw [Int.fmod_eq_emod_of_nonneg _ (by decide)]; omega
theorem fdiv2 {x c : Int} (h : x = 2 * c) : x.fdiv 2 = c := by
  rw [Int.fdiv_eq_ediv_of_nonneg _ (by decide)]; omega
theorem rs_nat (n : Nat) : Builtin.Range.rangeSize 0 (n : Int) 1 = (n : Int) := by
  unfold Builtin.Range.rangeSize
  rw [if_pos (by decide)]
  split <;> omega
theorem rs_int {n : Int} (h0 : 0 ≤ n) : Builtin.Range.rangeSize 0 n 1 = (n.toNat : Int) := by
  have := rs_nat n.toNat
  rw [show ((n.toNat : Nat) : Int) = n by omega] at this
  rw [this]; omega
theorem small_nat {n : Int} (h : n ≤ 1000) (h0 : 0 ≤ n) : Builtin.Range.small 0 n 1 = true := by
  unfold Builtin.Range.small
  rw [rs_int h0, if_pos (by decide)]
  simp only [Builtin.Range.rangeFitsLong]
  have e : ((n.toNat : Nat) : Int) = n := by omega
  rw [e]
  simp
  omega
/-- every deed is a nought or a one -/
theorem deed_at {vs : List Value} {ns : List Int} {i : Nat} (hi : IntsAre vs (List.map (fun k : Int => k.fmod 2) ns ++ [1])) (h : i < (List.map (fun k : Int => k.fmod 2) ns ++ [1]).length) : ∃ dd td, vs.toArray[i]? = some (.int dd td) ∧ (dd = 0 ∨ dd = 1) := by
  obtain ⟨t, hx⟩ := hi.get i _ (List.getElem?_eq_getElem h)
  refine ⟨_, t, by simpa using hx, ?_⟩
  have hm := List.getElem_mem h
  rcases List.mem_append.mp hm with h1 | h1
  · obtain ⟨a, _, e⟩ := List.mem_map.mp h1
    rw [← e]
    exact fmod2 a
  · exact .inr (List.mem_singleton.mp h1)

theorem step_facts {i : Nat} {dd lev low low2 c b d : Int} (hdd : dd = 0 ∨ dd = 1) (hS : Step dd (lev - low) (-low) b d) (hlow : (if lev + (1 - 2 * dd) < low then lev + (1 - 2 * dd) else low) = low2)
    (v1 : low ≤ 0) (v2 : low ≤ lev) (v3 : lev ≤ i) (v4 : -low ≤ i) (v5 : 0 ≤ c) (v6 : 2 * c = i - (lev - 2 * low)) :
    ∃ c2, b + d = lev + (1 - 2 * dd) - 2 * low2 ∧ b = lev + (1 - 2 * dd) - low2 ∧ d = -low2 ∧ c - low + dd = c2 - low2 ∧
      ((lev + (1 - 2 * dd) - 2 * low2 = lev - 2 * low + 1 ∧ c2 = c) ∨ (lev + (1 - 2 * dd) - 2 * low2 = lev - 2 * low - 1 ∧ c2 = c + 1)) ∧
      low2 ≤ 0 ∧ low2 ≤ lev + (1 - 2 * dd) ∧ lev + (1 - 2 * dd) ≤ i + 1 ∧ -low2 ≤ i + 1 ∧ 0 ≤ c2 ∧ 2 * c2 = i + 1 - (lev + (1 - 2 * dd) - 2 * low2) := by
  unfold Step at hS
  by_cases h : lev + (1 - 2 * dd) < low
  · rw [if_pos h] at hlow
    refine ⟨c, ?_⟩
    omega
  · rw [if_neg h] at hlow
    rcases hdd with rfl | rfl
    · exact ⟨c, by omega⟩
    · exact ⟨c + 1, by omega⟩
/-- how many a row has grown by turn j -/
def cnt (h h' : Int) (j : Nat) : Nat := if (j : Int) ≤ h then j else (h' + 1).toNat
theorem cnt_zero {h h' : Int} (h0 : 0 ≤ h) : cnt h h' 0 = 0 := by unfold cnt; rw [if_pos (by omega)]
theorem cnt_low {h h' : Int} {j : Nat} (hj : (j : Int) ≤ h) : cnt h h' j = j := by unfold cnt; rw [if_pos hj]
theorem cnt_high {h h' : Int} {j : Nat} (hj : h < (j : Int)) : cnt h h' j = (h' + 1).toNat := by unfold cnt; rw [if_neg (by omega)]

section
variable {prog : Program} {w : World} {A : Around} {E : Value → Shared → Prop} {s : Shared} {h₀ : Heap} {L : Addr} {news : List (Addr × Obj)} {value slice : PySem.Expr}
theorem pick3 {l : Addr} {ta tb tc : Tok} {n : Nat} {k : Int} {u : Tok} {Q : Value → Shared → Prop}
    (N : News h₀ L s.heap news) (hm : (l, listOf #[.str (Str.ofString "\n") ta, .str (Str.ofString "\r") tb, .str (Str.ofString "\r\n") tc] n) ∈ news) (h0 : 0 ≤ k) (h3 : k < 3) (h : ∀ e t, Ending e → e.length ≤ 2 → Q (.str e t) s)
    (hs : subscripted slice false (.ref l) (.int k u) = operate [.ref l, .int k u] (getItem (.ref l) (.int k u)) := by with_unfolding_all rfl) :
    wpAny (model prog w) A (subscriptTail value slice (.ref l) (.int k u)) Q E s := by
  have hl := News.isList N hm
  have hk : k = 0 ∨ k = 1 ∨ k = 2 := by omega
  rcases hk with rfl | rfl | rfl
  · exact tail_any hl.typeIs slot_list_getitem.lookup (wpAny_getItem_list hl (by decide) (by decide) rfl (h _ _ (.inl rfl) (by decide))) hs
  · exact tail_any hl.typeIs slot_list_getitem.lookup (wpAny_getItem_list hl (by decide) (by decide) rfl (h _ _ (.inr (.inl rfl)) (by decide))) hs
  · exact tail_any hl.typeIs slot_list_getitem.lookup (wpAny_getItem_list hl (by decide) (by decide) rfl (h _ _ (.inr (.inr rfl)) (by decide))) hs
theorem deed_item {l : Addr} {arr : Array Value} {n i : Nat} {u : Tok} {v : Value} {Q : Value → Shared → Prop}
    (N : News h₀ L s.heap news) (hm : (l, listOf arr n) ∈ news) (hx : arr[i]? = some v) (hi : i ≤ 100) (h : Q v s)
    (hs : subscripted slice false (.ref l) (.int (i : Int) u) = operate [.ref l, .int (i : Int) u] (getItem (.ref l) (.int (i : Int) u)) := by with_unfolding_all rfl) :
    wpAny (model prog w) A (subscriptTail value slice (.ref l) (.int (i : Int) u)) Q E s := by
  have hl := News.isList N hm
  exact tail_any hl.typeIs slot_list_getitem.lookup (wpAny_getItem_list hl (by omega) (by omega) (by simpa using hx) h) hs
theorem row_item {l : Addr} {arr : Array Value} {n na : Nat} {hh c k kk : Int} {e : Str} {u : Tok} {Q : Value → Shared → Prop}
    (N : News h₀ L s.heap news) (hm : (l, listOf arr n) ∈ news) (hrow : Row arr na hh c e k) (h0 : 0 ≤ kk) (h1 : kk < na) (h2 : kk ≤ 100) (h : ∀ t, Q (.str (mailT (hh - kk) kk (c + kk) e k) t) s)
    (hs : subscripted slice false (.ref l) (.int kk u) = operate [.ref l, .int kk u] (getItem (.ref l) (.int kk u)) := by with_unfolding_all rfl) :
    wpAny (model prog w) A (subscriptTail value slice (.ref l) (.int kk u)) Q E s := by
  have hl := News.isList N hm
  obtain ⟨t, ht⟩ := hrow.get h0 h1
  exact tail_any hl.typeIs slot_list_getitem.lookup (wpAny_getItem_list hl h0 (by omega) ht (h t)) hs
theorem row_ne {a b : Addr} {xs ys : Array Value} {n₁ n₂ na : Nat} {hh c k : Int} {e : Str} {Q : Value → Shared → Prop} (N : News h₀ L s.heap news) (ha : (a, listOf xs n₁) ∈ news) (hb : (b, listOf ys n₂) ∈ news) (ra : Row xs na hh c e k) (rb : Row ys na hh c e k) (hu : A.units < cLine)
    (h : Q (.bool false) s) : wpAny (model prog w) A (compareOp .NotEq (.ref a) (.ref b)) Q E s := by
  refine SeqAt.RcNeAt.lists (e := fun _ => true) (News.isList N ha) (News.isList N hb) (ra.1.trans rb.1.symm) hu (fun j h1 h2 => ?_) prog w E Q ?_
  · obtain ⟨t, ht⟩ := ra.2 j (by rw [← ra.1]; exact h1)
    obtain ⟨t', ht'⟩ := rb.2 j (by rw [← ra.1]; exact h1)
    have e1 : xs[j] = .str (mailT (hh - j) j (c + j) e k) t := (Array.getElem?_eq_some_iff.mp ht).2
    have e2 : ys[j] = .str (mailT (hh - j) j (c + j) e k) t' := (Array.getElem?_eq_some_iff.mp ht').2
    rw [e1, e2]
    have := SeqAt.EqAt.str_str (A := A.in1) (s := s) (mailT (hh - j) j (c + j) e k) t (mailT (hh - j) j (c + j) e k) t'
    rw [beq_self_eq_true] at this
    exact this
  · have : ((List.range xs.size).all fun _ => true) = true := by simp
    rw [this]
    exact h
end
end Mine
end

-- part W7
section
open PySem PySem.W PyProof.Rows PySem.Spec PySem.Calls
namespace Mine
def HoldT {α : Type} (t : Sem α) : Sem α := t
theorem HoldT.mk {α : Type} {M : Model} {A : Around} {t : Sem α} {Q : α → Shared → Prop} {E : Value → Shared → Prop} {s : Shared} (h : wpAny M A (HoldT t) Q E s) : wpAny M A t Q E s := h
theorem HoldT.out {α : Type} {M : Model} {A : Around} {t : Sem α} {Q : α → Shared → Prop} {E : Value → Shared → Prop} {s : Shared} (h : wpAny M A t Q E s) : wpAny M A (HoldT t) Q E s := h
theorem one_row {e : Str} {k : Int} {t : Tok} : Row #[.str (mailT 0 0 0 e k) t] 1 0 0 e k := by
  have := Row.push (u := t) (Row.nil (h := 0) (c := 0) (k := k) (e := e)) (b := 0) (d := 0) (t := 0) (by decide) (by decide) (by decide)
  exact this

local macro_rules | `(tactic| walk_at "call ref") => `(tactic| (k_here; (with_reducible show wpAny _ _ (call (Value.ref 69) _) _ _ _); k_dflt (refine' mail_call ?kb ?kd' ?kt ?km ?ke _ _ _ _ _ _ _ _ _ _ _ _ _ _ _ _ _ _ ?k1 ?k2 ?k3 ?k4 ?k5 ?kK ?kd ?ku ?_); (case kb => first | omega | decide); (case kd' => first | omega | decide); (case kt => first | omega | decide); (case km => first | omega | exact fmod3' _); (case ke => first | omega | exact Ending.len (by k_asm) | decide); (case k1 => k_dflt k_asm); (case k2 => k_dflt k_asm); (case k3 => k_dflt k_asm); (case k4 => k_dflt k_asm); (case k5 => k_dflt k_asm); (case kK => exact rfl); (case kd => ktr_room); (case ku => ktr_units); intro t9 h9 tk9 F9 N9; (try dsimp only); (try k_fold)))
local macro_rules | `(tactic| walk_at "call ref") => `(tactic| (k_here; (with_reducible show wpAny _ _ (call (Value.ref 62) _) _ _ _); k_dflt (refine' done_mail ?ke ?kdd ?kb ?kd' ?kt ?km _ _ _ _ _ _ _ _ _ _ _ _ _ _ _ _ _ _ ?k1 ?k2 ?k3 ?k4 ?k5 ?kK ?kd ?ku ?_); (case ke => k_asm); (case kdd => first | k_asm | decide); (case kb => omega); (case kd' => omega); (case kt => omega); (case km => first | omega | exact fmod3' _); (case k1 => k_dflt k_asm); (case k2 => k_dflt k_asm); (case k3 => k_dflt k_asm); (case k4 => k_dflt k_asm); (case k5 => k_dflt k_asm); (case kK => exact rfl); (case kd => ktr_room); (case ku => ktr_units); intro b9 d9 t9 h9 tk9 hS9 F9 N9; (have hS8 := hS9); (unfold Step at hS9); (try dsimp only); (try k_fold)))
local macro_rules | `(tactic| walk_at "subscriptTail List") => `(tactic| (k_here; (with_reducible show wpAny _ _ (subscriptTail (PySem.Expr.List _ _) _ (Value.ref _) (Value.int _ _)) _ _ _); (with_unfolding_all refine' pick3 ?k1 ?k2 ?k3 ?k4 ?_ ?k6; (case k1 => k_dflt k_asm); (case k2 => k_mem); (case k3 => exact (fmod3 _).1); (case k4 => exact Int.lt_of_le_of_lt (fmod3 _).2 (by decide)); (case k6 => with_unfolding_all rfl)); intro e9 t9 hE9 hL9))
local macro_rules | `(tactic| walk_at "subscriptTail Name Name ref int") => `(tactic| (k_here; (with_reducible show wpAny _ _ (subscriptTail _ _ (Value.ref _) (Value.int (Nat.cast _) _)) _ _ _); (with_unfolding_all refine' deed_item ?k1 ?k2 ?k3 ?k4 ?_ ?k6; (case k1 => k_dflt k_asm); (case k2 => k_mem); (case k3 => k_dflt k_asm); (case k4 => omega); (case k6 => with_unfolding_all rfl))))
local macro_rules | `(tactic| walk_at "call builtin:str.index") => `(tactic| (k_here; (with_reducible show wpAny _ _ (call (Value.builtin _) [Value.str (mailT _ _ _ _ _) _, Value.str _ _]) _ _ _); k_dflt (refine' mail_index ?k1 ?k2 ?k3 ?k4 ?_; (case k1 => omega); (case k2 => omega); (case k3 => omega); (case k4 => first | omega | exact (fmod3 _).1))))
theorem row_cast {gs : Array Value} {n n' : Nat} {h c k : Int} {e : Str} (r : Row gs n h c e k) (e' : n = n') : Row gs n' h c e k := e' ▸ r
theorem small_size {n : Nat} (h : n ≤ 1000) : n ≤ sizeLine := by rw [sizeLine_eq]; omega
local macro_rules | `(tactic| walk_at "call builtin:list.append") => `(tactic| (k_here; (with_reducible show wpAny _ _ (call (Value.builtin _) [Value.ref _, Value.str (mailT _ _ _ _ _) _]) _ _ _); k_dflt (refine' append_K ?k1 ?k2 ?k3 ?_ ?z; (case k1 => k_asm); (case k2 => k_asm); (case k3 => k_upd); (case z => (refine small_size ?_; (try simp only [Array.size_push]); omega)); k_whole); intro h' F' N'; (try k_sweep)))
theorem mail_ne {prog : Program} {w : World} {A : Around} {E : Value → Shared → Prop} {s : Shared} {b d t b' d' t' k : Int} {e : Str} {u v : Tok} {Q : Value → Shared → Prop} (hb : b = b') (hd : d = d') (ht : t = t') (h : Q (.bool false) s) :
    wpAny (model prog w) A (compareOp .NotEq (.str (mailT b d t e k) u) (.str (mailT b' d' t' e k) v)) Q E s := by
  subst hb hd ht
  have := SeqAt.RcNeAt.str_str (A := A) (s := s) (mailT b d t e k) u (mailT b d t e k) v
  rw [beq_self_eq_true] at this
  exact this prog w E Q h
local macro_rules | `(tactic| walk_at "compareOp NotEq ref ref") => `(tactic| (k_here; (with_reducible show wpAny _ _ (compareOp CmpOp.NotEq (Value.ref _) (Value.ref _)) _ _ _); k_dflt (refine' row_ne ?k1 ?k2 ?k3 ?k4 ?k5 ?ku ?_; (case k1 => k_asm); (case k2 => k_mem); (case k3 => k_mem); (case k4 => assumption); (case k5 => assumption); (case ku => first | k_units | ktr_units))))
local macro_rules | `(tactic| walk_at "compareOp NotEq str str") => `(tactic| (k_here; (with_reducible show wpAny _ _ (compareOp CmpOp.NotEq (Value.str _ _) (Value.str _ _)) _ _ _); k_dflt (refine' mail_ne ?k1 ?k2 ?k3 ?_; (case k1 => omega); (case k2 => omega); (case k3 => omega))))
local macro_rules | `(tactic| walk_at "subscriptTail Name UnaryOp ref int") => `(tactic| (k_here; (with_reducible show wpAny _ _ (subscriptTail _ _ (Value.ref _) (Value.int _ _)) _ _ _); (with_unfolding_all refine' row_item ?k1 ?k2 ?k3 ?k4 ?k5 ?k7 ?_ ?k6; (case k1 => k_asm); (case k2 => k_mem); (case k3 => assumption); (case k4 => omega); (case k5 => omega); (case k7 => omega); (case k6 => with_unfolding_all rfl)); intro t9))
local macro_rules | `(tactic| walk_at "OnePost") => `(tactic| (dsimp only [OnePost]))
local macro_rules | `(tactic| walk_at "pyIter ref") => `(tactic| (first
  | ((with_reducible show wpAny _ _ (pyIter (Value.ref _)) (fun it s₂ => LoopAtV _ _ _ _ _ (Str.ofString "turn") _ _ _ it s₂) _ _); refine HoldT.mk ?_)
  | ((with_reducible show wpAny _ _ (pyIter (Value.ref _)) (fun it s₂ => LoopAtV _ _ _ _ _ (Str.ofString "one") _ _ _ it s₂) _ _); refine HoldT.mk ?_)
  | ((with_reducible show wpAny _ _ (pyIter (Value.ref _)) (fun it s₂ => LoopAtV _ _ _ _ _ (Str.ofString "dots") _ _ _ it s₂) _ _); refine HoldT.mk ?_)))

set_option maxHeartbeats 8000000 in
theorem whole : PySem.Challenge.rw_pe0020_01.Holds := Mine.hd (by
  (w_strict (
    k_go0; (all_goals try k_fold); k_steps
    refine HoldT.out ?_
    with_unfolding_all refine' out_range [Str.ofString "ahead", Str.ofString "grown", Str.ofString "one", Str.ofString "deed", Str.ofString "new", Str.ofString "due", Str.ofString "dots", Str.ofString "takes"] ?kh ?kr ?ks ?kz ?kF ?kN ?kDe ?kl ?kD ?kne ?krow ?ka ?kb ?kc ?kd ?turn ?done
    case kh => rfl
    case kr => k_asm
    case kz => exact rs_nat _
    case ks => exact small_nat (by simp only [List.length_map] at *; omega) (by omega)
    case kF => k_asm
    case kN => k_asm
    case ka => rfl
    case kb => rfl
    case kc => rfl
    case kd => rfl
    case kDe => rfl
    case kl => k_mem
    case kD => k_mem
    case kne => k_ne
    case krow => exact one_row
    case done =>
      intro u hp tk F1
      dsimp only [envOf] at F1
      k_steps
    case turn =>
      intro i t lev low c tm tl tlo lm ws nw u hp tk I oI hi hn1 hn2 hn3 hinv hrow F1 N1
      dsimp only [envOf] at F1 N1
      unfold Inv at hinv
      obtain ⟨v1, v2, v3, v4, v5, v6⟩ := hinv
      obtain ⟨dd, td, hx, hdd⟩ := deed_at (i := i) (by k_asm) (by rw [List.length_append]; exact hi)
      have hi' : i < 10 := by simp only [List.length_map] at *; omega
      (try k_fold)
      k_steps
      refine HoldT.out ?_
      rename Fr _ _ _ _ => lF
      rename Step _ _ _ _ _ => hS
      generalize hlow : (if lev + (1 - 2 * dd) < low then lev + (1 - 2 * dd) else low) = low2 at lF
      obtain ⟨c2, x1, x2, x3, x4, x5, y1, y2, y3, y4, y5, y6⟩ := step_facts hdd hS hlow v1 v2 v3 v4 v5 v6
      clear hlow hS
      subst x2 x3
      with_unfolding_all refine' row_list (h' := lev + (1 - 2 * dd) - 2 * low2) (c' := c2) [Str.ofString "deed", Str.ofString "new"] (cnt (lev - 2 * low) (lev + (1 - 2 * dd) - 2 * low2)) ?k0 ?kh ?kl ?kr ?kF ?kN ?tu ?dn
      case k0 => exact cnt_zero (by omega)
      case kh => rfl
      case kF => k_asm
      case kN => k_asm
      case kl => k_mem
      case kr => k_asm
      case dn =>
        intro gs ep u' hp' tk' hgs F2 N2
        dsimp only [envOf] at F2 N2
        rw [cnt_high (by omega)] at hgs
        (try k_fold)
        k_steps
        refine HoldT.out ?_
        with_unfolding_all refine' row_range [Str.ofString "takes"] hgs ?qh ?qr ?qs ?qz ?qF ?qN ?qt ?qd
        case qh => rfl
        case qr => k_asm
        case qz => exact rs_int (by omega)
        case qs => exact small_nat (by omega) (by omega)
        case qF => k_asm
        case qN => k_asm
        case qt =>
          intro j t' ds ep' u'' hp'' tk'' I' oI' hj hlt hds F3 N3
          dsimp only [envOf] at F3 N3
          have hlt0 := hlt
          k_lt hlt
          have hdz : ds.size ≤ 20 := by rw [hds.1]; omega
          have hfd : ((i : Int) + 1 - (lev + (1 - 2 * dd) - 2 * low2)).fdiv 2 = c2 := fdiv2 (by omega)
          (try k_fold)
          k_steps
          refine' row_end ?F ?N ?hI ?hg ?hr ?hne ?hm (row_cast ?hrow ?hn)
          (case F => k_dflt k_asm)
          (case N => k_dflt k_asm)
          (case hI => k_mem)
          (case hg => k_mem)
          (case hr => k_allIn)
          (case hne => exact hlt0)
          (case hm => (intro y h1 h2; (have h3 : y ≠ Str.ofString "takes" := by simpa using h2); simp only [h1, h2, h3, if_false, Bool.false_eq_true]))
          (case hrow => exact Row.push hds (by omega) (by omega) (by omega))
          (case hn => rfl)
        case qd =>
          intro ds ep' u'' hp'' tk'' hds F3 N3
          dsimp only [envOf] at F3 N3
          (try k_fold)
          k_steps
          refine' out_end (c := c2) ?F ?N ?hI ?hg ?hD ?h1 ?h2 ?h3 ?hinv ?hrow ?ha ?hb ?hc ?hd ?hm
          (case F => k_dflt k_asm)
          (case N => k_dflt k_asm)
          (case hb => rfl)
          (case hc => rfl)
          (case hd => rfl)
          (case hI => k_mem)
          (case hg => k_mem)
          (case hD => k_mem)
          (case h1 => k_ne)
          (case h2 => k_ne)
          (case h3 => exact hn3)
          (case hinv => (unfold Inv; omega))
          (case hrow => exact hgs)
          (case ha => (rw [← x4]; rfl))
          (case hm => (intro y h1 h2 h3 h4 h5 h6; (have h7 := h6); (simp only [List.contains_cons, List.contains_nil, Bool.or_false, Bool.or_eq_false_iff, beq_eq_false_iff_ne, ne_eq] at h7); simp [h1, h2, h3, h4, h5, h6, h7]))
      case tu =>
        intro j t' gs ep u' hp' tk' I' oI' hj hlt hgs F2 N2
        dsimp only [envOf] at F2 N2
        have hlt0 := hlt
        k_lt hlt
        rw [cnt_low (by omega)] at hgs
        have hgz : gs.size ≤ 20 := by rw [hgs.1]; omega
        (try k_fold)
        k_steps
        all_goals (rcases x5 with ⟨x5, x6⟩ | ⟨x5, x6⟩ <;> by_cases hjh : (j : Int) < lev - 2 * low)
        all_goals first
          | (exfalso; omega)
          | (refine' row_end ?F ?N ?hI ?hg ?hr ?hne ?hm (row_cast ?hrow ?hn)
             (case F => k_dflt k_asm)
             (case N => k_dflt k_asm)
             (case hI => k_mem)
             (case hg => k_mem)
             (case hr => k_allIn)
             (case hne => exact hlt0)
             (case hm => (intro y h1 h2; (have h3 : y ≠ Str.ofString "deed" ∧ y ≠ Str.ofString "new" := by simpa using h2); simp only [h1, h2, h3.1, h3.2, if_false, Bool.false_eq_true]))
             (case hrow => first
                | exact hgs
                | exact Row.push (Row.push hgs (by omega) (by omega) (by omega)) (by omega) (by omega) (by omega)
                | exact Row.push hgs (by omega) (by omega) (by omega))
             (case hn => (unfold cnt; split <;> omega)))
        )))
end Mine
end

theorem PySem.Challenge.cw_pe0020_01_holds : PySem.Challenge.rw_pe0020_01.Holds :=
  Mine.whole
