import PyProof.Rows.All
import Wide.All
import OpenK.AllK
import Wide.FinOn
import PySem.Challenge.RW_pe0013_01
set_option Elab.async false

/-! TopA -/
section
open PySem PySem.W PyProof.Rows
namespace Mine
set_option maxRecDepth 100000 in
set_option maxHeartbeats 8000000 in
open_top hd for PySem.Challenge.rw_pe0013_01
end Mine
end

/-! Sre1 -/
section
open PySem PySem.Sre
namespace Mine
set_option linter.unusedSimpArgs false

def code1 : Array Nat := #[14, 4, 0, 1, 1, 6, 1, 16, 46, 1]
def code2 : Array Nat := #[14, 9, 4, 1, 2, 16, 10, 16, 13, 0, 7, 7, 16, 13, 16, 10, 15, 18, 5, 16, 10, 15, 13, 11, 16, 13, 5, 5, 0, 16, 10, 1, 15, 2, 0, 1]

def stepN : Nat → M → M
  | 0, m => m
  | n + 1, m => stepN n m.step
theorem stepN_done {m : M} (h : m.outcome.isSome = true) : ∀ n, stepN n m = m
  | 0 => rfl
  | n + 1 => by
    have e : m.step = m := by unfold M.step; rw [if_pos h]
    rw [stepN, e, stepN_done h n]
theorem runFor_eq : ∀ (n : Nat) (m : M), M.runFor n m = stepN n m
  | 0, m => rfl
  | n + 1, m => by
    by_cases h : m.outcome.isSome = true
    · rw [stepN_done h, M.runFor, if_pos h]
    · rw [M.runFor, if_neg h, runFor_eq n, stepN]
theorem stepN_add : ∀ (a b : Nat) (m : M), stepN (a + b) m = stepN b (stepN a m)
  | 0, b, m => by rw [Nat.zero_add]; rfl
  | a + 1, b, m => by rw [Nat.add_right_comm, stepN, stepN, stepN_add a b]

/-- what a state at a place of the first pattern is -/
def At1 (text : Array Nat) (lim s : Nat) (m : M) : Prop :=
  m.code = code1 ∧ m.text = text ∧ m.lim = lim ∧ m.start = s ∧ m.lastStart = lim ∧ m.wholeText = false ∧ m.mustAdvance = false ∧ m.pc = 5 ∧ m.pos = s ∧
  (∃ b, m.frames = [{ wait := .nextStart, pc := 5, pos := s, outermost := b }]) ∧ m.weight = 1 ∧ m.answer = none ∧ m.outcome = none

def bol (text : Array Nat) (s : Nat) : Bool := s == 0 || text.getD (s - 1) 0 == 10

theorem at1_match {text : Array Nat} {lim s : Nat} {m : M} (h : At1 text lim s m) (hb : bol text s = true) (hl : s < lim) (hd : text.getD s 0 = 46) :
    (stepN 5 m).outcome = some .matched ∧ (stepN 5 m).start = s ∧ (stepN 5 m).handed = s + 1 := by
  obtain ⟨h1, h2, h3, h4, h5, h6, h7, h8, h9, ⟨b, h10⟩, h11, h12, h13⟩ := h
  obtain ⟨code, text', lim', start, lastStart, wholeText, mustAdvance, pc, pos, handed, outermost, marks, lastmark, lastindex, loops, inner, frames, weight, answer, seen, outcome⟩ := m
  dsimp only at h1 h2 h3 h4 h5 h6 h7 h8 h9 h10 h11 h12 h13
  subst h1 h2 h4 h6 h7 h8 h9 h10 h11 h12 h13
  subst h3
  subst h5
  have hn : ¬ (lastStart ≤ pos) := Nat.not_le.mpr hl
  simp [bol] at hb
  simp at hd
  simp [stepN, M.step, M.exec, M.word, code1, ops, M.isAt, hb, hn, hd, M.say, accepts, itemWidth, M.resume, M.putBack]

theorem at1_nobol {text : Array Nat} {lim s : Nat} {m : M} (h : At1 text lim s m) (hb : bol text s = false) (hl : s < lim) :
    At1 text lim (s + 1) (stepN 2 m) := by
  obtain ⟨h1, h2, h3, h4, h5, h6, h7, h8, h9, ⟨b, h10⟩, h11, h12, h13⟩ := h
  obtain ⟨code, text', lim', start, lastStart, wholeText, mustAdvance, pc, pos, handed, outermost, marks, lastmark, lastindex, loops, inner, frames, weight, answer, seen, outcome⟩ := m
  dsimp only at h1 h2 h3 h4 h5 h6 h7 h8 h9 h10 h11 h12 h13
  subst h1 h2 h4 h6 h7 h8 h9 h10 h11 h12 h13
  subst h3
  subst h5
  simp [bol] at hb
  simp [stepN, M.step, M.exec, M.word, code1, ops, M.isAt, hb, hl, M.say, M.resume, M.putBack, At1, M.attemptFrom, M.hasFirstSet, M.attemptAt, M.attempt]

theorem at1_nodot {text : Array Nat} {lim s : Nat} {m : M} (h : At1 text lim s m) (hb : bol text s = true) (hl : s < lim) (hd : text.getD s 0 ≠ 46) :
    At1 text lim (s + 1) (stepN 3 m) := by
  obtain ⟨h1, h2, h3, h4, h5, h6, h7, h8, h9, ⟨b, h10⟩, h11, h12, h13⟩ := h
  obtain ⟨code, text', lim', start, lastStart, wholeText, mustAdvance, pc, pos, handed, outermost, marks, lastmark, lastindex, loops, inner, frames, weight, answer, seen, outcome⟩ := m
  dsimp only at h1 h2 h3 h4 h5 h6 h7 h8 h9 h10 h11 h12 h13
  subst h1 h2 h4 h6 h7 h8 h9 h10 h11 h12 h13
  subst h3
  subst h5
  have hn : ¬ (lastStart ≤ pos) := Nat.not_le.mpr hl
  simp [bol] at hb
  simp at hd
  have hd' : (text'[pos]?.getD 0 == 46) = false := by simpa using hd
  simp [stepN, M.step, M.exec, M.word, code1, ops, M.isAt, hb, hn, hl, hd', accepts, itemWidth, M.say, M.resume, M.putBack, At1, M.attemptFrom, M.hasFirstSet, M.attemptAt, M.attempt]

theorem at1_end {text : Array Nat} {lim : Nat} {m : M} (h : At1 text lim lim m) : (stepN 5 m).outcome = some .failed := by
  obtain ⟨h1, h2, h3, h4, h5, h6, h7, h8, h9, ⟨b, h10⟩, h11, h12, h13⟩ := h
  obtain ⟨code, text', lim', start, lastStart, wholeText, mustAdvance, pc, pos, handed, outermost, marks, lastmark, lastindex, loops, inner, frames, weight, answer, seen, outcome⟩ := m
  dsimp only at h1 h2 h3 h4 h5 h6 h7 h8 h9 h10 h11 h12 h13
  subst h1 h2 h4 h6 h7 h8 h9 h10 h11 h12 h13
  subst h3
  subst h5
  by_cases hb : lastStart = 0 ∨ text'[lastStart - 1]?.getD 0 = 10
  · simp [stepN, M.step, M.exec, M.word, code1, ops, M.isAt, hb, accepts, itemWidth, M.say, M.resume, M.putBack]
  · simp at hb
    simp [stepN, M.step, M.exec, M.word, code1, ops, M.isAt, hb, accepts, itemWidth, M.say, M.resume, M.putBack]

/-- what a state at an admitted place of the second pattern is -/
def At2 (text : Array Nat) (lim s : Nat) (m : M) : Prop :=
  m.code = code2 ∧ m.text = text ∧ m.lim = lim ∧ m.start = s ∧ m.lastStart = lim ∧ m.wholeText = false ∧ m.mustAdvance = false ∧ m.pc = 10 ∧ m.pos = s ∧
  (∃ b, m.frames = [{ wait := .nextStart, pc := 10, pos := s, outermost := b }]) ∧ m.weight = 1 ∧ m.answer = none ∧ m.outcome = none ∧ m.inner = none

theorem at2_crlf {text : Array Nat} {lim s : Nat} {m : M} (h : At2 text lim s m) (hl : s + 1 < lim) (hd : text.getD s 0 = 13) (he : text.getD (s + 1) 0 = 10) :
    (stepN 8 m).outcome = some .matched ∧ (stepN 8 m).start = s ∧ (stepN 8 m).handed = s + 2 := by
  obtain ⟨h1, h2, h3, h4, h5, h6, h7, h8, h9, ⟨b, h10⟩, h11, h12, h13, h14⟩ := h
  obtain ⟨code, text', lim', start, lastStart, wholeText, mustAdvance, pc, pos, handed, outermost, marks, lastmark, lastindex, loops, inner, frames, weight, answer, seen, outcome⟩ := m
  dsimp only at h1 h2 h3 h4 h5 h6 h7 h8 h9 h10 h11 h12 h13 h14
  subst h1 h2 h4 h6 h7 h8 h9 h10 h11 h12 h13 h14
  subst h3
  subst h5
  have hn : ¬ (lastStart ≤ pos) := by omega
  have hn' : ¬ (lastStart ≤ pos + 1) := by omega
  simp at hd he
  simp [stepN, M.step, M.exec, M.word, code2, ops, hn, hn', hd, he, M.say, accepts, itemWidth, M.resume, M.putBack, M.alternative, M.attempt, M.keep, M.frame]

theorem at2_lf {text : Array Nat} {lim s : Nat} {m : M} (h : At2 text lim s m) (hl : s < lim) (hd : text.getD s 0 = 10) :
    (stepN 9 m).outcome = some .matched ∧ (stepN 9 m).start = s ∧ (stepN 9 m).handed = s + 1 := by
  obtain ⟨h1, h2, h3, h4, h5, h6, h7, h8, h9, ⟨b, h10⟩, h11, h12, h13, h14⟩ := h
  obtain ⟨code, text', lim', start, lastStart, wholeText, mustAdvance, pc, pos, handed, outermost, marks, lastmark, lastindex, loops, inner, frames, weight, answer, seen, outcome⟩ := m
  dsimp only at h1 h2 h3 h4 h5 h6 h7 h8 h9 h10 h11 h12 h13 h14
  subst h1 h2 h4 h6 h7 h8 h9 h10 h11 h12 h13 h14
  subst h3
  subst h5
  have hn : ¬ (lastStart ≤ pos) := by omega
  simp at hd
  simp [stepN, M.step, M.exec, M.word, code2, ops, hn, hd, M.say, accepts, itemWidth, M.resume, M.putBack, M.alternative, M.attempt, M.keep, M.frame]
end Mine
end

/-! Sre2 -/
section
open PySem PySem.Sre
namespace Mine
set_option linter.unusedSimpArgs false

/-- the end of a search: failed, or matched from b to e -/
def Ended (m : M) : Option (Nat × Nat) → Prop
  | none => m.outcome = some .failed
  | some (b, e) => m.outcome = some .matched ∧ m.start = b ∧ m.handed = e

/-- the search from p ends so -/
def Found (code text : Array Nat) (p : Nat) (r : Option (Nat × Nat)) : Prop :=
  ∃ n, n ≤ 3 * text.size + 20 ∧ Ended (stepN n (forSearch code text 0 p text.size false)) r

/-- the state that a search begins with -/
def begins (code text : Array Nat) (pos lim : Nat) : M :=
  { code, text, lim, start := pos, pc := (header code).2, pos, handed := pos, marks := Array.replicate (2 * 0) none, mustAdvance := false,
    seen := if (header code).2 == 0 then {} else ({} : Seen).add 14 }
theorem forSearch_eq (code text : Array Nat) (pos lim : Nat) : forSearch code text 0 pos lim false =
    (if pos > lim || lim - pos < (header code).1 then (begins code text pos lim).say false
     else { begins code text pos lim with lastStart := if (header code).1 > 1 && !((header code).2 != 0 && code.getD 2 0 &&& 5 != 0) then max pos (lim - ((header code).1 - 1)) else lim }.attemptFrom pos true) := rfl

def next1 (text : Array Nat) : Nat → Nat → Option (Nat × Nat)
  | 0, _ => none
  | k + 1, p => if bol text p && text.getD p 0 == 46 then some (p, p + 1) else next1 text k (p + 1)

def next2 (text : Array Nat) : Nat → Nat → Option (Nat × Nat)
  | 0, _ => none
  | k + 1, p => if text.getD p 0 == 13 then some (p, p + 2) else if text.getD p 0 == 10 then some (p, p + 1) else next2 text k (p + 1)

theorem at1_runs {text : Array Nat} {lim : Nat} : ∀ (k s : Nat) (m : M), s + k = lim → At1 text lim s m → ∃ n, n ≤ 3 * k + 5 ∧ Ended (stepN n m) (next1 text k s)
  | 0, s, m, e, h => ⟨5, by omega, by
      have e' : s = lim := by omega
      subst e'; exact at1_end h⟩
  | k + 1, s, m, e, h => by
    unfold next1
    cases hb : bol text s with
    | false =>
      obtain ⟨n, hn, r⟩ := at1_runs k (s + 1) _ (by omega) (at1_nobol h hb (by omega))
      exact ⟨2 + n, by omega, by rw [stepN_add]; simpa using r⟩
    | true =>
      by_cases hd : text.getD s 0 = 46
      · refine ⟨5, by omega, ?_⟩
        rw [if_pos (by rw [hd]; rfl)]
        exact at1_match h hb (by omega) hd
      · obtain ⟨n, hn, r⟩ := at1_runs k (s + 1) _ (by omega) (at1_nodot h hb (by omega) hd)
        refine ⟨3 + n, by omega, ?_⟩
        rw [stepN_add, if_neg (by simpa using hd)]; exact r

theorem found1 (text : Array Nat) (p : Nat) (hp : p ≤ text.size) : Found code1 text p (next1 text (text.size - p) p) := by
  unfold Found
  rw [forSearch_eq]
  by_cases h : p = text.size
  · subst h
    refine ⟨1, by omega, ?_⟩
    rw [Nat.sub_self]
    simp [next1, Ended, begins, header, code1, ops, stepN, M.say, M.step]
  · have hlt : p < text.size := by omega
    have h1 : ¬ (text.size < p) := by omega
    have h2 : ¬ (text.size - p = 0) := by omega
    have A : At1 text text.size p ({ begins code1 text p text.size with lastStart := text.size }.attemptFrom p true) := by
      simp [begins, header, code1, ops, At1, M.attemptFrom, M.hasFirstSet, M.attemptAt, M.attempt]
    obtain ⟨n, hn, r⟩ := at1_runs (text.size - p) p _ (by omega) A
    refine ⟨n, by omega, ?_⟩
    rw [if_neg (by simp [header, code1, ops]; omega)]
    exact r

theorem inSet2 (c : Nat) (seen : Seen) : ∃ seen', inSet code2 c 36 5 true seen = .ok (c == 10 || c == 13, seen') := by
  by_cases h1 : c = 10
  · subst h1; exact ⟨_, rfl⟩
  · by_cases h2 : c = 13
    · subst h2; exact ⟨_, rfl⟩
    · simp [inSet, code2, ops, h1, h2]

/-- no return stands alone -/
def Paired2 (text : Array Nat) : Prop := ∀ i, text.getD i 0 = 13 → i + 1 < text.size ∧ text.getD (i + 1) 0 = 10

theorem admitted2 {m : M} (hc : m.code = code2) : ∀ (k s : Nat) (seen : Seen) (f : Nat), s + k = m.lim → k < f →
    ∃ seen', M.admitted m f s seen = .ok ((next2 m.text k s).map (·.1), seen')
  | 0, s, seen, f, e, hf => by
    obtain ⟨f, rfl⟩ : ∃ g, f = g + 1 := ⟨f - 1, by omega⟩
    refine ⟨seen, ?_⟩
    rw [M.admitted, if_pos (by omega)]; rfl
  | k + 1, s, seen, f, e, hf => by
    obtain ⟨f, rfl⟩ : ∃ g, f = g + 1 := ⟨f - 1, by omega⟩
    rw [M.admitted, if_neg (by omega), hc]
    obtain ⟨seen', hi⟩ := inSet2 (m.text.getD s 0) seen
    have hi' : inSet code2 (m.text.getD s 0) code2.size 5 true seen = _ := hi
    rw [hi']
    unfold next2
    by_cases h1 : m.text.getD s 0 = 13
    · rw [if_pos (by simp [h1]), h1]; exact ⟨seen', rfl⟩
    · rw [if_neg (by simpa using h1)]
      by_cases h2 : m.text.getD s 0 = 10
      · rw [if_pos (by simp [h2]), h2]; exact ⟨seen', rfl⟩
      · rw [if_neg (by simpa using h2)]
        have e0 : (m.text.getD s 0 == 10 || m.text.getD s 0 == 13) = false := by simp only [beq_eq_false_iff_ne.mpr h1, beq_eq_false_iff_ne.mpr h2]; rfl
        rw [e0]
        exact admitted2 hc k (s + 1) seen' f (by omega) (by omega)

theorem next2_at {text : Array Nat} : ∀ (k p : Nat) {b e : Nat}, next2 text k p = some (b, e) → p ≤ b ∧ b < p + k ∧ ((text.getD b 0 = 13 ∧ e = b + 2) ∨ (text.getD b 0 = 10 ∧ e = b + 1))
  | 0, p, b, e, h => by cases h
  | k + 1, p, b, e, h => by
    unfold next2 at h
    by_cases h1 : text.getD p 0 = 13
    · rw [if_pos (by simp [h1])] at h
      cases h; exact ⟨Nat.le_refl _, by omega, .inl ⟨h1, rfl⟩⟩
    · rw [if_neg (by simpa using h1)] at h
      by_cases h2 : text.getD p 0 = 10
      · rw [if_pos (by simp [h2])] at h
        cases h; exact ⟨Nat.le_refl _, by omega, .inr ⟨h2, rfl⟩⟩
      · rw [if_neg (by simpa using h2)] at h
        obtain ⟨a, c, d⟩ := next2_at k (p + 1) h
        exact ⟨by omega, by omega, d⟩

theorem found2 (text : Array Nat) (p : Nat) (hp : p ≤ text.size) (hpair : Paired2 text) : Found code2 text p (next2 text (text.size - p) p) := by
  unfold Found
  rw [forSearch_eq]
  by_cases h : p = text.size
  · subst h
    refine ⟨1, by omega, ?_⟩
    rw [Nat.sub_self]
    simp [next2, Ended, begins, header, code2, ops, stepN, M.say, M.step]
  · have hlt : p < text.size := by omega
    rw [if_neg (by simp [header, code2, ops]; omega)]
    have e2 : ∀ x y : Nat, (if (header code2).1 > 1 && !((header code2).2 != 0 && code2.getD 2 0 &&& 5 != 0) then x else y) = y := fun _ _ => rfl
    rw [e2]
    obtain ⟨seen', ha⟩ := admitted2 (m := { begins code2 text p text.size with lastStart := text.size }) rfl (text.size - p) p (begins code2 text p text.size).seen (text.size + 1 - p) (by show p + _ = text.size; omega) (by omega)
    have ha' : M.admitted { begins code2 text p text.size with lastStart := text.size } (text.size + 1 - p) p (begins code2 text p text.size).seen = .ok ((next2 text (text.size - p) p).map (·.1), seen') := ha
    unfold M.attemptFrom
    have e3 : (!M.hasFirstSet { begins code2 text p text.size with lastStart := text.size }) = false := rfl
    rw [e3]
    simp only [Bool.false_eq_true, if_false]
    show ∃ n, n ≤ _ ∧ Ended (stepN n (match M.admitted { begins code2 text p text.size with lastStart := text.size } (text.size + 1 - p) p (begins code2 text p text.size).seen with
      | .ok (some s, seen) => M.attemptAt { begins code2 text p text.size with lastStart := text.size, mustAdvance := false, seen := seen } s true
      | .ok (none, seen) => M.say { begins code2 text p text.size with lastStart := text.size, seen := seen } false
      | .error why => M.stick { begins code2 text p text.size with lastStart := text.size } why)) _
    rw [ha']
    cases hn : next2 text (text.size - p) p with
    | none =>
      refine ⟨1, by omega, ?_⟩
      simp [Ended, begins, header, code2, ops, stepN, M.say, M.step]
    | some be =>
      obtain ⟨b, e⟩ := be
      obtain ⟨h1, h2, h3⟩ := next2_at _ _ hn
      have A : At2 text text.size b (M.attemptAt { begins code2 text p text.size with lastStart := text.size, mustAdvance := false, seen := seen' } b true) := by
        simp [begins, header, code2, ops, At2, M.attemptAt, M.attempt]
      rcases h3 with ⟨h3, rfl⟩ | ⟨h3, rfl⟩
      · obtain ⟨h4, h5⟩ := hpair b h3
        exact ⟨8, by omega, at2_crlf A h4 h3 h5⟩
      · exact ⟨9, by omega, at2_lf A (by omega) h3⟩
end Mine
end

/-! SubA -/
section
open PySem PySem.Sre PySem.Builtin PySem.Builtin.Re PyProof.Rows
set_option maxRecDepth 100000
namespace Mine

theorem slot_sub : Slot "re.Pattern" "sub" "re.Pattern.sub" :=
  .of (owner := "re.Pattern") (n := "sub") (by rw [typeLookup_type, builtinLookup_eq_fast]; kernel_rfl) (by decide +kernel) (by decide +kernel) (by decide +kernel)
    (by first | exact .inl (by decide +kernel) | exact .inr (by decide +kernel)) (by rw [isSubtype_type]; kernel_rfl)
theorem entry_sub : entryFor table "re.Pattern.sub" = some Builtin.«re.Pattern.sub» := entryFor_of_fast (by kernel_rfl)
theorem entry_sub_loop : entryFor table "re.Pattern.sub.loop" = some Builtin.«re.Pattern.sub.loop» := entryFor_of_fast (by kernel_rfl)
theorem plain_sub_loop : plainId "re.Pattern.sub.loop" = true := by decide +kernel
theorem args_sub (a b c : Value) : argsOk "re.Pattern.sub" ⟨[a, b, c], []⟩ := by unfold argsOk; kernel_rfl
theorem type_sub : typeOf (.builtin "re.Pattern.sub") = pure (.type "method_descriptor") := by show builtinType _ = _; rw [builtinType_eq_fast]; kernel_rfl
theorem pat_getattribute : typeLookup (.type "re.Pattern") "__getattribute__" = pure (some (.builtin "object.__getattribute__")) := by rw [typeLookup_type, builtinLookup_eq_fast]; kernel_rfl
theorem pat_getattr_none : typeLookup (.type "re.Pattern") "__getattr__" = pure none := by rw [typeLookup_type, builtinLookup_eq_fast]; kernel_rfl
theorem str_call_none : typeLookup (.type "str") "__call__" = pure none := by rw [typeLookup_type, builtinLookup_eq_fast]; kernel_rfl
theorem reNamed3 (a b : Value) : reNamed "re.Pattern.sub" "sub" ["repl", "string", "count"] 2 [a, b] [] = pure [some a, some b, none] := rfl
end Mine
end

/-! SubB -/
section
open PySem PySem.Sre PySem.Builtin PySem.Builtin.Re PyProof.Rows
set_option maxRecDepth 100000
namespace Mine
set_option linter.unusedVariables false
set_option linter.unusedSimpArgs false

/-- a compiled pattern of texts without groups lies there, with this code -/
def IsPat (h : Heap) (p : Addr) (code : Array Nat) : Prop :=
  ∃ o vs tup ot items n, h.get? p = some o ∧ o.cls = .type "re.Pattern" ∧ o.dict = none ∧ o.data = .fields vs ∧ vs.getD 2 .none = rawInt 0 ∧ vs.getD 5 .none = .ref tup ∧ vs.getD 6 .none = rawInt 0 ∧
    h.get? tup = some ot ∧ ot.data = .seq items n ∧ (items.map reRawOf).map (·.toNat) = code
theorem IsPat.keeps {h h' : Heap} {p : Addr} {code : Array Nat} (P : IsPat h p code) (k : ∀ b o, h.get? b = some o → h'.get? b = some o) : IsPat h' p code := by
  obtain ⟨o, vs, tup, ot, items, n, h1, h2, h3, h4, h5, h6, h7, h8, h9, h10⟩ := P
  exact ⟨o, vs, tup, ot, items, n, k _ _ h1, h2, h3, h4, h5, h6, h7, k _ _ h8, h9, h10⟩

section
variable {prog : Program} {w : World} {A : Around} {E : Value → Shared → Prop} {s : Shared}

theorem wp_reDrive {Q : M → Shared → Prop} : ∀ (turns n : Nat) (m : M), n ≤ 4 * turns → (stepN n m).outcome.isSome = true → 0 < turns → Q (stepN n m) s → wpAny (model prog w) A (reDrive turns m) Q E s
  | 0, _, _, _, _, h0, _ => absurd h0 (Nat.lt_irrefl _)
  | turns + 1, n, m, hn, ho, _, h => by
    unfold reDrive
    have e : M.runFor reTurnSteps m = stepN 4 m := runFor_eq 4 m
    rw [e]
    by_cases h4 : n ≤ 4
    · obtain ⟨d, hd⟩ : ∃ d, 4 = n + d := ⟨4 - n, by omega⟩
      have e4 : stepN 4 m = stepN n m := by rw [hd, stepN_add, stepN_done ho]
      simp only [e4, ho, if_true]
      exact wpAny_pure h
    · obtain ⟨d, hd⟩ : ∃ d, n = 4 + d := ⟨n - 4, by omega⟩
      subst hd
      rw [stepN_add] at ho h
      by_cases hs : (stepN 4 m).outcome.isSome = true
      · simp only [hs, if_true]
        rw [stepN_done hs] at h
        exact wpAny_pure h
      · simp only [hs]
        exact wpAny_bind (wpAny_rule (wp_reDrive turns d (stepN 4 m) (by omega) ho (by omega) h))

theorem wp_rules (seen : Sre.Seen) {Q : PUnit → Shared → Prop} (h : Q ⟨⟩ s) :
    wpAny (model prog w) A (forIn (List.range Sre.names.size) PUnit.unit fun i (_ : PUnit) => if seen.has i = true then (do rule (Sre.names.getD i ""); pure (ForInStep.yield PUnit.unit)) else pure (ForInStep.yield PUnit.unit)) Q E s := by
  refine wpAny_forIn_list (M := model prog w) (A := A) _ (fun _ _ s' => Q ⟨⟩ s') Q ?_ (fun _ _ q => q) _ _ h
  intro i rest b s' hq
  split
  · exact wpAny_bind (wpAny_rule (wpAny_pure hq))
  · exact wpAny_pure hq

theorem wp_reRunToEnd {m : M} {n : Nat} {r : Option (Nat × Nat)} {Q : Option M → Shared → Prop} (hn : n ≤ 2 ^ 64) (hr : Ended (stepN n m) r)
    (h0 : r = none → Q none s) (h1 : ∀ b e m', r = some (b, e) → m'.start = b → m'.handed = e → Q (some m') s) : wpAny (model prog w) A (reRunToEnd m) Q E s := by
  unfold reRunToEnd
  have pos : 0 < 2 ^ 64 := by decide
  generalize hT : 2 ^ 64 = T at hn pos
  have ho : (stepN n m).outcome.isSome = true := by
    cases r with
    | none => have : _ = _ := hr; rw [this]; rfl
    | some be => have := hr.1; rw [this]; rfl
  refine wpAny_bind (wp_reDrive T n m (by omega) ho pos ?_)
  refine wpAny_bind (wp_rules _ ?_)
  cases r with
  | none =>
    have e : (stepN n m).outcome = some .failed := hr
    rw [e]; exact wpAny_pure (h0 rfl)
  | some be =>
    obtain ⟨b, e⟩ := be
    obtain ⟨e1, e2, e3⟩ := hr
    rw [e1]; exact wpAny_pure (h1 b e _ rfl e2 e3)

/-- what the loop finds at its head -/
def targetOf (p : Addr) (x : Str) (t : Tok) (code : Array Nat) : ReTarget :=
  { pattern := .ref p, string := .str x t, code := code, text := x.cps, kind := 0, groups := 0, pos := 0, lim := x.cps.size }

theorem wp_reWholeTarget {p : Addr} {x : Str} {t : Tok} {code : Array Nat} {Q : ReTarget → Shared → Prop} (P : IsPat s.heap p code) (h : Q (targetOf p x t code) s) :
    wpAny (model prog w) A (reWholeTarget (.ref p) (.str x t)) Q E s := by
  obtain ⟨o, vs, tup, ot, items, n, h1, h2, h3, h4, h5, h6, h7, h8, h9, h10⟩ := P
  unfold reWholeTarget
  refine wpAny_bind (wpAny_fieldsOf h1 h4 ?_)
  refine wpAny_bind (m := reTextOf (.str x t)) (wpAny_pure ?_)
  dsimp only
  simp only [h5, h6, h7]
  show wpAny _ A (do
    let y ← reRawItems (.ref tup)
    pure ({ pattern := .ref p, string := .str x t, code := y.map (·.toNat), text := x.cps, kind := 0, groups := reRawNat (rawInt 0), pos := 0, lim := x.cps.size } : ReTarget)) Q E s
  unfold reRawItems
  refine wpAny_bind (wpAny_bind (wpAny_seqItems h8 h9 (wpAny_pure ?_)))
  refine wpAny_pure ?_
  show Q { pattern := .ref p, string := .str x t, code := (items.map reRawOf).map (·.toNat), text := x.cps, kind := 0, groups := 0, pos := 0, lim := x.cps.size } s
  rw [h10]; exact h
end
end Mine
end

/-! SubC -/
section
open PySem PySem.Sre PySem.Builtin PySem.Builtin.Re PyProof.Rows
set_option maxRecDepth 100000
namespace Mine
set_option linter.unusedVariables false
set_option linter.unusedSimpArgs false

/-- all found places turned into repl, from p on -/
def subFrom (text : List Nat) (repl : List Nat) (next : Nat → Option (Nat × Nat)) : Nat → Nat → List Nat
  | 0, p => text.drop p
  | k + 1, p => match next p with
    | none => text.drop p
    | some (b, e) => (text.drop p).take (b - p) ++ repl ++ subFrom text repl next k e

/-- the searches that a substitution asks for end as 'next' tells -/
def Nexts (code text : Array Nat) (next : Nat → Option (Nat × Nat)) : Prop :=
  ∀ p, p ≤ text.size → Found code text p (next p) ∧ ∀ b e, next p = some (b, e) → p ≤ b ∧ b < e ∧ e ≤ text.size

section
variable {prog : Program} {w : World} {A : Around} {E : Value → Shared → Prop} {s : Shared}

theorem wp_reNextFound {p : Addr} {x : Str} {t : Tok} {code : Array Nat} {q : Nat} {next : Nat → Option (Nat × Nat)} {Q : Option M → Shared → Prop} (hx : x.cps.size ≤ 1000) (hN : Nexts code x.cps next) (hq : q ≤ x.cps.size)
    (h0 : next q = none → Q none s) (h1 : ∀ b e m', next q = some (b, e) → m'.start = b → m'.handed = e → Q (some m') s) :
    wpAny (model prog w) A (reNextFound (targetOf p x t code) q false) Q E s := by
  obtain ⟨n, hn, r⟩ := (hN q hq).1
  have e64 : (3023 : Nat) ≤ 2 ^ 64 := by decide
  exact wp_reRunToEnd (n := n) (Nat.le_trans (by omega) e64) r h0 h1

/-- the loop's arguments -/
def loopArgs (p l : Addr) (x r : Str) (t u : Tok) (n : Int) (q : Nat) : Args :=
  ⟨[.ref p, .str x t, .str r u, rawInt 0, rawInt 0, rawInt n, rawInt q, rawInt q, .bool false, .ref l, .bool false], []⟩

theorem loop_tree (p l : Addr) (x r : Str) (t u : Tok) (n : Int) (q : Nat) : «re.Pattern.sub.loop» (loopArgs p l x r t u n q) = (do
    let tg ← reWholeTarget (.ref p) (.str x t)
    reLiteralCannotBeTurned (.str r u)
    match ← reNextFound tg q false with
    | some m =>
      if q < m.start then updateSeq l (·.push (← reSlice tg.text tg.kind q m.start))
      updateSeq l (·.push (.str r u))
      again (.builtin "re.Pattern.sub.loop" ⟨[.ref p, .str x t, .str r u, rawInt 0, rawInt 0, rawInt (n + 1), rawInt m.handed, rawInt m.handed, .bool (m.handed == m.start), .ref l, .bool false], []⟩)
    | none =>
      if q < tg.lim then updateSeq l (·.push (← reSlice tg.text tg.kind q tg.lim))
      let joiner ← reSlice tg.text tg.kind 0 0
      let text ← if ((← seqItems? (.ref l)).getD #[]).isEmpty then pure joiner
        else call (.builtin (if tg.kind == 0 then "str.join" else "bytes.join")) [joiner, .ref l]
      ret text) := by
  rfl
end
end Mine
end

/-! SubD -/
section
open PySem PySem.Sre PySem.Builtin PySem.Builtin.Re PyProof.Rows
set_option maxRecDepth 100000
namespace Mine
set_option linter.unusedVariables false
set_option linter.unusedSimpArgs false

/-- all that stood stands -/
abbrev KeepsH (h h' : Heap) : Prop := ∀ b o, h.get? b = some o → h'.get? b = some o

theorem KeepsH.refl (h : Heap) : KeepsH h h := fun _ _ e => e
theorem KeepsH.trans {h h' h'' : Heap} (a : KeepsH h h') (b : KeepsH h' h'') : KeepsH h h'' := fun c o e => b c o (a c o e)
theorem KeepsH.but {h₀ h h' : Heap} {l : Addr} (a : KeepsH h₀ h) (hl : h₀.get? l = none) (b : Heap.SameBut l h h') : KeepsH h₀ h' := fun c o e => by
  refine (b.2 c (fun q => ?_)).trans (a c o e)
  rw [q, hl] at e; cases e

section
variable {prog : Program} {w : World} {A : Around} {E : Value → Shared → Prop} {s : Shared}

theorem wp_push {l : Addr} {items : Array Value} {v : Value} {Q : Unit → Shared → Prop} (hl : s.heap.IsList l items) (hz : items.size ≤ sizeLine)
    (h : ∀ h', h'.IsList l (items.push v) → Heap.SameBut l s.heap h' → Q () { s with heap := h' }) : wpAny (model prog w) A (updateSeq l (·.push v)) Q E s := by
  obtain ⟨o, ho, hc, n, hd⟩ := id hl
  obtain ⟨n', hd'⟩ := Obj.data_mapSeq hd (·.push v)
  refine wpAny_updateSeq ho hd (h _ ?_ (Heap.SameBut.update ..)) hz (by rw [Array.size_push]; omega)
  exact ⟨_, Heap.get?_update_self _ ho (Obj.isFreed_of_seq hd'), (Obj.cls_mapSeq ..).trans hc, n', hd'⟩

theorem StrsAre.snoc {vs : List Value} {ys : List Str} {y : Str} {t : Tok} (h : StrsAre vs ys) : StrsAre (vs ++ [.str y t]) (ys ++ [y]) := by
  induction h with
  | nil => exact .cons _ _ .nil
  | cons z u r ih => exact .cons _ _ ih

theorem strsAre_length {vs : List Value} {ys : List Str} (h : StrsAre vs ys) : vs.length = ys.length := by
  induction h with
  | nil => rfl
  | cons z u r ih => simp [ih]

def catL (ys : List Str) : List Nat := ys.flatMap (·.cps.toList)
theorem catL_snoc (ys : List Str) (y : Str) : catL (ys ++ [y]) = catL ys ++ y.cps.toList := by simp [catL]

theorem glued_empty (e : Str) (he : e.cps = #[]) : ∀ (acc : Array Nat) (ys : List Str), (ys.foldl (fun acc p => acc ++ e.cps ++ p.cps) acc).toList = acc.toList ++ catL ys
  | acc, [] => by simp [catL]
  | acc, y :: ys => by
    rw [List.foldl_cons, glued_empty e he]
    simp [catL, he]
theorem join_cat (e : Str) (he : e.cps = #[]) (ys : List Str) : (Txt.join e ys) = ⟨(catL ys).toArray⟩ := by
  have h : (Txt.join e ys).cps.toList = catL ys := by
    show ((ys.drop 1).foldl (fun acc p => acc ++ e.cps ++ p.cps) (ys.headD Str.empty).cps).toList = _
    cases ys with
    | nil => rfl
    | cons y r =>
      show (r.foldl (fun acc p => acc ++ e.cps ++ p.cps) y.cps).toList = _
      rw [glued_empty e he]
      simp [catL]
  cases hj : Txt.join e ys with
  | mk c => rw [hj] at h; congr 1; apply Array.ext'; simpa using h
end
end Mine
end

/-! SubE -/
section
open PySem PySem.Sre PySem.Builtin PySem.Builtin.Re PyProof.Rows
set_option maxRecDepth 100000
namespace Mine
set_option linter.unusedVariables false
set_option linter.unusedSimpArgs false

section
variable {prog : Program} {w : World} {A : Around} {E : Value → Shared → Prop}

theorem extract_take_drop (a : Array Nat) (i j : Nat) : (a.extract i j).toList = (a.toList.drop i).take (j - i) := by
  simp [Array.toList_extract, List.extract_eq_take_drop]

theorem wp_reSlice {s : Shared} {text : Array Nat} {i j : Nat} {Q : Value → Shared → Prop} (hz : text.size ≤ 1000) (h : Q (.str ⟨text.extract i j⟩ s.toks) { s with toks := s.toks + 1 }) :
    wpAny (model prog w) A (reSlice text 0 i j) Q E s := by
  show wpAny _ _ (mkStr ⟨text.extract i j⟩) Q E s
  refine wpAny_mkStr h ?_
  show (text.extract i j).size ≤ sizeLine
  rw [sizeLine_eq, Array.size_extract]; omega

/-- the end of the loop: nothing more is found -/
theorem sub_end {x : Str} {h₀ : Heap} {l : Addr} {Q : Fin → Shared → Prop} {s : Shared} {q : Nat} {items : Array Value} {ys : List Str}
    (hx : x.cps.size ≤ 1000) (hl : h₀.get? l = none) (hq : q ≤ x.cps.size) (K : KeepsH h₀ s.heap) (I : s.heap.IsList l items) (S : StrsAre items.toList ys)
    (h6 : (ys.map (·.length)).sum ≤ 11 * q) (h7 : ys.length ≤ 2 * q)
    (h : ∀ h' tk tk', KeepsH h₀ h' → Q (.done (.ret (.str ⟨(catL ys ++ x.cps.toList.drop q).toArray⟩ tk'))) { s with heap := h', toks := tk }) :
    wpAny (model prog w) A (do
      if q < x.cps.size then updateSeq l (·.push (← reSlice x.cps 0 q x.cps.size))
      let joiner ← reSlice x.cps 0 0 0
      let text ← if ((← seqItems? (.ref l)).getD #[]).isEmpty then pure joiner
        else call (.builtin "str.join") [joiner, .ref l]
      ret text) Q E s := by
  have hlen := strsAre_length S
  have hsz : items.size ≤ 2 * q := by have : items.toList.length = items.size := by simp
                                      omega
  have fin : ∀ (s' : Shared) (items' : Array Value) (ys' : List Str), (∃ h tk, s' = { s with heap := h, toks := tk } ∧ KeepsH h₀ h) → s'.heap.IsList l items' → StrsAre items'.toList ys' → (ys'.map (·.length)).sum ≤ 20000 →
      catL ys' = catL ys ++ x.cps.toList.drop q →
      wpAny (model prog w) A (do
        let joiner ← reSlice x.cps 0 0 0
        let text ← if ((← seqItems? (.ref l)).getD #[]).isEmpty then pure joiner
          else call (.builtin "str.join") [joiner, .ref l]
        ret text) Q E s' := by
    rintro s' items' ys' ⟨h', tk, rfl, K'⟩ I' S' hb hc
    refine wpAny_bind (wp_reSlice hx ?_)
    obtain ⟨o, ho, hcl, nn, hd⟩ := id I'
    refine wpAny_bind (wpAny_seqItems ho hd ?_)
    by_cases he : items'.isEmpty = true
    · simp only [Option.getD_some, he, if_true]
      refine wpAny_bind (wpAny_pure (wpAny_pure ?_))
      have e1 : items' = #[] := by simpa using he
      subst e1
      cases S'
      have e2 : (⟨x.cps.extract 0 0⟩ : Str) = ⟨(catL ys ++ x.cps.toList.drop q).toArray⟩ := by rw [← hc]; congr 1; apply Array.ext'; rw [extract_take_drop]; simp [catL]
      rw [e2]
      exact h _ _ _ K'
    · simp only [Option.getD_some, he, if_false]
      refine wpAny_bind (join_list I' S' ?_ fun t' k' => wpAny_pure ?_)
      · show _ + ys'.length * (x.cps.extract 0 0).size ≤ _
        have : (x.cps.extract 0 0).size = 0 := by simp
        rw [this]; omega
      · rw [join_cat _ (by simp) ys', hc]
        exact h _ _ _ K'
  by_cases hlt : q < x.cps.size
  · simp only [hlt, if_true]
    refine wpAny_bind (wp_reSlice hx ?_)
    refine wpAny_bind (wp_push (s := { s with toks := s.toks + 1 }) I (by rw [sizeLine_eq]; omega) fun h' I' sb => ?_)
    refine fin _ _ (ys ++ [⟨x.cps.extract q x.cps.size⟩]) ⟨h', _, rfl, K.but hl sb⟩ I' ?_ ?_ ?_
    · rw [Array.toList_push]; exact StrsAre.snoc S
    · simp only [List.map_append, List.sum_append, List.map_cons, List.map_nil, List.sum_cons, List.sum_nil]
      have : (⟨x.cps.extract q x.cps.size⟩ : Str).length ≤ 1000 := by show (x.cps.extract q x.cps.size).size ≤ _; rw [Array.size_extract]; omega
      omega
    · rw [catL_snoc, extract_take_drop]
      congr 1
      rw [List.take_of_length_le]; simp
  · simp only [hlt, if_false]
    refine fin _ _ ys ⟨_, _, rfl, K⟩ I S (by omega) ?_
    have : x.cps.toList.drop q = [] := by rw [List.drop_eq_nil_iff]; simp; omega
    rw [this, List.append_nil]

theorem sub_loop {p : Addr} {x r : Str} {t u : Tok} {code : Array Nat} {next : Nat → Option (Nat × Nat)} {h₀ : Heap} {l : Addr} {R : Result → Shared → Prop}
    (hx : x.cps.size ≤ 1000) (hr : r.cps.size ≤ 10) (hN : Nexts code x.cps next) (P : IsPat h₀ p code) (hl : h₀.get? l = none) :
    ∀ (k q : Nat) (n : Int) (s : Shared) (items : Array Value) (ys : List Str), q ≤ x.cps.size → x.cps.size - q < k → KeepsH h₀ s.heap → s.heap.IsList l items → StrsAre items.toList ys →
      (ys.map (·.length)).sum ≤ 11 * q → ys.length ≤ 2 * q →
      (∀ h' tk tk', KeepsH h₀ h' → R (.ok (.ret (.str ⟨(catL ys ++ subFrom x.cps.toList r.cps.toList next k q).toArray⟩ tk'))) { s with heap := h', toks := tk }) →
      codeAny (model prog w) A (.builtin "re.Pattern.sub.loop" (loopArgs p l x r t u n q)) R s := by
  intro k
  induction k with
  | zero => intro q n s items ys h1 h2; exact absurd h2 (Nat.not_lt_zero _)
  | succ k ih =>
    intro q n s items ys hq hk K I S h6 h7 h
    have hsz : items.size ≤ 2 * q := by
      have h1 := strsAre_length S
      have h2 : items.toList.length = items.size := by simp
      omega
    refine codeAny_builtin entry_sub_loop ?_
    rw [Around.under_plainId plain_sub_loop, loop_tree]
    refine wpAny_bind (wp_reWholeTarget (P.keeps K) ?_)
    refine wpAny_bind (m := reLiteralCannotBeTurned (.str r u)) (wpAny_pure ?_)
    refine wpAny_bind (wp_reNextFound hx hN hq (fun e0 => ?_) fun b e m' e0 hb he => ?_)
    · refine sub_end (h₀ := h₀) hx hl hq K I S h6 h7 fun h' tk tk' K' => ?_
      have := h h' tk tk' K'
      unfold subFrom at this
      rw [e0] at this
      exact this
    · obtain ⟨b1, b2, b3⟩ := (hN q hq).2 b e e0
      subst hb he
      have go : ∀ (s' : Shared) (items' : Array Value) (ys' : List Str), (∃ h tk, s' = { s with heap := h, toks := tk } ∧ KeepsH h₀ h) → s'.heap.IsList l items' → StrsAre items'.toList ys' → items'.size ≤ 2 * q + 1 →
          (ys'.map (·.length)).sum ≤ 11 * q + (m'.start - q) → ys'.length ≤ 2 * q + 1 → catL ys' = catL ys ++ (x.cps.toList.drop q).take (m'.start - q) →
          wpAny (model prog w) A.in1 (do
            updateSeq l (·.push (.str r u))
            again (.builtin "re.Pattern.sub.loop" ⟨[.ref p, .str x t, .str r u, rawInt 0, rawInt 0, rawInt (n + 1), rawInt m'.handed, rawInt m'.handed, .bool (m'.handed == m'.start), .ref l, .bool false], []⟩))
            (fun fin s' => match fin with | .done f => R (.ok f) s' | .again c' => c'.quiet = true ∧ codeAny (model prog w) A c' R s') (fun e s' => R (.error e) s') s' := by
        rintro s' items' ys' ⟨h', tk, rfl, K'⟩ I' S' hz hs hz' hc
        refine wpAny_bind (wp_push I' (by rw [sizeLine_eq]; omega) fun h'' I'' sb => ?_)
        have em : (m'.handed == m'.start) = false := by rw [beq_eq_false_iff_ne]; omega
        rw [em]
        refine wpAny_pure ⟨plainId_quiet plain_sub_loop _, ?_⟩
        refine ih m'.handed (n + 1) _ _ (ys' ++ [r]) b3 (by omega) (K'.but hl sb) I'' ?_ ?_ ?_ fun h3 tk3 tk3' K3 => ?_
        · rw [Array.toList_push]; exact StrsAre.snoc S'
        · simp only [List.map_append, List.sum_append, List.map_cons, List.map_nil, List.sum_cons, List.sum_nil]
          have : r.length ≤ 10 := hr
          omega
        · simp only [List.length_append, List.length_cons, List.length_nil]; omega
        · have := h h3 tk3 tk3' K3
          unfold subFrom at this
          rw [e0] at this
          rw [catL_snoc, hc]
          simpa only [List.append_assoc] using this
      have hlen := strsAre_length S
      by_cases hlt : q < m'.start
      · simp only [hlt, if_true]
        refine wpAny_bind (wp_reSlice hx ?_)
        refine wpAny_bind (wp_push (s := { s with toks := s.toks + 1 }) I (by rw [sizeLine_eq]; omega) fun h' I' sb => ?_)
        refine go _ _ (ys ++ [⟨x.cps.extract q m'.start⟩]) ⟨h', _, rfl, K.but hl sb⟩ I' ?_ ?_ ?_ ?_ ?_
        · rw [Array.toList_push]; exact StrsAre.snoc S
        · rw [Array.size_push]; omega
        · simp only [List.map_append, List.sum_append, List.map_cons, List.map_nil, List.sum_cons, List.sum_nil]
          have : (⟨x.cps.extract q m'.start⟩ : Str).length ≤ m'.start - q := by show (x.cps.extract q m'.start).size ≤ _; rw [Array.size_extract]; omega
          omega
        · simp only [List.length_append, List.length_cons, List.length_nil]; omega
        · rw [catL_snoc, extract_take_drop]
      · simp only [hlt, if_false]
        refine go _ _ ys ⟨_, _, rfl, K⟩ I S (by omega) (by omega) (by omega) ?_
        have : m'.start - q = 0 := by omega
        rw [this]; simp
end
end Mine
end

/-! SubF -/
section
open PySem PySem.Sre PySem.Builtin PySem.Builtin.Re PyProof.Rows
set_option maxRecDepth 100000
namespace Mine
set_option linter.unusedVariables false
set_option linter.unusedSimpArgs false

section
variable {prog : Program} {w : World} {A : Around} {E : Value → Shared → Prop} {s : Shared}

theorem sub_tree (p : Addr) (r x : Str) (u t : Tok) (hr : r.cps.contains 92 = false) : «re.Pattern.sub» ⟨[.ref p, .str r u, .str x t], []⟩ = (do
    let c ← specialOf (.str r u) "__call__"
    let literal ← if c.isSome then pure false else pure true
    let (repl, way) ← if c.isSome then pure (Value.str r u, (1 : Int)) else if literal then pure (Value.str r u, 0) else do
      let t ← reCompileTemplate (.ref p) (.str r u)
      if ← reOnlyLiteral t then pure (← field t 0, 0) else pure (t, 2)
    let _ ← holding [repl] (reWholeTarget (.ref p) (.str x t))
    if way == 1 then reNotHeld "re.Pattern.sub" (.str x t)
    again (.builtin "re.Pattern.sub.loop" ⟨[.ref p, .str x t, repl, rawInt way, rawInt 0, rawInt 0, rawInt 0, rawInt 0, .bool false, ← newList [], .bool false], []⟩)) := by
  have e : (pure !r.cps.contains 92 : Sem Bool) = pure true := by rw [hr]; rfl
  show _ = _
  unfold «re.Pattern.sub» reSubstitute
  show (do
    let c ← specialOf (.str r u) "__call__"
    let literal ← if c.isSome then pure false else pure !r.cps.contains 92
    let (repl, way) ← if c.isSome then pure (Value.str r u, (1 : Int)) else if literal then pure (Value.str r u, 0) else do
      let t ← reCompileTemplate (.ref p) (.str r u)
      if ← reOnlyLiteral t then pure (← field t 0, 0) else pure (t, 2)
    let _ ← holding [repl] (reWholeTarget (.ref p) (.str x t))
    if way == 1 then reNotHeld "re.Pattern.sub" (.str x t)
    again (.builtin "re.Pattern.sub.loop" ⟨[.ref p, .str x t, repl, rawInt way, rawInt 0, rawInt 0, rawInt 0, rawInt 0, .bool false, ← newList [], .bool false], []⟩)) = _
  rw [e]

theorem sub_call {p : Addr} {x r : Str} {t u : Tok} {code : Array Nat} {next : Nat → Option (Nat × Nat)} {Q : Value → Shared → Prop}
    (hx : x.cps.size ≤ 1000) (hr : r.cps.size ≤ 10) (hr' : r.cps.contains 92 = false) (hN : Nexts code x.cps next) (P : IsPat s.heap p code)
    (h : ∀ h' tk tk', KeepsH s.heap h' → Q (.str ⟨(subFrom x.cps.toList r.cps.toList next (x.cps.size + 1) 0).toArray⟩ tk') { s with heap := h', toks := tk }) :
    wpAny (model prog w) A (call (.builtin "re.Pattern.sub") [.ref p, .str r u, .str x t]) Q E s := by
  obtain ⟨o, vs, tup, ot, items, n, h1, h2, h3, h4⟩ := id P
  have hT : s.TypeIs (.ref p) "re.Pattern" := ⟨o, h1, h2⟩
  refine wpAny_call (codeAny_call_builtin slot_sub.plain entry_sub (slot_sub.check _ _ _ _ _ _ _ _ hT (args_sub _ _ _) ?_))
  rw [sub_tree p r x u t hr']
  refine wpAny_bind (wpAny_specialOf (typeIs_str _ _ _) str_call_none ?_)
  refine wpAny_bind (wpAny_pure (wpAny_bind (wpAny_pure ?_)))
  refine wpAny_bind (wpAny_holding (wp_reWholeTarget P ?_))
  refine wpAny_bind (wpAny_newObj_type ?_ (by size_fits))
  refine wpAny_pure ⟨plainId_quiet plain_sub_loop _, ?_⟩
  have hnew : s.heap.get? s.heap.objs.size = none := by
    cases e : s.heap.get? s.heap.objs.size with
    | none => rfl
    | some o' => exact absurd (Heap.lt_size e) (Nat.lt_irrefl _)
  refine sub_loop (h₀ := s.heap) (code := code) (next := next) hx hr hN P hnew (x.cps.size + 1) 0 0 _ #[] [] (Nat.zero_le _) (by omega) (fun b o' e => Heap.get?_push_of_some _ e) ?_ .nil (by simp) (by simp) fun h' tk tk' K => ?_
  · exact ⟨_, Heap.get?_push_size _ rfl, rfl, 0, rfl⟩
  · exact h h' tk tk' K

theorem getMethod_sub {p : Addr} {code : Array Nat} {pl : Sem Bool} {Q : Value × List Value → Shared → Prop} (P : IsPat s.heap p code)
    (h : Q (.builtin "re.Pattern.sub", [.ref p]) s) : wpAny (model prog w) A (getMethod (.ref p) "sub" pl) Q E s := by
  obtain ⟨o, vs, tup, ot, items, n, h1, h2, h3, h4⟩ := id P
  have hT : s.TypeIs (.ref p) "re.Pattern" := ⟨o, h1, h2⟩
  unfold getMethod
  refine wpAny_bind (wpAny_specialOf hT pat_getattribute ?_)
  show wpAny _ A (if (Manifest.canonical "object.__getattribute__" != "object.__getattribute__") = true then _ else _) Q E s
  rw [if_neg (by decide +kernel)]
  refine wpAny_bind (wpAny_specialOf hT pat_getattr_none ?_)
  refine wpAny_bind (wpAny_specialOf hT slot_sub.lookup ?_)
  refine wpAny_bind (wpAny_of_eq type_sub ?_)
  refine wpAny_bind (wpAny_load h1 ?_)
  rw [h3]
  exact wpAny_bind (wpAny_rule (wpAny_pure h))
end
end Mine
end

/-! Txt1 -/
section
open PySem PySem.Sre PyProof.Rows
namespace Mine
set_option linter.unusedVariables false
set_option linter.unusedSimpArgs false

/-- the five things that a piece is made of -/
inductive It where
  | lf | crlf | vt | dot | aa
  deriving DecidableEq
def It.chars : It → List Nat
  | .lf => [10] | .crlf => [13, 10] | .vt => [11] | .dot => [46] | .aa => [97]
def It.norm : It → List Nat
  | .lf => [13, 10] | .crlf => [13, 10] | .vt => [11] | .dot => [46] | .aa => [97]
def It.mark : It → Int
  | .lf => 13 | .crlf => 13 | .vt => 11 | .dot => 46 | .aa => 97
def told : Bool → List Int → List Nat
  | _, [] => []
  | h, m :: r => (if m = 13 then [13, 10] else if m = 46 ∧ h = true then [46, 46] else [m.toNat]) ++ told (decide (m = 13)) r

def stuff : Bool → List Nat → List Nat
  | _, [] => []
  | b, c :: r => (if b = true ∧ c = 46 then [46, 46] else [c]) ++ stuff (c == 10) r

theorem stuff_norm : ∀ (its : List It) (h : Bool), stuff h (its.flatMap It.norm) = told h (its.map It.mark)
  | [], _ => rfl
  | i :: its, h => by
    cases i <;> simp [It.norm, It.mark, stuff, told, stuff_norm its, and_comm]

section
variable {text repl : List Nat} {next : Nat → Option (Nat × Nat)}
theorem subFrom_skip {p c : Nat} (hc : text[p]? = some c) (hn : next p = next (p + 1)) (hb : ∀ b e, next (p + 1) = some (b, e) → p + 1 ≤ b) (k : Nat) :
    subFrom text repl next k p = c :: subFrom text repl next k (p + 1) := by
  have hd : text.drop p = c :: text.drop (p + 1) := by
    obtain ⟨h1, rfl⟩ := List.getElem?_eq_some_iff.mp hc
    exact List.drop_eq_getElem_cons h1
  cases k with
  | zero => exact hd
  | succ k =>
    unfold subFrom
    rw [hn]
    cases e : next (p + 1) with
    | none => exact hd
    | some be =>
      obtain ⟨b, e'⟩ := be
      have := hb b e' e
      obtain ⟨d, hd'⟩ : ∃ d, b - p = d + 1 := ⟨b - p - 1, by omega⟩
      have hd2 : b - (p + 1) = d := by omega
      simp only [hd, hd', hd2, List.take_succ_cons, List.cons_append]
theorem subFrom_hit {p e : Nat} (hn : next p = some (p, e)) (k : Nat) : subFrom text repl next (k + 1) p = repl ++ subFrom text repl next k e := by
  rw [subFrom, hn]; simp
theorem subFrom_end {p : Nat} (hn : next p = none) (hp : text.length ≤ p) (k : Nat) : subFrom text repl next k p = [] := by
  cases k with
  | zero => exact List.drop_eq_nil_iff.mpr hp
  | succ k => rw [subFrom, hn]; exact List.drop_eq_nil_iff.mpr hp
end

def nx1 (text : Array Nat) (p : Nat) : Option (Nat × Nat) := next1 text (text.size - p) p
def nx2 (text : Array Nat) (p : Nat) : Option (Nat × Nat) := next2 text (text.size - p) p

theorem next1_at {text : Array Nat} : ∀ (k p : Nat) {b e : Nat}, next1 text k p = some (b, e) → p ≤ b ∧ b < p + k ∧ e = b + 1
  | 0, p, b, e, h => by cases h
  | k + 1, p, b, e, h => by
    unfold next1 at h
    by_cases hc : (bol text p && text.getD p 0 == 46) = true
    · rw [if_pos hc] at h; cases h; exact ⟨Nat.le_refl _, by omega, rfl⟩
    · rw [if_neg hc] at h
      obtain ⟨a, c, d⟩ := next1_at k (p + 1) h
      exact ⟨by omega, by omega, d⟩

theorem nexts1 (text : Array Nat) : Nexts code1 text (nx1 text) := fun p hp =>
  ⟨found1 text p hp, fun b e h => by obtain ⟨h1, h2, h3⟩ := next1_at _ _ h; exact ⟨h1, by omega, by omega⟩⟩
theorem nexts2 (text : Array Nat) (hp2 : Paired2 text) : Nexts code2 text (nx2 text) := fun p hp =>
  ⟨found2 text p hp hp2, fun b e h => by
    obtain ⟨h1, h2, h3⟩ := next2_at _ _ h
    rcases h3 with ⟨h3, rfl⟩ | ⟨h3, rfl⟩
    · have := (hp2 b h3).1; exact ⟨h1, by omega, by omega⟩
    · exact ⟨h1, by omega, by omega⟩⟩

theorem getD_some {text : Array Nat} {p c : Nat} (h : text.toList[p]? = some c) : text.getD p 0 = c ∧ p < text.size := by
  rw [Array.getElem?_toList] at h
  obtain ⟨h1, h2⟩ := Array.getElem?_eq_some_iff.mp h
  refine ⟨?_, h1⟩
  rw [Array.getD, dif_pos h1]; exact h2

theorem nx1_skip {text : Array Nat} {p : Nat} (hp : p < text.size) (h : (bol text p && text.getD p 0 == 46) = false) : nx1 text p = nx1 text (p + 1) := by
  unfold nx1
  obtain ⟨k, hk⟩ : ∃ k, text.size - p = k + 1 := ⟨text.size - p - 1, by omega⟩
  have hk' : text.size - (p + 1) = k := by omega
  rw [hk, hk', next1, h]; rfl
theorem nx1_hit {text : Array Nat} {p : Nat} (hp : p < text.size) (h : (bol text p && text.getD p 0 == 46) = true) : nx1 text p = some (p, p + 1) := by
  unfold nx1
  obtain ⟨k, hk⟩ : ∃ k, text.size - p = k + 1 := ⟨text.size - p - 1, by omega⟩
  rw [hk, next1, h]; rfl
theorem nx1_end {text : Array Nat} {p : Nat} (hp : text.size ≤ p) : nx1 text p = none := by
  unfold nx1; rw [Nat.sub_eq_zero_of_le hp]; rfl

theorem sub1_stuff (text : Array Nat) : ∀ (suf pre : List Nat) (k : Nat), text.toList = pre ++ suf → suf.length < k →
    subFrom text.toList [46, 46] (nx1 text) k pre.length = stuff (bol text pre.length) suf
  | [], pre, k, e, hk => by
    have : text.size = pre.length := by rw [← Array.length_toList, e]; simp
    rw [subFrom_end (nx1_end (by omega)) (by simp [this])]; rfl
  | c :: suf, pre, k, e, hk => by
    have hc : text.toList[pre.length]? = some c := by rw [e]; simp
    obtain ⟨hg, hlt⟩ := getD_some hc
    have hb : bol text (pre.length + 1) = (c == 10) := by unfold bol; simp only [Nat.add_sub_cancel, hg]; simp
    have e' : text.toList = (pre ++ [c]) ++ suf := by rw [e]; simp
    have hl : (pre ++ [c]).length = pre.length + 1 := by simp
    simp only [List.length_cons] at hk
    by_cases h : (bol text pre.length && text.getD pre.length 0 == 46) = true
    · obtain ⟨k, rfl⟩ : ∃ j, k = j + 1 := ⟨k - 1, by omega⟩
      rw [subFrom_hit (nx1_hit hlt h)]
      have ih := sub1_stuff text suf (pre ++ [c]) k e' (by omega)
      rw [hl, hb] at ih
      rw [ih, stuff, if_pos (by rw [hg] at h; simpa using h)]
    · have h' : (bol text pre.length && text.getD pre.length 0 == 46) = false := by simpa using h
      rw [subFrom_skip hc (nx1_skip hlt h') (fun b e hh => (next1_at _ _ hh).1)]
      have ih := sub1_stuff text suf (pre ++ [c]) k e' (by omega)
      rw [hl, hb] at ih
      rw [ih, stuff, if_neg (by rw [hg] at h; simpa using h)]
      rfl

theorem nx2_skip {text : Array Nat} {p : Nat} (hp : p < text.size) (h : text.getD p 0 ≠ 13) (h' : text.getD p 0 ≠ 10) : nx2 text p = nx2 text (p + 1) := by
  unfold nx2
  obtain ⟨k, hk⟩ : ∃ k, text.size - p = k + 1 := ⟨text.size - p - 1, by omega⟩
  have hk' : text.size - (p + 1) = k := by omega
  rw [hk, hk', next2, if_neg (by simpa using h), if_neg (by simpa using h')]
theorem nx2_hit13 {text : Array Nat} {p : Nat} (hp : p < text.size) (h : text.getD p 0 = 13) : nx2 text p = some (p, p + 2) := by
  unfold nx2
  obtain ⟨k, hk⟩ : ∃ k, text.size - p = k + 1 := ⟨text.size - p - 1, by omega⟩
  rw [hk, next2, if_pos (by simpa using h)]
theorem nx2_hit10 {text : Array Nat} {p : Nat} (hp : p < text.size) (h : text.getD p 0 = 10) : nx2 text p = some (p, p + 1) := by
  unfold nx2
  obtain ⟨k, hk⟩ : ∃ k, text.size - p = k + 1 := ⟨text.size - p - 1, by omega⟩
  rw [hk, next2, if_neg (by simp [h]), if_pos (by simpa using h)]
theorem nx2_end {text : Array Nat} {p : Nat} (hp : text.size ≤ p) : nx2 text p = none := by
  unfold nx2; rw [Nat.sub_eq_zero_of_le hp]; rfl

theorem sub2_norm (text : Array Nat) : ∀ (its : List It) (pre : List Nat) (k : Nat), text.toList = pre ++ its.flatMap It.chars → (its.flatMap It.chars).length < k →
    subFrom text.toList [13, 10] (nx2 text) k pre.length = its.flatMap It.norm
  | [], pre, k, e, hk => by
    have : text.size = pre.length := by rw [← Array.length_toList, e]; simp
    rw [subFrom_end (nx2_end (by omega)) (by simp [this])]; rfl
  | i :: its, pre, k, e, hk => by
    rw [List.flatMap_cons] at e hk
    rw [List.length_append] at hk
    have plain : ∀ c, i.chars = [c] → i.norm = [c] → c ≠ 13 → c ≠ 10 → subFrom text.toList [13, 10] (nx2 text) k pre.length = (i :: its).flatMap It.norm := by
      intro c h1 h2 h3 h4
      rw [h1] at e hk
      have hc : text.toList[pre.length]? = some c := by rw [e]; simp
      obtain ⟨hg, hlt⟩ := getD_some hc
      have e' : text.toList = (pre ++ [c]) ++ its.flatMap It.chars := by rw [e]; simp
      have hl : (pre ++ [c]).length = pre.length + 1 := by simp
      rw [subFrom_skip hc (nx2_skip hlt (by rw [hg]; exact h3) (by rw [hg]; exact h4)) (fun b e hh => (next2_at _ _ hh).1)]
      have ih := sub2_norm text its (pre ++ [c]) k e' (by omega)
      rw [hl] at ih
      rw [ih, List.flatMap_cons, h2]; rfl
    cases hi : i with
    | lf =>
      subst hi
      have e0 : text.toList = pre ++ 10 :: its.flatMap It.chars := e
      have hc : text.toList[pre.length]? = some 10 := by rw [e0]; simp
      obtain ⟨hg, hlt⟩ := getD_some hc
      obtain ⟨k, rfl⟩ : ∃ j, k = j + 1 := ⟨k - 1, by omega⟩
      rw [subFrom_hit (nx2_hit10 hlt hg)]
      have ih := sub2_norm text its (pre ++ [10]) k (by rw [e0]; simp) (by simp only [It.chars, List.length_cons, List.length_nil] at hk; omega)
      have hl : (pre ++ [10]).length = pre.length + 1 := by simp
      rw [hl] at ih
      rw [ih]; rfl
    | crlf =>
      subst hi
      have e0 : text.toList = pre ++ 13 :: 10 :: its.flatMap It.chars := e
      have hc : text.toList[pre.length]? = some 13 := by rw [e0]; simp
      obtain ⟨hg, hlt⟩ := getD_some hc
      obtain ⟨k, rfl⟩ : ∃ j, k = j + 1 := ⟨k - 1, by omega⟩
      rw [subFrom_hit (nx2_hit13 hlt hg)]
      have ih := sub2_norm text its (pre ++ [13, 10]) k (by rw [e0]; simp) (by simp only [It.chars, List.length_cons, List.length_nil] at hk; omega)
      have hl : (pre ++ [13, 10]).length = pre.length + 2 := by simp
      rw [hl] at ih
      rw [ih]; rfl
    | vt => subst hi; exact plain 11 rfl rfl (by decide) (by decide)
    | dot => subst hi; exact plain 46 rfl rfl (by decide) (by decide)
    | aa => subst hi; exact plain 97 rfl rfl (by decide) (by decide)

theorem chars_paired : ∀ (its : List It) (i : Nat), (its.flatMap It.chars)[i]? = some 13 → (its.flatMap It.chars)[i + 1]? = some 10
  | [], i, h => by simp at h
  | x :: its, i, h => by
    rw [List.flatMap_cons] at h ⊢
    cases x <;> (try (cases i with
      | zero => simp [It.chars] at h
      | succ i => simp only [It.chars, List.cons_append, List.nil_append, List.getElem?_cons_succ] at h ⊢; exact chars_paired its i h))
    case crlf =>
      match i, h with
      | 0, h => rfl
      | 1, h => simp [It.chars] at h
      | i + 2, h => simp only [It.chars, List.cons_append, List.nil_append, List.getElem?_cons_succ] at h ⊢; exact chars_paired its i h

theorem toArray_getD (l : List Nat) (i : Nat) : l.toArray.getD i 0 = l[i]?.getD 0 := by simp

theorem paired_chars (its : List It) : Paired2 (its.flatMap It.chars).toArray := by
  intro i h
  have hp := chars_paired its i
  generalize its.flatMap It.chars = l at h hp
  rw [toArray_getD] at h
  have h1 : l[i]? = some 13 := by
    cases hl : l[i]? with
    | none => rw [hl] at h; cases h
    | some c => rw [hl] at h; exact congrArg some h
  have h2 := hp h1
  obtain ⟨h3, _⟩ := List.getElem?_eq_some_iff.mp h2
  exact ⟨by simpa using h3, by rw [toArray_getD, h2]; rfl⟩

/-- the text that the pieces' things make, and what is sent of it -/
theorem quoted (its : List It) :
    subFrom (its.flatMap It.norm) [46, 46] (nx1 (its.flatMap It.norm).toArray) ((its.flatMap It.norm).length + 1) 0 = told true (its.map It.mark) ∧
    subFrom (its.flatMap It.chars) [13, 10] (nx2 (its.flatMap It.chars).toArray) ((its.flatMap It.chars).length + 1) 0 = its.flatMap It.norm := by
  constructor
  · have := sub1_stuff (its.flatMap It.norm).toArray (its.flatMap It.norm) [] ((its.flatMap It.norm).length + 1) rfl (by omega)
    rw [← stuff_norm]
    exact this
  · exact sub2_norm (its.flatMap It.chars).toArray its [] ((its.flatMap It.chars).length + 1) rfl (by omega)
end Mine
end

/-! Ev1 -/
section
open PySem PySem.W PySem.Calls PyProof.Rows
set_option maxRecDepth 100000
namespace Mine
set_option linter.unusedVariables false
set_option linter.unusedSimpArgs false

/-- the text's statements -/
def stAt (i : Nat) : Stmt := (PySem.Challenge.pw_pe0013_01.main.body)[i]?.getD (.Pass ⟨0, 0, 0, 0⟩)
def bodyAt (i : Nat) : List Stmt := match stAt i with | .FunctionDef _ _ b _ _ _ _ _ _ _ => b | _ => []
def parAt (i : Nat) : Arguments := match stAt i with | .FunctionDef _ a _ _ _ _ _ _ _ _ => a | _ => ⟨[], [], none, [], [], none, []⟩
def scopeAt (i : Nat) : Scope := match stAt i with | .FunctionDef _ _ _ _ _ _ sc _ _ _ => sc | _ => PySem.Challenge.pw_pe0013_01.main.scope

def upd (m : Str → Option Value) (x : Str) (v : Value) : Str → Option Value := fun y => if y = x then some v else m y
theorem upd_same {m : Str → Option Value} {x : Str} {v : Value} : upd m x v x = some v := if_pos rfl
theorem upd_ne {m : Str → Option Value} {x y : Str} {v : Value} (h : y ≠ x) : upd m x v y = m y := if_neg h

/-- a frame's state: its names, its cells; all of the base B stands; B holds neither the frame nor a cell nor one of V -/
structure Fm (env : Env) (V : List Addr) (B : Heap) (m cm : Str → Option Value) (h : Heap) : Prop where
  ns : h.Ns env.locals m
  keep : KeepsH B h
  cell : ∀ n c, (n, c) ∈ env.cells → h.IsCell c (cm n)
  apart : env.cells.Pairwise fun x y => x.2 ≠ y.2
  one : ∀ n c c', (n, c) ∈ env.cells → (n, c') ∈ env.cells → c' = c
  loc : ∀ n c, (n, c) ∈ env.cells → c ≠ env.locals
  freeL : B.get? env.locals = none
  freeC : ∀ n c, (n, c) ∈ env.cells → B.get? c = none
  freeV : ∀ a ∈ V, B.get? a = none

section
variable {env : Env} {V : List Addr} {B : Heap} {m cm : Str → Option Value} {h h' : Heap}

theorem Fm.kept (F : Fm env V B m cm h) (k : KeepsH h h') : Fm env V B m cm h' :=
  ⟨F.ns.keeps k, F.keep.trans k, fun n c e => (F.cell n c e).keeps k, F.apart, F.one, F.loc, F.freeL, F.freeC, F.freeV⟩

def hidden (env : Env) (V : List Addr) : List Addr := env.locals :: (env.cells.map (·.2) ++ V)
theorem Fm.free (F : Fm env V B m cm h) : ∀ a ∈ hidden env V, B.get? a = none := fun a ha => by
  rcases List.mem_cons.mp ha with rfl | ha
  · exact F.freeL
  · rcases List.mem_append.mp ha with ha | ha
    · obtain ⟨⟨n, c⟩, hm, rfl⟩ := List.mem_map.mp ha
      exact F.freeC n c hm
    · exact F.freeV a ha
theorem mem_hiddenC {n : Str} {c : Addr} (hm : (n, c) ∈ env.cells) : c ∈ hidden env V := List.mem_cons_of_mem _ (List.mem_append_left _ (List.mem_map.mpr ⟨(n, c), hm, rfl⟩))
theorem mem_hiddenL : env.locals ∈ hidden env V := List.mem_cons_self
theorem mem_hiddenV {a : Addr} (ha : a ∈ V) : a ∈ hidden env V := List.mem_cons_of_mem _ (List.mem_append_right _ ha)

/-- all that stands now, but the frame, its cells and W, is the new base -/
theorem Fm.rebase (F : Fm env V B m cm h) (W : List Addr) (hW : ∀ a ∈ W, B.get? a = none) :
    KeepsH B (hideAll h (hidden env W)) ∧ Fm env W (hideAll h (hidden env W)) m cm h := by
  have fr : ∀ a ∈ hidden env W, B.get? a = none := fun a ha => by
    rcases List.mem_cons.mp ha with rfl | ha
    · exact F.freeL
    · rcases List.mem_append.mp ha with ha | ha
      · obtain ⟨⟨n, c⟩, hm, rfl⟩ := List.mem_map.mp ha
        exact F.freeC n c hm
      · exact hW a ha
  refine ⟨fun b o e => hideAll_get _ (F.keep b o e) fun hm => ?_, F.ns, fun b o e => of_hideAll _ e, F.cell, F.apart, F.one, F.loc, hideAll_none _ mem_hiddenL, fun n c hm => hideAll_none _ (mem_hiddenC hm), fun a ha => hideAll_none _ (mem_hiddenV ha)⟩
  rw [fr b hm] at e; cases e

theorem Fm.not_list (F : Fm env V B m cm h) {a : Addr} {items : Array Value} (I : h.IsList a items) : a ≠ env.locals ∧ ∀ n c, (n, c) ∈ env.cells → a ≠ c := by
  obtain ⟨o, ho, hc, n, hd⟩ := I
  constructor
  · rintro rfl
    obtain ⟨oL, es, ep, hL, hLd, _⟩ := F.ns
    rw [ho] at hL; cases hL; rw [hd] at hLd; cases hLd
  · rintro n' c hm rfl
    obtain ⟨o', ho', hd'⟩ := F.cell n' a hm
    rw [ho] at ho'; cases ho'; rw [hd] at hd'; cases hd'

theorem Fm.plain (F : Fm env V B m cm h) (W : List Addr) {a : Addr} {items : Array Value} (I : h.PlainList a items) (ha : a ∉ W) : (hideAll h (hidden env W)).PlainList a items := by
  obtain ⟨h1, h2⟩ := F.not_list I.isList
  obtain ⟨n, e⟩ := I
  refine ⟨n, hideAll_get _ e fun hm => ?_⟩
  rcases List.mem_cons.mp hm with rfl | hm
  · exact h1 rfl
  · rcases List.mem_append.mp hm with hm | hm
    · obtain ⟨⟨n', c⟩, hm', e'⟩ := List.mem_map.mp hm
      exact h2 n' c hm' e'.symm
    · exact ha hm
end

section
variable {M : Model} {A : Around} {E : Value → Shared → Prop} {s : Shared} {env : Env} {V : List Addr} {B : Heap} {m cm : Str → Option Value}

theorem nameL {x : Str} {pos : Pos} {v : Value} {Q : Value → Shared → Prop} (F : Fm env V B m cm s.heap) (hk : env.scope.kind = .function) (hl : env.kindOf x = some .local) (hv : m x = some v) (h : Q v s)
    (hd : (x == ("__debug__" : Str)) = false := by decide) : wpAny M A (eval (.Name x pos) env) Q E s := wpAny_Name (wpAny_loadName_local hk hl F.ns hv h) hd
theorem nameC {x : Str} {pos : Pos} {v : Value} {c : Addr} {Q : Value → Shared → Prop} (F : Fm env V B m cm s.heap) (hk : env.scope.kind = .function) (hl : env.kindOf x = some .cell) (hc : env.cells.lookup x = some c) (hv : cm x = some v) (h : Q v s)
    (hd : (x == ("__debug__" : Str)) = false := by decide) : wpAny M A (eval (.Name x pos) env) Q E s := wpAny_Name (wpAny_loadName_cell hk hl hc (hv ▸ F.cell x c (mem_of_lookup hc)) h) hd

theorem storeL {x : Str} {v : Value} {Q : Unit → Shared → Prop} (F : Fm env V B m cm s.heap) (hk : env.scope.kind = .function) (hl : env.kindOf x = some .local)
    (h : ∀ h', Fm env V B (upd m x v) cm h' → Heap.SameBut env.locals s.heap h' → Q () { s with heap := h', toks := s.toks + 1 }) : wpAny M A (storeName env x v) Q E s :=
  wpAny_storeName_local hl F.ns (fun h' hn hs => h h' ⟨hn, F.keep.but F.freeL hs, fun n c hm => (F.cell n c hm).sameBut hs (F.loc n c hm), F.apart, F.one, F.loc, F.freeL, F.freeC, F.freeV⟩ hs) (by rw [hk]; rfl)

theorem storeC {x : Str} {c : Addr} {v : Value} {Q : Unit → Shared → Prop} (F : Fm env V B m cm s.heap) (hk : env.scope.kind = .function) (hl : env.kindOf x = some .cell) (hc : env.cells.lookup x = some c)
    (h : ∀ h', Fm env V B m (upd cm x v) h' → Heap.SameBut c s.heap h' → Q () { s with heap := h' }) : wpAny M A (storeName env x v) Q E s := by
  have hm := mem_of_lookup hc
  refine wpAny_storeName_cell hk hl hc (F.cell x c hm) fun h' hc' hs => h h' ⟨F.ns.sameBut hs (Ne.symm (F.loc x c hm)), F.keep.but (F.freeC x c hm) hs, fun n c' hm' => ?_, F.apart, F.one, F.loc, F.freeL, F.freeC, F.freeV⟩ hs
  by_cases hn : n = x
  · subst hn
    rw [upd_same]
    rw [F.one n c c' hm hm']; exact hc'
  · rw [upd_ne hn]
    exact (F.cell n c' hm').sameBut hs fun e => hn (name_of_addr F.apart hm' (e ▸ hm))
end
end Mine
end

/-! Ev2 -/
section
open PySem PySem.W PySem.Calls PyProof.Rows
set_option maxRecDepth 100000
namespace Mine
set_option linter.unusedVariables false
set_option linter.unusedSimpArgs false

/-- the def that stands as the i-th statement lies there -/
def IsFn (h : Heap) (a : Addr) (i : Nat) : Prop :=
  ∃ o name qual doc pm an cd ct, h.get? a = some o ∧ o.data = .func (fnX name qual (parAt i) (bodyAt i) (scopeAt i) [] .none .none doc pm an cd ct) ∧ h.CodeRec cd qual
theorem IsFn.keeps {h h' : Heap} {a : Addr} {i : Nat} (f : IsFn h a i) (k : KeepsH h h') : IsFn h' a i := by
  obtain ⟨o, name, qual, doc, pm, an, cd, ct, h1, h2, h3⟩ := f
  exact ⟨o, name, qual, doc, pm, an, cd, ct, k _ _ h1, h2, h3.keeps k⟩

/-- where the text's things lie -/
structure Adr where
  q : Addr
  sc : Addr
  pc : Addr
  mr : Addr
  tl : Addr
  se : Addr
  p1 : Addr
  p2 : Addr

/-- the ground: the text's names, its defs and its two patterns -/
structure Gd (mg mb : Str → Option Value) (ad : Adr) (h : Heap) : Prop where
  g : h.Ns mainGlobals mg
  b : h.Ns builtinsNs mb
  lim : h.NoLimit
  gq : mg "quotedata" = some (.ref ad.q)
  gsc : mg "_strcoll" = some (.ref ad.sc)
  gpc : mg "_law_piece" = some (.ref ad.pc)
  gmk : mg "_law_marks" = some (.ref ad.mr)
  gtl : mg "_law_told" = some (.ref ad.tl)
  gse : mg "_law_sent" = some (.ref ad.se)
  gp1 : mg "_twin_re_1" = some (.ref ad.p1)
  gp2 : mg "_twin_re_2" = some (.ref ad.p2)
  gcr : ∃ t, mg "CRLF" = some (.str ⟨#[13, 10]⟩ t)
  fq : IsFn h ad.q 5
  fsc : IsFn h ad.sc 7
  fpc : IsFn h ad.pc 9
  fmk : IsFn h ad.mr 10
  ftl : IsFn h ad.tl 11
  fse : IsFn h ad.se 12
  P1 : IsPat h ad.p1 code1
  P2 : IsPat h ad.p2 code2
  nlen : mg "len" = none
  nrange : mg "range" = none
  nord : mg "ord" = none
  nchr : mg "chr" = none
  nmin : mg "min" = none
  nisi : mg "isinstance" = none
  nbool : mg "bool" = none
  blen : mb "len" = some (.builtin "len")
  brange : mb "range" = some (.type "range")
  bord : mb "ord" = some (.builtin "ord")
  bchr : mb "chr" = some (.builtin "chr")
  bmin : mb "min" = some (.builtin "min")
  bisi : mb "isinstance" = some (.builtin "isinstance")
  bbool : mb "bool" = some (.type "bool")
theorem Gd.keeps {mg mb : Str → Option Value} {ad : Adr} {h h' : Heap} (G : Gd mg mb ad h) (k : KeepsH h h') : Gd mg mb ad h' :=
  { G with g := G.g.keeps k, b := G.b.keeps k, lim := G.lim.keeps k, fq := G.fq.keeps k, fsc := G.fsc.keeps k, fpc := G.fpc.keeps k, fmk := G.fmk.keeps k, ftl := G.ftl.keeps k, fse := G.fse.keeps k, P1 := G.P1.keeps k, P2 := G.P2.keeps k }

section
variable {prog : Program} {w : World} {A : Around} {E : Value → Shared → Prop} {s : Shared} {env : Env} {mg mb : Str → Option Value} {ad : Adr}

theorem nameG {x : Str} {pos : Pos} {v : Value} {Q : Value → Shared → Prop} (g : s.heap.Ns mainGlobals mg) (hv : mg x = some v) (hk : env.scope.kind = .function) (hx : env.kindOf x = some .globalImplicit) (he : env.globals = mainGlobals) (h : Q v s)
    (hd : (x == ("__debug__" : Str)) = false := by decide) : wpAny (model prog w) A (eval (.Name x pos) env) Q E s :=
  Name_function_global hk hx (loadGlobal_global (env := env) (by rw [he]; exact g) hv h) hd
theorem nameB {x : Str} {pos : Pos} {v : Value} {Q : Value → Shared → Prop} (g : s.heap.Ns mainGlobals mg) (b : s.heap.Ns builtinsNs mb) (hn : mg x = none) (hv : mb x = some v) (hk : env.scope.kind = .function) (hx : env.kindOf x = some .globalImplicit) (he : env.globals = mainGlobals) (heb : env.builtins = builtinsNs) (h : Q v s)
    (hd : (x == ("__debug__" : Str)) = false := by decide) : wpAny (model prog w) A (eval (.Name x pos) env) Q E s :=
  Name_function_global hk hx (loadGlobal_builtin (env := env) (by rw [he]; exact g) hn (by rw [heb]; exact b) hv h) hd

/-- a call of a def without cells -/
theorem call_fn {i : Nat} {a : Addr} {vals : List Value} {binds : List (Str × Value)} {Q : Value → Shared → Prop} (hroom : A.depth < recursionLimit) (hf : IsFn s.heap a i) (lim : s.heap.NoLimit)
    (hbind : ∀ name qual doc pm an cd ct, bindArgs (fnX name qual (parAt i) (bodyAt i) (scopeAt i) [] .none .none doc pm an cd ct) ⟨vals, []⟩ = pure binds)
    (hloc : ∀ x ∈ binds, (scopeAt i).names.lookup x.1 = some .local) (hcell : ∀ x ∈ (scopeAt i).names, x.2 ≠ .cell)
    (h : ∀ qual L cd h₀ tk E', Fm (envX qual (scopeAt i) L a cd []) [] s.heap (fun x => binds.reverse.lookup x) (fun _ => none) h₀ →
      wpAny (model prog w) (A.deeper (envX qual (scopeAt i) L a cd [])) (execs (bodyAt i) (envX qual (scopeAt i) L a cd [])) (fun f s' => Q (match f with | .ret v => v | _ => .none) s') E' { s with heap := h₀, toks := tk })
    (hco : (scopeAt i).isCoroutine = false) (hgen : (scopeAt i).isGenerator = false) (hk : (scopeAt i).kind = .function) :
    wpAny (model prog w) A (call (.ref a) vals) Q E s := by
  obtain ⟨o, name, qual, doc, pm, an, cd, ct, h1, h2, h3⟩ := hf
  refine wpAny_call (codeAny_call_def (fd := fnX name qual (parAt i) (bodyAt i) (scopeAt i) [] .none .none doc pm an cd ct) (body := bodyAt i) (binds := binds) hroom h1 h2 lim h3 rfl (.of_eq (hbind _ _ _ _ _ _ _)) hcell hloc (fun h₀ hns hk₀ => ?_) hco hgen hk)
  have hnew : s.heap.get? s.heap.objs.size = none := by
    cases e : s.heap.get? s.heap.objs.size with
    | none => rfl
    | some o' => exact absurd (Heap.lt_size e) (Nat.lt_irrefl _)
  exact h qual s.heap.objs.size cd h₀ _ _ ⟨hns, hk₀, (fun _ _ hm => by cases hm), List.Pairwise.nil, (fun _ _ _ hm => by cases hm), (fun _ _ hm => by cases hm), hnew, (fun _ _ hm => by cases hm), (fun _ hm => by cases hm)⟩

/-- an own def's call in the text: one argument, two arguments -/
theorem callName1 {f : Str} {e : Expr} {p pos : Pos} {a : Addr} {i : Nat} {Q : Value → Shared → Prop} (g : s.heap.Ns mainGlobals mg) (hv : mg f = some (.ref a)) (hf : IsFn s.heap a i) (hk : env.scope.kind = .function) (hx : env.kindOf f = some .globalImplicit) (he : env.globals = mainGlobals)
    (hs : starEach [e] env = [(false, eval e env)])
    (h : wpAny (model prog w) A (eval e env) (fun v s₁ => KeepsH s.heap s₁.heap ∧ wpAny (model prog w) A (call (.ref a) [v]) Q E s₁) E s) (hd : (f == ("__debug__" : Str)) = false := by decide) :
    wpAny (model prog w) A (eval (.Call (.Name f p) [e] [] pos) env) Q E s := by
  obtain ⟨o, name, qual, doc, pm, an, cd, ct, h1, h2, h3⟩ := hf
  show wpAny _ A (do callWith pos (← eval (.Name f p) env) [] (backTo pos (starEach [e] env)) (backToKw pos (keywordEach [] env))) Q E s
  refine wpAny_bind (nameG g hv hk hx he ?_ hd)
  rw [hs]
  refine callWith_function (o := o) (fd := fnX name qual (parAt i) (bodyAt i) (scopeAt i) [] .none .none doc pm an cd ct) ?_
  exact evalArgs_plain (spliced_cons (wpAny_mono h (fun v s₁ h₁ => spliced_nil ⟨⟨h₁.1 _ _ h1, h2⟩, h₁.2⟩) fun _ _ e => e))

theorem callName2 {f : Str} {e1 e2 : Expr} {p pos : Pos} {a : Addr} {i : Nat} {Q : Value → Shared → Prop} (g : s.heap.Ns mainGlobals mg) (hv : mg f = some (.ref a)) (hf : IsFn s.heap a i) (hk : env.scope.kind = .function) (hx : env.kindOf f = some .globalImplicit) (he : env.globals = mainGlobals)
    (hs : starEach [e1, e2] env = [(false, eval e1 env), (false, eval e2 env)])
    (h : wpAny (model prog w) A (eval e1 env) (fun v1 s₁ => wpAny (model prog w) A (eval e2 env) (fun v2 s₂ => KeepsH s.heap s₂.heap ∧ wpAny (model prog w) A (call (.ref a) [v1, v2]) Q E s₂) E s₁) E s) (hd : (f == ("__debug__" : Str)) = false := by decide) :
    wpAny (model prog w) A (eval (.Call (.Name f p) [e1, e2] [] pos) env) Q E s := by
  obtain ⟨o, name, qual, doc, pm, an, cd, ct, h1, h2, h3⟩ := hf
  show wpAny _ A (do callWith pos (← eval (.Name f p) env) [] (backTo pos (starEach [e1, e2] env)) (backToKw pos (keywordEach [] env))) Q E s
  refine wpAny_bind (nameG g hv hk hx he ?_ hd)
  rw [hs]
  refine callWith_function (o := o) (fd := fnX name qual (parAt i) (bodyAt i) (scopeAt i) [] .none .none doc pm an cd ct) ?_
  exact evalArgs_plain (spliced_cons (wpAny_mono h (fun v s₁ h₁ => spliced_cons (wpAny_mono h₁ (fun v2 s₂ h₂ => spliced_nil ⟨⟨h₂.1 _ _ h1, h2⟩, h₂.2⟩) fun _ _ e => e)) fun _ _ e => e))

/-- a built-in's call in the text -/
theorem callB1 {f : Str} {e : Expr} {p pos : Pos} {id : String} {Q : Value → Shared → Prop} (g : s.heap.Ns mainGlobals mg) (b : s.heap.Ns builtinsNs mb) (hn : mg f = none) (hv : mb f = some (.builtin id)) (hk : env.scope.kind = .function) (hx : env.kindOf f = some .globalImplicit) (he : env.globals = mainGlobals) (heb : env.builtins = builtinsNs)
    (hs : starEach [e] env = [(false, eval e env)])
    (h : wpAny (model prog w) A (eval e env) (fun v s₁ => wpAny (model prog w) A (call (.builtin id) [v]) Q E s₁) E s) (hd : (f == ("__debug__" : Str)) = false := by decide) :
    wpAny (model prog w) A (eval (.Call (.Name f p) [e] [] pos) env) Q E s := by
  show wpAny _ A (do callWith pos (← eval (.Name f p) env) [] (backTo pos (starEach [e] env)) (backToKw pos (keywordEach [] env))) Q E s
  refine wpAny_bind (nameB g b hn hv hk hx he heb ?_ hd)
  rw [hs]
  exact callWith_builtin rfl (evalArgs_plain (spliced_cons (wpAny_mono h (fun v s₁ h₁ => spliced_nil h₁) fun _ _ e => e)))
theorem callB2 {f : Str} {e1 e2 : Expr} {p pos : Pos} {id : String} {Q : Value → Shared → Prop} (g : s.heap.Ns mainGlobals mg) (b : s.heap.Ns builtinsNs mb) (hn : mg f = none) (hv : mb f = some (.builtin id)) (hk : env.scope.kind = .function) (hx : env.kindOf f = some .globalImplicit) (he : env.globals = mainGlobals) (heb : env.builtins = builtinsNs)
    (hs : starEach [e1, e2] env = [(false, eval e1 env), (false, eval e2 env)])
    (h : wpAny (model prog w) A (eval e1 env) (fun v1 s₁ => wpAny (model prog w) A (eval e2 env) (fun v2 s₂ => wpAny (model prog w) A (call (.builtin id) [v1, v2]) Q E s₂) E s₁) E s) (hd : (f == ("__debug__" : Str)) = false := by decide) :
    wpAny (model prog w) A (eval (.Call (.Name f p) [e1, e2] [] pos) env) Q E s := by
  show wpAny _ A (do callWith pos (← eval (.Name f p) env) [] (backTo pos (starEach [e1, e2] env)) (backToKw pos (keywordEach [] env))) Q E s
  refine wpAny_bind (nameB g b hn hv hk hx he heb ?_ hd)
  rw [hs]
  exact callWith_builtin rfl (evalArgs_plain (spliced_cons (wpAny_mono h (fun v s₁ h₁ => spliced_cons (wpAny_mono h₁ (fun v2 s₂ h₂ => spliced_nil h₂) fun _ _ e => e)) fun _ _ e => e)))
theorem callT1 {f : Str} {e : Expr} {p pos : Pos} {T : String} {Q : Value → Shared → Prop} (g : s.heap.Ns mainGlobals mg) (b : s.heap.Ns builtinsNs mb) (hn : mg f = none) (hv : mb f = some (.type T)) (hk : env.scope.kind = .function) (hx : env.kindOf f = some .globalImplicit) (he : env.globals = mainGlobals) (heb : env.builtins = builtinsNs)
    (hs : starEach [e] env = [(false, eval e env)])
    (h : wpAny (model prog w) A (eval e env) (fun v s₁ => wpAny (model prog w) A (call (.type T) [v]) Q E s₁) E s) (hd : (f == ("__debug__" : Str)) = false := by decide) :
    wpAny (model prog w) A (eval (.Call (.Name f p) [e] [] pos) env) Q E s := by
  show wpAny _ A (do callWith pos (← eval (.Name f p) env) [] (backTo pos (starEach [e] env)) (backToKw pos (keywordEach [] env))) Q E s
  refine wpAny_bind (nameB g b hn hv hk hx he heb ?_ hd)
  rw [hs]
  exact PySem.callWith_type rfl (evalArgs_plain (spliced_cons (wpAny_mono h (fun v s₁ h₁ => spliced_nil h₁) fun _ _ e => e)))
end
end Mine
end

/-! F1 -/
section
open PySem PySem.W PySem.Calls PyProof.Rows
set_option maxRecDepth 100000
namespace Mine
set_option linter.unusedVariables false
set_option linter.unusedSimpArgs false

section
variable {prog : Program} {w : World} {A : Around} {E : Value → Shared → Prop} {s : Shared} {mg mb : Str → Option Value} {ad : Adr}

def collOf (x y : Str) : Int := b2i (decide (y.cps.toList < x.cps.toList)) - b2i (decide (x.cps.toList < y.cps.toList))

theorem strcoll_call {x y : Str} {t u : Tok} {Q : Value → Shared → Prop} (G : Gd mg mb ad s.heap) (hroom : A.depth < recursionLimit)
    (h : ∀ h' tk tk', KeepsH s.heap h' → Q (.int (collOf x y) tk') { s with heap := h', toks := tk }) :
    wpAny (model prog w) A (call (.ref ad.sc) [.str x t, .str y u]) Q E s := by
  refine call_fn (i := 7) (binds := [("a", .str x t), ("b", .str y u)]) hroom G.fsc G.lim (fun _ _ _ _ _ _ _ => rfl) (locs rfl) (by decide) (fun qual L cd h₀ tk E' F => ?_) rfl rfl rfl
  refine wpAny_execs_cons (wpAny_Return_some (wpAny_BinOp ?_))
  refine wpAny_Compare1 (nameL F rfl rfl rfl (nameL F rfl rfl rfl ?_))
  refine P.gt_str ?_
  refine wpAny_Compare1 (nameL F rfl rfl rfl (nameL F rfl rfl rfl (lt_str ?_)))
  refine sub_bool ?_
  exact h _ _ _ F.keep

theorem pat_plain : PlainAttrs "re.Pattern" := ⟨⟨_, pat_getattribute, by decide +kernel⟩, pat_getattr_none⟩

theorem IsPat.typed {h : Heap} {p : Addr} {code : Array Nat} (P : IsPat h p code) : ∃ ob, h.get? p = some ob ∧ ob.cls = .type "re.Pattern" ∧ ob.dict = none := by
  obtain ⟨o, vs, tup, ot, items, n, h1, h2, h3, h4⟩ := P
  exact ⟨o, h1, h2, h3⟩

theorem norm_length : ∀ its : List It, (its.flatMap It.norm).length ≤ 2 * its.length
  | [] => by simp
  | i :: its => by
    have := norm_length its
    have h2 : i.norm.length ≤ 2 := by cases i <;> decide
    rw [List.flatMap_cons, List.length_append, List.length_cons]
    omega
theorem chars_length : ∀ its : List It, (its.flatMap It.chars).length ≤ 2 * its.length
  | [] => by simp
  | i :: its => by
    have := chars_length its
    have h2 : i.chars.length ≤ 2 := by cases i <;> decide
    rw [List.flatMap_cons, List.length_append, List.length_cons]
    omega

/-- a built-in's method in the text: one argument, two arguments -/
theorem callM1 {env : Env} {o e : Expr} {name : Str} {apos pos : Pos} {T id : String} {Q : Value → Shared → Prop} (pa : PlainAttrs T) (slot : Slot T name id) (hty : typeOf (.builtin id) = pure (.type "method_descriptor"))
    (hbase : attributeBase o name env (eval o env) = eval o env) (hline : (apos.endLine == pos.line) = true) (hs : starEach [e] env = [(false, eval e env)])
    (h : wpAny (model prog w) A (eval o env) (fun ov s₁ => s₁.TypeIs ov T ∧ (∀ a, ov = .ref a → ∃ ob, s₁.heap.get? a = some ob ∧ ob.dict = none) ∧
      wpAny (model prog w) A (eval e env) (fun v s₂ => wpAny (model prog w) A (call (.builtin id) [ov, v]) Q E s₂) E s₁) E s) :
    wpAny (model prog w) A (eval (.Call (.Attribute o name apos) [e] [] pos) env) Q E s := by
  refine wpAny_Call_method hbase (by rw [hs]; rfl) hline pa slot hty (wpAny_mono h (fun ov s₁ h₁ => ⟨h₁.1, h₁.2.1, ?_⟩) fun _ _ e => e)
  rw [hs]
  exact callWith_builtin rfl (evalArgs_plain (spliced_cons (wpAny_mono h₁.2.2 (fun v s₂ h₂ => spliced_nil h₂) fun _ _ e => e)))
theorem callM2 {env : Env} {o e1 e2 : Expr} {name : Str} {apos pos : Pos} {T id : String} {Q : Value → Shared → Prop} (pa : PlainAttrs T) (slot : Slot T name id) (hty : typeOf (.builtin id) = pure (.type "method_descriptor"))
    (hbase : attributeBase o name env (eval o env) = eval o env) (hline : (apos.endLine == pos.line) = true) (hs : starEach [e1, e2] env = [(false, eval e1 env), (false, eval e2 env)])
    (h : wpAny (model prog w) A (eval o env) (fun ov s₁ => s₁.TypeIs ov T ∧ (∀ a, ov = .ref a → ∃ ob, s₁.heap.get? a = some ob ∧ ob.dict = none) ∧
      wpAny (model prog w) A (eval e1 env) (fun v1 s₂ => wpAny (model prog w) A (eval e2 env) (fun v2 s₃ => wpAny (model prog w) A (call (.builtin id) [ov, v1, v2]) Q E s₃) E s₂) E s₁) E s) :
    wpAny (model prog w) A (eval (.Call (.Attribute o name apos) [e1, e2] [] pos) env) Q E s := by
  refine wpAny_Call_method hbase (by rw [hs]; rfl) hline pa slot hty (wpAny_mono h (fun ov s₁ h₁ => ⟨h₁.1, h₁.2.1, ?_⟩) fun _ _ e => e)
  rw [hs]
  exact callWith_builtin rfl (evalArgs_plain (spliced_cons (wpAny_mono h₁.2.2 (fun v s₂ h₂ => spliced_cons (wpAny_mono h₂ (fun v2 s₃ h₃ => spliced_nil h₃) fun _ _ e => e)) fun _ _ e => e)))

/-- what is sent of a row of things -/
def sentStr (its : List It) : Str := ⟨(told true (its.map It.mark)).toArray⟩

theorem quotedata_call {its : List It} {t : Tok} {Q : Value → Shared → Prop} (G : Gd mg mb ad s.heap) (hroom : A.depth < recursionLimit) (hlen : its.length ≤ 400)
    (h : ∀ h' tk tk', KeepsH s.heap h' → Q (.str (sentStr its) tk') { s with heap := h', toks := tk }) :
    wpAny (model prog w) A (call (.ref ad.q) [.str ⟨(its.flatMap It.chars).toArray⟩ t]) Q E s := by
  refine call_fn (i := 5) (binds := [("data", .str ⟨(its.flatMap It.chars).toArray⟩ t)]) hroom G.fq G.lim (fun _ _ _ _ _ _ _ => rfl) (locs rfl) (by decide) (fun qual L cd h₀ tk E' F => ?_) rfl rfl rfl
  have G₀ := G.keeps F.keep
  refine wpAny_execs_cons (wpAny_Return_some ?_)
  refine callM2 pat_plain slot_sub type_sub rfl rfl rfl ?_
  refine nameG G₀.g G₀.gp1 rfl rfl rfl ?_
  obtain ⟨ob, o1, o2, o3⟩ := G₀.P1.typed
  refine ⟨⟨ob, o1, o2⟩, fun a e => by cases e; exact ⟨ob, o1, o3⟩, ?_⟩
  refine Constant_str ?_
  refine callM2 pat_plain slot_sub type_sub rfl rfl rfl ?_
  refine nameG G₀.g G₀.gp2 rfl rfl rfl ?_
  obtain ⟨ob2, p1, p2, p3⟩ := G₀.P2.typed
  refine ⟨⟨ob2, p1, p2⟩, fun a e => by cases e; exact ⟨ob2, p1, p3⟩, ?_⟩
  obtain ⟨tc, hcr⟩ := G₀.gcr
  refine nameG G₀.g hcr rfl rfl rfl (nameL F rfl rfl rfl ?_)
  obtain ⟨q1, q2⟩ := quoted its
  have l1 := chars_length its
  have l2 := norm_length its
  refine sub_call (code := code2) (next := nx2 (its.flatMap It.chars).toArray) (by simp only [List.size_toArray]; omega) (by decide +kernel) (by decide +kernel) (nexts2 _ (paired_chars its)) G₀.P2 fun h₁ tk₁ tk₁' k₁ => ?_
  have e2 : subFrom (its.flatMap It.chars).toArray.toList #[13, 10].toList (nx2 (its.flatMap It.chars).toArray) ((its.flatMap It.chars).toArray.size + 1) 0 = its.flatMap It.norm := q2
  rw [e2]
  refine sub_call (code := code1) (next := nx1 (its.flatMap It.norm).toArray) (by simp only [List.size_toArray]; omega) (by decide +kernel) (by decide +kernel) (nexts1 _) (G₀.P1.keeps k₁) fun h₂ tk₂ tk₂' k₂ => ?_
  have e1 : subFrom (its.flatMap It.norm).toArray.toList (Str.ofString "..").cps.toList (nx1 (its.flatMap It.norm).toArray) ((its.flatMap It.norm).toArray.size + 1) 0 = told true (its.map It.mark) := by
    have e0 : (Str.ofString "..").cps.toList = [46, 46] := by decide +kernel
    rw [e0]; exact q1
  rw [e1]
  exact h _ _ _ ((F.keep.trans k₁).trans k₂)
end
end Mine
end

/-! Lp1 -/
section
open PySem PySem.W PySem.Calls PyProof.Rows
set_option maxRecDepth 100000
namespace Mine
set_option linter.unusedVariables false
set_option linter.unusedSimpArgs false

/-- only the heap and the count of marks have turned -/
def Rest (s s' : Shared) : Prop := ∃ h tk, s' = { s with heap := h, toks := tk }
theorem Rest.refl (s : Shared) : Rest s s := ⟨_, _, rfl⟩
theorem Rest.trans {s s' s'' : Shared} (a : Rest s s') (b : Rest s' s'') : Rest s s'' := by
  obtain ⟨h, tk, rfl⟩ := a
  obtain ⟨h', tk', rfl⟩ := b
  exact ⟨h', tk', rfl⟩
theorem Rest.mk {s : Shared} {h : Heap} {tk : Nat} : Rest s { s with heap := h, toks := tk } := ⟨_, _, rfl⟩
theorem Rest.heap {s : Shared} {h : Heap} : Rest s { s with heap := h } := ⟨_, _, rfl⟩
theorem Rest.tok {s : Shared} {tk : Nat} : Rest s { s with toks := tk } := ⟨_, _, rfl⟩

/-- the lists that stood stand -/
abbrev Lists (h h' : Heap) : Prop := ∀ a items, h.PlainList a items → h'.PlainList a items
theorem Lists.of_keeps {h h' : Heap} (k : KeepsH h h') : Lists h h' := fun a items p => p.at fun o e => k _ o e
theorem Lists.trans {h h' h'' : Heap} (a : Lists h h') (b : Lists h' h'') : Lists h h'' := fun x i p => b x i (a x i p)

theorem Fm.down {env : Env} {V : List Addr} {B B' : Heap} {m cm : Str → Option Value} {h : Heap} (F : Fm env V B' m cm h) (k : KeepsH B B') : Fm env V B m cm h := by
  have no : ∀ a, B'.get? a = none → B.get? a = none := fun a e => by
    cases q : B.get? a with
    | none => rfl
    | some o => rw [k a o q] at e; cases e
  exact ⟨F.ns, k.trans F.keep, F.cell, F.apart, F.one, F.loc, no _ F.freeL, fun n c hm => no _ (F.freeC n c hm), fun a ha => no _ (F.freeV a ha)⟩

/-- a heap that differs at addresses that hold no list and are none of the frame's -/
theorem Fm.off {env : Env} {V wr : List Addr} {B : Heap} {m cm : Str → Option Value} {h h' : Heap} (F : Fm env V B m cm h) (hw : ∀ a ∈ wr, a ∉ hidden env V) (hB : ∀ a ∈ wr, B.get? a = none)
    (k : ∀ b o, b ∉ wr → h.get? b = some o → h'.get? b = some o) : Fm env V B m cm h' := by
  refine ⟨F.ns.at' fun o e => k _ o (fun hm => hw _ hm mem_hiddenL) e, fun b o e => k b o (fun hm => by rw [hB b hm] at e; cases e) (F.keep b o e), fun n c hm => ?_, F.apart, F.one, F.loc, F.freeL, F.freeC, F.freeV⟩
  obtain ⟨o, ho, hd⟩ := F.cell n c hm
  exact ⟨o, k c o (fun hw' => hw c hw' (mem_hiddenC hm)) ho, hd⟩

/-- how a loop's target is stored -/
def Stores (env : Env) (V : List Addr) (x : Str) (um uc : (Str → Option Value) → Value → Str → Option Value) (c : Addr) : Prop :=
  (env.kindOf x = some .local ∧ c = env.locals ∧ um = (fun m v => upd m x v) ∧ uc = fun cm _ => cm) ∨
  (env.kindOf x = some .cell ∧ env.cells.lookup x = some c ∧ um = (fun m _ => m) ∧ uc = fun cm v => upd cm x v)

section
variable {prog : Program} {w : World} {A : Around} {E : Value → Shared → Prop} {s : Shared} {env : Env} {V : List Addr} {B : Heap} {m cm : Str → Option Value}

theorem Stores.wp {x : Str} {um uc : (Str → Option Value) → Value → Str → Option Value} {c : Addr} (S : Stores env V x um uc c) {v : Value} {Q : Unit → Shared → Prop} (F : Fm env V B m cm s.heap) (hk : env.scope.kind = .function)
    (h : ∀ h' tk, Fm env V B (um m v) (uc cm v) h' → Heap.SameBut c s.heap h' → Q () { s with heap := h', toks := tk }) : wpAny (model prog w) A (storeName env x v) Q E s := by
  rcases S with ⟨hl, rfl, rfl, rfl⟩ | ⟨hl, hc, rfl, rfl⟩
  · exact storeL F hk hl fun h' F' sb => h h' _ F' sb
  · exact storeC F hk hl hc fun h' F' sb => h h' _ F' sb
theorem Stores.mem {x : Str} {um uc : (Str → Option Value) → Value → Str → Option Value} {c : Addr} (S : Stores env V x um uc c) : c ∈ hidden env V := by
  rcases S with ⟨_, rfl, _⟩ | ⟨_, hc, _⟩
  · exact mem_hiddenL
  · exact mem_hiddenC (mem_of_lookup hc)

/-- what stands at the frame's places is no list -/
theorem Fm.hidden_not_list (F : Fm env V B m cm s.heap) {c : Addr} (hc : c = env.locals ∨ ∃ n, (n, c) ∈ env.cells) {items : Array Value} : ¬ s.heap.PlainList c items := fun p => by
  obtain ⟨h1, h2⟩ := F.not_list p.isList
  rcases hc with rfl | ⟨n, hm⟩
  · exact h1 rfl
  · exact h2 n c hm rfl
theorem Stores.not_list {x : Str} {um uc : (Str → Option Value) → Value → Str → Option Value} {c : Addr} (S : Stores env V x um uc c) (F : Fm env V B m cm s.heap) {h' : Heap} (sb : Heap.SameBut c s.heap h') : Lists s.heap h' := fun a items p => by
  have hne : a ≠ c := by
    rintro rfl
    refine F.hidden_not_list ?_ p
    rcases S with ⟨_, rfl, _⟩ | ⟨_, hc, _⟩
    · exact .inl rfl
    · exact .inr ⟨x, mem_of_lookup hc⟩
  exact p.extBut sb.extBut hne

theorem for_loop {x : Str} {px : Pos} {body : List Stmt} {um uc : (Str → Option Value) → Value → Str → Option Value} {c I : Addr} {fp wr : List Addr} {n : Nat} {P : Nat → Value → Prop} {St : Nat → Heap → Prop} {R : Result → Shared → Prop}
    (W : Walks prog w A I fp wr n P St) (S : Stores env V x um uc c) (hk : env.scope.kind = .function) (Inv : Nat → Heap → (Str → Option Value) → (Str → Option Value) → Prop)
    (hstab : ∀ i h h' m cm, Lists h h' → Inv i h m cm → Inv i h' m cm)
    (hfp : ∀ b ∈ fp, b ∉ hidden env V) (hwr : ∀ i h b items, b ∈ wr → St i h → ¬ h.PlainList b items)
    (F : Fm env V B m cm s.heap) (hB : ∀ b ∈ wr, B.get? b = none) (st : St 0 s.heap) (h0 : Inv 0 s.heap m cm)
    (step : ∀ i v B' m' cm' s₁ E', i < n → P i v → Inv i s₁.heap m' cm' → KeepsH B B' → Fm env V B' (um m' v) (uc cm' v) s₁.heap → (∀ a items, a ∉ V → s₁.heap.PlainList a items → B'.PlainList a items) → Rest s s₁ →
      wpAny (model prog w) A (execs body env) (fun f s₂ => f = .next ∧ Rest s₁ s₂ ∧ ∃ m₂ cm₂, Fm env V B' m₂ cm₂ s₂.heap ∧ Inv (i + 1) s₂.heap m₂ cm₂) E' s₁)
    (done : ∀ m' cm' s', Rest s s' → Fm env V B m' cm' s'.heap → Inv n s'.heap m' cm' → R (.ok .next) s')
    (ht : ∀ v, letOwnedTupleGo (.Name x px) (.ref I) v = pure () := by intro _; rfl) :
    codeAny (model prog w) A (.forLoop (.Name x px) (.ref I) body [] env) R s := by
  refine codeAny_forLoop (fun k s' => ∃ i m' cm', Rest s s' ∧ Fm env V B m' cm' s'.heap ∧ St i s'.heap ∧ Inv i s'.heap m' cm' ∧ i ≤ n ∧ k = n + 1 - i) ?_ (n + 1) ⟨0, m, cm, .refl _, F, st, h0, Nat.zero_le _, rfl⟩ ht
  rintro k s' ⟨i, m', cm', rs, F', st', hI, hi, rfl⟩
  have hwf : ∀ a ∈ wr, a ∉ hidden env V := fun a ha => hfp a (W.sub a ha)
  by_cases hlt : i < n
  · refine W.item i s' _ _ hlt st' fun v h₁ tk₁ hP st₁ k₁ => ?_
    have F₁ : Fm env V B m' cm' h₁ := F'.off hwf hB k₁
    have L₁ : Lists s'.heap h₁ := fun a items p => p.at fun o e => k₁ a o (fun hm => hwr i _ a items hm st' p) e
    refine wpAny_assign_Name (S.wp (s := { s' with heap := h₁, toks := tk₁ }) F₁ hk fun h₂ tk₂ F₂ sb₂ => ?_)
    have st₂ : St (i + 1) h₂ := W.frame _ _ _ st₁ fun b hb o e => sb₂.extBut b o (fun q => hfp b hb (q ▸ S.mem)) e
    have L₂ : Lists h₁ h₂ := S.not_list (s := { s' with heap := h₁, toks := tk₁ }) F₁ sb₂
    have hI₂ : Inv i h₂ m' cm' := hstab _ _ _ _ _ (L₁.trans L₂) hI
    obtain ⟨KB, FB⟩ := F₂.rebase V F₂.freeV
    refine wpAny_mono (step i v (hideAll h₂ (hidden env V)) m' cm' { s' with heap := h₂, toks := tk₂ } _ hlt hP hI₂ KB FB (fun a items ha p => F₂.plain V p ha) (rs.trans .mk)) (fun f s₃ h₃ => ?_) fun _ _ e => e
    obtain ⟨rfl, rs₃, m₂, cm₂, F₃, hI₃⟩ := h₃
    refine ⟨n + 1 - (i + 1), by omega, i + 1, m₂, cm₂, (rs.trans .mk).trans rs₃, F₃.down KB, ?_, hI₃, hlt, rfl⟩
    exact W.frame _ _ _ st₂ fun b hb o e => F₃.keep b o (hideAll_get _ e (hfp b hb))
  · have hin : i = n := by omega
    subst hin
    refine W.done s' _ _ st' fun h₁ tk₁ k₁ => ?_
    have F₁ : Fm env V B m' cm' h₁ := F'.off hwf hB k₁
    have L₁ : Lists s'.heap h₁ := fun a items p => p.at fun o e => k₁ a o (fun hm => hwr _ _ a items hm st' p) e
    exact wpAny_execs_nil (done m' cm' _ (rs.trans .mk) F₁ (hstab _ _ _ _ _ L₁ hI))
end
end Mine
end

/-! Lp2 -/
section
open PySem PySem.W PySem.Calls PyProof.Rows
set_option maxRecDepth 100000
namespace Mine
set_option linter.unusedVariables false
set_option linter.unusedSimpArgs false

theorem fresh_none (h : Heap) : h.get? h.objs.size = none := by
  cases e : h.get? h.objs.size with
  | none => rfl
  | some o' => exact absurd (Heap.lt_size e) (Nat.lt_irrefl _)
theorem push_keeps (h : Heap) (o : Obj) : KeepsH h (h.push o) := fun b o' e => Heap.get?_push_of_some _ e
theorem KeepsH.none {h h' : Heap} (k : KeepsH h h') {a : Addr} (e : h'.get? a = Option.none) : h.get? a = Option.none := by
  cases q : h.get? a with
  | none => rfl
  | some o => rw [k a o q] at e; cases e

section
variable {prog : Program} {w : World} {A : Around} {E : Value → Shared → Prop} {s : Shared} {env : Env} {V : List Addr} {B : Heap} {m cm : Str → Option Value}

theorem Fm.fresh (F : Fm env V B m cm s.heap) (hV : ∀ a ∈ V, ∃ o, s.heap.get? a = some o) : s.heap.objs.size ∉ hidden env V := fun hm => by
  rcases List.mem_cons.mp hm with e | hm
  · exact absurd F.ns.lt (e ▸ Nat.lt_irrefl _)
  · rcases List.mem_append.mp hm with hm | hm
    · obtain ⟨⟨n, c⟩, hm, e⟩ := List.mem_map.mp hm
      have e : c = s.heap.objs.size := e
      exact absurd (F.cell n c hm).lt (e ▸ Nat.lt_irrefl _)
    · obtain ⟨o, ho⟩ := hV _ hm
      exact absurd (Heap.lt_size ho) (Nat.lt_irrefl _)
theorem Fm.list_off (F : Fm env V B m cm s.heap) {a : Addr} {items : Array Value} (I : s.heap.IsList a items) (ha : a ∉ V) : a ∉ hidden env V := fun hm => by
  obtain ⟨h1, h2⟩ := F.not_list I
  rcases List.mem_cons.mp hm with rfl | hm
  · exact h1 rfl
  · rcases List.mem_append.mp hm with hm | hm
    · obtain ⟨⟨n', c⟩, hm', e'⟩ := List.mem_map.mp hm
      exact h2 n' c hm' e'.symm
    · exact ha hm

/-- a for over a list -/
theorem for_list {x : Str} {px : Pos} {body : List Stmt} {um uc : (Str → Option Value) → Value → Str → Option Value} {c ax : Addr} {items : Array Value} {R : Result → Shared → Prop} (hh : A.handled = none)
    (S : Stores env V x um uc c) (hk : env.scope.kind = .function) (hV : ∀ a ∈ V, ∃ o, s.heap.get? a = some o) (F : Fm env V B m cm s.heap) (hl : s.heap.IsList ax items) (ha : ax ∉ V)
    (Inv : Nat → Heap → (Str → Option Value) → (Str → Option Value) → Prop) (hstab : ∀ i h h' m cm, Lists h h' → Inv i h m cm → Inv i h' m cm) (h0 : Inv 0 s.heap m cm)
    (step : ∀ i v B' m' cm' s₁ E', items[i]? = some v → Inv i s₁.heap m' cm' → KeepsH B B' → Fm env V B' (um m' v) (uc cm' v) s₁.heap → (∀ a items, a ∉ V → s₁.heap.PlainList a items → B'.PlainList a items) → Rest s s₁ →
      wpAny (model prog w) A (execs body env) (fun f s₂ => f = .next ∧ Rest s₁ s₂ ∧ ∃ m₂ cm₂, Fm env V B' m₂ cm₂ s₂.heap ∧ Inv (i + 1) s₂.heap m₂ cm₂) E' s₁)
    (done : ∀ m' cm' s', Rest s s' → Fm env V B m' cm' s'.heap → Inv items.size s'.heap m' cm' → R (.ok .next) s') :
    wpAny (model prog w) A (pyIter (.ref ax)) (fun it s₂ => codeAny (model prog w) A (.forLoop (.Name x px) it body [] env) R s₂) E s := by
  refine wpAny_pyIter_list hl ?_
  obtain ⟨oa, hoa, _⟩ := id hl
  have hne : ax ≠ s.heap.objs.size := Nat.ne_of_lt (Heap.lt_size hoa)
  have hI := F.fresh hV
  refine for_loop (Walks.list hh s.heap.objs.size ax hne items) S hk Inv hstab ?_ ?_ (F.kept (push_keeps _ _)) ?_ ⟨⟨_, Heap.get?_push_size _ rfl, rfl, rfl⟩, hl.push _⟩ (hstab _ _ _ _ _ (.of_keeps (push_keeps _ _)) h0) ?_ fun m' cm' s' rs F' hI' => done m' cm' s' (Rest.trans .heap rs) F' hI'
  · intro b hb
    rcases List.mem_cons.mp hb with rfl | hb
    · exact hI
    · rw [List.mem_singleton.mp hb]; exact F.list_off hl ha
  · intro i h b its hb st p
    rw [List.mem_singleton.mp hb] at p
    obtain ⟨o, ho, hc, _⟩ := st.1
    obtain ⟨n, e⟩ := p
    rw [ho] at e
    have e1 := congrArg (fun o => o.map (·.cls)) e
    simp only [Option.map_some, hc] at e1
    exact absurd e1 (by decide)
  · intro b hb
    rw [List.mem_singleton.mp hb]
    exact F.keep.none (fresh_none _)
  · intro i v B' m' cm' s₁ E' hlt hP hI' KB F' L' rs
    exact step i v B' m' cm' s₁ E' hP hI' KB F' L' (Rest.trans .heap rs)

/-- a for over range(n) -/
theorem for_range {x : Str} {px : Pos} {body : List Stmt} {um uc : (Str → Option Value) → Value → Str → Option Value} {c r : Addr} {n : Nat} {t u v' : Tok} {R : Result → Shared → Prop} (hh : A.handled = none)
    (S : Stores env V x um uc c) (hk : env.scope.kind = .function) (hV : ∀ a ∈ V, ∃ o, s.heap.get? a = some o) (F : Fm env V B m cm s.heap) (hr : IsRange s.heap r 0 n 1 t u v') (hn : n < 1000000)
    (Inv : Nat → Heap → (Str → Option Value) → (Str → Option Value) → Prop) (hstab : ∀ i h h' m cm, Lists h h' → Inv i h m cm → Inv i h' m cm) (h0 : Inv 0 s.heap m cm)
    (step : ∀ i tk B' m' cm' s₁ E', i < n → Inv i s₁.heap m' cm' → KeepsH B B' → Fm env V B' (um m' (.int i tk)) (uc cm' (.int i tk)) s₁.heap → (∀ a items, a ∉ V → s₁.heap.PlainList a items → B'.PlainList a items) → Rest s s₁ →
      wpAny (model prog w) A (execs body env) (fun f s₂ => f = .next ∧ Rest s₁ s₂ ∧ ∃ m₂ cm₂, Fm env V B' m₂ cm₂ s₂.heap ∧ Inv (i + 1) s₂.heap m₂ cm₂) E' s₁)
    (done : ∀ m' cm' s', Rest s s' → Fm env V B m' cm' s'.heap → Inv n s'.heap m' cm' → R (.ok .next) s') :
    wpAny (model prog w) A (pyIter (.ref r)) (fun it s₂ => codeAny (model prog w) A (.forLoop (.Name x px) it body [] env) R s₂) E s := by
  refine wpAny_pyIter_range hr (small_one (by decide) (by decide) (by omega) (by omega)) ?_
  have hI := F.fresh hV
  have esz : Builtin.Range.rangeSize 0 n 1 = n := by rw [rangeSize_one]; split <;> omega
  rw [esz]
  refine for_loop (Walks.range hh s.heap.objs.size 0 1 n) S hk Inv hstab ?_ ?_ (F.kept (push_keeps _ _)) ?_ ?_ (hstab _ _ _ _ _ (.of_keeps (push_keeps _ _)) h0) ?_ fun m' cm' s' rs F' hI' => done m' cm' s' (Rest.trans .heap rs) F' hI'
  · intro b hb
    rw [List.mem_singleton.mp hb]; exact hI
  · intro i h b its hb st p
    rw [List.mem_singleton.mp hb] at p
    obtain ⟨k, e⟩ := p
    have st' : h.get? _ = some _ := st
    rw [st'] at e
    have e1 := congrArg (fun o => o.map (·.cls)) e
    simp only [Option.map_some] at e1
    exact absurd e1 (by decide)
  · intro b hb
    rw [List.mem_singleton.mp hb]
    exact F.keep.none (fresh_none _)
  · show Heap.get? _ _ = _
    have e1 : (0 : Int) + ((0 : Nat) : Int) * 1 = 0 := by omega
    have e2 : (n : Int) - ((0 : Nat) : Int) = n := by omega
    rw [e1, e2]
    exact Heap.get?_push_size _ rfl
  · rintro i v B' m' cm' s₁ E' hlt ⟨t', rfl⟩ hI' KB F' L' rs
    have e : ((0 : Int) + (i : Nat) * 1) = (i : Nat) := by omega
    rw [e] at F'
    exact step i t' B' m' cm' s₁ E' hlt hI' KB F' L' (Rest.trans .heap rs)
end
end Mine
end

/-! F2 -/
section
open PySem PySem.W PySem.Calls PyProof.Rows
set_option maxRecDepth 100000
namespace Mine
set_option linter.unusedVariables false
set_option linter.unusedSimpArgs false

theorem Stores.local {env : Env} {V : List Addr} {x : Str} (hl : env.kindOf x = some .local) : Stores env V x (fun m v => upd m x v) (fun cm _ => cm) env.locals := .inl ⟨hl, rfl, rfl, rfl⟩
theorem Stores.ofCell {env : Env} {V : List Addr} {x : Str} {c : Addr} (hl : env.kindOf x = some .cell) (hc : env.cells.lookup x = some c) : Stores env V x (fun m _ => m) (fun cm v => upd cm x v) c := .inr ⟨hl, hc, rfl, rfl⟩

/-- parts of the text -/
def forBody : Stmt → List Stmt
  | .For _ _ b _ _ => b
  | _ => []
def stOf (l : List Stmt) (i : Nat) : Stmt := l[i]?.getD (.Pass ⟨0, 0, 0, 0⟩)

theorem Keeps.rest {s s' : Shared} (k : Keeps s s') : Rest s s' := let ⟨h, tk, e, _⟩ := k; ⟨h, tk, e⟩
theorem Keeps.heap {s s' : Shared} (k : Keeps s s') : KeepsH s.heap s'.heap := by obtain ⟨h, tk, rfl, k⟩ := k; exact k
theorem Keeps.of {s s' : Shared} (r : Rest s s') (k : KeepsH s.heap s'.heap) : Keeps s s' := by obtain ⟨h, tk, rfl⟩ := r; exact ⟨h, tk, rfl, k⟩
theorem Keeps.refl (s : Shared) : Keeps s s := ⟨_, _, rfl, fun _ _ e => e⟩
theorem Keeps.trans {s s' s'' : Shared} (a : Keeps s s') (b : Keeps s' s'') : Keeps s s'' := Mine.Keeps.of ((Keeps.rest a).trans (Keeps.rest b)) ((Keeps.heap a).trans (Keeps.heap b))
theorem Keeps.tok {s : Shared} {tk : Nat} : Keeps s { s with toks := tk } := ⟨_, _, rfl, fun _ _ e => e⟩

section
variable {prog : Program} {w : World} {A : Around} {E : Value → Shared → Prop} {s : Shared} {mg mb : Str → Option Value} {ad : Adr}

/-- x = value -/
theorem assignL {env : Env} {V : List Addr} {x : Str} {px pos : Pos} {value : Expr} {Q : Flow → Shared → Prop} (hk : env.scope.kind = .function) (hl : env.kindOf x = some .local)
    (hs : swapsWith value (some (.Name x px)) pos.line env = pure false)
    (h : wpAny (model prog w) A (eval value env) (fun v s₁ => ∃ B m cm, Fm env V B m cm s₁.heap ∧ ∀ s₂, Rest s₁ s₂ → Fm env V B (upd m x v) cm s₂.heap → Lists s₁.heap s₂.heap → Q .next s₂) E s) :
    wpAny (model prog w) A (exec (.Assign [.Name x px] value pos) env) Q E s := by
  refine wpAny_Assign_Name (wpAny_mono h (fun v s₁ h₁ => ?_) fun _ _ e => e) hs
  obtain ⟨B, m, cm, F, hQ⟩ := h₁
  exact storeL F hk hl fun h' F' sb => hQ _ .mk F' ((Stores.local (V := V) hl).not_list F sb)
/-- x op= value -/
theorem augL {env : Env} {V : List Addr} {x : Str} {px pos : Pos} {op : Operator} {value : Expr} {old : Value} {B : Heap} {m cm : Str → Option Value} {Q : Flow → Shared → Prop} (hk : env.scope.kind = .function) (hl : env.kindOf x = some .local) (F : Fm env V B m cm s.heap) (hv : m x = some old)
    (h : wpAny (model prog w) A (eval value env) (fun v s₁ => wpAny (model prog w) A (inplaceOp op old v) (fun r s₂ => ∃ B m cm, Fm env V B m cm s₂.heap ∧ ∀ s₃, Rest s₂ s₃ → Fm env V B (upd m x r) cm s₃.heap → Lists s₂.heap s₃.heap → Q .next s₃) E s₁) E s) :
    wpAny (model prog w) A (exec (.AugAssign (.Name x px) op value pos) env) Q E s := by
  refine wpAny_AugAssign_Name (wpAny_loadName_local hk hl F.ns hv (wpAny_mono h (fun v s₁ h₁ => wpAny_mono h₁ (fun r s₂ h₂ => ?_) fun _ _ e => e) fun _ _ e => e))
  obtain ⟨B, m, cm, F, hQ⟩ := h₂
  exact storeL F hk hl fun h' F' sb => hQ _ .mk F' ((Stores.local (V := V) hl).not_list F sb)

/-- a call of a def without cells, the state behind it told by what it keeps -/
theorem call_fnK {i : Nat} {a : Addr} {vals : List Value} {binds : List (Str × Value)} {Q : Value → Shared → Prop} (hroom : A.depth < recursionLimit) (hf : IsFn s.heap a i) (lim : s.heap.NoLimit)
    (hbind : ∀ name qual doc pm an cd ct, bindArgs (fnX name qual (parAt i) (bodyAt i) (scopeAt i) [] .none .none doc pm an cd ct) ⟨vals, []⟩ = pure binds)
    (hloc : ∀ x ∈ binds, (scopeAt i).names.lookup x.1 = some .local) (hcell : ∀ x ∈ (scopeAt i).names, x.2 ≠ .cell)
    (h : ∀ qual L cd s₁ E', Rest s s₁ → Fm (envX qual (scopeAt i) L a cd []) [] s.heap (fun x => binds.reverse.lookup x) (fun _ => none) s₁.heap →
      wpAny (model prog w) (A.deeper (envX qual (scopeAt i) L a cd [])) (execs (bodyAt i) (envX qual (scopeAt i) L a cd [])) (fun f s' => Q (match f with | .ret v => v | _ => .none) s') E' s₁)
    (hco : (scopeAt i).isCoroutine = false) (hgen : (scopeAt i).isGenerator = false) (hk : (scopeAt i).kind = .function) :
    wpAny (model prog w) A (call (.ref a) vals) Q E s :=
  call_fn hroom hf lim hbind hloc hcell (fun qual L cd h₀ tk E' F => h qual L cd _ E' .mk F) hco hgen hk

theorem intsAre_at {vs : List Value} {ms : List Int} (hi : IntsAre vs ms) {i : Nat} {v : Value} (hv : vs[i]? = some v) : ∃ n t, v = .int n t ∧ ms[i]? = some n := by
  induction hi generalizing i with
  | nil => simp at hv
  | cons a t r ih =>
    cases i with
    | zero => simp at hv; subst hv; exact ⟨_, _, rfl, rfl⟩
    | succ i => simpa using ih (by simpa using hv)

theorem told_call {l : Addr} {vs : List Value} {ms : List Int} {Q : Value → Shared → Prop} (G : Gd mg mb ad s.heap) (hroom : A.depth < recursionLimit) (hh : A.handled = none)
    (hl : s.heap.PlainList l vs.toArray) (hi : IntsAre vs ms) (hm : ∀ x ∈ ms, 0 ≤ x ∧ x < 128) (hlen : ms.length ≤ 1000)
    (h : ∀ s' t', Keeps s s' → Q (.str ⟨(told true ms).toArray⟩ t') s') :
    wpAny (model prog w) A (call (.ref ad.tl) [.ref l]) Q E s := by
  refine call_fnK (i := 11) (binds := [("marks", .ref l)]) hroom G.ftl G.lim (fun _ _ _ _ _ _ _ => rfl) (locs rfl) (by decide) (fun qual L cd s₀ E' r₀ F => ?_) rfl rfl rfl
  have G₀ := G.keeps F.keep
  refine wpAny_execs_cons (assignL (V := []) rfl rfl rfl (Constant_str ⟨_, _, _, F, fun s₁ r₁ F₁ _ => ?_⟩))
  refine wpAny_execs_cons (assignL (V := []) rfl rfl rfl (wpAny_pure ⟨_, _, _, F₁, fun s₂ r₂ F₂ _ => ?_⟩))
  have hl₂ : s₂.heap.IsList l vs.toArray := (hl.at fun o e => F₂.keep _ o e).isList
  refine wpAny_execs_cons (wpAny_For (nameL F₂ rfl rfl rfl ?_) (fun _ => rfl))
  refine for_list (V := []) (um := fun m v => upd m "mark" v) (uc := fun cm _ => cm) hh (Stores.local rfl) rfl (fun _ ha => by cases ha) F₂ hl₂ (fun ha => by cases ha)
    (fun i _ m _ => ∃ x t b, m "text" = some (.str x t) ∧ m "head" = some (.bool b) ∧ x.length ≤ 2 * i ∧ x.cps.toList ++ told b (ms.drop i) = told true ms) ?_ ?_ ?_ ?_
  · intro i h h' m cm _ hI; exact hI
  · exact ⟨_, _, _, rfl, rfl, Nat.le_refl _, rfl⟩
  · rintro i v B' m' cm' s₃ E'' hv ⟨x, t, b, ht, hb, hx, hd⟩ KB F' L' rs
    obtain ⟨n, tn, rfl, hn⟩ := intsAre_at hi (by simpa using hv)
    obtain ⟨hilt, hn'⟩ := List.getElem?_eq_some_iff.mp hn
    have hnb := hm n (List.mem_of_getElem? hn)
    have hd1 : ms.drop i = n :: ms.drop (i + 1) := by rw [List.drop_eq_getElem_cons hilt, hn']
    rw [hd1, told] at hd
    have G₃ := G.keeps (KB.trans F'.keep)
    have hmk : upd m' "mark" (.int n tn) "mark" = some (.int n tn) := upd_same
    have htx : upd m' "mark" (.int n tn) "text" = some (.str x t) := (upd_ne (by decide)).trans ht
    have hhd : upd m' "mark" (.int n tn) "head" = some (.bool b) := (upd_ne (by decide)).trans hb
    -- the last statement, whatever was told of the text
    have last : ∀ (y : Str) (ty : Tok) (s₄ : Shared) E₄, Rest s₃ s₄ → Fm (envX qual (scopeAt 11) L ad.tl cd []) [] B' (upd (upd m' "mark" (.int n tn)) "text" (.str y ty)) cm' s₄.heap → y.length ≤ x.length + 2 →
        y.cps.toList = x.cps.toList ++ (if n = 13 then [13, 10] else if n = 46 ∧ b = true then [46, 46] else [n.toNat]) →
        wpAny (model prog w) (A.deeper (envX qual (scopeAt 11) L ad.tl cd [])) (execs ((forBody (stOf (bodyAt 11) 2)).drop 1) (envX qual (scopeAt 11) L ad.tl cd []))
          (fun f s₂ => f = .next ∧ Rest s₃ s₂ ∧ ∃ m₂ cm₂, Fm (envX qual (scopeAt 11) L ad.tl cd []) [] B' m₂ cm₂ s₂.heap ∧ ∃ x t b, m₂ "text" = some (.str x t) ∧ m₂ "head" = some (.bool b) ∧ x.length ≤ 2 * (i + 1) ∧ x.cps.toList ++ told b (ms.drop (i + 1)) = told true ms) E₄ s₄ := by
      intro y ty s₄ E₄ r₄ F₄ hy hyd
      refine wpAny_execs_cons (assignL (V := []) rfl rfl rfl (wpAny_Compare1 (nameL F₄ rfl rfl ((upd_ne (by decide)).trans hmk) (wpAny_Constant_int (eq_int ⟨_, _, _, F₄, fun s₅ r₅ F₅ _ => ?_⟩)))))
      refine wpAny_execs_nil ⟨rfl, r₄.trans (Rest.trans .tok r₅), _, _, F₅, y, ty, _, (upd_ne (by decide)).trans upd_same, upd_same, by omega, ?_⟩
      rw [hyd, List.append_assoc]
      have e : (n == 13) = decide (n = 13) := by by_cases h13 : n = 13 <;> simp [h13]
      rw [e]; exact hd
    have cpsapp : ∀ y : Str, (x ++ y).cps.toList = x.cps.toList ++ y.cps.toList := fun y => by show (x.cps ++ y.cps).toList = _; simp
    have lenapp : ∀ y : Str, (x ++ y).length = x.length + y.length := fun y => Str.length_append x y
    refine wpAny_execs_cons (wpAny_If (wpAny_isTrue_Compare1 (nameL F' rfl rfl hmk (wpAny_Constant_int (eq_int (wpAny_truthy_bool ?_))))))
    split
    · rename_i h13
      have h13 : n = 13 := by simpa using h13
      refine wpAny_execs_cons (augL (V := []) rfl rfl F' htx (Constant_str (iadd_str (fun t' tk => ⟨_, _, _, F', fun s₅ r₅ F₅ _ => ?_⟩) ?_)))
      · refine wpAny_execs_nil (last _ _ _ _ (Rest.trans .tok r₅) F₅ ?_ ?_)
        · rw [lenapp]; exact Nat.le_refl _
        · rw [cpsapp, if_pos h13]; rfl
      · rw [sizeLine_eq]; show x.length + 2 ≤ _; omega
    · rename_i h13
      have h13 : ¬ n = 13 := by simpa using h13
      refine wpAny_execs_cons (wpAny_If (isTrue_and (wpAny_isTrue_Compare1 (nameL F' rfl rfl hmk (wpAny_Constant_int (eq_int (wpAny_truthy_bool ?_)))))))
      split
      · rename_i h46
        have h46 : n = 46 := by simpa using h46
        refine isTrue_and (isTrue_plain (nameL F' rfl rfl hhd (wpAny_truthy_bool ?_)))
        split
        · rename_i hbt
          refine isTrue_and_nil ?_
          rw [if_pos rfl]
          refine wpAny_execs_cons (augL (V := []) rfl rfl F' htx (Constant_str (iadd_str (fun t' tk => ⟨_, _, _, F', fun s₅ r₅ F₅ _ => ?_⟩) ?_)))
          · refine wpAny_execs_nil (wpAny_execs_nil (last _ _ _ _ (Rest.trans .tok r₅) F₅ ?_ ?_))
            · rw [lenapp]; exact Nat.le_refl _
            · rw [cpsapp, if_neg h13, if_pos ⟨h46, hbt⟩]; rfl
          · rw [sizeLine_eq]; show x.length + 2 ≤ _; omega
        · rename_i hbt
          rw [if_neg Bool.false_ne_true]
          refine wpAny_execs_cons (augL (V := []) rfl rfl F' htx (callB1 G₃.g G₃.b G₃.nchr G₃.bchr rfl rfl rfl rfl rfl (nameL F' rfl rfl hmk (chr_of_range hnb.1 (by omega) (iadd_str (fun t' tk => ⟨_, _, _, F', fun s₅ r₅ F₅ _ => ?_⟩) ?_)))))
          · refine wpAny_execs_nil (wpAny_execs_nil (last _ _ _ _ (Rest.trans .tok r₅) F₅ ?_ ?_))
            · rw [lenapp]; exact Nat.le_succ _
            · rw [cpsapp, if_neg h13, if_neg (fun hc => hbt hc.2)]
          · rw [sizeLine_eq]; show x.length + 1 ≤ _; omega
      · rename_i h46
        have h46 : ¬ n = 46 := by simpa using h46
        rw [if_neg Bool.false_ne_true]
        refine wpAny_execs_cons (augL (V := []) rfl rfl F' htx (callB1 G₃.g G₃.b G₃.nchr G₃.bchr rfl rfl rfl rfl rfl (nameL F' rfl rfl hmk (chr_of_range hnb.1 (by omega) (iadd_str (fun t' tk => ⟨_, _, _, F', fun s₅ r₅ F₅ _ => ?_⟩) ?_)))))
        · refine wpAny_execs_nil (wpAny_execs_nil (last _ _ _ _ (Rest.trans .tok r₅) F₅ ?_ ?_))
          · rw [lenapp]; exact Nat.le_succ _
          · rw [cpsapp, if_neg h13, if_neg (fun hc => h46 hc.1)]
        · rw [sizeLine_eq]; show x.length + 1 ≤ _; omega
  · rintro m' cm' s₃ rs F' ⟨x, t, b, ht, hb, hx, hd⟩
    have hlen' : vs.toArray.size = ms.length := by simp [hi.length]
    rw [hlen', List.drop_length] at hd
    have e : x = ⟨(told true ms).toArray⟩ := by
      rw [← hd, told, List.append_nil]
    refine wpAny_execs_cons (wpAny_Return_some (nameL F' rfl rfl ht ?_))
    rw [e]
    exact h _ _ (Mine.Keeps.of (r₀.trans ((Rest.trans .tok r₁).trans (r₂.trans rs))) F'.keep)
end
end Mine
end

/-! F3 -/
section
open PySem PySem.W PySem.Calls PyProof.Rows
set_option maxRecDepth 100000
namespace Mine
set_option linter.unusedVariables false
set_option linter.unusedSimpArgs false

def It.str (i : It) : Str := ⟨i.chars.toArray⟩
def itAt (k : Int) : It := if k = 0 then .lf else if k = 1 then .crlf else if k = 2 then .vt else if k = 3 then .dot else .aa
def itemsFrom : Int → Nat → List It
  | _, 0 => []
  | left, k + 1 => itAt (left.fmod 5) :: itemsFrom (left.fdiv 5) k
/-- the piece that a number makes -/
def pieceOf (n : Int) : List It := itemsFrom ((n.fdiv 3).fmod 125) (1 + n.fmod 3).toNat

theorem itemsFrom_length : ∀ (k : Nat) (left : Int), (itemsFrom left k).length = k
  | 0, _ => rfl
  | k + 1, left => by rw [itemsFrom, List.length_cons, itemsFrom_length k]
theorem pieceOf_length (n : Int) : 1 ≤ (pieceOf n).length ∧ (pieceOf n).length ≤ 3 := by
  have h1 := fmod_lo n (n := 3) (by decide)
  have h2 := fmod_hi n (n := 3) (by decide)
  rw [pieceOf, itemsFrom_length]; omega

section
variable {env : Env} {V : List Addr} {B : Heap} {m cm : Str → Option Value} {h h' : Heap}
theorem Fm.addV (F : Fm env V B m cm h) {l : Addr} (hl : B.get? l = none) : Fm env (l :: V) B m cm h :=
  ⟨F.ns, F.keep, F.cell, F.apart, F.one, F.loc, F.freeL, F.freeC, fun a ha => by rcases List.mem_cons.mp ha with rfl | ha; exact hl; exact F.freeV a ha⟩
theorem Fm.dropV (F : Fm env V B m cm h) {W : List Addr} (hW : ∀ a ∈ W, a ∈ V) : Fm env W B m cm h :=
  ⟨F.ns, F.keep, F.cell, F.apart, F.one, F.loc, F.freeL, F.freeC, fun a ha => F.freeV a (hW a ha)⟩
theorem Fm.setV (F : Fm env V B m cm h) {l : Addr} {items : Array Value} (hl : l ∈ V) (I : h.PlainList l items) (sb : Heap.SameBut l h h') : Fm env V B m cm h' := by
  obtain ⟨h1, h2⟩ := F.not_list I.isList
  exact ⟨F.ns.sameBut sb (Ne.symm h1), F.keep.but (F.freeV l hl) sb, fun n c hm => (F.cell n c hm).sameBut sb (Ne.symm (h2 n c hm)), F.apart, F.one, F.loc, F.freeL, F.freeC, F.freeV⟩
end

section
variable {prog : Program} {w : World} {A : Around} {E : Value → Shared → Prop} {s : Shared} {mg mb : Str → Option Value} {ad : Adr}

/-- an item of a list -/
theorem subscr {env : Env} {value slice : Expr} {pos : Pos} {Q : Value → Shared → Prop} (hs : ∀ o i, subscripted slice false o i = operate [o, i] (getItem o i))
    (h : wpAny (model prog w) A (eval value env) (fun o s₁ => wpAny (model prog w) A (eval slice env) (fun i s₂ => ∃ l items k t x, o = .ref l ∧ i = .int k t ∧ s₂.heap.IsList l items ∧ 0 ≤ k ∧ k < 2 ^ 63 ∧ items[k.toNat]? = some x ∧ Q x s₂) E s₁) E s) :
    wpAny (model prog w) A (eval (.Subscript value slice pos) env) Q E s := by
  rw [eval_Subscript]
  refine wpAny_bind (wpAny_mono h (fun o s₁ h₁ => wpAny_bind (wpAny_holding (wpAny_mono h₁ (fun i s₂ h₂ => wpAny_bind (wpAny_standAt ?_)) fun _ _ x => x))) fun _ _ x => x)
  obtain ⟨l, items, k, t, x, rfl, rfl, hl, h0, hk, hx, hq⟩ := h₂
  refine wpAny_bind ?_
  rw [getitemInPython_of_ne hl.typeIs.not_modules]
  refine wpAny_bind (wpAny_specialOf hl.typeIs list_getitem_lookup ?_)
  have fin : wpAny (model prog w) A (operate [.ref l, .int k t] (getItem (.ref l) (.int k t))) (fun r s₃ => wpAny (model prog w) A (letTemporaryGo value (.ref l) r >>= fun _ => pure r) Q E s₃) E s₂ :=
    wpAny_operating (wpAny_getItem_list hl h0 hk hx (wpAny_bind (wpAny_letTemporaryGo (wpAny_pure hq))))
  refine wpAny_pure ?_
  rw [hs]
  exact wpAny_bind fin

/-- l.append(e) as a statement -/
theorem appendS {env : Env} {x : Str} {e : Expr} {px apos cpos pos : Pos} {l : Addr} {B : Heap} {V : List Addr} {m cm : Str → Option Value} {Q : Flow → Shared → Prop} (hk : env.scope.kind = .function) (hlx : env.kindOf x = some .local) (F : Fm env V B m cm s.heap) (hv : m x = some (.ref l))
    (hI : ∃ items, s.heap.PlainList l items)
    (hbase : attributeBase (.Name x px) "append" env (eval (.Name x px) env) = eval (.Name x px) env) (hline : (apos.endLine == cpos.line) = true) (hs : starEach [e] env = [(false, eval e env)])
    (hi : interactive env = false) (hw : swapsWith (.Call (.Attribute (.Name x px) "append" apos) [e] [] cpos) none pos.line env = pure false)
    (h : wpAny (model prog w) A (eval e env) (fun v s₁ => ∃ items, s₁.heap.PlainList l items ∧ items.size ≤ sizeLine ∧ ∀ s₂, Rest s₁ s₂ → s₂.heap.PlainList l (items.push v) → Heap.SameBut l s₁.heap s₂.heap → Q .next s₂) E s)
    (hd : (x == ("__debug__" : Str)) = false := by decide) :
    wpAny (model prog w) A (exec (.Expr (.Call (.Attribute (.Name x px) "append" apos) [e] [] cpos) pos) env) Q E s := by
  refine wpAny_Expr ?_ hi hw
  refine callM1 PySem.F.plainAttrs_list PySem.F.slot_list_append PySem.F.type_list_append hbase hline hs ?_
  obtain ⟨items₀, I₀⟩ := hI
  obtain ⟨n₀, e₀⟩ := I₀
  refine nameL F hk hlx hv ⟨⟨_, e₀, rfl⟩, fun a ea => by cases ea; exact ⟨_, e₀, rfl⟩, ?_⟩ hd
  refine wpAny_mono h (fun v s₁ h₁ => ?_) fun _ _ e => e
  obtain ⟨items, I, hz, hQ⟩ := h₁
  exact wpAny_list_append_plain I (fun h' I' sb => hQ _ .heap I' sb) hz

theorem menu (k : Int) (h0 : 0 ≤ k) (h5 : k < 5) (t1 t2 t3 t4 t5 : Tok) : ∃ t,
    (#[Value.str (Str.ofString "\n") t1, .str (Str.ofString "\u000d\n") t2, .str (Str.ofString "\u000b") t3, .str (Str.ofString ".") t4, .str (Str.ofString "a") t5] : Array Value)[k.toNat]? = some (.str (itAt k).str t) := by
  have e1 : Str.ofString "\n" = It.lf.str := by decide +kernel
  have e2 : Str.ofString "\u000d\n" = It.crlf.str := by decide +kernel
  have e3 : Str.ofString "\u000b" = It.vt.str := by decide +kernel
  have e4 : Str.ofString "." = It.dot.str := by decide +kernel
  have e5 : Str.ofString "a" = It.aa.str := by decide +kernel
  rw [e1, e2, e3, e4, e5]
  have : k = 0 ∨ k = 1 ∨ k = 2 ∨ k = 3 ∨ k = 4 := by omega
  rcases this with rfl | rfl | rfl | rfl | rfl
  · exact ⟨t1, rfl⟩
  · exact ⟨t2, rfl⟩
  · exact ⟨t3, rfl⟩
  · exact ⟨t4, rfl⟩
  · exact ⟨t5, rfl⟩

theorem piece_call {n : Int} {t : Tok} {Q : Value → Shared → Prop} (G : Gd mg mb ad s.heap) (hroom : A.depth < recursionLimit) (hh : A.handled = none)
    (h : ∀ s' l vs, Keeps s s' → s.heap.get? l = none → s'.heap.PlainList l vs.toArray → StrsAre vs ((pieceOf n).map It.str) → Q (.ref l) s') :
    wpAny (model prog w) A (call (.ref ad.pc) [.int n t]) Q E s := by
  refine call_fnK (i := 9) (binds := [("number", .int n t)]) hroom G.fpc G.lim (fun _ _ _ _ _ _ _ => rfl) (locs rfl) (by decide) (fun qual L cd s₀ E' r₀ F => ?_) rfl rfl rfl
  have G₀ := G.keeps F.keep
  refine wpAny_execs_cons (assignL (V := []) rfl rfl rfl (wpAny_BinOp (wpAny_BinOp (nameL F rfl rfl rfl (wpAny_Constant_int (floordiv_int (by decide) (wpAny_Constant_int (mod_int' (by decide) ⟨_, _, _, F, fun s₁ r₁ F₁ _ => ?_⟩))))))))
  refine wpAny_execs_cons (assignL (V := []) rfl rfl rfl (List_ (spliced_nil (wpAny_newList ⟨_, _, _, F₁.kept (push_keeps _ _), fun s₂ r₂ F₂ L₂ => ?_⟩))))
  have hl₁ : s.heap.get? s₁.heap.objs.size = none := F₁.keep.none (fresh_none _)
  have I₂ : s₂.heap.PlainList s₁.heap.objs.size #[] := L₂ _ _ ⟨0, Heap.get?_push_size _ rfl⟩
  generalize s₁.heap.objs.size = l at hl₁ F₂ I₂
  have G₂ := G.keeps F₂.keep
  have hlo := fmod_lo n (n := 3) (by decide)
  have hhi := fmod_hi n (n := 3) (by decide)
  obtain ⟨k, hk⟩ : ∃ k : Nat, 1 + n.fmod 3 = k := ⟨(1 + n.fmod 3).toNat, by omega⟩
  have hk3 : k ≤ 3 := by omega
  have hpc : pieceOf n = itemsFrom ((n.fdiv 3).fmod 125) k := by rw [pieceOf, hk]; rfl
  refine wpAny_execs_cons (wpAny_For (callT1 G₂.g G₂.b G₂.nrange G₂.brange rfl rfl rfl rfl rfl (wpAny_BinOp (wpAny_Constant_int (wpAny_BinOp (nameL F₂ rfl rfl rfl (wpAny_Constant_int (mod_int' (by decide) (add_int ?_)))))))) (fun _ => rfl))
  rw [hk]
  refine call_range_1 ?_
  refine for_range (V := [l]) (um := fun m v => upd m "turn" v) (uc := fun cm _ => cm) hh (Stores.local rfl) rfl ?_ ((F₂.kept (push_keeps _ _)).addV hl₁) (Heap.get?_push_size _ rfl) (by omega)
    (fun i h m _ => ∃ left t vs its, m "left" = some (.int left t) ∧ m "piece" = some (.ref l) ∧ h.PlainList l vs.toArray ∧ StrsAre vs (its.map It.str) ∧ its.length = i ∧ its ++ itemsFrom left (k - i) = pieceOf n) ?_ ?_ ?_ ?_
  · intro a ha
    rw [List.mem_singleton.mp ha]
    obtain ⟨q, e⟩ := I₂
    exact ⟨_, Heap.get?_push_of_some _ e⟩
  · rintro i h h' m cm hL ⟨left, t, vs, its, h1, h2, h3, h4⟩
    exact ⟨left, t, vs, its, h1, h2, hL _ _ h3, h4⟩
  · exact ⟨_, _, [], [], rfl, rfl, I₂.at fun o e => Heap.get?_push_of_some _ e, .nil, rfl, hpc.symm⟩
  · rintro i tk B' m' cm' s₃ E'' hi ⟨left, tl, vs, its, h1, h2, h3, h4, h5, h6⟩ KB F' L' rs
    have f1 := fmod_lo left (n := 5) (by decide)
    have f2 := fmod_hi left (n := 5) (by decide)
    have hvl : vs.length = its.length := by have := strsAre_length h4; simpa using this
    refine wpAny_execs_cons (appendS rfl rfl F' ((upd_ne (by decide)).trans h2) ⟨_, h3⟩ rfl rfl rfl rfl rfl ?_)
    refine subscr (fun _ _ => rfl) ?_
    refine List_ (spliced_cons (Constant_str (k := 0) (pos := ⟨0, 0, 0, 0⟩) (spliced_cons (Constant_str (k := 0) (pos := ⟨0, 0, 0, 0⟩) (spliced_cons (Constant_str (k := 0) (pos := ⟨0, 0, 0, 0⟩) (spliced_cons (Constant_str (k := 0) (pos := ⟨0, 0, 0, 0⟩) (spliced_cons (Constant_str (k := 0) (pos := ⟨0, 0, 0, 0⟩) (spliced_nil (wpAny_newList ?_))))))))))))
    refine wpAny_BinOp (nameL (F'.kept (push_keeps _ _)) rfl rfl ((upd_ne (by decide)).trans h1) (wpAny_Constant_int (mod_int' (by decide) ?_)))
    obtain ⟨tm, hm⟩ := menu (left.fmod 5) f1 f2 s₃.toks (s₃.toks + 1) (s₃.toks + 1 + 1) (s₃.toks + 1 + 1 + 1) (s₃.toks + 1 + 1 + 1 + 1)
    refine ⟨_, _, _, _, _, rfl, rfl, ⟨_, Heap.get?_push_size _ rfl, rfl, _, rfl⟩, f1, by omega, hm, ?_⟩
    refine ⟨_, h3.at fun o e => Heap.get?_push_of_some _ e, by rw [sizeLine_eq]; simp only [List.size_toArray]; omega, fun s₄ r₄ I₄ sb₄ => ?_⟩
    have F₄ := (F'.kept (push_keeps _ _)).setV (List.mem_singleton.mpr rfl) (h3.at fun o e => Heap.get?_push_of_some _ e) sb₄
    refine wpAny_execs_cons (assignL (V := [l]) rfl rfl rfl (wpAny_BinOp (nameL F₄ rfl rfl ((upd_ne (by decide)).trans h1) (wpAny_Constant_int (floordiv_int (by decide) ⟨_, _, _, F₄, fun s₅ r₅ F₅ L₅ => ?_⟩)))))
    refine wpAny_execs_nil ⟨rfl, Rest.trans (Rest.trans .mk r₄) (Rest.trans .tok r₅), _, _, F₅, left.fdiv 5, _, vs ++ [.str (itAt (left.fmod 5)).str tm], its ++ [itAt (left.fmod 5)], upd_same, (upd_ne (by decide)).trans ((upd_ne (by decide)).trans h2), ?_, ?_, ?_, ?_⟩
    · have := L₅ _ _ I₄
      simpa using this
    · rw [List.map_append]; exact StrsAre.snoc h4
    · simp [h5]
    · rw [← h6]
      obtain ⟨j, hj⟩ : ∃ j, k - i = j + 1 := ⟨k - i - 1, by omega⟩
      have hj' : k - (i + 1) = j := by omega
      rw [hj, hj', itemsFrom, List.append_assoc]; rfl
  · rintro m' cm' s₃ rs F' ⟨left, tl, vs, its, h1, h2, h3, h4, h5, h6⟩
    rw [Nat.sub_self, itemsFrom, List.append_nil] at h6
    subst h6
    refine wpAny_execs_cons (wpAny_Return_some (nameL F' rfl rfl h2 ?_))
    exact h _ _ vs (Mine.Keeps.of (r₀.trans ((Rest.trans .tok r₁).trans ((Rest.trans .heap r₂).trans (Rest.trans .mk rs)))) F'.keep) hl₁ h3 h4
end
end Mine
end

/-! F4 -/
section
open PySem PySem.W PySem.Calls PyProof.Rows
set_option maxRecDepth 100000
namespace Mine
set_option linter.unusedVariables false
set_option linter.unusedSimpArgs false

/-- the pieces lie there -/
def PiecesAt (h : Heap) (p : Addr) (ps : List (List It)) : Prop :=
  ∃ as : List Addr, h.PlainList p (as.map Value.ref).toArray ∧ as.length = ps.length ∧ ∀ (i : Nat) (a : Addr) (q : List It), as[i]? = some a → ps[i]? = some q → ∃ vs, h.PlainList a vs.toArray ∧ StrsAre vs (q.map It.str)
theorem PiecesAt.lists {h h' : Heap} {p : Addr} {ps : List (List It)} (x : PiecesAt h p ps) (k : Lists h h') : PiecesAt h' p ps := by
  obtain ⟨as, h1, h2, h3⟩ := x
  exact ⟨as, k _ _ h1, h2, fun i a q e1 e2 => let ⟨vs, a1, a2⟩ := h3 i a q e1 e2; ⟨vs, k _ _ a1, a2⟩⟩

/-- a list of places lies there -/
def OrderAt (h : Heap) (l : Addr) (o : List Nat) : Prop := ∃ vs, h.PlainList l vs.toArray ∧ IntsAre vs (o.map fun k => ((k : Nat) : Int))
theorem OrderAt.lists {h h' : Heap} {l : Addr} {o : List Nat} (x : OrderAt h l o) (k : Lists h h') : OrderAt h' l o := let ⟨vs, a, b⟩ := x; ⟨vs, k _ _ a, b⟩

def itsOf (ps : List (List It)) (o : List Nat) : List It := o.flatMap fun k => ps.getD k []
def marksOf (ps : List (List It)) (o : List Nat) : List Int := (itsOf ps o).map It.mark

theorem IntsAre.snoc {vs : List Value} {ns : List Int} {n : Int} {t : Tok} (h : IntsAre vs ns) : IntsAre (vs ++ [.int n t]) (ns ++ [n]) := by
  induction h with
  | nil => exact .cons _ _ .nil
  | cons a u r ih => exact .cons _ _ ih
theorem strsAre_at {vs : List Value} {ys : List Str} (hi : StrsAre vs ys) {i : Nat} {v : Value} (hv : vs[i]? = some v) : ∃ y t, v = .str y t ∧ ys[i]? = some y := by
  induction hi generalizing i with
  | nil => simp at hv
  | cons a t r ih =>
    cases i with
    | zero => simp at hv; subst hv; exact ⟨_, _, rfl, rfl⟩
    | succ i => simpa using ih (by simpa using hv)

section
variable {prog : Program} {w : World} {A : Around} {E : Value → Shared → Prop} {s : Shared} {mg mb : Str → Option Value} {ad : Adr}

theorem itsOf_length (ps : List (List It)) (hps : ∀ q ∈ ps, q.length ≤ 3) : ∀ o : List Nat, (∀ k ∈ o, k < ps.length) → (itsOf ps o).length ≤ 3 * o.length
  | [], _ => Nat.le_refl _
  | k' :: o', hin => by
    have i1 := itsOf_length ps hps o' fun k hk => hin k (List.mem_cons_of_mem _ hk)
    have i2 : (ps.getD k' []).length ≤ 3 := by
      have hlt := hin k' List.mem_cons_self
      rw [List.getD_eq_getElem?_getD, List.getElem?_eq_getElem hlt]
      exact hps _ (List.getElem_mem hlt)
    rw [itsOf, List.flatMap_cons, List.length_append, List.length_cons]
    rw [itsOf] at i1
    omega
theorem marksOf_length (ps : List (List It)) (hps : ∀ q ∈ ps, q.length ≤ 3) (o : List Nat) (hin : ∀ k ∈ o, k < ps.length) : (marksOf ps o).length ≤ 3 * o.length := by
  rw [marksOf, List.length_map]; exact itsOf_length ps hps o hin
theorem itsOf_snoc (ps : List (List It)) (o : List Nat) (k : Nat) : itsOf ps (o ++ [k]) = itsOf ps o ++ ps.getD k [] := by simp [itsOf]

theorem marks_call {p l : Addr} {ps : List (List It)} {o : List Nat} {Q : Value → Shared → Prop} (G : Gd mg mb ad s.heap) (hroom : A.depth < recursionLimit) (hh : A.handled = none)
    (hp : PiecesAt s.heap p ps) (ho : OrderAt s.heap l o) (hin : ∀ k ∈ o, k < ps.length) (hlen : o.length ≤ 100) (hpl : ps.length ≤ 100) (hps : ∀ q ∈ ps, q.length ≤ 3)
    (h : ∀ s' a vs, Keeps s s' → s.heap.get? a = none → s'.heap.PlainList a vs.toArray → IntsAre vs (marksOf ps o) → Q (.ref a) s') :
    wpAny (model prog w) A (call (.ref ad.mr) [.ref p, .ref l]) Q E s := by
  refine call_fnK (i := 10) (binds := [("pieces", .ref p), ("order", .ref l)]) hroom G.fmk G.lim (fun _ _ _ _ _ _ _ => rfl) (locs rfl) (by decide) (fun qual L cd s₀ E' r₀ F => ?_) rfl rfl rfl
  have G₀ := G.keeps F.keep
  refine wpAny_execs_cons (assignL (V := []) rfl rfl rfl (List_ (spliced_nil (wpAny_newList ⟨_, _, _, F.kept (push_keeps _ _), fun s₂ r₂ F₂ L₂ => ?_⟩))))
  have hl₁ : s.heap.get? s₀.heap.objs.size = none := F.keep.none (fresh_none _)
  have I₂ : s₂.heap.PlainList s₀.heap.objs.size #[] := L₂ _ _ ⟨0, Heap.get?_push_size _ rfl⟩
  generalize s₀.heap.objs.size = d at hl₁ F₂ I₂
  have hp₂ : PiecesAt s₂.heap p ps := hp.lists (.of_keeps F₂.keep)
  obtain ⟨ovs, ho₁, ho₂⟩ := ho
  have ho₃ : s₂.heap.IsList l ovs.toArray := (ho₁.at fun o e => F₂.keep _ o e).isList
  have hlne : l ∉ [d] := fun hm => by
    rw [List.mem_singleton.mp hm] at ho₁
    obtain ⟨q, e⟩ := ho₁
    rw [hl₁] at e; cases e
  have hvlen : ovs.length = o.length := by have := ho₂.length; simpa using this
  refine wpAny_execs_cons (wpAny_For (nameL F₂ rfl rfl rfl ?_) (fun _ => rfl))
  refine for_list (V := [d]) (um := fun m v => upd m "place" v) (uc := fun cm _ => cm) hh (Stores.local rfl) rfl ?_ (F₂.addV hl₁) ho₃ hlne
    (fun i h m _ => ∃ vs, m "marks" = some (.ref d) ∧ m "pieces" = some (.ref p) ∧ h.PlainList d vs.toArray ∧ IntsAre vs (marksOf ps (o.take i))) ?_ ?_ ?_ ?_
  · intro a ha
    rw [List.mem_singleton.mp ha]
    obtain ⟨q, e⟩ := I₂
    exact ⟨_, e⟩
  · rintro i h h' m cm hL ⟨vs, h1, h2, h3, h4⟩
    exact ⟨vs, h1, h2, hL _ _ h3, h4⟩
  · exact ⟨[], rfl, rfl, I₂, .nil⟩
  · rintro i v B' m' cm' s₃ E'' hv ⟨vs, h1, h2, h3, h4⟩ KB F' L' rs
    obtain ⟨n, tn, rfl, hn⟩ := intsAre_at ho₂ (by simpa using hv)
    rw [List.getElem?_map] at hn
    obtain ⟨k, hk, rfl⟩ := Option.map_eq_some_iff.mp hn
    have hkm : k ∈ o := List.mem_of_getElem? hk
    have hkl := hin k hkm
    have ilen : i < o.length := (List.getElem?_eq_some_iff.mp hk).1
    obtain ⟨as, q1, q2, q3⟩ := id hp
    obtain ⟨a, ha⟩ : ∃ a, as[k]? = some a := ⟨_, List.getElem?_eq_getElem (by omega)⟩
    obtain ⟨q, hq⟩ : ∃ q, ps[k]? = some q := ⟨_, List.getElem?_eq_getElem hkl⟩
    have hgD : ps.getD k [] = q := by rw [List.getD_eq_getElem?_getD, hq]; rfl
    obtain ⟨svs, p1, p2⟩ := q3 k a q ha hq
    have hq3 : q.length ≤ 3 := hps q (List.mem_of_getElem? hq)
    have hsl : svs.length = q.length := by have := strsAre_length p2; simpa using this
    have hml := marksOf_length ps hps (o.take i) fun k hk => hin k (List.mem_of_mem_take hk)
    have htl : (o.take i).length ≤ o.length := by rw [List.length_take]; omega
    have hane : a ∉ [d] := fun hm => by
      rw [List.mem_singleton.mp hm] at p1
      obtain ⟨n1, e1⟩ := p1
      rw [hl₁] at e1; cases e1
    have K₃ : KeepsH s.heap s₃.heap := KB.trans F'.keep
    have G₃ := G.keeps K₃
    refine wpAny_execs_cons (wpAny_For (subscr (fun _ _ => rfl) (nameL F' rfl rfl ((upd_ne (by decide)).trans h2) (nameL F' rfl rfl upd_same
      ⟨p, _, k, tn, .ref a, rfl, rfl, (q1.at fun o e => K₃ _ o e).isList, by omega, by omega, by simpa using ha, ?_⟩))) (fun _ => rfl))
    refine for_list (V := [d]) (um := fun m v => upd m "item" v) (uc := fun cm _ => cm) hh (Stores.local rfl) rfl ?_ F' (p1.at fun o e => K₃ _ o e).isList hane
      (fun j h m _ => ∃ vs, m "marks" = some (.ref d) ∧ m "pieces" = some (.ref p) ∧ h.PlainList d vs.toArray ∧ IntsAre vs (marksOf ps (o.take i) ++ (q.take j).map It.mark)) ?_ ?_ ?_ ?_
    · intro a ha
      rw [List.mem_singleton.mp ha]
      obtain ⟨q, e⟩ := h3
      exact ⟨_, e⟩
    · rintro i h h' m cm hL ⟨vs, h1, h2, h3, h4⟩
      exact ⟨vs, h1, h2, hL _ _ h3, h4⟩
    · exact ⟨vs, (upd_ne (by decide)).trans h1, (upd_ne (by decide)).trans h2, h3, by simpa using h4⟩
    · rintro j w' B₂ m₂ cm₂ s₄ E₄ hw ⟨vs', g1, g2, g3, g4⟩ KB₂ F₄ L₄ rs₄
      obtain ⟨y, ty, rfl, hy⟩ := strsAre_at p2 (by simpa using hw)
      rw [List.getElem?_map] at hy
      obtain ⟨it, hit, rfl⟩ := Option.map_eq_some_iff.mp hy
      have hjl : j < q.length := (List.getElem?_eq_some_iff.mp hit).1
      have hv4 : vs'.length ≤ 3 * 100 + 3 := by
        have := g4.length
        rw [List.length_append, List.length_map, List.length_take] at this
        omega
      have hitem : upd m₂ "item" (.str it.str ty) "item" = some (.str it.str ty) := upd_same
      refine wpAny_execs_cons (appendS rfl rfl F₄ ((upd_ne (by decide)).trans g1) ⟨_, g3⟩ rfl rfl rfl rfl rfl ?_)
      refine wpAny_mono (Q := fun v s₅ => ∃ t₅, v = .int it.mark t₅ ∧ Keeps s₄ s₅) ?_ (fun v s₅ h₅ => ?_) fun _ _ e => e
      · have e1 : Str.ofString "\n" = It.lf.str := by decide +kernel
        have e2 : Str.ofString "\u000d\n" = It.crlf.str := by decide +kernel
        refine IfExp_ (wpAny_isTrue_Compare1 (nameL F₄ rfl rfl hitem (Tuple_ (spliced_cons (Constant_str (k := 0) (pos := ⟨0, 0, 0, 0⟩) (spliced_cons (Constant_str (k := 0) (pos := ⟨0, 0, 0, 0⟩) (spliced_nil (wpAny_newTuple ?_)))))))))
        refine in_tuple_strs (ys := [It.lf.str, It.crlf.str]) ⟨_, Heap.get?_push_size _ rfl, rfl, _, rfl⟩ (by rw [e1, e2]; exact .cons _ _ (.cons _ _ .nil)) (wpAny_truthy_bool ?_)
        have G₄ := (G.keeps (KB.trans (KB₂.trans F₄.keep))).keeps (push_keeps s₄.heap { cls := .type "tuple", data := .seq [Value.str (Str.ofString "\n") s₄.toks, .str (Str.ofString "\u000d\n") (s₄.toks + 1)].toArray })
        have F₅ := F₄.kept (push_keeps s₄.heap { cls := .type "tuple", data := .seq [Value.str (Str.ofString "\n") s₄.toks, .str (Str.ofString "\u000d\n") (s₄.toks + 1)].toArray })
        clear hit hy hw F₄
        cases it with
        | lf => rw [if_pos (by decide +kernel)]; exact wpAny_Constant_int ⟨_, rfl, _, _, rfl, push_keeps _ _⟩
        | crlf => rw [if_pos (by decide +kernel)]; exact wpAny_Constant_int ⟨_, rfl, _, _, rfl, push_keeps _ _⟩
        | vt => rw [if_neg (by decide +kernel)]; exact callB1 G₄.g G₄.b G₄.nord G₄.bord rfl rfl rfl rfl rfl (nameL F₅ rfl rfl hitem (P.ord_of_char (c := 11) ⟨_, rfl, _, _, rfl, push_keeps _ _⟩))
        | dot => rw [if_neg (by decide +kernel)]; exact callB1 G₄.g G₄.b G₄.nord G₄.bord rfl rfl rfl rfl rfl (nameL F₅ rfl rfl hitem (P.ord_of_char (c := 46) ⟨_, rfl, _, _, rfl, push_keeps _ _⟩))
        | aa => rw [if_neg (by decide +kernel)]; exact callB1 G₄.g G₄.b G₄.nord G₄.bord rfl rfl rfl rfl rfl (nameL F₅ rfl rfl hitem (P.ord_of_char (c := 97) ⟨_, rfl, _, _, rfl, push_keeps _ _⟩))
      · obtain ⟨t₅, rfl, K₅⟩ := h₅
        refine ⟨_, g3.at fun o e => Keeps.heap K₅ _ o e, by rw [sizeLine_eq]; simp only [List.size_toArray]; omega, fun s₆ r₆ I₆ sb₆ => ?_⟩
        have F₆ := (F₄.kept (Keeps.heap K₅)).setV (List.mem_singleton.mpr rfl) (g3.at fun o e => Keeps.heap K₅ _ o e) sb₆
        refine wpAny_execs_nil ⟨rfl, (Keeps.rest K₅).trans r₆, _, _, F₆, vs' ++ [.int it.mark t₅], (upd_ne (by decide)).trans g1, (upd_ne (by decide)).trans g2, by simpa using I₆, ?_⟩
        have e : (q.take (j + 1)).map It.mark = (q.take j).map It.mark ++ [it.mark] := by rw [List.take_add_one, hit]; simp
        rw [e, ← List.append_assoc]
        exact IntsAre.snoc g4
    · rintro m₂ cm₂ s₄ rs₄ F₄ ⟨vs', g1, g2, g3, g4⟩
      refine wpAny_execs_nil ⟨rfl, rs₄, _, _, F₄, vs', g1, g2, g3, ?_⟩
      have e : svs.toArray.size = q.length := by simp [hsl]
      rw [e, List.take_length] at g4
      have e2 : marksOf ps (o.take (i + 1)) = marksOf ps (o.take i) ++ q.map It.mark := by
        rw [List.take_add_one, hk]
        show marksOf ps (o.take i ++ [k]) = _
        rw [marksOf, itsOf_snoc, hgD, List.map_append]; rfl
      rw [e2]; exact g4
  · rintro m' cm' s₃ rs F' ⟨vs, h1, h2, h3, h4⟩
    have e : ovs.toArray.size = o.length := by simp [hvlen]
    rw [e, List.take_length] at h4
    refine wpAny_execs_cons (wpAny_Return_some (nameL F' rfl rfl h1 ?_))
    exact h _ _ vs (Mine.Keeps.of (r₀.trans ((Rest.trans .heap r₂).trans rs)) F'.keep) hl₁ h3 h4
end
end Mine
end

/-! Cp1 -/
section
open PySem PySem.W PySem.Calls PyProof.Rows
set_option maxRecDepth 100000
namespace Mine
set_option linter.unusedVariables false
set_option linter.unusedSimpArgs false

/-- the lists that stood stand, but one -/
abbrev ListsBut (D : Addr) (h h' : Heap) : Prop := ∀ a items, a ≠ D → h.PlainList a items → h'.PlainList a items

section
variable {prog : Program} {w : World} {A : Around} {E : Value → Shared → Prop} {env : Env}

/-- the block's environment of a comprehension -/
abbrev cEnv (scope : Scope) (cl : List (Str × Addr)) (C : Addr) (env : Env) : Env := compEnvC scope cl C env

/-- what a comprehension's turns do: 'Walk' tells the source, J what was made so far (D: the list that is made) -/
structure CompOk (prog : Program) (w : World) (A : Around) (env : Env) (scope : Scope) (cl : List (Str × Addr)) (x : Str) (ifs : List Expr) (elt : Expr) (wr : List Addr) (n : Nat) (P : Nat → Value → Prop) (cm : Str → Option Value)
    (J : Addr → Nat → List Value → Heap → Prop) (s₂ : Shared) : Prop where
  stab : ∀ D i ys h h', ListsBut D h h' → J D i ys h → J D i ys h'
  start : ∀ D h', KeepsH s₂.heap h' → J D 0 [] h'
  step : ∀ i v ys s₃ C D B m₃ E', i < n → P i v → J D i ys s₃.heap → Rest s₂ s₃ → (∀ b o, b ∉ wr → s₂.heap.get? b = some o → s₃.heap.get? b = some o) → s₂.heap.get? D = none → (∃ o, s₃.heap.get? D = some o) →
    Fm (cEnv scope cl C env) [D] B (upd m₃ x v) cm s₃.heap → (∀ a items, a ≠ D → s₃.heap.PlainList a items → B.PlainList a items) →
    wpAny (model prog w) A (forIn ifs true fun c r => if r = true then do let ok ← isTrue c (cEnv scope cl C env) (eval c (cEnv scope cl C env)); pure (ForInStep.yield ok) else pure (ForInStep.yield r))
      (fun ok s₄ => if ok = true then wpAny (model prog w) A (eval elt (cEnv scope cl C env)) (fun y s₅ => Keeps s₃ s₅ ∧ J D (i + 1) (ys ++ [y]) s₅.heap) E' s₄ else Keeps s₃ s₄ ∧ J D (i + 1) ys s₄.heap) E' s₃

theorem comp_loop {s₂ : Shared} {elt iter : Expr} {x : Str} {px : Pos} {ifs : List Expr} {scope : Scope} {cl : List (Str × Addr)} {pos : Pos} {I : Addr} {fp wr : List Addr} {n : Nat} {P : Nat → Value → Prop} {St : Nat → Heap → Prop} {cm : Str → Option Value}
    {J : Addr → Nat → List Value → Heap → Prop} {RR : Value → Addr → Result → Shared → Prop}
    (W : Walks prog w A I fp wr n P St) (hsz : n ≤ sizeLine) (hwr : ∀ i h b items, b ∈ wr → St i h → ¬ h.PlainList b items)
    (hcell : ∀ y ∈ scope.names, y.2 ≠ .cell) (hkind : scope.kind = .function) (hx : scope.names.lookup x = some .local) (hst : St 0 s₂.heap) (hfp : ∀ b ∈ fp, b < s₂.heap.objs.size)
    (hcl : ∀ nm c, (nm, c) ∈ cl → s₂.heap.IsCell c (cm nm) ∧ c ∉ fp) (hap : cl.Pairwise fun x y => x.2 ≠ y.2) (hone : ∀ nm c c', (nm, c) ∈ cl → (nm, c') ∈ cl → c' = c)
    (ok : CompOk prog w A env scope cl x ifs elt wr n P cm J s₂)
    (hRR : ∀ D C s' m' ys, Rest s₂ s' → s₂.heap.get? D = none → s₂.heap.get? C = none → D ≠ C → s'.heap.Ns C m' → s'.heap.PlainList D ys.toArray → J D n ys s'.heap → (∀ b o, b ∉ wr → s₂.heap.get? b = some o → s'.heap.get? b = some o) → RR (.ref D) C (.ok .next) s') :
    wpAny (model prog w) A (newList []) (fun acc s₃ => wpAny (model prog w) A (newFunctionEnv scope env.globals cl [] env.qual none .none (some env)) (fun cenv s₄ =>
      codeAny (model prog w) A (.compStart (.ListComp elt [⟨.Name x px, iter, ifs, 0⟩] scope pos) 0 (.ref I) acc { cenv with scope := relabel scope env }) (RR acc cenv.locals) s₄) E s₃) E s₂ := by
  refine wpAny_newList (wpAny_newFunctionEnv hcell (by intro y hy; simp at hy) (fun h₁ hns₁ hsb₁ => ?_) hkind)
  dsimp only at hns₁ hsb₁ ⊢
  generalize hH2 : s₂.heap.push { cls := .type "list", data := .seq ([] : List Value).toArray } = H2 at hns₁ hsb₁ ⊢
  have hC : H2.objs.size = s₂.heap.objs.size + 1 := by rw [← hH2, Heap.size_push]
  have hDC : s₂.heap.objs.size ≠ H2.objs.size := by rw [hC]; exact Nat.ne_of_lt (Nat.lt_succ_self _)
  have below : ∀ b, b < s₂.heap.objs.size → b ≠ H2.objs.size ∧ b ≠ s₂.heap.objs.size := fun b hb => ⟨by rw [hC]; exact Nat.ne_of_lt (Nat.lt_succ_of_lt hb), Nat.ne_of_lt hb⟩
  have hDf : s₂.heap.objs.size ∉ fp := fun hm => Nat.lt_irrefl _ (hfp _ hm)
  have hCf : H2.objs.size ∉ fp := fun hm => by have := hfp _ hm; rw [hC] at this; exact Nat.lt_irrefl _ (Nat.lt_of_succ_lt this)
  have old : ∀ b o, s₂.heap.get? b = some o → h₁.get? b = some o := fun b o e => hsb₁.extBut b o (below b (Heap.lt_size e)).1 (Heap.get?_push_of_some _ (hH2 ▸ Heap.get?_push_of_some _ e))
  have hacc : h₁.PlainList s₂.heap.objs.size #[] := ⟨_, hsb₁.extBut _ _ hDC (Heap.get?_push_of_some _ (hH2 ▸ Heap.get?_push_size _ rfl))⟩
  have hst₁ : St 0 h₁ := W.frame _ _ _ hst fun b _ o e => old b o e
  have fresh : ∀ a, s₂.heap.objs.size ≤ a → s₂.heap.get? a = none := fun a ha => by
    cases e : s₂.heap.get? a with
    | none => rfl
    | some o' => exact absurd (Heap.lt_size e) (Nat.not_lt.mpr ha)
  have freshC := fresh H2.objs.size (by rw [hC]; exact Nat.le_succ _)
  have freshD := fresh s₂.heap.objs.size (Nat.le_refl _)
  generalize hDd : s₂.heap.objs.size = D at hDC hDf hacc freshD ⊢
  generalize hCd : H2.objs.size = C at hDC hCf freshC hns₁ ⊢
  -- the base: what stood, but what the source writes and the cells
  let Bs := hideAll s₂.heap (wr ++ cl.map (·.2))
  have hBs : KeepsH Bs s₂.heap := fun b o e => of_hideAll _ e
  have hBwr : ∀ a ∈ wr, Bs.get? a = none := fun a ha => hideAll_none _ (List.mem_append_left _ ha)
  have hBcl : ∀ nm c, (nm, c) ∈ cl → Bs.get? c = none := fun nm c hm => hideAll_none _ (List.mem_append_right _ (List.mem_map.mpr ⟨(nm, c), hm, rfl⟩))
  have hclC : ∀ nm c, (nm, c) ∈ cl → c ≠ C ∧ c ≠ D := fun nm c hm => by
    obtain ⟨o, ho, _⟩ := (hcl nm c hm).1
    constructor
    · rintro rfl; rw [freshC] at ho; cases ho
    · rintro rfl; rw [freshD] at ho; cases ho
  have hx' : (cEnv scope cl C env).kindOf x = some .local := lookup_relabel_local hx
  have hk' : (cEnv scope cl C env).scope.kind = .function := hkind
  have F₁ : Fm (cEnv scope cl C env) [D] Bs (fun x => ([] : List (Str × Value)).reverse.lookup x) cm h₁ :=
    ⟨hns₁, fun b o e => old b o (hBs b o e), fun nm c hm => (hcl nm c hm).1.keeps old, hap, hone, fun nm c hm => (hclC nm c hm).1, hBs.none freshC, hBcl, fun a ha => by rw [List.mem_singleton.mp ha]; exact hBs.none freshD⟩
  have hwh : ∀ a ∈ fp, a ∉ hidden (cEnv scope cl C env) [D] := fun a ha hm => by
    rcases List.mem_cons.mp hm with e | hm
    · have e : a = C := e
      exact hCf (e ▸ ha)
    · rcases List.mem_append.mp hm with hm | hm
      · obtain ⟨⟨nm, c⟩, hm, e⟩ := List.mem_map.mp hm
        have e : c = a := e
        exact (hcl nm c hm).2 (e ▸ ha)
      · rw [List.mem_singleton.mp hm] at ha; exact hDf ha
  have loop : ∀ s₃ : Shared, s₃ = { s₂ with heap := h₁, toks := s₂.toks + ([] : List (Str × Value)).length } →
      codeAny (model prog w) A (.compLoop (.ListComp elt [⟨.Name x px, iter, ifs, 0⟩] scope pos) 0 (.ref I) (.ref D) (cEnv scope cl C env)) (RR (.ref D) C) s₃ := by
    rintro s₃ rfl
    refine codeAny_compLoop_tests (fun k s' => ∃ i m' ys, Rest s₂ s' ∧ Fm (cEnv scope cl C env) [D] Bs m' cm s'.heap ∧ St i s'.heap ∧ s'.heap.PlainList D ys.toArray ∧ J D i ys s'.heap ∧ (∀ b o, b ∉ wr → s₂.heap.get? b = some o → s'.heap.get? b = some o) ∧ ys.length ≤ i ∧ i ≤ n ∧ k = n + 1 - i) ?_ (n + 1)
      ⟨0, _, [], .mk, F₁, hst₁, hacc, ok.start D h₁ old, fun b o _ e => old b o e, Nat.le_refl _, Nat.zero_le _, rfl⟩
    rintro k s' ⟨i, m', ys, rs, F', st', hD', hJ, ho', hyl, hi, rfl⟩
    by_cases hlt : i < n
    · refine W.item i s' _ _ hlt st' fun v h₂ tk₂ hP st₂ k₂ => ?_
      have F₂ := F'.off (fun a ha => hwh a (W.sub a ha)) hBwr k₂
      have L₂ : Lists s'.heap h₂ := fun a items p => p.at fun o e => k₂ a o (fun hm => hwr i _ a items hm st' p) e
      refine wpAny_assign_Name (storeL (s := { s' with heap := h₂, toks := tk₂ }) F₂ hk' hx' fun h₃ F₃ sb₃ => ?_)
      have L₃ : Lists h₂ h₃ := (Stores.local (V := [D]) hx').not_list (s := { s' with heap := h₂, toks := tk₂ }) F₂ sb₃
      have st₃ : St (i + 1) h₃ := W.frame _ _ _ st₂ fun b hb o e => sb₃.extBut b o (fun q => hwh b hb (q ▸ mem_hiddenL)) e
      have hJ₃ : J D i ys h₃ := ok.stab _ _ _ _ _ (fun a items _ p => L₃ _ _ (L₂ _ _ p)) hJ
      have ho₃ : ∀ b o, b ∉ wr → s₂.heap.get? b = some o → h₃.get? b = some o := fun b o hb e => sb₃.extBut b o (fun q => by rw [show (cEnv scope cl C env).locals = C from rfl] at q; rw [q, freshC] at e; cases e) (k₂ b o hb (ho' b o hb e))
      have hD₃ := L₃ _ _ (L₂ _ _ hD')
      obtain ⟨KB, FB⟩ := F₃.rebase [D] F₃.freeV
      obtain ⟨nD, eD⟩ := id hD₃
      refine wpAny_mono (ok.step i v ys { s' with heap := h₃, toks := tk₂ + 1 } C D _ m' _ hlt hP hJ₃ (rs.trans .mk) ho₃ freshD ⟨_, eD⟩ FB (fun a items ha p => F₃.plain [D] p (fun hm => ha (List.mem_singleton.mp hm)))) (fun okb s₄ h₄ => ?_) fun _ _ e => e
      have tail : ∀ s₅ : Shared, Keeps { s' with heap := h₃, toks := tk₂ + 1 } s₅ → Fm (cEnv scope cl C env) [D] Bs (upd m' x v) cm s₅.heap ∧ St (i + 1) s₅.heap ∧ s₅.heap.PlainList D ys.toArray ∧ Rest s₂ s₅ ∧ (∀ b o, b ∉ wr → s₂.heap.get? b = some o → s₅.heap.get? b = some o) := fun s₅ K₅ =>
        ⟨F₃.kept (Keeps.heap K₅), W.frame _ _ _ st₃ fun b _ o e => Keeps.heap K₅ b o e, hD₃.at fun o e => Keeps.heap K₅ _ o e, (rs.trans .mk).trans (Keeps.rest K₅), fun b o hb e => Keeps.heap K₅ b o (ho₃ b o hb e)⟩
      cases okb with
      | false =>
        obtain ⟨K₄, hJ₄⟩ := h₄
        obtain ⟨a1, a2, a3, a4, a5⟩ := tail s₄ K₄
        exact ⟨n + 1 - (i + 1), by omega, i + 1, _, ys, a4, a1, a2, a3, hJ₄, a5, by omega, hlt, rfl⟩
      | true =>
        refine wpAny_mono h₄ (fun y s₅ h₅ => ?_) fun _ _ e => e
        obtain ⟨K₅, hJ₅⟩ := h₅
        obtain ⟨a1, a2, a3, a4, a5⟩ := tail s₅ K₅
        refine wpAny_list_append_plain a3 (fun h₆ I₆ sb₆ => ?_) (by simp only [List.size_toArray]; omega)
        refine ⟨n + 1 - (i + 1), by omega, i + 1, _, ys ++ [y], a4.trans .heap, a1.setV (List.mem_singleton.mpr rfl) a3 sb₆, ?_, by simpa using I₆, ?_, ?_, by simp; omega, hlt, rfl⟩
        · exact W.frame _ _ _ a2 fun b hb o e => sb₆.extBut b o (fun q => hDf (q ▸ hb)) e
        · exact ok.stab _ _ _ _ _ (fun a items ha p => p.extBut sb₆.extBut ha) hJ₅
        · exact fun b o hb e => sb₆.extBut b o (fun q => by rw [q, freshD] at e; cases e) (a5 b o hb e)
    · have hin : i = n := by omega
      subst hin
      refine W.done s' _ _ st' fun h₂ tk₂ k₂ => ?_
      have F₂ := F'.off (fun a ha => hwh a (W.sub a ha)) hBwr k₂
      have L₂ : Lists s'.heap h₂ := fun a items p => p.at fun o e => k₂ a o (fun hm => hwr i _ a items hm st' p) e
      exact hRR D C _ _ ys (rs.trans .mk) freshD freshC hDC F₂.ns (L₂ _ _ hD') (ok.stab _ _ _ _ _ (fun a items _ p => L₂ _ _ p) hJ) fun b o hb e => k₂ b o hb (ho' b o hb e)
  exact codeAny_compStart_list (loop _ rfl) (W.self 0 _ _ _ hst₁ (loop _ rfl))
end
end Mine
end

/-! Cp2 -/
section
open PySem PySem.W PySem.Calls PyProof.Rows
set_option maxRecDepth 100000
namespace Mine
set_option linter.unusedVariables false
set_option linter.unusedSimpArgs false

section
variable {prog : Program} {w : World} {A : Around} {E : Value → Shared → Prop} {env : Env} {s : Shared}

/-- a comprehension over a list: what its turns do, and what is wanted behind it -/
structure CompL (prog : Program) (w : World) (A : Around) (env : Env) (scope : Scope) (cl : List (Str × Addr)) (x : Str) (ifs : List Expr) (elt : Expr) (items : Array Value) (cm : Str → Option Value)
    (J : Addr → Nat → List Value → Heap → Prop) (Q : Value → Shared → Prop) (s₁ : Shared) : Prop where
  cells : ∀ nm c, (nm, c) ∈ cl → s₁.heap.IsCell c (cm nm)
  apart : cl.Pairwise fun x y => x.2 ≠ y.2
  one : ∀ nm c c', (nm, c) ∈ cl → (nm, c') ∈ cl → c' = c
  stab : ∀ D i ys h h', ListsBut D h h' → J D i ys h → J D i ys h'
  start : ∀ D h', KeepsH s₁.heap h' → J D 0 [] h'
  step : ∀ i v ys s₃ C D B m₃ E', items[i]? = some v → J D i ys s₃.heap → Keeps s₁ s₃ → s₁.heap.get? D = none → (∃ o, s₃.heap.get? D = some o) →
    Fm (cEnv scope cl C env) [D] B (upd m₃ x v) cm s₃.heap → (∀ a its, a ≠ D → s₃.heap.PlainList a its → B.PlainList a its) →
    wpAny (model prog w) A (forIn ifs true fun c r => if r = true then do let ok ← isTrue c (cEnv scope cl C env) (eval c (cEnv scope cl C env)); pure (ForInStep.yield ok) else pure (ForInStep.yield r))
      (fun ok s₄ => if ok = true then wpAny (model prog w) A (eval elt (cEnv scope cl C env)) (fun y s₅ => Keeps s₃ s₅ ∧ J D (i + 1) (ys ++ [y]) s₅.heap) E' s₄ else Keeps s₃ s₄ ∧ J D (i + 1) ys s₄.heap) E' s₃
  fin : ∀ D s' ys, Keeps s₁ s' → s₁.heap.get? D = none → s'.heap.PlainList D ys.toArray → J D items.size ys s'.heap → Q (.ref D) s'

theorem off_iter {h h' : Heap} {o : Obj} (k : ∀ b o', b ∉ [h.objs.size] → (h.push o).get? b = some o' → h'.get? b = some o') : KeepsH h h' := fun b o' e =>
  k b o' (fun hm => by rw [List.mem_singleton.mp hm, fresh_none] at e; cases e) (Heap.get?_push_of_some _ e)

theorem IsCell.not_list {h : Heap} {c : Addr} {v : Option Value} (x : h.IsCell c v) {items : Array Value} (l : h.IsList c items) : False := by
  obtain ⟨o, ho, hd⟩ := x
  obtain ⟨o', ho', _, n, hd'⟩ := l
  rw [ho] at ho'; cases ho'; rw [hd] at hd'; cases hd'

theorem comp_block {elt iter : Expr} {x : Str} {px : Pos} {ifs : List Expr} {scope : Scope} {cl : List (Str × Addr)} {pos : Pos} {ax : Addr} {items : Array Value} {cm : Str → Option Value} {J : Addr → Nat → List Value → Heap → Prop} {Q : Value → Shared → Prop}
    (hh : A.handled = none) (hcell : ∀ y ∈ scope.names, y.2 ≠ .cell) (hkind : scope.kind = .function) (hx : scope.names.lookup x = some .local) (hl : s.heap.IsList ax items) (hz : items.size ≤ sizeLine)
    (ok : CompL prog w A env scope cl x ifs elt items cm J Q s) :
    wpAny (model prog w) A (pyIter (.ref ax)) (fun it s₂ => wpAny (model prog w) A (newList []) (fun acc s₃ => wpAny (model prog w) A (newFunctionEnv scope env.globals cl [] env.qual none .none (some env)) (fun cenv s₄ =>
      codeAny (model prog w) A (.compStart (.ListComp elt [⟨.Name x px, iter, ifs, 0⟩] scope pos) 0 it acc { cenv with scope := relabel scope env }) (compPost (model prog w) A E none Q acc cenv.locals) s₄) E s₃) E s₂) E s := by
  refine wpAny_pyIter_list hl ?_
  obtain ⟨oa, hoa, _⟩ := id hl
  have hlt : ax < s.heap.objs.size := Heap.lt_size hoa
  have hne : ax ≠ s.heap.objs.size := Nat.ne_of_lt hlt
  refine comp_loop (RR := fun acc C => compPost (model prog w) A E none Q acc C) (cm := cm) (J := J) (Walks.list hh s.heap.objs.size ax hne items) hz ?_ hcell hkind hx ⟨⟨_, Heap.get?_push_size _ rfl, rfl, rfl⟩, hl.push _⟩ ?_ ?_ ok.apart ok.one ?_ ?_
  · intro i h b its hb st p
    rw [List.mem_singleton.mp hb] at p
    obtain ⟨o, ho, hc, _⟩ := st.1
    obtain ⟨n, e⟩ := p
    rw [ho] at e
    have e1 := congrArg (fun o => o.map (·.cls)) e
    simp only [Option.map_some, hc] at e1
    exact absurd e1 (by decide)
  · intro b hb
    show b < (s.heap.push _).objs.size
    rw [Heap.size_push]
    rcases List.mem_cons.mp hb with rfl | hb
    · exact Nat.lt_succ_self _
    · rw [List.mem_singleton.mp hb]; exact Nat.lt_succ_of_lt hlt
  · intro nm c hm
    have hc := ok.cells nm c hm
    refine ⟨hc.keeps (push_keeps _ _), fun hf => ?_⟩
    rcases List.mem_cons.mp hf with rfl | hf
    · exact absurd hc.lt (Nat.lt_irrefl _)
    · rw [List.mem_singleton.mp hf] at hc
      exact IsCell.not_list hc hl
  · refine ⟨ok.stab, fun D h' k => ok.start D h' ((push_keeps _ _).trans k), ?_⟩
    intro i v ys s₃ C D B m₃ E' hi hP hJ rs ho hD hD' F hL
    exact ok.step i v ys s₃ C D B m₃ E' hP hJ (Mine.Keeps.of (Rest.trans .heap rs) (off_iter ho)) ((push_keeps _ _).none hD) hD' F hL
  · intro D C s' m' ys rs hD hC hDC hns hpl hJ ho
    refine ⟨m', hns, fun h'' sb => ?_⟩
    have K' : Keeps s s' := Mine.Keeps.of (Rest.trans .heap rs) (off_iter ho)
    have hCs : s.heap.get? C = none := (push_keeps _ _).none hC
    refine ok.fin D _ ys (Mine.Keeps.of ((Keeps.rest K').trans .heap) fun b o e => sb.extBut b o (fun q => by rw [q, hCs] at e; cases e) (Keeps.heap K' b o e)) ((push_keeps _ _).none hD) (hpl.extBut sb.extBut hDC) (ok.stab _ _ _ _ _ (fun a its ha p => p.extBut sb.extBut fun q => ?_) hJ)
    obtain ⟨oL, es, ep, hL, hLd, _⟩ := hns
    obtain ⟨n, e⟩ := p
    rw [q, hL] at e; cases e; cases hLd

theorem comp_list {elt iter : Expr} {x : Str} {px : Pos} {ifs : List Expr} {scope : Scope} {cl : List (Str × Addr)} {pos : Pos} {Q : Value → Shared → Prop} (hh : A.handled = none)
    (hclos : closureFor scope env = pure cl) (hcell : ∀ y ∈ scope.names, y.2 ≠ .cell) (hkind : scope.kind = .function)
    (hnames : ∀ y ∈ scope.names, y.2 = .local → scope.names.lookup y.1 = some .local) (hx : scope.names.lookup x = some .local) (hs : ∀ x, foldedSetIterable iter env x = pure x)
    (h : wpAny (model prog w) A (eval iter env) (fun xv s₁ => ∃ ax items cm J, xv = .ref ax ∧ s₁.heap.IsList ax items ∧ items.size ≤ sizeLine ∧ CompL prog w A env scope cl x ifs elt items cm J Q s₁) E s) :
    wpAny (model prog w) A (eval (.ListComp elt [⟨.Name x px, iter, ifs, 0⟩] scope pos) env) Q E s := by
  rw [eval_ListComp]
  refine wpAny_comprehension_free (use := none) rfl hs hclos hkind hnames (wpAny_mono h (fun xv s₁ h₁ => ?_) fun _ _ e => e)
  obtain ⟨ax, items, cm, J, rfl, hl, hz, ok⟩ := h₁
  exact comp_block hh hcell hkind hx hl hz ok
end
end Mine
end

/-! F5 -/
section
open PySem PySem.W PySem.Calls PyProof.Rows
set_option maxRecDepth 100000
namespace Mine
set_option linter.unusedVariables false
set_option linter.unusedSimpArgs false

theorem catL_length : ∀ ys : List Str, (ys.map (·.length)).sum = (catL ys).length
  | [] => rfl
  | y :: ys => by
    have := catL_length ys
    simp only [List.map_cons, List.sum_cons, catL, List.flatMap_cons, List.length_append]
    simp only [catL] at this
    rw [this]; rfl
theorem catL_strs (q : List It) : catL (q.map It.str) = q.flatMap It.chars := by
  simp [catL, It.str, List.flatMap_map]

/-- the text that a place's piece makes -/
def textOf (ps : List (List It)) (k : Nat) : Str := ⟨((ps.getD k []).flatMap It.chars).toArray⟩
theorem catL_texts (ps : List (List It)) : ∀ o : List Nat, catL (o.map (textOf ps)) = (itsOf ps o).flatMap It.chars
  | [] => rfl
  | k :: o => by
    have := catL_texts ps o
    simp only [catL, itsOf, List.map_cons, List.flatMap_cons, List.flatMap_append] at this ⊢
    rw [this]; rfl

section
variable {prog : Program} {w : World} {A : Around} {E : Value → Shared → Prop} {s : Shared} {mg mb : Str → Option Value} {ad : Adr}

/-- a call of a def with cells -/
theorem call_fnC {i : Nat} {a : Addr} {vals : List Value} {binds : List (Str × Value)} {cs : Addr → List (Str × Addr)} {Q : Value → Shared → Prop} (hroom : A.depth < recursionLimit) (hf : IsFn s.heap a i) (lim : s.heap.NoLimit)
    (hbind : ∀ name qual doc pm an cd ct, bindArgs (fnX name qual (parAt i) (bodyAt i) (scopeAt i) [] .none .none doc pm an cd ct) ⟨vals, []⟩ = pure binds)
    (hcs : ∀ L, cellsFrom (L + 1) (scopeAt i).names [] = cs L) (hlk : ∀ L n c, (n, c) ∈ cs L → (cs L).lookup n = some c)
    (hkind : ∀ L, ∀ x ∈ binds, (scopeAt i).names.lookup x.1 = some .local ∨ ((scopeAt i).names.lookup x.1 = some .cell ∧ ((cs L).lookup x.1).isSome = true))
    (h : ∀ qual L cd s₁ E', Rest s s₁ → Fm (envX qual (scopeAt i) L a cd (cs L)) [] s.heap (bindL (envX qual (scopeAt i) L a cd (cs L)).kindOf binds fun _ => none) (bindC (envX qual (scopeAt i) L a cd (cs L)).kindOf binds fun _ => none) s₁.heap →
      wpAny (model prog w) (A.deeper (envX qual (scopeAt i) L a cd (cs L))) (execs (bodyAt i) (envX qual (scopeAt i) L a cd (cs L))) (fun f s' => Q (match f with | .ret v => v | _ => .none) s') E' s₁)
    (hco : (scopeAt i).isCoroutine = false) (hgen : (scopeAt i).isGenerator = false) (hk : (scopeAt i).kind = .function) :
    wpAny (model prog w) A (call (.ref a) vals) Q E s := by
  obtain ⟨o, name, qual, doc, pm, an, cd, ct, h1, h2, h3⟩ := hf
  refine wpAny_call (codeAny_call_cells (fd := fnX name qual (parAt i) (bodyAt i) (scopeAt i) [] .none .none doc pm an cd ct) (body := bodyAt i) (binds := binds) hroom h1 h2 lim h3 rfl (hbind _ _ _ _ _ _ _) rfl ?_ (fun s₁ x => ?_) hco hgen hk)
  · rw [show cellsFrom (s.heap.objs.size + 1) (fnX name qual (parAt i) (bodyAt i) (scopeAt i) [] .none .none doc pm an cd ct).scope.names [] = cs s.heap.objs.size from hcs _]; exact hkind _
  · have ee : callEnvC (fnX name qual (parAt i) (bodyAt i) (scopeAt i) [] .none .none doc pm an cd ct) s.heap.objs.size a = envX qual (scopeAt i) s.heap.objs.size a cd (cs s.heap.objs.size) := by
      show envX qual (scopeAt i) s.heap.objs.size a cd (cellsFrom (s.heap.objs.size + 1) (scopeAt i).names []) = _
      rw [hcs]
    rw [ee] at x ⊢
    have hge : ∀ c, s.heap.objs.size < c → s.heap.get? c = none := fun c hc => by
      cases e : s.heap.get? c with
      | none => rfl
      | some o' => exact absurd (Heap.lt_size e) (Nat.not_lt.mpr (Nat.le_of_lt hc))
    refine h qual s.heap.objs.size cd s₁ _ ?_ ⟨x.toInCall.ns, x.toInCall.keep, fun n c hm => x.cell n c (hlk _ n c hm), x.apart, fun n c c' hm hm' => ?_, fun n c hm => Nat.ne_of_gt (x.above n c hm), fresh_none _, fun n c hm => hge c (x.above n c hm), (fun _ hm => by cases hm)⟩
    · obtain ⟨h', tk, e, _⟩ := x.done
      exact ⟨h', tk, e⟩
    · have e1 := hlk _ n c hm
      have e2 := hlk _ n c' hm'
      rw [e1] at e2; exact (Option.some.inj e2).symm

set_option maxHeartbeats 2000000 in
theorem sent_call {p l : Addr} {ps : List (List It)} {o : List Nat} {Q : Value → Shared → Prop} (G : Gd mg mb ad s.heap) (hroom : A.depth + 1 < recursionLimit) (hh : A.handled = none)
    (hp : PiecesAt s.heap p ps) (ho : OrderAt s.heap l o) (hin : ∀ k ∈ o, k < ps.length) (hlen : o.length ≤ 100) (hpl : ps.length ≤ 100) (hps : ∀ q ∈ ps, q.length ≤ 3)
    (h : ∀ s' t', Keeps s s' → Q (.str (sentStr (itsOf ps o)) t') s') :
    wpAny (model prog w) A (call (.ref ad.se) [.ref p, .ref l]) Q E s := by
  refine call_fnC (i := 12) (binds := [("pieces", .ref p), ("order", .ref l)]) (cs := fun L => [("pieces", L + 1)]) (Nat.lt_of_succ_lt hroom) G.fse G.lim (fun _ _ _ _ _ _ _ => rfl) (fun _ => rfl) ?_ ?_ (fun qual L cd s₀ E' r₀ F => ?_) rfl rfl rfl
  · intro L n c hm
    have e := List.mem_singleton.mp hm
    obtain ⟨rfl, rfl⟩ := Prod.mk.inj e
    rfl
  · intro L x hx
    rcases List.mem_cons.mp hx with rfl | hx
    · exact .inr ⟨rfl, rfl⟩
    · rw [List.mem_singleton.mp hx]; exact .inl rfl
  have G₀ := G.keeps F.keep
  refine wpAny_execs_cons (wpAny_Return_some (callName1 (i := 5) G₀.g G₀.gq G₀.fq rfl rfl rfl rfl ?_))
  refine callM1 PySem.F.plainAttrs_str PySem.F.slot_str_join PySem.F.type_str_join rfl rfl rfl ?_
  refine Constant_str ⟨typeIs_str _ _ _, (fun a e => by cases e), ?_⟩
  obtain ⟨ovs, ho₁, ho₂⟩ := ho
  have hvlen : ovs.length = o.length := by have := ho₂.length; simpa using this
  refine comp_list (cl := [("pieces", L + 1)]) hh rfl (by decide) rfl (by decide) rfl (fun _ => rfl) (nameL F rfl rfl rfl ?_)
  have e0 : (Str.ofString "").cps = #[] := by decide +kernel
  refine ⟨l, ovs.toArray, (fun x => if x = "pieces" then some (.ref p) else none), (fun _ i ys _ => StrsAre ys ((o.take i).map (textOf ps))), rfl, (ho₁.at fun o e => F.keep _ o e).isList, by rw [sizeLine_eq]; simp only [List.size_toArray]; omega, ?_⟩
  refine ⟨?_, List.pairwise_singleton _ _, ?_, fun _ _ _ _ _ _ hJ => hJ, fun _ _ _ => .nil, ?_, ?_⟩
  · intro nm c hm
    have e := List.mem_singleton.mp hm
    obtain ⟨rfl, rfl⟩ := Prod.mk.inj e
    exact F.cell "pieces" (L + 1) (List.mem_singleton.mpr rfl)
  · intro nm c c' hm hm'
    have e := List.mem_singleton.mp hm
    have e' := List.mem_singleton.mp hm'
    obtain ⟨_, rfl⟩ := Prod.mk.inj e
    obtain ⟨_, rfl⟩ := Prod.mk.inj e'
    rfl
  · intro i v ys s₃ C D B m₃ E₃ hv hJ K₃ hD hD' F₃ hL
    refine wpAny_tests_nil ?_
    rw [if_pos rfl]
    obtain ⟨n, tn, rfl, hn⟩ := intsAre_at ho₂ (by simpa using hv)
    rw [List.getElem?_map] at hn
    obtain ⟨k, hk, rfl⟩ := Option.map_eq_some_iff.mp hn
    have hkl := hin k (List.mem_of_getElem? hk)
    obtain ⟨as, q1, q2, q3⟩ := id hp
    obtain ⟨a, ha⟩ : ∃ a, as[k]? = some a := ⟨_, List.getElem?_eq_getElem (by omega)⟩
    obtain ⟨q, hq⟩ : ∃ q, ps[k]? = some q := ⟨_, List.getElem?_eq_getElem hkl⟩
    have hgD : ps.getD k [] = q := by rw [List.getD_eq_getElem?_getD, hq]; rfl
    obtain ⟨svs, p1, p2⟩ := q3 k a q ha hq
    have hq3 : q.length ≤ 3 := hps q (List.mem_of_getElem? hq)
    have hsl : svs.length = q.length := by have := strsAre_length p2; simpa using this
    have KK : KeepsH s.heap s₃.heap := F.keep.trans (Keeps.heap K₃)
    refine callM1 PySem.F.plainAttrs_str PySem.F.slot_str_join PySem.F.type_str_join rfl rfl rfl ?_
    refine Constant_str ⟨typeIs_str _ _ _, (fun a e => by cases e), ?_⟩
    refine subscr (fun _ _ => rfl) (nameC F₃ rfl rfl rfl rfl (nameL F₃ rfl rfl upd_same ⟨p, _, k, tn, .ref a, rfl, rfl, (q1.at fun o e => KK _ o e).isList, by omega, by omega, by simpa using ha, ?_⟩))
    have hcl := chars_length q
    refine join_list (ys := q.map It.str) (p1.at fun o e => KK _ o e).isList (by simpa using p2) ?_ fun t' k' => ⟨⟨_, _, rfl, fun _ _ e => e⟩, ?_⟩
    · rw [catL_length, catL_strs]
      have : (Str.ofString "").length = 0 := by decide +kernel
      rw [this]; omega
    · rw [join_cat _ e0, catL_strs, List.take_add_one, hk]
      simp only [Option.toList_some, List.map_append, List.map_cons, List.map_nil]
      have e : textOf ps k = ⟨(q.flatMap It.chars).toArray⟩ := by rw [textOf, hgD]
      rw [e]
      exact StrsAre.snoc hJ
  · intro D s' ys K' hD hpl' hJ
    have e : ovs.toArray.size = o.length := by simp [hvlen]
    rw [e, List.take_length] at hJ
    have KH : KeepsH s₀.heap s'.heap := Keeps.heap K'
    have h1 := itsOf_length ps hps o hin
    have h2 := chars_length (itsOf ps o)
    refine join_list (ys := o.map (textOf ps)) hpl'.isList (by simpa using hJ) ?_ fun t' k' => ?_
    · rw [catL_length, catL_texts]
      have : (Str.ofString "").length = 0 := by decide +kernel
      rw [this]; omega
    · rw [join_cat _ e0, catL_texts]
      refine ⟨KH, quotedata_call (s := { s' with toks := k' }) (G₀.keeps KH) hroom (by omega) fun h'' tk tk' k'' => ?_⟩
      exact h _ _ (Mine.Keeps.of ((r₀.trans (Rest.trans .tok (Keeps.rest K'))).trans .mk) ((F.keep.trans KH).trans k''))
end
end Mine
end

/-! Mn1 -/
section
open PySem PySem.W PySem.Calls PyProof.Rows PySem.MeetsSeq PySem.MeetsSeq3 PySem.AutoSeq1
set_option maxRecDepth 100000
namespace Mine
set_option linter.unusedVariables false
set_option linter.unusedSimpArgs false

theorem intsAre_none {vs : List Value} {xs : List Int} (h : IntsAre vs xs) {i : Nat} (hi : xs.length ≤ i) : vs.toArray[((i : Nat) : Int).toNat]? = none := by
  have := h.length
  simp; omega
theorem intsAre_some {vs : List Value} {xs : List Int} (h : IntsAre vs xs) {i : Nat} {x : Int} (hi : xs[i]? = some x) : ∃ t, vs.toArray[((i : Nat) : Int).toNat]? = some (.int x t) := by
  obtain ⟨t, e⟩ := h.get i x hi
  exact ⟨t, by simpa using e⟩

theorem lt_same (x : Int) (r r' : List Int) : decide (x :: r < x :: r') = decide (r < r') := by simp [List.cons_lt_cons_iff]
theorem lt_diff {x y : Int} (h : x ≠ y) (r r' : List Int) : decide (x :: r < y :: r') = decide (x < y) := by simp [List.cons_lt_cons_iff, h]

theorem lt_loop (l b : Addr) (vs ws : List Value) (xs ys : List Int) (hx : IntsAre vs xs) (hy : IntsAre ws ys) (n n2 : Nat) (k : Nat) :
    ∀ i : Nat, xs.length - i = k → i ≤ xs.length → i ≤ ys.length → Meets (Builtin.«list.__eq__.loop» ⟨[.ref l, .ref b, rawInt i, rawInt 0], []⟩)
      (fun _ R s => s.heap.get? l = some { cls := .type "list", dict := none, data := .seq vs.toArray n, slots := #[] } ∧ s.heap.get? b = some { cls := .type "list", dict := none, data := .seq ws.toArray n2, slots := #[] } ∧
        R (.ok (.ret (.bool (decide (xs.drop i < ys.drop i))))) s) := by
  induction k with
  | zero =>
    intro i hk hi1 hi2 prog w A R s h
    obtain ⟨hp, g, d, tk, os⟩ := s; obtain ⟨hl, hb, h⟩ := h
    wp_walk using wpAny_loadPart' hl, wpAny_loadPart' hb
    have hix : i = xs.length := by omega
    rw [intsAre_none hx (by omega)]
    wp_walk using wpAny_loadPart' hl, wpAny_loadPart' hb
    show R (.ok (.ret (.bool (decide (vs.toArray.size < ws.toArray.size))))) _
    have e1 : vs.toArray.size = xs.length := by simp [hx.length]
    have e2 : ws.toArray.size = ys.length := by simp [hy.length]
    have e3 : xs.drop i = [] := by rw [List.drop_eq_nil_iff]; omega
    have e4 : decide (xs.length < ys.length) = decide (([] : List Int) < ys.drop i) := by
      subst hix
      cases hd : ys.drop xs.length with
      | nil => have := List.drop_eq_nil_iff.mp hd; simp; omega
      | cons y r =>
        have : xs.length < ys.length := by
          rcases Nat.lt_or_ge xs.length ys.length with h | h
          · exact h
          · rw [List.drop_eq_nil_iff.mpr h] at hd; cases hd
        simp [this]
    rw [e1, e2, e4, ← e3]; exact h
  | succ k ih =>
    intro i hk hi1 hi2 prog w A R s h
    obtain ⟨hp, g, d, tk, os⟩ := s; obtain ⟨hl, hb, h⟩ := h
    have hlt : i < xs.length := by omega
    obtain ⟨t1, hv⟩ := intsAre_some hx (List.getElem?_eq_getElem hlt)
    wp_walk using wpAny_loadPart' hl, wpAny_loadPart' hb
    rw [hv]
    have hd1 : xs.drop i = xs[i] :: xs.drop (i + 1) := List.drop_eq_getElem_cons hlt
    by_cases hlt2 : i < ys.length
    · obtain ⟨t2, hw⟩ := intsAre_some hy (List.getElem?_eq_getElem hlt2)
      rw [hw]
      have hd2 : ys.drop i = ys[i] :: ys.drop (i + 1) := List.drop_eq_getElem_cons hlt2
      have hc : ((i : Int) + 1) = ((i + 1 : Nat) : Int) := by push_cast; rfl
      rw [hd1, hd2] at h
      refine wpAny_bind (wpAny_eqBool_int ?_)
      by_cases he : xs[i] = ys[i]
      · have e : (xs[i] == ys[i]) = true := by simpa using he
        rw [e]
        wp_walk
        rw [hc]
        refine ⟨plainId_quiet plain_eq_loop _, codeAny_builtin entry_eq_loop (by
          rw [Around.under_plainId plain_eq_loop _]
          refine ih (i + 1) (by omega) (by omega) (by omega) prog w A R _ ⟨hl, hb, ?_⟩
          rw [he, lt_same] at h; exact h)⟩
      · have e : (xs[i] == ys[i]) = false := by simpa using he
        rw [e]
        wp_walk using wpAny_loadPart' hl, wpAny_loadPart' hb
        rw [hv, hw]
        rw [lt_diff he] at h
        show wpAny _ _ (compareOp .Lt (.int xs[i] t1) (.int ys[i] t2) >>= fun v => ret v) _ _ _
        exact wpAny_bind (PyProof.Rows.lt_int (wpAny_pure h))
    · have hy2 : i = ys.length := by omega
      rw [intsAre_none hy (by omega)]
      wp_walk using wpAny_loadPart' hl, wpAny_loadPart' hb
      show R (.ok (.ret (.bool (decide (vs.toArray.size < ws.toArray.size))))) _
      have e1 : vs.toArray.size = xs.length := by simp [hx.length]
      have e2 : ws.toArray.size = ys.length := by simp [hy.length]
      have e3 : ys.drop i = [] := by rw [List.drop_eq_nil_iff]; omega
      rw [e3] at h
      have e4 : decide (xs.length < ys.length) = decide (xs.drop i < []) := by
        have : ¬ xs.length < ys.length := by omega
        simp [this]
      rw [e1, e2, e4]; exact h

theorem list_lt (l b : Addr) (vs ws : List Value) (xs ys : List Int) (hx : IntsAre vs xs) (hy : IntsAre ws ys) (n n2 : Nat) :
    Meets (Builtin.«list.__lt__» ⟨[.ref l, .ref b], []⟩)
      (fun _ R s => s.heap.get? l = some { cls := .type "list", dict := none, data := .seq vs.toArray n, slots := #[] } ∧ s.heap.get? b = some { cls := .type "list", dict := none, data := .seq ws.toArray n2, slots := #[] } ∧
        R (.ok (.ret (.bool (decide (xs < ys))))) s) := by
  intro prog w A R s h
  obtain ⟨hp, g, d, tk, os⟩ := s; obtain ⟨hl, hb, h⟩ := h
  have f3 := AutoSeq1.sub_list_list
  wp_walk using wpAny_loadPart' hl, wpAny_loadPart' hb
  exact ⟨plainId_quiet plain_eq_loop _, codeAny_builtin entry_eq_loop (by
    rw [Around.under_plainId plain_eq_loop _]
    exact lt_loop l b vs ws xs ys hx hy n n2 _ 0 rfl (Nat.zero_le _) (Nat.zero_le _) prog w A R _ ⟨hl, hb, by simpa using h⟩)⟩

section
variable {prog : Program} {w : World} {A : Around} {E : Value → Shared → Prop} {s : Shared}
theorem lt_lists {l b : Addr} {vs ws : List Value} {xs ys : List Int} {Q : Value → Shared → Prop} (hl : s.heap.PlainList l vs.toArray) (hx : IntsAre vs xs) (hb : s.heap.PlainList b ws.toArray) (hy : IntsAre ws ys) (hu : A.units < cLine)
    (h : Q (.bool (decide (xs < ys))) s) : wpAny (model prog w) A (richCompare .Lt (.ref l) (.ref b)) Q E s := by
  obtain ⟨n, e1⟩ := id hl
  obtain ⟨n2, e2⟩ := id hb
  exact wpAny_richCompare_same_room (op := .Lt) (T := "list") ⟨_, e1, rfl⟩ ⟨_, e2, rfl⟩ PySem.F.slot_list_lt
    (call_meets PySem.F.slot_list_lt ⟨_, e1, rfl⟩ PySem.F.entry_list_lt (PySem.F.args_list_lt_2 _ _) (list_lt l b vs ws xs ys hx hy n n2) ⟨e1, e2, (fun e => by cases e), h⟩) hu
end
end Mine
end

/-! Mn2 -/
section
open PySem PySem.W PySem.Calls PyProof.Rows
set_option maxRecDepth 100000
namespace Mine
set_option linter.unusedVariables false
set_option linter.unusedSimpArgs false

/-- a list of lists of ints lies there -/
def RowsAt (h : Heap) (as : List Addr) (xss : List (List Int)) : Prop := as.length = xss.length ∧ ∀ (i : Nat) (a : Addr) (xs : List Int), as[i]? = some a → xss[i]? = some xs → ∃ vs, h.PlainList a vs.toArray ∧ IntsAre vs xs
theorem RowsAt.lists {h h' : Heap} {as : List Addr} {xss : List (List Int)} (r : RowsAt h as xss) (k : Lists h h') : RowsAt h' as xss :=
  ⟨r.1, fun i a xs e1 e2 => let ⟨vs, p, q⟩ := r.2 i a xs e1 e2; ⟨vs, k _ _ p, q⟩⟩

section
variable {prog : Program} {w : World} {A : Around} {R : Result → Shared → Prop}

theorem min_loop {I S D : Addr} {h₀ : Heap} {as : List Addr} {xss : List (List Int)} (hh : A.handled = none) (hu : A.units + 1 < cLine) (hD : h₀.PlainList D (as.map Value.ref).toArray) (hr : RowsAt h₀ as xss) (hI : h₀.get? I = none) (hS : h₀.get? S = none) (hIS : I ≠ S) :
    ∀ (k j : Nat) (s : Shared) (ab : Addr) (xb : List Int) (c ib : Nat), as.length - j = k → j ≤ as.length → s.heap.IsListIter I D j → KeepsH h₀ s.heap → ib < j → as[ib]? = some ab → xss[ib]? = some xb → (∀ i x, i < j → xss[i]? = some x → ¬ x < xb) →
    s.heap.get? S = some { cls := .type "list", dict := none, data := .seq #[.ref ab, .ref ab] c, slots := #[] } →
    (∀ (i : Nat) (a : Addr) (x : List Int) (s' : Shared), as[i]? = some a → xss[i]? = some x → (∀ y ∈ xss, ¬ y < x) → Rest s s' → KeepsH h₀ s'.heap → R (.ok (.ret (.ref a))) s') →
    codeAny (model prog w) A (.builtin "min.loop" ⟨[.ref I, .none, .ref S], []⟩) R s := by
  have hname : (toString "min" ++ toString ".loop" : String) = "min.loop" := by decide
  intro k
  induction k with
  | zero =>
    intro j s ab xb c ib hk hj hit K hib hab hxb hmin hSs hR
    have hin : j = as.length := by omega
    refine codeAny_builtin PySem.F.entry_min_loop ?_
    rw [Around.under_plainId PySem.F.plain_min_loop _]
    show wpAny _ A.in1 (seqItems? (.ref S) >>= _) _ _ s
    refine wpAny_bind (wpAny_seqItems hSs rfl ?_)
    show wpAny _ A.in1 (tryCatch (pyNext (.ref I)) _ >>= _) _ _ s
    refine wpAny_bind (wpAny_tryCatch (wpAny_pyNext_list_end hh hit (hD.at fun o e => K _ o e).isList (by simp; omega) fun h' he' => ?_))
    have hS' := he' S _ (Ne.symm hIS) hSs
    show wpAny _ A.in1 (updateSeq S (fun _ => #[]) >>= _) _ _ _
    refine wpAny_bind ?_
    refine wpAny_updateSeq hS' rfl (wpAny_bind (wpAny_letGo (wpAny_pure ?_)))
    refine hR ib ab xb _ hab hxb (fun y hy => ?_) .heap fun b o e => ?_
    · obtain ⟨i, hi⟩ := List.getElem?_of_mem hy
      have hil := (List.getElem?_eq_some_iff.mp hi).1
      exact hmin i y (by have := hr.1; omega) hi
    · refine (Heap.get?_update_other _ _ (fun q => ?_)).trans (he' b o (fun q => ?_) (K b o e))
      · rw [← q, hS] at e; cases e
      · rw [q, hI] at e; cases e
  | succ k ih =>
    intro j s ab xb c ib hk hj hit K hib hab hxb hmin hSs hR
    have hlt : j < as.length := by omega
    obtain ⟨a, ha⟩ : ∃ a, as[j]? = some a := ⟨_, List.getElem?_eq_getElem hlt⟩
    obtain ⟨x, hx⟩ : ∃ x, xss[j]? = some x := ⟨_, List.getElem?_eq_getElem (by have := hr.1; omega)⟩
    refine codeAny_builtin PySem.F.entry_min_loop ?_
    rw [Around.under_plainId PySem.F.plain_min_loop _]
    show wpAny _ A.in1 (seqItems? (.ref S) >>= _) _ _ s
    refine wpAny_bind (wpAny_seqItems hSs rfl ?_)
    show wpAny _ A.in1 (tryCatch (pyNext (.ref I)) _ >>= _) _ _ s
    refine wpAny_bind (wpAny_tryCatch (wpAny_pyNext_list_item hit (hD.at fun o e => K _ o e).isList (x := .ref a) (by simp [ha]) fun h' hit' sb => ?_))
    have hS' := sb.extBut S _ (Ne.symm hIS) hSs
    have K' : KeepsH h₀ h' := K.but hI sb
    obtain ⟨vs, p1, p2⟩ := hr.2 j a x ha hx
    obtain ⟨ws, q1, q2⟩ := hr.2 ib ab xb hab hxb
    show wpAny _ A.in1 (tryCatch (holding [.ref a, .ref a] (richCompare .Lt (.ref a) (.ref ab) >>= _)) _ >>= _) _ _ _
    refine wpAny_bind (wpAny_tryCatch (wpAny_holding (wpAny_bind (lt_lists (p1.at fun o e => K' _ o e) p2 (q1.at fun o e => K' _ o e) q2 hu ?_))))
    refine wpAny_bind (wpAny_holding (wpAny_truthy_bool ?_))
    refine wpAny_bind (wpAny_letGo (wpAny_pure ?_))
    by_cases hb : x < xb
    · simp only [hb, decide_true, if_true]
      refine wpAny_bind ?_
      refine wpAny_updateSeq hS' rfl (wpAny_bind (wpAny_letGo ?_))
      rw [hname]
      refine wpAny_pure ⟨plainId_quiet PySem.F.plain_min_loop _, ih (j + 1) _ a x _ j (by omega) hlt (hit'.extBut (Heap.SameBut.update ..).extBut hIS) (K'.but hS (Heap.SameBut.update ..)) (by omega) ha hx ?_ (Heap.get?_update_self _ hS' rfl) fun i a x s' h1 h2 h3 h4 h5 => hR i a x s' h1 h2 h3 (Rest.trans .heap h4) h5⟩
      intro i y hi hy
      by_cases hij : i = j
      · subst hij; rw [hx] at hy; cases hy; exact List.lt_irrefl _
      · intro hc
        exact hmin i y (by omega) hy (List.lt_trans hc hb)
    · simp only [hb, decide_false, Bool.false_eq_true, if_false]
      refine wpAny_bind (wpAny_letGo ?_)
      rw [hname]
      refine wpAny_pure ⟨plainId_quiet PySem.F.plain_min_loop _, ih (j + 1) _ ab xb c ib (by omega) hlt hit' K' (by omega) hab hxb ?_ hS' fun i a x s' h1 h2 h3 h4 h5 => hR i a x s' h1 h2 h3 (Rest.trans .heap h4) h5⟩
      intro i y hi hy
      by_cases hij : i = j
      · subst hij; rw [hx] at hy; cases hy; exact hb
      · exact hmin i y (by omega) hy
end

section
variable {prog : Program} {w : World} {A : Around} {E : Value → Shared → Prop} {s : Shared}
theorem min_call {D : Addr} {as : List Addr} {xss : List (List Int)} {Q : Value → Shared → Prop} (hh : A.handled = none) (hu : A.units + 1 < cLine) (hD : s.heap.PlainList D (as.map Value.ref).toArray) (hr : RowsAt s.heap as xss) (hn : 0 < as.length)
    (h : ∀ (i : Nat) (a : Addr) (x : List Int) (s' : Shared), as[i]? = some a → xss[i]? = some x → (∀ y ∈ xss, ¬ y < x) → Keeps s s' → Q (.ref a) s') : wpAny (model prog w) A (call (.builtin "min") [.ref D]) Q E s := by
  have hname : (toString "min" ++ toString ".loop" : String) = "min.loop" := by decide
  refine call_function_tree PySem.F.kind_min PySem.F.plain_min PySem.F.entry_min (PySem.F.args_min1 _) ?_
  show wpAny _ A.in1 (Builtin.Builtins.bindParams "min" ["key", "default"] 0 ⟨[], []⟩ >>= _) _ _ s
  refine wpAny_bind (wpAny_of_eq (show Builtin.Builtins.bindParams "min" ["key", "default"] 0 ⟨[], []⟩ = pure [none, none] from rfl) ?_)
  refine wpAny_bind (wpAny_pure ?_)
  refine wpAny_bind (wpAny_pyIter_list hD.isList ?_)
  refine wpAny_bind (wpAny_newList ?_)
  rw [hname]
  obtain ⟨a, ha⟩ : ∃ a, as[0]? = some a := ⟨_, List.getElem?_eq_getElem hn⟩
  obtain ⟨x, hx⟩ : ∃ x, xss[0]? = some x := ⟨_, List.getElem?_eq_getElem (by have := hr.1; omega)⟩
  have hIS : s.heap.objs.size ≠ (s.heap.push { cls := .type "list_iterator", data := .fields #[.ref D, .int 0 0] }).objs.size := by rw [Heap.size_push]; exact Nat.ne_of_lt (Nat.lt_succ_self _)
  have K0 : KeepsH s.heap ((s.heap.push { cls := .type "list_iterator", data := .fields #[.ref D, .int 0 0] }).push { cls := .type "list", data := .seq ([] : List Value).toArray }) := (push_keeps _ _).trans (push_keeps _ _)
  have hI0 : s.heap.get? s.heap.objs.size = none := fresh_none _
  have hS0 : s.heap.get? (s.heap.push { cls := .type "list_iterator", data := .fields #[.ref D, .int 0 0] }).objs.size = none := (push_keeps _ _).none (fresh_none _)
  have hit0 : ((s.heap.push { cls := .type "list_iterator", data := .fields #[.ref D, .int 0 0] }).push { cls := .type "list", data := .seq ([] : List Value).toArray }).IsListIter s.heap.objs.size D 0 := ⟨_, Heap.get?_push_of_some _ (Heap.get?_push_size _ rfl), rfl, rfl⟩
  have hSS0 : ((s.heap.push { cls := .type "list_iterator", data := .fields #[.ref D, .int 0 0] }).push { cls := .type "list", data := .seq ([] : List Value).toArray }).get? (s.heap.push { cls := .type "list_iterator", data := .fields #[.ref D, .int 0 0] }).objs.size = some { cls := .type "list", dict := none, data := .seq #[] 0, slots := #[] } := Heap.get?_push_size _ rfl
  generalize (s.heap.push { cls := .type "list_iterator", data := .fields #[.ref D, .int 0 0] }).push { cls := .type "list", data := .seq ([] : List Value).toArray } = H at K0 hit0 hSS0 ⊢
  generalize (s.heap.push { cls := .type "list_iterator", data := .fields #[.ref D, .int 0 0] }).objs.size = S at hIS hS0 hSS0 ⊢
  generalize s.heap.objs.size = I at hIS hI0 hit0 ⊢
  refine wpAny_pure ⟨plainId_quiet PySem.F.plain_min_loop _, ?_⟩
  refine codeAny_builtin PySem.F.entry_min_loop ?_
  rw [Around.under_plainId PySem.F.plain_min_loop _]
  show wpAny _ A.in1 (seqItems? (.ref S) >>= _) _ _ _
  refine wpAny_bind (wpAny_seqItems hSS0 rfl ?_)
  show wpAny _ A.in1 (tryCatch (pyNext (.ref I)) _ >>= _) _ _ _
  refine wpAny_bind (wpAny_tryCatch (wpAny_pyNext_list_item hit0 (hD.at fun o e => K0 _ o e).isList (x := .ref a) (by simp [ha]) fun h' hit' sb => ?_))
  have hS' := sb.extBut S _ (Ne.symm hIS) hSS0
  show wpAny _ A.in1 (updateSeq S (fun _ => #[.ref a, .ref a]) >>= _) _ _ _
  refine wpAny_bind ?_
  refine wpAny_updateSeq hS' rfl ?_
  rw [hname]
  refine wpAny_pure ⟨plainId_quiet PySem.F.plain_min_loop _, min_loop (h₀ := s.heap) hh hu hD hr hI0 hS0 hIS _ 1 _ a x _ 0 rfl hn (hit'.extBut (Heap.SameBut.update ..).extBut hIS) ((K0.but hI0 sb).but hS0 (Heap.SameBut.update ..)) Nat.zero_lt_one ha hx ?_ (Heap.get?_update_self _ hS' rfl) fun i a x s' h1 h2 h3 h4 h5 => h i a x s' h1 h2 h3 (Mine.Keeps.of (Rest.trans .heap h4) h5)⟩
  intro i y hi hy
  have : i = 0 := by omega
  subst this; rw [hx] at hy; cases hy; exact List.lt_irrefl _
end
end Mine
end

/-! Pl1 -/
section
open PySem PySem.W PyProof.Rows
namespace Mine
set_option linter.unusedVariables false
set_option linter.unusedSimpArgs false

/-- the marks that the things have -/
def IsMark (m : Int) : Prop := m = 11 ∨ m = 13 ∨ m = 46 ∨ m = 97
theorem It.isMark (i : It) : IsMark i.mark := by cases i <;> simp [It.mark, IsMark]
theorem IsMark.bound {m : Int} (h : IsMark m) : 0 ≤ m ∧ m < 128 := by rcases h with h | h | h | h <;> omega

theorem told_cons (h : Bool) (m : Int) (r : List Int) (hm : IsMark m) : ∃ t, told h (m :: r) = m.toNat :: t := by
  rw [told]
  rcases hm with rfl | rfl | rfl | rfl
  · exact ⟨_, rfl⟩
  · exact ⟨_, rfl⟩
  · cases h
    · exact ⟨_, rfl⟩
    · exact ⟨_, rfl⟩
  · exact ⟨_, rfl⟩

theorem append_lt (p : List Nat) {x y : List Nat} (h : x < y) : p ++ x < p ++ y := by
  induction p with
  | nil => exact h
  | cons a p ih => rw [List.cons_append, List.cons_append, List.cons_lt_cons_iff]; exact .inr ⟨rfl, ih⟩

theorem told_lt : ∀ (x y : List Int) (h : Bool), (∀ m ∈ x, IsMark m) → (∀ m ∈ y, IsMark m) → x < y → told h x < told h y
  | [], [], _, _, _, hlt => absurd hlt (List.lt_irrefl _)
  | [], b :: y, h, _, hy, _ => by
    obtain ⟨t, e⟩ := told_cons h b y (hy b List.mem_cons_self)
    rw [e, told]; exact List.nil_lt_cons _ _
  | a :: x, [], _, _, _, hlt => by simp at hlt
  | a :: x, b :: y, h, hx, hy, hlt => by
    rcases List.cons_lt_cons_iff.mp hlt with hab | ⟨rfl, hxy⟩
    · obtain ⟨t, e⟩ := told_cons h a x (hx a List.mem_cons_self)
      obtain ⟨u, e'⟩ := told_cons h b y (hy b List.mem_cons_self)
      rw [e, e', List.cons_lt_cons_iff]
      have := (hx a List.mem_cons_self).bound
      exact .inl (by omega)
    · rw [told, told]
      exact append_lt _ (told_lt x y _ (fun m hm => hx m (List.mem_cons_of_mem _ hm)) (fun m hm => hy m (List.mem_cons_of_mem _ hm)) hxy)

theorem lt_tri (x y : List Int) : x < y ∨ x = y ∨ y < x := by
  rcases Decidable.em (x < y) with h | h
  · exact .inl h
  · rcases Decidable.em (y < x) with h' | h'
    · exact .inr (.inr h')
    · exact .inr (.inl (List.le_antisymm (List.not_lt.mp h') (List.not_lt.mp h)))

theorem lt_asymm {α : Type} [LT α] [DecidableEq α] [DecidableLT α] [Std.Irrefl (α := α) (· < ·)] [Std.Asymm (α := α) (· < ·)] {x y : List α} (h : x < y) : ¬ y < x := List.lt_asymm h

/-- the answer of the comparison of what is sent -/
theorem coll_marks (a b : List It) : collOf (sentStr a) (sentStr b) = if b.map It.mark < a.map It.mark then 1 else if a.map It.mark < b.map It.mark then -1 else 0 := by
  have ha : ∀ m ∈ a.map It.mark, IsMark m := fun m hm => by obtain ⟨i, _, rfl⟩ := List.mem_map.mp hm; exact i.isMark
  have hb : ∀ m ∈ b.map It.mark, IsMark m := fun m hm => by obtain ⟨i, _, rfl⟩ := List.mem_map.mp hm; exact i.isMark
  show b2i (decide (told true (b.map It.mark) < told true (a.map It.mark))) - b2i (decide (told true (a.map It.mark) < told true (b.map It.mark))) = _
  generalize a.map It.mark = x at ha
  generalize b.map It.mark = y at hb
  rcases lt_tri x y with h | h | h
  · have h1 := told_lt x y true ha hb h
    have h2 : ¬ told true y < told true x := List.lt_asymm h1
    have h3 : ¬ y < x := List.lt_asymm h
    simp [h1, h2, h3, h, b2i]
  · subst h
    have h1 : ¬ told true x < told true x := List.lt_irrefl _
    have h2 : ¬ x < x := List.lt_irrefl _
    simp [h1, h2, b2i]
  · have h1 := told_lt y x true hb ha h
    have h2 : ¬ told true x < told true y := List.lt_asymm h1
    simp [h1, h2, h, b2i]

/-- a list of marks read as a number of base 128 -/
def val : List Int → Nat
  | [] => 0
  | c :: r => c.toNat * 128 ^ r.length + val r
theorem val_append : ∀ x y : List Int, val (x ++ y) = val x * 128 ^ y.length + val y
  | [], y => by simp [val]
  | c :: x, y => by
    rw [List.cons_append, val, val_append x y, val, List.length_append, Nat.pow_add, Nat.add_mul, Nat.mul_assoc, Nat.add_assoc]
theorem val_lt_pow : ∀ x : List Int, (∀ m ∈ x, IsMark m) → val x < 128 ^ x.length
  | [], _ => by simp [val]
  | c :: x, h => by
    have h1 := val_lt_pow x fun m hm => h m (List.mem_cons_of_mem _ hm)
    have h2 := (h c List.mem_cons_self).bound
    have h3 : c.toNat ≤ 127 := by omega
    rw [val, List.length_cons, Nat.pow_succ]
    have h4 : c.toNat * 128 ^ x.length ≤ 127 * 128 ^ x.length := Nat.mul_le_mul_right _ h3
    omega
theorem val_lt : ∀ (x y : List Int), (∀ m ∈ x, IsMark m) → (∀ m ∈ y, IsMark m) → x.length = y.length → x < y → val x < val y
  | [], [], _, _, _, h => absurd h (List.lt_irrefl _)
  | [], _ :: _, _, _, hl, _ => by simp at hl
  | _ :: _, [], _, _, hl, _ => by simp at hl
  | a :: x, b :: y, hx, hy, hl, h => by
    have hl' : x.length = y.length := by simpa using hl
    have hx' : ∀ m ∈ x, IsMark m := fun m hm => hx m (List.mem_cons_of_mem _ hm)
    have hy' : ∀ m ∈ y, IsMark m := fun m hm => hy m (List.mem_cons_of_mem _ hm)
    rw [val, val]
    rcases List.cons_lt_cons_iff.mp h with hab | ⟨rfl, hxy⟩
    · have h1 := val_lt_pow x hx'
      have h2 := (hx a List.mem_cons_self).bound
      have h3 : a.toNat + 1 ≤ b.toNat := by omega
      have h4 : (a.toNat + 1) * 128 ^ y.length ≤ b.toNat * 128 ^ y.length := Nat.mul_le_mul_right _ h3
      rw [Nat.add_mul, Nat.one_mul] at h4
      rw [hl'] at h1 ⊢
      omega
    · have := val_lt x y hx' hy' hl' hxy
      rw [hl']; omega
theorem val_lt_iff {x y : List Int} (hx : ∀ m ∈ x, IsMark m) (hy : ∀ m ∈ y, IsMark m) (hl : x.length = y.length) : (x < y ↔ val x < val y) ∧ (x = y ↔ val x = val y) := by
  rcases lt_tri x y with h | h | h
  · have h1 := val_lt x y hx hy hl h
    exact ⟨⟨fun _ => h1, fun _ => h⟩, fun e => by rw [e] at h; exact absurd h (List.lt_irrefl _), fun e => by omega⟩
  · subst h
    exact ⟨⟨fun h => absurd h (List.lt_irrefl _), fun h => by omega⟩, fun _ => rfl, fun _ => rfl⟩
  · have h1 := val_lt y x hy hx hl.symm h
    exact ⟨⟨fun h' => absurd h' (List.lt_asymm h), fun h' => by omega⟩, fun e => by rw [e] at h; exact absurd h (List.lt_irrefl _), fun e => by omega⟩
end Mine
end

/-! Pl2 -/
section
open PySem PySem.W PyProof.Rows
namespace Mine
set_option linter.unusedVariables false
set_option linter.unusedSimpArgs false

section
variable (ps : List (List It))
def mkOf (k : Nat) : List Int := (ps.getD k []).map It.mark
def vOf (k : Nat) : Nat := val (mkOf ps k)
def dOf (k : Nat) : Nat := 128 ^ (mkOf ps k).length - 1
/-- i is to stand ahead of j -/
def Ahead (i j : Nat) : Prop := vOf ps i * dOf ps j < vOf ps j * dOf ps i ∨ (vOf ps i * dOf ps j = vOf ps j * dOf ps i ∧ i < j)

theorem marksOf_cons (k : Nat) (o : List Nat) : marksOf ps (k :: o) = mkOf ps k ++ marksOf ps o := by
  simp [marksOf, itsOf, mkOf]
theorem marksOf_append (a b : List Nat) : marksOf ps (a ++ b) = marksOf ps a ++ marksOf ps b := by
  simp [marksOf, itsOf]
theorem marksOf_marks (o : List Nat) : ∀ m ∈ marksOf ps o, IsMark m := fun m hm => by
  obtain ⟨i, _, rfl⟩ := List.mem_map.mp hm; exact i.isMark
theorem mkOf_marks (k : Nat) : ∀ m ∈ mkOf ps k, IsMark m := fun m hm => by
  obtain ⟨i, _, rfl⟩ := List.mem_map.mp hm; exact i.isMark

theorem pow_d (k : Nat) : 128 ^ (mkOf ps k).length = dOf ps k + 1 := by
  have : 0 < 128 ^ (mkOf ps k).length := Nat.pow_pos (by decide)
  unfold dOf; omega
theorem dOf_pos {k : Nat} (h : 0 < (ps.getD k []).length) : 0 < dOf ps k := by
  have h1 : (mkOf ps k).length = (ps.getD k []).length := by simp [mkOf]
  have h2 : 128 ^ 1 ≤ 128 ^ (mkOf ps k).length := Nat.pow_le_pow_right (by decide) (by omega)
  have := pow_d ps k
  omega

theorem val_pair (i j : Nat) : val (mkOf ps i ++ mkOf ps j) = vOf ps i * dOf ps j + vOf ps i + vOf ps j := by
  rw [val_append, pow_d, Nat.mul_add, Nat.mul_one]; rfl

/-- two pieces in this order are below the other order just when .. -/
theorem pair_lt (i j : Nat) : (mkOf ps i ++ mkOf ps j < mkOf ps j ++ mkOf ps i ↔ vOf ps i * dOf ps j < vOf ps j * dOf ps i) := by
  have hl : (mkOf ps i ++ mkOf ps j).length = (mkOf ps j ++ mkOf ps i).length := by simp [Nat.add_comm]
  have hm : ∀ a b, ∀ m ∈ mkOf ps a ++ mkOf ps b, IsMark m := fun a b m hm => by
    rcases List.mem_append.mp hm with h | h
    · exact mkOf_marks ps a m h
    · exact mkOf_marks ps b m h
  rw [(val_lt_iff (hm i j) (hm j i) hl).1, val_pair, val_pair]
  omega

theorem ahead_trans {i j k : Nat} (hi : 0 < dOf ps i) (hj : 0 < dOf ps j) (hk : 0 < dOf ps k) (h1 : Ahead ps i j) (h2 : Ahead ps j k) : Ahead ps i k := by
  unfold Ahead at *
  generalize vOf ps i = vi at *
  generalize vOf ps j = vj at *
  generalize vOf ps k = vk at *
  generalize dOf ps i = di at *
  generalize dOf ps j = dj at *
  generalize dOf ps k = dk at *
  have e1 : vi * dk * dj = vi * dj * dk := by rw [Nat.mul_right_comm]
  have e2 : vk * di * dj = vk * dj * di := by rw [Nat.mul_right_comm]
  have e3 : vj * di * dk = vj * dk * di := by rw [Nat.mul_right_comm]
  have le1 : vi * dj ≤ vj * di := by rcases h1 with h | h <;> omega
  have le2 : vj * dk ≤ vk * dj := by rcases h2 with h | h <;> omega
  have m1 : vi * dj * dk ≤ vj * di * dk := Nat.mul_le_mul_right _ le1
  have m2 : vj * dk * di ≤ vk * dj * di := Nat.mul_le_mul_right _ le2
  have le : vi * dk ≤ vk * di := Nat.le_of_mul_le_mul_right (by omega : vi * dk * dj ≤ vk * di * dj) hj
  rcases Nat.lt_or_eq_of_le le with h | h
  · exact .inl h
  · -- all are ties
    refine .inr ⟨h, ?_⟩
    have hdd : vi * dk * dj = vk * di * dj := by rw [h]
    have t1 : vi * dj * dk = vj * di * dk := by omega
    have t2 : vj * dk * di = vk * dj * di := by omega
    have u1 : vi * dj = vj * di := Nat.eq_of_mul_eq_mul_right hk t1
    have u2 : vj * dk = vk * dj := Nat.eq_of_mul_eq_mul_right hi t2
    rcases h1 with h1 | h1
    · omega
    · rcases h2 with h2 | h2 <;> omega

/-- moving a piece that is to stand ahead of l1's to their head makes the whole no greater; where it is as great all are ties -/
theorem move (x : Nat) (l2 : List Nat) : ∀ l1 : List Nat, (∀ y ∈ l1, vOf ps x * dOf ps y ≤ vOf ps y * dOf ps x) →
    val (marksOf ps (x :: (l1 ++ l2))) ≤ val (marksOf ps (l1 ++ x :: l2)) ∧ (val (marksOf ps (x :: (l1 ++ l2))) = val (marksOf ps (l1 ++ x :: l2)) → ∀ y ∈ l1, vOf ps x * dOf ps y = vOf ps y * dOf ps x)
  | [], _ => ⟨Nat.le_refl _, fun _ y hy => by cases hy⟩
  | y :: l1, h => by
    obtain ⟨ih1, ih2⟩ := move x l2 l1 fun z hz => h z (List.mem_cons_of_mem _ hz)
    have hy := h y List.mem_cons_self
    have el : (marksOf ps (x :: (l1 ++ l2))).length = (marksOf ps (l1 ++ x :: l2)).length := by
      rw [marksOf_cons, marksOf_append, marksOf_append, marksOf_cons]
      simp only [List.length_append]; omega
    -- x y .. below y x ..
    have e1 : val (marksOf ps (x :: (y :: l1 ++ l2))) = (vOf ps x * dOf ps y + vOf ps x + vOf ps y) * 128 ^ (marksOf ps (l1 ++ l2)).length + val (marksOf ps (l1 ++ l2)) := by
      rw [marksOf_cons, List.cons_append, marksOf_cons, ← List.append_assoc, val_append, val_pair]
    have e2 : val (marksOf ps (y :: x :: (l1 ++ l2))) = (vOf ps y * dOf ps x + vOf ps y + vOf ps x) * 128 ^ (marksOf ps (l1 ++ l2)).length + val (marksOf ps (l1 ++ l2)) := by
      rw [marksOf_cons, marksOf_cons, ← List.append_assoc, val_append, val_pair]
    have e3 : val (marksOf ps (y :: x :: (l1 ++ l2))) = vOf ps y * 128 ^ (marksOf ps (l1 ++ x :: l2)).length + val (marksOf ps (x :: (l1 ++ l2))) := by
      rw [marksOf_cons, val_append, el]; rfl
    have e4 : val (marksOf ps (y :: l1 ++ x :: l2)) = vOf ps y * 128 ^ (marksOf ps (l1 ++ x :: l2)).length + val (marksOf ps (l1 ++ x :: l2)) := by
      rw [List.cons_append, marksOf_cons, val_append]; rfl
    have hp : 0 < 128 ^ (marksOf ps (l1 ++ l2)).length := Nat.pow_pos (by decide)
    have m1 : (vOf ps x * dOf ps y + vOf ps x + vOf ps y) * 128 ^ (marksOf ps (l1 ++ l2)).length ≤ (vOf ps y * dOf ps x + vOf ps y + vOf ps x) * 128 ^ (marksOf ps (l1 ++ l2)).length := Nat.mul_le_mul_right _ (by omega)
    refine ⟨by omega, fun e z hz => ?_⟩
    rcases List.mem_cons.mp hz with rfl | hz
    · have : (vOf ps x * dOf ps z + vOf ps x + vOf ps z) * 128 ^ (marksOf ps (l1 ++ l2)).length = (vOf ps z * dOf ps x + vOf ps z + vOf ps x) * 128 ^ (marksOf ps (l1 ++ l2)).length := by omega
      have := Nat.eq_of_mul_eq_mul_right hp this
      omega
    · exact ih2 (by omega) z hz

theorem perm_length {a b : List Nat} (h : a.Perm b) : (marksOf ps a).length = (marksOf ps b).length := by
  have : (itsOf ps a).Perm (itsOf ps b) := h.flatMap_right _
  simp only [marksOf, List.length_map]; exact this.length_eq

/-- the row that stands in order is least, and of the least the first -/
theorem row_least : ∀ (row order : List Nat), row.Pairwise (Ahead ps) → order.Perm row →
    val (marksOf ps row) ≤ val (marksOf ps order) ∧ (val (marksOf ps row) = val (marksOf ps order) → ¬ order < row)
  | [], order, _, hp => by
    have : order = [] := List.perm_nil.mp hp
    subst this
    exact ⟨Nat.le_refl _, fun _ => List.lt_irrefl _⟩
  | x :: r, order, hs, hp => by
    obtain ⟨hx, hr⟩ := List.pairwise_cons.mp hs
    have hmem : x ∈ order := hp.mem_iff.mpr List.mem_cons_self
    obtain ⟨l1, l2, rfl⟩ := List.append_of_mem hmem
    have hp' : (l1 ++ l2).Perm r := by
      have h1 : (x :: (l1 ++ l2)).Perm (x :: r) := List.perm_middle.symm.trans hp
      exact List.Perm.cons_inv h1
    obtain ⟨ih1, ih2⟩ := row_least r (l1 ++ l2) hr hp'
    have hall : ∀ y ∈ l1, Ahead ps x y := fun y hy => hx y (hp'.mem_iff.mp (List.mem_append_left _ hy))
    obtain ⟨m1, m2⟩ := move ps x l2 l1 fun y hy => by rcases hall y hy with h | h <;> omega
    have el := perm_length ps hp'
    have e1 : val (marksOf ps (x :: r)) = vOf ps x * 128 ^ (marksOf ps r).length + val (marksOf ps r) := by rw [marksOf_cons, val_append]; rfl
    have e2 : val (marksOf ps (x :: (l1 ++ l2))) = vOf ps x * 128 ^ (marksOf ps r).length + val (marksOf ps (l1 ++ l2)) := by rw [marksOf_cons, val_append, el]; rfl
    refine ⟨by omega, fun e => ?_⟩
    have t1 : val (marksOf ps r) = val (marksOf ps (l1 ++ l2)) := by omega
    have t2 := m2 (by omega)
    cases l1 with
    | nil =>
      rw [List.nil_append, List.cons_lt_cons_iff]
      rintro (h | ⟨_, h⟩)
      · omega
      · exact ih2 t1 h
    | cons y l1 =>
      have hy := t2 y List.mem_cons_self
      have hxy : x < y := by rcases hall y List.mem_cons_self with h | h <;> omega
      rw [List.cons_append, List.cons_lt_cons_iff]
      rintro (h | ⟨h, _⟩) <;> omega

/-- all the orders of the first n places, as the text makes them -/
def ordersN : Nat → List (List Nat)
  | 0 => [[]]
  | n + 1 => (ordersN n).flatMap fun o => (List.range (o.length + 1)).map fun k => o.take k ++ [n] ++ o.drop k
theorem ordersN_perm : ∀ (n : Nat) (o : List Nat), o ∈ ordersN n → o.Perm (List.range n)
  | 0, o, h => by
    have : o = [] := by simpa [ordersN] using h
    subst this; exact .refl _
  | n + 1, o, h => by
    obtain ⟨o', h1, h2⟩ := List.mem_flatMap.mp h
    obtain ⟨k, _, rfl⟩ := List.mem_map.mp h2
    have ih := ordersN_perm n o' h1
    have e : (o'.take k ++ [n] ++ o'.drop k).Perm (n :: (o'.take k ++ o'.drop k)) := by
      rw [List.append_assoc]; exact List.perm_middle
    rw [List.take_append_drop] at e
    rw [List.range_succ]
    exact e.trans ((ih.cons n).trans (List.perm_append_singleton n (List.range n)).symm)
theorem ordersN_length (n : Nat) (o : List Nat) (h : o ∈ ordersN n) : o.length = n := by
  have := (ordersN_perm n o h).length_eq
  simpa using this
theorem ordersN_lt (n : Nat) (o : List Nat) (h : o ∈ ordersN n) : ∀ k ∈ o, k < n := fun k hk => by
  have := (ordersN_perm n o h).mem_iff.mp hk
  simpa using this

/-- a row that stands in order -/
def RowOk (n : Nat) (row : List Nat) : Prop := row ∈ ordersN n ∧ row.Pairwise (Ahead ps)

/-- y is to stand behind the new place n -/
def Behind (n y : Nat) : Prop := vOf ps n * dOf ps y < vOf ps y * dOf ps n

theorem rowOk_insert {n spot : Nat} {row : List Nat} (hd : ∀ k, k ≤ n → 0 < dOf ps k) (h : RowOk ps n row) (hs : spot ≤ row.length) (h1 : ∀ t y, spot ≤ t → row[t]? = some y → Behind ps n y)
    (h2 : ∀ y, 0 < spot → row[spot - 1]? = some y → ¬ Behind ps n y) : RowOk ps (n + 1) (row.take spot ++ [n] ++ row.drop spot) := by
  obtain ⟨hm, hp⟩ := h
  have hlt := ordersN_lt n row hm
  refine ⟨List.mem_flatMap.mpr ⟨row, hm, List.mem_map.mpr ⟨spot, List.mem_range.mpr (by omega), rfl⟩⟩, ?_⟩
  have split := hp
  rw [← List.take_append_drop spot row] at split
  obtain ⟨p1, p2, p3⟩ := List.pairwise_append.mp split
  have behind : ∀ y ∈ row.drop spot, Ahead ps n y := fun y hy => by
    obtain ⟨i, hi⟩ := List.getElem?_of_mem hy
    rw [List.getElem?_drop] at hi
    exact .inl (h1 (spot + i) y (by omega) hi)
  have ahead : ∀ y ∈ row.take spot, Ahead ps y n := fun y hy => by
    rcases Nat.eq_zero_or_pos spot with h0 | h0
    · subst h0; simp at hy
    · have hlen : spot - 1 < row.length := by omega
      have hz : row[spot - 1]? = some row[spot - 1] := List.getElem?_eq_getElem hlen
      have hzm : row[spot - 1] ∈ row := List.getElem_mem hlen
      have hzn : Ahead ps row[spot - 1] n := by
        have := h2 _ h0 hz
        have hlz := hlt _ hzm
        unfold Behind at this
        unfold Ahead
        omega
      obtain ⟨i, hi⟩ := List.getElem?_of_mem hy
      rw [List.getElem?_take] at hi
      split at hi
      · rename_i his
        obtain ⟨hil, hie⟩ := List.getElem?_eq_some_iff.mp hi
        by_cases hii : i = spot - 1
        · subst hii; rw [← hie]; exact hzn
        · have hza : Ahead ps row[i] row[spot - 1] := List.pairwise_iff_getElem.mp hp i (spot - 1) hil hlen (by omega)
          rw [← hie]
          exact ahead_trans ps (hd _ (Nat.le_of_lt (hlt _ (List.getElem_mem hil)))) (hd _ (Nat.le_of_lt (hlt _ hzm))) (hd _ (Nat.le_refl _)) hza hzn
      · cases hi
  rw [List.append_assoc]
  refine List.pairwise_append.mpr ⟨p1, ?_, ?_⟩
  · rw [List.singleton_append]
    exact List.pairwise_cons.mpr ⟨behind, p2⟩
  · intro a ha b hb
    rcases List.mem_cons.mp hb with rfl | hb
    · exact ahead a ha
    · exact p3 a ha b hb

/-- the law: the row is of all the orders one of which the marks are least, and of those the first -/
theorem law_plain {n : Nat} {row : List Nat} (h : RowOk ps n row) : ∀ o ∈ ordersN n, ¬ marksOf ps o < marksOf ps row ∧ (marksOf ps o = marksOf ps row → ¬ (o.map fun k => ((k : Nat) : Int)) < row.map fun k => ((k : Nat) : Int)) := by
  intro o ho
  have hp : o.Perm row := (ordersN_perm n o ho).trans (ordersN_perm n row h.1).symm
  obtain ⟨h1, h2⟩ := row_least ps row o h.2 hp
  have iff := val_lt_iff (marksOf_marks ps o) (marksOf_marks ps row) (perm_length ps hp)
  refine ⟨fun hlt => ?_, fun e hlt => h2 ((iff.2.mp e).symm) ?_⟩
  · have := iff.1.mp hlt; omega
  · have key : ∀ a b : List Nat, (a.map fun k => ((k : Nat) : Int)) < (b.map fun k => ((k : Nat) : Int)) → a < b := by
      intro a
      induction a with
      | nil => intro b hb; cases b with
        | nil => exact absurd hb (List.lt_irrefl _)
        | cons y b => exact List.nil_lt_cons _ _
      | cons x a ih => intro b hb; cases b with
        | nil => simp at hb
        | cons y b =>
          rw [List.map_cons, List.map_cons, List.cons_lt_cons_iff] at hb
          rw [List.cons_lt_cons_iff]
          rcases hb with hb | ⟨hb, hb'⟩
          · exact .inl (by omega)
          · exact .inr ⟨by omega, ih b hb'⟩
    exact key _ _ hlt
end
end Mine
end

/-! Cp3 -/
section
open PySem PySem.W PySem.Calls PyProof.Rows
set_option maxRecDepth 100000
namespace Mine
set_option linter.unusedVariables false
set_option linter.unusedSimpArgs false

section
variable {prog : Program} {w : World} {A : Around} {E : Value → Shared → Prop} {env : Env} {s : Shared} {R : Result → Shared → Prop}

/-- the turns of a comprehension of two clauses -/
theorem turn0 (elt t1 i1 t2 i2 : Expr) (scope : Scope) (pos : Pos) (it acc : Value) (env : Env) :
    compTurn (.ListComp elt [⟨t1, i1, [], 0⟩, ⟨t2, i2, [], 0⟩] scope pos) 0 it acc env = (do
      standAt i1.pos
      match ← pyNext it with
      | none => pure (.done .next)
      | some v =>
        letOwnedTupleGo t1 it v
        assign t1 env v
        let x ← eval i2 env
        standAt i2.pos
        let x ← foldedSetIterable i2 env x
        let it' ← holding [x] (pyIter x)
        let _ ← runOwn (.compStart (.ListComp elt [⟨t1, i1, [], 0⟩, ⟨t2, i2, [], 0⟩] scope pos) 1 it' acc env) env
        again (.compLoop (.ListComp elt [⟨t1, i1, [], 0⟩, ⟨t2, i2, [], 0⟩] scope pos) 0 it acc env)) := by rfl
theorem turn1 (elt t1 i1 t2 i2 : Expr) (scope : Scope) (pos : Pos) (it acc : Value) (env : Env) :
    compTurn (.ListComp elt [⟨t1, i1, [], 0⟩, ⟨t2, i2, [], 0⟩] scope pos) 1 it acc env = (do
      standAt i2.pos
      match ← pyNext it with
      | none => pure (.done .next)
      | some v =>
        letOwnedTupleGo t2 it v
        assign t2 env v
        (do let _ ← call (.builtin "list.append") [acc, ← eval elt env])
        again (.compLoop (.ListComp elt [⟨t1, i1, [], 0⟩, ⟨t2, i2, [], 0⟩] scope pos) 1 it acc env)) := by rfl

theorem loop0 {elt i1 t2 i2 : Expr} {x : Str} {px : Pos} {scope : Scope} {pos : Pos} {it acc : Value} {env : Env} (I : Nat → Shared → Prop)
    (turn : ∀ n s E', I n s → wpAny (model prog w) A (pyNext it) (fun r s₁ => match r with
      | none => R (.ok .next) s₁
      | some v => wpAny (model prog w) A (assign (.Name x px) env v) (fun _ s₂ => wpAny (model prog w) A (eval i2 env) (fun xv s₃ => wpAny (model prog w) A (pyIter xv) (fun it' s₄ =>
          codeAny (model prog w) A (.compStart (.ListComp elt [⟨.Name x px, i1, [], 0⟩, ⟨t2, i2, [], 0⟩] scope pos) 1 it' acc env) (fun r s' => match r with | .ok _ => ∃ m, m < n ∧ I m s' | .error _ => False) s₄) E' s₃) E' s₂) E' s₁) E' s)
    (n : Nat) (h : I n s) (hs : ∀ x, foldedSetIterable i2 env x = pure x) :
    codeAny (model prog w) A (.compLoop (.ListComp elt [⟨.Name x px, i1, [], 0⟩, ⟨t2, i2, [], 0⟩] scope pos) 0 it acc env) R s := by
  refine codeAny_loop rfl I (fun n s hI => ?_) n h
  show wpAny _ A ((compTurn (.ListComp elt [⟨.Name x px, i1, [], 0⟩, ⟨t2, i2, [], 0⟩] scope pos) 0 it acc env).onRaise (fun x => do noteFrame x env; theTreesLotGoes x)) _ _ s
  refine wpAny_noted ?_
  rw [turn0]
  refine wpAny_bind (wpAny_standAt (wpAny_bind (wpAny_mono (turn n s _ hI) (fun r s₁ h₁ => ?_) fun _ _ h' => h')))
  cases r with
  | none => exact wpAny_pure h₁
  | some v =>
    refine wpAny_bind (wpAny_of_eq (show letOwnedTupleGo (.Name x px) it v = pure () from rfl) ?_)
    refine wpAny_bind (wpAny_mono h₁ (fun _ s₂ h₂ => wpAny_bind (wpAny_mono h₂ (fun xv s₃ h₃ => wpAny_bind (wpAny_standAt (wpAny_bind (wpAny_of_eq (hs xv) (wpAny_bind (wpAny_holding (wpAny_mono h₃ (fun it' s₄ h₄ => ?_) fun _ _ h' => h'))))))) fun _ _ h' => h')) fun _ _ h' => h')
    refine wpAny_bind (wpAny_runOwn (codeAny_mono h₄ fun r s' hr => ?_))
    cases r with
    | ok f => exact wpAny_pure ⟨rfl, hr⟩
    | error e => exact hr.elim

theorem loop1 {elt t1 i1 i2 : Expr} {y : Str} {py : Pos} {scope : Scope} {pos : Pos} {it acc : Value} {env : Env} (I : Nat → Shared → Prop)
    (turn : ∀ n s E', I n s → wpAny (model prog w) A (pyNext it) (fun r s₁ => match r with
      | none => R (.ok .next) s₁
      | some v => wpAny (model prog w) A (assign (.Name y py) env v) (fun _ s₂ => wpAny (model prog w) A (eval elt env) (fun yv s₃ => wpAny (model prog w) A (call (.builtin "list.append") [acc, yv]) (fun _ s₄ => ∃ m, m < n ∧ I m s₄) E' s₃) E' s₂) E' s₁) E' s)
    (n : Nat) (h : I n s) :
    codeAny (model prog w) A (.compLoop (.ListComp elt [⟨t1, i1, [], 0⟩, ⟨.Name y py, i2, [], 0⟩] scope pos) 1 it acc env) R s := by
  refine codeAny_loop rfl I (fun n s hI => ?_) n h
  show wpAny _ A ((compTurn (.ListComp elt [⟨t1, i1, [], 0⟩, ⟨.Name y py, i2, [], 0⟩] scope pos) 1 it acc env).onRaise (fun x => do noteFrame x env; theTreesLotGoes x)) _ _ s
  refine wpAny_noted ?_
  rw [turn1]
  refine wpAny_bind (wpAny_standAt (wpAny_bind (wpAny_mono (turn n s _ hI) (fun r s₁ h₁ => ?_) fun _ _ h' => h')))
  cases r with
  | none => exact wpAny_pure h₁
  | some v =>
    refine wpAny_bind (wpAny_of_eq (show letOwnedTupleGo (.Name y py) it v = pure () from rfl) ?_)
    exact wpAny_bind (wpAny_mono h₁ (fun _ s₂ h₂ => wpAny_bind (wpAny_bind (wpAny_mono h₂ (fun yv s₃ h₃ => wpAny_bind (wpAny_mono h₃ (fun _ s₄ h₄ => wpAny_pure (wpAny_pure ⟨rfl, h₄⟩)) fun _ _ h' => h')) fun _ _ h' => h'))) fun _ _ h' => h')

theorem start_any {elt t1 i1 t2 i2 : Expr} {scope : Scope} {pos : Pos} {d : Nat} {it acc : Value} {env : Env} (hd : d = 0 ∨ d = 1)
    (h0 : codeAny (model prog w) A (.compLoop (.ListComp elt [⟨t1, i1, [], 0⟩, ⟨t2, i2, [], 0⟩] scope pos) d it acc env) R s)
    (h : ∀ E', wpAny (model prog w) A (pyIter it) (fun it' s' => codeAny (model prog w) A (.compLoop (.ListComp elt [⟨t1, i1, [], 0⟩, ⟨t2, i2, [], 0⟩] scope pos) d it' acc env) R s') E' s) :
    codeAny (model prog w) A (.compStart (.ListComp elt [⟨t1, i1, [], 0⟩, ⟨t2, i2, [], 0⟩] scope pos) d it acc env) R s := by
  rcases hd with rfl | rfl
  all_goals
    refine codeAny_of_tree ?_
    show wpAny _ _ ((compStart (.ListComp elt [⟨t1, i1, [], 0⟩, ⟨t2, i2, [], 0⟩] scope pos) _ it acc env).onRaise (fun x => do noteFrame x env; standAt theWindowsPlace)) _ _ s
    refine wpAny_notedAt ?_
    unfold compStart
    show wpAny _ _ (ask >>= _) _ _ s
    refine wpAny_bind (wpAny_askSetting (wpAny_ite ?_))
    split
    · exact wpAny_pure (And.intro rfl h0)
    · refine wpAny_bind (wpAny_rule ?_)
      refine wpAny_bind (wpAny_standAt (wpAny_bind (wpAny_mono (h _) (fun it' s' h' => wpAny_pure (And.intro rfl h')) fun _ _ x => x)))
end
end Mine
end

/-! Sl1 -/
section
open PySem PySem.W PySem.Calls PyProof.Rows
set_option maxRecDepth 100000
namespace Mine
set_option linter.unusedVariables false
set_option linter.unusedSimpArgs false

section
variable {prog : Program} {w : World} {A : Around} {E : Value → Shared → Prop} {s : Shared} {env : Env}

/-- l[lower:upper], whatever l is -/
theorem slice_list {value : Expr} {lower upper : Option Expr} {p pos : Pos} {Q : Value → Shared → Prop}
    (h : wpAny (model prog w) A (eval value env) (fun o s₁ => wpAny (model prog w) A (evalPart lower env) (fun vl s₂ => wpAny (model prog w) A (evalPart upper env) (fun vu s₃ =>
      ∃ l items lo hi, o = .ref l ∧ s₃.heap.IsList l items ∧ items.size ≤ sizeLine ∧ IsPart vl lo ∧ IsPart vu hi ∧ ∀ a s', Keeps s₃ s' → s₃.heap.get? a = none → s'.heap.PlainList a (slicePick items lo hi none) → Q (.ref a) s') E s₂) E s₁) E s) :
    wpAny (model prog w) A (eval (.Subscript value (.Slice lower upper none p) pos) env) Q E s := by
  rw [eval_Subscript]
  refine wpAny_bind (wpAny_mono h (fun o s₁ h₁ => wpAny_bind (wpAny_holding (wpAny_Slice (wpAny_mono h₁ (fun vl s₂ h₂ => wpAny_mono h₂ (fun vu s₃ h₃ => ?_) fun _ _ x => x) fun _ _ x => x)))) fun _ _ x => x)
  obtain ⟨l, items, lo, hi, rfl, hl, hsz, pl, pu, hQ⟩ := h₃
  rw [evalPart_none]
  refine wpAny_pure (wpAny_bind (wpAny_standAt (wpAny_bind ?_)))
  have hT : Shared.TypeIs { s₃ with heap := s₃.heap.push { cls := .type "slice", data := .fields #[vl, vu, .none] } } (.ref l) "list" := Heap.IsList.typeIs (s := { s₃ with heap := s₃.heap.push { cls := .type "slice", data := .fields #[vl, vu, .none] } }) (hl.push _)
  rw [getitemInPython_of_ne hT.not_modules]
  refine wpAny_bind (wpAny_specialOf hT list_getitem_lookup ?_)
  refine wpAny_pure (wpAny_bind ?_)
  show wpAny _ A (operate [.ref s₃.heap.objs.size, .ref l] (getItem (.ref l) (.ref s₃.heap.objs.size))) _ E _
  refine wpAny_operating (wpAny_getItem_list_slice (hl.push _) (Heap.IsSliceOf.new ..) pl pu .none (by simp) (wpAny_bind (wpAny_letTemporaryGo (wpAny_pure ?_))) hsz)
  exact hQ _ _ ⟨_, _, rfl, (push_keeps _ _).trans (push_keeps _ _)⟩ ((push_keeps _ _).none (fresh_none _)) ⟨_, Heap.get?_push_size _ rfl⟩

theorem add_lists {l b : Addr} {xs ys : Array Value} {Q : Value → Shared → Prop} (hl : s.heap.PlainList l xs) (hb : s.heap.PlainList b ys) (hz : xs.size + ys.size ≤ sizeLine)
    (h : ∀ a s', Keeps s s' → s.heap.get? a = none → s'.heap.PlainList a (xs ++ ys) → Q (.ref a) s') : wpAny (model prog w) A (binaryOp .Add (.ref l) (.ref b)) Q E s := by
  obtain ⟨n, e1⟩ := hl
  obtain ⟨n2, e2⟩ := hb
  exact P.add_list e1 e2 (h _ _ ⟨_, _, rfl, push_keeps _ _⟩ (fresh_none _) ⟨_, Heap.get?_push_size _ rfl⟩) hz

theorem disp1 {e : Expr} {pos : Pos} {Q : Value → Shared → Prop} (hs : starEach [e] env = [(false, eval e env)])
    (h : wpAny (model prog w) A (eval e env) (fun v s₁ => ∀ a s', Keeps s₁ s' → s₁.heap.get? a = none → s'.heap.PlainList a [v].toArray → Q (.ref a) s') E s) : wpAny (model prog w) A (eval (.List [e] pos) env) Q E s := by
  refine List_ ?_
  rw [hs]
  exact spliced_cons (wpAny_mono h (fun v s₁ h₁ => spliced_nil (wpAny_newList (h₁ _ _ ⟨_, _, rfl, push_keeps _ _⟩ (fresh_none _) ⟨_, Heap.get?_push_size _ rfl⟩))) fun _ _ x => x)
theorem disp2 {e e' : Expr} {pos : Pos} {Q : Value → Shared → Prop} (hs : starEach [e, e'] env = [(false, eval e env), (false, eval e' env)])
    (h : wpAny (model prog w) A (eval e env) (fun v s₁ => wpAny (model prog w) A (eval e' env) (fun v' s₂ => ∀ a s', Keeps s₂ s' → s₂.heap.get? a = none → s'.heap.PlainList a [v, v'].toArray → Q (.ref a) s') E s₁) E s) : wpAny (model prog w) A (eval (.List [e, e'] pos) env) Q E s := by
  refine List_ ?_
  rw [hs]
  exact spliced_cons (wpAny_mono h (fun v s₁ h₁ => spliced_cons (wpAny_mono h₁ (fun v' s₂ h₂ => spliced_nil (wpAny_newList (h₂ _ _ ⟨_, _, rfl, push_keeps _ _⟩ (fresh_none _) ⟨_, Heap.get?_push_size _ rfl⟩))) fun _ _ x => x)) fun _ _ x => x)

theorem IntsAre.take {vs : List Value} {ns : List Int} (h : IntsAre vs ns) : ∀ k, IntsAre (vs.take k) (ns.take k) := by
  induction h with
  | nil => intro k; simp; exact .nil
  | cons a t r ih => intro k; cases k with
    | zero => exact .nil
    | succ k => exact .cons _ _ (ih k)
theorem IntsAre.drop {vs : List Value} {ns : List Int} (h : IntsAre vs ns) : ∀ k, IntsAre (vs.drop k) (ns.drop k) := by
  induction h with
  | nil => intro k; simp; exact .nil
  | cons a t r ih => intro k; cases k with
    | zero => exact .cons _ _ r
    | succ k => exact ih k
theorem IntsAre.app {vs ws : List Value} {ns ms : List Int} (h : IntsAre vs ns) (h' : IntsAre ws ms) : IntsAre (vs ++ ws) (ns ++ ms) := by
  induction h with
  | nil => exact h'
  | cons a t r ih => exact .cons _ _ ih

/-- o[:k] + [p] + o[k:] -/
theorem ins_eval {xo xk xp : Str} {p1 p2 p3 p4 p5 p6 p7 p8 p9 q1 q2 q3 q4 : Pos} {V : List Addr} {B : Heap} {m cm : Str → Option Value} {a c : Addr} {o : List Nat} {k n : Nat} {tk tp : Tok} {Q : Value → Shared → Prop} (F : Fm env V B m cm s.heap) (hf : env.scope.kind = .function)
    (h1 : env.kindOf xo = some .local) (h2 : env.kindOf xk = some .local) (h3 : env.kindOf xp = some .cell) (h4 : env.cells.lookup xp = some c) (m1 : m xo = some (.ref a)) (m2 : m xk = some (.int k tk)) (m3 : cm xp = some (.int n tp)) (hs : starEach [.Name xp q1] env = [(false, eval (.Name xp q1) env)])
    (hd1 : (xo == ("__debug__" : Str)) = false) (hd2 : (xk == ("__debug__" : Str)) = false) (hd3 : (xp == ("__debug__" : Str)) = false)
    (ho : OrderAt s.heap a o) (hlen : o.length ≤ 100)
    (h : ∀ b s', Keeps s s' → s.heap.get? b = none → OrderAt s'.heap b (o.take k ++ [n] ++ o.drop k) → Q (.ref b) s') :
    wpAny (model prog w) A (eval (.BinOp (.BinOp (.Subscript (.Name xo p1) (.Slice none (some (.Name xk p2)) none p3) p4) .Add (.List [.Name xp q1] p5) p6) .Add (.Subscript (.Name xo p7) (.Slice (some (.Name xk p8)) none none p9) q2) q3) env) Q E s := by
  obtain ⟨vs, e1, e2⟩ := ho
  have hvl : vs.length = o.length := by have := e2.length; simpa using this
  have hz : vs.toArray.size ≤ sizeLine := by rw [sizeLine_eq]; simp only [List.size_toArray]; omega
  refine wpAny_BinOp (wpAny_BinOp (slice_list (nameL F hf h1 m1 (wpAny_pure (nameL F hf h2 m2 ⟨a, vs.toArray, none, some (k : Int), rfl, e1.isList, hz, .none, .int _ _, fun a₁ s₁ K₁ n₁ I₁ => ?_⟩ hd2)) hd1)))
  refine disp1 hs (nameC (F.kept (Keeps.heap K₁)) hf h3 h4 m3 (fun a₂ s₂ K₂ n₂ I₂ => ?_) hd3)
  rw [slicePick_upto'] at I₁
  refine add_lists (I₁.at fun o e => Keeps.heap K₂ _ o e) I₂ ?_ fun a₃ s₃ K₃ n₃ I₃ => ?_
  · rw [sizeLine_eq]; simp only [List.size_toArray, List.length_take, List.length_cons, List.length_nil]; omega
  have K13 : Keeps s s₃ := Mine.Keeps.trans (Mine.Keeps.trans K₁ K₂) K₃
  refine slice_list (nameL (F.kept (Keeps.heap K13)) hf h1 m1 (nameL (F.kept (Keeps.heap K13)) hf h2 m2 (wpAny_pure ⟨a, vs.toArray, some (k : Int), none, rfl, (e1.at fun o e => Keeps.heap K13 _ o e).isList, hz, .int _ _, .none, fun a₄ s₄ K₄ n₄ I₄ => ?_⟩) hd2) hd1)
  rw [slicePick_from'] at I₄
  refine add_lists (I₃.at fun o e => Keeps.heap K₄ _ o e) I₄ ?_ fun a₅ s₅ K₅ n₅ I₅ => ?_
  · rw [sizeLine_eq]; simp only [List.append_toArray, List.size_toArray, List.length_append, List.length_take, List.length_drop, List.length_cons, List.length_nil]; omega
  refine h a₅ s₅ (Mine.Keeps.trans K13 (Mine.Keeps.trans K₄ K₅)) ((Keeps.heap (Mine.Keeps.trans K13 K₄)).none n₅) ⟨vs.take k ++ [.int n tp] ++ vs.drop k, by simpa using I₅, ?_⟩
  rw [List.map_append, List.map_append, List.map_take, List.map_drop]
  exact IntsAre.app (IntsAre.app (IntsAre.take e2 k) (.cons _ _ .nil)) (IntsAre.drop e2 k)
end
end Mine
end

/-! Cp4 -/
section
open PySem PySem.W PySem.Calls PyProof.Rows
set_option maxRecDepth 100000
namespace Mine
set_option linter.unusedVariables false
set_option linter.unusedSimpArgs false

section
variable {prog : Program} {w : World} {A : Around} {E : Value → Shared → Prop} {env : Env} {R : Result → Shared → Prop} {s : Shared}

/-- the inner loop: over a range -/
theorem comp_inner {elt t1 i1 i2 : Expr} {y : Str} {py : Pos} {scope : Scope} {cl : List (Str × Addr)} {pos : Pos} {I D C : Addr} {n : Nat} {B : Heap} {m cm : Str → Option Value} {ys₀ : List Value}
    {J : Nat → List Value → Heap → Prop} {Mx : (Str → Option Value) → Prop} (hh : A.handled = none)
    (hk : (cEnv scope cl C env).scope.kind = .function) (hy : (cEnv scope cl C env).kindOf y = some .local) (F : Fm (cEnv scope cl C env) [D] B m cm s.heap) (hB : B.get? I = none) (hI : I ∉ hidden (cEnv scope cl C env) [D])
    (st : IsRangeIter s.heap I 0 n 1) (hD : s.heap.PlainList D ys₀.toArray) (hM : Mx m) (hMu : ∀ m v, Mx m → Mx (upd m y v)) (stab : ∀ i ys h h', ListsBut D h h' → J i ys h → J i ys h') (hJl : ∀ i ys h, J i ys h → ys.length ≤ 1000000) (h0 : J 0 ys₀ s.heap)
    (step : ∀ j ys s₃ B' m₃ tk E', j < n → J j ys s₃.heap → KeepsH B B' → Fm (cEnv scope cl C env) [D] B' (upd m₃ y (.int j tk)) cm s₃.heap → Mx m₃ → (∀ a items, a ≠ D → s₃.heap.PlainList a items → B'.PlainList a items) → (∃ o, s₃.heap.get? D = some o) →
      wpAny (model prog w) A (eval elt (cEnv scope cl C env)) (fun yv s₅ => Keeps s₃ s₅ ∧ J (j + 1) (ys ++ [yv]) s₅.heap) E' s₃)
    (done : ∀ m' ys s', Rest s s' → Fm (cEnv scope cl C env) [D] B m' cm s'.heap → s'.heap.PlainList D ys.toArray → J n ys s'.heap → (∀ b o, b ≠ C → b ≠ D → b ≠ I → s.heap.get? b = some o → s'.heap.get? b = some o) → R (.ok .next) s') :
    codeAny (model prog w) A (.compLoop (.ListComp elt [⟨t1, i1, [], 0⟩, ⟨.Name y py, i2, [], 0⟩] scope pos) 1 (.ref I) (.ref D) (cEnv scope cl C env)) R s := by
  have W := Walks.range (prog := prog) (w := w) hh I 0 1 n
  have hwf : ∀ a ∈ [I], a ∉ hidden (cEnv scope cl C env) [D] := fun a ha => by rw [List.mem_singleton.mp ha]; exact hI
  have hBw : ∀ a ∈ [I], B.get? a = none := fun a ha => by rw [List.mem_singleton.mp ha]; exact hB
  have hID : I ≠ D := fun e => hI (e ▸ mem_hiddenV (List.mem_singleton.mpr rfl))
  have notl : ∀ i h items, IsRangeIter h I (0 + ((i : Nat) : Int) * 1) ((n : Int) - (i : Nat)) 1 → ¬ h.PlainList I items := fun i h items st p => by
    obtain ⟨k, e⟩ := p
    have st' : h.get? _ = some _ := st
    rw [st'] at e
    have e1 := congrArg (fun o => o.map (·.cls)) e
    simp only [Option.map_some] at e1
    exact absurd e1 (by decide)
  have st0 : IsRangeIter s.heap I (0 + ((0 : Nat) : Int) * 1) ((n : Int) - (0 : Nat)) 1 := by
    have e1 : (0 : Int) + ((0 : Nat) : Int) * 1 = 0 := by omega
    have e2 : (n : Int) - ((0 : Nat) : Int) = n := by omega
    rw [e1, e2]; exact st
  refine loop1 (fun k s' => ∃ i m' ys, Rest s s' ∧ Fm (cEnv scope cl C env) [D] B m' cm s'.heap ∧ Mx m' ∧ IsRangeIter s'.heap I (0 + ((i : Nat) : Int) * 1) ((n : Int) - (i : Nat)) 1 ∧ s'.heap.PlainList D ys.toArray ∧ J i ys s'.heap ∧
    (∀ b o, b ≠ C → b ≠ D → b ≠ I → s.heap.get? b = some o → s'.heap.get? b = some o) ∧ i ≤ n ∧ k = n + 1 - i) ?_ (n + 1) ⟨0, m, ys₀, .refl _, F, hM, st0, hD, h0, fun b o _ _ _ e => e, Nat.zero_le _, rfl⟩
  rintro k s' E' ⟨i, m', ys, rs, F', hM', st', hD', hJ, ho', hi, rfl⟩
  by_cases hlt : i < n
  · refine W.item i s' _ _ hlt st' ?_
    rintro v h₂ tk₂ ⟨tv, rfl⟩ st₂ k₂
    have ev : ((0 : Int) + (i : Nat) * 1) = (i : Nat) := by omega
    rw [ev]
    have F₂ := F'.off hwf hBw k₂
    have L₂ : Lists s'.heap h₂ := fun a items p => p.at fun o e => k₂ a o (fun hm => notl i _ items st' (List.mem_singleton.mp hm ▸ p)) e
    refine wpAny_assign_Name (storeL (s := { s' with heap := h₂, toks := tk₂ }) F₂ hk hy fun h₃ F₃ sb₃ => ?_)
    have L₃ : Lists h₂ h₃ := (Stores.local (V := [D]) hy).not_list (s := { s' with heap := h₂, toks := tk₂ }) F₂ sb₃
    have st₃ := W.frame (i + 1) h₂ h₃ st₂ fun b hb o e => sb₃.extBut b o (fun q => hwf b hb (q ▸ mem_hiddenL)) e
    have hJ₃ : J i ys h₃ := stab _ _ _ _ (fun a items _ p => L₃ _ _ (L₂ _ _ p)) hJ
    have hD₃ := L₃ _ _ (L₂ _ _ hD')
    obtain ⟨KB, FB⟩ := F₃.rebase [D] F₃.freeV
    obtain ⟨nD, eD⟩ := id hD₃
    refine wpAny_mono (step i ys { s' with heap := h₃, toks := tk₂ + 1 } _ m' tv _ hlt hJ₃ KB FB hM' (fun a items ha p => F₃.plain [D] p (fun hm => ha (List.mem_singleton.mp hm))) ⟨_, eD⟩) (fun yv s₅ h₅ => ?_) fun _ _ e => e
    obtain ⟨K₅, hJ₅⟩ := h₅
    have hD₅ := hD₃.at fun o e => Keeps.heap K₅ _ o e
    have hyl := hJl _ _ _ hJ
    refine wpAny_list_append_plain hD₅ (fun h₆ I₆ sb₆ => ?_) (by rw [sizeLine_eq]; simp only [List.size_toArray]; omega)
    refine ⟨n + 1 - (i + 1), by omega, i + 1, _, ys ++ [yv], ((rs.trans .mk).trans (Keeps.rest K₅)).trans .heap, ((F₃.kept (Keeps.heap K₅))).setV (List.mem_singleton.mpr rfl) hD₅ sb₆, hMu _ _ hM', ?_, by simpa using I₆, ?_, ?_, hlt, rfl⟩
    · exact W.frame (i + 1) h₃ h₆ st₃ fun b hb o e => sb₆.extBut b o (fun q => hID (q ▸ (List.mem_singleton.mp hb).symm)) (Keeps.heap K₅ b o e)
    · exact stab _ _ _ _ (fun a items ha p => p.extBut sb₆.extBut ha) hJ₅
    · intro b o b1 b2 b3 e
      exact sb₆.extBut b o b2 (Keeps.heap K₅ b o (sb₃.extBut b o b1 (k₂ b o (fun hm => b3 (List.mem_singleton.mp hm)) (ho' b o b1 b2 b3 e))))
  · have hin : i = n := by omega
    subst hin
    refine W.done s' _ _ st' fun h₂ tk₂ k₂ => ?_
    have F₂ := F'.off hwf hBw k₂
    have L₂ : Lists s'.heap h₂ := fun a items p => p.at fun o e => k₂ a o (fun hm => notl i _ items st' (List.mem_singleton.mp hm ▸ p)) e
    exact done m' ys _ (rs.trans .mk) F₂ (L₂ _ _ hD') (stab _ _ _ _ (fun a items _ p => L₂ _ _ p) hJ) fun b o b1 b2 b3 e => k₂ b o (fun hm => b3 (List.mem_singleton.mp hm)) (ho' b o b1 b2 b3 e)
end
end Mine
end

/-! Cp5 -/
section
open PySem PySem.W PySem.Calls PyProof.Rows
set_option maxRecDepth 100000
namespace Mine
set_option linter.unusedVariables false
set_option linter.unusedSimpArgs false

section
variable {prog : Program} {w : World} {A : Around} {E : Value → Shared → Prop} {env : Env} {s : Shared}

/-- a comprehension of two clauses, over a list and over a range -/
structure CompT (prog : Program) (w : World) (A : Around) (env : Env) (scope : Scope) (cl : List (Str × Addr)) (x y : Str) (i2 elt : Expr) (items : Array Value) (cm : Str → Option Value) (ni : Nat → Nat)
    (Jo : Addr → Nat → List Value → Heap → Prop) (Ji : Addr → Nat → Nat → List Value → Heap → Prop) (s₁ : Shared) : Prop where
  cells : ∀ nm c, (nm, c) ∈ cl → s₁.heap.IsCell c (cm nm)
  apart : cl.Pairwise fun x y => x.2 ≠ y.2
  one : ∀ nm c c', (nm, c) ∈ cl → (nm, c') ∈ cl → c' = c
  stabO : ∀ D i ys h h', ListsBut D h h' → Jo D i ys h → Jo D i ys h'
  stabI : ∀ D i j ys h h', ListsBut D h h' → Ji D i j ys h → Ji D i j ys h'
  lenI : ∀ D i j ys h, Ji D i j ys h → ys.length ≤ 1000000
  start : ∀ D h', KeepsH s₁.heap h' → D ∉ [D].tail → s₁.heap.get? D = none → Jo D 0 [] h'
  ostep : ∀ i v ys s₃ C D B m₃ E', items[i]? = some v → Jo D i ys s₃.heap → Keeps s₁ s₃ → s₁.heap.get? D = none → (∃ o, s₃.heap.get? D = some o) →
    Fm (cEnv scope cl C env) [D] B (upd m₃ x v) cm s₃.heap → (∀ a its, a ≠ D → s₃.heap.PlainList a its → B.PlainList a its) →
    wpAny (model prog w) A (eval i2 (cEnv scope cl C env)) (fun xv s₄ => ∃ r t u v', xv = .ref r ∧ Keeps s₃ s₄ ∧ IsRange s₄.heap r 0 (ni i) 1 t u v' ∧ ni i < 1000000 ∧ Ji D i 0 ys s₄.heap) E' s₃
  link : ∀ D i ys h, i < items.size → Ji D i (ni i) ys h → Jo D (i + 1) ys h
  istep : ∀ i v j ys s₅ C D B m₅ tk E', items[i]? = some v → j < ni i → Ji D i j ys s₅.heap → (∃ o, s₅.heap.get? D = some o) →
    Fm (cEnv scope cl C env) [D] B (upd m₅ y (.int j tk)) cm s₅.heap → m₅ x = some v → (∀ a its, a ≠ D → s₅.heap.PlainList a its → B.PlainList a its) →
    wpAny (model prog w) A (eval elt (cEnv scope cl C env)) (fun yv s₆ => Keeps s₅ s₆ ∧ Ji D i (j + 1) (ys ++ [yv]) s₆.heap) E' s₅

theorem comp_two {elt i1 i2 : Expr} {x y : Str} {px py : Pos} {scope : Scope} {cl : List (Str × Addr)} {pos : Pos} {ax : Addr} {items : Array Value} {cm : Str → Option Value} {ni : Nat → Nat}
    {Jo : Addr → Nat → List Value → Heap → Prop} {Ji : Addr → Nat → Nat → List Value → Heap → Prop} {RR : Value → Addr → Result → Shared → Prop}
    (hh : A.handled = none) (hcell : ∀ y ∈ scope.names, y.2 ≠ .cell) (hkind : scope.kind = .function) (hx : scope.names.lookup x = some .local) (hy : scope.names.lookup y = some .local) (hxy : x ≠ y) (hl : s.heap.IsList ax items)
    (hs2 : ∀ C v, foldedSetIterable i2 (cEnv scope cl C env) v = pure v)
    (ok : CompT prog w A env scope cl x y i2 elt items cm ni Jo Ji s)
    (hRR : ∀ D C s' m' ys, Keeps s s' → s.heap.get? D = none → s.heap.get? C = none → D ≠ C → s'.heap.Ns C m' → s'.heap.PlainList D ys.toArray → Jo D items.size ys s'.heap → RR (.ref D) C (.ok .next) s') :
    wpAny (model prog w) A (pyIter (.ref ax)) (fun it s₂ => wpAny (model prog w) A (newList []) (fun acc s₃ => wpAny (model prog w) A (newFunctionEnv scope env.globals cl [] env.qual none .none (some env)) (fun cenv s₄ =>
      codeAny (model prog w) A (.compStart (.ListComp elt [⟨.Name x px, i1, [], 0⟩, ⟨.Name y py, i2, [], 0⟩] scope pos) 0 it acc { cenv with scope := relabel scope env }) (RR acc cenv.locals) s₄) E s₃) E s₂) E s := by
  refine wpAny_pyIter_list hl ?_
  obtain ⟨oa, hoa, _⟩ := id hl
  have hlta : ax < s.heap.objs.size := Heap.lt_size hoa
  have hne : ax ≠ s.heap.objs.size := Nat.ne_of_lt hlta
  have W := Walks.list (prog := prog) (w := w) (A := A) hh s.heap.objs.size ax hne items
  have hst : (s.heap.push { cls := .type "list_iterator", data := .fields #[.ref ax, .int 0 0] }).IsListIter s.heap.objs.size ax 0 ∧ (s.heap.push { cls := .type "list_iterator", data := .fields #[.ref ax, .int 0 0] }).IsList ax items := ⟨⟨_, Heap.get?_push_size _ rfl, rfl, rfl⟩, hl.push _⟩
  have hsz1 : (s.heap.push { cls := .type "list_iterator", data := .fields #[.ref ax, .int 0 0] }).objs.size = s.heap.objs.size + 1 := Heap.size_push ..
  have K01 : KeepsH s.heap (s.heap.push { cls := .type "list_iterator", data := .fields #[.ref ax, .int 0 0] }) := push_keeps _ _
  have hoff : ∀ h' : Heap, (∀ b o, b ≠ s.heap.objs.size → (s.heap.push { cls := .type "list_iterator", data := .fields #[.ref ax, .int 0 0] }).get? b = some o → h'.get? b = some o) → KeepsH s.heap h' := fun h' k b o e => k b o (fun q => by rw [q, fresh_none] at e; cases e) (K01 b o e)
  generalize hH1 : s.heap.push { cls := .type "list_iterator", data := .fields #[.ref ax, .int 0 0] } = H1 at hst hsz1 K01 hoff ⊢
  have hI0 : s.heap.get? s.heap.objs.size = none := fresh_none _
  generalize hId : s.heap.objs.size = I at *
  refine wpAny_newList (wpAny_newFunctionEnv hcell (by intro y hy; simp at hy) (fun h₁ hns₁ hsb₁ => ?_) hkind)
  dsimp only at hns₁ hsb₁ ⊢
  generalize hH2 : H1.push { cls := .type "list", data := .seq ([] : List Value).toArray } = H2 at hns₁ hsb₁ ⊢
  have hC : H2.objs.size = H1.objs.size + 1 := by rw [← hH2, Heap.size_push]
  have hDC : H1.objs.size ≠ H2.objs.size := by rw [hC]; exact Nat.ne_of_lt (Nat.lt_succ_self _)
  have below : ∀ b, b < H1.objs.size → b ≠ H2.objs.size ∧ b ≠ H1.objs.size := fun b hb => ⟨by rw [hC]; exact Nat.ne_of_lt (Nat.lt_succ_of_lt hb), Nat.ne_of_lt hb⟩
  have old : ∀ b o, H1.get? b = some o → h₁.get? b = some o := fun b o e => hsb₁.extBut b o (below b (Heap.lt_size e)).1 (Heap.get?_push_of_some _ (hH2 ▸ Heap.get?_push_of_some _ e))
  have hacc : h₁.PlainList H1.objs.size #[] := ⟨_, hsb₁.extBut _ _ hDC (Heap.get?_push_of_some _ (hH2 ▸ Heap.get?_push_size _ rfl))⟩
  have hst₁ : h₁.IsListIter I ax 0 ∧ h₁.IsList ax items := ⟨hst.1.at fun o e => old _ o e, hst.2.at fun o e => old _ o e⟩
  have fresh : ∀ a, H1.objs.size ≤ a → H1.get? a = none := fun a ha => by
    cases e : H1.get? a with
    | none => rfl
    | some o' => exact absurd (Heap.lt_size e) (Nat.not_lt.mpr ha)
  have freshC := fresh H2.objs.size (by rw [hC]; exact Nat.le_succ _)
  have freshD := fresh H1.objs.size (Nat.le_refl _)
  obtain ⟨oI, hoI, hcI, _⟩ := id hst.1
  have hDI : I ≠ H1.objs.size := Nat.ne_of_lt (Heap.lt_size hoI)
  have hCI : I ≠ H2.objs.size := (below I (Heap.lt_size hoI)).1
  obtain ⟨oax, hoax, _⟩ := id hst.2
  have haxD : ax ≠ H1.objs.size := Nat.ne_of_lt (Heap.lt_size hoax)
  have haxC : ax ≠ H2.objs.size := (below ax (Heap.lt_size hoax)).1
  generalize hDd : H1.objs.size = D at *
  generalize hCd : H2.objs.size = C at *
  have hcl : ∀ nm c, (nm, c) ∈ cl → H1.IsCell c (cm nm) ∧ c ≠ I ∧ c ≠ ax ∧ c ≠ C ∧ c ≠ D := fun nm c hm => by
    have h0 := ok.cells nm c hm
    have h1 := h0.keeps K01
    refine ⟨h1, ?_, ?_, ?_, ?_⟩
    · rintro rfl; obtain ⟨o, ho, _⟩ := h0; rw [hI0] at ho; cases ho
    · rintro rfl; exact IsCell.not_list h0 hl
    · rintro rfl; obtain ⟨o, ho, _⟩ := h1; rw [freshC] at ho; cases ho
    · rintro rfl; obtain ⟨o, ho, _⟩ := h1; rw [freshD] at ho; cases ho
  let Bs := hideAll H1 (I :: cl.map (·.2))
  have hBs : KeepsH Bs H1 := fun b o e => of_hideAll _ e
  have hBI : Bs.get? I = none := hideAll_none _ List.mem_cons_self
  have hBcl : ∀ nm c, (nm, c) ∈ cl → Bs.get? c = none := fun nm c hm => hideAll_none _ (List.mem_cons_of_mem _ (List.mem_map.mpr ⟨(nm, c), hm, rfl⟩))
  have hx' : (cEnv scope cl C env).kindOf x = some .local := lookup_relabel_local hx
  have hy' : (cEnv scope cl C env).kindOf y = some .local := lookup_relabel_local hy
  have hk' : (cEnv scope cl C env).scope.kind = .function := hkind
  have F₁ : Fm (cEnv scope cl C env) [D] Bs (fun x => ([] : List (Str × Value)).reverse.lookup x) cm h₁ :=
    ⟨hns₁, fun b o e => old b o (hBs b o e), fun nm c hm => (hcl nm c hm).1.keeps old, ok.apart, ok.one, fun nm c hm => (hcl nm c hm).2.2.2.1, hBs.none freshC, hBcl, fun a ha => by rw [List.mem_singleton.mp ha]; exact hBs.none freshD⟩
  have hidI : ∀ a, a = I ∨ a = ax → a ∉ hidden (cEnv scope cl C env) [D] := fun a ha hm => by
    rcases List.mem_cons.mp hm with e | hm
    · have e : a = C := e
      rcases ha with rfl | rfl
      · exact hCI e
      · exact haxC e
    · rcases List.mem_append.mp hm with hm | hm
      · obtain ⟨⟨nm, c⟩, hm, e⟩ := List.mem_map.mp hm
        have e : c = a := e
        rcases ha with rfl | rfl
        · exact (hcl nm c hm).2.1 e
        · exact (hcl nm c hm).2.2.1 e
      · rw [List.mem_singleton.mp hm] at ha
        rcases ha with e | e
        · exact hDI e.symm
        · exact haxD e.symm
  have notI : ∀ (h : Heap) (i : Nat) (its : Array Value), h.IsListIter I ax i → ¬ h.PlainList I its := fun h i its st p => by
    obtain ⟨o, ho, hc, _⟩ := st
    obtain ⟨n, e⟩ := p
    rw [ho] at e
    have e1 := congrArg (fun o => o.map (·.cls)) e
    simp only [Option.map_some, hc] at e1
    exact absurd e1 (by decide)
  have loop : ∀ s₃ : Shared, s₃ = { s with heap := h₁, toks := s.toks + ([] : List (Str × Value)).length } →
      codeAny (model prog w) A (.compLoop (.ListComp elt [⟨.Name x px, i1, [], 0⟩, ⟨.Name y py, i2, [], 0⟩] scope pos) 0 (.ref I) (.ref D) (cEnv scope cl C env)) (RR (.ref D) C) s₃ := by
    rintro s₃ rfl
    refine loop0 (fun k s' => ∃ i m' ys, Rest s s' ∧ Fm (cEnv scope cl C env) [D] Bs m' cm s'.heap ∧ s'.heap.IsListIter I ax i ∧ s'.heap.IsList ax items ∧ s'.heap.PlainList D ys.toArray ∧ Jo D i ys s'.heap ∧
      (∀ b o, b ≠ I → H1.get? b = some o → s'.heap.get? b = some o) ∧ i ≤ items.size ∧ k = items.size + 1 - i) ?_ (items.size + 1)
      ⟨0, _, [], .mk, F₁, hst₁.1, hst₁.2, hacc, ok.start D h₁ (K01.trans old) (by simp) (K01.none freshD), fun b o _ e => old b o e, Nat.zero_le _, rfl⟩ (hs2 C)
    rintro k s' E' ⟨i, m', ys, rs, F', st', sl', hD', hJ, ho', hi, rfl⟩
    by_cases hlt : i < items.size
    · obtain ⟨v, hv⟩ : ∃ v, items[i]? = some v := ⟨_, Array.getElem?_eq_getElem hlt⟩
      refine wpAny_pyNext_list_item st' sl' hv fun h₂ st₂ sb₂ => ?_
      have F₂ : Fm (cEnv scope cl C env) [D] Bs m' cm h₂ := F'.off (wr := [I]) (fun a ha => hidI a (.inl (List.mem_singleton.mp ha))) (fun a ha => by rw [List.mem_singleton.mp ha]; exact hBI) fun b o hb e => sb₂.extBut b o (fun q => hb (List.mem_singleton.mpr q)) e
      have L₂ : Lists s'.heap h₂ := fun a its p => p.extBut sb₂.extBut fun q => notI _ _ its st' (q ▸ p)
      refine wpAny_assign_Name (storeL (s := { s' with heap := h₂ }) F₂ hk' hx' fun h₃ F₃ sb₃ => ?_)
      have L₃ : Lists h₂ h₃ := (Stores.local (V := [D]) hx').not_list (s := { s' with heap := h₂ }) F₂ sb₃
      have st₃ : h₃.IsListIter I ax (i + 1) := st₂.extBut sb₃.extBut hCI
      have sl₃ : h₃.IsList ax items := (sl'.extBut sb₂.extBut hne).extBut sb₃.extBut haxC
      have hJ₃ : Jo D i ys h₃ := ok.stabO _ _ _ _ _ (fun a its _ p => L₃ _ _ (L₂ _ _ p)) hJ
      have ho₃ : ∀ b o, b ≠ I → H1.get? b = some o → h₃.get? b = some o := fun b o hb e => sb₃.extBut b o (fun q => by rw [show (cEnv scope cl C env).locals = C from rfl] at q; rw [q, freshC] at e; cases e) (sb₂.extBut b o hb (ho' b o hb e))
      have hD₃ := L₃ _ _ (L₂ _ _ hD')
      obtain ⟨KB, FB⟩ := F₃.rebase [D] F₃.freeV
      obtain ⟨nD, eD⟩ := id hD₃
      have K₃ : Keeps s { s' with heap := h₃, toks := s'.toks + 1 } := Mine.Keeps.of (rs.trans .mk) (hoff _ ho₃)
      refine wpAny_mono (ok.ostep i v ys { s' with heap := h₃, toks := s'.toks + 1 } C D _ m' _ hv hJ₃ K₃ (K01.none freshD) ⟨_, eD⟩ FB (fun a its ha p => F₃.plain [D] p (fun hm => ha (List.mem_singleton.mp hm)))) (fun xv s₄ h₄ => ?_) fun _ _ e => e
      obtain ⟨r, t, u, v', rfl, K₄, hr, hn, hJ₄⟩ := h₄
      refine wpAny_pyIter_range hr (small_one (by decide) (by decide) (by omega) (by omega)) ?_
      have esz : Builtin.Range.rangeSize 0 (ni i) 1 = ni i := by rw [rangeSize_one]; split <;> omega
      rw [esz]
      -- the base of the inner loop: all that stands, but the iterators, the frame's own and D
      have F₄ : Fm (cEnv scope cl C env) [D] Bs (upd m' x v) cm s₄.heap := F₃.kept (Keeps.heap K₄)
      have hI1n : s₄.heap.get? s₄.heap.objs.size = none := fresh_none _
      have hidI1 : s₄.heap.objs.size ∉ hidden (cEnv scope cl C env) [D] := F₄.fresh fun a ha => by
        rw [List.mem_singleton.mp ha]; exact ⟨_, Keeps.heap K₄ _ _ eD⟩
      have hD₄ := hD₃.at fun o e => Keeps.heap K₄ _ o e
      have inner : ∀ s₅ : Shared, s₅ = { s₄ with heap := s₄.heap.push { cls := .type "range_iterator", data := .fields #[rawInt 0, rawInt (ni i), rawInt 1] } } →
          codeAny (model prog w) A (.compLoop (.ListComp elt [⟨.Name x px, i1, [], 0⟩, ⟨.Name y py, i2, [], 0⟩] scope pos) 1 (.ref s₄.heap.objs.size) (.ref D) (cEnv scope cl C env)) (fun r s' => match r with
            | .ok _ => ∃ m, m < items.size + 1 - i ∧ ∃ i m' ys, Rest s s' ∧ Fm (cEnv scope cl C env) [D] Bs m' cm s'.heap ∧ s'.heap.IsListIter I ax i ∧ s'.heap.IsList ax items ∧ s'.heap.PlainList D ys.toArray ∧ Jo D i ys s'.heap ∧
              (∀ b o, b ≠ I → H1.get? b = some o → s'.heap.get? b = some o) ∧ i ≤ items.size ∧ m = items.size + 1 - i
            | .error _ => False) s₅ := by
        rintro s₅ rfl
        refine comp_inner (B := Bs) (m := upd m' x v) (J := fun j ys h => Ji D i j ys h) (Mx := fun m => m x = some v) hh hk' hy' (F₄.kept (push_keeps _ _)) (F₄.keep.none hI1n) hidI1 (Heap.get?_push_size _ rfl) (hD₄.at fun o e => Heap.get?_push_of_some _ e) upd_same (fun m v' hm => (upd_ne hxy).trans hm)
          (fun j ys h h' hL hJ => ok.stabI _ _ _ _ _ _ hL hJ) (fun j ys h hJ => ok.lenI _ _ _ _ _ hJ) (ok.stabI _ _ _ _ _ _ (fun a its _ p => p.at fun o e => Heap.get?_push_of_some _ e) hJ₄) ?_ ?_
        · intro j ys' s₅ B' m₅ tk E₅ hj hJ₅ KB₅ F₅ hM₅ hL₅ hD₅
          exact ok.istep i v j ys' s₅ C D B' m₅ tk E₅ hv hj hJ₅ hD₅ F₅ hM₅ hL₅
        · intro m₆ ys₆ s₆ rs₆ F₆ hD₆ hJ₆ ho₆
          have k46 : ∀ b o, b ≠ C → b ≠ D → b ≠ s₄.heap.objs.size → s₄.heap.get? b = some o → s₆.heap.get? b = some o := fun b o b1 b2 b3 e => ho₆ b o b1 b2 b3 (Heap.get?_push_of_some _ e)
          have bnd : ∀ b o, s₄.heap.get? b = some o → b ≠ s₄.heap.objs.size := fun b o e => Nat.ne_of_lt (Heap.lt_size e)
          have k34 : KeepsH h₃ s₄.heap := Keeps.heap K₄
          refine ⟨items.size + 1 - (i + 1), by omega, i + 1, m₆, ys₆, (((rs.trans .mk).trans (Keeps.rest K₄)).trans .heap).trans rs₆, F₆, ?_, ?_, hD₆, ok.link D i ys₆ _ hlt hJ₆, ?_, hlt, rfl⟩
          · obtain ⟨o, ho, hr⟩ := st₃
            exact ⟨o, k46 I o hCI hDI (bnd I o (k34 _ _ ho)) (k34 _ _ ho), hr⟩
          · obtain ⟨o, ho, hr⟩ := sl₃
            exact ⟨o, k46 ax o haxC haxD (bnd ax o (k34 _ _ ho)) (k34 _ _ ho), hr⟩
          · intro b o hb e
            have e4 := k34 _ _ (ho₃ b o hb e)
            exact k46 b o (fun q => by rw [q, freshC] at e; cases e) (fun q => by rw [q, freshD] at e; cases e) (bnd b o e4) e4
      refine start_any (.inr rfl) (inner _ rfl) fun E'' => ?_
      exact wpAny_pyIter_rangeiter (Heap.get?_push_size _ rfl) (inner _ rfl)
    · have hin : i = items.size := by omega
      subst hin
      refine wpAny_pyNext_list_end hh st' sl' (by simp) fun h₂ he₂ => ?_
      have L₂ : Lists s'.heap h₂ := fun a its p => p.at fun o e => he₂ a o (fun q => notI _ _ its st' (q ▸ p)) e
      refine hRR D C _ m' ys (Mine.Keeps.of (rs.trans .heap) (hoff _ fun b o hb e => he₂ b o hb (ho' b o hb e))) (K01.none freshD) (K01.none freshC) hDC (F'.ns.at' fun o e => he₂ _ o (Ne.symm hCI) e) (L₂ _ _ hD') (ok.stabO _ _ _ _ _ (fun a its _ p => L₂ _ _ p) hJ)
  refine start_any (.inl rfl) (loop _ rfl) fun E'' => ?_
  exact wpAny_pyIter_listiter hst₁.1 (loop _ rfl)
end
end Mine
end

/-! L1 -/
section
open PySem PySem.W PySem.Calls PyProof.Rows
set_option maxRecDepth 100000
namespace Mine
set_option linter.unusedVariables false
set_option linter.unusedSimpArgs false

/-- the law's frame -/
abbrev lE (qual : Str) (L a : Addr) (cd : Value) : Env := envX qual (scopeAt 13) L a cd [("least", L + 3), ("place", L + 2), ("pieces", L + 1)]

def nsOf (ns : List Int) : List Int := (ns.take 4 ++ [0, 6]).take 4
def psOf (ns : List Int) : List (List It) := (nsOf ns).map pieceOf
theorem nsOf_length (ns : List Int) : 2 ≤ (nsOf ns).length ∧ (nsOf ns).length ≤ 4 := by
  simp only [nsOf, List.length_take, List.length_append, List.length_cons, List.length_nil]; omega
theorem psOf_length (ns : List Int) : 2 ≤ (psOf ns).length ∧ (psOf ns).length ≤ 4 := by
  rw [psOf, List.length_map]; exact nsOf_length ns
theorem psOf_each (ns : List Int) : ∀ q ∈ psOf ns, 1 ≤ q.length ∧ q.length ≤ 3 := fun q hq => by
  obtain ⟨n, _, rfl⟩ := List.mem_map.mp hq; exact pieceOf_length n

section
variable {prog : Program} {w : World} {A : Around} {E : Value → Shared → Prop} {s : Shared} {mg mb : Str → Option Value} {ad : Adr} {qual : Str} {L a : Addr} {cd : Value} {B : Heap} {m cm : Str → Option Value}

/-- x = value, x a cell -/
theorem assignC {env : Env} {V : List Addr} {x : Str} {c : Addr} {px pos : Pos} {value : Expr} {Q : Flow → Shared → Prop} (hk : env.scope.kind = .function) (hl : env.kindOf x = some .cell) (hc : env.cells.lookup x = some c)
    (hs : swapsWith value (some (.Name x px)) pos.line env = pure false)
    (h : wpAny (model prog w) A (eval value env) (fun v s₁ => ∃ B m cm, Fm env V B m cm s₁.heap ∧ ∀ s₂, Rest s₁ s₂ → Fm env V B m (upd cm x v) s₂.heap → Lists s₁.heap s₂.heap → Q .next s₂) E s) :
    wpAny (model prog w) A (exec (.Assign [.Name x px] value pos) env) Q E s := by
  refine wpAny_Assign_Name (wpAny_mono h (fun v s₁ h₁ => ?_) fun _ _ e => e) hs
  obtain ⟨B, m, cm, F, hQ⟩ := h₁
  exact storeC F hk hl hc fun h' F' sb => hQ _ .heap F' ((Stores.ofCell (V := V) hl hc).not_list F sb)

theorem part_int {env : Env} {i : Int} {k : Nat} {pos : Pos} {Q : Value → Shared → Prop} (h : Q (.int i s.toks) { s with toks := s.toks + 1 }) : wpAny (model prog w) A (evalPart (some (.Constant (.int i) k pos)) env) Q E s := wpAny_Constant_int (k := k) (pos := pos) h

theorem law_pieces {sc : Addr} {vs : List Value} {ns : List Int} {Q : Flow → Shared → Prop} (G : Gd mg mb ad B) (F : Fm (lE qual L a cd) [] B m cm s.heap) (hroom : A.depth < recursionLimit) (hh : A.handled = none)
    (hl : s.heap.IsList sc vs.toArray) (hi : IntsAre vs ns) (hlen : ns.length ≤ 100) (hm : m "script" = some (.ref sc))
    (h : ∀ s' p, Rest s s' → Fm (lE qual L a cd) [] B m (upd cm "pieces" (.ref p)) s'.heap → PiecesAt s'.heap p (psOf ns) → Q .next s') :
    wpAny (model prog w) A (exec (stOf (bodyAt 13) 0) (lE qual L a cd)) Q E s := by
  have hvl : vs.length = ns.length := hi.length
  refine assignC (V := []) (c := L + 1) rfl rfl rfl rfl ?_
  refine comp_list (cl := []) hh rfl (by decide) rfl (by decide) rfl (fun _ => rfl) ?_
  refine slice_list (wpAny_BinOp (slice_list (nameL F rfl rfl hm (wpAny_pure (part_int ⟨sc, vs.toArray, none, some ((4 : Nat) : Int), rfl, hl, ?_, .none, .int _ _, fun a₁ s₁ K₁ n₁ I₁ => ?_⟩)))))
  · rw [sizeLine_eq]; simp only [List.size_toArray]; omega
  rw [slicePick_upto'] at I₁
  refine disp2 rfl (wpAny_Constant_int (wpAny_Constant_int fun a₂ s₂ K₂ n₂ I₂ => ?_))
  refine add_lists (I₁.at fun o e => Keeps.heap (Mine.Keeps.trans (Mine.Keeps.trans Keeps.tok Keeps.tok) K₂) _ o e) I₂ ?_ fun a₃ s₃ K₃ n₃ I₃ => ?_
  · rw [sizeLine_eq]; simp only [List.size_toArray, List.length_take, List.length_cons, List.length_nil]; omega
  have K13 : KeepsH s.heap s₃.heap := ((Keeps.heap K₁).trans (Keeps.heap K₂)).trans (Keeps.heap K₃)
  refine wpAny_pure (part_int ⟨a₃, _, none, some ((4 : Nat) : Int), rfl, I₃.isList, ?_, .none, .int _ _, fun a₄ s₄ K₄ n₄ I₄ => ?_⟩)
  · rw [sizeLine_eq]; simp only [List.append_toArray, List.size_toArray, List.length_append, List.length_take, List.length_cons, List.length_nil]; omega
  rw [List.append_toArray, slicePick_upto'] at I₄
  have hI : IntsAre ((vs.take 4 ++ [Value.int 0 s₁.toks, Value.int 6 (s₁.toks + 1)]).take 4) (nsOf ns) := IntsAre.take (IntsAre.app (IntsAre.take hi 4) (.cons _ _ (.cons _ _ .nil))) 4
  generalize hV : (vs.take 4 ++ [Value.int 0 s₁.toks, Value.int 6 (s₁.toks + 1)]).take 4 = us at I₄ hI
  have hul : us.length = (nsOf ns).length := hI.length
  have nl := nsOf_length ns
  have F₄ : Fm (lE qual L a cd) [] B m cm s₄.heap := F.kept (K13.trans (Keeps.heap K₄))
  have G₄ := G.keeps F₄.keep
  refine ⟨a₄, us.toArray, fun _ => none, (fun D i ys h => ∃ as : List Addr, ys = as.map Value.ref ∧ as.length = i ∧ D ∉ as ∧ ∀ (j : Nat) (a : Addr) (q : List It), as[j]? = some a → (psOf ns)[j]? = some q → ∃ vs, h.PlainList a vs.toArray ∧ StrsAre vs (q.map It.str)), rfl, I₄.isList, by rw [sizeLine_eq]; simp only [List.size_toArray]; omega, ?_⟩
  refine ⟨(fun _ _ hm => by cases hm), .nil, (fun _ _ _ hm => by cases hm), ?_, fun _ _ _ => ⟨[], rfl, rfl, (by simp), fun j a q e => by simp at e⟩, ?_, ?_⟩
  · rintro D i ys h h' hL ⟨as, h1, h2, h3, h4⟩
    refine ⟨as, h1, h2, h3, fun j a q e1 e2 => ?_⟩
    obtain ⟨vs, p1, p2⟩ := h4 j a q e1 e2
    exact ⟨vs, hL _ _ (fun e => h3 (e ▸ List.mem_of_getElem? e1)) p1, p2⟩
  · rintro i v ys s₅ C D B₅ m₅ E₅ hv ⟨as, h1, h2, h3, h4⟩ K₅ hD hD' F₅ hL
    refine wpAny_tests_nil ?_
    rw [if_pos rfl]
    obtain ⟨n, tn, rfl, hn⟩ := intsAre_at hI (by simpa using hv)
    have G₅ := G₄.keeps (Keeps.heap K₅)
    refine callName1 (i := 9) G₅.g G₅.gpc G₅.fpc rfl rfl rfl rfl (nameL F₅ rfl rfl upd_same ⟨fun _ _ e => e, ?_⟩)
    refine piece_call G₅ hroom hh fun s₆ l ws K₆ hl₆ I₆ S₆ => ⟨K₆, as ++ [l], by simp [h1], by simp [h2], ?_, ?_⟩
    · intro hm
      rcases List.mem_append.mp hm with hm | hm
      · exact h3 hm
      · obtain ⟨o, ho⟩ := hD'
        rw [List.mem_singleton.mp hm] at ho
        rw [hl₆] at ho; cases ho
    · intro j b q e1 e2
      by_cases hj : j < as.length
      · rw [List.getElem?_append_left hj] at e1
        obtain ⟨vs, p1, p2⟩ := h4 j b q e1 e2
        exact ⟨vs, p1.at fun o e => Keeps.heap K₆ _ o e, p2⟩
      · have hj' : j = as.length := by
          have := (List.getElem?_eq_some_iff.mp e1).1
          simp at this; omega
        subst hj'
        simp at e1
        subst e1
        rw [psOf, List.getElem?_map, h2, hn] at e2
        simp at e2
        subst e2
        exact ⟨ws, I₆, S₆⟩
  · rintro D s₅ ys K₅ hD hp ⟨as, h1, h2, h3, h4⟩
    have F₅ := F₄.kept (Keeps.heap K₅)
    refine ⟨B, m, cm, F₅, fun s₆ r₆ F₆ L₆ => h s₆ D ?_ F₆ ⟨as, L₆ _ _ (h1 ▸ hp), ?_, fun j a q e1 e2 => ?_⟩⟩
    · exact (((((Keeps.rest K₁).trans (Rest.trans (Rest.trans .tok .tok) (Keeps.rest K₂))).trans (Keeps.rest K₃)).trans (Rest.trans .tok (Keeps.rest K₄))).trans (Keeps.rest K₅)).trans r₆ |> fun r => Rest.trans .tok r
    · rw [h2, psOf, List.length_map]; simp [hul]
    · obtain ⟨vs, p1, p2⟩ := h4 j a q e1 e2
      exact ⟨vs, L₆ _ _ p1, p2⟩
end
end Mine
end

/-! L2 -/
section
open PySem PySem.W PySem.Calls PyProof.Rows
set_option maxRecDepth 100000
namespace Mine
set_option linter.unusedVariables false
set_option linter.unusedSimpArgs false

theorem coll_behind (ps : List (List It)) (n y : Nat) : (collOf (sentStr (itsOf ps [y, n])) (sentStr (itsOf ps [n, y])) = 1) ↔ Behind ps n y := by
  have e1 : (itsOf ps [y, n]).map It.mark = mkOf ps y ++ mkOf ps n := by simp [itsOf, mkOf]
  have e2 : (itsOf ps [n, y]).map It.mark = mkOf ps n ++ mkOf ps y := by simp [itsOf, mkOf]
  rw [coll_marks, e1, e2]
  unfold Behind
  rw [← pair_lt]
  split
  · rename_i h; simp [h]
  · rename_i h
    constructor
    · intro e; split at e <;> cases e
    · intro e; exact absurd e h

def testOf : Stmt → Expr
  | .While t _ _ _ => t
  | .If t _ _ _ => t
  | _ => .Constant .none 0 ⟨0, 0, 0, 0⟩

section
variable {prog : Program} {w : World} {A : Around} {E : Value → Shared → Prop} {s : Shared} {mg mb : Str → Option Value} {ad : Adr} {qual : Str} {L a : Addr} {cd : Value} {B : Heap} {m cm : Str → Option Value}

theorem law_sent2 {e1 e2 : Expr} {p1 p2 p3 p4 : Pos} {env : Env} {p : Addr} {ps : List (List It)} {i j : Nat} {V : List Addr} {Q : Value → Shared → Prop} (G : Gd mg mb ad B) (F : Fm env V B m cm s.heap) (hroom : A.depth + 1 < recursionLimit) (hh : A.handled = none)
    (hp : PiecesAt B p ps) (hi : i < ps.length) (hj : j < ps.length) (hpl : ps.length ≤ 100) (hps : ∀ q ∈ ps, q.length ≤ 3)
    (hk : env.scope.kind = .function) (hx : env.kindOf "_law_sent" = some .globalImplicit) (he : env.globals = mainGlobals) (hs : starEach [.Name "pieces" p2, .List [e1, e2] p3] env = [(false, eval (.Name "pieces" p2) env), (false, eval (.List [e1, e2] p3) env)])
    (hs' : starEach [e1, e2] env = [(false, eval e1 env), (false, eval e2 env)]) {c : Addr} (hl : env.kindOf "pieces" = some .cell) (hc : env.cells.lookup ("pieces" : Str) = some c) (hv : cm "pieces" = some (.ref p))
    (h : wpAny (model prog w) A (eval e1 env) (fun v1 s₁ => Keeps s s₁ ∧ (∃ t, v1 = .int i t) ∧ wpAny (model prog w) A (eval e2 env) (fun v2 s₂ => Keeps s₁ s₂ ∧ (∃ t, v2 = .int j t) ∧ 
      ∀ s' t', Keeps s s' → Q (.str (sentStr (itsOf ps [i, j])) t') s') E s₁) E s) :
    wpAny (model prog w) A (eval (.Call (.Name "_law_sent" p1) [.Name "pieces" p2, .List [e1, e2] p3] [] p4) env) Q E s := by
  have G₀ := G.keeps F.keep
  refine callName2 (i := 12) G₀.g G₀.gse G₀.fse hk hx he hs (nameC F hk hl hc hv (disp2 hs' (wpAny_mono h (fun v1 s₁ h₁ => ?_) fun _ _ e => e)))
  obtain ⟨K₁, ⟨t1, rfl⟩, h₁⟩ := h₁
  refine wpAny_mono h₁ (fun v2 s₂ h₂ => ?_) fun _ _ e => e
  obtain ⟨K₂, ⟨t2, rfl⟩, h₂⟩ := h₂
  intro b s₃ K₃ n₃ I₃
  have K03 : Keeps s s₃ := Mine.Keeps.trans K₁ (Mine.Keeps.trans K₂ K₃)
  refine ⟨Keeps.heap K03, ?_⟩
  refine sent_call (G₀.keeps (Keeps.heap K03)) hroom hh (hp.lists (.of_keeps (F.keep.trans (Keeps.heap K03)))) ⟨_, I₃, .cons _ _ (.cons _ _ .nil)⟩ ?_ (by simp) hpl hps fun s₄ t₄ K₄ => h₂ s₄ t₄ (Mine.Keeps.trans K03 K₄)
  intro k hk'
  rcases List.mem_cons.mp hk' with rfl | hk'
  · exact hi
  · rw [List.mem_singleton.mp hk']; exact hj

set_option maxHeartbeats 1000000 in
theorem law_while {p r oL : Addr} {ps : List (List It)} {row : List Nat} {n : Nat} {tn t0 : Tok} {Q : Flow → Shared → Prop} (G : Gd mg mb ad B) (F : Fm (lE qual L a cd) [] B m cm s.heap) (hroom : A.depth + 1 < recursionLimit) (hh : A.handled = none)
    (hp : PiecesAt B p ps) (hr : OrderAt B r row) (hrow : ∀ k ∈ row, k < ps.length) (hn : n < ps.length) (hpl : ps.length ≤ 100) (hps : ∀ q ∈ ps, q.length ≤ 3) (hrl : row.length ≤ 100)
    (m1 : m "spot" = some (.int row.length t0)) (m2 : m "row" = some (.ref r)) (m3 : m "orders" = some (.ref oL)) (c1 : cm "pieces" = some (.ref p)) (c2 : cm "place" = some (.int n tn))
    (h : ∀ s' m' spot t, Rest s s' → Fm (lE qual L a cd) [] B m' cm s'.heap → m' "spot" = some (.int ((spot : Nat) : Int) t) → m' "row" = some (.ref r) → m' "orders" = some (.ref oL) → spot ≤ row.length → (∀ t y, spot ≤ t → row[t]? = some y → Behind ps n y) →
      (∀ y, 0 < spot → row[spot - 1]? = some y → ¬ Behind ps n y) → Q .next s') :
    wpAny (model prog w) A (exec (stOf (forBody (stOf (bodyAt 13) 3)) 1) (lE qual L a cd)) Q E s := by
  refine wpAny_While (codeAny_whileLoop (fun k s' => ∃ spot t m', k = spot ∧ Rest s s' ∧ Fm (lE qual L a cd) [] B m' cm s'.heap ∧ m' "spot" = some (.int ((spot : Nat) : Int) t) ∧ m' "row" = some (.ref r) ∧ m' "orders" = some (.ref oL) ∧ spot ≤ row.length ∧ (∀ t y, spot ≤ t → row[t]? = some y → Behind ps n y)) ?_ row.length
    ⟨row.length, t0, m, rfl, .refl _, F, m1, m2, m3, Nat.le_refl _, fun t y h1 h2 => by have := (List.getElem?_eq_some_iff.mp h2).1; omega⟩)
  rintro k s₁ ⟨spot, t, m', rfl, r₁, F₁, q1, q2, q3, q4, q5⟩
  refine isTrue_and (wpAny_isTrue_Compare1 (nameL F₁ rfl rfl q1 (wpAny_Constant_int (gt_int (wpAny_truthy_bool ?_)))))
  by_cases hpos : 0 < k
  · obtain ⟨y, hy⟩ : ∃ y, row[k - 1]? = some y := ⟨_, List.getElem?_eq_getElem (by omega)⟩
    have hyl : y < ps.length := hrow y (List.mem_of_getElem? hy)
    obtain ⟨rvs, hr1, hr2⟩ := id hr
    obtain ⟨v, hv⟩ : ∃ v, rvs[k - 1]? = some v := ⟨_, List.getElem?_eq_getElem (by have := hr2.length; simp at this; omega)⟩
    obtain ⟨yi, ty, rfl, hyi⟩ := intsAre_at hr2 hv
    rw [List.getElem?_map, hy] at hyi
    simp at hyi
    subst hyi
    rw [if_pos (by simp; exact hpos)]
    have G₁ := G.keeps F₁.keep
    -- row[spot - 1]
    have idx : ∀ (s₂ : Shared) (p1 p2 p3 p4 p5 : Pos) (Q' : Value → Shared → Prop) E', Fm (lE qual L a cd) [] B m' cm s₂.heap → (∀ s₃, Keeps s₂ s₃ → Q' (.int y ty) s₃) →
        wpAny (model prog w) A (eval (.Subscript (.Name "row" p1) (.BinOp (.Name "spot" p2) .Sub (.Constant (.int 1) 0 p3) p4) p5) (lE qual L a cd)) Q' E' s₂ := by
      intro s₂ p1 p2 p3 p4 p5 Q' E' F₂ hQ'
      refine subscr (fun _ _ => rfl) (nameL F₂ rfl rfl q2 (wpAny_BinOp (nameL F₂ rfl rfl q1 (wpAny_Constant_int (sub_int ?_)))))
      refine ⟨r, _, _, _, _, rfl, rfl, (hr1.at fun o e => F₂.keep _ o e).isList, by omega, by omega, ?_, hQ' _ ⟨_, _, rfl, fun _ _ e => e⟩⟩
      have : ((k : Int) - 1).toNat = k - 1 := by omega
      rw [this]; simpa using hv
    refine isTrue_and (wpAny_isTrue_Compare1 ?_)
    refine callName2 (i := 7) G₁.g G₁.gsc G₁.fsc rfl rfl rfl rfl ?_
    refine law_sent2 (i := y) (j := n) G F₁ hroom hh hp hyl hn hpl hps rfl rfl rfl rfl rfl (c := L + 1) rfl rfl c1 ?_
    refine idx _ _ _ _ _ _ _ _ F₁ fun s₂ K₂ => ⟨K₂, ⟨_, rfl⟩, ?_⟩
    have F₂ := F₁.kept (Keeps.heap K₂)
    refine nameC F₂ rfl rfl rfl c2 ⟨Mine.Keeps.refl _, ⟨_, rfl⟩, fun s₃ t₃ K₃ => ?_⟩
    have F₃ := F₁.kept (Keeps.heap K₃)
    refine law_sent2 (i := n) (j := y) G F₃ hroom hh hp hn hyl hpl hps rfl rfl rfl rfl rfl (c := L + 1) rfl rfl c1 ?_
    refine nameC F₃ rfl rfl rfl c2 ⟨Mine.Keeps.refl _, ⟨_, rfl⟩, ?_⟩
    refine idx _ _ _ _ _ _ _ _ F₃ fun s₄ K₄ => ⟨K₄, ⟨_, rfl⟩, fun s₅ t₅ K₅ => ?_⟩
    refine ⟨(Keeps.heap K₃).trans (Keeps.heap K₅), ?_⟩
    refine strcoll_call ((G₁.keeps (Keeps.heap K₃)).keeps (Keeps.heap K₅)) (Nat.lt_of_succ_lt hroom) fun h₆ tk tk' k₆ => ?_
    refine wpAny_Constant_int (eq_int (wpAny_truthy_bool ?_))
    have F₆ : Fm (lE qual L a cd) [] B m' cm h₆ := (F₃.kept (Keeps.heap K₅)).kept k₆
    have r₆ : Rest s { s₅ with heap := h₆, toks := tk + 1 } := ((r₁.trans (Keeps.rest K₃)).trans (Keeps.rest K₅)).trans .mk
    have r₆' : Rest s { s₅ with heap := h₆, toks := tk + 1 } := r₆
    by_cases hb : Behind ps n y
    · have e1 := (coll_behind ps n y).mpr hb
      rw [e1]
      rw [if_pos (by decide)]
      refine isTrue_and_nil ?_
      rw [if_pos rfl]
      refine wpAny_execs_cons (augL (V := []) rfl rfl F₆ q1 (wpAny_Constant_int (isub_int ⟨_, _, _, F₆, fun s₇ r₇ F₇ L₇ => ?_⟩)))
      rw [show ((k : Nat) : Int) - 1 = ((k - 1 : Nat) : Int) by omega] at F₇
      refine wpAny_execs_nil ⟨k - 1, by omega, k - 1, _, _, rfl, r₆.trans (Rest.trans (Rest.trans .tok .tok) r₇), F₇, upd_same, (upd_ne (by decide)).trans q2, (upd_ne (by decide)).trans q3, by omega, ?_⟩
      intro t' y' ht' hy'
      by_cases e : k ≤ t'
      · exact q5 t' y' e hy'
      · have : t' = k - 1 := by omega
        subst this
        rw [hy] at hy'; cases hy'; exact hb
    · have e1 : ¬ collOf (sentStr (itsOf ps [y, n])) (sentStr (itsOf ps [n, y])) = 1 := fun e => hb ((coll_behind ps n y).mp e)
      have e2 : (collOf (sentStr (itsOf ps [y, n])) (sentStr (itsOf ps [n, y])) == 1) = false := by simpa using e1
      rw [e2]
      rw [if_neg Bool.false_ne_true]
      rw [if_neg Bool.false_ne_true]
      exact wpAny_execs_nil (h _ _ k t r₆ F₆ q1 q2 q3 q4 q5 fun y' _ hy' => by rw [hy] at hy'; cases hy'; exact hb)
  · rw [if_neg (by simp; omega)]
    rw [if_neg Bool.false_ne_true]
    exact wpAny_execs_nil (h _ _ k t (r₁.trans .tok) F₁ q1 q2 q3 q4 q5 fun y' h0 _ => absurd h0 hpos)
end
end Mine
end

/-! L3 -/
section
open PySem PySem.W PySem.Calls PyProof.Rows
set_option maxRecDepth 100000
namespace Mine
set_option linter.unusedVariables false
set_option linter.unusedSimpArgs false

abbrev zsOf (o : List Nat) : List Int := o.map fun k => ((k : Nat) : Int)
/-- the orders lie there -/
def OrdersAt (h : Heap) (D : Addr) (os : List (List Nat)) : Prop := ∃ as : List Addr, h.PlainList D (as.map Value.ref).toArray ∧ RowsAt h as (os.map zsOf)
theorem OrdersAt.lists {h h' : Heap} {D : Addr} {os : List (List Nat)} (x : OrdersAt h D os) (k : Lists h h') : OrdersAt h' D os := let ⟨as, a, b⟩ := x; ⟨as, k _ _ a, b.lists k⟩
theorem RowsAt.snoc {h : Heap} {as : List Addr} {xss : List (List Int)} {b : Addr} {vs : List Value} {xs : List Int} (r : RowsAt h as xss) (p : h.PlainList b vs.toArray) (q : IntsAre vs xs) : RowsAt h (as ++ [b]) (xss ++ [xs]) := by
  refine ⟨by simp [r.1], fun i a ys e1 e2 => ?_⟩
  by_cases hi : i < as.length
  · rw [List.getElem?_append_left hi] at e1
    rw [List.getElem?_append_left (by rw [← r.1]; exact hi)] at e2
    exact r.2 i a ys e1 e2
  · have hi' : i = as.length := by
      have := (List.getElem?_eq_some_iff.mp e1).1
      simp at this; omega
    subst hi'
    simp at e1
    rw [r.1] at e2
    simp at e2
    subst e1; subst e2
    exact ⟨vs, p, q⟩
theorem RowsAt.but {h h' : Heap} {D : Addr} {as : List Addr} {xss : List (List Int)} (r : RowsAt h as xss) (hD : D ∉ as) (k : ListsBut D h h') : RowsAt h' as xss :=
  ⟨r.1, fun i a xs e1 e2 => let ⟨vs, p, q⟩ := r.2 i a xs e1 e2; ⟨vs, k _ _ (fun e => hD (e ▸ List.mem_of_getElem? e1)) p, q⟩⟩

theorem ordersN_small (n : Nat) (h : n ≤ 4) : (ordersN n).length ≤ 1000 := by
  match n, h with
  | 0, _ => decide
  | 1, _ => decide
  | 2, _ => decide
  | 3, _ => decide
  | 4, _ => decide

section
variable {prog : Program} {w : World} {A : Around} {E : Value → Shared → Prop} {s : Shared} {mg mb : Str → Option Value} {ad : Adr} {qual : Str} {L a : Addr} {cd : Value} {B : Heap} {m cm : Str → Option Value}

theorem assign_two {env : Env} {elt i1 i2 : Expr} {x y z : Str} {px py pz : Pos} {scope : Scope} {cl : List (Str × Addr)} {pos spos : Pos} {Q : Flow → Shared → Prop} (hh : A.handled = none)
    (hsw : swapsWith (.ListComp elt [⟨.Name x px, i1, [], 0⟩, ⟨.Name y py, i2, [], 0⟩] scope pos) (some (.Name z pz)) spos.line env = pure true)
    (hclos : closureFor scope env = pure cl) (hcell : ∀ y ∈ scope.names, y.2 ≠ .cell) (hkind : scope.kind = .function) (hnames : ∀ z ∈ scope.names, z.2 = .local → scope.names.lookup z.1 = some .local)
    (hx : scope.names.lookup x = some .local) (hy : scope.names.lookup y = some .local) (hxy : x ≠ y) (hz : env.kindOf z = some .local) (hk : env.scope.kind = .function) (hs1 : ∀ x, foldedSetIterable i1 env x = pure x)
    (hs2 : ∀ C v, foldedSetIterable i2 (cEnv scope cl C env) v = pure v)
    (h : wpAny (model prog w) A (eval i1 env) (fun xv s₁ => ∃ ax items cm' ni Jo Ji B m cm, xv = .ref ax ∧ s₁.heap.IsList ax items ∧ Fm env [] B m cm s₁.heap ∧ CompT prog w A env scope cl x y i2 elt items cm' ni Jo Ji s₁ ∧
      ∀ D s₂ ys, Rest s₁ s₂ → Fm env [] B (upd m z (.ref D)) cm s₂.heap → s₂.heap.PlainList D ys.toArray → Jo D items.size ys s₂.heap → Q .next s₂) E s) :
    wpAny (model prog w) A (exec (.Assign [.Name z pz] (.ListComp elt [⟨.Name x px, i1, [], 0⟩, ⟨.Name y py, i2, [], 0⟩] scope pos) spos) env) Q E s := by
  rw [exec_Assign_Name_used _ _ _ _ hsw]
  refine wpAny_bind (wpAny_standAt (wpAny_bind ?_))
  show wpAny _ A (do let _ ← comprehension (.ListComp elt [⟨.Name x px, i1, [], 0⟩, ⟨.Name y py, i2, [], 0⟩] scope pos) scope env _ (newList []) false (eval i1 env) (some (assign (.Name z pz) env))) _ _ s
  refine wpAny_bind (wpAny_mono (wpAny_comprehension_free (use := some (assign (.Name z pz) env)) (Q := fun _ s' => Q .next s') rfl hs1 hclos hkind hnames
    (wpAny_mono h (fun xv s₁ h₁ => ?_) fun _ _ e => e)) (fun _ s' hq => wpAny_pure (wpAny_pure hq)) fun _ _ e => e)
  obtain ⟨ax, items, cm', ni, Jo, Ji, B, m, cm, rfl, hl, F, ok, hQ⟩ := h₁
  refine comp_two (RR := fun acc C => compPost (model prog w) A E (some (assign (.Name z pz) env)) (fun _ s' => Q .next s') acc C) hh hcell hkind hx hy hxy hl hs2 ok ?_
  intro D C s' m' ys K hD hC hDC hns hpl hJ
  show wpAny _ A (assign (.Name z pz) env (.ref D)) _ _ _
  have F' := F.kept (Keeps.heap K)
  have hChid : C ∉ hidden env [] := fun hm => by
    rcases List.mem_cons.mp hm with e | hm
    · obtain ⟨o, _, _, ho, _⟩ := F.ns
      rw [← e, hC] at ho; cases ho
    · rcases List.mem_append.mp hm with hm | hm
      · obtain ⟨⟨nm, c⟩, hm, e⟩ := List.mem_map.mp hm
        have e : c = C := e
        obtain ⟨o, ho, _⟩ := F.cell nm c hm
        rw [e, hC] at ho; cases ho
      · cases hm
  have hLC : env.locals ≠ C := fun e => hChid (e ▸ mem_hiddenL)
  refine wpAny_assign_Name (storeL F' hk hz fun h₂ F₂ sb₂ => ⟨m', hns.sameBut sb₂ (Ne.symm hLC), fun h₃ sb₃ => ?_⟩)
  have L₂ : Lists s'.heap h₂ := (Stores.local (V := []) hz).not_list F' sb₂
  have F₃ : Fm env [] B (upd m z (.ref D)) cm h₃ := F₂.off (wr := [C]) (fun a ha => by rw [List.mem_singleton.mp ha]; exact hChid) (fun a ha => by rw [List.mem_singleton.mp ha]; exact F.keep.none hC) fun b o hb e => sb₃.extBut b o (fun q => hb (List.mem_singleton.mpr q)) e
  have hns₂ := hns.sameBut sb₂ (Ne.symm hLC)
  have L₃ : Lists h₂ h₃ := fun b its p => p.extBut sb₃.extBut fun q => by
    obtain ⟨oL, es, ep, hL, hLd, _⟩ := hns₂
    obtain ⟨n, e⟩ := p
    rw [q, hL] at e; cases e; cases hLd
  exact hQ D _ ys ((Keeps.rest K).trans .mk) F₃ (L₃ _ _ (L₂ _ _ hpl)) (ok.stabO _ _ _ _ _ (fun b its _ p => L₃ _ _ (L₂ _ _ p)) hJ)

def insAt (n : Nat) (o : List Nat) (k : Nat) : List Nat := o.take k ++ [n] ++ o.drop k
def outs (n : Nat) (os : List (List Nat)) (i : Nat) : List (List Nat) := (os.take i).flatMap fun o => (List.range (o.length + 1)).map (insAt n o)
theorem outs_all (n : Nat) : outs n (ordersN n) (ordersN n).length = ordersN (n + 1) := by rw [outs, List.take_length]; rfl

set_option maxHeartbeats 1000000 in
theorem law_orders {oL : Addr} {n : Nat} {tn : Tok} {Q : Flow → Shared → Prop} (G : Gd mg mb ad B) (F : Fm (lE qual L a cd) [] B m cm s.heap) (hh : A.handled = none)
    (hO : OrdersAt B oL (ordersN n)) (hn : n ≤ 4) (m3 : m "orders" = some (.ref oL)) (c2 : cm "place" = some (.int n tn))
    (h : ∀ s' D, Rest s s' → Fm (lE qual L a cd) [] B (upd m "orders" (.ref D)) cm s'.heap → OrdersAt s'.heap D (ordersN (n + 1)) → Q .next s') :
    wpAny (model prog w) A (exec (stOf (forBody (stOf (bodyAt 13) 3)) 3) (lE qual L a cd)) Q E s := by
  obtain ⟨as, hp, hr⟩ := hO
  have hal : as.length = (ordersN n).length := by rw [hr.1, List.length_map]
  have hsm := ordersN_small n hn
  have KB := F.keep
  have sz : (as.map Value.ref).toArray.size = (ordersN n).length := by simp [hal]
  have at_ : ∀ (i : Nat) (v : Value), (as.map Value.ref).toArray[i]? = some v → ∃ (b : Addr) (o : List Nat), v = Value.ref b ∧ (ordersN n)[i]? = some o ∧ OrderAt B b o ∧ o.length ≤ 4 := fun i v hv => by
    have hv' : as[i]?.map Value.ref = some v := by simpa using hv
    obtain ⟨b, hb, rfl⟩ := Option.map_eq_some_iff.mp hv'
    have hlt := (List.getElem?_eq_some_iff.mp hb).1
    obtain ⟨o, ho⟩ : ∃ o, (ordersN n)[i]? = some o := ⟨_, List.getElem?_eq_getElem (by omega)⟩
    obtain ⟨vs, p1, p2⟩ := hr.2 i b (zsOf o) hb (by rw [List.getElem?_map, ho]; rfl)
    exact ⟨b, o, rfl, ho, ⟨vs, p1, p2⟩, by rw [ordersN_length n o (List.mem_of_getElem? ho)]; exact hn⟩
  refine assign_two (cl := [("place", L + 2)]) hh rfl rfl (by decide) rfl (by decide) rfl rfl (by decide) rfl rfl (fun _ => rfl) (fun _ _ => rfl) (nameL F rfl rfl m3 ?_)
  refine ⟨oL, (as.map Value.ref).toArray, (fun x => if x = "place" then some (.int n tn) else none), (fun i => ((ordersN n).getD i []).length + 1),
    (fun D i ys h => ∃ bs : List Addr, ys = bs.map Value.ref ∧ D ∉ bs ∧ RowsAt h bs ((outs n (ordersN n) i).map zsOf) ∧ ys.length ≤ i * 10 ∧ i ≤ 1000),
    (fun D i j ys h => ∃ (bs : List Addr) (b : Addr) (o : List Nat), ys = bs.map Value.ref ∧ D ∉ bs ∧ (as.map Value.ref).toArray[i]? = some (.ref b) ∧ (ordersN n)[i]? = some o ∧ b ≠ D ∧ OrderAt h b o ∧ RowsAt h bs ((outs n (ordersN n) i ++ (List.range j).map (insAt n o)).map zsOf) ∧ ys.length ≤ i * 10 + j ∧ i ≤ 1000 ∧ j ≤ 10),
    B, m, cm, rfl, (hp.at fun o e => KB _ o e).isList, F, ?_, ?_⟩
  · refine ⟨?_, List.pairwise_singleton _ _, ?_, ?_, ?_, ?_, ?_, ?_, ?_, ?_⟩
    · intro nm c hm
      have e := List.mem_singleton.mp hm
      obtain ⟨rfl, rfl⟩ := Prod.mk.inj e
      have := F.cell "place" (L + 2) (List.mem_cons_of_mem _ List.mem_cons_self)
      rw [c2] at this
      exact this
    · intro nm c c' hm hm'
      have e := List.mem_singleton.mp hm
      have e' := List.mem_singleton.mp hm'
      obtain ⟨_, rfl⟩ := Prod.mk.inj e
      obtain ⟨_, rfl⟩ := Prod.mk.inj e'
      rfl
    · rintro D i ys h h' hL ⟨bs, h1, h2, h3, h4⟩
      exact ⟨bs, h1, h2, h3.but h2 hL, h4⟩
    · rintro D i j ys h h' hL ⟨bs, b, o, h1, h2, h3, h4, h5, h6, h7, h8⟩
      obtain ⟨vs, p1, p2⟩ := h6
      exact ⟨bs, b, o, h1, h2, h3, h4, h5, ⟨vs, hL _ _ h5 p1, p2⟩, h7.but h2 hL, h8⟩
    · rintro D i j ys h ⟨bs, b, o, h1, h2, h3, h4, h5, h6, h7, h8, h9, h10⟩
      omega
    · intro D h' k _ hD
      exact ⟨[], rfl, (by simp), ⟨rfl, fun i a xs e => by simp at e⟩, Nat.zero_le _, Nat.zero_le _⟩
    · rintro i v ys s₃ C D B₃ m₃ E₃ hv ⟨bs, h1, h2, h3, h4, h5⟩ K₃ hD hD' F₃ hL
      obtain ⟨b, o, rfl, ho, hob, hol⟩ := at_ i v hv
      have G₃ := (G.keeps KB).keeps (Keeps.heap K₃)
      have hob₃ : OrderAt s₃.heap b o := hob.lists (.of_keeps (KB.trans (Keeps.heap K₃)))
      obtain ⟨vs, p1, p2⟩ := id hob₃
      have hvl : vs.length = o.length := by have := p2.length; simpa using this
      have hgo : (ordersN n).getD i [] = o := by rw [List.getD_eq_getElem?_getD, ho]; rfl
      have hbD : b ≠ D := fun e => by
        obtain ⟨_, q1, _⟩ := hob
        obtain ⟨_, q1⟩ := q1
        rw [e, KB.none hD] at q1; cases q1
      refine callT1 G₃.g G₃.b G₃.nrange G₃.brange rfl rfl rfl rfl rfl (wpAny_BinOp (callB1 G₃.g G₃.b G₃.nlen G₃.blen rfl rfl rfl rfl rfl (nameL F₃ rfl rfl upd_same (call_len_list p1.isList ?_ ?_))))
      · simp only [List.size_toArray]; omega
      · refine wpAny_Constant_int (add_int ?_)
        have e : (vs.toArray.size : Int) + 1 = ((o.length + 1 : Nat) : Int) := by simp only [List.size_toArray]; omega
        rw [e]
        refine call_range_1 ?_
        rw [hgo]
        refine ⟨_, _, _, _, rfl, ⟨_, _, rfl, push_keeps _ _⟩, Heap.get?_push_size _ rfl, by omega, bs, b, o, h1, h2, hv, ho, hbD, hob₃.lists (.of_keeps (push_keeps _ _)), ?_, by omega, h5, by omega⟩
        simp only [List.range_zero, List.map_nil, List.append_nil]
        exact h3.lists (.of_keeps (push_keeps _ _))
    · rintro D i ys h hi ⟨bs, b, o, h1, h2, h3, h4, h5, h6, h7, h8, h9, h10⟩
      have hgo : (ordersN n).getD i [] = o := by rw [List.getD_eq_getElem?_getD, h4]; rfl
      have hol : o.length ≤ 4 := by rw [ordersN_length n o (List.mem_of_getElem? h4)]; exact hn
      rw [hgo] at h7 h8
      refine ⟨bs, h1, h2, ?_, by omega, by omega⟩
      have e : outs n (ordersN n) (i + 1) = outs n (ordersN n) i ++ (List.range (o.length + 1)).map (insAt n o) := by
        rw [outs, List.take_add_one, h4, Option.toList_some, List.flatMap_append, List.flatMap_singleton]; rfl
      rw [e]; exact h7
    · rintro i v j ys s₅ C D B₅ m₅ tk E₅ hv hj ⟨bs, b, o, h1, h2, h3, h4, h5, h6, h7, h8, h9, h10⟩ hD' F₅ hmx hL
      rw [h3] at hv
      cases hv
      have hgo : (ordersN n).getD i [] = o := by rw [List.getD_eq_getElem?_getD, h4]; rfl
      have hol : o.length ≤ 4 := by rw [ordersN_length n o (List.mem_of_getElem? h4)]; exact hn
      rw [hgo] at hj
      refine ins_eval (q4 := ⟨0, 0, 0, 0⟩) F₅ rfl rfl rfl rfl rfl ((upd_ne (by decide)).trans hmx) upd_same rfl rfl (by decide) (by decide) (by decide) h6 (by omega) fun d s₆ K₆ n₆ o₆ => ?_
      refine ⟨K₆, bs ++ [d], b, o, by simp [h1], ?_, h3, h4, h5, h6.lists (.of_keeps (Keeps.heap K₆)), ?_, by simp; omega, h9, by omega⟩
      · intro hm
        rcases List.mem_append.mp hm with hm | hm
        · exact h2 hm
        · obtain ⟨q, hq⟩ := hD'
          rw [List.mem_singleton.mp hm, n₆] at hq; cases hq
      · obtain ⟨vs, p1, p2⟩ := o₆
        have e : outs n (ordersN n) i ++ (List.range (j + 1)).map (insAt n o) = (outs n (ordersN n) i ++ (List.range j).map (insAt n o)) ++ [insAt n o j] := by
          rw [List.range_succ, List.append_assoc]; simp only [List.map_append, List.map_cons, List.map_nil]
        rw [e, List.map_append]
        exact RowsAt.snoc (h7.lists (.of_keeps (Keeps.heap K₆))) p1 p2
  · rintro D s₂ ys r₂ F₂ hpl ⟨bs, h1, h2, h3, h4⟩
    rw [sz, outs_all] at h3
    exact h s₂ D r₂ F₂ ⟨bs, h1 ▸ hpl, h3⟩
end
end Mine
end

/-! L4 -/
section
open PySem PySem.W PySem.Calls PyProof.Rows
set_option maxRecDepth 100000
namespace Mine
set_option linter.unusedVariables false
set_option linter.unusedSimpArgs false

section
variable {prog : Program} {w : World} {A : Around} {E : Value → Shared → Prop} {s : Shared} {mg mb : Str → Option Value} {ad : Adr} {qual : Str} {L a : Addr} {cd : Value} {B : Heap} {m cm : Str → Option Value}

set_option maxHeartbeats 1000000 in
theorem law_for {p r oL : Addr} {ps : List (List It)} {Q : Flow → Shared → Prop} (G : Gd mg mb ad B) (F : Fm (lE qual L a cd) [] B m cm s.heap) (hroom : A.depth + 1 < recursionLimit) (hh : A.handled = none)
    (hp : PiecesAt s.heap p ps) (hpl : ps.length ≤ 4) (hps : ∀ q ∈ ps, 1 ≤ q.length ∧ q.length ≤ 3) (hr : OrderAt s.heap r []) (hO : OrdersAt s.heap oL (ordersN 0))
    (m2 : m "row" = some (.ref r)) (m3 : m "orders" = some (.ref oL)) (c1 : cm "pieces" = some (.ref p))
    (h : ∀ s' m' cm' r oL row, Rest s s' → Fm (lE qual L a cd) [] B m' cm' s'.heap → m' "row" = some (.ref r) → m' "orders" = some (.ref oL) → cm' "pieces" = some (.ref p) → PiecesAt s'.heap p ps → OrderAt s'.heap r row → RowOk ps ps.length row → OrdersAt s'.heap oL (ordersN ps.length) → Q .next s') :
    wpAny (model prog w) A (exec (stOf (bodyAt 13) 3) (lE qual L a cd)) Q E s := by
  have G₀ := G.keeps F.keep
  have hps3 : ∀ q ∈ ps, q.length ≤ 3 := fun q hq => (hps q hq).2
  obtain ⟨as, hp1, hp2, _⟩ := id hp
  refine wpAny_For (callT1 G₀.g G₀.b G₀.nrange G₀.brange rfl rfl rfl rfl rfl (callB1 G₀.g G₀.b G₀.nlen G₀.blen rfl rfl rfl rfl rfl (nameC F rfl rfl rfl c1 (call_len_list hp1.isList ?_ ?_)))) (fun _ => rfl)
  · simp only [List.size_toArray, List.length_map]; omega
  have e : ((as.map Value.ref).toArray.size : Int) = ((ps.length : Nat) : Int) := by simp only [List.size_toArray, List.length_map]; omega
  rw [e]
  refine call_range_1 ?_
  refine for_range (V := []) (um := fun m _ => m) (uc := fun cm v => upd cm "place" v) (c := L + 2) hh (Stores.ofCell rfl rfl) rfl (fun _ ha => by cases ha) (F.kept (push_keeps _ _)) (Heap.get?_push_size _ rfl) (by omega)
    (fun i h m cm => ∃ r oL row, m "row" = some (.ref r) ∧ m "orders" = some (.ref oL) ∧ cm "pieces" = some (.ref p) ∧ PiecesAt h p ps ∧ OrderAt h r row ∧ RowOk ps i row ∧ OrdersAt h oL (ordersN i)) ?_ ?_ ?_ ?_
  · rintro i h h' m cm hL ⟨r, oL, row, h1, h2, h3, h4, h5, h6, h7⟩
    exact ⟨r, oL, row, h1, h2, h3, h4.lists hL, h5.lists hL, h6, h7.lists hL⟩
  · have k := push_keeps s.heap
    exact ⟨r, oL, [], m2, m3, c1, hp.lists (.of_keeps (push_keeps _ _)), hr.lists (.of_keeps (push_keeps _ _)), ⟨List.mem_singleton.mpr rfl, .nil⟩, hO.lists (.of_keeps (push_keeps _ _))⟩
  · rintro i tk B' m' cm' s₁ E' hi ⟨r, oL, row, h1, h2, h3, h4, h5, h6, h7⟩ KB F₁ L₁ r₁
    have LB : Lists s₁.heap B' := fun a its q => L₁ a its (fun ha => by cases ha) q
    have G' := G.keeps KB
    have hrl := ordersN_length i row h6.1
    have c1' : upd cm' "place" (.int i tk) "pieces" = some (.ref p) := (upd_ne (by decide)).trans h3
    have hp' := h4.lists LB
    have ho' := h5.lists LB
    have hO' := h7.lists LB
    obtain ⟨rvs, q1, q2⟩ := id h5
    have hvl : rvs.length = row.length := by have := q2.length; simpa using this
    have G₁ := G'.keeps F₁.keep
    refine wpAny_execs_cons (assignL (V := []) rfl rfl rfl (callB1 G₁.g G₁.b G₁.nlen G₁.blen rfl rfl rfl rfl rfl (nameL F₁ rfl rfl h1 (call_len_list q1.isList ?_ ?_))))
    · simp only [List.size_toArray]; omega
    have e : (rvs.toArray.size : Int) = ((row.length : Nat) : Int) := by simp only [List.size_toArray]; omega
    rw [e]
    refine ⟨_, _, _, F₁, fun s₂ r₂ F₂ L₂ => ?_⟩
    refine wpAny_execs_cons (law_while (p := p) (r := r) (oL := oL) (ps := ps) (row := row) (n := i) G' F₂ hroom hh hp' ho' (fun k hk => by have := ordersN_lt i row h6.1 k hk; omega) hi (by omega) hps3 (by omega) upd_same ((upd_ne (by decide)).trans h1) ((upd_ne (by decide)).trans h2) c1' upd_same ?_)
    intro s₃ m₃ spot t₃ r₃ F₃ n1 n2 n3 n4 n5 n6
    refine wpAny_execs_cons (assignL (V := []) rfl rfl rfl (ins_eval (q4 := ⟨0, 0, 0, 0⟩) F₃ rfl rfl rfl rfl rfl n2 n1 upd_same rfl (by decide) (by decide) (by decide) (ho'.lists (.of_keeps F₃.keep)) (by omega) fun b s₄ K₄ f₄ o₄ => ⟨_, _, _, F₃.kept (Keeps.heap K₄), fun s₅ r₅ F₅ L₅ => ?_⟩))
    have o₅ := o₄.lists L₅
    -- the new row is to stand: the base is all that stands now
    obtain ⟨KB₅, FB₅⟩ := F₅.rebase [] (fun _ ha => by cases ha)
    have LB₅ : Lists s₅.heap _ := fun a its q => F₅.plain [] q (fun ha => by cases ha)
    refine wpAny_execs_cons (law_orders (oL := oL) (n := i) (G'.keeps KB₅) FB₅ hh (hO'.lists (.of_keeps KB₅)) (by omega) ((upd_ne (by decide)).trans n3) upd_same ?_)
    intro s₆ D r₆ F₆ O₆
    have hrow : RowOk ps (i + 1) (row.take spot ++ [i] ++ row.drop spot) := rowOk_insert ps (fun k hk => dOf_pos ps (by
      obtain ⟨q, hq⟩ : ∃ q, ps[k]? = some q := ⟨_, List.getElem?_eq_getElem (by omega)⟩
      rw [List.getD_eq_getElem?_getD, hq]
      exact (hps q (List.mem_of_getElem? hq)).1)) h6 n4 n5 n6
    refine wpAny_execs_nil ⟨rfl, ((Rest.trans (Rest.trans .mk r₂) r₃).trans ((Keeps.rest K₄).trans r₅)).trans r₆, _, _, F₆.down KB₅, b, D, _, (upd_ne (by decide)).trans upd_same, upd_same, c1', hp'.lists (.of_keeps (KB₅.trans F₆.keep)), (o₅.lists LB₅).lists (.of_keeps F₆.keep), hrow, O₆⟩
  · rintro m' cm' s' r' F' ⟨r, oL, row, h1, h2, h3, h4, h5, h6, h7⟩
    exact h s' m' cm' r oL row (Rest.trans .mk r') F' h1 h2 h3 h4 h5 h6 h7
end
end Mine
end

/-! L5 -/
section
open PySem PySem.W PySem.Calls PyProof.Rows
set_option maxRecDepth 100000
namespace Mine
set_option linter.unusedVariables false
set_option linter.unusedSimpArgs false

theorem rows_at {h : Heap} {as : List Addr} {n : Nat} (hr : RowsAt h as ((ordersN n).map zsOf)) (i : Nat) (v : Value) (hv : (as.map Value.ref).toArray[i]? = some v) :
    ∃ (b : Addr) (o : List Nat), v = Value.ref b ∧ (ordersN n)[i]? = some o ∧ OrderAt h b o := by
  have hv' : as[i]?.map Value.ref = some v := by simpa using hv
  obtain ⟨b, hb, rfl⟩ := Option.map_eq_some_iff.mp hv'
  have hlt := (List.getElem?_eq_some_iff.mp hb).1
  have hal : as.length = (ordersN n).length := by rw [hr.1, List.length_map]
  obtain ⟨o, ho⟩ : ∃ o, (ordersN n)[i]? = some o := ⟨_, List.getElem?_eq_getElem (by omega)⟩
  obtain ⟨vs, p1, p2⟩ := hr.2 i b (zsOf o) hb (by rw [List.getElem?_map, ho]; rfl)
  exact ⟨b, o, rfl, ho, ⟨vs, p1, p2⟩⟩

section
variable {prog : Program} {w : World} {A : Around} {E : Value → Shared → Prop} {s : Shared} {mg mb : Str → Option Value} {ad : Adr} {qual : Str} {L a : Addr} {cd : Value} {B : Heap} {m cm : Str → Option Value}

/-- a cell of the law's frame, seen by one of its comprehensions -/
theorem one_name {l : List (Str × Addr)} (hn : (l.map (·.1)).Nodup) : ∀ nm c c', (nm, c) ∈ l → (nm, c') ∈ l → c' = c := by
  induction l with
  | nil => intro nm c c' h; cases h
  | cons x l ih =>
    obtain ⟨h1, h2⟩ := List.nodup_cons.mp hn
    intro nm c c' h h'
    rcases List.mem_cons.mp h with e | h
    · rcases List.mem_cons.mp h' with e' | h'
      · rw [← e] at e'; exact (Prod.mk.inj e').2
      · exact absurd (List.mem_map.mpr ⟨_, h', by rw [← e]⟩) h1
    · rcases List.mem_cons.mp h' with e' | h'
      · exact absurd (List.mem_map.mpr ⟨_, h, by rw [← e']⟩) h1
      · exact ih h2 nm c c' h h'

set_option maxHeartbeats 1000000 in
theorem law_least {p oL : Addr} {ps : List (List It)} {Q : Flow → Shared → Prop} (G : Gd mg mb ad B) (F : Fm (lE qual L a cd) [] B m cm s.heap) (hroom : A.depth < recursionLimit) (hh : A.handled = none) (hu : A.units + 1 < cLine)
    (hp : PiecesAt s.heap p ps) (hpl : ps.length ≤ 4) (hps : ∀ q ∈ ps, q.length ≤ 3) (hO : OrdersAt s.heap oL (ordersN ps.length)) (hne : 0 < (ordersN ps.length).length)
    (m3 : m "orders" = some (.ref oL)) (c1 : cm "pieces" = some (.ref p))
    (h : ∀ s' l vs x, Rest s s' → Fm (lE qual L a cd) [] B m (upd cm "least" (.ref l)) s'.heap → Lists s.heap s'.heap → s'.heap.PlainList l vs.toArray → IntsAre vs x → x ∈ (ordersN ps.length).map (marksOf ps) → (∀ y ∈ (ordersN ps.length).map (marksOf ps), ¬ y < x) → Q .next s') :
    wpAny (model prog w) A (exec (stOf (bodyAt 13) 4) (lE qual L a cd)) Q E s := by
  have G₀ := G.keeps F.keep
  obtain ⟨as, hO1, hO2⟩ := id hO
  have hal : as.length = (ordersN ps.length).length := by rw [hO2.1, List.length_map]
  have hsm := ordersN_small ps.length hpl
  have sz : (as.map Value.ref).toArray.size = (ordersN ps.length).length := by simp [hal]
  refine assignC (V := []) (c := L + 3) rfl rfl rfl rfl ?_
  refine callB1 G₀.g G₀.b G₀.nmin G₀.bmin rfl rfl rfl rfl rfl ?_
  refine comp_list (cl := [("pieces", L + 1)]) hh rfl (by decide) rfl (by decide) rfl (fun _ => rfl) (nameL F rfl rfl m3 ?_)
  refine ⟨oL, (as.map Value.ref).toArray, cm, (fun D i ys h => ∃ bs : List Addr, ys = bs.map Value.ref ∧ D ∉ bs ∧ RowsAt h bs (((ordersN ps.length).take i).map (marksOf ps))), rfl, hO1.isList, by rw [sizeLine_eq, sz]; omega, ?_⟩
  refine ⟨?_, List.pairwise_singleton _ _, one_name (by simp), ?_, fun _ _ _ => ⟨[], rfl, by simp, rfl, fun i a xs e => by simp at e⟩, ?_, ?_⟩
  · intro nm c hm
    exact F.cell nm c (List.mem_cons_of_mem _ (List.mem_cons_of_mem _ hm))
  · rintro D i ys h h' hL ⟨bs, h1, h2, h3⟩
    exact ⟨bs, h1, h2, h3.but h2 hL⟩
  · rintro i v ys s₃ C D B₃ m₃ E₃ hv ⟨bs, h1, h2, h3⟩ K₃ hD hD' F₃ hL
    refine wpAny_tests_nil ?_
    rw [if_pos rfl]
    obtain ⟨b, o, rfl, ho, hob⟩ := rows_at hO2 i v hv
    have hom := List.mem_of_getElem? ho
    have G₃ := G₀.keeps (Keeps.heap K₃)
    refine callName2 (i := 10) G₃.g G₃.gmk G₃.fmk rfl rfl rfl rfl (nameC F₃ rfl rfl rfl c1 (nameL F₃ rfl rfl upd_same ⟨fun _ _ e => e, ?_⟩))
    refine marks_call G₃ hroom hh (hp.lists (.of_keeps (Keeps.heap K₃))) (hob.lists (.of_keeps (Keeps.heap K₃))) (ordersN_lt _ o hom) (by rw [ordersN_length _ o hom]; omega) (by omega) hps fun s₄ b₄ vs₄ K₄ f₄ I₄ i₄ => ⟨K₄, bs ++ [b₄], by simp [h1], ?_, ?_⟩
    · intro hm
      rcases List.mem_append.mp hm with hm | hm
      · exact h2 hm
      · obtain ⟨q, hq⟩ := hD'
        rw [List.mem_singleton.mp hm, f₄] at hq; cases hq
    · rw [List.take_add_one, ho, Option.toList_some, List.map_append, List.map_cons, List.map_nil]
      exact RowsAt.snoc (h3.lists (.of_keeps (Keeps.heap K₄))) I₄ i₄
  · rintro D s₃ ys K₃ hD hpl₃ ⟨bs, h1, h2, h3⟩
    rw [sz, List.take_length] at h3
    subst h1
    refine min_call hh hu hpl₃ h3 ?_ fun i b x s₄ e1 e2 hmin K₄ => ?_
    · rw [h3.1, List.length_map]; exact hne
    obtain ⟨vs, p1, p2⟩ := h3.2 i b x e1 e2
    refine ⟨B, m, cm, (F.kept (Keeps.heap K₃)).kept (Keeps.heap K₄), fun s₅ r₅ F₅ L₅ => ?_⟩
    exact h s₅ b vs x (((Keeps.rest K₃).trans (Keeps.rest K₄)).trans r₅) F₅ (fun a' its q => L₅ _ _ (q.at fun o e => Keeps.heap K₄ _ o (Keeps.heap K₃ _ o e))) (L₅ _ _ (p1.at fun o e => Keeps.heap K₄ _ o e)) p2 (List.mem_of_getElem? e2) hmin

set_option maxHeartbeats 1000000 in
theorem law_if {p oL r l : Addr} {ps : List (List It)} {row : List Nat} {vl : List Value} {Q : Flow → Shared → Prop} (G : Gd mg mb ad B) (F : Fm (lE qual L a cd) [] B m cm s.heap) (hroom : A.depth < recursionLimit) (hh : A.handled = none) (hu : A.units + 64 < cLine)
    (hp : PiecesAt s.heap p ps) (hpl : ps.length ≤ 4) (hps : ∀ q ∈ ps, q.length ≤ 3) (hO : OrdersAt s.heap oL (ordersN ps.length)) (hr : OrderAt s.heap r row) (hok : RowOk ps ps.length row)
    (hl : s.heap.PlainList l vl.toArray) (hli : IntsAre vl (marksOf ps row))
    (m2 : m "row" = some (.ref r)) (m3 : m "orders" = some (.ref oL)) (c1 : cm "pieces" = some (.ref p)) (c3 : cm "least" = some (.ref l))
    (h : ∀ s', Rest s s' → Fm (lE qual L a cd) [] B m cm s'.heap → KeepsH s.heap s'.heap → Q .next s') :
    wpAny (model prog w) A (exec (stOf (bodyAt 13) 5) (lE qual L a cd)) Q E s := by
  have G₀ := G.keeps F.keep
  obtain ⟨as, hO1, hO2⟩ := id hO
  have hal : as.length = (ordersN ps.length).length := by rw [hO2.1, List.length_map]
  have hsm := ordersN_small ps.length hpl
  have sz : (as.map Value.ref).toArray.size = (ordersN ps.length).length := by simp [hal]
  refine wpAny_If (wpAny_isTrue_Compare1 (nameL F rfl rfl m2 ?_))
  refine callB1 G₀.g G₀.b G₀.nmin G₀.bmin rfl rfl rfl rfl rfl ?_
  refine comp_list (cl := [("pieces", L + 1), ("least", L + 3)]) hh rfl (by decide) rfl (by decide) rfl (fun _ => rfl) (nameL F rfl rfl m3 ?_)
  refine ⟨oL, (as.map Value.ref).toArray, cm, (fun D i ys h => ∃ bs : List Addr, ys = bs.map Value.ref ∧ D ∉ bs ∧ RowsAt h bs ((((ordersN ps.length).take i).filter fun o => decide (marksOf ps o = marksOf ps row)).map zsOf)), rfl, hO1.isList, by rw [sizeLine_eq, sz]; omega, ?_⟩
  refine ⟨?_, ?_, one_name ?_, ?_, fun _ _ _ => ⟨[], rfl, by simp, rfl, fun i a xs e => by simp at e⟩, ?_, ?_⟩
  · intro nm c hm
    refine F.cell nm c ?_
    rcases List.mem_cons.mp hm with e | hm
    · exact List.mem_cons_of_mem _ (List.mem_cons_of_mem _ (List.mem_singleton.mpr e))
    · exact List.mem_cons.mpr (.inl (List.mem_singleton.mp hm))
  · refine List.pairwise_cons.mpr ⟨fun x hx => ?_, List.pairwise_singleton _ _⟩
    rw [List.mem_singleton.mp hx]
    exact fun e => absurd (Nat.add_left_cancel (show (L : Nat) + 1 = L + 3 from e)) (by decide)
  · show ([("pieces" : Str), ("least" : Str)] : List Str).Nodup
    decide
  · rintro D i ys h h' hL ⟨bs, h1, h2, h3⟩
    exact ⟨bs, h1, h2, h3.but h2 hL⟩
  · rintro i v ys s₃ C D B₃ m₃ E₃ hv ⟨bs, h1, h2, h3⟩ K₃ hD hD' F₃ hL
    obtain ⟨b, o, rfl, ho, hob⟩ := rows_at hO2 i v hv
    have hom := List.mem_of_getElem? ho
    have G₃ := G₀.keeps (Keeps.heap K₃)
    refine wpAny_tests_one (wpAny_isTrue_Compare1 ?_)
    refine callName2 (i := 10) G₃.g G₃.gmk G₃.fmk rfl rfl rfl rfl (nameC F₃ rfl rfl rfl c1 (nameL F₃ rfl rfl upd_same ⟨fun _ _ e => e, ?_⟩))
    refine marks_call G₃ hroom hh (hp.lists (.of_keeps (Keeps.heap K₃))) (hob.lists (.of_keeps (Keeps.heap K₃))) (ordersN_lt _ o hom) (by rw [ordersN_length _ o hom]; omega) (by omega) hps fun s₄ b₄ vs₄ K₄ f₄ I₄ i₄ => ?_
    have F₄ := F₃.kept (Keeps.heap K₄)
    have K34 : KeepsH s.heap s₄.heap := (Keeps.heap K₃).trans (Keeps.heap K₄)
    refine nameC F₄ rfl rfl rfl c3 (eq_intsK I₄.isList i₄ (hl.at fun o e => K34 _ o e).isList hli hu (wpAny_truthy_bool ?_))
    have htk : (ordersN ps.length).take (i + 1) = (ordersN ps.length).take i ++ [o] := by rw [List.take_add_one, ho, Option.toList_some]
    by_cases he : marksOf ps o = marksOf ps row
    · rw [if_pos (by simp [he])]
      refine nameL F₄ rfl rfl upd_same ⟨K₄, bs ++ [b], by simp [h1], ?_, ?_⟩
      · intro hm
        rcases List.mem_append.mp hm with hm | hm
        · exact h2 hm
        · obtain ⟨vs, q1, _⟩ := hob
          obtain ⟨_, q1⟩ := q1
          rw [List.mem_singleton.mp hm] at hD
          rw [hD] at q1; cases q1
      · obtain ⟨vs, q1, q2⟩ := hob
        have e1 : [o].filter (fun o => decide (marksOf ps o = marksOf ps row)) = [o] := by simp [he]
        rw [htk, List.filter_append, e1, List.map_append]
        exact RowsAt.snoc (h3.lists (.of_keeps (Keeps.heap K₄))) (q1.at fun o e => K34 _ o e) q2
    · rw [if_neg (by simp [he])]
      refine ⟨K₄, bs, h1, h2, ?_⟩
      have e1 : [o].filter (fun o => decide (marksOf ps o = marksOf ps row)) = [] := by simp [he]
      rw [htk, List.filter_append, e1, List.append_nil]
      exact h3.lists (.of_keeps (Keeps.heap K₄))
  · rintro D s₃ ys K₃ hD hpl₃ ⟨bs, h1, h2, h3⟩
    rw [sz, List.take_length] at h3
    subst h1
    have hin : row ∈ (ordersN ps.length).filter fun o => decide (marksOf ps o = marksOf ps row) := List.mem_filter.mpr ⟨hok.1, by simp⟩
    have hin' : zsOf row ∈ ((ordersN ps.length).filter fun o => decide (marksOf ps o = marksOf ps row)).map zsOf := List.mem_map.mpr ⟨row, hin, rfl⟩
    refine min_call hh (by omega) hpl₃ h3 ?_ fun i b x s₄ e1 e2 hmin K₄ => ?_
    · rw [h3.1]; exact List.length_pos_of_mem hin'
    obtain ⟨vs, p1, p2⟩ := h3.2 i b x e1 e2
    obtain ⟨rvs, r1, r2⟩ := hr
    have K34 : KeepsH s.heap s₄.heap := (Keeps.heap K₃).trans (Keeps.heap K₄)
    have hx : zsOf row = x := by
      obtain ⟨o, ho, rfl⟩ := List.mem_map.mp (List.mem_of_getElem? e2)
      obtain ⟨ho1, ho2⟩ := List.mem_filter.mp ho
      have ho2 : marksOf ps o = marksOf ps row := by simpa using ho2
      have l1 := (law_plain ps hok o ho1).2 ho2
      have l2 := hmin _ hin'
      rcases lt_tri (zsOf row) (zsOf o) with t | t | t
      · exact absurd t l2
      · exact t
      · exact absurd t l1
    refine ne_intsK (r1.at fun o e => K34 _ o e).isList r2 (p1.at fun o e => Keeps.heap K₄ _ o e).isList p2 hu (wpAny_truthy_bool ?_)
    rw [show decide (List.map (fun k => ((k : Nat) : Int)) row = x) = true from decide_eq_true hx]
    rw [if_neg (by decide)]
    exact wpAny_execs_nil (h _ ((Keeps.rest K₃).trans (Keeps.rest K₄)) (F.kept K34) K34)
end
end Mine
end

/-! L6 -/
section
open PySem PySem.W PySem.Calls PyProof.Rows
set_option maxRecDepth 100000
namespace Mine
set_option linter.unusedVariables false
set_option linter.unusedSimpArgs false

section
variable {prog : Program} {w : World} {A : Around} {E : Value → Shared → Prop} {s : Shared} {mg mb : Str → Option Value} {ad : Adr} {qual : Str} {L a : Addr} {cd : Value} {B : Heap} {m cm : Str → Option Value}

theorem isi_int_bool {n : Int} {u : Tok} {Q : Value → Shared → Prop} (h : Q (.bool false) { s with toks := s.toks + 1 }) : wpAny (model prog w) A (call (.builtin "isinstance") [.int n u, .type "bool"]) Q E s := by
  obtain ⟨h', g, d, t, os⟩ := s
  exact call_isinstance_of (isinstance_nested_false_int (by decide) rfl rfl h)

theorem coll_least {ps : List (List It)} {row o : List Nat} (hok : RowOk ps ps.length row) (ho : o ∈ ordersN ps.length) : collOf (sentStr (itsOf ps row)) (sentStr (itsOf ps o)) = if marksOf ps o = marksOf ps row then 0 else -1 := by
  rw [coll_marks]
  have l1 := (law_plain ps hok o ho).1
  show (if marksOf ps o < marksOf ps row then (1 : Int) else if marksOf ps row < marksOf ps o then -1 else 0) = _
  rw [if_neg l1]
  rcases lt_tri (marksOf ps row) (marksOf ps o) with t | t | t
  · rw [if_pos t, if_neg (fun e => by rw [e] at t; exact absurd t (List.lt_irrefl _))]
  · rw [if_neg (fun e => by rw [t] at e; exact absurd e (List.lt_irrefl _)), if_pos t.symm]
  · exact absurd t l1

set_option maxHeartbeats 2000000 in
theorem law_last {p oL l : Addr} {ps : List (List It)} {row : List Nat} {vl : List Value} {tb : Tok} {Q : Flow → Shared → Prop} (G : Gd mg mb ad B) (F : Fm (lE qual L a cd) [] B m cm s.heap) (hroom : A.depth + 1 < recursionLimit) (hh : A.handled = none) (hu : A.units + 64 < cLine)
    (hp : PiecesAt s.heap p ps) (hpl : ps.length ≤ 4) (hps : ∀ q ∈ ps, q.length ≤ 3) (hO : OrdersAt s.heap oL (ordersN ps.length)) (hok : RowOk ps ps.length row)
    (hl : s.heap.PlainList l vl.toArray) (hli : IntsAre vl (marksOf ps row))
    (m3 : m "orders" = some (.ref oL)) (m4 : m "best" = some (.str (sentStr (itsOf ps row)) tb)) (c1 : cm "pieces" = some (.ref p)) (c3 : cm "least" = some (.ref l))
    (h : ∀ s' m' cm', Rest s s' → Fm (lE qual L a cd) [] B m' cm' s'.heap → Q .next s') :
    wpAny (model prog w) A (exec (stOf (bodyAt 13) 7) (lE qual L a cd)) Q E s := by
  obtain ⟨as, hO1, hO2⟩ := id hO
  have hroom' : A.depth < recursionLimit := Nat.lt_of_succ_lt hroom
  refine wpAny_For (nameL F rfl rfl m3 ?_) (fun _ => rfl)
  refine for_list (V := []) (um := fun m v => upd m "order" v) (uc := fun cm _ => cm) hh (Stores.local rfl) rfl (fun _ ha => by cases ha) F hO1.isList (fun ha => by cases ha)
    (fun i h m cm => m "best" = some (.str (sentStr (itsOf ps row)) tb) ∧ cm "pieces" = some (.ref p) ∧ cm "least" = some (.ref l) ∧ PiecesAt h p ps ∧ RowsAt h as ((ordersN ps.length).map zsOf) ∧ h.PlainList l vl.toArray) ?_ ⟨m4, c1, c3, hp, hO2, hl⟩ ?_ ?_
  · rintro i h h' m cm hL ⟨h1, h2, h3, h4, h5, h6⟩
    exact ⟨h1, h2, h3, h4.lists hL, h5.lists hL, hL _ _ h6⟩
  · rintro i v B' m' cm' s₁ E' hv ⟨h1, h2, h3, h4, h5, h6⟩ KB F₁ L₁ r₁
    have LB : Lists s₁.heap B' := fun a its q => L₁ a its (fun ha => by cases ha) q
    have hp' := h4.lists LB
    have hr' := h5.lists LB
    have hl' := LB _ _ h6
    have G' := G.keeps KB
    obtain ⟨b, o, rfl, ho, hob⟩ := rows_at hr' i v hv
    have hom := List.mem_of_getElem? ho
    have hlt := ordersN_lt _ o hom
    have hol : o.length ≤ 4 := by rw [ordersN_length _ o hom]; exact hpl
    have G₁ := G'.keeps F₁.keep
    refine wpAny_execs_cons (assignL (V := []) rfl rfl rfl (callName2 (i := 10) G₁.g G₁.gmk G₁.fmk rfl rfl rfl rfl (nameC F₁ rfl rfl rfl h2 (nameL F₁ rfl rfl upd_same ⟨fun _ _ e => e, ?_⟩))))
    refine marks_call G₁ hroom' hh (hp'.lists (.of_keeps F₁.keep)) (hob.lists (.of_keeps F₁.keep)) hlt (by omega) (by omega) hps fun s₂ d vs₂ K₂ f₂ I₂ i₂ => ⟨_, _, _, F₁.kept (Keeps.heap K₂), fun s₃ r₃ F₃ L₃ => ?_⟩
    have I₃ := L₃ _ _ I₂
    have G₃ := G'.keeps F₃.keep
    refine wpAny_execs_cons (assignL (V := []) rfl rfl rfl (callName2 (i := 12) G₃.g G₃.gse G₃.fse rfl rfl rfl rfl (nameC F₃ rfl rfl rfl h2 (nameL F₃ rfl rfl ((upd_ne (by decide)).trans upd_same) ⟨fun _ _ e => e, ?_⟩))))
    refine sent_call G₃ hroom hh (hp'.lists (.of_keeps F₃.keep)) (hob.lists (.of_keeps F₃.keep)) hlt (by omega) (by omega) hps fun s₄ t₄ K₄ => ⟨_, _, _, F₃.kept (Keeps.heap K₄), fun s₅ r₅ F₅ L₅ => ?_⟩
    have I₅ := L₅ _ _ (I₃.at fun o e => Keeps.heap K₄ _ o e)
    have G₅ := G'.keeps F₅.keep
    have hml := marksOf_length ps hps o hlt
    refine wpAny_execs_cons (wpAny_If (wpAny_isTrue_Compare1 (nameL F₅ rfl rfl upd_same ?_)))
    refine callName1 (i := 11) G₅.g G₅.gtl G₅.ftl rfl rfl rfl rfl (nameL F₅ rfl rfl ((upd_ne (by decide)).trans upd_same) ⟨fun _ _ e => e, ?_⟩)
    refine told_call G₅ hroom' hh I₅ i₂ (fun x hx => (marksOf_marks ps o x hx).bound) (by omega) fun s₆ t₆ K₆ => ?_
    refine ne_str (wpAny_truthy_bool ?_)
    have e0 : (sentStr (itsOf ps o) != (⟨(told true (marksOf ps o)).toArray⟩ : Str)) = false := bne_self_eq_false (sentStr (itsOf ps o))
    rw [e0, if_neg Bool.false_ne_true]
    refine wpAny_execs_nil ?_
    have F₆ := F₅.kept (Keeps.heap K₆)
    have I₆ := I₅.at fun o e => Keeps.heap K₆ _ o e
    have G₆ := G'.keeps F₆.keep
    refine wpAny_execs_cons (assignL (V := []) rfl rfl rfl (callName2 (i := 7) G₆.g G₆.gsc G₆.fsc rfl rfl rfl rfl (nameL F₆ rfl rfl ((upd_ne (by decide)).trans ((upd_ne (by decide)).trans ((upd_ne (by decide)).trans h1))) (nameL F₆ rfl rfl upd_same ⟨fun _ _ e => e, ?_⟩))))
    refine strcoll_call G₆ hroom' fun h₇ tk tk' k₇ => ⟨_, _, _, F₆.kept k₇, fun s₈ r₈ F₈ L₈ => ?_⟩
    have I₈ := L₈ _ _ (I₆.at fun o e => k₇ _ o e)
    rw [coll_least hok hom] at F₈
    have G₈ := G'.keeps F₈.keep
    refine wpAny_execs_cons (wpAny_If (isTrue_or (isTrue_plain (callB2 G₈.g G₈.b G₈.nisi G₈.bisi rfl rfl rfl rfl rfl (nameL F₈ rfl rfl upd_same (nameB G₈.g G₈.b G₈.nbool G₈.bbool rfl rfl rfl rfl (isi_int_bool (wpAny_truthy_bool ?_))))))))
    rw [if_neg Bool.false_ne_true]
    have hl₈ := hl'.at fun o e => F₈.keep _ o e
    refine isTrue_or (wpAny_isTrue_Compare1 (nameL (s := { s₈ with toks := s₈.toks + 1 }) F₈ rfl rfl upd_same (wpAny_IfExp (wpAny_isTrue_Compare1 (nameL (s := { s₈ with toks := s₈.toks + 1 }) F₈ rfl rfl ((upd_ne (by decide)).trans ((upd_ne (by decide)).trans upd_same)) (nameC (s := { s₈ with toks := s₈.toks + 1 }) F₈ rfl rfl rfl h3 (eq_intsK (s := { s₈ with toks := s₈.toks + 1 }) I₈.isList i₂ hl₈.isList hli hu (wpAny_truthy_bool ?_))))))))
    have fin : ∀ (s₉ : Shared) E₉, Rest s₈ s₉ → s₉.heap = s₈.heap → wpAny (model prog w) A (execs [] (lE qual L a cd)) (fun f s₂ => f = .next ∧ Rest s₁ s₂ ∧ ∃ m₂ cm₂, Fm (lE qual L a cd) [] B' m₂ cm₂ s₂.heap ∧
        m₂ "best" = some (.str (sentStr (itsOf ps row)) tb) ∧ cm₂ "pieces" = some (.ref p) ∧ cm₂ "least" = some (.ref l) ∧ PiecesAt s₂.heap p ps ∧ RowsAt s₂.heap as ((ordersN ps.length).map zsOf) ∧ s₂.heap.PlainList l vl.toArray) E₉ s₉ := by
      intro s₉ E₉ r₉ e₉
      have F₉ := F₈
      rw [← e₉] at F₉
      refine wpAny_execs_nil ⟨rfl, ((((((Keeps.rest K₂).trans r₃).trans (Keeps.rest K₄)).trans r₅).trans (Keeps.rest K₆)).trans (Rest.trans .mk r₈)).trans r₉, _, _, F₉, ?_, h2, h3, hp'.lists (.of_keeps F₉.keep), hr'.lists (.of_keeps F₉.keep), hl'.at fun o e => F₉.keep _ o e⟩
      exact (upd_ne (by decide)).trans ((upd_ne (by decide)).trans ((upd_ne (by decide)).trans ((upd_ne (by decide)).trans h1)))
    by_cases he : marksOf ps o = marksOf ps row
    · rw [if_pos (by simp [he]), if_pos he]
      refine wpAny_Constant_int (ne_int (wpAny_truthy_bool ?_))
      rw [if_neg (by decide)]
      refine isTrue_or_nil ?_
      rw [if_neg Bool.false_ne_true]
      exact wpAny_execs_nil (fin _ _ .tok rfl)
    · rw [if_neg (by simp [he]), if_neg he]
      refine UnaryOp_ (wpAny_Constant_int (neg_int (ne_int (wpAny_truthy_bool ?_))))
      rw [if_neg (by decide)]
      refine isTrue_or_nil ?_
      rw [if_neg Bool.false_ne_true]
      exact wpAny_execs_nil (fin _ _ .tok rfl)
  · rintro m' cm' s' r' F' _
    exact h s' m' cm' r' F'
end
end Mine
end

/-! L7 -/
section
open PySem PySem.W PySem.Calls PyProof.Rows
set_option maxRecDepth 100000
namespace Mine
set_option linter.unusedVariables false
set_option linter.unusedSimpArgs false

section
variable {prog : Program} {w : World} {A : Around} {E : Value → Shared → Prop} {s : Shared} {mg mb : Str → Option Value} {ad : Adr} {qual : Str} {L a : Addr} {cd : Value} {B : Heap} {m cm : Str → Option Value}

set_option maxHeartbeats 2000000 in
theorem law_body {sc : Addr} {vs : List Value} {ns : List Int} {Q : Flow → Shared → Prop} (G : Gd mg mb ad B) (F : Fm (lE qual L a cd) [] B m cm s.heap) (hroom : A.depth + 1 < recursionLimit) (hh : A.handled = none) (hu : A.units + 64 < cLine)
    (hl : s.heap.IsList sc vs.toArray) (hi : IntsAre vs ns) (hlen : ns.length ≤ 100) (hm : m "script" = some (.ref sc))
    (h : ∀ s' m' cm', Rest s s' → Fm (lE qual L a cd) [] B m' cm' s'.heap → Q (.ret (.bool true)) s') :
    wpAny (model prog w) A (execs (bodyAt 13) (lE qual L a cd)) Q E s := by
  have hroom' : A.depth < recursionLimit := Nat.lt_of_succ_lt hroom
  have hpl := (psOf_length ns).2
  have hps := psOf_each ns
  have hps3 : ∀ q ∈ psOf ns, q.length ≤ 3 := fun q hq => (hps q hq).2
  refine wpAny_execs_cons (law_pieces G F hroom' hh hl hi hlen hm fun s₁ p r₁ F₁ P₁ => ?_)
  generalize psOf ns = ps at hpl hps hps3 P₁
  refine wpAny_execs_cons (assignL (V := []) rfl rfl rfl (List_ (spliced_nil (wpAny_newList ⟨_, _, _, F₁.kept (push_keeps _ _), fun s₂ r₂ F₂ L₂ => ?_⟩))))
  have P₂ := (P₁.lists (.of_keeps (push_keeps _ _))).lists L₂
  have O₂ : OrderAt s₂.heap s₁.heap.objs.size [] := ⟨[], L₂ _ _ ⟨0, Heap.get?_push_size _ rfl⟩, .nil⟩
  generalize s₁.heap.objs.size = r at F₂ O₂
  refine wpAny_execs_cons (assignL (V := []) rfl rfl rfl (disp1 rfl (List_ (spliced_nil (wpAny_newList fun d s₃ K₃ f₃ I₃ => ⟨_, _, _, (F₂.kept (push_keeps _ _)).kept (Keeps.heap K₃), fun s₄ r₄ F₄ L₄ => ?_⟩)))))
  have K23 : KeepsH s₂.heap s₃.heap := (push_keeps _ _).trans (Keeps.heap K₃)
  have P₄ := (P₂.lists (.of_keeps K23)).lists L₄
  have O₄ := (O₂.lists (.of_keeps K23)).lists L₄
  have D₄ : OrdersAt s₄.heap d (ordersN 0) := by
    have e : s₃.heap.PlainList s₂.heap.objs.size ([] : List Value).toArray := ⟨0, Keeps.heap K₃ _ _ (Heap.get?_push_size _ rfl)⟩
    exact ⟨[s₂.heap.objs.size], L₄ _ _ I₃, RowsAt.snoc (as := []) (xss := []) ⟨rfl, fun i a xs e => by simp at e⟩ (L₄ _ _ e) .nil⟩
  refine wpAny_execs_cons (law_for (p := p) (r := r) (oL := d) (ps := ps) G F₄ hroom hh P₄ hpl hps O₄ D₄ ((upd_ne (by decide)).trans upd_same) upd_same upd_same ?_)
  intro s₅ m₅ cm₅ r' oL row r₅ F₅ n1 n2 n3 P₅ O₅ hok D₅
  refine wpAny_execs_cons (law_least (p := p) (oL := oL) (ps := ps) G F₅ hroom' hh (by omega) P₅ hpl hps3 D₅ (List.length_pos_of_mem hok.1) n2 n3 ?_)
  intro s₆ l vl x r₆ F₆ L₆ I₆ i₆ x₆ min₆
  have hx : x = marksOf ps row := by
    obtain ⟨o, ho, rfl⟩ := List.mem_map.mp x₆
    have l1 := (law_plain ps hok o ho).1
    have l2 := min₆ (marksOf ps row) (List.mem_map.mpr ⟨row, hok.1, rfl⟩)
    rcases lt_tri (marksOf ps o) (marksOf ps row) with t | t | t
    · exact absurd t l1
    · exact t
    · exact absurd t l2
  subst hx
  have P₆ := P₅.lists L₆
  have O₆ := O₅.lists L₆
  have D₆ := D₅.lists L₆
  have c1 : upd cm₅ "least" (.ref l) "pieces" = some (.ref p) := (upd_ne (by decide)).trans n3
  refine wpAny_execs_cons (law_if (p := p) (oL := oL) (r := r') (l := l) (ps := ps) (row := row) G F₆ hroom' hh hu P₆ hpl hps3 D₆ O₆ hok I₆ i₆ n1 n2 c1 upd_same ?_)
  intro s₇ r₇ F₇ K₇
  have P₇ := P₆.lists (.of_keeps K₇)
  have O₇ := O₆.lists (.of_keeps K₇)
  have D₇ := D₆.lists (.of_keeps K₇)
  have I₇ := I₆.at fun o e => K₇ _ o e
  have G₇ := G.keeps F₇.keep
  have hrl := ordersN_length _ row hok.1
  refine wpAny_execs_cons (assignL (V := []) rfl rfl rfl (callName2 (i := 12) G₇.g G₇.gse G₇.fse rfl rfl rfl rfl (nameC F₇ rfl rfl rfl c1 (nameL F₇ rfl rfl n1 ⟨fun _ _ e => e, ?_⟩))))
  refine sent_call G₇ hroom hh P₇ O₇ (ordersN_lt _ row hok.1) (by omega) (by omega) hps3 fun s₈ t₈ K₈ => ⟨_, _, _, F₇.kept (Keeps.heap K₈), fun s₉ r₉ F₉ L₉ => ?_⟩
  have L89 : Lists s₇.heap s₉.heap := fun a its q => L₉ _ _ (q.at fun o e => Keeps.heap K₈ _ o e)
  refine wpAny_execs_cons (law_last (p := p) (oL := oL) (l := l) (ps := ps) (row := row) G F₉ hroom hh hu (P₇.lists L89) hpl hps3 (D₇.lists L89) hok (L89 _ _ I₇) i₆ ((upd_ne (by decide)).trans n2) upd_same c1 upd_same ?_)
  intro s' m' cm' r₁₀ F₁₀
  have R1 : Rest s s₄ := ((r₁.trans (Rest.trans .heap r₂)).trans (Rest.trans (Rest.trans .heap (Keeps.rest K₃)) r₄))
  have R2 : Rest s₄ s' := (((r₅.trans r₆).trans r₇).trans ((Keeps.rest K₈).trans r₉)).trans r₁₀
  exact wpAny_execs_cons (wpAny_Return_some (wpAny_pure (h s' m' cm' (R1.trans R2) F₁₀)))
end
end Mine
end

/-! Gd1 -/
section
open PySem PySem.W PySem.Calls PyProof.Rows
set_option maxRecDepth 100000
namespace Mine
set_option linter.unusedVariables false

theorem fn_of {p : Program} {loose : List Str} {mean : ExcName → Option Value} {mg mb : Str → Option Value} {h : Heap} (T : Top p loose mean mg mb h) {i k : Nat} {nm : Str} {pos : Pos} (hm : (recsOf p)[k]? = some ⟨nm, parAt i, bodyAt i, scopeAt i, pos⟩) :
    ∃ a, mg nm = some (.ref a) ∧ IsFn h a i := by
  obtain ⟨a, o, pm, code, doc, h1, h2, h3, h4⟩ := T.fn _ (List.mem_of_getElem? hm)
  exact ⟨a, h1, o, nm, nm, doc, pm, _, code, _, h2, h3, h4⟩

theorem pat1 {P : Params} {h : Heap} (X : (hd.heap_39 P).In h) : IsPat h 36 code1 :=
  ⟨_, _, _, _, _, _, X 36 _ rfl, rfl, rfl, rfl, rfl, rfl, rfl, X 35 _ rfl, rfl, by decide +kernel⟩
theorem pat2 {P : Params} {h : Heap} (X : (hd.heap_39 P).In h) : IsPat h 41 code2 :=
  ⟨_, _, _, _, _, _, X 41 _ rfl, rfl, rfl, rfl, rfl, rfl, rfl, X 40 _ rfl, rfl, by decide +kernel⟩

theorem gd_of {w : World} {loose : List Str} {mean : ExcName → Option Value} {mg mb : Str → Option Value} {h : Heap} (X : (hd.heap_39 w.params).In h) (T : Top hd.view_39 loose mean mg mb h) : ∃ ad, Gd mg mb ad h := by
  obtain ⟨q, hq, fq⟩ := fn_of T (i := 5) (k := 0) (nm := "quotedata") rfl
  obtain ⟨sc, hsc, fsc⟩ := fn_of T (i := 7) (k := 1) (nm := "_strcoll") rfl
  obtain ⟨pc, hpc, fpc⟩ := fn_of T (i := 9) (k := 2) (nm := "_law_piece") rfl
  obtain ⟨mk, hmk, fmk⟩ := fn_of T (i := 10) (k := 3) (nm := "_law_marks") rfl
  obtain ⟨tl, htl, ftl⟩ := fn_of T (i := 11) (k := 4) (nm := "_law_told") rfl
  obtain ⟨se, hse, fse⟩ := fn_of T (i := 12) (k := 5) (nm := "_law_sent") rfl
  have bt : ∀ (x : Str) (v : Value), x ≠ "__name__" → bootBuiltins x = some v → mb x = some v := fun x v hx e => (T.builtins x hx).trans e
  exact ⟨⟨q, sc, pc, mk, tl, se, 36, 41⟩,
    { g := T.g, b := T.b, lim := T.nolimit, gq := hq, gsc := hsc, gpc := hpc, gmk := hmk, gtl := htl, gse := hse, gp1 := mg_of X T.g rfl, gp2 := mg_of X T.g rfl, gcr := ⟨_, mg_of X T.g rfl⟩,
      fq, fsc, fpc, fmk, ftl, fse, P1 := pat1 X, P2 := pat2 X,
      nlen := mg_none_of X T.g rfl, nrange := mg_none_of X T.g rfl, nord := mg_none_of X T.g rfl, nchr := mg_none_of X T.g rfl, nmin := mg_none_of X T.g rfl, nisi := mg_none_of X T.g rfl, nbool := mg_none_of X T.g rfl,
      blen := bt _ _ (by decide) PyProof.Rows.Boot.len, brange := bt _ _ (by decide) PyProof.Rows.Boot.range, bord := bt _ _ (by decide) PyProof.Rows.Boot.ord, bchr := bt _ _ (by decide) PyProof.Rows.Boot.chr, bmin := bt _ _ (by decide) PyProof.Rows.Boot.min, bisi := bt _ _ (by decide) PyProof.Rows.Boot.isinstance, bbool := bt _ _ (by decide) PyProof.Rows.Boot.bool }⟩
end Mine
end

/-! Fin1 -/
section
open PySem PySem.W PySem.Calls PyProof.Rows
set_option maxRecDepth 100000
namespace Mine
set_option linter.unusedVariables false

theorem top_fm {h₀ h₁ : Heap} {L a : Addr} {qual : Str} {cd : Value} {m cm : Str → Option Value} {o1 o2 o3 : Obj} (F : Fr h₀ L h₁ m) (hL : L = h₀.objs.size) (N : News h₀ L h₁ [(L + 3, o1), (L + 2, o2), (L + 1, o3)])
    (d1 : o1.data = .cell (cm "least")) (d2 : o2.data = .cell (cm "place")) (d3 : o3.data = .cell (cm "pieces")) : Fm (lE qual L a cd) [] h₀ m cm h₁ := by
  have each : ∀ n c, (n, c) ∈ (lE qual L a cd).cells → ∃ o, h₁.get? c = some o ∧ o.data = .cell (cm n) ∧ c ≠ L ∧ h₀.get? c = none := fun n c hm => by
    rcases List.mem_cons.mp hm with e | hm
    · obtain ⟨rfl, rfl⟩ := Prod.mk.inj e
      have := N _ List.mem_cons_self
      exact ⟨o1, this.1, d1, this.2⟩
    · rcases List.mem_cons.mp hm with e | hm
      · obtain ⟨rfl, rfl⟩ := Prod.mk.inj e
        have := N _ (List.mem_cons_of_mem _ List.mem_cons_self)
        exact ⟨o2, this.1, d2, this.2⟩
      · obtain ⟨rfl, rfl⟩ := Prod.mk.inj (List.mem_singleton.mp hm)
        have := N _ (List.mem_cons_of_mem _ (List.mem_cons_of_mem _ List.mem_cons_self))
        exact ⟨o3, this.1, d3, this.2⟩
  have ne : ∀ i j : Nat, i ≠ j → (L : Nat) + i ≠ L + j := fun i j h e => h (Nat.add_left_cancel e)
  refine ⟨F.ns, F.keep, fun n c hm => let ⟨o, h1, h2, _⟩ := each n c hm; ⟨o, h1, h2⟩, ?_, one_name ?_, fun n c hm => let ⟨_, _, _, h3, _⟩ := each n c hm; h3, ?_, fun n c hm => let ⟨_, _, _, _, h4⟩ := each n c hm; h4, fun _ ha => by cases ha⟩
  · refine List.pairwise_cons.mpr ⟨fun x hx => ?_, List.pairwise_cons.mpr ⟨fun x hx => ?_, List.pairwise_singleton _ _⟩⟩
    · rcases List.mem_cons.mp hx with rfl | hx
      · exact ne 3 2 (by decide)
      · rw [List.mem_singleton.mp hx]; exact ne 3 1 (by decide)
    · rw [List.mem_singleton.mp hx]; exact ne 2 1 (by decide)
  · show ([("least" : Str), ("place" : Str), ("pieces" : Str)] : List Str).Nodup
    decide
  · show h₀.get? L = none
    rw [hL]; exact fresh_none _

theorem room_ok (env : Env) : (callerA.deeper env).depth + 1 < recursionLimit := by
  show callerA.depth + 1 + 1 < recursionLimit
  decide
theorem units_ok (env : Env) : (callerA.deeper env).units + 64 < cLine := by
  show callerA.units + 3 + 64 < cLine
  decide

set_option maxHeartbeats 8000000 in
theorem law_holds : PySem.Challenge.rw_pe0013_01.Holds := hd (by
  k_go0
  rename (Frag.In _ _) => KX
  rename (Top _ _ _ _ _ _) => T
  rename (Fr _ _ _ _) => F
  rename (News _ _ _ _) => N
  rename (IntsAre _ _) => hI
  rename (Heap.IsList _ _ _) => hL
  rename (Shared.gens _ = #[]) => hg
  obtain ⟨ad, G⟩ := gd_of KX T
  refine law_body G (top_fm F rfl N (by assumption) (by assumption) (by assumption)) ?_ rfl ?_ (hL.at fun o e => F.keep _ o e) hI ?_ rfl ?_
  · exact room_ok _
  · exact units_ok _
  · omega
  · rintro s' m' cm' ⟨h', tk', rfl⟩ F'
    refine goodW_bool (b := true) ⟨F'.ns, F'.keep, Nat.le_refl _⟩ hg (raisesW_false ?_) ?_
    · wrow_none_raised
    · wrow_post)
end Mine
end

theorem PySem.Challenge.cw_pe0013_01_holds : PySem.Challenge.rw_pe0013_01.Holds :=
  Mine.law_holds
