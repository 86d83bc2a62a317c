import PyProof.Rows.All
import Wide.All
import OpenK.AllK
import Wide.FinOn
import PySem.Challenge.RW_sw0023_01
set_option Elab.async false
set_option maxRecDepth 100000
set_option maxHeartbeats 4000000
set_option linter.unusedVariables false
namespace Mine
open PySem PySem.Sre

def code1 : Array Nat := #[14, 4, 0, 1, 1, 6, 1, 16, 46, 1]
def code2 : Array Nat := #[14, 9, 4, 1, 2, 16, 10, 16, 13, 0, 7, 7, 16, 13, 16, 10, 15, 18, 5, 16, 10, 15, 13, 11, 16, 13, 5, 5, 0, 16, 10, 1, 15, 2, 0, 1]

theorem runFor_succ (n : Nat) (m : M) : M.runFor (n + 1) m = if m.outcome.isSome then m else M.runFor n m.step := rfl
theorem runFor_done {m : M} (h : m.outcome.isSome = true) : ∀ n, M.runFor n m = m
  | 0 => rfl
  | n + 1 => by rw [runFor_succ, if_pos h]
theorem runFor_add (a b : Nat) (m : M) : M.runFor (a + b) m = M.runFor b (M.runFor a m) := by
  induction a generalizing m with
  | zero => rw [Nat.zero_add]; rfl
  | succ a ih =>
    rw [Nat.succ_add_eq_add_succ, Nat.add_succ, runFor_succ, runFor_succ]
    by_cases h : m.outcome.isSome = true
    · rw [if_pos h, if_pos h, runFor_done h]
    · rw [if_neg h, if_neg h, ih]
theorem runFor_step {m : M} (h : m.outcome.isSome = false) (n : Nat) : M.runFor (n + 1) m = M.runFor n m.step := by rw [runFor_succ, if_neg (by rw [h]; exact Bool.false_ne_true)]

/-- what a search comes to within k steps -/
def Finds (k : Nat) (m : M) (s e : Nat) : Prop := ∃ n m', n ≤ k ∧ M.runFor n m = m' ∧ m'.outcome = some .matched ∧ m'.start = s ∧ m'.handed = e
def Fails (k : Nat) (m : M) : Prop := ∃ n m', n ≤ k ∧ M.runFor n m = m' ∧ m'.outcome = some .failed
theorem Finds.after {k n : Nat} {m m' : M} {s e : Nat} (h : M.runFor n m = m') (x : Finds k m' s e) : Finds (n + k) m s e := by
  obtain ⟨a, m'', ha, hr, r⟩ := x
  exact ⟨n + a, m'', by omega, by rw [runFor_add, h, hr], r⟩
theorem Fails.after {k n : Nat} {m m' : M} (h : M.runFor n m = m') (x : Fails k m') : Fails (n + k) m := by
  obtain ⟨a, m'', ha, hr, r⟩ := x
  exact ⟨n + a, m'', by omega, by rw [runFor_add, h, hr], r⟩
theorem Finds.mono {k k' : Nat} {m : M} {s e : Nat} (h : k ≤ k') (x : Finds k m s e) : Finds k' m s e := let ⟨a, m'', ha, r⟩ := x; ⟨a, m'', Nat.le_trans ha h, r⟩
theorem Fails.mono {k k' : Nat} {m : M} (h : k ≤ k') (x : Fails k m) : Fails k' m := let ⟨a, m'', ha, r⟩ := x; ⟨a, m'', Nat.le_trans ha h, r⟩

/-! the first pattern: a dot at a line's start -/
/-- a state of the machine within an attempt at s -/
def St (code text : Array Nat) (lim s : Nat) (must first : Bool) (pc pos handed : Nat) (out : Bool) (answer : Option Bool) (fs : List Sre.Frame) (wt : Nat) (seen : Seen) : M :=
  { code, text, lim, start := s, lastStart := lim, mustAdvance := must, pc, pos, handed, outermost := out, marks := #[], frames := fs, weight := wt, answer, seen }
def fr0 (pc s : Nat) (first : Bool) : Sre.Frame := { wait := .nextStart, pc, pos := s, outermost := first }
def st1 (text : Array Nat) (lim s : Nat) (must first : Bool) (seen : Seen) : M := St code1 text lim s must first 5 s s first none [fr0 5 s first] 1 seen

theorem search1 (text : Array Nat) (lim pos : Nat) (h : pos < lim) (must : Bool) : forSearch code1 text 0 pos lim must = st1 text lim pos must true (({} : Seen).add 14) := by
  have e : (decide (pos > lim) || decide (lim - pos < 1)) = false := by
    have h1 : ¬ pos > lim := by omega
    have h2 : ¬ lim - pos < 1 := by omega
    simp [h1, h2]
  unfold forSearch
  show (if (decide (pos > lim) || decide (lim - pos < 1)) = true then _ else _) = _
  rw [e]
  rfl
theorem search1_none (text : Array Nat) (lim pos : Nat) (h : lim ≤ pos) (must : Bool) : Fails 1 (forSearch code1 text 0 pos lim must) := by
  have e : (decide (pos > lim) || decide (lim - pos < 1)) = true := by
    have h2 : lim - pos < 1 := by omega
    simp [h2]
  refine ⟨1, _, Nat.le_refl _, rfl, ?_⟩
  unfold forSearch
  show (M.runFor 1 (if (decide (pos > lim) || decide (lim - pos < 1)) = true then _ else _)).outcome = _
  rw [e]
  rfl
def bol (text : Array Nat) (s : Nat) : Bool := s == 0 || text.getD (s - 1) 0 == 10
section
variable (text : Array Nat) (lim s : Nat) (must first : Bool) (seen : Seen)
theorem step1_at : M.step (St code1 text lim s must first 5 s s first none [fr0 5 s first] 1 seen) =
    if bol text s = true then St code1 text lim s must first 7 s s first none [fr0 5 s first] 1 ((seen.add 6).add 44) else St code1 text lim s must first 5 s s first (some false) [fr0 5 s first] 1 ((seen.add 6).add 44) := rfl
theorem step1_lit : M.step (St code1 text lim s must first 7 s s first none [fr0 5 s first] 1 seen) =
    if s ≥ lim then St code1 text lim s must first 7 s s first (some false) [fr0 5 s first] 1 (seen.add 16) else
    match (text.getD s 0 == 46) with
    | false => St code1 text lim s must first 7 s s first (some false) [fr0 5 s first] 1 (seen.add 16)
    | true => St code1 text lim s must first 9 (s + 1) s first none [fr0 5 s first] 1 (seen.add 16) := by
  by_cases h : s ≥ lim
  · rw [if_pos h]
    show (if s ≥ lim then _ else _) = _
    rw [if_pos h]; rfl
  · rw [if_neg h]
    show (if s ≥ lim then _ else _) = _
    rw [if_neg h]
    show (match (Except.ok (text.getD s 0 == 46, _) : Except String (Bool × Seen)) with | .error why => _ | .ok (false, seen) => _ | .ok (true, seen) => _) = _
    cases (text.getD s 0 == 46) <;> rfl
theorem step1_suc : M.step (St code1 text lim s must first 9 (s + 1) s first none [fr0 5 s first] 1 seen) = St code1 text lim s must first 9 (s + 1) (s + 1) first (some true) [fr0 5 s first] 1 (seen.add 1) := by
  show (if (first && (false || (must && (s + 1 == s)))) = true then _ else _) = _
  have e : (s + 1 == s) = false := by simp
  rw [e, Bool.and_false, Bool.or_false, Bool.and_false]
  rfl
theorem miss1_next (pc : Nat) (hs : s < lim) : M.step (St code1 text lim s must first pc s s first (some false) [fr0 5 s first] 1 seen) = st1 text lim (s + 1) false false seen := by
  show (if (false : Bool) = true then _ else if s < lim then _ else _) = _
  rw [if_neg Bool.false_ne_true, if_pos hs]
  rfl
theorem miss1_end (pc : Nat) (hs : ¬ s < lim) : M.step (St code1 text lim s must first pc s s first (some false) [fr0 5 s first] 1 seen) = St code1 text lim s must first 5 s s first (some false) [] 0 seen := by
  show (if (false : Bool) = true then _ else if s < lim then _ else _) = _
  rw [if_neg Bool.false_ne_true, if_neg hs]
  rfl
end
def hit1 (text : Array Nat) (s : Nat) : Bool := bol text s && (text.getD s 0 == 46)
theorem hit1_finds (text : Array Nat) (lim s : Nat) (hs : s < lim) (h : hit1 text s = true) (must first : Bool) (seen : Seen) : Finds 5 (st1 text lim s must first seen) s (s + 1) := by
  obtain ⟨hb, hc⟩ := Bool.and_eq_true_iff.mp h
  refine ⟨5, _, Nat.le_refl _, rfl, ?_⟩
  unfold st1
  rw [runFor_step rfl, step1_at, if_pos hb, runFor_step rfl, step1_lit, if_neg (by omega), hc]
  dsimp only
  rw [runFor_step rfl, step1_suc]
  exact ⟨rfl, rfl, rfl⟩
theorem miss1_goes (text : Array Nat) (lim s : Nat) (hs : s < lim) (h : hit1 text s = false) (must first : Bool) (seen : Seen) : ∃ n, n ≤ 3 ∧ ∃ seen', M.runFor n (st1 text lim s must first seen) = st1 text lim (s + 1) false false seen' := by
  cases hb : bol text s with
  | false =>
    refine ⟨2, by omega, (seen.add 6).add 44, ?_⟩
    rw [st1, runFor_step rfl, step1_at, if_neg (by rw [hb]; exact Bool.false_ne_true), runFor_step rfl]
    exact miss1_next text lim s must first _ 5 hs
  | true =>
    have hc : (text.getD s 0 == 46) = false := by
      unfold hit1 at h
      rw [hb, Bool.true_and] at h; exact h
    refine ⟨3, by omega, ((seen.add 6).add 44).add 16, ?_⟩
    rw [st1, runFor_step rfl, step1_at, if_pos hb, runFor_step rfl, step1_lit, if_neg (by omega), hc]
    dsimp only
    rw [runFor_step rfl]
    exact miss1_next text lim s must first _ 7 hs
theorem end1_fails (text : Array Nat) (lim : Nat) (must first : Bool) (seen : Seen) : Fails 4 (st1 text lim lim must first seen) := by
  cases hb : bol text lim with
  | false =>
    refine ⟨3, _, by omega, rfl, ?_⟩
    rw [st1, runFor_step rfl, step1_at, if_neg (by rw [hb]; exact Bool.false_ne_true), runFor_step rfl, miss1_end _ _ _ _ _ _ _ (by omega)]
    rfl
  | true =>
    refine ⟨4, _, by omega, rfl, ?_⟩
    rw [st1, runFor_step rfl, step1_at, if_pos hb, runFor_step rfl, step1_lit, if_pos (Nat.le_refl _), runFor_step rfl, miss1_end _ _ _ _ _ _ _ (by omega)]
    rfl
theorem find1 (text : Array Nat) (lim : Nat) : ∀ (d s t : Nat), s + d = t → t < lim → (∀ j, s ≤ j → j < t → hit1 text j = false) → hit1 text t = true → ∀ must first seen, Finds (3 * d + 5) (st1 text lim s must first seen) t (t + 1)
  | 0, s, t, e, ht, _, hh, must, first, seen => by
    obtain rfl : s = t := by omega
    exact (hit1_finds text lim s ht hh must first seen).mono (by omega)
  | d + 1, s, t, e, ht, hm, hh, must, first, seen => by
    obtain ⟨n, hn, seen', hr⟩ := miss1_goes text lim s (by omega) (hm s (Nat.le_refl _) (by omega)) must first seen
    exact (Finds.after hr (find1 text lim d (s + 1) t (by omega) ht (fun j h1 h2 => hm j (by omega) h2) hh false false seen')).mono (by omega)
theorem fail1 (text : Array Nat) (lim : Nat) : ∀ (d s : Nat), s + d = lim → (∀ j, s ≤ j → j < lim → hit1 text j = false) → ∀ must first seen, Fails (3 * d + 4) (st1 text lim s must first seen)
  | 0, s, e, _, must, first, seen => by
    obtain rfl : s = lim := by omega
    exact (end1_fails text s must first seen).mono (by omega)
  | d + 1, s, e, hm, must, first, seen => by
    obtain ⟨n, hn, seen', hr⟩ := miss1_goes text lim s (by omega) (hm s (Nat.le_refl _) (by omega)) must first seen
    exact (Fails.after hr (fail1 text lim d (s + 1) (by omega) (fun j h1 h2 => hm j (by omega) h2) false false seen')).mono (by omega)
end Mine

namespace Mine
open PySem PySem.Sre

def nb (pc s : Nat) (first : Bool) : Sre.Frame := { wait := .nextBranch, pc, pos := s, outermost := first, kept := { lastmark := -1, lastindex := -1, whole := false, marks := #[] } }
def ln (pc s : Nat) (first : Bool) : Sre.Frame := { wait := .lookNot, pc, pos := s, outermost := first, kept := { lastmark := -1, lastindex := -1, whole := false, marks := #[] } }
def st2 (text : Array Nat) (lim s : Nat) (first : Bool) (seen : Seen) : M := St code2 text lim s false first 10 s s first none [fr0 10 s first] 1 seen

section
variable (text : Array Nat) (lim s : Nat) (first : Bool) (pos handed : Nat) (out : Bool) (fs : List Sre.Frame) (wt : Nat) (seen : Seen)
theorem lit2_12 : M.step (St code2 text lim s false first 12 pos handed out none fs wt seen) =
    if pos ≥ lim then St code2 text lim s false first 12 pos handed out (some false) fs wt (seen.add 16) else
    match (text.getD pos 0 == 13) with
    | false => St code2 text lim s false first 12 pos handed out (some false) fs wt (seen.add 16)
    | true => St code2 text lim s false first (12 + 2) (pos + 1) handed out none fs wt (seen.add 16) := by
  by_cases h : pos ≥ lim
  · rw [if_pos h]
    show (if pos ≥ lim then _ else _) = _
    rw [if_pos h]; rfl
  · rw [if_neg h]
    show (if pos ≥ lim then _ else _) = _
    rw [if_neg h]
    show (match (Except.ok (text.getD pos 0 == 13, _) : Except String (Bool × Seen)) with | .error why => _ | .ok (false, seen) => _ | .ok (true, seen) => _) = _
    cases (text.getD pos 0 == 13) <;> rfl
theorem lit2_14 : M.step (St code2 text lim s false first 14 pos handed out none fs wt seen) =
    if pos ≥ lim then St code2 text lim s false first 14 pos handed out (some false) fs wt (seen.add 16) else
    match (text.getD pos 0 == 10) with
    | false => St code2 text lim s false first 14 pos handed out (some false) fs wt (seen.add 16)
    | true => St code2 text lim s false first (14 + 2) (pos + 1) handed out none fs wt (seen.add 16) := by
  by_cases h : pos ≥ lim
  · rw [if_pos h]
    show (if pos ≥ lim then _ else _) = _
    rw [if_pos h]; rfl
  · rw [if_neg h]
    show (if pos ≥ lim then _ else _) = _
    rw [if_neg h]
    show (match (Except.ok (text.getD pos 0 == 10, _) : Except String (Bool × Seen)) with | .error why => _ | .ok (false, seen) => _ | .ok (true, seen) => _) = _
    cases (text.getD pos 0 == 10) <;> rfl
theorem lit2_19 : M.step (St code2 text lim s false first 19 pos handed out none fs wt seen) =
    if pos ≥ lim then St code2 text lim s false first 19 pos handed out (some false) fs wt (seen.add 16) else
    match (text.getD pos 0 == 10) with
    | false => St code2 text lim s false first 19 pos handed out (some false) fs wt (seen.add 16)
    | true => St code2 text lim s false first (19 + 2) (pos + 1) handed out none fs wt (seen.add 16) := by
  by_cases h : pos ≥ lim
  · rw [if_pos h]
    show (if pos ≥ lim then _ else _) = _
    rw [if_pos h]; rfl
  · rw [if_neg h]
    show (if pos ≥ lim then _ else _) = _
    rw [if_neg h]
    show (match (Except.ok (text.getD pos 0 == 10, _) : Except String (Bool × Seen)) with | .error why => _ | .ok (false, seen) => _ | .ok (true, seen) => _) = _
    cases (text.getD pos 0 == 10) <;> rfl
theorem lit2_24 : M.step (St code2 text lim s false first 24 pos handed out none fs wt seen) =
    if pos ≥ lim then St code2 text lim s false first 24 pos handed out (some false) fs wt (seen.add 16) else
    match (text.getD pos 0 == 13) with
    | false => St code2 text lim s false first 24 pos handed out (some false) fs wt (seen.add 16)
    | true => St code2 text lim s false first (24 + 2) (pos + 1) handed out none fs wt (seen.add 16) := by
  by_cases h : pos ≥ lim
  · rw [if_pos h]
    show (if pos ≥ lim then _ else _) = _
    rw [if_pos h]; rfl
  · rw [if_neg h]
    show (if pos ≥ lim then _ else _) = _
    rw [if_neg h]
    show (match (Except.ok (text.getD pos 0 == 13, _) : Except String (Bool × Seen)) with | .error why => _ | .ok (false, seen) => _ | .ok (true, seen) => _) = _
    cases (text.getD pos 0 == 13) <;> rfl
theorem lit2_29 : M.step (St code2 text lim s false first 29 pos handed out none fs wt seen) =
    if pos ≥ lim then St code2 text lim s false first 29 pos handed out (some false) fs wt (seen.add 16) else
    match (text.getD pos 0 == 10) with
    | false => St code2 text lim s false first 29 pos handed out (some false) fs wt (seen.add 16)
    | true => St code2 text lim s false first (29 + 2) (pos + 1) handed out none fs wt (seen.add 16) := by
  by_cases h : pos ≥ lim
  · rw [if_pos h]
    show (if pos ≥ lim then _ else _) = _
    rw [if_pos h]; rfl
  · rw [if_neg h]
    show (if pos ≥ lim then _ else _) = _
    rw [if_neg h]
    show (match (Except.ok (text.getD pos 0 == 10, _) : Except String (Bool × Seen)) with | .error why => _ | .ok (false, seen) => _ | .ok (true, seen) => _) = _
    cases (text.getD pos 0 == 10) <;> rfl
theorem lit2 (pc c : Nat) (h : (pc, c) ∈ [(12, 13), (14, 10), (19, 10), (24, 13), (29, 10)]) : M.step (St code2 text lim s false first pc pos handed out none fs wt seen) =
    if pos ≥ lim then St code2 text lim s false first pc pos handed out (some false) fs wt (seen.add 16) else
    match (text.getD pos 0 == c) with
    | false => St code2 text lim s false first pc pos handed out (some false) fs wt (seen.add 16)
    | true => St code2 text lim s false first (pc + 2) (pos + 1) handed out none fs wt (seen.add 16) := by
  simp only [List.mem_cons, Prod.mk.injEq, List.not_mem_nil, or_false] at h
  rcases h with ⟨rfl, rfl⟩ | ⟨rfl, rfl⟩ | ⟨rfl, rfl⟩ | ⟨rfl, rfl⟩ | ⟨rfl, rfl⟩
  · exact lit2_12 ..
  · exact lit2_14 ..
  · exact lit2_19 ..
  · exact lit2_24 ..
  · exact lit2_29 ..
theorem lit2_no (pc c : Nat) (h : (pc, c) ∈ [(12, 13), (14, 10), (19, 10), (24, 13), (29, 10)]) (hn : pos ≥ lim ∨ (text.getD pos 0 == c) = false) :
    M.step (St code2 text lim s false first pc pos handed out none fs wt seen) = St code2 text lim s false first pc pos handed out (some false) fs wt (seen.add 16) := by
  rw [lit2 _ _ _ _ _ _ _ _ _ _ _ _ h]
  by_cases q : pos ≥ lim
  · rw [if_pos q]
  · rw [if_neg q, hn.resolve_left q]
theorem lit2_yes (pc c : Nat) (h : (pc, c) ∈ [(12, 13), (14, 10), (19, 10), (24, 13), (29, 10)]) (hp : pos < lim) (hn : (text.getD pos 0 == c) = true) :
    M.step (St code2 text lim s false first pc pos handed out none fs wt seen) = St code2 text lim s false first (pc + 2) (pos + 1) handed out none fs wt (seen.add 16) := by
  rw [lit2 _ _ _ _ _ _ _ _ _ _ _ _ h, if_neg (by omega), hn]
theorem branch2 : M.step (st2 text lim s first seen) = St code2 text lim s false first 12 s s first none [nb 11 s first, fr0 10 s first] 2 (seen.add 7) := rfl
theorem alt2a : M.step (St code2 text lim s false first 12 s s first (some false) [nb 11 s first, fr0 10 s first] 2 seen) = St code2 text lim s false first 19 s s first none [nb 18 s first, fr0 10 s first] 2 seen := rfl
theorem alt2b : M.step (St code2 text lim s false first 14 pos handed first (some false) [nb 11 s first, fr0 10 s first] 2 seen) = St code2 text lim s false first 19 s s first none [nb 18 s first, fr0 10 s first] 2 seen := rfl
theorem alt2c : M.step (St code2 text lim s false first 19 s s first (some false) [nb 18 s first, fr0 10 s first] 2 seen) = St code2 text lim s false first 24 s s first none [nb 23 s first, fr0 10 s first] 2 seen := rfl
theorem jump2a : M.step (St code2 text lim s false first 16 pos handed out none fs wt seen) = St code2 text lim s false first 35 pos handed out none fs wt (seen.add 15) := rfl
theorem jump2b : M.step (St code2 text lim s false first 21 pos handed out none fs wt seen) = St code2 text lim s false first 35 pos handed out none fs wt (seen.add 15) := rfl
theorem jump2c : M.step (St code2 text lim s false first 32 pos handed out none fs wt seen) = St code2 text lim s false first 35 pos handed out none fs wt (seen.add 15) := rfl
theorem look2 : M.step (St code2 text lim s false first 26 (s + 1) s first none [nb 23 s first, fr0 10 s first] 2 seen) = St code2 text lim s false first 29 (s + 1) (s + 1) false none [ln 26 (s + 1) first, nb 23 s first, fr0 10 s first] 3 (seen.add 5) := rfl
theorem unlook2 : M.step (St code2 text lim s false first 29 (s + 1) (s + 1) false (some false) [ln 26 (s + 1) first, nb 23 s first, fr0 10 s first] 3 seen) = St code2 text lim s false first 32 (s + 1) (s + 1) first none [nb 23 s first, fr0 10 s first] 2 seen := rfl
theorem suc2 : M.step (St code2 text lim s false first 35 pos handed out none fs wt seen) = St code2 text lim s false first 35 pos pos out (some true) fs wt (seen.add 1) := by
  show (if (out && (false || (false && (pos == s)))) = true then _ else _) = _
  rw [Bool.false_and, Bool.or_false, Bool.and_false]
  rfl
theorem pops2 (pcn : Nat) : (M.runFor 3 (St code2 text lim s false first 35 pos handed out (some true) [nb pcn s first, fr0 10 s first] 2 seen)).outcome = some .matched ∧
    (M.runFor 3 (St code2 text lim s false first 35 pos handed out (some true) [nb pcn s first, fr0 10 s first] 2 seen)).start = s ∧
    (M.runFor 3 (St code2 text lim s false first 35 pos handed out (some true) [nb pcn s first, fr0 10 s first] 2 seen)).handed = handed := ⟨rfl, rfl, rfl⟩
end
theorem hit2_nl (text : Array Nat) (lim s : Nat) (first : Bool) (seen : Seen) (hs : s < lim) (h : (text.getD s 0 == 10) = true) : Finds 12 (st2 text lim s first seen) s (s + 1) := by
  have h13 : (text.getD s 0 == 13) = false := by
    rw [beq_iff_eq] at h; rw [h]; rfl
  refine ⟨9, _, by omega, rfl, ?_⟩
  rw [runFor_step rfl, branch2, runFor_step rfl, lit2_no _ _ _ _ _ _ _ _ _ _ 12 13 (by decide) (.inr h13), runFor_step rfl, alt2a, runFor_step rfl, lit2_yes _ _ _ _ _ _ _ _ _ _ 19 10 (by decide) hs h,
    runFor_step rfl, jump2b, runFor_step rfl, suc2]
  exact pops2 ..
theorem hit2_crlf (text : Array Nat) (lim s : Nat) (first : Bool) (seen : Seen) (hs : s + 1 < lim) (h : (text.getD s 0 == 13) = true) (h' : (text.getD (s + 1) 0 == 10) = true) : Finds 12 (st2 text lim s first seen) s (s + 2) := by
  refine ⟨8, _, by omega, rfl, ?_⟩
  rw [runFor_step rfl, branch2, runFor_step rfl, lit2_yes _ _ _ _ _ _ _ _ _ _ 12 13 (by decide) (by omega) h, runFor_step rfl, lit2_yes _ _ _ _ _ _ _ _ _ _ 14 10 (by decide) hs h',
    runFor_step rfl, jump2a, runFor_step rfl, suc2]
  exact pops2 ..
theorem hit2_cr (text : Array Nat) (lim s : Nat) (first : Bool) (seen : Seen) (hs : s < lim) (h : (text.getD s 0 == 13) = true) (h' : s + 1 ≥ lim ∨ (text.getD (s + 1) 0 == 10) = false) : Finds 20 (st2 text lim s first seen) s (s + 1) := by
  have h10 : (text.getD s 0 == 10) = false := by
    rw [beq_iff_eq] at h; rw [h]; rfl
  refine ⟨15, _, by omega, rfl, ?_⟩
  rw [runFor_step rfl, branch2, runFor_step rfl, lit2_yes _ _ _ _ _ _ _ _ _ _ 12 13 (by decide) hs h, runFor_step rfl, lit2_no _ _ _ _ _ _ _ _ _ _ 14 10 (by decide) h',
    runFor_step rfl, alt2b, runFor_step rfl, lit2_no _ _ _ _ _ _ _ _ _ _ 19 10 (by decide) (.inr h10), runFor_step rfl, alt2c, runFor_step rfl, lit2_yes _ _ _ _ _ _ _ _ _ _ 24 13 (by decide) hs h,
    runFor_step rfl, look2, runFor_step rfl, lit2_no _ _ _ _ _ _ _ _ _ _ 29 10 (by decide) h', runFor_step rfl, unlook2, runFor_step rfl, jump2c, runFor_step rfl, suc2]
  exact pops2 ..

/-- a feed or a return -/
def nlc (text : Array Nat) (s : Nat) : Bool := text.getD s 0 == 10 || text.getD s 0 == 13
theorem inSet2 (c : Nat) (seen : Seen) : ∃ seen', inSet code2 c code2.size 5 true seen = .ok ((c == 10 || c == 13), seen') := by
  have e : inSet code2 c code2.size 5 true seen = (if (c == 10) = true then .ok (true, seen.add 16) else if (c == 13) = true then .ok (true, (seen.add 16).add 16) else .ok (false, ((seen.add 16).add 16).add 0)) := by rfl
  rw [e]
  cases (c == 10) <;> cases (c == 13) <;> exact ⟨_, rfl⟩
theorem admitted_some (m : M) (hc : m.code = code2) (t : Nat) (ht : t < m.lim) (hh : nlc m.text t = true) : ∀ (d s fuel : Nat) (seen : Seen), s + d = t → d < fuel → (∀ j, s ≤ j → j < t → nlc m.text j = false) →
    ∃ seen', M.admitted m fuel s seen = .ok (some t, seen')
  | 0, s, fuel + 1, seen, e, hf, hm => by
    obtain rfl : s = t := by omega
    unfold M.admitted
    rw [if_neg (by omega), hc]
    obtain ⟨seen', hi⟩ := inSet2 (m.text.getD s 0) seen
    rw [hi]
    unfold nlc at hh
    rw [hh]
    exact ⟨seen', rfl⟩
  | d + 1, s, fuel + 1, seen, e, hf, hm => by
    unfold M.admitted
    rw [if_neg (by omega), hc]
    obtain ⟨seen', hi⟩ := inSet2 (m.text.getD s 0) seen
    have q := hm s (Nat.le_refl _) (by omega)
    unfold nlc at q
    rw [hi, q]
    exact admitted_some m hc t ht hh d (s + 1) fuel seen' (by omega) (by omega) fun j h1 h2 => hm j (by omega) h2
theorem admitted_none (m : M) (hc : m.code = code2) : ∀ (d s fuel : Nat) (seen : Seen), s + d = m.lim → (∀ j, s ≤ j → j < m.lim → nlc m.text j = false) →
    ∃ seen', M.admitted m fuel s seen = .ok (none, seen')
  | _, s, 0, seen, e, hm => ⟨seen, rfl⟩
  | 0, s, fuel + 1, seen, e, hm => by
    unfold M.admitted
    rw [if_pos (by omega)]
    exact ⟨seen, rfl⟩
  | d + 1, s, fuel + 1, seen, e, hm => by
    unfold M.admitted
    rw [if_neg (by omega), hc]
    obtain ⟨seen', hi⟩ := inSet2 (m.text.getD s 0) seen
    have q := hm s (Nat.le_refl _) (by omega)
    unfold nlc at q
    rw [hi, q]
    exact admitted_none m hc d (s + 1) fuel seen' (by omega) fun j h1 h2 => hm j (by omega) h2

/-- the machine before its first attempt -/
def start2 (text : Array Nat) (lim pos : Nat) (must : Bool) : M :=
  { code := code2, text, lim, start := pos, lastStart := lim, mustAdvance := must, pc := 10, pos, handed := pos, marks := #[], seen := ({} : Seen).add 14 }
theorem search2 (text : Array Nat) (lim pos : Nat) (h : pos < lim) (must : Bool) : forSearch code2 text 0 pos lim must = (start2 text lim pos must).attemptFrom pos true := by
  have e : (decide (pos > lim) || decide (lim - pos < 1)) = false := by
    have h1 : ¬ pos > lim := by omega
    have h2 : ¬ lim - pos < 1 := by omega
    simp [h1, h2]
  unfold forSearch
  show (if (decide (pos > lim) || decide (lim - pos < 1)) = true then _ else _) = _
  rw [e]
  rfl
theorem search2_none (text : Array Nat) (lim pos : Nat) (h : lim ≤ pos) (must : Bool) : Fails 1 (forSearch code2 text 0 pos lim must) := by
  have e : (decide (pos > lim) || decide (lim - pos < 1)) = true := by
    have h2 : lim - pos < 1 := by omega
    simp [h2]
  refine ⟨1, _, Nat.le_refl _, rfl, ?_⟩
  unfold forSearch
  show (M.runFor 1 (if (decide (pos > lim) || decide (lim - pos < 1)) = true then _ else _)).outcome = _
  rw [e]
  rfl
theorem search2_some (text : Array Nat) (lim pos t : Nat) (must : Bool) (h1 : pos ≤ t) (h2 : t < lim) (hm : ∀ j, pos ≤ j → j < t → nlc text j = false) (hh : nlc text t = true) :
    ∃ seen, forSearch code2 text 0 pos lim must = st2 text lim t true seen := by
  rw [search2 text lim pos (by omega)]
  obtain ⟨seen, e⟩ := admitted_some (start2 text lim pos must) rfl t h2 hh (t - pos) pos (lim + 1 - pos) (({} : Seen).add 14) (by omega) (by omega) hm
  refine ⟨seen, ?_⟩
  show (match M.admitted (start2 text lim pos must) (lim + 1 - pos) pos (({} : Seen).add 14) with | .ok (some s, seen) => _ | .ok (none, seen) => _ | .error why => _) = _
  rw [e]
  rfl
theorem search2_fail (text : Array Nat) (lim pos : Nat) (must : Bool) (h1 : pos < lim) (hm : ∀ j, pos ≤ j → j < lim → nlc text j = false) : Fails 1 (forSearch code2 text 0 pos lim must) := by
  rw [search2 text lim pos h1]
  obtain ⟨seen, e⟩ := admitted_none (start2 text lim pos must) rfl (lim - pos) pos (lim + 1 - pos) (({} : Seen).add 14) (by show pos + (lim - pos) = lim; omega) hm
  refine ⟨1, _, Nat.le_refl _, rfl, ?_⟩
  show (M.runFor 1 (match M.admitted (start2 text lim pos must) (lim + 1 - pos) pos (({} : Seen).add 14) with | .ok (some s, seen) => _ | .ok (none, seen) => _ | .error why => _)).outcome = _
  rw [e]
  rfl
end Mine

namespace Mine
open PySem PySem.Calls PyProof.Rows

/-- the text's i-th statement, a def: name, parameters, body, scope -/
def defAt (i : Nat) : Str × Arguments × List Stmt × Scope := match PySem.Challenge.pw_sw0023_01.main.body[i]? with
  | some (.FunctionDef name params body _ _ _ scope _ _ _) => (name, params, body, scope)
  | _ => default
def FnAt (h : Heap) (a : Addr) (i : Nat) : Prop := ∃ o pm cd doc, h.get? a = some o ∧ o.data = .func (docDef (defAt i).1 (defAt i).2.1 (defAt i).2.2.1 (defAt i).2.2.2 pm cd doc) ∧ h.CodeRec cd (defAt i).1
def Kept (h h' : Heap) : Prop := ∀ b o, h.get? b = some o → h'.get? b = some o
theorem Kept.refl (h : Heap) : Kept h h := fun _ _ e => e
theorem Kept.trans {a b c : Heap} (x : Kept a b) (y : Kept b c) : Kept a c := fun d o e => y d o (x d o e)
theorem CodeRec_keeps {h h' : Heap} {cd : Value} {q : Str} (x : h.CodeRec cd q) (k : Kept h h') : h'.CodeRec cd q := let ⟨c, o, vs, t, h1, h2, r⟩ := x; ⟨c, o, vs, t, h1, k _ _ h2, r⟩
theorem FnAt.keeps {h h' : Heap} {a : Addr} {i : Nat} (x : FnAt h a i) (k : Kept h h') : FnAt h' a i := let ⟨o, pm, cd, doc, h1, h2, h3⟩ := x; ⟨o, pm, cd, doc, k _ _ h1, h2, CodeRec_keeps h3 k⟩

/-- what every function of the text stands on -/
structure Gl (mg mb : Str → Option Value) (h : Heap) : Prop where
  g : h.Ns mainGlobals mg
  b : h.Ns builtinsNs mb
  lim : h.NoLimit
theorem Gl.keeps {mg mb : Str → Option Value} {h h' : Heap} (G : Gl mg mb h) (k : Kept h h') : Gl mg mb h' := ⟨G.g.keeps k, G.b.keeps k, G.lim.keeps k⟩

section
variable {prog : Program} {w : World} {A : Around} {E : Value → Shared → Prop} {s : Shared} {env : Env}

theorem tt {α : Type} {c : Prop} [Decidable c] {a b : Sem α} {Q : α → Shared → Prop} (hc : c) (h : wpAny (model prog w) A a Q E s) : wpAny (model prog w) A (if c then a else b) Q E s := by rw [if_pos hc]; exact h
theorem ff {α : Type} {c : Prop} [Decidable c] {a b : Sem α} {Q : α → Shared → Prop} (hc : ¬ c) (h : wpAny (model prog w) A b Q E s) : wpAny (model prog w) A (if c then a else b) Q E s := by rw [if_neg hc]; exact h

/-- a global name -/
theorem ldG {x : Str} {pos : Pos} {mg mb : Str → Option Value} {v : Value} {Q : Value → Shared → Prop} (G : Gl mg mb s.heap) (hv : mg x = some v) (h : Q v s)
    (hk : env.scope.kind = .function := by rfl) (hx : env.kindOf x = some .globalImplicit := by rfl) (hg : env.globals = mainGlobals := by rfl) (hd : (x == ("__debug__" : Str)) = false := by decide +kernel) :
    wpAny (model prog w) A (eval (.Name x pos) env) Q E s :=
  Name_function_global hk hx (loadGlobal_global (mg := mg) (by rw [hg]; exact G.g) hv h) hd
/-- a built-in name -/
theorem ldB {x : Str} {pos : Pos} {mg mb : Str → Option Value} {v : Value} {Q : Value → Shared → Prop} (G : Gl mg mb s.heap) (hn : mg x = none) (hv : mb x = some v) (h : Q v s)
    (hk : env.scope.kind = .function := by rfl) (hx : env.kindOf x = some .globalImplicit := by rfl) (hg : env.globals = mainGlobals := by rfl) (hb : env.builtins = builtinsNs := by rfl) (hd : (x == ("__debug__" : Str)) = false := by decide +kernel) :
    wpAny (model prog w) A (eval (.Name x pos) env) Q E s :=
  Name_function_global hk hx (loadGlobal_builtin (mg := mg) (mb := mb) (by rw [hg]; exact G.g) hn (by rw [hb]; exact G.b) hv h) hd

/-- a call of a built-in of one, two arguments: its trees -/
theorem cw1 {pos : Pos} {id : String} {first : List Value} {x : Sem Value} {Q : Value → Shared → Prop}
    (h : wpAny (model prog w) A x (fun v s₁ => wpAny (model prog w) A (call (.builtin id) (first ++ [v]) []) Q E s₁) E s) : wpAny (model prog w) A (callWith pos (.builtin id) first [(false, x)] []) Q E s :=
  callWith_builtin rfl (evalArgs_plain (spliced_cons (wpAny_mono h (fun _ _ h' => spliced_nil h') fun _ _ e => e)))
theorem cw2 {pos : Pos} {id : String} {first : List Value} {x y : Sem Value} {Q : Value → Shared → Prop}
    (h : wpAny (model prog w) A x (fun v s₁ => wpAny (model prog w) A y (fun u s₂ => wpAny (model prog w) A (call (.builtin id) (first ++ [v, u]) []) Q E s₂) E s₁) E s) : wpAny (model prog w) A (callWith pos (.builtin id) first [(false, x), (false, y)] []) Q E s :=
  callWith_builtin rfl (evalArgs_plain (spliced_cons (wpAny_mono h (fun _ _ h' => spliced_cons (wpAny_mono h' (fun _ _ h'' => spliced_nil h'') fun _ _ e => e)) fun _ _ e => e)))
/-- a def of the text is called by one argument -/
theorem cwF1 {pos : Pos} {a : Addr} {i : Nat} {x : Sem Value} {Q : Value → Shared → Prop} (hF : FnAt s.heap a i)
    (h : wpAny (model prog w) A x (fun v s₁ => Kept s.heap s₁.heap ∧ wpAny (model prog w) A (call (.ref a) [v] []) Q E s₁) E s) : wpAny (model prog w) A (callWith pos (.ref a) [] [(false, x)] []) Q E s := by
  obtain ⟨o, pm, cd, doc, h1, h2, h3⟩ := hF
  exact callWith_function (o := o) (evalArgs_plain (spliced_cons (wpAny_mono h (fun v s₁ h' => spliced_nil ⟨⟨h'.1 _ _ h1, h2⟩, h'.2⟩) fun _ _ e => e)))
theorem cwF0 {pos : Pos} {a : Addr} {i : Nat} {Q : Value → Shared → Prop} (hF : FnAt s.heap a i)
    (h : wpAny (model prog w) A (call (.ref a) [] []) Q E s) : wpAny (model prog w) A (callWith pos (.ref a) [] [] []) Q E s := by
  obtain ⟨o, pm, cd, doc, h1, h2, h3⟩ := hF
  refine callWith_function (o := o) (fd := docDef (defAt i).1 (defAt i).2.1 (defAt i).2.2.1 (defAt i).2.2.2 pm cd doc) ?_
  unfold evalArgs
  show wpAny (model prog w) A (spliced [] >>= _) _ E s
  refine wpAny_bind (spliced_nil (wpAny_bind (wpAny_pure (wpAny_holding ?_))))
  exact wpAny_bind (wpAny_pure (wpAny_bind (wpAny_pure (wpAny_pure ⟨⟨h1, h2⟩, h⟩))))

/-- the frame's environment -/
abbrev envAt (i : Nat) (L a : Addr) (cd : Value) : Env := envOf (defAt i).1 (defAt i).2.2.2 L a cd
theorem fn_call {mg mb : Str → Option Value} {a : Addr} {i : Nat} {args : List Value} {binds : List (Str × Value)} {Q : Value → Shared → Prop} (hroom : A.depth < recursionLimit) (G : Gl mg mb s.heap) (hF : FnAt s.heap a i)
    (hbind : ∀ pm cd doc, bindArgs (docDef (defAt i).1 (defAt i).2.1 (defAt i).2.2.1 (defAt i).2.2.2 pm cd doc) ⟨args, []⟩ = pure binds)
    (h : ∀ h₁ cd, Fr s.heap s.heap.objs.size h₁ (fun x => binds.reverse.lookup x) →
      wpAny (model prog w) (A.deeper (envAt i s.heap.objs.size a cd)) (execs (defAt i).2.2.1 (envAt i s.heap.objs.size a cd))
        (fun f s' => Q (match f with | .ret v => v | _ => .none) s') (fun _ _ => False) { s with heap := h₁, toks := s.toks + binds.length })
    (hloc : (binds.all fun x => decide ((defAt i).2.2.2.names.lookup x.1 = some .local)) = true)
    (hco : (defAt i).2.2.2.isCoroutine = false := by rfl) (hgen : (defAt i).2.2.2.isGenerator = false := by rfl) (hk : (defAt i).2.2.2.kind = .function := by rfl)
    (hcell : ((defAt i).2.2.2.names.all fun x => x.2 != .cell) = true := by rfl) : wpAny (model prog w) A (call (.ref a) args []) Q E s := by
  obtain ⟨o, pm, cd, doc, h1, h2, h3⟩ := hF
  refine wpAny_call (call_plain_ret hroom h1 h2 G.lim h3 (hbind pm cd doc) (locs hloc) (fun h₁ F => wpAny_mono (h h₁ cd F) (fun _ _ q => q) fun _ _ q => q) hco hgen hk fun x hx => ?_)
  have := List.all_eq_true.mp hcell x hx
  simpa using this
theorem fresh_none {hb h : Heap} (k : Kept hb h) : hb.get? h.objs.size = none := by
  cases e : hb.get? h.objs.size with
  | none => rfl
  | some o => exact absurd (Heap.lt_size (k _ _ e)) (Nat.lt_irrefl _)
theorem new_list {M : Model} {A : Around} {E : Value → Shared → Prop} {s : Shared} {vs : List Value} {Q : Value → Shared → Prop} (h : ∀ h', h'.PlainList s.heap.objs.size vs.toArray → Kept s.heap h' → Q (.ref s.heap.objs.size) { s with heap := h' })
    (hsz : vs.length ≤ sizeLine) : wpAny M A (newList vs) Q E s :=
  wpAny_newObj_type (h (s.heap.push { cls := .type "list", data := .seq vs.toArray }) ⟨0, Heap.get?_push_size _ rfl⟩ fun b o e => Heap.get?_push_of_some _ e) (by show vs.toArray.size ≤ sizeLine; rw [List.size_toArray]; exact hsz)
end
end Mine

namespace Mine
open PySem PySem.Calls PyProof.Rows PySem.Builtin.Re

section
variable {M : Model} {A : Around} {E : Value → Shared → Prop} {s : Shared}

theorem drive_to {m' : Sre.M} {Q : Sre.M → Shared → Prop} (hQ : Q m' s) (ho : m'.outcome.isSome = true) : ∀ (turns n : Nat) (m : Sre.M), Sre.M.runFor n m = m' → n ≤ 4 * turns → 0 < turns → wpAny M A (reDrive turns m) Q E s
  | 0, _, _, _, _, h0 => absurd h0 (Nat.lt_irrefl _)
  | turns + 1, n, m, hr, hn, _ => by
    show wpAny M A (let m := m.runFor reTurnSteps; if m.outcome.isSome then pure m else do rule "sre.turn"; reDrive turns m) Q E s
    dsimp only
    by_cases h4 : (m.runFor reTurnSteps).outcome.isSome = true
    · rw [if_pos h4]
      have e : m.runFor reTurnSteps = m' := by
        by_cases hle : n ≤ 4
        · have : reTurnSteps = n + (4 - n) := by show 4 = _; omega
          rw [this, runFor_add, hr, runFor_done ho]
        · have : n = reTurnSteps + (n - 4) := by show n = 4 + _; omega
          rw [this, runFor_add, runFor_done h4] at hr; exact hr
      rw [e]; exact wpAny_pure hQ
    · rw [if_neg h4]
      have hgt : 4 < n := by
        apply Nat.lt_of_not_le
        intro hle
        have : reTurnSteps = n + (4 - n) := by show 4 = _; omega
        rw [this, runFor_add, hr, runFor_done ho] at h4
        exact h4 ho
      refine wpAny_bind (wpAny_rule ?_)
      have hr' : Sre.M.runFor (n - 4) (m.runFor reTurnSteps) = m' := by
        rw [← runFor_add]
        have : reTurnSteps + (n - 4) = n := by show 4 + _ = n; omega
        rw [this]; exact hr
      exact drive_to hQ ho turns (n - 4) _ hr' (by omega) (by omega)

theorem seen_rules {m : Sre.M} {l : List Nat} {Q : PUnit → Shared → Prop} (h : Q ⟨⟩ s) :
    wpAny M A (forIn l PUnit.unit fun i _ => if m.seen.has i = true then do rule (Sre.names.getD i ""); pure (ForInStep.yield PUnit.unit) else pure (ForInStep.yield PUnit.unit)) Q E s := by
  refine wpAny_forIn_list _ (fun _ _ s' => s' = s) _ ?_ ?_ l _ rfl
  · rintro x rest b _ rfl
    split
    · exact wpAny_bind (wpAny_rule (wpAny_pure rfl))
    · exact wpAny_pure rfl
  · rintro b _ rfl
    exact h

theorem big4 {k : Nat} (h : k ≤ 2 ^ 64) : k ≤ 4 * 2 ^ 64 := Nat.le_trans h (Nat.le_mul_of_pos_left _ (by decide))
theorem run_found {m : Sre.M} {k a b : Nat} (hf : Finds k m a b) (hk : k ≤ 2 ^ 64) {Q : Option Sre.M → Shared → Prop} (hQ : ∀ m', m'.start = a → m'.handed = b → Q (some m') s) : wpAny M A (reRunToEnd m) Q E s := by
  obtain ⟨n, m', hn, hr, ho, ha, hb⟩ := hf
  unfold reRunToEnd
  refine wpAny_bind (drive_to ?_ (by rw [ho]; rfl) _ n m hr (big4 (Nat.le_trans hn hk)) (Nat.two_pow_pos 64))
  refine wpAny_bind (seen_rules ?_)
  rw [ho]
  exact wpAny_pure (hQ m' ha hb)
theorem run_failed {m : Sre.M} {k : Nat} (hf : Fails k m) (hk : k ≤ 2 ^ 64) {Q : Option Sre.M → Shared → Prop} (hQ : Q none s) : wpAny M A (reRunToEnd m) Q E s := by
  obtain ⟨n, m', hn, hr, ho⟩ := hf
  unfold reRunToEnd
  refine wpAny_bind (drive_to ?_ (by rw [ho]; rfl) _ n m hr (big4 (Nat.le_trans hn hk)) (Nat.two_pow_pos 64))
  refine wpAny_bind (seen_rules ?_)
  rw [ho]
  exact wpAny_pure hQ

def IsPat (h : Heap) (p : Addr) (code : Array Nat) : Prop := ∃ o vs c oc cs n, h.get? p = some o ∧ o.cls = .type "re.Pattern" ∧ o.dict = none ∧ o.data = .fields vs ∧ vs.getD 2 .none = .int 0 0 ∧
  vs.getD 5 .none = .ref c ∧ vs.getD 6 .none = .int 0 0 ∧ h.get? c = some oc ∧ oc.data = .seq cs n ∧ (cs.map reRawOf).map (·.toNat) = code
theorem IsPat.keeps {h h' : Heap} {p : Addr} {code : Array Nat} (x : IsPat h p code) (hk : ∀ b o, h.get? b = some o → h'.get? b = some o) : IsPat h' p code :=
  let ⟨o, vs, c, oc, cs, n, h1, h2, h2', h3, h4, h5, h6, h7, r⟩ := x; ⟨o, vs, c, oc, cs, n, hk _ _ h1, h2, h2', h3, h4, h5, h6, hk _ _ h7, r⟩
theorem IsPat.typeIs {p : Addr} {code : Array Nat} (x : IsPat s.heap p code) : s.TypeIs (.ref p) "re.Pattern" := let ⟨o, _, _, _, _, _, h1, h2, _⟩ := x; ⟨o, h1, h2⟩

theorem whole_target {p : Addr} {code : Array Nat} {x : Str} {t : Tok} {Q : ReTarget → Shared → Prop} (P : IsPat s.heap p code)
    (h : Q { pattern := .ref p, string := .str x t, code, text := x.cps, kind := 0, groups := 0, pos := 0, lim := x.cps.size } s) : wpAny M A (reWholeTarget (.ref p) (.str x t)) Q E s := by
  obtain ⟨o, vs, c, oc, cs, n, h1, h2, h2', h3, h4, h5, h6, h7, h8, h9⟩ := P
  unfold reWholeTarget
  refine wpAny_bind (wpAny_fieldsOf h1 h3 ?_)
  refine wpAny_bind (m := reTextOf (.str x t)) (wpAny_pure (a := (x.cps, 0)) ?_)
  dsimp only
  rw [h6]
  simp only [reRawNat, Int.toNat_zero, beq_self_eq_true, Bool.true_and, Bool.false_eq_true, if_false, show ((0 : Nat) == 1) = false from rfl, Bool.false_and, Bool.and_false]
  refine wpAny_bind (m := reNoCollectionInside (.str x t) 0) (wpAny_pure ?_)
  refine wpAny_bind ?_
  rw [h5]
  unfold reRawItems
  refine wpAny_bind (wpAny_seqItems h7 h8 (wpAny_pure ?_))
  dsimp only [Option.getD]
  rw [h4, h9]
  exact wpAny_pure h
end
end Mine

namespace Mine
open PySem PySem.Calls PyProof.Rows PySem.Builtin.Re

/-- the pieces between the matches -/
def cut (text : Array Nat) (b e : Nat) : Str := ⟨text.extract b e⟩
def pieces (text : Array Nat) (repl : Str) (nxt : Nat → Option (Nat × Nat)) : Nat → Nat → List Str
  | 0, _ => []
  | fuel + 1, start => match nxt start with
    | none => if start < text.size then [cut text start text.size] else []
    | some (a, b) => (if start < a then [cut text start a] else []) ++ repl :: pieces text repl nxt fuel b

structure Next (code text : Array Nat) (nxt : Nat → Option (Nat × Nat)) : Prop where
  no : ∀ start, start ≤ text.size → nxt start = none → Fails (3 * text.size + 40) (Sre.forSearch code text 0 start text.size false)
  yes : ∀ start a b, start ≤ text.size → nxt start = some (a, b) → start ≤ a ∧ a < b ∧ b ≤ text.size ∧ Finds (3 * text.size + 40) (Sre.forSearch code text 0 start text.size false) a b

theorem StrsAre.snoc {vs : List Value} {ys : List Str} {y : Str} {t : Tok} (h : StrsAre vs ys) : StrsAre (vs ++ [.str y t]) (ys ++ [y]) := by
  induction h with
  | nil => exact .cons _ _ .nil
  | cons z u _ ih => exact .cons z u ih
theorem StrsAre.len {vs : List Value} {ys : List Str} (h : StrsAre vs ys) : vs.length = ys.length := by
  induction h with
  | nil => rfl
  | cons z u _ ih => simp [ih]

def sumL (ys : List Str) : Nat := (ys.map (·.length)).sum
theorem sumL_snoc (ys : List Str) (y : Str) : sumL (ys ++ [y]) = sumL ys + y.length := by simp [sumL]

section
variable {prog : Program} {w : World} {A : Around} {E : Value → Shared → Prop} {s : Shared}

theorem push_str {D : Addr} {items : Array Value} {y : Str} {t : Tok} {Q : Unit → Shared → Prop} (hl : s.heap.PlainList D items) (hsz : items.size ≤ sizeLine)
    (h : ∀ h', h'.PlainList D (items.push (.str y t)) → Heap.SameBut D s.heap h' → Q () { s with heap := h' }) :
    wpAny (model prog w) A (updateSeq D (·.push (.str y t))) Q E s := by
  obtain ⟨n, ho⟩ := hl
  refine wpAny_updateSeq ho rfl (h _ ?_ (Heap.SameBut.update ..)) hsz (by simp; omega)
  exact ⟨n + 1, by rw [Heap.get?_update_self _ ho rfl]; simp [Obj.mapSeq]⟩

theorem extract_length (text : Array Nat) (b e : Nat) (he : e ≤ text.size) : (cut text b e).length = e - b := by
  show (text.extract b e).size = _
  rw [Array.size_extract]; omega

theorem sub_quiet (args : Args) : (Code.builtin "re.Pattern.sub.loop" args).quiet = true := Code.quiet_builtin args (by decide +kernel)
theorem entry_sub_loop : entryFor table "re.Pattern.sub.loop" = some Builtin.«re.Pattern.sub.loop» := entryFor_of_tree (by kernel_rfl)
end
end Mine

namespace Mine
open PySem PySem.Calls PyProof.Rows PySem.Builtin.Re
section
variable {prog : Program} {w : World} {A : Around} {E : Value → Shared → Prop} {s : Shared}
theorem if_true_tree {α : Type} {c : Prop} [Decidable c] {a b : Sem α} {Q : α → Shared → Prop} (hc : c) (h : wpAny (model prog w) A a Q E s) : wpAny (model prog w) A (if c then a else b) Q E s := by rw [if_pos hc]; exact h
theorem if_false_tree {α : Type} {c : Prop} [Decidable c] {a b : Sem α} {Q : α → Shared → Prop} (hc : ¬ c) (h : wpAny (model prog w) A b Q E s) : wpAny (model prog w) A (if c then a else b) Q E s := by rw [if_neg hc]; exact h
theorem sub_loop (h₀ : Heap) {p D : Addr} {code : Array Nat} {x repl : Str} {xt rt : Tok} {nxt : Nat → Option (Nat × Nat)} (hP : IsPat h₀ p code) (hN : Next code x.cps nxt) (hr : repl.length ≤ 2) (hx : x.cps.size ≤ 100000)
    (hD : h₀.get? D = none) {R : Result → Shared → Prop} : ∀ (fuel : Nat) (s : Shared) (n : Int) (start : Nat) (items : Array Value) (ys : List Str), x.cps.size - start < fuel → start ≤ x.cps.size →
    (∀ b o, h₀.get? b = some o → s.heap.get? b = some o) → s.heap.PlainList D items → StrsAre items.toList ys → sumL ys ≤ 2 * start → ys.length ≤ 2 * start →
    (∀ h' tk t, (∀ b o, h₀.get? b = some o → h'.get? b = some o) → R (.ok (.ret (.str (Str.join ⟨#[]⟩ (ys ++ pieces x.cps repl nxt fuel start)) t))) { s with heap := h', toks := tk }) →
    codeAny (model prog w) A (.builtin "re.Pattern.sub.loop" ⟨[.ref p, .str x xt, .str repl rt, .int 0 0, .int 0 0, .int n 0, .int start 0, .int start 0, .bool false, .ref D, .bool false], []⟩) R s
  | 0, _, _, _, _, _, hf, _, _, _, _, _, _, _ => absurd hf (Nat.not_lt_zero _)
  | fuel + 1, s, n, start, items, ys, hf, hs, hk, hl, hi, hsum, hlen, hR => by
    refine codeAny_builtin entry_sub_loop ?_
    unfold Builtin.«re.Pattern.sub.loop»
    dsimp only
    refine wpAny_bind (whole_target (hP.keeps hk) ?_)
    refine if_true_tree rfl ?_
    refine wpAny_bind (m := reLiteralCannotBeTurned (.str repl rt)) (wpAny_pure ?_)
    dsimp only
    have e0 : ((0 : Int) != 0 && decide (n ≥ 0)) = false := by simp
    rw [e0, if_neg Bool.false_ne_true, Int.toNat_natCast]
    have hP' := hP.keeps hk
    have hbound : 3 * x.cps.size + 40 ≤ 2 ^ 64 := Nat.le_trans (show 3 * x.cps.size + 40 ≤ 300040 by omega) (by decide)
    have hsz : items.size ≤ 200000 := by
      have := StrsAre.len hi
      rw [Array.length_toList] at this
      omega
    have hsz' : items.size + 2 ≤ sizeLine := by rw [sizeLine_eq]; omega
    have kD : ∀ h' : Heap, Heap.SameBut D s.heap h' → ∀ b o, h₀.get? b = some o → h'.get? b = some o := fun h' hs' b o e => (hs'.2 b (fun q => by rw [q, hD] at e; cases e)).trans (hk b o e)
    cases hx1 : nxt start with
    | none =>
      refine wpAny_bind (m := reNextFound _ _ _) (run_failed (hN.no start hs hx1) hbound ?_)
      dsimp only
      have ep : pieces x.cps repl nxt (fuel + 1) start = if start < x.cps.size then [cut x.cps start x.cps.size] else [] := by
        show (match nxt start with | none => _ | some (a, b) => _) = _
        rw [hx1]
      rw [ep] at hR
      have fin : ∀ (h' : Heap) (tk : Nat) (its : Array Value) (zs : List Str), (∀ b o, h₀.get? b = some o → h'.get? b = some o) → h'.PlainList D its → StrsAre its.toList zs → sumL zs ≤ 2 * x.cps.size →
          (∀ h' tk t, (∀ b o, h₀.get? b = some o → h'.get? b = some o) → R (.ok (.ret (.str (Str.join ⟨#[]⟩ zs) t))) { s with heap := h', toks := tk }) →
          wpAny (model prog w) (A.under (Code.builtin "re.Pattern.sub.loop" ⟨[.ref p, .str x xt, .str repl rt, .int 0 0, .int 0 0, .int n 0, .int start 0, .int start 0, .bool false, .ref D, .bool false], []⟩))
            (do
              let joiner ← reSlice x.cps 0 0 0
              let its ← seqItems? (.ref D)
              let text ← if (its.getD #[]).isEmpty = true then pure joiner else call (.builtin "str.join") [joiner, .ref D]
              ret text) (fun fin s' => match fin with | .done f => R (.ok f) s' | .again c' => c'.quiet = true ∧ codeAny (model prog w) A c' R s') (fun e s' => R (.error e) s') { s with heap := h', toks := tk } := by
        intro h' tk its zs hk' hl' hi' hsm hR'
        refine wpAny_bind (m := reSlice x.cps 0 0 0) (wpAny_mkStr ?_ (by rw [sizeLine_eq]; show (cut x.cps 0 0).length ≤ _; rw [extract_length _ _ _ (by omega)]; omega))
        obtain ⟨nl, ho⟩ := id hl'
        refine wpAny_bind (wpAny_seqItems ho rfl ?_)
        have ej : (⟨x.cps.extract 0 0⟩ : Str) = ⟨#[]⟩ := by simp
        rw [ej]
        dsimp only [Option.getD]
        by_cases hemp : its.isEmpty = true
        · rw [if_pos hemp]
          refine wpAny_bind (wpAny_pure (wpAny_pure ?_))
          have : zs = [] := by
            have := StrsAre.len hi'
            rw [Array.length_toList] at this
            rw [Array.isEmpty_iff] at hemp
            rw [hemp] at this
            exact List.length_eq_zero_iff.mp this.symm
          subst this
          exact hR' h' (tk + 1) tk hk'
        · rw [if_neg hemp]
          refine wpAny_bind (join_list hl'.isList hi' (by show sumL zs + zs.length * 0 ≤ _; omega) fun t' k => wpAny_pure ?_)
          have : Txt.join ⟨#[]⟩ zs = Str.join ⟨#[]⟩ zs := StrLaws.glued_eq_join _ _
          rw [this]
          exact hR' h' k t' hk'
      by_cases hlt : start < x.cps.size
      · rw [if_pos hlt] at hR ⊢
        refine wpAny_bind (wpAny_mkStr ?_ (by rw [sizeLine_eq]; show (cut x.cps start x.cps.size).length ≤ _; rw [extract_length _ _ _ (by omega)]; omega))
        refine wpAny_bind (push_str (s := { s with toks := s.toks + 1 }) hl (by omega) fun h' hl' hs' => ?_)
        refine fin h' _ _ (ys ++ [cut x.cps start x.cps.size]) (kD h' hs') hl' (by rw [Array.toList_push]; exact StrsAre.snoc hi) ?_ hR
        rw [sumL_snoc, extract_length _ _ _ (by omega)]; omega
      · rw [if_neg hlt, List.append_nil] at hR
        rw [if_neg hlt]
        exact fin s.heap s.toks items ys hk hl hi (by omega) hR
    | some ab =>
      obtain ⟨a, b⟩ := ab
      obtain ⟨h1, h2, h3, h4⟩ := hN.yes start a b hs hx1
      refine wpAny_bind (m := reNextFound _ _ _) (run_found h4 hbound fun m' hm1 hm2 => ?_)
      dsimp only
      rw [hm1, hm2]
      have ep : pieces x.cps repl nxt (fuel + 1) start = (if start < a then [cut x.cps start a] else []) ++ repl :: pieces x.cps repl nxt fuel b := by
        show (match nxt start with | none => _ | some (a, b) => _) = _
        rw [hx1]
      have eb : (b == a) = false := by simp; omega
      rw [eb]
      by_cases hlt : start < a
      · rw [if_pos hlt]
        refine wpAny_bind (wpAny_mkStr ?_ (by rw [sizeLine_eq]; show (cut x.cps start a).length ≤ _; rw [extract_length _ _ _ (by omega)]; omega))
        refine wpAny_bind (push_str (s := { s with toks := s.toks + 1 }) hl (by omega) fun h' hl' hs' => ?_)
        refine if_true_tree rfl ?_
        refine wpAny_bind (wpAny_pure ?_)
        refine if_true_tree rfl ?_
        refine wpAny_bind (push_str hl' (by rw [Array.size_push]; omega) fun h'' hl'' hs'' => ?_)
        refine wpAny_pure ⟨sub_quiet _, ?_⟩
        refine sub_loop h₀ hP hN hr hx hD fuel { s with heap := h'', toks := s.toks + 1 } (n + 1) b _ (ys ++ [cut x.cps start a] ++ [repl]) (by omega) h3 (fun c o e => (hs''.2 c (fun q => by rw [q, hD] at e; cases e)).trans (kD h' hs' c o e)) hl'' (by
          rw [Array.toList_push, Array.toList_push]; exact StrsAre.snoc (StrsAre.snoc hi)) ?_ ?_ ?_
        · rw [sumL_snoc, sumL_snoc, extract_length _ _ _ (by omega)]; omega
        · simp only [List.length_append, List.length_singleton]; omega
        · intro h3' tk t hk3
          have := hR h3' tk t hk3
          rw [ep, if_pos hlt] at this
          simpa only [List.append_assoc, List.singleton_append, List.cons_append, List.nil_append] using this
      · rw [if_neg hlt]
        refine if_true_tree rfl ?_
        refine wpAny_bind (wpAny_pure ?_)
        refine if_true_tree rfl ?_
        refine wpAny_bind (push_str hl (by omega) fun h' hl' hs' => ?_)
        refine wpAny_pure ⟨sub_quiet _, ?_⟩
        refine sub_loop h₀ hP hN hr hx hD fuel { s with heap := h' } (n + 1) b _ (ys ++ [repl]) (by omega) h3 (kD h' hs') hl' (by rw [Array.toList_push]; exact StrsAre.snoc hi) ?_ ?_ ?_
        · rw [sumL_snoc]; omega
        · simp only [List.length_append, List.length_singleton]; omega
        · intro h3' tk t hk3
          have := hR h3' tk t hk3
          rw [ep, if_neg hlt] at this
          simpa only [List.append_assoc, List.singleton_append, List.cons_append, List.nil_append] using this
end

end Mine

namespace Mine
open PySem

/-- the first place from start on, if any -/
def firstAt (p : Nat → Bool) : Nat → Nat → Option Nat
  | 0, _ => none
  | d + 1, s => if p s then some s else firstAt p d (s + 1)
theorem firstAt_none {p : Nat → Bool} : ∀ {d s : Nat}, firstAt p d s = none → ∀ j, s ≤ j → j < s + d → p j = false
  | 0, s, _, j, h1, h2 => absurd h2 (by omega)
  | d + 1, s, h, j, h1, h2 => by
    unfold firstAt at h
    by_cases hp : p s = true
    · rw [if_pos hp] at h; cases h
    · rw [if_neg hp] at h
      by_cases e : j = s
      · subst e; simpa using hp
      · exact firstAt_none h j (by omega) (by omega)
theorem firstAt_some {p : Nat → Bool} : ∀ {d s t : Nat}, firstAt p d s = some t → s ≤ t ∧ t < s + d ∧ p t = true ∧ ∀ j, s ≤ j → j < t → p j = false
  | 0, s, t, h => by cases h
  | d + 1, s, t, h => by
    unfold firstAt at h
    by_cases hp : p s = true
    · rw [if_pos hp] at h
      cases h
      exact ⟨Nat.le_refl _, by omega, hp, fun j h1 h2 => absurd h2 (by omega)⟩
    · rw [if_neg hp] at h
      obtain ⟨h1, h2, h3, h4⟩ := firstAt_some h
      refine ⟨by omega, by omega, h3, fun j q1 q2 => ?_⟩
      by_cases e : j = s
      · subst e; simpa using hp
      · exact h4 j (by omega) q2

def nxt1 (text : Array Nat) (start : Nat) : Option (Nat × Nat) := (firstAt (hit1 text) (text.size - start) start).map fun t => (t, t + 1)
def nlEnd (text : Array Nat) (t : Nat) : Nat := if (text.getD t 0 == 13 && decide (t + 1 < text.size) && text.getD (t + 1) 0 == 10) = true then t + 2 else t + 1
def nxt2 (text : Array Nat) (start : Nat) : Option (Nat × Nat) := (firstAt (nlc text) (text.size - start) start).map fun t => (t, nlEnd text t)

theorem next1 (text : Array Nat) : Next code1 text (nxt1 text) where
  no := fun start hs h => by
    unfold nxt1 at h
    rw [Option.map_eq_none_iff] at h
    by_cases he : start = text.size
    · subst he
      exact (search1_none text _ _ (Nat.le_refl _) false).mono (by omega)
    · rw [search1 text _ _ (by omega)]
      exact (fail1 text text.size (text.size - start) start (by omega) (fun j h1 h2 => firstAt_none h j h1 (by omega)) _ _ _).mono (by omega)
  yes := fun start a b hs h => by
    unfold nxt1 at h
    rw [Option.map_eq_some_iff] at h
    obtain ⟨t, ht, e⟩ := h
    obtain ⟨e1, e2⟩ := Prod.mk.inj e
    subst e2; subst e1
    obtain ⟨h1, h2, h3, h4⟩ := firstAt_some ht
    refine ⟨h1, by omega, by omega, ?_⟩
    rw [search1 text _ _ (by omega)]
    exact (find1 text text.size (t - start) start t (by omega) (by omega) h4 h3 _ _ _).mono (by omega)

theorem next2 (text : Array Nat) : Next code2 text (nxt2 text) where
  no := fun start hs h => by
    unfold nxt2 at h
    rw [Option.map_eq_none_iff] at h
    by_cases he : start = text.size
    · subst he
      exact (search2_none text _ _ (Nat.le_refl _) false).mono (by omega)
    · exact (search2_fail text text.size start false (by omega) (fun j h1 h2 => firstAt_none h j h1 (by omega))).mono (by omega)
  yes := fun start a b hs h => by
    unfold nxt2 at h
    rw [Option.map_eq_some_iff] at h
    obtain ⟨t, ht, e⟩ := h
    obtain ⟨e1, e2⟩ := Prod.mk.inj e
    subst e2; subst e1
    obtain ⟨h1, h2, h3, h4⟩ := firstAt_some ht
    obtain ⟨seen, hseen⟩ := search2_some text text.size start t false h1 (by omega) h4 h3
    have hlt : t < text.size := by omega
    rw [hseen]
    unfold nlEnd
    by_cases hc : (text.getD t 0 == 13 && decide (t + 1 < text.size) && text.getD (t + 1) 0 == 10) = true
    · rw [if_pos hc]
      obtain ⟨hc, hc3⟩ := Bool.and_eq_true_iff.mp hc
      obtain ⟨hc1, hc2⟩ := Bool.and_eq_true_iff.mp hc
      have hc2 := of_decide_eq_true hc2
      exact ⟨h1, by omega, by omega, (hit2_crlf text text.size t true seen hc2 hc1 hc3).mono (by omega)⟩
    · rw [if_neg hc]
      refine ⟨h1, by omega, by omega, ?_⟩
      by_cases h10 : (text.getD t 0 == 10) = true
      · exact (hit2_nl text text.size t true seen hlt h10).mono (by omega)
      · have h13 : (text.getD t 0 == 13) = true := (Bool.or_eq_true_iff.mp h3).resolve_left h10
        refine (hit2_cr text text.size t true seen hlt h13 ?_).mono (by omega)
        by_cases q : t + 1 ≥ text.size
        · exact .inl q
        · right
          rw [h13, decide_eq_true (by omega : t + 1 < text.size), Bool.true_and, Bool.true_and] at hc
          simpa using hc

/-! what the two substitutions give -/
def dot1 : Bool → List Nat → List Nat
  | _, [] => []
  | b, c :: r => (if (b && c == 46) = true then [46, 46] else [c]) ++ dot1 (c == 10) r
/-- b: the sign before was a return -/
def crlfF : Bool → List Nat → List Nat
  | _, [] => []
  | b, c :: r => if c = 10 then (if b = true then crlfF false r else 13 :: 10 :: crlfF false r) else if c = 13 then 13 :: 10 :: crlfF true r else c :: crlfF false r
def crlf (l : List Nat) : List Nat := crlfF false l

def cat (ys : List Str) : List Nat := ys.flatMap fun y => y.cps.toList
theorem join_cat : ∀ ys : List Str, (Str.join ⟨#[]⟩ ys).cps.toList = cat ys
  | [] => rfl
  | y :: r => by
    rw [PyProof.Rows.join_nil_cons]
    show (y.cps ++ (Str.join ⟨#[]⟩ r).cps).toList = _
    rw [Array.toList_append, join_cat r]
    rfl
theorem cat_append (a b : List Str) : cat (a ++ b) = cat a ++ cat b := by unfold cat; rw [List.flatMap_append]
theorem cat_cons (a : Str) (b : List Str) : cat (a :: b) = a.cps.toList ++ cat b := by unfold cat; rw [List.flatMap_cons]
theorem cut_list (text : Array Nat) (b e : Nat) : (cut text b e).cps.toList = (text.toList.drop b).take (e - b) := by
  show (text.extract b e).toList = _
  rw [Array.toList_extract, List.extract_eq_take_drop]
theorem cat_if (c : Prop) [Decidable c] (y : Str) (h : ¬ c → y.cps.toList = []) : cat (if c then [y] else []) = y.cps.toList := by
  by_cases q : c
  · rw [if_pos q]; simp [cat]
  · rw [if_neg q, h q]; rfl
/-- the pieces' text, if F is what stands from a place on -/
theorem cat_pieces {code text : Array Nat} {nxt : Nat → Option (Nat × Nat)} (N : Next code text nxt) (repl : Str) (F : Nat → List Nat)
    (hn : ∀ start, start ≤ text.size → nxt start = none → F start = text.toList.drop start)
    (hy : ∀ start a b, start ≤ text.size → nxt start = some (a, b) → F start = (text.toList.drop start).take (a - start) ++ repl.cps.toList ++ F b) :
    ∀ fuel start, text.size - start < fuel → start ≤ text.size → cat (pieces text repl nxt fuel start) = F start
  | 0, _, h, _ => absurd h (Nat.not_lt_zero _)
  | fuel + 1, start, h, hs => by
    unfold pieces
    cases e : nxt start with
    | none =>
      show cat (if start < text.size then [cut text start text.size] else []) = _
      rw [cat_if _ _ (fun q => by rw [cut_list, show text.size - start = 0 by omega, List.take_zero]), hn start hs e, cut_list]
      exact List.take_of_length_le (by rw [List.length_drop, Array.length_toList]; exact Nat.le_refl _)
    | some ab =>
      obtain ⟨a, b⟩ := ab
      obtain ⟨h1, h2, h3, _⟩ := N.yes start a b hs e
      show cat ((if start < a then [cut text start a] else []) ++ repl :: pieces text repl nxt fuel b) = _
      rw [cat_append, cat_if _ _ (fun q => by rw [cut_list, show a - start = 0 by omega, List.take_zero]), cat_cons, cat_pieces N repl F hn hy fuel b (by omega) h3, hy start a b hs e, cut_list, List.append_assoc]

theorem getD_list (text : Array Nat) (i : Nat) : text.getD i 0 = text.toList.getD i 0 := by
  simp [Array.getD_eq_getD_getElem?, List.getD_eq_getElem?_getD]
/-! the second: feeds and returns -/
theorem crlf_plain : ∀ (pre rest : List Nat), (∀ c ∈ pre, c ≠ 10 ∧ c ≠ 13) → crlf (pre ++ rest) = pre ++ crlf rest
  | [], _, _ => rfl
  | c :: pre, rest, h => by
    have hc := h c (.head _)
    have ih := crlf_plain pre rest fun d hd => h d (.tail _ hd)
    unfold crlf at ih ⊢
    rw [List.cons_append, crlfF, if_neg hc.1, if_neg hc.2, ih]
    rfl
theorem crlf_nl (r : List Nat) : crlf (10 :: r) = 13 :: 10 :: crlf r := by simp [crlf, crlfF]
theorem crlf_crlf (r : List Nat) : crlf (13 :: 10 :: r) = 13 :: 10 :: crlf r := by simp [crlf, crlfF]
theorem crlf_cr (r : List Nat) (h : r.head? ≠ some 10) : crlf (13 :: r) = 13 :: 10 :: crlf r := by
  cases r with
  | nil => simp [crlf, crlfF]
  | cons c r =>
    have : c ≠ 10 := fun e => h (by rw [e]; rfl)
    simp [crlf, crlfF, this]
theorem take_mem {text : Array Nat} {p : Nat → Bool} {start a : Nat} (ha : a ≤ text.size) (hm : ∀ j, start ≤ j → j < a → p j = false) : ∀ c ∈ (text.toList.drop start).take (a - start), ∃ j, start ≤ j ∧ j < a ∧ text.getD j 0 = c ∧ p j = false := by
  intro c hc
  obtain ⟨i, hi, e⟩ := List.mem_iff_getElem.mp hc
  rw [List.length_take, List.length_drop, Array.length_toList] at hi
  rw [List.getElem_take, List.getElem_drop] at e
  refine ⟨start + i, by omega, by omega, ?_, hm _ (by omega) (by omega)⟩
  rw [getD_list, List.getD_eq_getElem?_getD, List.getElem?_eq_getElem (by rw [Array.length_toList]; omega)]
  exact e
theorem drop_split (l : List Nat) (start a : Nat) (h : start ≤ a) : l.drop start = (l.drop start).take (a - start) ++ l.drop a := by
  have : l.drop a = (l.drop start).drop (a - start) := by rw [List.drop_drop]; congr 1; omega
  rw [this, List.take_append_drop]
theorem drop_at (text : Array Nat) (a : Nat) (h : a < text.size) : text.toList.drop a = text.getD a 0 :: text.toList.drop (a + 1) := by
  rw [List.drop_eq_getElem_cons (by rw [Array.length_toList]; exact h), getD_list, List.getD_eq_getElem?_getD, List.getElem?_eq_getElem (by rw [Array.length_toList]; exact h)]
  rfl
theorem sub2 (text : Array Nat) (fuel : Nat) (h : text.size < fuel) : cat (pieces text ⟨#[13, 10]⟩ (nxt2 text) fuel 0) = crlf text.toList := by
  have key := cat_pieces (next2 text) ⟨#[13, 10]⟩ (fun start => crlf (text.toList.drop start)) ?_ ?_ fuel 0 (by omega) (Nat.zero_le _)
  · rw [key]; rfl
  · intro start hs e
    unfold nxt2 at e
    rw [Option.map_eq_none_iff] at e
    have q := crlf_plain (text.toList.drop start) [] (fun c hc => by
      have hc' : c ∈ (text.toList.drop start).take (text.size - start) := by
        rw [List.take_of_length_le (by rw [List.length_drop, Array.length_toList]; exact Nat.le_refl _)]; exact hc
      obtain ⟨j, h1, h2, h3, h4⟩ := take_mem (p := nlc text) (Nat.le_refl _) (fun j h1 h2 => firstAt_none e j h1 (by omega)) c hc'
      unfold nlc at h4
      rw [h3] at h4
      simpa using h4)
    rw [List.append_nil] at q
    show crlf _ = _
    rw [q]; exact List.append_nil _
  · intro start a b hs e
    unfold nxt2 at e
    rw [Option.map_eq_some_iff] at e
    obtain ⟨t, ht, e⟩ := e
    obtain ⟨e1, e2⟩ := Prod.mk.inj e
    subst e2; subst e1
    obtain ⟨h1, h2, h3, h4⟩ := firstAt_some ht
    show crlf _ = _ ++ [13, 10] ++ crlf _
    conv => lhs; rw [drop_split text.toList start t h1]
    rw [crlf_plain _ _ (fun c hc => by
      obtain ⟨j, _, _, q3, q4⟩ := take_mem (p := nlc text) (by omega) h4 c hc
      unfold nlc at q4
      rw [q3] at q4
      simpa using q4), List.append_assoc]
    congr 1
    have hlt : t < text.size := by omega
    rw [drop_at text t hlt]
    unfold nlEnd
    by_cases h10 : text.getD t 0 = 10
    · have : (text.getD t 0 == 13) = false := by rw [h10]; rfl
      rw [this, Bool.false_and, Bool.false_and, if_neg Bool.false_ne_true, h10, crlf_nl]
      rfl
    · have h13 : text.getD t 0 = 13 := beq_iff_eq.mp ((Bool.or_eq_true_iff.mp h3).resolve_left fun q => h10 (beq_iff_eq.mp q))
      rw [h13]
      by_cases hc : t + 1 < text.size ∧ text.getD (t + 1) 0 = 10
      · rw [if_pos (by rw [hc.2, decide_eq_true hc.1]; rfl), drop_at text (t + 1) hc.1, hc.2, crlf_crlf]
        rfl
      · rw [if_neg (fun q => hc ⟨of_decide_eq_true (Bool.and_eq_true_iff.mp (Bool.and_eq_true_iff.mp q).1).2, beq_iff_eq.mp (Bool.and_eq_true_iff.mp q).2⟩), crlf_cr]
        · rfl
        · intro q
          apply hc
          have hlt1 : t + 1 < text.size := by
            apply Nat.lt_of_not_le
            intro hle
            rw [List.drop_eq_nil_iff.mpr (by rw [Array.length_toList]; exact hle)] at q
            cases q
          refine ⟨hlt1, ?_⟩
          rw [drop_at text (t + 1) hlt1] at q
          exact Option.some.inj q

/-! the first: a dot at a line's start -/
def dotF (text : Array Nat) : Nat → Nat → List Nat
  | 0, _ => []
  | d + 1, s => (if hit1 text s = true then [46, 46] else [text.getD s 0]) ++ dotF text d (s + 1)
theorem dotF_miss (text : Array Nat) : ∀ (d k s : Nat), s + d + k ≤ text.size → (∀ j, s ≤ j → j < s + d → hit1 text j = false) → dotF text (d + k) s = (text.toList.drop s).take d ++ dotF text k (s + d)
  | 0, k, s, _, _ => by rw [List.take_zero, Nat.zero_add]; rfl
  | d + 1, k, s, hs, hm => by
    rw [show d + 1 + k = (d + k) + 1 by omega, dotF, if_neg (by rw [hm s (Nat.le_refl _) (by omega)]; exact Bool.false_ne_true), dotF_miss text d k (s + 1) (by omega) fun j h1 h2 => hm j (by omega) (by omega),
      drop_at text s (by omega), show s + (d + 1) = s + 1 + d by omega]
    rfl
theorem dotF_dot1 (text : Array Nat) : ∀ (d s : Nat), s + d = text.size → dotF text d s = dot1 (bol text s) (text.toList.drop s)
  | 0, s, h => by rw [List.drop_eq_nil_iff.mpr (by rw [Array.length_toList]; omega)]; rfl
  | d + 1, s, h => by
    rw [drop_at text s (by omega), dotF, dot1, dotF_dot1 text d (s + 1) (by omega)]
    have : bol text (s + 1) = (text.getD s 0 == 10) := by
      unfold bol
      rw [show s + 1 - 1 = s by omega]
      simp
    rw [this]
    by_cases q : hit1 text s = true
    · rw [if_pos q, if_pos (by exact q)]
    · rw [if_neg q, if_neg (by exact q)]
theorem sub1 (text : Array Nat) (fuel : Nat) (h : text.size < fuel) : cat (pieces text ⟨#[46, 46]⟩ (nxt1 text) fuel 0) = dot1 true text.toList := by
  have key := cat_pieces (next1 text) ⟨#[46, 46]⟩ (fun start => dotF text (text.size - start) start) ?_ ?_ fuel 0 (by omega) (Nat.zero_le _)
  · rw [key]
    show dotF text (text.size - 0) 0 = _
    rw [dotF_dot1 text _ 0 (by omega)]
    rfl
  · intro start hs e
    unfold nxt1 at e
    rw [Option.map_eq_none_iff] at e
    show dotF text (text.size - start) start = _
    have q := dotF_miss text (text.size - start) 0 start (by omega) (fun j h1 h2 => firstAt_none e j h1 (by omega))
    rw [Nat.add_zero] at q
    rw [q, dotF, List.append_nil]
    exact List.take_of_length_le (by rw [List.length_drop, Array.length_toList]; exact Nat.le_refl _)
  · intro start a b hs e
    unfold nxt1 at e
    rw [Option.map_eq_some_iff] at e
    obtain ⟨t, ht, e⟩ := e
    obtain ⟨e1, e2⟩ := Prod.mk.inj e
    subst e2; subst e1
    obtain ⟨h1, h2, h3, h4⟩ := firstAt_some ht
    show dotF text (text.size - start) start = _ ++ [46, 46] ++ dotF text (text.size - (t + 1)) (t + 1)
    have q := dotF_miss text (t - start) (text.size - t) start (by omega) (fun j q1 q2 => h4 j q1 (by omega))
    rw [show t - start + (text.size - t) = text.size - start by omega, show start + (t - start) = t by omega] at q
    rw [q, List.append_assoc]
    congr 1
    rw [show text.size - t = (text.size - (t + 1)) + 1 by omega, dotF, if_pos h3]
end Mine

namespace Mine
open PySem PySem.Calls PyProof.Rows PySem.Builtin.Re
theorem slot_pat_sub : Slot "re.Pattern" "sub" "re.Pattern.sub" :=
  .of (owner := "re.Pattern") (n := "sub") (by rw [typeLookup_type, builtinLookup_eq_fast]; kernel_rfl) (by decide +kernel) (by decide +kernel) (by decide +kernel)
    (by first | exact .inl (by decide +kernel) | exact .inr (by decide +kernel)) (by rw [isSubtype_type]; kernel_rfl)
theorem entry_pat_sub : entryFor table "re.Pattern.sub" = some Builtin.«re.Pattern.sub» := entryFor_of_tree (by kernel_rfl)
theorem args_pat_sub (a b c : Value) : argsOk "re.Pattern.sub" ⟨[a, b, c], []⟩ := by unfold argsOk; kernel_rfl
theorem type_pat_sub : typeOf (.builtin "re.Pattern.sub") = pure (.type "method_descriptor") := by show builtinType _ = _; rw [builtinType_eq_fast]; kernel_rfl
theorem str_no_call : typeLookup (.type "str") "__call__" = pure none := by rw [typeLookup_type, builtinLookup_eq_fast]; kernel_rfl
theorem plainAttrs_pat : PlainAttrs "re.Pattern" :=
  ⟨⟨"object.__getattribute__", by rw [typeLookup_type, builtinLookup_eq_fast]; kernel_rfl, by decide +kernel⟩, by rw [typeLookup_type, builtinLookup_eq_fast]; kernel_rfl⟩

section
variable {prog : Program} {w : World} {A : Around} {E : Value → Shared → Prop} {s : Shared}
theorem call_sub {p : Addr} {code : Array Nat} {x repl : Str} {xt rt : Tok} {nxt : Nat → Option (Nat × Nat)} {Q : Value → Shared → Prop} (hP : IsPat s.heap p code) (hN : Next code x.cps nxt) (hr : repl.length ≤ 2)
    (h92 : repl.cps.contains 92 = false) (hx : x.cps.size ≤ 100000)
    (hQ : ∀ h' tk t, Kept s.heap h' → Q (.str (Str.join ⟨#[]⟩ (pieces x.cps repl nxt (x.cps.size + 1) 0)) t) { s with heap := h', toks := tk }) :
    wpAny (model prog w) A (call (.builtin "re.Pattern.sub") [.ref p, .str repl rt, .str x xt]) Q E s := by
  refine wpAny_call (codeAny_call_builtin slot_pat_sub.plain entry_pat_sub (slot_pat_sub.check _ _ _ _ _ _ _ _ hP.typeIs (args_pat_sub _ _ _) ?_))
  show wpAny _ _ (reSubstitute "re.Pattern.sub" "sub" false ⟨[.ref p, .str repl rt, .str x xt], []⟩) _ _ s
  unfold reSubstitute
  dsimp only
  refine wpAny_bind (m := reNamed "re.Pattern.sub" "sub" ["repl", "string", "count"] 2 [.str repl rt, .str x xt] []) (wpAny_of_eq (a := [some (.str repl rt), some (.str x xt), none]) rfl ?_)
  dsimp only
  refine wpAny_bind (wpAny_pure ?_)
  refine wpAny_bind (wpAny_specialOf (typeIs_str _ _ _) str_no_call ?_)
  refine ff Bool.false_ne_true ?_
  refine wpAny_bind (m := asStr? (.str repl rt)) (wpAny_pure ?_)
  dsimp only
  refine wpAny_bind (wpAny_pure ?_)
  refine ff Bool.false_ne_true ?_
  rw [h92]
  refine tt rfl ?_
  refine wpAny_bind (wpAny_pure ?_)
  refine wpAny_bind (wpAny_holding (whole_target hP ?_))
  refine ff (show ¬ ((0 : Int) == 1) = true from Bool.false_ne_true) ?_
  refine wpAny_bind (wpAny_newObj_type (T := "list") ?_ (by size_fits))
  refine wpAny_pure ⟨sub_quiet _, ?_⟩
  have hD : s.heap.get? s.heap.objs.size = none := by
    cases e : s.heap.get? s.heap.objs.size with
    | none => rfl
    | some o => exact absurd (Heap.lt_size e) (Nat.lt_irrefl _)
  exact sub_loop s.heap hP hN hr hx hD (x.cps.size + 1) { s with heap := s.heap.push { cls := .type "list", data := .seq #[] } } 0 0 #[] [] (by omega) (Nat.zero_le _) (fun b o e => Heap.get?_push_of_some _ e) ⟨0, Heap.get?_push_size _ rfl⟩ .nil (Nat.zero_le _) (Nat.zero_le _)
    fun h' tk t hk => hQ h' tk t hk
end
end Mine

namespace Mine
open PySem PySem.Calls PyProof.Rows
section
variable {prog : Program} {w : World} {A : Around} {E : Value → Shared → Prop} {s : Shared} {env : Env}
theorem dot1_len : ∀ (b : Bool) (l : List Nat), (dot1 b l).length ≤ 2 * l.length
  | _, [] => Nat.zero_le _
  | b, c :: r => by
    have := dot1_len (c == 10) r
    unfold dot1
    rw [List.length_append, List.length_cons]
    split <;> simp only [List.length_cons, List.length_nil] <;> omega
theorem crlfF_len : ∀ (b : Bool) (l : List Nat), (crlfF b l).length ≤ 2 * l.length
  | _, [] => Nat.zero_le _
  | b, c :: r => by
    have h1 := crlfF_len false r
    have h2 := crlfF_len true r
    unfold crlfF
    rw [List.length_cons]
    split
    · split
      · omega
      · simp only [List.length_cons]; omega
    · split <;> simp only [List.length_cons] <;> omega
def quoteL (l : List Nat) : List Nat := dot1 true (crlf l)

/-- a method of two arguments on an object that stands plain -/
theorem call_m2 {o e₁ e₂ : Expr} {name : Str} {apos pos : Pos} {T id : String} {Q : Value → Shared → Prop} (pa : PlainAttrs T) (slot : Slot T name id) (hty : typeOf (.builtin id) = pure (.type "method_descriptor"))
    (h : wpAny (model prog w) A (eval o env) (fun ov s₁ => s₁.TypeIs ov T ∧ (∀ a, ov = .ref a → ∃ ob, s₁.heap.get? a = some ob ∧ ob.dict = none) ∧
      wpAny (model prog w) A (eval e₁ env) (fun x s₂ => wpAny (model prog w) A (eval e₂ env) (fun y s₃ => wpAny (model prog w) A (call (.builtin id) [ov, x, y]) Q E s₃) E s₂) E s₁) E s)
    (hbase : attributeBase o name env (eval o env) = eval o env := by rfl) (hs : starEach [e₁, e₂] env = [(false, eval e₁ env), (false, eval e₂ env)] := by rfl) (hline : (apos.endLine == pos.line) = true := by rfl) :
    wpAny (model prog w) A (eval (.Call (.Attribute o name apos) [e₁, e₂] [] pos) env) Q E s :=
  Call_method2 hbase hs hline (wpAny_mono h (fun ov s₁ h₁ => ⟨T, id, pa, slot, hty, h₁.1, h₁.2.1, cw2 h₁.2.2⟩) fun _ _ e => e)
theorem call_m1 {o e₁ : Expr} {name : Str} {apos pos : Pos} {T id : String} {Q : Value → Shared → Prop} (pa : PlainAttrs T) (slot : Slot T name id) (hty : typeOf (.builtin id) = pure (.type "method_descriptor"))
    (h : wpAny (model prog w) A (eval o env) (fun ov s₁ => s₁.TypeIs ov T ∧ (∀ a, ov = .ref a → ∃ ob, s₁.heap.get? a = some ob ∧ ob.dict = none) ∧
      wpAny (model prog w) A (eval e₁ env) (fun x s₂ => wpAny (model prog w) A (call (.builtin id) [ov, x]) Q E s₂) E s₁) E s)
    (hbase : attributeBase o name env (eval o env) = eval o env := by rfl) (hs : starEach [e₁] env = [(false, eval e₁ env)] := by rfl) (hline : (apos.endLine == pos.line) = true := by rfl) :
    wpAny (model prog w) A (eval (.Call (.Attribute o name apos) [e₁] [] pos) env) Q E s :=
  Call_method1 hbase hs hline (wpAny_mono h (fun ov s₁ h₁ => ⟨T, id, pa, slot, hty, h₁.1, h₁.2.1, cw1 h₁.2.2⟩) fun _ _ e => e)
theorem IsPat.plain {p : Addr} {code : Array Nat} (x : IsPat s.heap p code) : ∀ a, Value.ref p = .ref a → ∃ ob, s.heap.get? a = some ob ∧ ob.dict = none := fun a e => by
  cases e
  obtain ⟨o, _, _, _, _, _, h1, _, h2, _⟩ := x
  exact ⟨o, h1, h2⟩

theorem quote_ok {mg mb : Str → Option Value} {a p1 p2 : Addr} {x : Str} {xt tc : Tok} {Q : Value → Shared → Prop} (hroom : A.depth < recursionLimit) (G : Gl mg mb s.heap) (hF : FnAt s.heap a 8)
    (h1 : mg "_twin_re_1" = some (.ref p1)) (P1 : IsPat s.heap p1 code1) (h2 : mg "_twin_re_2" = some (.ref p2)) (P2 : IsPat s.heap p2 code2) (hc : mg "CRLF" = some (.str ⟨#[13, 10]⟩ tc)) (hx : x.cps.size ≤ 10000)
    (hQ : ∀ h' tk t y, Kept s.heap h' → y.cps.toList = quoteL x.cps.toList → Q (.str y t) { s with heap := h', toks := tk }) : wpAny (model prog w) A (call (.ref a) [.str x xt] []) Q E s := by
  refine fn_call (i := 8) (binds := [("data", .str x xt)]) hroom G hF (fun _ _ _ => rfl) (fun h₁ cd F => ?_) (by rfl)
  refine wpAny_execs_cons (wpAny_Return_some ?_)
  refine call_m2 plainAttrs_pat slot_pat_sub type_pat_sub (ldG (G.keeps F.keep) h1 ⟨(P1.keeps F.keep).typeIs, (P1.keeps F.keep).plain, ?_⟩)
  refine Constant_str ?_
  refine call_m2 plainAttrs_pat slot_pat_sub type_pat_sub (ldG (G.keeps F.keep) h2 ⟨(P2.keeps F.keep).typeIs, (P2.keeps F.keep).plain, ?_⟩)
  refine ldG (G.keeps F.keep) hc ?_
  refine ld F (v := .str x xt) (by rfl) ?_
  refine call_sub (P2.keeps F.keep) (next2 _) (by decide) (by decide +kernel) (by omega) fun h' tk t hk => ?_
  have e2 : (Str.join ⟨#[]⟩ (pieces x.cps ⟨#[13, 10]⟩ (nxt2 x.cps) (x.cps.size + 1) 0)).cps.toList = crlf x.cps.toList := by rw [join_cat]; exact sub2 x.cps _ (by omega)
  generalize Str.join ⟨#[]⟩ (pieces x.cps ⟨#[13, 10]⟩ (nxt2 x.cps) (x.cps.size + 1) 0) = y at e2 ⊢
  have hy : y.cps.size ≤ 20000 := by
    have := crlfF_len false x.cps.toList
    have e : y.cps.toList.length = (crlfF false x.cps.toList).length := congrArg List.length e2
    have l1 : x.cps.toList.length = x.cps.size := Array.length_toList
    have l2 : y.cps.toList.length = y.cps.size := Array.length_toList
    omega
  have k2 : Kept s.heap h' := Kept.trans F.keep hk
  refine call_sub (P1.keeps k2) (next1 _) (by decide) (by decide +kernel) (by omega) fun h'' tk' t' hk' => ?_
  refine hQ h'' tk' t' _ (k2.trans hk') ?_
  rw [join_cat]
  have := sub1 y.cps (y.cps.size + 1) (by omega)
  rw [show (Str.ofString "..") = ⟨#[46, 46]⟩ from by decide +kernel, this, e2]
  rfl
end
end Mine

namespace Mine
open PySem PySem.Calls PyProof.Rows

section
variable {M : Model} {A : Around} {R : GenEnd} {Y : Protocol} {n : Nat} {s₀ : Shared} {c : Code} {fs : List Frame} {s : Shared} {env : Env}
  {K : Flow → Sem Fin} {H : Value → Sem Fin} {gd : Bool → Bool} {lv : List Value → List Value}

theorem seg_If {test : Expr} {body orelse : List Stmt} {pos : Pos}
    (h : wpAny M (A.over c fs) (isTrue test env (eval test env)) (fun b s' => if b = true then Seg M A R Y n s₀ c ((execs body env).wrap K H gd lv) fs s' else Seg M A R Y n s₀ c ((execs orelse env).wrap K H gd lv) fs s')
      (fun x s' => Seg M A R Y n s₀ c (H x) fs s') s) : Seg M A R Y n s₀ c ((exec (.If test body orelse pos) env).wrap K H gd lv) fs s := by
  rw [exec_If]
  show Seg M A R Y n s₀ c (.at pos fun _ => ((isTrue test env (eval test env)) >>= fun b => if b = true then execs body env else execs orelse env).wrap K H gd lv) fs s
  refine seg_at ?_
  rw [Sem.bind_eq_wrap', Sem.wrap_wrap]
  refine seg_wrap (wpAny_mono h (fun b s' h' => ?_) fun _ _ x => x)
  cases b with
  | true => exact h'
  | false => exact h'

/-- what stands behind a loop's own activation -/
def backK (env : Env) (K : Flow → Sem Fin) (H : Value → Sem Fin) (gd : Bool → Bool) (lv : List Value → List Value) : Result → Sem Fin := fun r =>
  ((match r with | .ok f => (.pure f : Sem Flow) | .error e => .raise e).onRaise fun (x : Value) => do
        if (← field x 1) == Value.none then unsupported "frame.own-activation:exception-without-traceback"
        setFlight x env.frame).wrap K H gd lv
theorem seg_For {target iter : Expr} {body orelse : List Stmt} {pos : Pos} (hs : ∀ x, foldedSetIterable iter env x = pure x)
    (h : wpAny M (A.over c fs) (eval iter env) (fun x s₁ => wpAny M (A.over c fs) (pyIter x) (fun it s₂ => ∀ p lv', Seg M A R Y n s₀ (.forLoop target it body orelse env) (M.den (.forLoop target it body orelse env))
      (.ret (backK env K H gd lv) none (gd false) lv' c p [] :: fs) s₂) (fun x s' => Seg M A R Y n s₀ c (H x) fs s') s₁) (fun x s' => Seg M A R Y n s₀ c (H x) fs s') s) :
    Seg M A R Y n s₀ c ((exec (.For target iter body orelse pos) env).wrap K H gd lv) fs s := by
  rw [exec_For]
  simp only [hs]
  show Seg M A R Y n s₀ c (.at pos fun _ => (eval iter env >>= fun x => (Sem.pure x : Sem Value) >>= fun x => standAt iter.pos >>= fun _ => holding [x] (pyIter x) >>= fun it => runOwn (.forLoop target it body orelse env) env).wrap K H gd lv) fs s
  refine seg_at ?_
  rw [Sem.bind_eq_wrap', Sem.wrap_wrap]
  refine seg_wrap (wpAny_mono h (fun x s₁ h₁ => ?_) fun _ _ x => x)
  show Seg M A R Y n s₀ c (.at iter.pos fun _ => (holding [x] (pyIter x) >>= fun it => runOwn (.forLoop target it body orelse env) env).wrap K H gd lv) fs s₁
  refine seg_at ?_
  rw [Sem.bind_eq_wrap', Sem.wrap_wrap]
  refine seg_wrap (wpAny_holding (wpAny_mono h₁ (fun it s₂ h₂ => ?_) fun _ _ x => x))
  exact seg_call fun p => h₂ p _
end
section
variable {prog : Program} {w : World} {A : Around} {R : GenEnd} {Y : Protocol} {n : Nat} {s₀ : Shared} {fs : List Frame} {s : Shared} {env : Env}
/-- a turn's end -/
def turnK (target : Expr) (it : Value) (body : List Stmt) (env : Env) : Flow → Sem Fin := fun f => match f with
  | .next | .cont => .pure (.again (.forLoop target it body [] env))
  | .brk => .pure (.done .next)
  | .ret v => .pure (.done (.ret v))
def turnH (env : Env) : Value → Sem Fin := fun e => (do noteFrame e env; theTreesLotGoes e : Sem Unit).wrap (fun _ => .raise e) .raise id id
theorem seg_forLoop {target : Expr} {it : Value} {body : List Stmt} (ht : ∀ v, letOwnedTupleGo target it v = pure ())
    (h : wpAny (model prog w) (A.over (.forLoop target it body [] env) fs) (pyNext it) (fun r s₁ => match r with
        | none => Seg (model prog w) A R Y n s₀ (.block [] env) ((model prog w).den (.block [] env)) fs s₁
        | some v => wpAny (model prog w) (A.over (.forLoop target it body [] env) fs) (assign target env v) (fun _ s₂ =>
            Seg (model prog w) A R Y n s₀ (.forLoop target it body [] env) ((execs body env).wrap (turnK target it body env) (turnH env) id id) fs s₂)
            (fun x s' => Seg (model prog w) A R Y n s₀ (.forLoop target it body [] env) (turnH env x) fs s') s₁)
      (fun x s' => Seg (model prog w) A R Y n s₀ (.forLoop target it body [] env) (turnH env x) fs s') s) :
    Seg (model prog w) A R Y n s₀ (.forLoop target it body [] env) ((model prog w).den (.forLoop target it body [] env)) fs s := by
  show Seg _ A R Y n s₀ _ ((forTurn target it body [] env).onRaise (fun x => do noteFrame x env; theTreesLotGoes x)) fs s
  unfold forTurn
  simp only [ht]
  show Seg _ A R Y n s₀ _ (.at target.pos fun _ => (((pyNext it).onRaise (fun _ => standAt { target.pos with line := 0 })) >>= fun r => match r with
    | none => (again (.block [] env) : Sem Fin)
    | some v => (Sem.pure () : Sem Unit) >>= fun _ => assign target env v >>= fun _ => execs body env >>= fun f => match f with
      | .next | .cont => again (.forLoop target it body [] env)
      | .brk => pure (.done .next)
      | .ret v => pure (.done (.ret v))).onRaise (fun x => do noteFrame x env; theTreesLotGoes x)) fs s
  refine seg_at ?_
  rw [Sem.onRaise_eq_wrap, Sem.bind_eq_wrap', Sem.wrap_wrap]
  have eH : ∀ e, ((do noteFrame e env; theTreesLotGoes e : Sem Unit).bind fun _ => (.raise e : Sem Fin)) = turnH env e := fun e => Sem.bind_eq_wrap _ _
  simp only [eH]
  refine seg_wrap (wpAny_onRaise (wpAny_mono h (fun r s₁ h₁ => ?_) fun x s' hx => wpAny_standAt hx))
  cases r with
  | none => exact seg_again rfl h₁
  | some v =>
    show Seg _ A R Y n s₀ _ ((assign target env v >>= fun _ => execs body env >>= fun f => match f with
      | .next | .cont => again (.forLoop target it body [] env)
      | .brk => pure (.done .next)
      | .ret v => pure (.done (.ret v))).wrap .pure (turnH env) id id) fs s₁
    rw [Sem.bind_eq_wrap', Sem.wrap_wrap]
    refine seg_wrap (wpAny_mono h₁ (fun _ s₂ h₂ => ?_) fun x s' hx => hx)
    rw [Sem.bind_eq_wrap', Sem.wrap_wrap]
    refine (congrArg (fun t => Seg (model prog w) A R Y n s₀ (.forLoop target it body [] env) t fs s₂) (Sem.wrap_congr (execs body env) (K' := turnK target it body env) (H' := turnH env) id id (fun f => ?_) (fun e => rfl))).mpr h₂
    cases f <;> rfl
end
end Mine

namespace Mine
open PySem PySem.Calls PyProof.Rows

/-- the k-th size -/
def yv (ns : List Int) (t k : Nat) : Int := if k < t then ns.getD k 0 else ns.getD (t - 1) 0
def keepB (B L : Addr) (h h' : Heap) : Prop := ∀ b o, b < B → b ≠ L → h.get? b = some o → h'.get? b = some o
def keepX (X : List Addr) (h h' : Heap) : Prop := ∀ b o, b ∉ X → h.get? b = some o → h'.get? b = some o
def Yp (N : Nat) (ns : List Int) (t : Nat) (inf : Bool) (B L : Addr) (X : List Addr) : Protocol := fun n s₀ v s₁ kap =>
  ∃ h₁ tk tv, s₁ = { s₀ with heap := h₁, toks := tk } ∧ v = .int (yv ns t (N - 1 - n)) tv ∧ (N - 1 - n < t ∨ inf = true) ∧ keepB B L s₀.heap h₁ ∧
    (0 < n → ∀ s'', keepX X h₁ s''.heap → kap (.send .none) s'')
def Pp (N t : Nat) (inf : Bool) (B L : Addr) : Nat → Shared → Shared → Prop := fun n s₀ s₁ => inf = false ∧ N - n = t ∧ ∃ h₁ tk, s₁ = { s₀ with heap := h₁, toks := tk } ∧ keepB B L s₀.heap h₁
def Rp (N t : Nat) (inf : Bool) (B L : Addr) : GenEnd := fun n s₀ r s₁ => r = .ok (.ret .none) ∧ Pp N t inf B L n s₀ s₁

/-- where the row ends -/
structure RowEnd (ns : List Int) (t : Nat) (inf : Bool) : Prop where
  lt : t < ns.length
  pre : ∀ j, j < t → ns.getD j 0 ≠ 0 ∧ ns.getD j 0 ≠ 127
  stop : ns.getD t 0 = if inf = true then 0 else 127
  pos : inf = true → 0 < t

section
variable {prog : Program} {w : World} {A : Around} {mg mb : Str → Option Value} {N : Nat} {ns : List Int} {vs : List Value} {t : Nat} {inf : Bool} {B L a l : Addr} {X : List Addr} {cd : Value}

/-- the generator between two turns -/
structure GI (mg mb : Str → Option Value) (ns : List Int) (vs : List Value) (B L l : Addr) (X : List Addr) (h : Heap) (m : Str → Option Value) : Prop where
  ns : h.Ns L m
  row : h.IsList l vs.toArray
  gl : Gl mg mb h

/-- the parts of the text's generator -/
def genLoop : Expr × Expr × List Stmt := match (defAt 3).2.2.1 with
  | [_, .For tg it b _ _] => (tg, it, b)
  | _ => (default, default, [])
def genEver : Expr × List Stmt := match genLoop.2.2 with
  | [_, .If _ [_, .While e b _ _] _ _, _, _] => (e, b)
  | _ => (default, [])

theorem ever (hL : L ∉ X) : ∀ (n k : Nat) (s₀ s : Shared) (m : Str → Option Value) (fs : List Frame) (tv : Tok), n = N - k → 0 < n → k < N → t ≤ k → inf = true →
    splitAtGen fs = none → fs.any Frame.guarded = false → s.heap.Ns L m → m "last_interval" = some (.int (ns.getD (t - 1) 0) tv) → (∃ h tk, s = { s₀ with heap := h, toks := tk } ∧ keepB B L s₀.heap h) →
    Seg (model prog w) A (Rp N t inf B L) (Yp N ns t inf B L X) n s₀ (.whileLoop genEver.1 genEver.2 [] (envAt 3 L a cd)) ((model prog w).den (.whileLoop genEver.1 genEver.2 [] (envAt 3 L a cd))) fs s
  | 0, _, _, _, _, _, _, _, h0, _, _, _, _, _, _, _, _ => absurd h0 (Nat.lt_irrefl _)
  | n + 1, k, s₀, s, m, fs, tv, hn, _, hkN, hk, hinf, hfs, hfg, hns, hm, hrel => by
    refine seg_whileLoop (wpAny_isTrue_value (wpAny_Constant_bool (wpAny_truthy_bool ?_)) rfl)
    rw [if_pos rfl]
    refine seg_execs_cons (seg_Expr_Yield hfs rfl hfg (wpAny_Name (wpAny_loadName_local rfl rfl hns hm ?_)))
    intro kap hkap
    obtain ⟨h, tk, rfl, hkB⟩ := hrel
    have e : N - 1 - n = k := by omega
    refine ⟨h, tk, tv, rfl, ?_, .inr hinf, hkB, ?_⟩
    · rw [e, yv, if_neg (by omega)]
    · intro hpos s'' hX
      refine hkap .none s'' ?_
      show Seg _ A _ _ n s'' _ (.pure (.again (.whileLoop genEver.1 genEver.2 [] (envAt 3 L a cd)))) fs s''
      refine seg_again rfl ?_
      exact ever hL n (k + 1) s'' s'' m fs tv (by omega) hpos (by omega) (by omega) hinf hfs hfg (hns.at fun o ho => hX L o hL ho) hm ⟨s''.heap, s''.toks, rfl, fun _ _ _ _ e => e⟩

/-- the frames under the generator's loop -/
def under1 (env : Env) (K : Flow → Sem Fin) (H : Value → Sem Fin) (lv : List Value) (c : Code) (p : Pos) : List Frame := [.ret (backK env K H id id) none (id false) lv c p []]

theorem put_same {m : Str → Option Value} {x : Str} {v : Value} : (fun y => if y = x then some v else m y) x = some v := by simp
theorem put_ne {m : Str → Option Value} {x y : Str} {v : Value} (h : y ≠ x) : (fun z => if z = x then some v else m z) y = m y := by simp [h]

theorem kept_but {hb h h' : Heap} {b : Addr} (k : Kept hb h) (hs : Heap.SameBut b h h') (hb' : hb.get? b = none) : Kept hb h' := fun c o e => (hs.2 c (fun q => by rw [q, hb'] at e; cases e)).trans (k c o e)
theorem ne_of_none {hb : Heap} {a b : Addr} {o : Obj} (ha : hb.get? a = some o) (hb' : hb.get? b = none) : a ≠ b := fun q => by rw [q, hb'] at ha; cases ha
theorem list_ne {hb : Heap} {l b : Addr} {its : Array Value} (hl : hb.IsList l its) (hb' : hb.get? b = none) : l ≠ b := let ⟨_, ho, _⟩ := hl; ne_of_none ho hb'
theorem list_kept {hb h : Heap} {l : Addr} {its : Array Value} (hl : hb.IsList l its) (k : Kept hb h) : h.IsList l its := let ⟨o, ho, r⟩ := hl; ⟨o, k _ _ ho, r⟩

theorem loop {hb : Heap} {K : Flow → Sem Fin} {H : Value → Sem Fin} (hK : K (.ret .none) = .pure (.done (.ret .none))) (hl : IntsAre vs ns) (RE : RowEnd ns t inf) (htN : t < N) (hA : A.handled = none) (hLX : L ∉ X) (hbG : Gl mg mb hb) (hbR : hb.IsList l vs.toArray) (hbL : hb.get? L = none) (hbX : ∀ x ∈ X, hb.get? x = none)
    (hcm : ∃ tk, mg "CHAR_MAX" = some (.int 127 tk)) :
    ∀ (n k It : Nat) (s₀ s : Shared) (m : Str → Option Value) (lv : List Value) (c : Code) (p : Pos), n = N - k → k ≤ t → B ≤ It → It ∉ X → hb.get? It = none → L ≠ It → s.heap.Ns L m → s.heap.IsListIter It l k → Kept hb s.heap →
    (k = 0 → m "last_interval" = some .none) → (0 < k → ∃ tv, m "last_interval" = some (.int (ns.getD (k - 1) 0) tv)) → (∃ h tk, s = { s₀ with heap := h, toks := tk } ∧ keepB B L s₀.heap h) →
    Seg (model prog w) A (Rp N t inf B L) (Yp N ns t inf B L X) n s₀ (.forLoop genLoop.1 (.ref It) genLoop.2.2 [] (envAt 3 L a cd)) ((model prog w).den (.forLoop genLoop.1 (.ref It) genLoop.2.2 [] (envAt 3 L a cd))) (under1 (envAt 3 L a cd) K H lv c p) s
  | 0, k, _, _, _, _, _, _, _, hn, hk, _, _, _, _, _, _, _, _, _, _ => absurd hn (by omega)
  | n + 1, k, It, s₀, s, m, lv, c, p, hn, hk, hB, hItX, hbI, hLIt, hns, hit, hkp, h0, h1, hrel => by
    obtain ⟨tk0, hcmv⟩ := hcm
    have hklt : k < ns.length := Nat.lt_of_le_of_lt hk RE.lt
    obtain ⟨tv, hx⟩ := hl.get k ns[k] (by simp [hklt])
    have hgd : ns.getD k 0 = ns[k] := by simp [List.getD_eq_getElem?_getD, hklt]
    refine seg_forLoop (fun _ => rfl) ?_
    refine wpAny_pyNext_list_item hit (list_kept hbR hkp) (x := .int ns[k] tv) (by simpa using hx) fun h' hit' hs' => ?_
    refine wpAny_assign_Name (wpAny_storeName_local rfl (hns.sameBut hs' hLIt) fun h2 hn2 hs2 => ?_)
    have hkp2 : Kept hb h2 := kept_but (kept_but hkp hs' hbI) hs2 hbL
    have hit2 : h2.IsListIter It l (k + 1) := hit'.extBut hs2.extBut (Ne.symm hLIt)
    have hkB2 : ∃ tk, { heap := h2, gens := s.gens, drawn := s.drawn, toks := s.toks + 1, os := s.os } = ({ s₀ with heap := h2, toks := tk } : Shared) ∧ keepB B L s₀.heap h2 := by
      obtain ⟨h, tk, rfl, q⟩ := hrel
      exact ⟨tk + 1, rfl, fun b o hb hbL e => (hs2.2 b hbL).trans ((hs'.2 b (Nat.ne_of_lt (Nat.lt_of_lt_of_le hb hB))).trans (q b o hb hbL e))⟩
    rw [← hgd] at hn2
    obtain ⟨v, hv⟩ : ∃ v, ns.getD k 0 = v := ⟨_, rfl⟩
    rw [hv] at hn2
    -- the first test
    refine seg_execs_cons (seg_If (wpAny_isTrue_Compare1 (wpAny_Name (wpAny_loadName_local rfl rfl hn2 put_same ?_)) (by rfl)))
    refine ldG (hbG.keeps hkp2) hcmv (wpAny_eq_int (wpAny_truthy_bool ?_))
    have hlast : ∀ x : Str, x ≠ "interval" → (fun y => if y = Str.ofString "interval" then some (Value.int v tv) else m y) x = m x := fun x hx => put_ne hx
    by_cases h127 : v = 127
    · -- the row ends: no size more
      have hkt : k = t := by
        apply Nat.le_antisymm hk
        apply Nat.le_of_not_lt
        intro hlt
        exact (RE.pre k hlt).2 (hv.trans h127)
      have hinf : inf = false := by
        cases hi : inf with
        | false => rfl
        | true =>
          have := RE.stop
          rw [hi, if_pos rfl, ← hkt, hv, h127] at this
          exact absurd this (by decide)
      rw [h127]
      refine seg_execs_cons (seg_wrap (wpAny_Return_none ?_))
      refine seg_leaf (.ok (.ret .none)) ?_
      show Seg _ A _ _ _ _ _ (K (.ret .none)) [] _
      rw [hK]
      refine seg_end (.ok (.ret .none)) ⟨rfl, hinf, by omega, ?_⟩
      obtain ⟨tk, e, q⟩ := hkB2
      exact ⟨h2, tk, e, q⟩
    · rw [show (v == 127) = false from beq_eq_false_iff_ne.mpr h127]
      refine seg_execs_nil ?_
      refine seg_execs_cons (seg_If (wpAny_isTrue_Compare1 (wpAny_Name (wpAny_loadName_local rfl rfl hn2 put_same (wpAny_Constant_int (wpAny_eq_int (wpAny_truthy_bool ?_))))) (by rfl)))
      by_cases h00 : v = 0
      · -- the row's last size again and again
        have hkt : k = t := by
          apply Nat.le_antisymm hk
          apply Nat.le_of_not_lt
          intro hlt
          exact (RE.pre k hlt).1 (hv.trans h00)
        have hinf : inf = true := by
          cases hi : inf with
          | true => rfl
          | false =>
            have := RE.stop
            rw [hi, if_neg Bool.false_ne_true, ← hkt, hv, h00] at this
            exact absurd this (by decide)
        have hpos : 0 < k := hkt ▸ RE.pos hinf
        obtain ⟨tv', hm'⟩ := h1 hpos
        have hm2 := (hlast "last_interval" (by decide +kernel)).trans hm'
        rw [h00]
        refine seg_execs_cons (seg_If (wpAny_isTrue_Compare1 (wpAny_Name (wpAny_loadName_local rfl rfl hn2 hm2 (wpAny_Constant_none (is_none (wpAny_truthy_bool ?_))))) (by rfl)))
        refine seg_execs_nil ?_
        refine seg_execs_cons (seg_While fun p' => ?_)
        rw [hkt] at hm2
        refine ever hLX (n + 1) k s₀ _ _ _ tv' hn (Nat.succ_pos _) (by omega) (by omega) hinf rfl rfl hn2 hm2 ?_
        obtain ⟨tk, e, q⟩ := hkB2
        obtain ⟨hs0, tk0', rfl, q0⟩ := hrel
        exact ⟨h2, _, rfl, q⟩
      · -- the next size
        have hklt2 : k < t := by
          apply Nat.lt_of_le_of_ne hk
          intro e
          have := RE.stop
          rw [← e, hv] at this
          cases hi : inf with
          | true => rw [hi, if_pos rfl] at this; exact h00 this
          | false => rw [hi, if_neg Bool.false_ne_true] at this; exact h127 this
        rw [show (v == 0) = false from beq_eq_false_iff_ne.mpr h00]
        refine seg_execs_nil ?_
        refine seg_execs_cons (seg_Expr_Yield rfl rfl rfl (wpAny_Name (wpAny_loadName_local rfl rfl hn2 put_same ?_)))
        intro kap hkap
        obtain ⟨hs0, tk0', rfl, q0⟩ := hrel
        obtain ⟨tk, e, q⟩ := hkB2
        have ek : N - 1 - n = k := by omega
        refine ⟨h2, _, tv, rfl, ?_, .inl (by omega), q, ?_⟩
        · rw [ek, yv, if_pos hklt2, hv]
        · intro hpos s'' hX
          refine hkap .none s'' ?_
          show Seg _ A _ _ n s'' _ ((execs _ (envAt 3 L a cd)).wrap _ _ id id) _ s''
          have hns'' : s''.heap.Ns L _ := hn2.at fun o ho => hX L o hLX ho
          refine seg_execs_cons (seg_wrap (wpAny_Assign_Name (wpAny_Name (wpAny_loadName_local rfl rfl hns'' put_same (wpAny_storeName_local rfl hns'' fun h3 hn3 hs3 => ?_)))))
          refine seg_execs_nil ?_
          refine seg_again rfl ?_
          have hkp'' : Kept hb s''.heap := fun b o e => hX b o (fun hm => by rw [hbX b hm] at e; cases e) (hkp2 b o e)
          refine loop hK hl RE htN hA hLX hbG hbR hbL hbX ⟨tk0, hcmv⟩ n (k + 1) It s'' _ _ lv c p (by omega) (by omega) hB hItX hbI hLIt hn3 ?_ (kept_but hkp'' hs3 hbL) (fun h => absurd h (by omega)) (fun _ => ⟨tv, ?_⟩) ?_
          · exact (hit2.at fun o ho => hX It o hItX ho).extBut hs3.extBut (Ne.symm hLIt)
          · rw [if_pos rfl, show k + 1 - 1 = k by omega, hv]
          · exact ⟨h3, s''.toks + 1, rfl, fun b o _ hbL' e => (hs3.2 b hbL').trans e⟩
theorem start {hb : Heap} (hl : IntsAre vs ns) (RE : RowEnd ns t inf) (htN : t < N) (hA : A.handled = none) (hLX : L ∉ X) (hbG : Gl mg mb hb) (hbR : hb.IsList l vs.toArray) (hbL : hb.get? L = none) (hbX : ∀ x ∈ X, hb.get? x = none)
    (hcm : ∃ tk, mg "CHAR_MAX" = some (.int 127 tk)) {s : Shared} {m : Str → Option Value} (hXB : ∀ x ∈ X, x < B) (hB : B ≤ s.heap.objs.size) (hns : s.heap.Ns L m) (hm : m "grouping" = some (.ref l)) (hkp : Kept hb s.heap) :
    Seg (model prog w) A (Rp N t inf B L) (Yp N ns t inf B L X) N s (.func (defAt 3).2.2.1 (envAt 3 L a cd)) ((model prog w).den (.func (defAt 3).2.2.1 (envAt 3 L a cd))) [] s := by
  refine seg_func ?_
  refine seg_execs_cons (seg_wrap (wpAny_Assign_Name (wpAny_Constant_none (wpAny_storeName_local rfl hns fun h2 hn2 hs2 => ?_))))
  refine seg_execs_cons (seg_For (fun _ => rfl) (wpAny_Name (wpAny_loadName_local rfl rfl hn2 ((put_ne (by decide +kernel)).trans hm) ?_)))
  have hkp2 : Kept hb h2 := kept_but hkp hs2 hbL
  refine wpAny_pyIter_list (list_kept hbR hkp2) ?_
  intro p lv'
  have hsz : h2.objs.size = s.heap.objs.size := hs2.1
  have hItB : B ≤ h2.objs.size := by rw [hsz]; exact hB
  have hLlt : L < h2.objs.size := hn2.lt
  have hIf : hb.get? h2.objs.size = none := by
    cases e : hb.get? h2.objs.size with
    | none => rfl
    | some o => exact absurd (Heap.lt_size (hkp2 _ _ e)) (Nat.lt_irrefl _)
  refine loop (prog := prog) (w := w) (a := a) (cd := cd) rfl hl RE htN hA hLX hbG hbR hbL hbX hcm N 0 h2.objs.size s { heap := h2.push { cls := .type "list_iterator", data := .fields #[.ref l, .int 0 0] }, gens := s.gens, drawn := s.drawn, toks := s.toks + 1, os := s.os } _ lv' _ p (by omega) (Nat.zero_le _) hItB (fun hm => absurd (hXB _ hm) (Nat.not_lt.mpr hItB)) hIf (Nat.ne_of_lt hLlt) (hn2.push _)
    ⟨{ cls := .type "list_iterator", data := .fields #[.ref l, .int 0 0] }, Heap.get?_push_size _ rfl, rfl, rfl⟩ (hkp2.trans fun b o e => Heap.get?_push_of_some _ e) (fun _ => if_pos rfl) (fun h => absurd h (Nat.lt_irrefl _)) ⟨_, _, rfl, fun b o _ hbL' e => Heap.get?_push_of_some _ ((hs2.2 b hbL').trans e)⟩
end
end Mine

namespace Mine
open PySem PySem.Calls PyProof.Rows

section
variable {prog : Program} {w : World} {A : Around} {E : Value → Shared → Prop} {s : Shared}
/-- a generator is asked for one more -/
theorem next_gen {a : Addr} {g n : Nat} {gs : GenState} {R : GenEnd} {Y : Protocol} {Q : Option Value → Shared → Prop} (hh : A.handled = none) (hl : s.heap.NoLimit) (hroom : A.depth < recursionLimit)
    (hg : s.heap.IsGen a g) (hgs : s.gens[g]? = some gs) (hgo : gs.Goes (model prog w) A.in1 R Y n (.send .none) (s.setGen g .running))
    (hY : ∀ v s₁ gs', gs'.bare = true → Y (n - 1) (s.setGen g .running) v s₁ (fun r' s'' => match n with | 0 => False | m + 1 => gs'.Goes (model prog w) A.in1 R Y m r' s'') → Q (some v) (s₁.setGen g gs'))
    (hP : ∀ x s₁, R n (s.setGen g .running) x s₁ → x = .ok (.ret .none) ∧ ∀ h', Kept s₁.heap h' → Q none { s₁.setGen g .finished with heap := h' }) :
    wpAny (model prog w) A (pyNext (.ref a)) Q E s := by
  unfold pyNext
  refine wpAny_bind (wpAny_attempt (wpAny_callSpecial?_slot (name := Str.ofString "__next__") hg.typeIs slot_gen_next (wpAny_call_entry slot_gen_next hg.typeIs entry_gen_next ?_ (args_gen_next _))))
  show wpAny _ A.in1 (Builtin.Generator.genWake (.ref a) (.send .none)) _ _ s
  unfold Builtin.Generator.genWake
  refine wpAny_bind (wpAny_holding (wpAny_genNumber hg (wpAny_bind (wpAny_genState hgs ?_))))
  cases gs with
  | running => exact hgo.elim
  | finished => exact hgo.elim
  | _ =>
    refine wpAny_bind (wpAny_roomToWake hl hroom ?_)
    show wpAny _ A.in1 (.resume g (.send .none) [] _) _ _ s
    refine wpAny_resumeQ hgs hgo (fun x s₁ hx => ?_) (fun v s₁ gs' hb hv => ?_)
    · obtain ⟨rfl, hq⟩ := hP x s₁ hx
      show wpAny _ A.in1 (newExc (.type "StopIteration") [] >>= _) _ _ _
      refine wpAny_bind ?_
      simp only [newExc, newTuple]
      refine wpAny_bind (wpAny_newObj_type ?_ (by size_fits))
      refine wpAny_bind (m := firstArgMember _ _) (wpAny_of_eq (a := Value.none) (by first | rfl | (simp only [firstArgMember]; rfl)) ?_)
      refine wpAny_newObj_type ?_ (by size_fits)
      simp only [raiseNew]
      refine wpAny_bind (wpAny_bind (wpAny_handled ?_))
      rw [show A.in1.handled = none from hh]
      refine wpAny_throw ?_
      refine wpAny_bind (wpAny_isInstance (T := "StopIteration") (b := true) ⟨_, Heap.get?_push_size _ rfl, rfl⟩ isSubtype_stop ?_)
      exact wpAny_pure (hq _ fun b o hb => Heap.get?_push_of_some _ (Heap.get?_push_of_some _ hb))
    · exact wpAny_pure ⟨v, rfl, wpAny_pure (hY v s₁ gs' hb hv)⟩

variable {mg mb : Str → Option Value} {env : Env}
theorem evalF1 {f : Str} {fp pos : Pos} {arg : Expr} {a : Addr} {i : Nat} {Q : Value → Shared → Prop} (G : Gl mg mb s.heap) (hv : mg f = some (.ref a)) (hF : FnAt s.heap a i)
    (h : wpAny (model prog w) A (eval arg env) (fun v s₁ => Kept s.heap s₁.heap ∧ wpAny (model prog w) A (call (.ref a) [v] []) Q E s₁) E s)
    (hk : env.scope.kind = .function := by rfl) (hx : env.kindOf f = some .globalImplicit := by rfl) (hg : env.globals = mainGlobals := by rfl) (hd : (f == ("__debug__" : Str)) = false := by decide +kernel)
    (hs : backTo pos (starEach [arg] env) = [(false, eval arg env)] := by rfl) : wpAny (model prog w) A (eval (.Call (.Name f fp) [arg] [] pos) env) Q E s := by
  refine wpAny_Call_ofName (ldG G hv ?_ hk hx hg hd)
  rw [hs]
  exact cwF1 hF h
theorem isterm_ok {a : Addr} {k : Int} {t : Tok} {Q : Value → Shared → Prop} (hroom : A.depth < recursionLimit) (G : Gl mg mb s.heap) (hF : FnAt s.heap a 61) (hnt : ∃ tk, mg "NT_OFFSET" = some (.int 256 tk))
    (hQ : ∀ h' tk, Kept s.heap h' → Q (.bool (decide (k < 256))) { s with heap := h', toks := tk }) : wpAny (model prog w) A (call (.ref a) [.int k t] []) Q E s := by
  obtain ⟨tk, hnt⟩ := hnt
  refine fn_call (i := 61) (binds := [("x", .int k t)]) hroom G hF (fun _ _ _ => rfl) (fun h₁ cd F => ?_) (by rfl)
  refine wpAny_execs_cons (wpAny_Return_some (wpAny_Compare1 (ld F (v := .int k t) (by rfl) (ldG (G.keeps F.keep) hnt ?_)) (by rfl)))
  exact wpAny_lt_int (hQ h₁ _ F.keep)

end
end Mine

namespace Mine
open PySem PySem.Calls PyProof.Rows

section
variable {prog : Program} {w : World} {A : Around} {E : Value → Shared → Prop} {s : Shared} {mg mb : Str → Option Value} {env : Env}
/-- the generator is made -/
theorem gen_call {a l : Addr} {Q : Value → Shared → Prop} (hroom : A.depth < recursionLimit) (G : Gl mg mb s.heap) (hF : FnAt s.heap a 3)
    (hQ : ∀ h₁ cd m, h₁.Ns s.heap.objs.size m → m "grouping" = some (.ref l) → Heap.SameBut s.heap.objs.size (s.heap.push { cls := .type "frame", data := .dict #[] }) h₁ → ∀ tk nm qn,
      Q (.ref h₁.objs.size) { s with gens := s.gens.push (.fresh (.func (defAt 3).2.2.1 (envAt 3 s.heap.objs.size a cd))), toks := tk, heap := h₁.push { cls := .type "generator", data := .fields #[.int s.gens.size 0, nm, qn] } }) : wpAny (model prog w) A (call (.ref a) [.ref l] []) Q E s := by
  obtain ⟨o, pm, cd, doc, h1, h2, h3⟩ := hF
  refine wpAny_call (codeAny_call_generator (body := (defAt 3).2.2.1) hroom h1 h2 rfl rfl rfl h3 ?_)
  refine wpAny_of_eq (a := [(Str.ofString "grouping", Value.ref l)]) rfl ?_
  refine wpAny_newFunctionEnv (show ∀ x ∈ (defAt 3).2.2.2.names, x.2 ≠ .cell from by decide +kernel) (locs (scope := (defAt 3).2.2.2) (by rfl)) (fun h' hns hsb => ⟨G.lim.fresh _ hsb, ?_⟩) rfl
  exact hQ h' cd _ hns (by rfl) hsb _ _ _
end

def sumY (ns : List Int) (t k : Nat) : Int := ((List.range k).map (yv ns t)).sum
theorem sumY_succ (ns : List Int) (t k : Nat) : sumY ns t (k + 1) = sumY ns t k + yv ns t k := by
  unfold sumY
  rw [List.range_succ, List.map_append, List.sum_append]
  simp

/-- what the consumer holds -/
structure TI (hb : Heap) (Lt a1 a2 g gi : Nat) (h : Heap) (m : Str → Option Value) (its1 its2 : Array Value) : Prop where
  F : Fr hb Lt h m
  p1 : h.PlainList a1 its1
  p2 : h.PlainList a2 its2
  hg : h.IsGen g gi
structure TS (hb : Heap) (Lt a1 a2 g B L : Nat) : Prop where
  h1 : hb.get? a1 = none
  h2 : hb.get? a2 = none
  hL : hb.get? L = none
  n12 : a1 ≠ a2
  n1 : a1 ≠ Lt
  n2 : a2 ≠ Lt
  g1 : g ≠ a1
  g2 : g ≠ a2
  g3 : g ≠ Lt
  l1 : a1 < B
  l2 : a2 < B
  l3 : Lt < B
  l4 : g < B
  e1 : a1 ≠ L
  e2 : a2 ≠ L
  e3 : Lt ≠ L
  e4 : g ≠ L
  old : ∀ b o, hb.get? b = some o → b < B
  lt : hb.get? Lt = none
section
variable {hb : Heap} {Lt a1 a2 g gi B L : Nat} {h h' : Heap} {m m' : Str → Option Value} {its1 its2 its : Array Value}
theorem TI.kept (T : TI hb Lt a1 a2 g gi h m its1 its2) (k : Kept h h') : TI hb Lt a1 a2 g gi h' m its1 its2 :=
  ⟨⟨T.F.ns.keeps k, fun b o e => k b o (T.F.keep b o e), T.F.above⟩, T.p1.at (k _), T.p2.at (k _), T.hg.keeps k⟩
theorem TI.kB (S : TS hb Lt a1 a2 g B L) (T : TI hb Lt a1 a2 g gi h m its1 its2) (k : keepB B L h h') : TI hb Lt a1 a2 g gi h' m its1 its2 :=
  ⟨⟨T.F.ns.at fun o e => k _ o S.l3 S.e3 e, fun b o e => k b o (S.old b o e) (fun q => by rw [q, S.hL] at e; cases e) (T.F.keep b o e), T.F.above⟩, T.p1.at fun o e => k _ o S.l1 S.e1 e, T.p2.at fun o e => k _ o S.l2 S.e2 e,
    let ⟨o, nm, qn, ho, r⟩ := T.hg; ⟨o, nm, qn, k _ _ S.l4 S.e4 ho, r⟩⟩
theorem TI.store (S : TS hb Lt a1 a2 g B L) (T : TI hb Lt a1 a2 g gi h m its1 its2) (hn : h'.Ns Lt m') (hs : Heap.SameBut Lt h h') : TI hb Lt a1 a2 g gi h' m' its1 its2 :=
  ⟨T.F.set hn hs, T.p1.extBut hs.extBut S.n1, T.p2.extBut hs.extBut S.n2, T.hg.sameBut hs S.g3⟩
theorem TI.app1 (S : TS hb Lt a1 a2 g B L) (T : TI hb Lt a1 a2 g gi h m its1 its2) (hp : h'.PlainList a1 its) (hs : Heap.SameBut a1 h h') : TI hb Lt a1 a2 g gi h' m its its2 :=
  ⟨⟨T.F.ns.sameBut hs (Ne.symm S.n1), kept_but T.F.keep hs S.h1, T.F.above⟩, hp, T.p2.extBut hs.extBut (Ne.symm S.n12), T.hg.sameBut hs S.g1⟩
theorem TI.app2 (S : TS hb Lt a1 a2 g B L) (T : TI hb Lt a1 a2 g gi h m its1 its2) (hp : h'.PlainList a2 its) (hs : Heap.SameBut a2 h h') : TI hb Lt a1 a2 g gi h' m its1 its :=
  ⟨⟨T.F.ns.sameBut hs (Ne.symm S.n2), kept_but T.F.keep hs S.h2, T.F.above⟩, T.p1.extBut hs.extBut S.n12, hp, T.hg.sameBut hs S.g2⟩
theorem keepX_same {X : List Addr} {h₀ h h' : Heap} {b : Addr} (k : keepX X h₀ h) (hs : Heap.SameBut b h h') (hb : b ∈ X) : keepX X h₀ h' := fun c o hc e => (hs.2 c (fun q => hc (q ▸ hb))).trans (k c o hc e)
theorem keepX_kept {X : List Addr} {h₀ h h' : Heap} (k : keepX X h₀ h) (hk : Kept h h') : keepX X h₀ h' := fun c o hc e => hk c o (k c o hc e)
end
end Mine

namespace Mine
open PySem PySem.Calls PyProof.Rows

def toldFor : Expr × Expr × List Stmt := match (defAt 66).2.2.1 with
  | [_, _, _, .Try [.For tg it b _ _] _ _ _ _, _] => (tg, it, b)
  | _ => (default, default, [])

theorem IntsAre.snoc {vs : List Value} {xs : List Int} {x : Int} {t : Tok} (h : IntsAre vs xs) : IntsAre (vs ++ [.int x t]) (xs ++ [x]) := by
  induction h with
  | nil => exact .cons _ _ .nil
  | cons z u _ ih => exact .cons z u ih
def sizesK (ns : List Int) (t k : Nat) : List Int := (List.range k).map (yv ns t)
def marksK (ns : List Int) (t k : Nat) : List Int := (List.range k).map fun j => sumY ns t (j + 1)
theorem sizesK_succ (ns : List Int) (t k : Nat) : sizesK ns t (k + 1) = sizesK ns t k ++ [yv ns t k] := by simp [sizesK, List.range_succ]
theorem marksK_succ (ns : List Int) (t k : Nat) : marksK ns t (k + 1) = marksK ns t k ++ [sumY ns t (k + 1)] := by simp [marksK, List.range_succ]
theorem sizesK_len (ns : List Int) (t k : Nat) : (sizesK ns t k).length = k := by simp [sizesK]

theorem yv_pos {ns : List Int} {t k : Nat} (hp : ∀ j, j < t → 1 ≤ ns.getD j 0) (h : k < t ∨ 0 < t) : 1 ≤ yv ns t k := by
  unfold yv
  by_cases q : k < t
  · rw [if_pos q]; exact hp k q
  · rw [if_neg q]; exact hp (t - 1) (by omega)
theorem sumY_ge {ns : List Int} {t : Nat} (hp : ∀ j, j < t → 1 ≤ ns.getD j 0) : ∀ k, (∀ j, j < k → j < t ∨ 0 < t) → (k : Int) ≤ sumY ns t k
  | 0, _ => by simp [sumY]
  | k + 1, h => by
    have := sumY_ge hp k fun j hj => h j (by omega)
    have := yv_pos hp (h k (by omega))
    rw [sumY_succ]; omega

theorem gens_set (G0 : Array GenState) (a b : GenState) : (G0.push a).setIfInBounds G0.size b = G0.push b := by
  apply Array.ext'
  simp
theorem plain_dict {h : Heap} {a : Addr} {its : Array Value} (p : h.PlainList a its) : ∀ b, Value.ref a = .ref b → ∃ ob, h.get? b = some ob ∧ ob.dict = none := fun b e => by
  cases e
  obtain ⟨n, ho⟩ := p
  exact ⟨_, ho, rfl⟩

section
variable {prog : Program} {w : World} {A : Around} {E : Value → Shared → Prop} {mg mb : Str → Option Value} {ns : List Int} {vs : List Value} {t : Nat} {inf : Bool}

theorem told_loop {hb : Heap} {Lt a1 a2 g B L l at' : Nat} {cd : Value} {G0 : Array GenState} {R : Result → Shared → Prop} (s₀ : Shared) (hA : A.handled = none) (hroom : A.depth + 5 < recursionLimit) (S : TS hb Lt a1 a2 g B L)
    (hbG : Gl mg mb hb) (RE : RowEnd ns t inf) (hp : ∀ j, j < t → 1 ≤ ns.getD j 0) (ht : t < 300) {aT : Nat} (hT : mg "ISTERMINAL" = some (.ref aT)) (hF : FnAt hb aT 61) (hnt : ∃ tk, mg "NT_OFFSET" = some (.int 256 tk))
    (hnext : ∀ h tk m gs its1 its2, gs.bare = true → TI hb Lt a1 a2 g G0.size h m its1 its2 → m "sizes" = some (.ref a1) → m "marks" = some (.ref a2) → IntsAre its1.toList (sizesK ns t t) → IntsAre its2.toList (marksK ns t t) → inf = false →
      (∀ j, j < t → sumY ns t (j + 1) < 256) → R (.ok .next) { s₀ with heap := h, toks := tk, gens := G0.push gs })
    (hret : ∀ h tk gs its1 its2 K r, gs.bare = true → Kept hb h → h.PlainList a1 its1 → h.PlainList a2 its2 → h.PlainList r #[.ref a1, .ref a2] → hb.get? r = none → IntsAre its1.toList (sizesK ns t K) → IntsAre its2.toList (marksK ns t K) →
      (∀ j, j < K → sumY ns t (j + 1) < 256) → (K < t ∨ inf = true) → 256 ≤ sumY ns t (K + 1) → R (.ok (.ret (.ref r))) { s₀ with heap := h, toks := tk, gens := G0.push gs })
    (s : Shared) (h : Heap) (tk : Nat) (m : Str → Option Value) (gs : GenState) (hs : s = { s₀ with heap := h, toks := tk, gens := G0.push gs }) (T : TI hb Lt a1 a2 g G0.size h m #[] #[]) (hm1 : m "sizes" = some (.ref a1)) (hm2 : m "marks" = some (.ref a2))
    (hm3 : ∃ tk, m "mark" = some (.int 0 tk)) (hgo : ∀ s'', keepX [Lt, a1, a2] h s''.heap → gs.Goes (model prog w) A.in1 (Rp 300 t inf B L) (Yp 300 ns t inf B L [Lt, a1, a2]) 300 (.send .none) s'') :
    codeAny (model prog w) A (.forLoop toldFor.1 (.ref g) toldFor.2.2 [] (envAt 66 Lt at' cd)) R s := by
  refine codeAny_forLoop (fun n s => ∃ k gs h tk m its1 its2 hY, n = 300 - k ∧ k ≤ 256 ∧ s = { s₀ with heap := h, toks := tk, gens := G0.push gs } ∧ TI hb Lt a1 a2 g G0.size h m its1 its2 ∧ m "sizes" = some (.ref a1) ∧ m "marks" = some (.ref a2) ∧
      (∃ tk, m "mark" = some (.int (sumY ns t k) tk)) ∧ IntsAre its1.toList (sizesK ns t k) ∧ IntsAre its2.toList (marksK ns t k) ∧ (∀ j, j < k → sumY ns t (j + 1) < 256) ∧ (∀ j, j < k → j < t ∨ inf = true) ∧ keepX [Lt, a1, a2] hY h ∧
      (∀ s'', keepX [Lt, a1, a2] hY s''.heap → gs.Goes (model prog w) A.in1 (Rp 300 t inf B L) (Yp 300 ns t inf B L [Lt, a1, a2]) (300 - k) (.send .none) s'')) ?_ 300
    ⟨0, gs, h, tk, m, #[], #[], h, rfl, Nat.zero_le _, hs, T, hm1, hm2, hm3, .nil, .nil, (fun _ hj => absurd hj (Nat.not_lt_zero _)), (fun _ hj => absurd hj (Nat.not_lt_zero _)), fun _ _ _ e => e, hgo⟩
  clear hs T hm1 hm2 hm3 hgo
  rintro n s ⟨k, gs, h, tk, m, its1, its2, hY, rfl, hk, rfl, T, hm1, hm2, ⟨tm, hm3⟩, hi1, hi2, hlt, hin, hX, hgo⟩
  refine next_gen hA (hbG.keeps T.F.keep).lim (by omega) T.hg (gs := gs) (by simp) (hgo _ hX) (fun v s₁ gs' hbare hv => ?_) (fun x s₁ hx => ?_)
  · obtain ⟨h₁, tk₁, tv, rfl, rfl, hcase, hkB, hkap⟩ := hv
    have ek : 300 - 1 - (300 - k - 1) = k := by omega
    rw [ek] at hcase ⊢
    have T1 := T.kB S hkB
    show wpAny _ _ _ _ _ ({ s₀ with heap := h₁, toks := tk₁, gens := ((G0.push gs).setIfInBounds G0.size .running).setIfInBounds G0.size gs' } : Shared)
    rw [gens_set, gens_set]
    refine wpAny_assign_Name (wpAny_storeName_local rfl T1.F.ns fun h2 hn2 hs2 => ?_)
    have T2 := T1.store S hn2 hs2
    refine wpAny_execs_cons (wpAny_AugAssign_Name (wpAny_loadName_local rfl rfl hn2 ((put_ne (by decide +kernel)).trans hm3) (wpAny_Name (wpAny_loadName_local rfl rfl hn2 put_same (wpAny_iadd_int (wpAny_storeName_local rfl hn2 fun h3 hn3 hs3 => ?_))))))
    have T3 := T2.store S hn3 hs3
    dsimp only
    rw [← sumY_succ] at hn3
    refine wpAny_execs_cons (wpAny_If (wpAny_isTrue_Not (wpAny_isTrue_value (evalF1 (hbG.keeps T3.F.keep) hT (hF.keeps T3.F.keep) (wpAny_Name (wpAny_loadName_local rfl rfl hn3 put_same ⟨Kept.refl _, ?_⟩))) rfl)))
    refine isterm_ok (by omega) (hbG.keeps T3.F.keep) (hF.keeps T3.F.keep) hnt fun h4 tk4 hk4 => wpAny_truthy_bool ?_
    have T4 := T3.kept hk4
    have hn4 := hn3.keeps hk4
    have s1 : ∀ x : Str, x ≠ "mark" → x ≠ "size" → ∀ u v : Option Value, (if x = Str.ofString "mark" then u else if x = Str.ofString "size" then v else m x) = m x := fun x h1 h2 u v => by rw [if_neg h1, if_neg h2]
    have q1 : ∀ u v : Option Value, (if Str.ofString "sizes" = Str.ofString "mark" then u else if Str.ofString "sizes" = Str.ofString "size" then v else m "sizes") = some (.ref a1) := fun u v => (s1 _ (by decide +kernel) (by decide +kernel) u v).trans hm1
    have q2 : ∀ u v : Option Value, (if Str.ofString "marks" = Str.ofString "mark" then u else if Str.ofString "marks" = Str.ofString "size" then v else m "marks") = some (.ref a2) := fun u v => (s1 _ (by decide +kernel) (by decide +kernel) u v).trans hm2
    have q3 : ∀ u v : Option Value, (if Str.ofString "size" = Str.ofString "mark" then u else if Str.ofString "size" = Str.ofString "size" then v else m "size") = v := fun u v => by rw [if_neg (by decide +kernel), if_pos rfl]
    have hcase' : ∀ j, j < k + 1 → j < t ∨ inf = true := fun j hj => (Nat.lt_or_ge j k).elim (hin j) fun hge => by rw [show j = k by omega]; exact hcase
    by_cases hm256 : sumY ns t (k + 1) < 256
    · -- one size more
      rw [decide_eq_true hm256]
      refine wpAny_execs_nil ?_
      refine wpAny_execs_cons (wpAny_Expr (call_m1 F.plainAttrs_list F.slot_list_append F.type_list_append (wpAny_Name (wpAny_loadName_local rfl rfl hn4 (q1 _ _) ⟨T4.p1.isList.typeIs, plain_dict T4.p1, ?_⟩))) rfl rfl)
      refine wpAny_Name (wpAny_loadName_local rfl rfl hn4 (q3 _ _) ?_)
      have hlen1 : its1.size = k := by
        have := IntsAre.length hi1
        rw [sizesK_len, Array.length_toList] at this
        exact this
      have hlen2 : its2.size = k := by
        have := IntsAre.length hi2
        rw [show (marksK ns t k).length = k by simp [marksK], Array.length_toList] at this
        exact this
      refine wpAny_list_append_plain T4.p1 ?_ (by rw [sizeLine_eq]; omega)
      intro h5 hp5 hs5
      have T5 := T4.app1 S hp5 hs5
      refine wpAny_execs_cons (wpAny_Expr (call_m1 F.plainAttrs_list F.slot_list_append F.type_list_append (wpAny_Name (wpAny_loadName_local rfl rfl T5.F.ns (q2 _ _) ⟨T5.p2.isList.typeIs, plain_dict T5.p2, ?_⟩))) rfl rfl)
      refine wpAny_Name (wpAny_loadName_local rfl rfl T5.F.ns (if_pos rfl) ?_)
      refine wpAny_list_append_plain T5.p2 ?_ (by rw [sizeLine_eq]; omega)
      intro h6 hp6 hs6
      have T6 := T5.app2 S hp6 hs6
      refine wpAny_execs_nil ?_
      have hlt' : ∀ j, j < k + 1 → sumY ns t (j + 1) < 256 := fun j hj => (Nat.lt_or_ge j k).elim (hlt j) fun hge => by rw [show j = k by omega]; exact hm256
      have hk1 : k + 1 ≤ 256 := by
        have := sumY_ge hp (k + 1) fun j hj => (hcase' j hj).imp id fun hi => RE.pos hi
        omega
      refine ⟨300 - (k + 1), by omega, k + 1, gs', h6, _, _, _, _, h₁, rfl, hk1, rfl, T6, q1 _ _, q2 _ _, ⟨_, by rw [sumY_succ]; exact if_pos rfl⟩, ?_, ?_, hlt', hcase', ?_, ?_⟩
      · rw [Array.toList_push, sizesK_succ]; exact IntsAre.snoc hi1
      · rw [Array.toList_push, marksK_succ, sumY_succ]; exact IntsAre.snoc hi2
      · exact keepX_same (b := a2) (keepX_same (b := a1) (keepX_kept (keepX_same (b := Lt) (keepX_same (b := Lt) (fun _ _ _ e => e) hs2 (by simp)) hs3 (by simp)) hk4) hs5 (by simp)) hs6 (by simp)
      · intro s'' hX''
        have := hkap (by omega) s'' hX''
        rw [show 300 - k = (300 - (k + 1)) + 1 by omega] at this
        exact this
    · -- the mark is too great
      rw [decide_eq_false hm256]
      refine wpAny_execs_cons (wpAny_Return_some (wpAny_List (spliced_cons (wpAny_Name (wpAny_loadName_local rfl rfl hn4 (q1 _ _) (spliced_cons (wpAny_Name (wpAny_loadName_local rfl rfl hn4 (q2 _ _) (spliced_nil ?_)))))))))
      refine ⟨by rw [sizeLine_eq]; exact (show 2 ≤ 16777216 by decide), ?_⟩
      have hpush : Kept h4 (h4.push { cls := .type "list", data := .seq #[.ref a1, .ref a2] }) := fun b o e => Heap.get?_push_of_some _ e
      have T5 := T4.kept hpush
      exact hret _ _ gs' its1 its2 k _ hbare T5.F.keep T5.p1 T5.p2 ⟨0, Heap.get?_push_size _ rfl⟩ (fresh_none T4.F.keep) hi1 hi2 hlt hcase (by omega)
  · obtain ⟨rfl, hinf, hkt, h₁, tk₁, rfl, hkB⟩ := hx
    refine ⟨rfl, fun h' hk' => ?_⟩
    have T1 := (T.kB S hkB).kept hk'
    show wpAny _ _ _ _ _ ({ s₀ with heap := h', toks := tk₁, gens := ((G0.push gs).setIfInBounds G0.size .running).setIfInBounds G0.size .finished } : Shared)
    rw [gens_set, gens_set]
    have hkt : k = t := by omega
    subst hkt
    exact wpAny_execs_nil (hnext h' tk₁ m .finished its1 its2 rfl T1 hm1 hm2 hi1 hi2 hinf hlt)
end
end Mine

namespace Mine
open PySem PySem.Calls PyProof.Rows
section
variable {prog : Program} {w : World} {A : Around} {E : Value → Shared → Prop} {s : Shared} {mg mb : Str → Option Value} {ns : List Int} {vs : List Value} {t : Nat} {inf : Bool}

theorem told_ok {a aT aG l : Addr} {Q : Value → Shared → Prop} (hroom : A.depth + 10 < recursionLimit) (hA : A.handled = none) (G : Gl mg mb s.heap) (hF : FnAt s.heap a 66) (hT : mg "ISTERMINAL" = some (.ref aT)) (hFT : FnAt s.heap aT 61)
    (hnt : ∃ tk, mg "NT_OFFSET" = some (.int 256 tk)) (hcm : ∃ tk, mg "CHAR_MAX" = some (.int 127 tk)) (hG : mg "_grouping_intervals" = some (.ref aG)) (hFG : FnAt s.heap aG 3)
    (hl : s.heap.IsList l vs.toArray) (hi : IntsAre vs ns) (RE : RowEnd ns t inf) (hp : ∀ j, j < t → 1 ≤ ns.getD j 0) (ht : t < 300)
    (hQ : ∀ h' tk gs r a1 a2 its1 its2 K, gs.bare = true → Kept s.heap h' → h'.PlainList r #[.ref a1, .ref a2] → h'.PlainList a1 its1 → h'.PlainList a2 its2 → s.heap.get? r = none → IntsAre its1.toList (sizesK ns t K) → IntsAre its2.toList (marksK ns t K) →
      (∀ j, j < K → sumY ns t (j + 1) < 256) → ((K = t ∧ inf = false) ∨ ((K < t ∨ inf = true) ∧ 256 ≤ sumY ns t (K + 1))) → Q (.ref r) { s with heap := h', toks := tk, gens := s.gens.push gs }) :
    wpAny (model prog w) A (call (.ref a) [.ref l] []) Q E s := by
  refine fn_call (i := 66) (binds := [("row", .ref l)]) (by omega) G hF (fun _ _ _ => rfl) (fun h₁ cd F => ?_) (by rfl)
  generalize s.heap.objs.size = Lt at F ⊢
  refine wpAny_execs_cons (wpAny_Assign_Name (wpAny_List (spliced_nil ⟨by rw [sizeLine_eq]; exact (show 0 ≤ 16777216 by decide), ?_⟩)))
  have p1 : (h₁.push { cls := .type "list", data := .seq (([] : List Value).toArray) }).PlainList h₁.objs.size #[] := ⟨0, Heap.get?_push_size _ rfl⟩
  have f1 : s.heap.get? h₁.objs.size = none := fresh_none F.keep
  have n1 : h₁.objs.size ≠ Lt := Nat.ne_of_gt F.ns.lt
  have F1 := F.push ({ cls := .type "list", data := .seq (([] : List Value).toArray) } : Obj)
  dsimp only
  generalize h₁.objs.size = a1 at p1 f1 n1 F1 ⊢
  refine wpAny_storeName_local rfl F1.ns (fun h2 hn2 hs2 => ?_)
  have F2 := F1.set hn2 hs2
  have p2 := p1.extBut hs2.extBut n1
  refine wpAny_execs_cons (wpAny_Assign_Name (wpAny_List (spliced_nil ⟨by rw [sizeLine_eq]; exact (show 0 ≤ 16777216 by decide), ?_⟩)))
  have p3 := p2.at fun o e => Heap.get?_push_of_some ({ cls := .type "list", data := .seq (([] : List Value).toArray) } : Obj) e
  have q3 : (h2.push { cls := .type "list", data := .seq (([] : List Value).toArray) }).PlainList h2.objs.size #[] := ⟨0, Heap.get?_push_size _ rfl⟩
  have f2 : s.heap.get? h2.objs.size = none := fresh_none F2.keep
  have n2 : h2.objs.size ≠ Lt := Nat.ne_of_gt F2.ns.lt
  have n12 : a1 ≠ h2.objs.size := by obtain ⟨_, ho⟩ := p2; exact Nat.ne_of_lt (Heap.lt_size ho)
  have F3 := F2.push ({ cls := .type "list", data := .seq (([] : List Value).toArray) } : Obj)
  dsimp only
  generalize h2.objs.size = a2 at q3 f2 n2 n12 ⊢
  refine wpAny_storeName_local rfl F3.ns (fun h3 hn3 hs3 => ?_)
  have F4 := F3.set hn3 hs3
  have p4 := p3.extBut hs3.extBut n1
  have q4 := q3.extBut hs3.extBut n2
  refine wpAny_execs_cons (wpAny_Assign_Name (wpAny_Constant_int (wpAny_storeName_local rfl F4.ns fun h4 hn4 hs4 => ?_)))
  have F5 := F4.set hn4 hs4
  have p5 := p4.extBut hs4.extBut n1
  have q5 := q4.extBut hs4.extBut n2
  dsimp only at hn4 ⊢
  refine wpAny_execs_cons (wpAny_Try_except (wpAny_execs_cons (wpAny_For (evalF1 (G.keeps F5.keep) hG (hFG.keeps F5.keep) (wpAny_Name (wpAny_loadName_local rfl rfl F5.ns (v := .ref l) ?_ ⟨Kept.refl _, ?_⟩)) ) ?_)))
  · rw [if_neg (by decide +kernel), if_neg (by decide +kernel), if_neg (by decide +kernel)]; rfl
  · refine gen_call (A := A.deeper (envAt 66 Lt a cd)) (show A.depth + 1 < recursionLimit by omega) (G.keeps F5.keep) (hFG.keeps F5.keep) (fun hg cdg mg' hnsg hmg hsbg tk nm qn => ?_)
    dsimp only at hnsg hsbg ⊢
    have hgL : hg.objs.size = h4.objs.size + 1 := by rw [hsbg.1, Heap.size_push]
    have old4 : ∀ b o, h4.get? b = some o → hg.get? b = some o := fun b o e => (hsbg.2 b (Nat.ne_of_lt (Heap.lt_size e))).trans (Heap.get?_push_of_some _ e)
    have old5 : Kept h4 (hg.push { cls := .type "generator", data := .fields #[.int s.gens.size 0, nm, qn] }) := fun b o e => Heap.get?_push_of_some _ (old4 b o e)
    have hgen : (hg.push { cls := .type "generator", data := .fields #[.int s.gens.size 0, nm, qn] }).IsGen hg.objs.size s.gens.size := ⟨_, nm, qn, Heap.get?_push_size _ rfl, rfl, rfl, rfl⟩
    have hLf : s.heap.get? h4.objs.size = none := fresh_none F5.keep
    have hgf : s.heap.get? hg.objs.size = none := fresh_none (Kept.trans F5.keep old4)
    have la1 : a1 < h4.objs.size := by obtain ⟨_, ho⟩ := p5; exact Heap.lt_size ho
    have la2 : a2 < h4.objs.size := by obtain ⟨_, ho⟩ := q5; exact Heap.lt_size ho
    have llt : Lt < h4.objs.size := F5.ns.lt
    have F6 : Fr s.heap Lt (hg.push { cls := .type "generator", data := .fields #[.int s.gens.size 0, nm, qn] }) _ := ⟨F5.ns.keeps old5, Kept.trans F5.keep old5, F5.above⟩
    refine wpAny_pyIter_gen hgen ?_
    have S : TS s.heap Lt a1 a2 hg.objs.size (hg.objs.size + 1) h4.objs.size := by
      refine ⟨f1, f2, hLf, n12, n1, n2, ?_, ?_, ?_, ?_, ?_, ?_, ?_, Nat.ne_of_lt la1, Nat.ne_of_lt la2, Nat.ne_of_lt llt, ?_, ?_, ?_⟩
      · exact Nat.ne_of_gt (by omega)
      · exact Nat.ne_of_gt (by omega)
      · exact Nat.ne_of_gt (by omega)
      · omega
      · omega
      · omega
      · omega
      · exact Nat.ne_of_gt (by omega)
      · intro b o e
        have := Heap.lt_size (F5.keep b o e)
        exact Nat.lt_of_lt_of_le this (by omega)
      · have := F.above
        cases e : s.heap.get? Lt with
        | none => rfl
        | some o => exact absurd (Heap.lt_size e) (Nat.not_lt.mpr this)
    refine told_loop (A := A.deeper (envAt 66 Lt a cd)) (at' := a) (cd := cd) (l := l) s (show A.handled = none from hA) (show A.depth + 1 + 5 < recursionLimit by omega) S G RE hp ht hT hFT hnt ?_ ?_ _ _ tk _ _ rfl ⟨F6, p5.at fun o e => old5 _ _ e, q5.at fun o e => old5 _ _ e, hgen⟩ ?_ ?_ ?_ ?_
    · -- the loop has ended
      intro h6 tk6 m6 gs its1 its2 hbare T h1 h2' hi1 hi2 hinf hlt
      refine wpAny_execs_nil (wpAny_execs_nil ?_)
      refine wpAny_execs_cons (wpAny_Return_some (wpAny_List (spliced_cons (wpAny_Name (wpAny_loadName_local rfl rfl T.F.ns h1 (spliced_cons (wpAny_Name (wpAny_loadName_local rfl rfl T.F.ns h2' (spliced_nil ?_)))))))))
      refine ⟨by rw [sizeLine_eq]; exact (show 2 ≤ 16777216 by decide), ?_⟩
      have hpush : Kept h6 (h6.push { cls := .type "list", data := .seq #[.ref a1, .ref a2] }) := fun b o e => Heap.get?_push_of_some _ e
      have T5 := T.kept hpush
      exact hQ _ _ gs _ a1 a2 its1 its2 t hbare T5.F.keep ⟨0, Heap.get?_push_size _ rfl⟩ T5.p1 T5.p2 (fresh_none T.F.keep) hi1 hi2 hlt (.inl ⟨rfl, hinf⟩)
    · -- a mark was too great
      intro h6 tk6 gs its1 its2 K r hbare hk p1' p2' pr hr hi1 hi2 hlt hc h256
      exact hQ _ _ gs r a1 a2 its1 its2 K hbare hk pr p1' p2' hr hi1 hi2 hlt (.inr ⟨hc, h256⟩)
    · exact (by rw [if_neg (by decide +kernel), if_neg (by decide +kernel), if_pos rfl])
    · exact (by rw [if_neg (by decide +kernel), if_pos rfl])
    · exact ⟨_, if_pos rfl⟩
    · intro s'' hX
      have hLX : h4.objs.size ∉ [Lt, a1, a2] := by
        intro hm
        rcases List.mem_cons.mp hm with e | hm
        · exact absurd e (Nat.ne_of_gt llt)
        · rcases List.mem_cons.mp hm with e | hm
          · exact absurd e (Nat.ne_of_gt la1)
          · rcases List.mem_cons.mp hm with e | hm
            · exact absurd e (Nat.ne_of_gt la2)
            · cases hm
      have hgX : hg.objs.size ∉ [Lt, a1, a2] := by
        intro hm
        rcases List.mem_cons.mp hm with e | hm
        · exact S.g3 e
        · rcases List.mem_cons.mp hm with e | hm
          · exact S.g1 e
          · rcases List.mem_cons.mp hm with e | hm
            · exact S.g2 e
            · cases hm
      obtain ⟨og, _, _, hog, _⟩ := id hgen
      refine ⟨rfl, start (A := (A.deeper (envAt 66 Lt a cd)).in1) hi RE ht (show A.handled = none from hA) hLX G hl hLf ?_ hcm ?_ (Heap.lt_size (hX _ _ hgX hog)) ((hnsg.push _).at fun o e => hX _ o hLX e) hmg ?_⟩
      · intro x hx
        rcases List.mem_cons.mp hx with rfl | hx
        · exact S.lt
        · rcases List.mem_cons.mp hx with rfl | hx
          · exact f1
          · rcases List.mem_cons.mp hx with rfl | hx
            · exact f2
            · cases hx
      · intro x hx
        rcases List.mem_cons.mp hx with rfl | hx
        · exact S.l3
        · rcases List.mem_cons.mp hx with rfl | hx
          · exact S.l1
          · rcases List.mem_cons.mp hx with rfl | hx
            · exact S.l2
            · cases hx
      · intro b o e
        refine hX b o ?_ (old5 b o (F5.keep b o e))
        intro hx
        rcases List.mem_cons.mp hx with rfl | hx
        · rw [S.lt] at e; cases e
        · rcases List.mem_cons.mp hx with rfl | hx
          · rw [f1] at e; cases e
          · rcases List.mem_cons.mp hx with rfl | hx
            · rw [f2] at e; cases e
            · cases hx
  · intro _; rfl
end
end Mine

namespace Mine
open PySem PySem.Calls PyProof.Rows

/-- all but one object and the records: the same up to the slots -/
def UTS (L : Addr) (h h' : Heap) : Prop := ∀ b o, b ≠ L → h.get? b = some o → (∀ vs, o.data ≠ .fields vs) → ∃ sl, h'.get? b = some { o with slots := sl }
theorem UTS.refl (L : Addr) (h : Heap) : UTS L h h := fun _ o _ e _ => ⟨o.slots, e⟩
theorem UTS.trans {L : Addr} {h₁ h₂ h₃ : Heap} (x : UTS L h₁ h₂) (y : UTS L h₂ h₃) : UTS L h₁ h₃ := fun b o hb e hn =>
  let ⟨_, e₁⟩ := x b o hb e hn; let ⟨sl, e₂⟩ := y b _ hb e₁ hn; ⟨sl, e₂⟩
theorem UTS.of_kept {L : Addr} {h h' : Heap} (k : Kept h h') : UTS L h h' := fun b o _ e _ => ⟨o.slots, k b o e⟩
theorem UTS.of_same {L : Addr} {h h' : Heap} (k : Heap.SameBut L h h') : UTS L h h' := fun b o hb e _ => ⟨o.slots, (k.2 b hb).trans e⟩
theorem UTS.of_up {L : Addr} {h h' : Heap} (k : h.UpToSlots h') : UTS L h h' := fun b o _ e hn => k b o e hn

section
variable {M : Model} {A : Around} {E : Value → Shared → Prop} {s : Shared} {base : Heap} {env : Env} {l outer : List Env} {e L : Addr} {cls a0 fl : Value} {Q : Unit → Shared → Prop}

/-- the first note on a new exception -/
theorem note_made {h : Heap} {args : List Value} {c : String} (hfr : A.frames = some (env :: outer)) (hf : env.frame = some L) (hkb : base.StaysIn h) (hl : h.FunFrames base (env :: outer)) (hx : Heap.MadeExc h s.heap e c args)
    (hQ : ∀ h' a0, Heap.HeldW base (env :: outer) e (.type c) a0 L h' → s.heap.UpToSlots h' → Q () { s with heap := h' }) : wpAny M A (noteFrame (.ref e) env) Q E s := by
  obtain ⟨t, he, htn, ht⟩ := hx.there
  have hen : base.get? e = none := by
    cases q : base.get? e with
    | none => rfl
    | some o => have := hkb e o q; rw [hx.new] at this; cases this
  unfold noteFrame
  simp only [hf]
  refine wpAny_bind (wpAny_field he rfl (x := .none) rfl ?_)
  rw [if_neg (by decide)]
  refine wpAny_entryW hfr (hl.of_keeps fun b o hb _ => ⟨o, hx.keeps b o hb, rfl⟩) hf he (fun b o hb => hx.keeps b o (hkb b o hb)) hen rfl (show 1 < 6 by decide) (a0 := .ref t) rfl fun h' hN => ?_
  obtain ⟨k1, k2, k3, k4⟩ := hN
  exact hQ h' (.ref t) ⟨k1, hen, k2, k3⟩ k4

/-- what stands behind a loop's own activation, on the way out -/
theorem flight_again (hf : env.frame = some L) (hh : Heap.HeldW base l e cls a0 L s.heap)
    (hQ : ∀ h', Heap.HeldW base l e cls a0 L h' → s.heap.UpToSlots h' → Q () { s with heap := h' }) :
    wpAny M A (do
      if (← field (.ref e) 1) == Value.none then unsupported "frame.own-activation:exception-without-traceback"
      setFlight (.ref e) env.frame) Q E s := by
  obtain ⟨f1, f2, f3, oe, vs, T, oT, ts, he, hcls, hd, h1, hnT, hTe, hT, hdT, h3⟩ := hh
  have hsz3 : 3 < ts.size := (Array.getElem?_eq_some_iff.mp h3).1
  refine wpAny_bind (wpAny_field he hd h1 ?_)
  rw [if_neg (show ¬ ((Value.ref T == Value.none) = true) from by simp)]
  rw [hf]
  unfold setFlight
  refine wpAny_bind (wpAny_field he hd h1 ?_)
  rw [if_pos (show (Value.ref T != Value.none) = true from by simp)]
  have other : ∀ b, b ≠ T → (s.heap.update T (Obj.mapFields (·.setIfInBounds 3 ((some L : Option Addr).elim Value.none fun f => rawInt f)))).get? b = s.heap.get? b :=
    fun b hb => Heap.get?_update_other _ _ (Ne.symm hb)
  have noRecord : ∀ b o, s.heap.get? b = some o → (∀ vs, o.data ≠ .fields vs) → b ≠ T := fun b o hb hnf q => by
    rw [q, hT] at hb; injection hb with hb; subst hb; exact hnf ts hdT
  refine wpAny_setField hT hdT hsz3 (hQ _ ⟨fun b o hbo => (other b fun q => by rw [q, hnT] at hbo; cases hbo).trans (f1 b o hbo), f2, f3.of_keeps fun b o hb hnf => ⟨o, (other b (noRecord b o hb hnf)).trans hb, rfl⟩, ?_⟩
    fun b o hb hnf => ⟨o.slots, (other b (noRecord b o hb hnf)).trans hb⟩)
  exact ⟨oe, vs, T, _, _, (other e (Ne.symm hTe)).trans he, hcls, hd, h1, hnT, hTe, Heap.get?_update_self _ hT (Obj.isFreed_of_fields (Obj.data_mapFields hdT _)), Obj.data_mapFields hdT _, by simp [hsz3]⟩

theorem leave_held (hf : env.frame = some L) (hh : Heap.HeldW base (env :: outer) e cls a0 L s.heap)
    (hQ : ∀ h', Heap.FlyingW base outer e cls a0 h' → s.heap.UpToSlots h' → Q () { s with heap := h' }) : wpAny M A (leaving env (.ref e)) Q E s := by
  unfold leaving
  refine wpAny_bind (wpAny_noteFrame_againW hf hh.2.2.2 ?_)
  refine wpAny_landsW hh fun h' hfl hu => ?_
  obtain ⟨k1, k2, ⟨_, _, k3⟩, k4⟩ := hfl
  exact hQ h' ⟨k1, k2, k3, k4⟩ hu
end
theorem ff_keeps {h h' base : Heap} {L : Addr} (k : ∀ b o, h.get? b = some o → (∀ vs, o.data ≠ .fields vs) → b ≠ L → ∃ o', h'.get? b = some o' ∧ o'.data = o.data) {l : List Env}
    (hL : L ∉ l.filterMap (·.frame)) (hl : h.FunFrames base l) : h'.FunFrames base l := by
  induction l with
  | nil => trivial
  | cons env rest ih =>
    obtain ⟨hk, ⟨M, o, hf, hn, ho, hd⟩, hr⟩ := hl
    have hne : M ≠ L := fun q => hL (by simp [List.filterMap_cons, hf, q])
    obtain ⟨o', ho', hd'⟩ := k M o ho hd hne
    exact ⟨hk, ⟨M, o', hf, hn, ho', fun vs q => hd vs (hd'.symm.trans q)⟩, ih (fun q => hL (by simp only [List.filterMap_cons, hf]; exact List.mem_cons_of_mem _ q)) hr⟩
def Rx (B0 : Heap) (fo : List Env) (L : Addr) : GenEnd := fun n s₀ r s₁ => ∃ e a0 h₁ tk, r = .error (.ref e) ∧ s₁ = { s₀ with heap := h₁, toks := tk } ∧ Heap.FlyingW B0 fo e (.type "ValueError") a0 h₁ ∧ UTS L s₀.heap h₁

section
variable {prog : Program} {w : World} {A : Around} {mg mb : Str → Option Value} {ns : List Int} {vs : List Value} {L a l : Addr} {cd : Value} {Y : Protocol} {n : Nat}
theorem raise_seg {hb B0 : Heap} {fo : List Env} {v0 : Tok} {vr : List Value} (hA : A.handled = none) (hfo : A.frames = some fo) (hbG : Gl mg mb hb) (hbR : hb.IsList l (Value.int 0 v0 :: vr).toArray) (hbL : hb.get? L = none) (hB0 : B0.get? L = none)
    (hcm : ∃ tk, mg "CHAR_MAX" = some (.int 127 tk)) (hve : mg "ValueError" = none) (hvb : mb "ValueError" = some (.type "ValueError")) {s : Shared} {m : Str → Option Value} (hns : s.heap.Ns L m) (hm : m "grouping" = some (.ref l)) (hkp : Kept hb s.heap)
    (hst : B0.StaysIn s.heap) (hff : s.heap.FunFrames B0 fo) (hLfo : L ∉ fo.filterMap (·.frame)) :
    Seg (model prog w) A (Rx B0 fo L) Y n s (.func (defAt 3).2.2.1 (envAt 3 L a cd)) ((model prog w).den (.func (defAt 3).2.2.1 (envAt 3 L a cd))) [] s := by
  obtain ⟨tk0, hcmv⟩ := hcm
  refine seg_func ?_
  refine seg_execs_cons (seg_wrap (wpAny_Assign_Name (wpAny_Constant_none (wpAny_storeName_local rfl hns fun h2 hn2 hs2 => ?_))))
  refine seg_execs_cons (seg_For (fun _ => rfl) (wpAny_Name (wpAny_loadName_local rfl rfl hn2 ((put_ne (by decide +kernel)).trans hm) ?_)))
  have hkp2 : Kept hb h2 := kept_but hkp hs2 hbL
  refine wpAny_pyIter_list (list_kept hbR hkp2) ?_
  intro p lv'
  have hIf : hb.get? h2.objs.size = none := fresh_none hkp2
  have hLlt : L < h2.objs.size := hn2.lt
  refine seg_forLoop (fun _ => rfl) ?_
  have hit : (h2.push { cls := .type "list_iterator", data := .fields #[.ref l, .int 0 0] }).IsListIter h2.objs.size l 0 := ⟨{ cls := .type "list_iterator", data := .fields #[.ref l, .int 0 0] }, Heap.get?_push_size _ rfl, rfl, rfl⟩
  have hkp3 : Kept hb (h2.push { cls := .type "list_iterator", data := .fields #[.ref l, .int 0 0] }) := hkp2.trans fun b o e => Heap.get?_push_of_some _ e
  refine wpAny_pyNext_list_item hit (list_kept hbR hkp3) (x := .int 0 v0) (by simp) fun h4 hit4 hs4 => ?_
  refine wpAny_assign_Name (wpAny_storeName_local rfl ((hn2.push _).sameBut hs4 (Nat.ne_of_lt hLlt)) fun h5 hn5 hs5 => ?_)
  have hkp5 : Kept hb h5 := kept_but (kept_but hkp3 hs4 hIf) hs5 hbL
  refine seg_execs_cons (seg_If (wpAny_isTrue_Compare1 (wpAny_Name (wpAny_loadName_local rfl rfl hn5 put_same ?_)) (by rfl)))
  refine ldG (hbG.keeps hkp5) hcmv (wpAny_eq_int (wpAny_truthy_bool ?_))
  refine seg_execs_nil ?_
  refine seg_execs_cons (seg_If (wpAny_isTrue_Compare1 (wpAny_Name (wpAny_loadName_local rfl rfl hn5 put_same (wpAny_Constant_int (wpAny_eq_int (wpAny_truthy_bool ?_))))) (by rfl)))
  refine seg_execs_cons (seg_If (wpAny_isTrue_Compare1 (wpAny_Name (wpAny_loadName_local rfl rfl hn5 (v := .none) ?_ (wpAny_Constant_none (is_none (wpAny_truthy_bool ?_))))) (by rfl)))
  · rw [if_neg (by decide +kernel), if_pos rfl]
  refine seg_execs_cons (seg_wrap (wpAny_Raise_call F.excCall_ValueError F.excRaise_ValueError hA (by rfl) ?_))
  refine ldB (hbG.keeps hkp5) hve hvb ⟨rfl, ?_⟩
  refine evalArgs_plain (spliced_cons ?_)
  refine Calls.Constant_str (k := 0) (pos := ⟨0,0,0,0⟩) ?_
  refine spliced_nil ⟨rfl, ?_, ?_⟩
  · rw [sizeLine_eq]; exact (show 1 ≤ 16777216 by decide)
  intro h6 e hx
  have e5 : ∀ b o, b ≠ L → s.heap.get? b = some o → h5.get? b = some o := fun b o hbL' q => by
    have q2 := (hs2.2 b hbL').trans q
    exact (hs5.2 b hbL').trans ((hs4.2 b (Nat.ne_of_lt (Heap.lt_size q2))).trans (Heap.get?_push_of_some _ q2))
  have hst5 : Kept B0 h5 := fun b o q => e5 b o (fun hq => by rw [hq, hB0] at q; cases q) (hst b o q)
  have hfr : h5.FunFrames B0 (envAt 3 L a cd :: fo) := Heap.FunFrames.cons (fun q => nomatch q) rfl hn5 hB0 (ff_keeps (fun b o q _ hbL' => ⟨o, e5 b o hbL' q, rfl⟩) hLfo hff)
  refine seg_wrap (wpAny_bind (note_made (base := B0) (outer := fo) (env := envAt 3 L a cd) (L := L) (h := h5) (c := "ValueError") ?_ rfl hst5 hfr hx fun h7 a0 hH hu => wpAny_theTreesLotGoes ?_))
  · simp only [Around.over, hfo]; rfl
  refine seg_leaf (.error (.ref e)) ?_
  refine seg_wrap (wpAny_onRaise (wpAny_throw (flight_again rfl hH fun h8 hH8 hu8 => ?_)))
  refine seg_wrap (leave_held rfl hH8 fun h9 hF9 hu9 => ?_)
  refine seg_end (.error (.ref e)) ⟨e, a0, h9, _, rfl, rfl, hF9, ?_⟩
  exact fun b o hbL' q hn => ((UTS.of_kept hx.keeps).trans ((UTS.of_up hu).trans ((UTS.of_up hu8).trans (UTS.of_up hu9)))) b o hbL' (e5 b o hbL' q) hn
end
end Mine

namespace Mine
open PySem PySem.Calls PyProof.Rows

theorem sub_ve_stop : isSubtype (.type "ValueError") (.type "StopIteration") = pure false := by rw [isSubtype_type]; kernel_rfl
theorem sub_ve_base : isSubtype (.type "ValueError") (.type "BaseException") = pure true := by rw [isSubtype_type]; kernel_rfl
theorem sub_ve_ve : isSubtype (.type "ValueError") (.type "ValueError") = pure true := by rw [isSubtype_type]; kernel_rfl
theorem sub_meta_tuple : isSubtype (.type ((Manifest.find? "ValueError").elim "type" fun x => x.metatype)) (.type "tuple") = pure false := by rw [isSubtype_type]; kernel_rfl

def gone (h : Heap) (L : Addr) : Heap := h.update L fun _ => { cls := .none, data := .freed }
theorem gone_self (h : Heap) (L : Addr) : (gone h L).get? L = none := by
  cases h with
  | mk objs l =>
    simp only [gone, Heap.update, Heap.get?, Array.getElem?_modify]
    simp
    cases objs[L]? <;> rfl
theorem gone_ne (h : Heap) (L : Addr) {b : Addr} (hb : b ≠ L) : (gone h L).get? b = h.get? b := Heap.get?_update_ne h b L _ hb
def goneL (h : Heap) : List Addr → Heap
  | [] => h
  | L :: r => gone (goneL h r) L
theorem goneL_in {h : Heap} {l : List Addr} {b : Addr} (hb : b ∈ l) : (goneL h l).get? b = none := by
  induction l with
  | nil => cases hb
  | cons L r ih =>
    show (gone (goneL h r) L).get? b = none
    by_cases e : b = L
    · rw [e]; exact gone_self _ _
    · rw [gone_ne _ _ e]
      rcases List.mem_cons.mp hb with q | q
      · exact absurd q e
      · exact ih q
theorem goneL_out {h : Heap} {l : List Addr} {b : Addr} (hb : b ∉ l) : (goneL h l).get? b = h.get? b := by
  induction l with
  | nil => rfl
  | cons L r ih =>
    show (gone (goneL h r) L).get? b = _
    rw [gone_ne _ _ (fun e => hb (by rw [e]; exact List.mem_cons_self)), ih fun q => hb (List.mem_cons_of_mem _ q)]
theorem goneL_keeps (h : Heap) (l : List Addr) : Kept (goneL h l) h := fun b o e => by
  by_cases q : b ∈ l
  · rw [goneL_in q] at e; cases e
  · rw [goneL_out q] at e; exact e
theorem ff_base {h B B' : Heap} {l : List Env} (hl : h.FunFrames B l) (k : ∀ b ∈ l.filterMap (·.frame), B'.get? b = none) : h.FunFrames B' l := by
  induction l with
  | nil => trivial
  | cons env rest ih =>
    obtain ⟨hk, ⟨M, o, hf, hn, ho, hd⟩, hr⟩ := hl
    exact ⟨hk, ⟨M, o, hf, k M (by simp [hf]), ho, hd⟩, ih hr fun b hb => k b (by simp only [List.filterMap_cons, hf]; exact List.mem_cons_of_mem _ hb)⟩
theorem ff_lt {h B : Heap} {l : List Env} (hl : h.FunFrames B l) {b : Addr} (hb : b ∈ l.filterMap (·.frame)) : b < h.objs.size := by
  induction l with
  | nil => cases hb
  | cons env rest ih =>
    obtain ⟨hk, ⟨M, o, hf, hn, ho, hd⟩, hr⟩ := hl
    simp only [List.filterMap_cons, hf] at hb
    rcases List.mem_cons.mp hb with q | q
    · rw [q]; exact Heap.lt_size ho
    · exact ih hr q
theorem ff_some {h B : Heap} {l : List Env} (hl : h.FunFrames B l) {b : Addr} (hb : b ∈ l.filterMap (·.frame)) : ∃ o, h.get? b = some o ∧ ∀ vs, o.data ≠ .fields vs := by
  induction l with
  | nil => cases hb
  | cons env rest ih =>
    obtain ⟨hk, ⟨M, o, hf, hn, ho, hd⟩, hr⟩ := hl
    simp only [List.filterMap_cons, hf] at hb
    rcases List.mem_cons.mp hb with q | q
    · rw [q]; exact ⟨o, ho, hd⟩
    · exact ih hr q
theorem Gl.up {mg mb : Str → Option Value} {h h' : Heap} (G : Gl mg mb h) (u : h.UpToSlots h') : Gl mg mb h' := ⟨u.ns G.g, u.ns G.b, let ⟨mc, a, b⟩ := G.lim; ⟨mc, u.ns a, b⟩⟩

section
variable {prog : Program} {w : World} {A : Around} {E : Value → Shared → Prop} {s : Shared}
theorem next_gen_raise {a : Addr} {g n : Nat} {gs : GenState} {R : GenEnd} {Y : Protocol} {Q : Option Value → Shared → Prop} (hh : A.handled = none) (hl : s.heap.NoLimit) (hroom : A.depth < recursionLimit)
    (hg : s.heap.IsGen a g) (hgs : s.gens[g]? = some gs) (hgo : gs.Goes (model prog w) A.in1 R Y n (.send .none) (s.setGen g .running))
    (hY : ∀ v s₁ k, Y (n - 1) (s.setGen g .running) v s₁ k → False)
    (hP : ∀ x s₁, R n (s.setGen g .running) x s₁ → ∃ e, x = .error (.ref e) ∧ s₁.heap.IsGen a g ∧ s₁.TypeIs (.ref e) "ValueError" ∧ E (.ref e) (s₁.setGen g .finished)) :
    wpAny (model prog w) A (pyNext (.ref a)) Q E s := by
  unfold pyNext
  refine wpAny_bind (wpAny_attempt (wpAny_callSpecial?_slot (name := Str.ofString "__next__") hg.typeIs slot_gen_next (wpAny_call_entry slot_gen_next hg.typeIs entry_gen_next ?_ (args_gen_next _))))
  show wpAny _ A.in1 (Builtin.Generator.genWake (.ref a) (.send .none)) _ _ s
  unfold Builtin.Generator.genWake
  refine wpAny_bind (wpAny_holding (wpAny_genNumber hg (wpAny_bind (wpAny_genState hgs ?_))))
  cases gs with
  | running => exact hgo.elim
  | finished => exact hgo.elim
  | _ =>
    refine wpAny_bind (wpAny_roomToWake hl hroom ?_)
    show wpAny _ A.in1 (.resume g (.send .none) [] _) _ _ s
    refine wpAny_resumeQ hgs hgo (fun x s₁ hx => ?_) (fun v s₁ gs' hb hv => (hY _ _ _ hv).elim)
    obtain ⟨e, rfl, hge, hte, hq⟩ := hP x s₁ hx
    show wpAny _ A.in1 (Builtin.Generator.genLeft (.ref a) (.ref e)) _ _ _
    unfold Builtin.Generator.genLeft Builtin.Generator.madeByALambda
    obtain ⟨og, nm, qn, hog, hogc, hogd, _⟩ := id hge
    refine wpAny_bind (wpAny_bind (wpAny_load (show (s₁.setGen g .finished).heap.get? a = some og from hog) (wpAny_pure ?_)))
    refine wpAny_bind (wpAny_isInstance (T := "ValueError") (b := false) hte sub_ve_stop ?_)
    simp only [Bool.and_false, Bool.false_eq_true, if_false]
    show wpAny _ A.in1 (Builtin.Generator.genEscaped (.ref e)) _ _ _
    unfold Builtin.Generator.genEscaped
    refine wpAny_bind (wpAny_isInstance (T := "ValueError") (b := false) hte sub_ve_stop ?_)
    refine wpAny_throw ?_
    refine wpAny_bind (wpAny_isInstance (T := "ValueError") (b := false) hte sub_ve_stop ?_)
    exact wpAny_throw hq
end
end Mine

namespace Mine
open PySem PySem.Calls PyProof.Rows

/-- all but the frames' slots is kept -/
def SlotsOf (fo : List Env) (h h' : Heap) : Prop := (∀ b o, b ∉ fo.filterMap (·.frame) → h.get? b = some o → h'.get? b = some o) ∧ (∀ b o, h.get? b = some o → (∀ vs, o.data ≠ .fields vs) → ∃ sl, h'.get? b = some { o with slots := sl })
theorem ns_up {h h' : Heap} {a : Addr} {m : Str → Option Value} (hn : h.Ns a m) (u : ∀ o, h.get? a = some o → (∀ vs, o.data ≠ .fields vs) → ∃ sl, h'.get? a = some { o with slots := sl }) : h'.Ns a m := by
  obtain ⟨o, es, ep, ho, hd, r⟩ := hn
  obtain ⟨sl, hs⟩ := u o ho fun vs q => by rw [hd] at q; cases q
  exact ⟨_, es, ep, hs, hd, r⟩
section
variable {prog : Program} {w : World} {A : Around} {E : Value → Shared → Prop} {s : Shared} {mg mb : Str → Option Value}

theorem told_raise {a aG l : Addr} {fo : List Env} {B0 : Heap} {v0 : Tok} {vr : List Value} {Q : Value → Shared → Prop} (hroom : A.depth + 10 < recursionLimit) (hA : A.handled = none) (hfo : A.frames = some fo) (G : Gl mg mb s.heap) (hF : FnAt s.heap a 66)
    (hcm : ∃ tk, mg "CHAR_MAX" = some (.int 127 tk)) (hve : mg "ValueError" = none) (hvb : mb "ValueError" = some (.type "ValueError")) (hG : mg "_grouping_intervals" = some (.ref aG)) (hFG : FnAt s.heap aG 3)
    (hl : s.heap.IsList l (Value.int 0 v0 :: vr).toArray) (hff : s.heap.FunFrames B0 fo)
    (hQ : ∀ h' tk gs r a2, gs.bare = true → SlotsOf fo s.heap h' → h'.PlainList r #[.none, .ref a2] → h'.PlainList a2 #[] → s.heap.get? r = none → Q (.ref r) { s with heap := h', toks := tk, gens := s.gens.push gs }) :
    wpAny (model prog w) A (call (.ref a) [.ref l] []) Q E s := by
  refine fn_call (i := 66) (binds := [("row", .ref l)]) (by omega) G hF (fun _ _ _ => rfl) (fun h₁ cd F => ?_) (by rfl)
  generalize s.heap.objs.size = Lt at F ⊢
  refine wpAny_execs_cons (wpAny_Assign_Name (wpAny_List (spliced_nil ⟨by rw [sizeLine_eq]; exact (show 0 ≤ 16777216 by decide), ?_⟩)))
  have p1 : (h₁.push { cls := .type "list", data := .seq (([] : List Value).toArray) }).PlainList h₁.objs.size #[] := ⟨0, Heap.get?_push_size _ rfl⟩
  have f1 : s.heap.get? h₁.objs.size = none := fresh_none F.keep
  have n1 : h₁.objs.size ≠ Lt := Nat.ne_of_gt F.ns.lt
  have F1 := F.push ({ cls := .type "list", data := .seq (([] : List Value).toArray) } : Obj)
  dsimp only
  generalize h₁.objs.size = a1 at p1 f1 n1 F1 ⊢
  refine wpAny_storeName_local rfl F1.ns (fun h2 hn2 hs2 => ?_)
  have F2 := F1.set hn2 hs2
  have p2 := p1.extBut hs2.extBut n1
  refine wpAny_execs_cons (wpAny_Assign_Name (wpAny_List (spliced_nil ⟨by rw [sizeLine_eq]; exact (show 0 ≤ 16777216 by decide), ?_⟩)))
  have p3 := p2.at fun o e => Heap.get?_push_of_some ({ cls := .type "list", data := .seq (([] : List Value).toArray) } : Obj) e
  have q3 : (h2.push { cls := .type "list", data := .seq (([] : List Value).toArray) }).PlainList h2.objs.size #[] := ⟨0, Heap.get?_push_size _ rfl⟩
  have f2 : s.heap.get? h2.objs.size = none := fresh_none F2.keep
  have n2 : h2.objs.size ≠ Lt := Nat.ne_of_gt F2.ns.lt
  have n12 : a1 ≠ h2.objs.size := by obtain ⟨_, ho⟩ := p2; exact Nat.ne_of_lt (Heap.lt_size ho)
  have F3 := F2.push ({ cls := .type "list", data := .seq (([] : List Value).toArray) } : Obj)
  dsimp only
  generalize h2.objs.size = a2 at q3 f2 n2 n12 ⊢
  refine wpAny_storeName_local rfl F3.ns (fun h3 hn3 hs3 => ?_)
  have F4 := F3.set hn3 hs3
  have p4 := p3.extBut hs3.extBut n1
  have q4 := q3.extBut hs3.extBut n2
  refine wpAny_execs_cons (wpAny_Assign_Name (wpAny_Constant_int (wpAny_storeName_local rfl F4.ns fun h4 hn4 hs4 => ?_)))
  have F5 := F4.set hn4 hs4
  have p5 := p4.extBut hs4.extBut n1
  have q5 := q4.extBut hs4.extBut n2
  dsimp only at hn4 ⊢
  refine wpAny_execs_cons (wpAny_Try_except (wpAny_execs_cons (wpAny_For (evalF1 (G.keeps F5.keep) hG (hFG.keeps F5.keep) (wpAny_Name (wpAny_loadName_local rfl rfl F5.ns (v := .ref l) ?_ ⟨Kept.refl _, ?_⟩)) ) ?_)))
  · rw [if_neg (by decide +kernel), if_neg (by decide +kernel), if_neg (by decide +kernel)]; rfl
  · refine gen_call (A := A.deeper (envAt 66 Lt a cd)) (show A.depth + 1 < recursionLimit by omega) (G.keeps F5.keep) (hFG.keeps F5.keep) (fun hg cdg mg' hnsg hmg hsbg tk nm qn => ?_)
    dsimp only at hnsg hsbg ⊢
    have hgL : hg.objs.size = h4.objs.size + 1 := by rw [hsbg.1, Heap.size_push]
    have old4 : ∀ b o, h4.get? b = some o → hg.get? b = some o := fun b o e => (hsbg.2 b (Nat.ne_of_lt (Heap.lt_size e))).trans (Heap.get?_push_of_some _ e)
    have old5 : Kept h4 (hg.push { cls := .type "generator", data := .fields #[.int s.gens.size 0, nm, qn] }) := fun b o e => Heap.get?_push_of_some _ (old4 b o e)
    have hgen : (hg.push { cls := .type "generator", data := .fields #[.int s.gens.size 0, nm, qn] }).IsGen hg.objs.size s.gens.size := ⟨_, nm, qn, Heap.get?_push_size _ rfl, rfl, rfl, rfl⟩
    have hLf : s.heap.get? h4.objs.size = none := fresh_none F5.keep
    have hgf : s.heap.get? hg.objs.size = none := fresh_none (Kept.trans F5.keep old4)
    have la1 : a1 < h4.objs.size := by obtain ⟨_, ho⟩ := p5; exact Heap.lt_size ho
    have la2 : a2 < h4.objs.size := by obtain ⟨_, ho⟩ := q5; exact Heap.lt_size ho
    have llt : Lt < h4.objs.size := F5.ns.lt
    have F6 : Fr s.heap Lt (hg.push { cls := .type "generator", data := .fields #[.int s.gens.size 0, nm, qn] }) _ := ⟨F5.ns.keeps old5, Kept.trans F5.keep old5, F5.above⟩
    refine wpAny_pyIter_gen hgen ?_
    have hfrlt : ∀ b ∈ fo.filterMap (·.frame), b < s.heap.objs.size := fun b hb => ff_lt hff hb
    have hLtge : s.heap.objs.size ≤ Lt := F5.above
    have hh4ge : s.heap.objs.size < h4.objs.size := Nat.lt_of_le_of_lt hLtge llt
    have mL : h4.objs.size ∈ (h4.objs.size :: Lt :: fo.filterMap (·.frame)) := List.mem_cons_self
    have mLt : Lt ∈ (h4.objs.size :: Lt :: fo.filterMap (·.frame)) := List.mem_cons_of_mem _ List.mem_cons_self
    have mfr : ∀ b ∈ fo.filterMap (·.frame), b ∈ (h4.objs.size :: Lt :: fo.filterMap (·.frame)) := fun b hb => List.mem_cons_of_mem _ (List.mem_cons_of_mem _ hb)
    have out : ∀ b, b ≠ h4.objs.size → b ≠ Lt → b ∉ fo.filterMap (·.frame) → b ∉ (h4.objs.size :: Lt :: fo.filterMap (·.frame)) := fun b h1 h2 h3 hm => by
      rcases List.mem_cons.mp hm with q | hm
      · exact h1 q
      · rcases List.mem_cons.mp hm with q | hm
        · exact h2 q
        · exact h3 hm
    have notfr : ∀ b, s.heap.objs.size ≤ b → b ∉ fo.filterMap (·.frame) := fun b hb hm => absurd (hfrlt b hm) (Nat.not_lt.mpr hb)
    have hgsz : h4.objs.size < hg.objs.size := by omega
    have hff1 := ff_base (B' := goneL (hg.push { cls := .type "generator", data := .fields #[.int s.gens.size 0, nm, qn] }) (h4.objs.size :: Lt :: fo.filterMap (·.frame))) (hff.of_keeps fun b o hb _ => ⟨o, F6.keep b o hb, rfl⟩) (fun b hb => goneL_in (mfr b hb))
    have hfft : Heap.FunFrames _ _ (envAt 66 Lt a cd :: fo) := Heap.FunFrames.cons (fun q => nomatch q) rfl F6.ns (goneL_in mLt) hff1
    have hB1 : Kept (goneL (hg.push { cls := .type "generator", data := .fields #[.int s.gens.size 0, nm, qn] }) (h4.objs.size :: Lt :: fo.filterMap (·.frame))) (hg.push { cls := .type "generator", data := .fields #[.int s.gens.size 0, nm, qn] }) := goneL_keeps _ _
    have hB1L := goneL_in (h := hg.push { cls := .type "generator", data := .fields #[.int s.gens.size 0, nm, qn] }) mL
    have hB1o : ∀ b, b ≠ h4.objs.size → b ≠ Lt → b ∉ fo.filterMap (·.frame) → _ := fun b h1 h2 h3 => goneL_out (h := hg.push { cls := .type "generator", data := .fields #[.int s.gens.size 0, nm, qn] }) (out b h1 h2 h3)
    have hL2 : h4.objs.size ∉ (envAt 66 Lt a cd :: fo).filterMap (·.frame) := by
      intro hm
      rcases List.mem_cons.mp hm with q | hm
      · exact absurd q (Nat.ne_of_gt llt)
      · exact notfr _ (Nat.le_of_lt hh4ge) hm
    have G6 := G.keeps F6.keep
    have q6 := q5.at fun o e => old5 _ _ e
    have nLt2 : a2 ≠ Lt := n2
    have n2L : a2 ≠ h4.objs.size := Nat.ne_of_lt la2
    have hF6 := F6
    generalize goneL (hg.push { cls := .type "generator", data := .fields #[.int s.gens.size 0, nm, qn] }) (h4.objs.size :: Lt :: fo.filterMap (·.frame)) = B1 at hff1 hfft hB1 hB1L hB1o
    refine codeAny_forLoop (fun _ s' => s' = _) ?_ 0 rfl
    rintro n s' rfl
    refine next_gen_raise (gs := .fresh (.func (defAt 3).2.2.1 (envAt 3 h4.objs.size aG cdg))) (R := Rx B1 (envAt 66 Lt a cd :: fo) h4.objs.size) (Y := fun _ _ _ _ _ => False) (n := 0) (show A.handled = none from hA) G6.lim (show A.depth + 1 < recursionLimit by omega) hgen (by simp)
      ?_ (fun _ _ _ h => h) (fun x s₁ hx => ?_)
    · refine ⟨rfl, ?_⟩
      refine raise_seg (A := (A.deeper (envAt 66 Lt a cd)).in1) (fo := envAt 66 Lt a cd :: fo) (B0 := B1) (hb := s.heap) (l := l) (v0 := v0) (vr := vr) (show A.handled = none from hA) ?_ G hl hLf hB1L hcm hve hvb ?_ hmg ?_ ?_ ?_ hL2
      · show (A.deeper (envAt 66 Lt a cd)).frames = _
        simp [Around.deeper, hfo]
      · exact hnsg.push _
      · exact F6.keep
      · exact hB1
      · exact hfft
    obtain ⟨e, a0, h₁, tk₁, rfl, rfl, hFl, hU⟩ := hx
    refine ⟨e, rfl, ?_, hFl.there, ?_⟩
    · obtain ⟨og, nm', qn', hog, r⟩ := hgen
      exact ⟨og, nm', qn', hFl.1 _ _ ((hB1o _ (Nat.ne_of_gt hgsz) (Nat.ne_of_gt (by omega)) (notfr _ (by omega))).trans hog), r⟩
    refine wpAny_looks_onW (base := B1) (env := envAt 66 Lt a cd) (outer := fo) (L := Lt) (by simp [Around.deeper, hfo]) rfl hFl fun h2' hH2 hu2 => ?_
    refine flight_again rfl hH2 fun h3' hH3 hu3 => ?_
    refine wpAny_noteFrame_againW rfl hH3.2.2.2 (wpAny_landsW hH3 fun h4' hF4 hu4 => ?_)
    have hup : ∀ b o, b ≠ h4.objs.size → (hg.push { cls := .type "generator", data := .fields #[.int s.gens.size 0, nm, qn] }).get? b = some o → (∀ vs, o.data ≠ .fields vs) → ∃ sl, h4'.get? b = some { o with slots := sl } :=
      fun b o hb e hn => (hU.trans ((UTS.of_up hu2).trans ((UTS.of_up hu3).trans (UTS.of_up hu4)))) b o hb e hn
    have hup0 : s.heap.UpToSlots h4' := fun b o e hn => hup b o (fun q => by rw [q, hLf] at e; cases e) (F6.keep b o e) hn
    have hns4 := ns_up F6.ns (fun o e hn => hup Lt o (Nat.ne_of_lt llt) e hn)
    refine wpAny_handleBy_builtin (X := "ValueError") (T := "ValueError") (b := true) sub_ve_base sub_meta_tuple sub_ve_ve (ldB (G.up hup0) hve hvb ⟨rfl, hF4.there, ?_⟩)
    rw [if_pos rfl]
    refine wpAny_setFlight_noneW hF4.1 hF4.2.2.1 hF4.2.2.2.at fun h5' k1 k2 k3 k4 => ?_
    have hns5 := ns_up hns4 (fun o e hn => ⟨o.slots, k4 _ _ e hn⟩)
    refine wpAny_execs_cons (wpAny_Return_some (wpAny_List (spliced_cons (wpAny_Constant_none (k := 0) (pos := ⟨0,0,0,0⟩) (spliced_cons (wpAny_Name (wpAny_loadName_local rfl rfl hns5 (v := .ref a2) ?_ (spliced_nil ⟨?_, ?_⟩))))))))
    · exact (by rw [if_neg (by decide +kernel), if_pos rfl])
    · rw [sizeLine_eq]; exact (show 2 ≤ 16777216 by decide)
    have hkk : ∀ b o, b ∉ fo.filterMap (·.frame) → s.heap.get? b = some o → h5'.get? b = some o := fun b o hb e =>
      k1 b o ((hB1o b (fun q => by rw [q, hLf] at e; cases e) (fun q => absurd (Heap.lt_size e) (Nat.not_lt.mpr (by rw [q]; exact hLtge))) hb).trans (F6.keep b o e))
    have hp2 : h5'.PlainList a2 #[] := q6.at fun o e => k1 a2 o ((hB1o a2 n2L nLt2 (fun hm => by obtain ⟨o, ho, _⟩ := ff_some hff hm; rw [f2] at ho; cases ho)).trans e)
    have hpush : Kept h5' (h5'.push { cls := .type "list", data := .seq #[.none, .ref a2] }) := fun b o e => Heap.get?_push_of_some _ e
    have hfin := hQ (h5'.push { cls := .type "list", data := .seq #[.none, .ref a2] }) tk₁ .finished h5'.objs.size a2 rfl ⟨fun b o hb e => hpush _ _ (hkk b o hb e), fun b o e hn => ?_⟩ ⟨0, Heap.get?_push_size _ rfl⟩ (hp2.at fun o e => hpush _ _ e) ?_
    · show Q (.ref h5'.objs.size) { s with heap := h5'.push { cls := .type "list", data := .seq #[.none, .ref a2] }, toks := tk₁, gens := ((s.gens.push _).setIfInBounds s.gens.size .running).setIfInBounds s.gens.size .finished }
      rw [gens_set, gens_set]
      exact hfin
    · obtain ⟨sl, hs⟩ := hup0 b o e hn
      exact ⟨sl, hpush _ _ (k4 _ _ hs hn)⟩
    · cases e : s.heap.get? h5'.objs.size with
      | none => rfl
      | some o =>
        by_cases hm : h5'.objs.size ∈ fo.filterMap (·.frame)
        · obtain ⟨o', ho', hn⟩ := ff_some hff hm
          obtain ⟨sl, hs⟩ := hup0 _ o' ho' hn
          exact absurd (Heap.lt_size (k4 _ _ hs hn)) (Nat.lt_irrefl _)
        · exact absurd (Heap.lt_size (hkk _ _ hm e)) (Nat.lt_irrefl _)
  · intro _; rfl
end
end Mine

namespace Mine
open PySem PySem.Calls PyProof.Rows

abbrev csAt (i : Nat) (L : Nat) : List (Str × Addr) := cellsFrom (L + 1) (defAt i).2.2.2.names []
abbrev envC (i : Nat) (L a : Addr) (cd : Value) : Env := newEnv (defAt i).2.2.2 L mainGlobals (csAt i L) ((defAt i).1 ++ ".<locals>.") (some a) cd none builtinsNs

structure FrC (hb : Heap) (L : Nat) (cs : List (Str × Addr)) (h : Heap) (m cm : Str → Option Value) : Prop where
  ns : h.Ns L m
  keep : Kept hb h
  above : hb.objs.size ≤ L
  cell : ∀ n c, cs.lookup n = some c → h.IsCell c (cm n)
  apart : cs.Pairwise fun x y => x.2 ≠ y.2
  up : ∀ n c, (n, c) ∈ cs → L < c
namespace FrC
variable {hb h h' : Heap} {L : Nat} {cs : List (Str × Addr)} {m m' cm : Str → Option Value}
theorem bL (F : FrC hb L cs h m cm) : hb.get? L = none := by
  cases e : hb.get? L with
  | none => rfl
  | some o => exact absurd (Heap.lt_size e) (Nat.not_lt.mpr F.above)
theorem bC (F : FrC hb L cs h m cm) {n : Str} {c : Addr} (hc : (n, c) ∈ cs) : hb.get? c = none := by
  cases e : hb.get? c with
  | none => rfl
  | some o => exact absurd (Heap.lt_size e) (Nat.not_lt.mpr (Nat.le_of_lt (Nat.lt_of_le_of_lt F.above (F.up n c hc))))
theorem at' (F : FrC hb L cs h m cm) (k : ∀ b o, (b = L ∨ (∃ n, (n, b) ∈ cs) ∨ (∃ o', hb.get? b = some o')) → h.get? b = some o → h'.get? b = some o) : FrC hb L cs h' m cm where
  ns := let ⟨o, es, ep, ho, r⟩ := F.ns; ⟨o, es, ep, k _ _ (.inl rfl) ho, r⟩
  keep := fun b o e => k b o (.inr (.inr ⟨o, e⟩)) (F.keep b o e)
  above := F.above
  cell := fun n c hc => let ⟨o, ho, hd⟩ := F.cell n c hc; ⟨o, k _ _ (.inr (.inl ⟨n, mem_of_lookup hc⟩)) ho, hd⟩
  apart := F.apart
  up := F.up
theorem kept (F : FrC hb L cs h m cm) (k : Kept h h') : FrC hb L cs h' m cm := F.at' fun b o _ e => k b o e
theorem push (F : FrC hb L cs h m cm) (o : Obj) : FrC hb L cs (h.push o) m cm := F.kept fun b o' e => Heap.get?_push_of_some _ e
theorem set (F : FrC hb L cs h m cm) (hn : h'.Ns L m') (hs : Heap.SameBut L h h') : FrC hb L cs h' m' cm where
  ns := hn
  keep := kept_but F.keep hs F.bL
  above := F.above
  cell := fun n c hc => (F.cell n c hc).sameBut hs (Nat.ne_of_gt (F.up n c (mem_of_lookup hc)))
  apart := F.apart
  up := F.up
theorem setC (F : FrC hb L cs h m cm) {n : Str} {c : Addr} {v : Value} (hc : cs.lookup n = some c) (hc' : h'.IsCell c (some v)) (hs : Heap.SameBut c h h') : FrC hb L cs h' m (fun y => if y = n then some v else cm y) where
  ns := F.ns.sameBut hs (Nat.ne_of_lt (F.up n c (mem_of_lookup hc)))
  keep := kept_but F.keep hs (F.bC (mem_of_lookup hc))
  above := F.above
  cell := fun k c' hk => by
    by_cases hkn : k = n
    · subst hkn
      rw [hc] at hk; cases hk
      simpa using hc'
    · rw [if_neg hkn]
      exact (F.cell k c' hk).sameBut hs fun e => hkn (name_of_addr F.apart (mem_of_lookup hk) (e ▸ mem_of_lookup hc))
  apart := F.apart
  up := F.up
theorem ne {b : Addr} (F : FrC hb L cs h m cm) (hb' : h.get? b = none) : b ≠ L := fun e => by
  obtain ⟨o, _, _, ho, _⟩ := F.ns
  rw [e, ho] at hb'; cases hb'
theorem neC {b : Addr} (F : FrC hb L cs h m cm) (hb' : h.get? b = none) {n : Str} {c : Addr} (hc : cs.lookup n = some c) : b ≠ c := fun e => by
  obtain ⟨o, ho, _⟩ := F.cell n c hc
  rw [e, ho] at hb'; cases hb'
end FrC

section
variable {prog : Program} {w : World} {A : Around} {E : Value → Shared → Prop} {s : Shared} {env : Env}
theorem fnC_call {mg mb : Str → Option Value} {a : Addr} {i : Nat} {args : List Value} {binds : List (Str × Value)} {Q : Value → Shared → Prop} (hroom : A.depth < recursionLimit) (G : Gl mg mb s.heap) (hF : FnAt s.heap a i)
    (hbind : ∀ pm cd doc, bindArgs (docDef (defAt i).1 (defAt i).2.1 (defAt i).2.2.1 (defAt i).2.2.2 pm cd doc) ⟨args, []⟩ = pure binds)
    (h : ∀ h₁ tk cd, FrC s.heap s.heap.objs.size (csAt i s.heap.objs.size) h₁ (bindL (fun n => (defAt i).2.2.2.names.lookup n) binds fun _ => none) (bindC (fun n => (defAt i).2.2.2.names.lookup n) binds fun _ => none) →
      wpAny (model prog w) (A.deeper (envC i s.heap.objs.size a cd)) (execs (defAt i).2.2.1 (envC i s.heap.objs.size a cd))
        (fun f s' => Q (match f with | .ret v => v | _ => .none) s') (fun _ _ => False) { s with heap := h₁, toks := tk })
    (hkind : ∀ x ∈ binds, (defAt i).2.2.2.names.lookup x.1 = some .local ∨ ((defAt i).2.2.2.names.lookup x.1 = some .cell ∧ ((cellsFrom (s.heap.objs.size + 1) (defAt i).2.2.2.names []).lookup x.1).isSome = true))
    (hco : (defAt i).2.2.2.isCoroutine = false := by rfl) (hgen : (defAt i).2.2.2.isGenerator = false := by rfl) (hk : (defAt i).2.2.2.kind = .function := by rfl) : wpAny (model prog w) A (call (.ref a) args []) Q E s := by
  obtain ⟨o, pm, cd, doc, h1, h2, h3⟩ := hF
  refine wpAny_call (codeAny_call_cells (body := (defAt i).2.2.1) hroom h1 h2 G.lim h3 rfl (hbind pm cd doc) rfl hkind (fun s₁ X => ?_) hco hgen hk)
  obtain ⟨h₁, tk, rfl⟩ := X.toInCall.same
  exact wpAny_mono (h h₁ tk cd ⟨X.toInCall.ns, X.toInCall.keep, Nat.le_refl _, X.cell, X.apart, X.above⟩) (fun _ _ q => q) fun _ _ q => q.elim
end
end Mine

namespace Mine
open PySem PySem.Calls PyProof.Rows

section
variable {prog : Program} {w : World} {A : Around} {E : Value → Shared → Prop} {s : Shared} {env : Env}
theorem kept_push (h : Heap) (o : Obj) : Kept h (h.push o) := fun b o' e => Heap.get?_push_of_some _ e
theorem pushed_plain (h : Heap) (vs : Array Value) : (h.push { cls := .type "list", data := .seq vs }).PlainList h.objs.size vs := ⟨0, Heap.get?_push_size _ rfl⟩
theorem add_plain {l b : Addr} {items items2 : Array Value} {Q : Value → Shared → Prop} (hl : s.heap.PlainList l items) (hb : s.heap.PlainList b items2) (hsz : items.size + items2.size ≤ sizeLine)
    (h : ∀ h', h'.PlainList s.heap.objs.size (items ++ items2) → Kept s.heap h' → h'.objs.size = s.heap.objs.size + 1 → Q (.ref s.heap.objs.size) { s with heap := h' }) : wpAny (model prog w) A (binaryOp .Add (.ref l) (.ref b)) Q E s := by
  obtain ⟨n, hl⟩ := hl
  obtain ⟨n2, hb⟩ := hb
  exact P.add_list hl hb (h _ (pushed_plain _ _) (kept_push _ _) (Heap.size_push _ _)) hsz
theorem foldl_rep (k : Nat) (x : Array Value) : ∀ a : Array Value, (List.foldl (fun x1 x2 => x1 ++ x2) a (List.replicate k x)).toList = a.toList ++ (List.replicate k x.toList).flatten := by
  induction k with
  | zero => intro a; simp
  | succ k ih => intro a; rw [List.replicate_succ, List.foldl_cons, ih]; simp [List.replicate_succ]
theorem mul_plain {l : Addr} {items : Array Value} {x : Int} {u : Tok} {Q : Value → Shared → Prop} (hl : s.heap.PlainList l items) (hlo : -(2 ^ 63 : Int) ≤ x) (hhi : x < 2 ^ 63) (hsz : items.size * x.toNat ≤ 2 ^ 24)
    (h : ∀ h' its, its.toList = (List.replicate x.toNat items.toList).flatten → h'.PlainList s.heap.objs.size its → Kept s.heap h' → h'.objs.size = s.heap.objs.size + 1 → Q (.ref s.heap.objs.size) { s with heap := h' }) : wpAny (model prog w) A (binaryOp .Mult (.ref l) (.int x u)) Q E s := by
  obtain ⟨n, hl⟩ := hl
  refine wpAny_binaryOp_repeat_ref (T := "list") (U := "int") (by decide) ⟨_, hl, rfl⟩ (fun s' => typeIs_int s' x u) noFill_list_mul F.fills_int_mul F.slot_int_rmul repeat_list F.slot_int_index.lookup
    (call_meets F.slot_int_rmul (typeIs_int s x u) F.entry_int_rmul (F.args_int_rmul_2 _ _) (int___rmul___int_list x u l items n)
      ⟨hl, rfl, ⟨_, hl, rfl⟩, call_meets F.slot_list_mul ⟨_, hl, rfl⟩ F.entry_list_mul (F.args_list_mul_2 _ _)
        (AutoListH.list___mul___list_int_3 l items n x u (by simp [Builtin.List.listFitsIndex]; omega) (by omega) (by simp [Builtin.List.listTooLong, sizeLine]; omega))
        ⟨hl, h _ _ ?_ (pushed_plain _ _) (kept_push _ _) (Heap.size_push _ _)⟩⟩)
  rw [foldl_rep]
  by_cases e : items.isEmpty = true
  · rw [if_pos e]
    have : items = #[] := by simpa using e
    subst this; simp
  · rw [if_neg e]; simp

def constInt : Expr → Option Int
  | .Constant (.int k) _ _ => some k
  | _ => none
def constInts : List Expr → Option (List Int)
  | [] => some []
  | e :: r => match constInt e, constInts r with
    | some k, some ks => some (k :: ks)
    | _, _ => none
theorem constInt_eq {e : Expr} {k : Int} (h : constInt e = some k) : ∃ kd p, e = .Constant (.int k) kd p := by
  unfold constInt at h
  split at h
  · injection h with h; subst h; exact ⟨_, _, rfl⟩
  · cases h
theorem spliced_ints {es : List Expr} {pos : Pos} : ∀ {ns : List Int} {Q : List Value → Shared → Prop} {s : Shared}, constInts es = some ns → (∀ vs tk, IntsAre vs ns → Q vs { s with toks := tk }) →
    wpAny (model prog w) A (spliced (backTo pos (starEach es env))) Q E s := by
  induction es with
  | nil =>
    intro ns Q s h hQ
    cases h
    exact spliced_nil (hQ [] s.toks .nil)
  | cons e r ih =>
    intro ns Q s h hQ
    unfold constInts at h
    split at h
    · rename_i k ks hk hr
      injection h with h; subst h
      obtain ⟨kd, p, rfl⟩ := constInt_eq hk
      refine spliced_cons (wpAny_Constant_int (k := 0) (pos := ⟨0, 0, 0, 0⟩) ?_)
      exact ih hr fun vs tk hv => hQ _ tk (.cons _ _ hv)
    · cases h
end
theorem Paired_at {α β : Type} {F : α → β → Prop} : ∀ {l₁ : List α} {l₂ : List β}, Paired F l₁ l₂ → ∀ (k : Nat) (a : α), l₁[k]? = some a → ∃ b, l₂[k]? = some b ∧ F a b
  | _, _, .nil, k, a, h => by simp at h
  | _, _, .cons hf t, 0, a, h => by
    simp at h; subst h
    exact ⟨_, rfl, hf⟩
  | _, _, .cons hf t, k + 1, a, h => by
    obtain ⟨b, e, hb⟩ := Paired_at t k a (by simpa using h)
    exact ⟨b, e, hb⟩
theorem filter_true {α : Type} (l : List α) : l.filter (fun _ => true) = l := List.filter_eq_self.mpr fun _ _ => rfl
theorem kept_of {h h' : Heap} {wr : List Addr} {b₀ : Heap} (k : ∀ b o, b ∉ wr → h.get? b = some o → h'.get? b = some o) (hw : ∀ b ∈ wr, b₀.get? b = none) (k₀ : Kept b₀ h) : Kept b₀ h' :=
  fun b o e => k b o (fun hm => by rw [hw b hm] at e; cases e) (k₀ b o e)
theorem one_none {h : Heap} {I : Addr} (e : h.get? I = none) : ∀ b ∈ [I], h.get? b = none := fun b hb => by rw [List.mem_singleton.mp hb]; exact e
theorem Keeps.self (s : Shared) : Keeps s s := ⟨s.heap, s.toks, rfl, fun _ _ e => e⟩
theorem Walks_bound {prog : Program} {w : World} {A : Around} {I : Addr} {fp wr : List Addr} {n : Nat} {P : Nat → Value → Prop} {St : Nat → Heap → Prop} (W : Walks prog w A I fp wr n P St) : Walks prog w A I fp wr n (fun i v => i < n ∧ P i v) St where
  sub := W.sub
  frame := W.frame
  item := fun i s Q E hi st hQ => W.item i s Q E hi st fun v h' tk hp => hQ v h' tk ⟨hi, hp⟩
  done := W.done
  self := W.self
abbrev PRange (n : Nat) (a c : Int) : Nat → Value → Prop := fun i v => i < n ∧ ∃ t, v = .int (a + i * c) t
abbrev StRange (n : Nat) (I : Addr) (a c : Int) : Nat → Heap → Prop := fun i h => IsRangeIter h I (a + (i : Nat) * c) ((n : Int) - (i : Nat)) c
theorem walks_range {prog : Program} {w : World} {A : Around} (hh : A.handled = none) (I : Addr) (a c : Int) (n : Nat) : Walks prog w A I [I] [I] n (PRange n a c) (StRange n I a c) := Walks_bound (Walks.range hh I a c n)
theorem range_live {n : Nat} {I : Addr} {a c : Int} : ∀ i h, StRange n I a c i h → ∀ b ∈ [I], ∃ o, h.get? b = some o := fun i h st b hb => by rw [List.mem_singleton.mp hb]; exact ⟨_, st⟩
theorem frOut {hb h h' : Heap} {L : Nat} {m : Str → Option Value} {wr : List Addr} (F : Fr hb L h m) (hL : L ∉ wr) (hw : ∀ b ∈ wr, hb.get? b = none) (k : ∀ b o, b ∉ wr → h.get? b = some o → h'.get? b = some o) : Fr hb L h' m :=
  ⟨F.ns.at' fun o e => k _ o hL e, fun b o e => k b o (fun hm => by rw [hw b hm] at e; cases e) (F.keep b o e), F.above⟩
theorem frKept {hb h h' : Heap} {L : Nat} {m : Str → Option Value} (F : Fr hb L h m) (k : Kept h h') : Fr hb L h' m := ⟨F.ns.keeps k, fun b o e => k b o (F.keep b o e), F.above⟩
end Mine

namespace Mine
open PySem PySem.Calls PyProof.Rows PySem.Builtin PySem.Builtin.Str

def nameText : Str := match ((defAt 63).2.2.1[0]? : Option Stmt) with
  | some (Stmt.Assign _ (Expr.Call (Expr.Attribute (Expr.Constant (Const.str x) _ _) _ _) _ _ _) _) => x
  | _ => default
def nameParts : List Str := partsBetween nameText (occurrences nameText ⟨#[32]⟩ 0 nameText.length (nameText.length + 1)) 1
def listInts (i : Nat) : List Int := match ((defAt 63).2.2.1[i]? : Option Stmt) with
  | some (Stmt.Assign _ (Expr.List es _) _) => (constInts es).getD []
  | _ => []
def listEs (i : Nat) : List Expr := match ((defAt 63).2.2.1[i]? : Option Stmt) with
  | some (Stmt.Assign _ (Expr.List es _) _) => es
  | _ => []
def worthInts : List Int := listInts 1
def codeInts : List Int := listInts 2
theorem parts_len : nameParts.length = 28 := by decide +kernel
theorem worths_len : worthInts.length = 28 := by decide +kernel
theorem worths_at : constInts (listEs 1) = some worthInts := by decide +kernel
theorem codes_at : constInts (listEs 2) = some codeInts := by decide +kernel
theorem codes_ok : ∀ c ∈ codeInts, (decide (c < 0) || decide (c > 0x10FFFF)) = false := by decide +kernel
theorem codes_len : codeInts.length = 8 := by decide +kernel
def itemName (k : Nat) : Str := if k < 28 then nameParts.getD k default else ⟨#[(codeInts.getD (k - 28) 0).toNat]⟩
def itemWorth (k : Nat) : Int := if k < 28 then worthInts.getD k 0 else codeInts.getD (k - 28) 0

theorem strsFrom_at : ∀ (ps : List Str) (t : Tok) (k : Nat) (p : Str), ps[k]? = some p → ∃ tk, (strsFrom t ps)[k]? = some (.str p tk)
  | [], t, k, p, h => by simp at h
  | q :: r, t, 0, p, h => by
    simp at h; subst h
    exact ⟨t, rfl⟩
  | q :: r, t, k + 1, p, h => by
    obtain ⟨tk, e⟩ := strsFrom_at r (t + 1) k p (by simpa using h)
    exact ⟨tk, e⟩
theorem IntsAre.at : ∀ {vs : List Value} {ns : List Int} (_ : IntsAre vs ns) (k : Nat) (n : Int), ns[k]? = some n → ∃ tk, vs[k]? = some (.int n tk)
  | _, _, .nil, k, n, h => by simp at h
  | _, _, .cons m t r, 0, n, h => by
    simp at h; subst h
    exact ⟨t, rfl⟩
  | _, _, .cons m t r, k + 1, n, h => by
    obtain ⟨tk, e⟩ := IntsAre.at r k n (by simpa using h)
    exact ⟨tk, e⟩

section
variable {prog : Program} {w : World} {A : Around} {E : Value → Shared → Prop} {s : Shared} {env : Env} {mg mb : Str → Option Value}
theorem range1_it {e : Expr} {rp rpos : Pos} {K : Value → Shared → Prop} (G : Gl mg mb s.heap) (hmiss : mg "range" = none) (hv : mb "range" = some (.type "range"))
    (h : wpAny (model prog w) A (eval e env) (fun nv s₁ => ∃ N tN, nv = .int N tN ∧ -(2 ^ 62) ≤ N ∧ N < 2 ^ 62 ∧
      ∀ I h' tk, Kept s₁.heap h' → s₁.heap.get? I = none → I < h'.objs.size → IsRangeIter h' I (0 + ((0 : Nat) : Int) * 1) ((N.toNat : Int) - ((0 : Nat) : Int)) 1 → K (.ref I) { s₁ with heap := h', toks := tk }) E s)
    (hse : backTo rpos (starEach [e] env) = [(false, eval e env)] := by rfl)
    (hk : env.scope.kind = .function := by rfl) (hx : env.kindOf "range" = some .globalImplicit := by rfl) (hg : env.globals = mainGlobals := by rfl) (hb : env.builtins = builtinsNs := by rfl) :
    wpAny (model prog w) A (eval (.Call (.Name "range" rp) [e] [] rpos) env) (fun xv s₁ => wpAny (model prog w) A (pyIter xv) K E s₁) E s := by
  refine wpAny_Call_NameR (ldB G hmiss hv ?_ hk hx hg hb)
  rw [hse]
  refine PySem.callWith_type rfl (Calls.evalArgs_plain (Calls.spliced_cons (wpAny_mono h (fun nv s₁ h₁ => Calls.spliced_nil ?_) fun _ _ e => e)))
  obtain ⟨N, tN, rfl, hlo, hhi, hK⟩ := h₁
  refine call_range_1 ?_
  refine wpAny_pyIter_range (IsRange.new ..) (small_one (by decide) (by decide) hlo hhi) ?_
  have hsz : Builtin.Range.rangeSize 0 N 1 = (N.toNat : Int) := by rw [rangeSize_one]; split <;> omega
  refine hK _ _ _ ((kept_push _ _).trans (kept_push _ _)) ?_ ?_ ?_
  · refine Heap.get?_none_of_le ?_
    rw [Heap.size_push]; exact Nat.le_succ _
  · simp [Heap.size_push]
  · have e1 : (0 + ((0 : Nat) : Int) * 1) = 0 := by simp
    have e2 : ((N.toNat : Int) - ((0 : Nat) : Int)) = Builtin.Range.rangeSize 0 N 1 := by rw [hsz]; simp
    rw [e1, e2]
    exact Heap.get?_push_size _ rfl

theorem split_list {x y : Str} {t u : Tok} {ps : List Str} {Q : Value → Shared → Prop} (hps : partsBetween x (occurrences x y 0 x.length (x.length + 1)) y.length = ps) (h1 : (decide (x.length < y.length) || decide (strKind x < strKind y)) = false) (hy : (y.length == 0) = false)
    (hf : (occurrences x y 0 x.length (x.length + 1)).isEmpty = false) (hx : x.length ≤ sizeLine) (hn : ps.length ≤ sizeLine)
    (h : Q (.ref s.heap.objs.size) { s with toks := s.toks + ps.length, heap := s.heap.push { cls := .type "list", data := .seq (strsFrom s.toks ps).toArray } }) :
    wpAny (model prog w) A (call (.builtin "str.split") [.str x t, .str y u]) Q E s := by
  subst hps
  exact call_meets F.slot_str_split (typeIs_str _ _ _) F.entry_str_split (F.args_str_split_2 _ _) (meets_str_split_sep x y t u h1 hy hf hx hn) h
theorem nt_1 : (decide (nameText.length < (⟨#[32]⟩ : Str).length) || decide (strKind nameText < strKind ⟨#[32]⟩)) = false := by decide +kernel
theorem nt_2 : (occurrences nameText ⟨#[32]⟩ 0 nameText.length (nameText.length + 1)).isEmpty = false := by decide +kernel
theorem nt_3 : nameText.length ≤ sizeLine := by decide +kernel
theorem nt_4 : nameParts.length ≤ sizeLine := by decide +kernel
theorem nt_0 : partsBetween nameText (occurrences nameText ⟨#[32]⟩ 0 nameText.length (nameText.length + 1)) (⟨#[32]⟩ : Str).length = nameParts := by kernel_rfl
theorem split_names {x y : Str} {t u : Tok} {Q : Value → Shared → Prop} (hx : x = nameText) (hy : y = ⟨#[32]⟩)
    (h : Q (.ref s.heap.objs.size) { s with toks := s.toks + nameParts.length, heap := s.heap.push { cls := .type "list", data := .seq (strsFrom s.toks nameParts).toArray } }) :
    wpAny (model prog w) A (call (.builtin "str.split") [.str x t, .str y u]) Q E s := by
  subst hx hy
  exact split_list nt_0 nt_1 rfl nt_2 nt_3 nt_4 h
end
end Mine

namespace Mine
open PySem PySem.Calls PyProof.Rows PySem.Builtin PySem.Builtin.Str
section
variable {prog : Program} {w : World} {A : Around} {E : Value → Shared → Prop} {s : Shared} {env : Env} {mg mb : Str → Option Value}
theorem items_ok {a : Addr} {Q : Value → Shared → Prop} (hroom : A.depth + 2 < recursionLimit) (hA : A.handled = none) (G : Gl mg mb s.heap) (hF : FnAt s.heap a 63)
    (hrg : mg "range" = none) (hrb : mb "range" = some (.type "range")) (hcg : mg "chr" = none) (hcb : mb "chr" = some (.builtin "chr"))
    (hQ : ∀ h' tk r its, Kept s.heap h' → h'.PlainList r its → its.size = 36 → (∀ k, k < 36 → ∃ T tk1 tk2, its[k]? = some (.ref T) ∧ h'.IsList T #[.str (itemName k) tk1, .int (itemWorth k) tk2]) → s.heap.get? r = none → Q (.ref r) { s with heap := h', toks := tk }) :
    wpAny (model prog w) A (call (.ref a) [] []) Q E s := by
  refine fnC_call (i := 63) (binds := []) (by omega) G hF (fun _ _ _ => rfl) (fun h₁ tk cd FC => ?_) (by simp)
  generalize s.heap.objs.size = L at FC ⊢
  refine wpAny_execs_cons (wpAny_Assign_Name (call_m1 F.plainAttrs_str F.slot_str_split F.type_str_split (Calls.Constant_str ⟨typeIs_str _ _ _, (fun a e => nomatch e), Calls.Constant_str ?_⟩) ?_ ?_ ?_))
  rotate_left
  · kernel_rfl
  · kernel_rfl
  · kernel_rfl
  refine split_names (by kernel_rfl) (by kernel_rfl) ?_
  change wpAny _ _ (storeName _ _ (.ref h₁.objs.size)) _ _ _
  have pN : (h₁.push { cls := .type "list", data := .seq (strsFrom (tk + 1 + 1) nameParts).toArray }).PlainList h₁.objs.size (strsFrom (tk + 1 + 1) nameParts).toArray := pushed_plain _ _
  have fN : s.heap.get? h₁.objs.size = none := fresh_none FC.keep
  have FC1 := FC.push { cls := .type "list", data := .seq (strsFrom (tk + 1 + 1) nameParts).toArray }
  have lN : h₁.objs.size ≠ L := FC.ne (Heap.get?_none_of_le (Nat.le_refl _))
  have lN1 : h₁.objs.size ≠ L + 1 := FC.neC (Heap.get?_none_of_le (Nat.le_refl _)) (n := "names") (by rfl)
  have lN2 : h₁.objs.size ≠ L + 2 := FC.neC (Heap.get?_none_of_le (Nat.le_refl _)) (n := "worths") (by rfl)
  refine wpAny_storeName_cell (c := L + 1) rfl (by rfl) (by rfl) (FC1.cell "names" (L + 1) (by rfl)) fun h2 hc2 hs2 => ?_
  have FC2 := FC1.setC (n := "names") (c := L + 1) (by rfl) hc2 hs2
  have pN2 := pN.extBut hs2.extBut lN1
  dsimp only at FC2 pN2 ⊢
  generalize h₁.objs.size = aN at pN2 fN lN lN1 lN2 FC2
  clear pN hs2 hc2 FC1
  with_reducible refine wpAny_execs_cons ?_
  with_reducible refine wpAny_Assign_Name ?_ ?_
  rotate_left
  · kernel_rfl
  with_reducible refine wpAny_List ?_
  with_reducible refine spliced_ints (ns := worthInts) ?_ fun vs tk2 hW => ⟨?_, ?_⟩
  · exact worths_at
  · rw [hW.length, worths_len, sizeLine_eq]; decide
  have pW := pushed_plain h2 vs.toArray
  have FC3 := FC2.push { cls := .type "list", data := .seq vs.toArray }
  have pN3 := pN2.at fun o e => kept_push h2 { cls := .type "list", data := .seq vs.toArray } _ _ e
  have lW : h2.objs.size ≠ L := FC2.ne (Heap.get?_none_of_le (Nat.le_refl _))
  have lW1 : h2.objs.size ≠ L + 1 := FC2.neC (Heap.get?_none_of_le (Nat.le_refl _)) (n := "names") (by rfl)
  have lW2 : h2.objs.size ≠ L + 2 := FC2.neC (Heap.get?_none_of_le (Nat.le_refl _)) (n := "worths") (by rfl)
  refine wpAny_storeName_cell (c := L + 2) rfl (by rfl) (by rfl) (FC3.cell "worths" (L + 2) (by rfl)) fun h3 hc3 hs3 => ?_
  have FC4 := FC3.setC (n := "worths") (c := L + 2) (by rfl) hc3 hs3
  have pN4 := pN3.extBut hs3.extBut lN2
  have pW4 := pW.extBut hs3.extBut lW2
  dsimp only at FC4 pN4 pW4 ⊢
  clear pW FC3 pN3 hc3 hs3 FC2 pN2
  generalize h2.objs.size = aW at lW lW1 lW2 FC4 pW4
  with_reducible refine wpAny_execs_cons ?_
  with_reducible refine wpAny_Assign_Name ?_ ?_
  rotate_left
  · kernel_rfl
  with_reducible refine wpAny_List ?_
  with_reducible refine spliced_ints (ns := codeInts) ?_ fun ws tk3 hC => ⟨?_, ?_⟩
  · exact codes_at
  · rw [hC.length, codes_len, sizeLine_eq]; decide
  have pC := pushed_plain h3 ws.toArray
  have FC5 := FC4.push { cls := .type "list", data := .seq ws.toArray }
  have pN5 := pN4.at fun o e => kept_push h3 { cls := .type "list", data := .seq ws.toArray } _ _ e
  have pW5 := pW4.at fun o e => kept_push h3 { cls := .type "list", data := .seq ws.toArray } _ _ e
  have lC : h3.objs.size ≠ L := FC4.ne (Heap.get?_none_of_le (Nat.le_refl _))
  refine wpAny_storeName_local rfl FC5.ns fun h4 hn4 hs4 => ?_
  have FC6 := FC5.set hn4 hs4
  have pN6 := pN5.extBut hs4.extBut lN
  have pW6 := pW5.extBut hs4.extBut lW
  have pC6 := pC.extBut hs4.extBut lC
  dsimp only at FC6 pN6 pW6 pC6 ⊢
  clear pC FC5 pN5 pW5 hn4 hs4 FC4 pN4 pW4
  generalize h3.objs.size = aC at lC FC6 pC6
  refine wpAny_execs_cons (wpAny_Return_some ?_)
  with_reducible refine wpAny_BinOp ?_
  have cN := FC6.cell "names" (L + 1) (by rfl)
  have cW := FC6.cell "worths" (L + 2) (by rfl)
  refine wpAny_ListComp_freeO (cl := [("worths", L + 2), ("names", L + 1)]) (fun _ => true) (fun v its => ∃ (k : Nat) (tk tk1 tk2 : Tok), k < 28 ∧ v = .int k tk ∧ its = #[.str (itemName k) tk1, .int (itemWorth k) tk2]) (by rfl) (by decide +kernel) (by rfl) (by decide +kernel) (by rfl) ?_
  refine range1_it (G.keeps FC6.keep) hrg hrb (wpAny_Constant_int ⟨28, _, rfl, by decide, by decide, fun I h7 tk7 hk7 hI hIlt hit => ⟨I, [I], [I], 28, PRange 28 0 1, StRange 28 I 0 1, rfl, walks_range (A := A.deeper (envC 63 L a cd)) hA I 0 1 28, by rw [sizeLine_eq]; decide, range_live, hit, ?_, ⟨?_, ?_⟩, ?_⟩⟩)
  · exact fun b hb => by rw [List.mem_singleton.mp hb]; exact hIlt
  · exact fun C i v s₃ m₃ E' _ _ _ _ _ _ => by rw [List.forIn_nil]; exact wpAny_pure ⟨rfl, Keeps.self _⟩
  · rintro C i v s₃ m₃ E' hC ⟨hi, ti, rfl⟩ - hns hm hk -
    have hkk : Kept h4 s₃.heap := kept_of hk (one_none hI) hk7
    have ei : (0 + (i : Int) * 1) = i := by omega
    rw [ei] at hm
    have p1 := pN6.at fun o e => hkk _ o e
    have p2 := pW6.at fun o e => hkk _ o e
    obtain ⟨np, hnp⟩ : ∃ np, nameParts[i]? = some np := ⟨_, List.getElem?_eq_getElem (by rw [parts_len]; exact hi)⟩
    obtain ⟨wn, hwn⟩ : ∃ wn, worthInts[i]? = some wn := ⟨_, List.getElem?_eq_getElem (by rw [worths_len]; exact hi)⟩
    obtain ⟨t1, e1⟩ := strsFrom_at nameParts (tk + 1 + 1) i np hnp
    obtain ⟨t2, e2⟩ := IntsAre.at hW i wn hwn
    have hi63 : (i : Int) < 2 ^ 63 := by omega
    refine wpAny_List (spliced_cons (wpAny_Subscript_Name F.slot_list_getitem.lookup (wpAny_Name (wpAny_loadName_cell (c := L + 1) rfl (by rfl) (by rfl) (cN.keeps hkk) (wpAny_Name (wpAny_loadName_local rfl (by rfl) hns hm ⟨p1.isList.typeIs, ?_⟩))))))
    refine wpAny_getItem_list p1.isList (by omega) hi63 (x := .str np t1) (by simpa using e1) ?_
    refine spliced_cons (wpAny_Subscript_Name F.slot_list_getitem.lookup (wpAny_Name (wpAny_loadName_cell (c := L + 2) rfl (by rfl) (by rfl) (cW.keeps hkk) (wpAny_Name (wpAny_loadName_local rfl (by rfl) hns hm ⟨p2.isList.typeIs, ?_⟩)))))
    refine wpAny_getItem_list p2.isList (by omega) hi63 (x := .int wn t2) (by simpa using e2) ?_
    refine spliced_nil ⟨by rw [sizeLine_eq]; exact (show 2 ≤ 16777216 by decide), ⟨_, _, rfl, Heap.get?_none_of_le (Nat.le_refl _), (pushed_plain s₃.heap #[.str np t1, .int wn t2]).isList, i, ti, t1, t2, hi, by rw [ei], ?_⟩, ⟨_, _, rfl, kept_push _ _⟩⟩
    rw [itemName, itemWorth, if_pos hi, if_pos hi, List.getD_eq_getElem?_getD, List.getD_eq_getElem?_getD, hnp, hwn]; rfl
  intro D h8 tk8 ys us hD hl8 hpl8 hlen hP hF8 hnd hyD hk8
  have hk48 : Kept h4 h8 := kept_of hk8 (one_none hI) hk7
  have hD4 : h4.get? D = none := by
    cases e : h4.get? D with
    | none => rfl
    | some o => rw [hk7 _ _ e] at hD; cases hD
  have FC8 := FC6.kept hk48
  refine wpAny_ListComp_freeO (cl := []) (fun _ => true) (fun v its => ∃ (c : Int) (tk tk2 : Tok), v = .int c tk ∧ its = #[.str ⟨#[c.toNat]⟩ tk2, .int c tk]) (by rfl) (by decide +kernel) (by rfl) (by decide +kernel) (by rfl) ?_
  refine wpAny_Name (wpAny_loadName_local rfl (by rfl) FC8.ns (v := .ref aC) (if_pos rfl) (wpAny_pyIter_list (pC6.isList.at fun o e => hk48 _ o e) ?_))
  have hne : aC ≠ h8.objs.size := by
    obtain ⟨_, ho⟩ := pC6
    exact Nat.ne_of_lt (Heap.lt_size (hk48 _ _ ho))
  have pC9 := pC6.at fun o e => kept_push h8 { cls := .type "list_iterator", data := .fields #[.ref aC, .int 0 0] } _ _ (hk48 _ o e)
  have hit9 : (h8.push { cls := .type "list_iterator", data := .fields #[.ref aC, .int 0 0] }).IsListIter h8.objs.size aC 0 := ⟨_, Heap.get?_push_size _ rfl, rfl, rfl⟩
  have hIf : h8.get? h8.objs.size = none := Heap.get?_none_of_le (Nat.le_refl _)
  have FC9 := FC8.push { cls := .type "list_iterator", data := .fields #[.ref aC, .int 0 0] }
  have hk49 := hk48.trans (kept_push h8 { cls := .type "list_iterator", data := .fields #[.ref aC, .int 0 0] })
  refine ⟨h8.objs.size, [h8.objs.size, aC], [h8.objs.size], ws.toArray.size, fun i v => ws.toArray[i]? = some v, fun i h => h.IsListIter h8.objs.size aC i ∧ h.IsList aC ws.toArray, rfl, Walks.list (A := A.deeper (envC 63 L a cd)) hA _ _ hne _, ?_, ?_, ⟨hit9, pC9.isList⟩, ?_, ⟨?_, ?_⟩, ?_⟩
  · rw [List.size_toArray, hC.length, codes_len, sizeLine_eq]; decide
  · exact fun i h st b hb => by rw [List.mem_singleton.mp hb]; obtain ⟨o, ho, _⟩ := st.1; exact ⟨o, ho⟩
  · intro b hb
    show b < (h8.push _).objs.size
    rw [Heap.size_push]
    rcases List.mem_cons.mp hb with e | hb
    · rw [e]; exact Nat.lt_succ_self _
    · rw [List.mem_singleton.mp hb]
      obtain ⟨_, ho⟩ := pC6
      exact Nat.lt_succ_of_lt (Heap.lt_size (hk48 _ _ ho))
  · exact fun C i v s₃ m₃ E' _ _ _ _ _ _ => by rw [List.forIn_nil]; exact wpAny_pure ⟨rfl, Keeps.self _⟩
  · intro C i v s₃ m₃ E' hC' hv _ hns hm hk _
    have hilt : i < codeInts.length := by
      have : i < ws.toArray.size := (Array.getElem?_eq_some_iff.mp hv).1
      rwa [List.size_toArray, hC.length] at this
    obtain ⟨tc, ec⟩ := IntsAre.at hC i codeInts[i] (List.getElem?_eq_getElem hilt)
    have ev : v = .int codeInts[i] tc := by
      have : ws.toArray[i]? = ws[i]? := by simp
      rw [this, ec] at hv
      exact (Option.some.inj hv).symm
    subst ev
    have hkk : Kept s.heap s₃.heap := kept_of hk (one_none (by
      cases e : s.heap.get? h8.objs.size with
      | none => rfl
      | some o => rw [FC8.keep _ _ e] at hIf; cases hIf)) FC9.keep
    refine wpAny_List (spliced_cons (wpAny_Call_NameR (ldB (G.keeps hkk) hcg hcb (cw1 (wpAny_Name (wpAny_loadName_local rfl (by rfl) hns hm (P.chr_of_int (codes_ok _ (List.getElem_mem hilt)) ?_)))))))
    refine spliced_cons (wpAny_Name (wpAny_loadName_local rfl (by rfl) hns hm (spliced_nil ⟨by rw [sizeLine_eq]; exact (show 2 ≤ 16777216 by decide), ⟨_, _, rfl, Heap.get?_none_of_le (Nat.le_refl _), (pushed_plain s₃.heap _).isList, codeInts[i], tc, _, rfl, rfl⟩, ⟨_, _, rfl, kept_push _ _⟩⟩)))
  intro D2 h10 tk10 ys2 us2 hD2 hl10 hpl10 hlen2 hP2 hF10 hnd2 hyD2 hk10
  have hk8' : Kept h8 h10 := kept_of hk10 (one_none hIf) (kept_push _ _)
  rw [filter_true] at hF8 hF10
  have z8 : ys.size = 28 := by have := hF8.length; rw [hlen, Array.length_toList] at this; exact this.symm
  have z10 : ys2.size = 8 := by
    have := hF10.length
    rw [hlen2, Array.length_toList, List.size_toArray, hC.length, codes_len] at this
    exact this.symm
  have pD := hpl8.at fun o e => hk8' _ o e
  refine add_plain pD hpl10 (by rw [z8, z10, sizeLine_eq]; decide) fun h11 hp11 hk11 _ => ?_
  refine hQ h11 _ _ _ (fun b o e => hk11 _ _ (hk8' _ _ (hk48 _ _ (FC6.keep _ _ e)))) hp11 (by rw [Array.size_append, z8, z10]) (fun k hk => ?_) ?_
  · by_cases hk28 : k < 28
    · obtain ⟨u, hu⟩ : ∃ u, us[k]? = some u := ⟨_, List.getElem?_eq_getElem (by rw [hlen]; exact hk28)⟩
      obtain ⟨y, hy, T, its, rfl, hTn, hTl, k', tk', tk1, tk2, hk', hu', rfl⟩ := Paired_at hF8 k u hu
      obtain ⟨_, tu, rfl⟩ := hP k u hu
      have : k' = k := by injection hu' with e; omega
      subst this
      refine ⟨T, tk1, tk2, ?_, hTl.at fun o e => hk11 _ _ (hk8' _ _ e)⟩
      rw [Array.getElem?_append_left (by rw [z8]; exact hk28)]
      simpa using hy
    · have hk8x : k - 28 < 8 := by omega
      have hkl : k - 28 < ws.length := by rw [hC.length, codes_len]; exact hk8x
      have hkc : k - 28 < codeInts.length := by rw [codes_len]; exact hk8x
      obtain ⟨u, hu⟩ : ∃ u, us2[k - 28]? = some u := ⟨_, List.getElem?_eq_getElem (by rw [hlen2, List.size_toArray]; exact hkl)⟩
      obtain ⟨y, hy, T, its, rfl, hTn, hTl, c, tk', tk2, hu', rfl⟩ := Paired_at hF10 _ u hu
      have hv : ws.toArray[k - 28]? = some u := hP2 _ u hu
      obtain ⟨tc, ec⟩ := IntsAre.at hC (k - 28) codeInts[k - 28] (List.getElem?_eq_getElem hkc)
      rw [show ws.toArray[k - 28]? = ws[k - 28]? from by simp, ec] at hv
      have huv := (Option.some.inj hv).symm
      rw [hu'] at huv
      injection huv with e1 e2
      refine ⟨T, tk2, tk', ?_, ?_⟩
      · rw [Array.getElem?_append_right (by rw [z8]; omega), z8]
        simpa using hy
      · rw [itemName, itemWorth, if_neg hk28, if_neg hk28, List.getD_eq_getElem?_getD, List.getElem?_eq_getElem hkc, Option.getD_some, ← e1]
        exact hTl.at fun o e => hk11 _ _ e
  · cases e : s.heap.get? h10.objs.size with
    | none => rfl
    | some o => exact absurd (Heap.lt_size (hk8' _ _ (hk48 _ _ (FC6.keep _ _ e)))) (Nat.lt_irrefl _)
end
end Mine

namespace Mine
open PySem PySem.Calls PyProof.Rows
theorem IntsAre_set {x : Int} {t : Tok} : ∀ {vs : List Value} {ns : List Int}, IntsAre vs ns → ∀ j, IntsAre (vs.set j (.int x t)) (ns.set j x)
  | _, _, .nil, j => .nil
  | _, _, .cons m u r, 0 => .cons _ _ r
  | _, _, .cons m u r, j + 1 => .cons m u (IntsAre_set r j)

section
variable {prog : Program} {w : World} {A : Around} {E : Value → Shared → Prop} {s : Shared} {env : Env}
theorem ints_items {vs : List Value} {ns : List Int} (hi : IntsAre vs ns) : ∃ xs : Array (Int × Tok), vs.toArray = intItems xs ∧ ns = xs.toList.map (·.1) := by
  obtain ⟨xs, e⟩ := hi.allInts.items
  exact ⟨xs, e, by rw [← hi.numsOf, ← nums_intItems, ← e]⟩
theorem sum_ok {l : Addr} {vs : List Value} {ns : List Int} {Q : Value → Shared → Prop} (hh : A.handled = none) (hl : s.heap.IsList l vs.toArray) (hi : IntsAre vs ns)
    (h : ∀ h' tk t', Kept s.heap h' → Q (.int ns.sum t') { s with heap := h', toks := tk }) : wpAny (model prog w) A (call (.builtin "sum") [.ref l]) Q E s := by
  obtain ⟨xs, e, rfl⟩ := ints_items hi
  rw [e] at hl
  refine sum_intListG hh hl fun h' tk t' hk => ?_
  have := h h' tk t' hk
  rw [preSum_eq, List.take_of_length_le (by simp)]; exact this
theorem min_ok {l : Addr} {vs : List Value} {ns : List Int} {Q : Value → Shared → Prop} (hh : A.handled = none) (hl : s.heap.IsList l vs.toArray) (hi : IntsAre vs ns) (hne : 0 < ns.length)
    (h : ∀ h' M t tk, Kept s.heap h' → M ∈ ns → (∀ a, a ∈ ns → M ≤ a) → Q (.int M t) { s with heap := h', toks := tk }) : wpAny (model prog w) A (call (.builtin "min") [.ref l]) Q E s := by
  obtain ⟨xs, e, rfl⟩ := ints_items hi
  have hsz : 0 < xs.size := by simpa using hne
  rw [e] at hl
  refine min_intList hh hl hsz fun v h' tk hv hk => ?_
  obtain ⟨t, rfl⟩ := intItems_at hv
  obtain ⟨h1, h2⟩ := argBest_lt (numAt xs) (xs.size - 1)
  refine h h' _ t tk hk ?_ fun a ha => ?_
  · rw [numAt_eq]; exact getD_mem (by rw [List.length_map, Array.length_toList]; omega)
  · obtain ⟨j, hj, rfl⟩ := mem_getD ha
    rw [List.length_map, Array.length_toList] at hj
    rw [← numAt_eq]; exact h2 j (by omega)
theorem max_ok {l : Addr} {vs : List Value} {ns : List Int} {Q : Value → Shared → Prop} (hh : A.handled = none) (hl : s.heap.IsList l vs.toArray) (hi : IntsAre vs ns) (hne : 0 < ns.length)
    (h : ∀ h' M t tk, Kept s.heap h' → M ∈ ns → (∀ a, a ∈ ns → a ≤ M) → Q (.int M t) { s with heap := h', toks := tk }) : wpAny (model prog w) A (call (.builtin "max") [.ref l]) Q E s := by
  obtain ⟨xs, e, rfl⟩ := ints_items hi
  have hsz : 0 < xs.size := by simpa using hne
  rw [e] at hl
  refine max_intList hh hl hsz fun v h' tk hv hk => ?_
  obtain ⟨t, rfl⟩ := intItems_at hv
  obtain ⟨h1, h2⟩ := argBest_gt (numAt xs) (xs.size - 1)
  refine h h' _ t tk hk ?_ fun a ha => ?_
  · rw [numAt_eq]; exact getD_mem (by rw [List.length_map, Array.length_toList]; omega)
  · obtain ⟨j, hj, rfl⟩ := mem_getD ha
    rw [List.length_map, Array.length_toList] at hj
    rw [← numAt_eq]; exact h2 j (by omega)
theorem op_add {a b : Int} {t u : Tok} {Q : Value → Shared → Prop} (h : ∀ t' tk, Q (.int (a + b) t') { s with toks := tk }) : wpAny (model prog w) A (binaryOp .Add (.int a t) (.int b u)) Q E s := wpAny_add_int (h _ _)
theorem op_iadd {a b : Int} {t u : Tok} {Q : Value → Shared → Prop} (h : ∀ t' tk, Q (.int (a + b) t') { s with toks := tk }) : wpAny (model prog w) A (inplaceOp .Add (.int a t) (.int b u)) Q E s := wpAny_iadd_int (h _ _)
theorem op_sub {a b : Int} {t u : Tok} {Q : Value → Shared → Prop} (h : ∀ t' tk, Q (.int (a - b) t') { s with toks := tk }) : wpAny (model prog w) A (binaryOp .Sub (.int a t) (.int b u)) Q E s := AutoIntOps.sub_0 (h _ _)
theorem op_mod {a b : Int} {t u : Tok} {Q : Value → Shared → Prop} (hb : 0 < b) (h : ∀ t' tk, Q (.int (a % b) t') { s with toks := tk }) : wpAny (model prog w) A (binaryOp .Mod (.int a t) (.int b u)) Q E s := by
  refine AutoIntOps.mod_1 (by simp; omega) ?_
  rw [Int.fmod_eq_emod_of_nonneg _ (Int.le_of_lt hb)]
  exact h _ _
theorem op_div {a b : Int} {t u : Tok} {Q : Value → Shared → Prop} (hb : 0 < b) (hb2 : b < 1073741824) (h : ∀ t' tk, Q (.int (a / b) t') { s with toks := tk }) : wpAny (model prog w) A (binaryOp .FloorDiv (.int a t) (.int b u)) Q E s := by
  refine AutoIntOps.floordiv_1 (by simp; omega) (by rw [PyProof.noPylong_small (by omega)]; simp) ?_
  rw [Int.fdiv_eq_ediv_of_nonneg _ (Int.le_of_lt hb)]
  exact h _ _
theorem seq_list_iadd : seqSlot? (.type "list") (dunderI "add") = pure (some (.builtin "list.__iadd__")) := PySem.seqSlot_of F.slot_list_iadd.lookup (by decide +kernel)
theorem iadd_road {a b : Value} {T U id : String} {Q : Value → Shared → Prop} (ha : s.TypeIs a T) (hb : s.TypeIs b U)
    (hl : typeLookup (.type T) (dunderI "add") = pure (some (.builtin id))) (hsq : isSeqSlot (some (.builtin id)) = true) (hnone : ∀ {Q : Option Value → Shared → Prop}, Q none s → wpAny (model prog w) A (binaryOp1 "add" a b) Q E s)
    (hc : wpAny (model prog w) A (call (.builtin id) [a, b]) Q E s) : wpAny (model prog w) A (inplaceOp .Add a b) Q E s := by
  unfold inplaceOp
  refine wpAny_holding ?_
  have hfi : fillsInplaceSlot (.type T) "add" (Operator.Add == .Add) = pure false := by
    unfold fillsInplaceSlot
    show (typeLookup (.type T) (dunderI "add") >>= fun fi => pure (fi.isSome && !isSeqSlot fi)) = pure false
    rw [hl]; show (pure (true && !isSeqSlot (some (.builtin id))) : Sem Bool) = pure false
    rw [hsq]; rfl
  refine wpAny_bind (wpAny_typeOf ha (wpAny_bind (wpAny_of_eq hfi ?_)))
  show wpAny _ A (if false = true then _ else _) Q E s
  rw [if_neg Bool.false_ne_true]
  refine wpAny_bind (hnone ?_)
  refine wpAny_bind (wpAny_of_eq (PySem.seqSlot_of hl hsq) ?_)
  exact wpAny_bind (wpAny_rule hc)
theorem iadd_plain {l b : Addr} {items items2 : Array Value} {Q : Value → Shared → Prop} (hl : s.heap.PlainList l items) (hb : s.heap.PlainList b items2) (hsz : items.size + items2.size ≤ sizeLine)
    (h : ∀ h', h'.PlainList l (items ++ items2) → Heap.SameBut l s.heap h' → Q (.ref l) { s with heap := h' }) : wpAny (model prog w) A (inplaceOp .Add (.ref l) (.ref b)) Q E s := by
  obtain ⟨n, hl⟩ := hl
  obtain ⟨n2, hb⟩ := hb
  have Tl : s.TypeIs (.ref l) "list" := ⟨_, hl, rfl⟩
  have Tb : s.TypeIs (.ref b) "list" := ⟨_, hb, rfl⟩
  refine iadd_road (U := "list") Tl Tb F.slot_list_iadd.lookup (by decide +kernel) (wpAny_binaryOp1_none (nm := "add") Tl Tb noFill_list_add) ?_
  refine call_meets F.slot_list_iadd Tl F.entry_list_iadd (F.args_list_iadd_2 _ _) (AutoSeq1.list___iadd___list_list_0 l items n b items2 n2 ?_ (by omega) (by omega)) ⟨hl, hb, ?_⟩
  · rw [sizeLine_eq] at hsz; simp [Builtin.List.listTooLong, sizeLine_eq]; intro _; omega
  · exact h _ ⟨_, Heap.get?_update_self _ hl rfl⟩ (Heap.SameBut.update ..)
end
end Mine

namespace Mine
open PySem PySem.Calls PyProof.Rows

section
variable {prog : Program} {w : World} {A : Around} {E : Value → Shared → Prop} {s : Shared} {env : Env}
theorem Sub_any {value slice : Expr} {pos : Pos} {Q : Value → Shared → Prop}
    (h : wpAny (model prog w) A (eval value env) (fun o s₁ => wpAny (model prog w) A (eval slice env) (fun i s₂ => SubscriptOn (model prog w) A o i Q E s₂) E s₁) E s)
    (hsub : ∀ o i, subscripted slice false o i = operate [o, i] (getItem o i) := by intro _ _; rfl) :
    wpAny (model prog w) A (eval (.Subscript value slice pos) env) Q E s := by
  rw [eval_Subscript]
  refine wpAny_bind (wpAny_mono h (fun o s₁ h₁ => wpAny_bind (wpAny_holding (wpAny_mono h₁ (fun i s₂ h₂ => wpAny_bind (wpAny_standAt ?_)) fun _ _ x => x)))
    fun _ _ x => x)
  obtain ⟨T, id, hl, hT, hg⟩ := h₂
  refine wpAny_bind ?_
  rw [getitemInPython_of_ne hT.not_modules]
  refine wpAny_bind (wpAny_specialOf hT hl ?_)
  have fin : wpAny (model prog w) A (subscripted slice false o i) (fun r s₃ => wpAny (model prog w) A (letTemporaryGo value o r >>= fun _ => pure r) Q E s₃) E s₂ := by
    rw [hsub]
    exact wpAny_operating (wpAny_mono hg (fun r s₃ h₃ => wpAny_bind (wpAny_letTemporaryGo (wpAny_pure h₃))) fun _ _ x => x)
  exact wpAny_pure (wpAny_bind fin)
theorem tru_int {n : Int} {t : Tok} {Q : Bool → Shared → Prop} (h : Q (n != 0) s) : wpAny (model prog w) A (truthy (.int n t)) Q E s := P.truthy_int h
theorem List_new {M : Model} {elts : List Expr} {pos : Pos} {Q : Value → Shared → Prop}
    (h : wpAny M A (spliced (backTo pos (starEach elts env))) (fun vs s₁ => vs.length ≤ sizeLine ∧ ∀ h' a, h'.PlainList a vs.toArray → Kept s₁.heap h' → s₁.heap.get? a = none → Q (.ref a) { s₁ with heap := h' }) E s) :
    wpAny M A (eval (.List elts pos) env) Q E s :=
  wpAny_List (wpAny_mono h (fun vs s₁ h₁ => ⟨h₁.1, h₁.2 _ _ (pushed_plain _ _) (kept_push _ _) (Heap.get?_none_of_le (Nat.le_refl _))⟩) fun _ _ e => e)
theorem Assign_one {t value : Expr} {pos : Pos} {Q : Flow → Shared → Prop} (hs : swapsWithSole [t] value pos.line env = pure false) (hw : swappedStores [t] value env = pure none)
    (he : assignEach [t] env = [(false, assign t env)])
    (h : wpAny (model prog w) A (eval value env) (fun v s₁ => wpAny (model prog w) A (assign t env v) (fun _ s₂ => Q .next s₂) E s₁) E s) :
    wpAny (model prog w) A (exec (.Assign [t] value pos) env) Q E s := by
  rw [arm_exec_Assign, hs]
  refine wpAny_bind (wpAny_standAt ?_)
  show wpAny _ _ (do let v ← eval value env; assignStores env v (← swappedStores [t] value env) ((assignEach [t] env).map (·.2))) _ _ _
  rw [hw, he]
  refine wpAny_bind (wpAny_mono h (fun v s₁ h₁ => ?_) fun _ _ e => e)
  show wpAny _ _ (assignStores env v none [assign t env]) _ _ _
  exact wpAny_bind (wpAny_mono h₁ (fun _ _ h => wpAny_pure h) fun _ _ e => e)
theorem unpack_list2 {t : Addr} {v0 v1 : Value} {Q : List Value → Shared → Prop} (hh : A.handled = none) (ht : s.heap.IsList t #[v0, v1])
    (hQ : ∀ h', Kept s.heap h' → Q [v0, v1] { s with heap := h' }) : wpAny (model prog w) A (unpackItems (.ref t) 2 none) Q E s := by
  have hlt : t ≠ s.heap.objs.size := by obtain ⟨o, ho, _⟩ := ht; exact Nat.ne_of_lt (Heap.lt_size ho)
  unfold unpackItems
  refine wpAny_bind ?_
  · unfold notIterableAtAll
    refine wpAny_bind (wpAny_specialOf ht.typeIs F.slot_list_iter.lookup ?_)
    refine wpAny_pure ?_
    simp only [Bool.false_eq_true, if_false]
    refine wpAny_bind (wpAny_holding (wpAny_pyIter_list ht ?_))
    have k0 : Kept s.heap (s.heap.push { cls := .type "list_iterator", data := .fields #[.ref t, .int 0 0] }) := kept_push _ _
    have hit : (s.heap.push { cls := .type "list_iterator", data := .fields #[.ref t, .int 0 0] }).IsListIter s.heap.objs.size t 0 := ⟨_, Heap.get?_push_size _ rfl, rfl, rfl⟩
    have hf : s.heap.get? s.heap.objs.size = none := Heap.get?_none_of_le (Nat.le_refl _)
    generalize s.heap.push { cls := .type "list_iterator", data := .fields #[.ref t, .int 0 0] } = h0 at k0 hit ⊢
    have ht0 := ht.at fun o e => k0 _ o e
    refine wpAny_bind (wpAny_holding ?_)
    show wpAny _ _ (pyNext (.ref s.heap.objs.size) >>= _) _ E _
    refine wpAny_bind (wpAny_pyNext_list_item hit ht0 (x := v0) rfl fun h1 hit1 hs1 => ?_)
    have ht1 := ht0.extBut hs1.extBut hlt
    refine wpAny_bind (wpAny_holding ?_)
    show wpAny _ _ (pyNext (.ref s.heap.objs.size) >>= _) _ E _
    refine wpAny_bind (wpAny_pyNext_list_item hit1 ht1 (x := v1) rfl fun h2 hit2 hs2 => ?_)
    have ht2 := ht1.extBut hs2.extBut hlt
    refine wpAny_bind (wpAny_holding (wpAny_pure (wpAny_pure (wpAny_pure ?_))))
    rw [if_neg (by simp)]
    refine wpAny_bind (wpAny_holding (wpAny_pyNext_list_end hh hit2 ht2 (by simp) fun h3 he3 => ?_))
    simp only [Option.isSome_none, Bool.false_eq_true, if_false]
    refine wpAny_pure (hQ h3 fun b o e => ?_)
    have hb : b ≠ s.heap.objs.size := Nat.ne_of_lt (Heap.lt_size e)
    exact he3 b o hb (hs2.extBut b o hb (hs1.extBut b o hb (k0 b o e)))
end
/-- a frame over a base -/
structure Fb (B : Heap) (L : Nat) (h : Heap) (m : Str → Option Value) : Prop where
  ns : h.Ns L m
  keep : Kept B h
  bL : B.get? L = none
namespace Fb
variable {B h h' : Heap} {L : Nat} {m m' : Str → Option Value}
theorem kept (F : Fb B L h m) (k : Kept h h') : Fb B L h' m := ⟨F.ns.keeps k, F.keep.trans k, F.bL⟩
theorem push (F : Fb B L h m) (o : Obj) : Fb B L (h.push o) m := F.kept (kept_push _ _)
theorem set (F : Fb B L h m) (hn : h'.Ns L m') (hs : Heap.SameBut L h h') : Fb B L h' m' := ⟨hn, kept_but F.keep hs F.bL, F.bL⟩
theorem but {a : Addr} (F : Fb B L h m) (hs : Heap.SameBut a h h') (ha : B.get? a = none) (hne : L ≠ a) : Fb B L h' m := ⟨F.ns.sameBut hs hne, kept_but F.keep hs ha, F.bL⟩
theorem out {wr : List Addr} (F : Fb B L h m) (hL : L ∉ wr) (hw : ∀ b ∈ wr, B.get? b = none) (k : ∀ b o, b ∉ wr → h.get? b = some o → h'.get? b = some o) : Fb B L h' m :=
  ⟨F.ns.at' fun o e => k _ o hL e, kept_of k hw F.keep, F.bL⟩
end Fb
theorem foldl_app {α : Type} (k : Nat) (x : Array α) : ∀ a : Array α, (List.foldl (fun x1 x2 => x1 ++ x2) a (List.replicate k x)).toList = a.toList ++ (List.replicate k x.toList).flatten := by
  induction k with
  | zero => intro a; simp
  | succ k ih => intro a; rw [List.replicate_succ, List.foldl_cons, ih]; simp [List.replicate_succ]
theorem mul_text (x : Str) (n : Int) : (Txt.mul x n).cps.toList = (List.replicate n.toNat x.cps.toList).flatten := by
  unfold Txt.mul
  by_cases h1 : n < 1
  · rw [if_pos h1, show n.toNat = 0 by omega]; rfl
  · rw [if_neg h1]
    by_cases h2 : (n == 1 || x.length == 0) = true
    · rw [if_pos h2]
      rcases Bool.or_eq_true _ _ ▸ h2 with e | e
      · have : n = 1 := by simpa using e
        subst this; simp
      · have : x.cps = #[] := by simpa [Str.length] using e
        rw [this]; simp
    · rw [if_neg h2, foldl_app]; simp
theorem mul_small {x : Str} {n : Int} (h0 : 0 ≤ n) (h3 : n ≤ 3) (hx : x.length ≤ 2) : MulOk x n := by
  refine ⟨by simp; omega, fun h1 h2 => ?_, fun h1 h2 => ?_⟩
  · have : n = 1 ∨ n = 2 ∨ n = 3 := by omega
    rcases this with rfl | rfl | rfl
    · have : ((2 : Int) ^ 63 - 1) / 1 = 9223372036854775807 := by decide
      rw [this]; omega
    · have : ((2 : Int) ^ 63 - 1) / 2 = 4611686018427387903 := by decide
      rw [this]; omega
    · have : ((2 : Int) ^ 63 - 1) / 3 = 3074457345618258602 := by decide
      rw [this]; omega
  · have : n.toNat ≤ 3 := by omega
    have hm : x.length * n.toNat ≤ 2 * 3 := Nat.mul_le_mul hx this
    unfold Builtin.Str.tooLong
    rw [sizeLine_eq]
    simp
    omega
end Mine

namespace Mine
open PySem PySem.Calls PyProof.Rows

/-- the text's loop over the script -/
def numLoop : Expr × Expr × List Stmt := match ((defAt 65).2.2.1[1]? : Option Stmt) with
  | some (Stmt.For t i b _ _) => (t, i, b)
  | _ => default
section
variable {prog : Program} {w : World} {A : Around} {E : Value → Shared → Prop} {s : Shared} {mg mb : Str → Option Value}

theorem drawn_nums {a l : Addr} {L : Nat} {cd : Value} {hb : Heap} {vs : List Value} {ns : List Int} {aN : Addr} {its : Array Value} {ms : List Int} {m : Str → Option Value} {h : Heap} {tk : Tok} {pos : Pos} {Q : Flow → Shared → Prop} (hA : A.handled = none)
    (G : Gl mg mb hb) (heg : mg "enumerate" = none) (heb : mb "enumerate" = some (.type "enumerate")) (hl : hb.IsList l vs.toArray) (hi : IntsAre vs ns) (hsz : vs.length ≤ 63) (F : Fr hb L h m) (hm1 : m "script" = some (.ref l)) (hm2 : m "numbers" = some (.ref aN))
    (hN : h.IsList aN its) (hNi : IntsAre its.toList ms) (h3 : ms.length = 3) (hNf : hb.get? aN = none) (hNL : aN ≠ L)
    (hQ : ∀ h' tk' m' its' ms', Fr hb L h' m' → m' "numbers" = some (.ref aN) → h'.IsList aN its' → IntsAre its'.toList ms' → ms'.length = 3 → Q .next { s with heap := h', toks := tk' }) :
    wpAny (model prog w) A (exec (.For numLoop.1 numLoop.2.1 numLoop.2.2 [] pos) (envAt 65 L a cd)) Q E { s with heap := h, toks := tk } := by
  refine wpAny_For (wpAny_Call_NameR (ldB (G.keeps F.keep) heg heb ?_))
  refine PySem.callWith_type rfl (Calls.evalArgs_plain (Calls.spliced_cons (wpAny_Subscript_list_slice (wpAny_Name (wpAny_loadName_local rfl rfl F.ns hm1 ?_)))))
  refine wpAny_pure (show wpAny (model prog w) A (eval _ _) _ _ _ from (wpAny_Constant_int ⟨l, vs.toArray, none, some 63, rfl, hl.at fun o e => F.keep _ o e, ?_, .none, .int 63 _, Calls.spliced_nil ?_⟩))
  · rw [List.size_toArray, sizeLine_eq]; omega
  dsimp only
  have pS := pushed_plain (h.push { cls := .type "slice", data := .fields #[.none, .int 63 tk, .none] }) (slicePick vs.toArray none (some 63) none)
  rw [Heap.size_push] at pS
  have kS : Kept h ((h.push { cls := .type "slice", data := .fields #[.none, .int 63 tk, .none] }).push { cls := .type "list", data := .seq (slicePick vs.toArray none (some 63) none) }) := (kept_push _ _).trans (kept_push _ _)
  have zS : ((h.push { cls := .type "slice", data := .fields #[.none, .int 63 tk, .none] }).push { cls := .type "list", data := .seq (slicePick vs.toArray none (some 63) none) }).objs.size = h.objs.size + 2 := by rw [Heap.size_push, Heap.size_push]
  generalize ((h.push { cls := .type "slice", data := .fields #[.none, .int 63 tk, .none] }).push { cls := .type "list", data := .seq (slicePick vs.toArray none (some 63) none) }) = hS at pS kS zS ⊢
  have hpi := hi.pick none (some 63) none
  have hps : (slicePick vs.toArray none (some 63) none).size ≤ 63 := by
    have := slicePick_size_le vs.toArray none (some 63) none
    have e : vs.toArray.size = vs.length := List.size_toArray
    omega
  generalize slicePick vs.toArray none (some 63) none = items at pS hpi hps
  refine call_enumerate_list pS.isList fun h2 hen hit hz2 hk2 => ?_
  dsimp only at hen hit hz2 hk2 ⊢
  rw [zS] at hen hit hz2 ⊢
  refine wpAny_pyIter_enum hen ?_
  have hLlt := F.ns.lt
  have hNlt : aN < h.objs.size := by obtain ⟨o, ho, _⟩ := hN; exact Heap.lt_size ho
  have fr : ∀ b, h.objs.size ≤ b → hb.get? b = none := fun b hbb => by
    cases e : hb.get? b with
    | none => rfl
    | some o => exact absurd (Heap.lt_size (F.keep _ _ e)) (Nat.not_lt.mpr hbb)
  have W := WalksT.enumerate (prog := prog) (w := w) (A := A) hA (h.objs.size + 2 + 1) (h.objs.size + 2) (h.objs.size + 1) (Nat.ne_of_gt (by omega)) (Nat.ne_of_lt (by omega)) (Nat.ne_of_lt (by omega)) items
  have hwr : ∀ b ∈ [h.objs.size + 2 + 1, h.objs.size + 2], h.objs.size ≤ b := fun b hbm => by
    rcases List.mem_cons.mp hbm with rfl | hbm
    · omega
    · rw [List.mem_singleton.mp hbm]; omega
  have hLw : L ∉ [h.objs.size + 2 + 1, h.objs.size + 2] := fun hm => absurd (hwr _ hm) (Nat.not_le.mpr hLlt)
  have hNw : aN ∉ [h.objs.size + 2 + 1, h.objs.size + 2] := fun hm => absurd (hwr _ hm) (Nat.not_le.mpr hNlt)
  have hfp : ∀ b ∈ [h.objs.size + 2 + 1, h.objs.size + 2, h.objs.size + 1], h.objs.size ≤ b := fun b hbm => by
    rcases List.mem_cons.mp hbm with rfl | hbm
    · omega
    · rcases List.mem_cons.mp hbm with rfl | hbm
      · omega
      · rw [List.mem_singleton.mp hbm]; omega
  have hLf : L ∉ [h.objs.size + 2 + 1, h.objs.size + 2, h.objs.size + 1] := fun hm => absurd (hfp _ hm) (Nat.not_le.mpr hLlt)
  have hNf' : aN ∉ [h.objs.size + 2 + 1, h.objs.size + 2, h.objs.size + 1] := fun hm => absurd (hfp _ hm) (Nat.not_le.mpr hNlt)
  generalize [h.objs.size + 2 + 1, h.objs.size + 2] = wr at W hwr hLw hNw
  generalize [h.objs.size + 2 + 1, h.objs.size + 2, h.objs.size + 1] = fp at W hfp hLf hNf'
  obtain ⟨St, hSt⟩ : ∃ St : Nat → Heap → Prop, St = (fun (i : Nat) h' => (∃ old, IsEnum h' (h.objs.size + 2 + 1) (h.objs.size + 2) i old) ∧ h'.IsListIter (h.objs.size + 2) (h.objs.size + 1) i ∧ h'.IsList (h.objs.size + 1) items) := ⟨_, rfl⟩
  have hst0 : St 0 h2 := by rw [hSt]; exact ⟨⟨_, hen⟩, hit, pS.isList.at fun o e => hk2 _ o e⟩
  rw [← hSt] at W
  clear hSt
  generalize (fun (i : Nat) T h' => (∃ x, IsEnumOut h' (h.objs.size + 2 + 1) (h.objs.size + 2) ((i : Int) + 1) x T) ∧ h'.IsListIter (h.objs.size + 2) (h.objs.size + 1) (i + 1) ∧ h'.IsList (h.objs.size + 1) items ∧ T ≠ (h.objs.size + 2 + 1) ∧ T ≠ (h.objs.size + 2)) = Mid at W
  have F2 := frKept F (kS.trans hk2)
  have hN2 := hN.at fun o e => hk2 _ _ (kS _ o e)
  refine codeAny_forLoop_any (fun k s' => ∃ i h' tk' m' its' ms', s' = { s with heap := h', toks := tk' } ∧ St i h' ∧ Fr hb L h' m' ∧ m' "numbers" = some (.ref aN) ∧ h'.IsList aN its' ∧ IntsAre its'.toList ms' ∧ ms'.length = 3 ∧ i ≤ items.size ∧ k = items.size + 1 - i) ?_ (items.size + 1)
    ⟨0, h2, _, m, its, ms, rfl, hst0, F2, hm2, hN2, hNi, h3, Nat.zero_le _, rfl⟩
  clear hst0 F2 hN2 hen hit hz2 hk2 hm2 hN hNi h3 pS kS zS hS h2 F hm1 m ms its
  rintro k s' ⟨i, h2, tk2, m, its, ms, rfl, hst, F, hm2, hN, hNi, h3, hi', rfl⟩
  have hwn : ∀ b ∈ wr, hb.get? b = none := fun b hbm => fr b (hwr b hbm)
  by_cases hlt : i < items.size
  · refine W.item i _ _ _ hlt hst fun T vals h₁ tk₁ hPt _ hT hMid hk₁ => ?_
    obtain ⟨ti, xv, hxv, rfl⟩ := hPt
    refine W.go _ _ _ i T _ _ _ hMid fun h₂ hst₂ hk₂ => ?_
    have ht₂ : h₂.IsTuple T #[.int i ti, xv] := hT.at fun o e => hk₂ T o (W.apart i T h₁ hMid) e
    refine wpAny_assign_Tuple hA ht₂ rfl rfl fun h₃ hx₃ => ?_
    replace hx₃ : Heap.ExtBut h₂.objs.size h₂ h₃ := hx₃
    have up₃ : ∀ b o, h₂.get? b = some o → h₃.get? b = some o := fun b o x => hx₃ b o (Nat.ne_of_lt (Heap.lt_size x)) x
    have up23 : ∀ b o, b ∉ wr → h2.get? b = some o → h₃.get? b = some o := fun b o hb x => up₃ b o (hk₂ b o hb (hk₁ b o hb x))
    have F₃ := frOut F hLw hwn up23
    have N₃ := hN.at fun o e => up23 _ o hNw e
    show wpAny _ A (do holding [xv] (assign (.Name _ _) _ (.int i ti)); do holding [] (assign (.Name _ _) _ xv); pure ()) _ _ _
    refine wpAny_bind (wpAny_holding (wpAny_assign_Name (wpAny_storeName_local rfl F₃.ns fun h₄ hn₄ hs₄ => ?_)))
    replace hs₄ : Heap.SameBut L h₃ h₄ := hs₄
    have F₄ := F₃.set hn₄ hs₄
    have N₄ := N₃.extBut hs₄.extBut hNL
    refine wpAny_bind (wpAny_holding (wpAny_assign_Name (wpAny_storeName_local rfl F₄.ns fun h₅ hn₅ hs₅ => wpAny_pure ?_)))
    replace hs₅ : Heap.SameBut L h₄ h₅ := hs₅
    have F₅ := F₄.set hn₅ hs₅
    have N₅ := N₄.extBut hs₅.extBut hNL
    have hst₅ : St (i + 1) h₅ := W.frame _ _ _ hst₂ fun b hb o e => hs₅.extBut b o (fun q => hLf (q ▸ hb)) (hs₄.extBut b o (fun q => hLf (q ▸ hb)) (up₃ b o e))
    obtain ⟨xn, tx, rfl⟩ : ∃ xn tx, xv = .int xn tx := by
      have hil : i < (pickNums ns none (some 63) none).length := by rw [← hpi.length, Array.length_toList]; exact hlt
      obtain ⟨tx, ex⟩ := IntsAre.at hpi i _ (List.getElem?_eq_getElem hil)
      rw [Array.getElem?_toList] at ex
      rw [hxv] at ex
      exact ⟨_, tx, Option.some.inj ex⟩
    dsimp only at F₅ N₅ hst₅ ⊢
    have hmn : ∀ u v : Option Value, (if Str.ofString "numbers" = Str.ofString "x" then u else if Str.ofString "numbers" = Str.ofString "k" then v else m "numbers") = some (.ref aN) := fun u v => by
      rw [if_neg (by decide +kernel), if_neg (by decide +kernel)]; exact hm2
    refine wpAny_execs_cons (wpAny_AugAssign_SubscriptAny (wpAny_Name (wpAny_loadName_local rfl rfl F₅.ns (hmn _ _) (wpAny_BinOp (wpAny_Name (wpAny_loadName_local rfl rfl F₅.ns (v := .int i ti) ?_ (wpAny_Constant_int (op_mod (by decide) fun t1 tk1 => ?_))))))))
    · exact (by rw [if_neg (by decide +kernel), if_pos rfl])
    have hj0 : (0 : Int) ≤ (i : Int) % 3 := Int.emod_nonneg _ (by decide)
    have hj3 : (i : Int) % 3 < 3 := Int.emod_lt_of_pos _ (by decide)
    have hjn : ((i : Int) % 3).toNat < 3 := by omega
    obtain ⟨j, hj⟩ : ∃ j, j = ((i : Int) % 3).toNat := ⟨_, rfl⟩
    obtain ⟨tj, ej⟩ := IntsAre.at hNi j _ (List.getElem?_eq_getElem (show j < ms.length by omega))
    rw [Array.getElem?_toList] at ej
    refine wpAny_getItem_list N₅ hj0 (by omega) (x := .int ms[j] tj) (by rw [← hj]; exact ej) ?_
    refine wpAny_Name (wpAny_loadName_local rfl rfl F₅.ns (v := .int xn tx) (if_pos rfl) (op_iadd fun t2 tk2 => ?_))
    have hsz3 : its.size = 3 := by rw [← Array.length_toList, hNi.length, h3]
    refine wpAny_setItem_list N₅ hj0 (by omega) (by rw [hsz3]; omega) fun h₆ hN₆ hs₆ => ?_
    rw [← hj] at hN₆
    have F₆ : Fr hb L h₆ _ := ⟨F₅.ns.sameBut hs₆ (Ne.symm hNL), kept_but F₅.keep hs₆ hNf, F₅.above⟩
    refine wpAny_execs_nil ⟨items.size + 1 - (i + 1), by omega, i + 1, h₆, tk2, _, _, ms.set j (ms[j] + xn), rfl, W.frame _ _ _ hst₅ fun b hb o e => hs₆.extBut b o (fun q => hNf' (q ▸ hb)) e, F₆, hmn _ _, hN₆, ?_, by rw [List.length_set]; exact h3, hlt, rfl⟩
    rw [Array.toList_setIfInBounds]
    exact IntsAre_set hNi j
  · have hin : i = items.size := by omega
    subst hin
    refine W.done _ _ _ hst fun h₁ tk₁ hk₁ => wpAny_execs_nil ?_
    exact hQ h₁ tk₁ m its ms (frOut F hLw hwn hk₁) hm2 (hN.at fun o e => hk₁ _ o hNw e) hNi h3
end
end Mine

namespace Mine
open PySem PySem.Calls PyProof.Rows

def itIx (x : Int) : Nat := (x / 4 % 36).toNat
def fdText (x : Int) : List Nat := if x / 144 % 3 = 0 then [10] else if x / 144 % 3 = 1 then [13] else [13, 10]
def fdN (x : Int) : Nat := (1 + x / 432 % 2).toNat
def dts (T x : Int) : Int := if x % 4 = 0 then 0 else x % 4 + T
def mailPart (k : Nat) (x : Int) : List Nat := (List.replicate (x % 4).toNat [46]).flatten ++ (itemName (itIx x)).cps.toList ++ (if k < 2 then (List.replicate (fdN x) (fdText x)).flatten else [])
def rowPart (T : Int) (k : Nat) (x : Int) : List Int := (List.replicate (dts T x / 3).toNat [52]).flatten ++ (List.replicate (dts T x % 3).toNat [23]).flatten ++ [itemWorth (itIx x)] ++ (if k < 2 then (List.replicate (fdN x) [13, 10]).flatten else [])
def mailUp (ms : List Int) : Nat → List Nat
  | 0 => []
  | k + 1 => mailUp ms k ++ mailPart k (ms.getD k 0)
def rowUp (T : Int) (ms : List Int) : Nat → List Int
  | 0 => []
  | k + 1 => rowUp T ms k ++ rowPart T k (ms.getD k 0)
theorem name_len : ∀ k < 36, (itemName k).cps.size ≤ 3 := by decide +kernel
theorem itIx_lt (x : Int) : itIx x < 36 := by unfold itIx; omega

theorem ints_rep {n : Nat} {vs : List Value} {ns : List Int} (h : IntsAre vs ns) : IntsAre (List.replicate n vs).flatten (List.replicate n ns).flatten := by
  induction n with
  | zero => simpa using IntsAre.nil
  | succ n ih => rw [List.replicate_succ, List.replicate_succ, List.flatten_cons, List.flatten_cons]; exact h.append ih

theorem feed_of {h : Heap} {a : Addr} {t1 t2 t3 : Tok} (p : h.PlainList a [Value.str (Str.ofString "\n") t1, .str (Str.ofString "\r") t2, .str (Str.ofString "\r\n") t3].toArray) (x : Int) :
    ∃ z tz, ([Value.str (Str.ofString "\n") t1, .str (Str.ofString "\r") t2, .str (Str.ofString "\r\n") t3].toArray)[(x / 144 % 3).toNat]? = some (.str z tz) ∧ z.cps.toList = fdText x ∧ z.length ≤ 2 := by
  unfold fdText
  rcases (show x / 144 % 3 = 0 ∨ x / 144 % 3 = 1 ∨ x / 144 % 3 = 2 by omega) with e | e | e
  · rw [e, if_pos rfl]; exact ⟨_, _, rfl, rfl, by decide +kernel⟩
  · rw [e, if_neg (by decide), if_pos rfl]; exact ⟨_, _, rfl, rfl, by decide +kernel⟩
  · rw [e, if_neg (by decide), if_neg (by decide)]; exact ⟨_, _, rfl, rfl, by decide +kernel⟩
theorem fdN_le (x : Int) : fdN x ≤ 2 := by unfold fdN; omega
theorem feeds_text {z : Str} {x : Int} (h : z.cps.toList = fdText x) : (Txt.mul z (1 + x / 432 % 2)).cps.toList = (List.replicate (fdN x) (fdText x)).flatten := by rw [mul_text, h, fdN]
theorem feeds_size {z : Str} {x : Int} (h : z.cps.toList = fdText x) : (Txt.mul z (1 + x / 432 % 2)).cps.size ≤ 4 := by
  rw [← Array.length_toList, feeds_text h]
  have : (fdText x).length ≤ 2 := by unfold fdText; split <;> (try split) <;> simp
  rw [List.length_flatten, List.map_replicate, List.sum_replicate_nat]
  exact Nat.le_trans (Nat.mul_le_mul (fdN_le x) this) (by decide)
theorem mul_feeds {prog : Program} {w : World} {A : Around} {E : Value → Shared → Prop} {s : Shared} {z : Str} {x n : Int} {t u : Tok} {Q : Value → Shared → Prop} (hn : n = 1 + x / 432 % 2) (hzl : z.length ≤ 2) (hzf : z.cps.toList = fdText x)
    (h : ∀ zz t' k, zz.cps.toList = (List.replicate (fdN x) (fdText x)).flatten → zz.cps.size ≤ 4 → Q (.str zz t') { s with toks := k }) : wpAny (model prog w) A (binaryOp .Mult (.str z t) (.int n u)) Q E s := by
  subst hn
  exact SB.mul (mul_small (by omega) (by omega) hzl) fun t' k => h _ t' k (feeds_text hzf) (feeds_size hzf)
theorem mul_pairs {prog : Program} {w : World} {A : Around} {E : Value → Shared → Prop} {s : Shared} {l : Addr} {items : Array Value} {x n : Int} {u : Tok} {Q : Value → Shared → Prop} (hn : n = 1 + x / 432 % 2) (hl : s.heap.PlainList l items) (hz : items.size = 2) (hi : IntsAre items.toList [13, 10])
    (h : ∀ h' a its, IntsAre its.toList (List.replicate (fdN x) [13, 10]).flatten → its.size ≤ 4 → h'.PlainList a its → Kept s.heap h' → Q (.ref a) { s with heap := h' }) : wpAny (model prog w) A (binaryOp .Mult (.ref l) (.int n u)) Q E s := by
  subst hn
  refine mul_plain hl (by omega) (by omega) (by rw [hz]; omega) fun h' its e p k _ => ?_
  have hf := fdN_le x
  have e' : its.toList = (List.replicate (fdN x) items.toList).flatten := by rw [e, fdN]
  have I : IntsAre its.toList (List.replicate (fdN x) [13, 10]).flatten := by rw [e']; exact ints_rep hi
  refine h h' _ its I ?_ p k
  rw [← Array.length_toList, I.length, List.length_flatten, List.map_replicate, List.sum_replicate_nat]
  exact Nat.le_trans (Nat.mul_le_mul_right _ hf) (by decide)
def ItemsAt (B : Heap) (aI : Addr) : Prop := ∃ its, B.PlainList aI its ∧ its.size = 36 ∧ ∀ k, k < 36 → ∃ T tk1 tk2, its[k]? = some (.ref T) ∧ B.IsList T #[.str (itemName k) tk1, .int (itemWorth k) tk2]
end Mine

namespace Mine
open PySem PySem.Calls PyProof.Rows

/-- the body of the text's loop over the three rows -/
def rowBody : List Stmt := match ((defAt 65).2.2.1[6]? : Option Stmt) with
  | some (Stmt.For _ _ b _ _) => b
  | _ => default
section
variable {prog : Program} {w : World} {A : Around} {E : Value → Shared → Prop} {s : Shared} {mg mb : Str → Option Value}

theorem drawn_body {a : Addr} {L aN aI aR : Nat} {cd : Value} {B h : Heap} {its rits : Array Value} {ms : List Int} {m : Str → Option Value} {k : Nat} {T : Int} {y : Str} {tk : Tok} {Q : Flow → Shared → Prop} (hA : A.handled = none)
    (F0 : Fb B L h m) (hk : ∃ t, m "k" = some (.int k t)) (hk3 : k < 3) (hmN : m "numbers" = some (.ref aN)) (hmT : ∃ t, m "times" = some (.int T t)) (hT : 1 ≤ T ∧ T ≤ 3) (hmI : m "items" = some (.ref aI)) (hmM : ∃ t, m "mail" = some (.str y t)) (hmR : m "row" = some (.ref aR))
    (hN : B.IsList aN its) (hNi : IntsAre its.toList ms) (h3 : ms.length = 3) (hI : ItemsAt B aI) (hR : h.PlainList aR rits) (hBR : B.get? aR = none) (hRL : aR ≠ L)
    (hy : y.cps.toList = mailUp ms k) (hr : IntsAre rits.toList (rowUp T ms k)) (hyz : y.cps.size ≤ 20 * k) (hrz : rits.size ≤ 20 * k)
    (hQ : ∀ h' tk' m' y' rits', Fb B L h' m' → m' "numbers" = some (.ref aN) → (∃ t, m' "times" = some (.int T t)) → m' "items" = some (.ref aI) → (∃ t, m' "mail" = some (.str y' t)) → m' "row" = some (.ref aR) → h'.PlainList aR rits' →
      y'.cps.toList = mailUp ms (k + 1) → IntsAre rits'.toList (rowUp T ms (k + 1)) → y'.cps.size ≤ 20 * (k + 1) → rits'.size ≤ 20 * (k + 1) → (∀ b o, b ≠ L → b ≠ aR → h.get? b = some o → h'.get? b = some o) → Q .next { s with heap := h', toks := tk' }) :
    wpAny (model prog w) A (execs rowBody (envAt 65 L a cd)) Q E { s with heap := h, toks := tk } := by
  obtain ⟨tk_k, hk⟩ := hk
  obtain ⟨tk_T, hmT⟩ := hmT
  obtain ⟨tk_M, hmM⟩ := hmM
  obtain ⟨t0, e0⟩ := IntsAre.at hNi k (ms.getD k 0) (by rw [List.getD_eq_getElem?_getD, List.getElem?_eq_getElem (by omega)]; rfl)
  rw [Array.getElem?_toList] at e0
  obtain ⟨x, hx⟩ : ∃ x, x = ms.getD k 0 := ⟨_, rfl⟩
  rw [← hx] at e0
  -- x = numbers[k]
  refine wpAny_execs_cons (wpAny_Assign_Name (Sub_any ?_))
  refine wpAny_Name (wpAny_loadName_local rfl rfl F0.ns hmN ?_)
  refine wpAny_Name (wpAny_loadName_local rfl rfl F0.ns hk ?_)
  refine ⟨"list", _, F.slot_list_getitem.lookup, (hN.at fun o e => F0.keep _ o e).typeIs, wpAny_getItem_list (hN.at fun o e => F0.keep _ o e) (by omega) (by omega) e0 ?_⟩
  refine wpAny_storeName_local rfl F0.ns fun h1 hn1 hs1 => ?_
  have F1' := F0.set hn1 hs1
  have R1 := hR.extBut hs1.extBut hRL
  have U1 : ∀ b o, b ≠ L → b ≠ aR → h.get? b = some o → h1.get? b = some o := fun b o hb hb2 e => (hs1.2 b hb).trans e
  obtain ⟨m1, hm1⟩ : ∃ m' : Str → Option Value, m' = (fun yy => if yy = Str.ofString "x" then some (.int x t0) else m yy) := ⟨_, rfl⟩
  have F1 : Fb B L h1 m1 := by rw [hm1]; exact F1'
  have e1_k : m1 "k" = some (.int k tk_k) := by rw [hm1]; exact (put_ne (by decide +kernel)).trans hk
  have e1_numbers : m1 "numbers" = some (.ref aN) := by rw [hm1]; exact (put_ne (by decide +kernel)).trans hmN
  have e1_times : m1 "times" = some (.int T tk_T) := by rw [hm1]; exact (put_ne (by decide +kernel)).trans hmT
  have e1_items : m1 "items" = some (.ref aI) := by rw [hm1]; exact (put_ne (by decide +kernel)).trans hmI
  have e1_mail : m1 "mail" = some (.str y tk_M) := by rw [hm1]; exact (put_ne (by decide +kernel)).trans hmM
  have e1_row : m1 "row" = some (.ref aR) := by rw [hm1]; exact (put_ne (by decide +kernel)).trans hmR
  have e1_x : m1 "x" = some (.int x t0) := by rw [hm1]; exact put_same
  clear hn1 hm1 hs1 F1'
  try dsimp only
  -- name, worth = items[x // 4 % 36]
  obtain ⟨iits, hIp, hIz, hIk⟩ := hI
  obtain ⟨Ti, tk1, tk2, hIx, hIl⟩ := hIk (itIx x) (itIx_lt x)
  have hix0 : 0 ≤ x / 4 % 36 := by omega
  refine wpAny_execs_cons (Assign_one (by rfl) (by rfl) (by rfl) (Sub_any ?_))
  refine wpAny_Name (wpAny_loadName_local rfl rfl F1.ns e1_items ?_)
  refine wpAny_BinOp (wpAny_BinOp ?_)
  refine wpAny_Name (wpAny_loadName_local rfl rfl F1.ns e1_x ?_)
  refine wpAny_Constant_int (op_div (by decide) (by decide) fun t1 k1 => wpAny_Constant_int (op_mod (by decide) fun t2 k2 => ?_))
  refine ⟨"list", _, F.slot_list_getitem.lookup, (hIp.isList.at fun o e => F1.keep _ o e).typeIs, wpAny_getItem_list (hIp.isList.at fun o e => F1.keep _ o e) hix0 (by omega) hIx ?_⟩
  rw [arm_assign_Tuple]
  refine wpAny_bind (wpAny_standAt ?_)
  unfold unpack
  refine wpAny_bind (wpAny_holding (unpack_list2 hA (hIl.at fun o e => F1.keep _ o e) fun hu ku => ?_))
  have F2 := F1.kept ku
  have R2 := R1.at fun o e => ku _ o e
  have U2 : ∀ b o, b ≠ L → b ≠ aR → h.get? b = some o → hu.get? b = some o := fun b o hb hb2 e => ku _ _ (U1 b o hb hb2 e)
  try dsimp only
  show wpAny _ A (do holding [_] (assign (.Name _ _) _ _); do holding [] (assign (.Name _ _) _ _); pure ()) _ _ _
  refine wpAny_bind (wpAny_holding (wpAny_assign_Name ?_))
  refine wpAny_storeName_local rfl F2.ns fun h3 hn3 hs3 => ?_
  have F3' := F2.set hn3 hs3
  have R3 := R2.extBut hs3.extBut hRL
  have U3 : ∀ b o, b ≠ L → b ≠ aR → h.get? b = some o → h3.get? b = some o := fun b o hb hb2 e => (hs3.2 b hb).trans (U2 b o hb hb2 e)
  obtain ⟨m3, hm3⟩ : ∃ m' : Str → Option Value, m' = (fun yy => if yy = Str.ofString "name" then some (.str (itemName (itIx x)) tk1) else m1 yy) := ⟨_, rfl⟩
  have F3 : Fb B L h3 m3 := by rw [hm3]; exact F3'
  have e3_k : m3 "k" = some (.int k tk_k) := by rw [hm3]; exact (put_ne (by decide +kernel)).trans e1_k
  have e3_numbers : m3 "numbers" = some (.ref aN) := by rw [hm3]; exact (put_ne (by decide +kernel)).trans e1_numbers
  have e3_times : m3 "times" = some (.int T tk_T) := by rw [hm3]; exact (put_ne (by decide +kernel)).trans e1_times
  have e3_items : m3 "items" = some (.ref aI) := by rw [hm3]; exact (put_ne (by decide +kernel)).trans e1_items
  have e3_mail : m3 "mail" = some (.str y tk_M) := by rw [hm3]; exact (put_ne (by decide +kernel)).trans e1_mail
  have e3_row : m3 "row" = some (.ref aR) := by rw [hm3]; exact (put_ne (by decide +kernel)).trans e1_row
  have e3_x : m3 "x" = some (.int x t0) := by rw [hm3]; exact (put_ne (by decide +kernel)).trans e1_x
  have e3_name : m3 "name" = some (.str (itemName (itIx x)) tk1) := by rw [hm3]; exact put_same
  clear hn3 hm3 hs3 F3'
  try dsimp only
  refine wpAny_bind (wpAny_holding (wpAny_assign_Name ?_))
  refine wpAny_storeName_local rfl F3.ns fun h4 hn4 hs4 => ?_
  have F4' := F3.set hn4 hs4
  have R4 := R3.extBut hs4.extBut hRL
  have U4 : ∀ b o, b ≠ L → b ≠ aR → h.get? b = some o → h4.get? b = some o := fun b o hb hb2 e => (hs4.2 b hb).trans (U3 b o hb hb2 e)
  obtain ⟨m4, hm4⟩ : ∃ m' : Str → Option Value, m' = (fun yy => if yy = Str.ofString "worth" then some (.int (itemWorth (itIx x)) tk2) else m3 yy) := ⟨_, rfl⟩
  have F4 : Fb B L h4 m4 := by rw [hm4]; exact F4'
  have e4_k : m4 "k" = some (.int k tk_k) := by rw [hm4]; exact (put_ne (by decide +kernel)).trans e3_k
  have e4_numbers : m4 "numbers" = some (.ref aN) := by rw [hm4]; exact (put_ne (by decide +kernel)).trans e3_numbers
  have e4_times : m4 "times" = some (.int T tk_T) := by rw [hm4]; exact (put_ne (by decide +kernel)).trans e3_times
  have e4_items : m4 "items" = some (.ref aI) := by rw [hm4]; exact (put_ne (by decide +kernel)).trans e3_items
  have e4_mail : m4 "mail" = some (.str y tk_M) := by rw [hm4]; exact (put_ne (by decide +kernel)).trans e3_mail
  have e4_row : m4 "row" = some (.ref aR) := by rw [hm4]; exact (put_ne (by decide +kernel)).trans e3_row
  have e4_x : m4 "x" = some (.int x t0) := by rw [hm4]; exact (put_ne (by decide +kernel)).trans e3_x
  have e4_name : m4 "name" = some (.str (itemName (itIx x)) tk1) := by rw [hm4]; exact (put_ne (by decide +kernel)).trans e3_name
  have e4_worth : m4 "worth" = some (.int (itemWorth (itIx x)) tk2) := by rw [hm4]; exact put_same
  clear hn4 hm4 hs4 F4'
  try dsimp only
  refine wpAny_pure ?_
  -- dots = x % 4 + times if x % 4 else 0
  refine wpAny_execs_cons (wpAny_Assign_Name (wpAny_mono (Q := fun v s' => ∃ td k', v = .int (dts T x) td ∧ s' = { s with heap := h4, toks := k' }) ?_ ?_ fun _ _ e => e))
  · refine wpAny_IfExp (wpAny_isTrue_value (wpAny_BinOp ?_))
    refine wpAny_Name (wpAny_loadName_local rfl rfl F4.ns e4_x (wpAny_Constant_int (op_mod (by decide) fun t3 k3 => tru_int ?_)))
    by_cases hx4 : x % 4 = 0
    · rw [if_neg (by simp [hx4])]
      exact wpAny_Constant_int ⟨_, _, by rw [dts, if_pos hx4], rfl⟩
    · rw [if_pos (by simp [hx4])]
      refine wpAny_BinOp (wpAny_BinOp ?_)
      refine wpAny_Name (wpAny_loadName_local rfl rfl F4.ns e4_x (wpAny_Constant_int (op_mod (by decide) fun t4 k4 => ?_)))
      refine wpAny_Name (wpAny_loadName_local rfl rfl F4.ns e4_times (op_add fun t5 k5 => ?_))
      exact ⟨_, _, by rw [dts, if_neg hx4], rfl⟩
  rintro v s' ⟨td, k6, rfl, rfl⟩
  refine wpAny_storeName_local rfl F4.ns fun h5 hn5 hs5 => ?_
  have F5' := F4.set hn5 hs5
  have R5 := R4.extBut hs5.extBut hRL
  have U5 : ∀ b o, b ≠ L → b ≠ aR → h.get? b = some o → h5.get? b = some o := fun b o hb hb2 e => (hs5.2 b hb).trans (U4 b o hb hb2 e)
  obtain ⟨m5, hm5⟩ : ∃ m' : Str → Option Value, m' = (fun yy => if yy = Str.ofString "dots" then some (.int (dts T x) td) else m4 yy) := ⟨_, rfl⟩
  have F5 : Fb B L h5 m5 := by rw [hm5]; exact F5'
  have e5_k : m5 "k" = some (.int k tk_k) := by rw [hm5]; exact (put_ne (by decide +kernel)).trans e4_k
  have e5_numbers : m5 "numbers" = some (.ref aN) := by rw [hm5]; exact (put_ne (by decide +kernel)).trans e4_numbers
  have e5_times : m5 "times" = some (.int T tk_T) := by rw [hm5]; exact (put_ne (by decide +kernel)).trans e4_times
  have e5_items : m5 "items" = some (.ref aI) := by rw [hm5]; exact (put_ne (by decide +kernel)).trans e4_items
  have e5_mail : m5 "mail" = some (.str y tk_M) := by rw [hm5]; exact (put_ne (by decide +kernel)).trans e4_mail
  have e5_row : m5 "row" = some (.ref aR) := by rw [hm5]; exact (put_ne (by decide +kernel)).trans e4_row
  have e5_x : m5 "x" = some (.int x t0) := by rw [hm5]; exact (put_ne (by decide +kernel)).trans e4_x
  have e5_name : m5 "name" = some (.str (itemName (itIx x)) tk1) := by rw [hm5]; exact (put_ne (by decide +kernel)).trans e4_name
  have e5_worth : m5 "worth" = some (.int (itemWorth (itIx x)) tk2) := by rw [hm5]; exact (put_ne (by decide +kernel)).trans e4_worth
  have e5_dots : m5 "dots" = some (.int (dts T x) td) := by rw [hm5]; exact put_same
  clear hn5 hm5 hs5 F5'
  try dsimp only
  have hx40 : 0 ≤ x % 4 := Int.emod_nonneg _ (by decide)
  have hx44 : x % 4 < 4 := Int.emod_lt_of_pos _ (by decide)
  have hd0 : 0 ≤ dts T x := by unfold dts; split <;> omega
  have hd7 : dts T x ≤ 6 := by unfold dts; split <;> omega
  -- mail += '.' * (x % 4) + name
  refine wpAny_execs_cons (wpAny_AugAssign_Name (wpAny_loadName_local rfl rfl F5.ns e5_mail ?_))
  refine wpAny_BinOp (wpAny_BinOp (wpAny_Constant_str (wpAny_BinOp ?_)))
  refine wpAny_Name (wpAny_loadName_local rfl rfl F5.ns e5_x ?_)
  refine wpAny_Constant_int (op_mod (by decide) fun t7 k7 => ?_)
  have hdot : (Txt.mul (Str.ofString ".") (x % 4)).cps.toList = (List.replicate (x % 4).toNat [46]).flatten := by rw [mul_text]; rfl
  have hdz : (Txt.mul (Str.ofString ".") (x % 4)).cps.size ≤ 3 := by rw [← Array.length_toList, hdot]; simp; omega
  refine SB.mul (mul_small hx40 (by omega) (by decide +kernel)) fun t8 k8 => ?_
  obtain ⟨dz, hdze⟩ : ∃ dz, dz = Txt.mul (Str.ofString ".") (x % 4) := ⟨_, rfl⟩
  rw [← hdze] at hdot hdz ⊢
  refine wpAny_Name (wpAny_loadName_local rfl rfl F5.ns e5_name ?_)
  have hnz := name_len (itIx x) (itIx_lt x)
  obtain ⟨nz, hnze⟩ : ∃ nz, nz = itemName (itIx x) := ⟨_, rfl⟩
  rw [← hnze] at hnz ⊢
  refine SB.add (fun t9 k9 => ?_) (by rw [sizeLine_eq]; show dz.cps.size + nz.cps.size ≤ _; omega)
  have hmz : (dz ++ nz).cps = dz.cps ++ nz.cps := rfl
  have hmz2 : (y ++ (dz ++ nz)).cps = y.cps ++ (dz.cps ++ nz.cps) := rfl
  refine SB.iadd (fun t10 k10 => ?_) (by rw [sizeLine_eq]; show y.cps.size + (dz.cps ++ nz.cps).size ≤ _; rw [Array.size_append]; omega)
  try dsimp only
  refine wpAny_storeName_local rfl F5.ns fun h6 hn6 hs6 => ?_
  have F6' := F5.set hn6 hs6
  have R6 := R5.extBut hs6.extBut hRL
  have U6 : ∀ b o, b ≠ L → b ≠ aR → h.get? b = some o → h6.get? b = some o := fun b o hb hb2 e => (hs6.2 b hb).trans (U5 b o hb hb2 e)
  obtain ⟨m6, hm6⟩ : ∃ m' : Str → Option Value, m' = (fun yy => if yy = Str.ofString "mail" then some (.str (y ++ (dz ++ nz)) t10) else m5 yy) := ⟨_, rfl⟩
  have F6 : Fb B L h6 m6 := by rw [hm6]; exact F6'
  have e6_k : m6 "k" = some (.int k tk_k) := by rw [hm6]; exact (put_ne (by decide +kernel)).trans e5_k
  have e6_numbers : m6 "numbers" = some (.ref aN) := by rw [hm6]; exact (put_ne (by decide +kernel)).trans e5_numbers
  have e6_times : m6 "times" = some (.int T tk_T) := by rw [hm6]; exact (put_ne (by decide +kernel)).trans e5_times
  have e6_items : m6 "items" = some (.ref aI) := by rw [hm6]; exact (put_ne (by decide +kernel)).trans e5_items
  have e6_row : m6 "row" = some (.ref aR) := by rw [hm6]; exact (put_ne (by decide +kernel)).trans e5_row
  have e6_x : m6 "x" = some (.int x t0) := by rw [hm6]; exact (put_ne (by decide +kernel)).trans e5_x
  have e6_name : m6 "name" = some (.str (itemName (itIx x)) tk1) := by rw [hm6]; exact (put_ne (by decide +kernel)).trans e5_name
  have e6_worth : m6 "worth" = some (.int (itemWorth (itIx x)) tk2) := by rw [hm6]; exact (put_ne (by decide +kernel)).trans e5_worth
  have e6_dots : m6 "dots" = some (.int (dts T x) td) := by rw [hm6]; exact (put_ne (by decide +kernel)).trans e5_dots
  have e6_mail : m6 "mail" = some (.str (y ++ (dz ++ nz)) t10) := by rw [hm6]; exact put_same
  clear hn6 hm6 hs6 F6'
  try dsimp only
  -- row += [52] * (dots // 3) + [23] * (dots % 3) + [worth]
  refine wpAny_execs_cons (wpAny_AugAssign_Name (wpAny_loadName_local rfl rfl F6.ns e6_row ?_))
  refine wpAny_BinOp (wpAny_BinOp (wpAny_BinOp (List_new (spliced_cons (wpAny_Constant_int (k := 0) (pos := ⟨0, 0, 0, 0⟩) (spliced_nil ⟨?_, fun hA aA pA kA _ => ?_⟩))))))
  · rw [sizeLine_eq]; exact (show 1 ≤ 16777216 by decide)
  have F7 := F6.kept kA
  have R7 := R6.at fun o e => kA _ o e
  have U7 : ∀ b o, b ≠ L → b ≠ aR → h.get? b = some o → hA.get? b = some o := fun b o hb hb2 e => kA _ _ (U6 b o hb hb2 e)
  try dsimp only
  refine wpAny_BinOp ?_
  refine wpAny_Name (wpAny_loadName_local rfl rfl F7.ns e6_dots ?_)
  refine wpAny_Constant_int (op_div (by decide) (by decide) fun t11 k11 => ?_)
  refine mul_plain pA (by omega) (by omega) ?_ fun hMA itsMA eMA pMA kMA _ => ?_
  · simp only [List.size_toArray, List.length_cons, List.length_nil]; omega
  try dsimp only at pMA kMA ⊢
  generalize hA.objs.size = aMA at pMA ⊢
  have F8 := F7.kept kMA
  have R8 := R7.at fun o e => kMA _ o e
  have U8 : ∀ b o, b ≠ L → b ≠ aR → h.get? b = some o → hMA.get? b = some o := fun b o hb hb2 e => kMA _ _ (U7 b o hb hb2 e)
  try dsimp only
  refine wpAny_BinOp (List_new (spliced_cons (wpAny_Constant_int (k := 0) (pos := ⟨0, 0, 0, 0⟩) (spliced_nil ⟨?_, fun hBb aBb pBb kBb _ => ?_⟩))))
  · rw [sizeLine_eq]; exact (show 1 ≤ 16777216 by decide)
  have F9 := F8.kept kBb
  have R9 := R8.at fun o e => kBb _ o e
  have U9 : ∀ b o, b ≠ L → b ≠ aR → h.get? b = some o → hBb.get? b = some o := fun b o hb hb2 e => kBb _ _ (U8 b o hb hb2 e)
  try dsimp only
  replace pMA := pMA.at fun o e => kBb _ o e
  refine wpAny_BinOp ?_
  refine wpAny_Name (wpAny_loadName_local rfl rfl F9.ns e6_dots ?_)
  refine wpAny_Constant_int (op_mod (by decide) fun t12 k12 => ?_)
  refine mul_plain pBb (by omega) (by omega) ?_ fun hMB itsMB eMB pMB kMB _ => ?_
  · simp only [List.size_toArray, List.length_cons, List.length_nil]; omega
  try dsimp only at pMB kMB ⊢
  generalize hBb.objs.size = aMB at pMB ⊢
  have F10 := F9.kept kMB
  have R10 := R9.at fun o e => kMB _ o e
  have U10 : ∀ b o, b ≠ L → b ≠ aR → h.get? b = some o → hMB.get? b = some o := fun b o hb hb2 e => kMB _ _ (U9 b o hb hb2 e)
  try dsimp only
  replace pMA := pMA.at fun o e => kMB _ o e
  have zMA : itsMA.size ≤ 2 := by rw [← Array.length_toList, eMA]; simp; omega
  have zMB : itsMB.size ≤ 2 := by rw [← Array.length_toList, eMB]; simp; omega
  refine add_plain pMA pMB (by rw [sizeLine_eq]; omega) fun hAB pAB kAB _ => ?_
  try dsimp only at pAB kAB ⊢
  generalize hMB.objs.size = aAB at pAB ⊢
  have F11 := F10.kept kAB
  have R11 := R10.at fun o e => kAB _ o e
  have U11 : ∀ b o, b ≠ L → b ≠ aR → h.get? b = some o → hAB.get? b = some o := fun b o hb hb2 e => kAB _ _ (U10 b o hb hb2 e)
  try dsimp only
  refine List_new (spliced_cons ?_)
  refine wpAny_Name (wpAny_loadName_local rfl rfl F11.ns e6_worth ?_)
  refine spliced_nil ⟨?_, fun hW aW pW kW _ => ?_⟩
  · rw [sizeLine_eq]; exact (show 1 ≤ 16777216 by decide)
  have F12 := F11.kept kW
  have R12 := R11.at fun o e => kW _ o e
  have U12 : ∀ b o, b ≠ L → b ≠ aR → h.get? b = some o → hW.get? b = some o := fun b o hb hb2 e => kW _ _ (U11 b o hb hb2 e)
  try dsimp only
  replace pAB := pAB.at fun o e => kW _ o e
  refine add_plain pAB pW (by rw [sizeLine_eq, Array.size_append]; simp only [List.size_toArray, List.length_cons, List.length_nil]; omega) fun hABC pABC kABC _ => ?_
  try dsimp only at pABC kABC ⊢
  generalize hW.objs.size = aABC at pABC ⊢
  have F13 := F12.kept kABC
  have R13 := R12.at fun o e => kABC _ o e
  have U13 : ∀ b o, b ≠ L → b ≠ aR → h.get? b = some o → hABC.get? b = some o := fun b o hb hb2 e => kABC _ _ (U12 b o hb hb2 e)
  try dsimp only
  refine iadd_plain R13 pABC (by rw [sizeLine_eq, Array.size_append, Array.size_append]; simp only [List.size_toArray, List.length_cons, List.length_nil]; omega) fun hRA RRA hsRA => ?_
  have FRA := F13.but hsRA hBR (Ne.symm hRL)
  have URA : ∀ b o, b ≠ L → b ≠ aR → h.get? b = some o → hRA.get? b = some o := fun b o hb hb2 e => (hsRA.2 b hb2).trans (U13 b o hb hb2 e)
  try dsimp only
  refine wpAny_storeName_local rfl FRA.ns fun h14 hn14 hs14 => ?_
  have F14' := FRA.set hn14 hs14
  have R14 := RRA.extBut hs14.extBut hRL
  have U14 : ∀ b o, b ≠ L → b ≠ aR → h.get? b = some o → h14.get? b = some o := fun b o hb hb2 e => (hs14.2 b hb).trans (URA b o hb hb2 e)
  obtain ⟨m14, hm14⟩ : ∃ m' : Str → Option Value, m' = (fun yy => if yy = Str.ofString "row" then some (.ref aR) else m6 yy) := ⟨_, rfl⟩
  have F14 : Fb B L h14 m14 := by rw [hm14]; exact F14'
  have e14_k : m14 "k" = some (.int k tk_k) := by rw [hm14]; exact (put_ne (by decide +kernel)).trans e6_k
  have e14_numbers : m14 "numbers" = some (.ref aN) := by rw [hm14]; exact (put_ne (by decide +kernel)).trans e6_numbers
  have e14_times : m14 "times" = some (.int T tk_T) := by rw [hm14]; exact (put_ne (by decide +kernel)).trans e6_times
  have e14_items : m14 "items" = some (.ref aI) := by rw [hm14]; exact (put_ne (by decide +kernel)).trans e6_items
  have e14_mail : m14 "mail" = some (.str (y ++ (dz ++ nz)) t10) := by rw [hm14]; exact (put_ne (by decide +kernel)).trans e6_mail
  have e14_x : m14 "x" = some (.int x t0) := by rw [hm14]; exact (put_ne (by decide +kernel)).trans e6_x
  have e14_name : m14 "name" = some (.str (itemName (itIx x)) tk1) := by rw [hm14]; exact (put_ne (by decide +kernel)).trans e6_name
  have e14_worth : m14 "worth" = some (.int (itemWorth (itIx x)) tk2) := by rw [hm14]; exact (put_ne (by decide +kernel)).trans e6_worth
  have e14_dots : m14 "dots" = some (.int (dts T x) td) := by rw [hm14]; exact (put_ne (by decide +kernel)).trans e6_dots
  have e14_row : m14 "row" = some (.ref aR) := by rw [hm14]; exact put_same
  clear hn14 hm14 hs14 F14'
  try dsimp only
  have IA : IntsAre itsMA.toList (List.replicate (dts T x / 3).toNat [52]).flatten := by rw [eMA]; exact ints_rep (.cons _ _ .nil)
  have IB : IntsAre itsMB.toList (List.replicate (dts T x % 3).toNat [23]).flatten := by rw [eMB]; exact ints_rep (.cons _ _ .nil)
  have IR : IntsAre (rits ++ (itsMA ++ itsMB ++ [Value.int (itemWorth (itIx x)) tk2].toArray)).toList (rowUp T ms k ++ ((List.replicate (dts T x / 3).toNat [52]).flatten ++ (List.replicate (dts T x % 3).toNat [23]).flatten ++ [itemWorth (itIx x)])) := by
    simp only [Array.toList_append]
    exact hr.append ((IA.append IB).append (.cons _ _ .nil))
  have IM : (y ++ (dz ++ nz)).cps.toList = mailUp ms k ++ ((List.replicate (x % 4).toNat [46]).flatten ++ nz.cps.toList) := by rw [hmz2]; simp [hy, hdot]
  have zR : (rits ++ (itsMA ++ itsMB ++ [Value.int (itemWorth (itIx x)) tk2].toArray)).size ≤ 20 * k + 5 := by simp only [Array.size_append, List.size_toArray, List.length_cons, List.length_nil]; omega
  have zM : (y ++ (dz ++ nz)).cps.size ≤ 20 * k + 6 := by rw [hmz2]; simp only [Array.size_append]; omega
  clear IA IB hmz hmz2
  generalize rits ++ (itsMA ++ itsMB ++ [Value.int (itemWorth (itIx x)) tk2].toArray) = rits1 at *
  generalize y ++ (dz ++ nz) = y1 at *
  refine wpAny_execs_cons (wpAny_If (wpAny_isTrue_Compare1 ?_ (by rfl)))
  refine wpAny_Name (wpAny_loadName_local rfl rfl F14.ns e14_k ?_)
  refine wpAny_Constant_int (wpAny_lt_int (wpAny_truthy_bool ?_))
  by_cases hk2 : k < 2
  rotate_left
  · rw [if_neg (by simp; omega)]
    refine wpAny_execs_nil (wpAny_execs_nil (hQ h14 _ m14 y1 rits1 F14 e14_numbers ⟨_, e14_times⟩ e14_items ⟨_, e14_mail⟩ e14_row R14 ?_ ?_ (by omega) (by omega) U14))
    · rw [mailUp, mailPart, if_neg hk2, ← hx, IM, ← hnze]; simp
    · rw [rowUp, rowPart, if_neg hk2, ← hx, List.append_nil]; exact IR
  rw [if_pos (by simp; omega)]
  -- mail += [...][x // 144 % 3] * (1 + x // 432 % 2)
  have hf0 : 0 ≤ x / 144 % 3 := Int.emod_nonneg _ (by decide)
  have hf3 : x / 144 % 3 < 3 := Int.emod_lt_of_pos _ (by decide)
  have hg0 : 0 ≤ x / 432 % 2 := Int.emod_nonneg _ (by decide)
  have hg2 : x / 432 % 2 < 2 := Int.emod_lt_of_pos _ (by decide)
  refine wpAny_execs_cons (wpAny_AugAssign_Name (wpAny_loadName_local rfl rfl F14.ns e14_mail ?_))
  refine wpAny_BinOp (Sub_any (List_new (spliced_cons (wpAny_Constant_str (k := 0) (pos := ⟨0, 0, 0, 0⟩) (spliced_cons (wpAny_Constant_str (k := 0) (pos := ⟨0, 0, 0, 0⟩) (spliced_cons (wpAny_Constant_str (k := 0) (pos := ⟨0, 0, 0, 0⟩) (spliced_nil ⟨?_, fun hFd aFd pFd kFd _ => ?_⟩)))))))))
  · rw [sizeLine_eq]; exact (show 3 ≤ 16777216 by decide)
  have F15 := F14.kept kFd
  have R15 := R14.at fun o e => kFd _ o e
  have U15 : ∀ b o, b ≠ L → b ≠ aR → h.get? b = some o → hFd.get? b = some o := fun b o hb hb2 e => kFd _ _ (U14 b o hb hb2 e)
  try dsimp only
  refine wpAny_BinOp (wpAny_BinOp ?_)
  refine wpAny_Name (wpAny_loadName_local rfl rfl F15.ns e14_x ?_)
  refine wpAny_Constant_int (op_div (by decide) (by decide) fun t13 k13 => wpAny_Constant_int (op_mod (by decide) fun t14 k14 => ?_))
  obtain ⟨z, tz, hz, hzf, hzl⟩ := feed_of pFd x
  refine ⟨"list", _, F.slot_list_getitem.lookup, pFd.isList.typeIs, wpAny_getItem_list pFd.isList hf0 (by omega) hz ?_⟩
  refine wpAny_BinOp (wpAny_Constant_int (wpAny_BinOp (wpAny_BinOp ?_)))
  refine wpAny_Name (wpAny_loadName_local rfl rfl F15.ns e14_x ?_)
  refine wpAny_Constant_int (op_div (by decide) (by decide) fun t15 k15 => wpAny_Constant_int (op_mod (by decide) fun t16 k16 => op_add fun t17 k17 => ?_))
  refine mul_feeds (x := x) (by omega) hzl hzf fun zz t18 k18 hzt hzzz => ?_
  have hfn := fdN_le x
  refine SB.iadd (fun t19 k19 => ?_) (by rw [sizeLine_eq]; show y1.cps.size + zz.cps.size ≤ _; omega)
  try dsimp only
  refine wpAny_storeName_local rfl F15.ns fun h16 hn16 hs16 => ?_
  have F16' := F15.set hn16 hs16
  have R16 := R15.extBut hs16.extBut hRL
  have U16 : ∀ b o, b ≠ L → b ≠ aR → h.get? b = some o → h16.get? b = some o := fun b o hb hb2 e => (hs16.2 b hb).trans (U15 b o hb hb2 e)
  obtain ⟨m16, hm16⟩ : ∃ m' : Str → Option Value, m' = (fun yy => if yy = Str.ofString "mail" then some (.str (y1 ++ zz) t19) else m14 yy) := ⟨_, rfl⟩
  have F16 : Fb B L h16 m16 := by rw [hm16]; exact F16'
  have e16_k : m16 "k" = some (.int k tk_k) := by rw [hm16]; exact (put_ne (by decide +kernel)).trans e14_k
  have e16_numbers : m16 "numbers" = some (.ref aN) := by rw [hm16]; exact (put_ne (by decide +kernel)).trans e14_numbers
  have e16_times : m16 "times" = some (.int T tk_T) := by rw [hm16]; exact (put_ne (by decide +kernel)).trans e14_times
  have e16_items : m16 "items" = some (.ref aI) := by rw [hm16]; exact (put_ne (by decide +kernel)).trans e14_items
  have e16_row : m16 "row" = some (.ref aR) := by rw [hm16]; exact (put_ne (by decide +kernel)).trans e14_row
  have e16_x : m16 "x" = some (.int x t0) := by rw [hm16]; exact (put_ne (by decide +kernel)).trans e14_x
  have e16_name : m16 "name" = some (.str (itemName (itIx x)) tk1) := by rw [hm16]; exact (put_ne (by decide +kernel)).trans e14_name
  have e16_worth : m16 "worth" = some (.int (itemWorth (itIx x)) tk2) := by rw [hm16]; exact (put_ne (by decide +kernel)).trans e14_worth
  have e16_dots : m16 "dots" = some (.int (dts T x) td) := by rw [hm16]; exact (put_ne (by decide +kernel)).trans e14_dots
  have e16_mail : m16 "mail" = some (.str (y1 ++ zz) t19) := by rw [hm16]; exact put_same
  clear hn16 hm16 hs16 F16'
  try dsimp only
  -- row += [13, 10] * (1 + x // 432 % 2)
  refine wpAny_execs_cons (wpAny_AugAssign_Name (wpAny_loadName_local rfl rfl F16.ns e16_row ?_))
  refine wpAny_BinOp (List_new (spliced_cons (wpAny_Constant_int (k := 0) (pos := ⟨0, 0, 0, 0⟩) (spliced_cons (wpAny_Constant_int (k := 0) (pos := ⟨0, 0, 0, 0⟩) (spliced_nil ⟨?_, fun hC aC pC kC _ => ?_⟩))))))
  · rw [sizeLine_eq]; exact (show 2 ≤ 16777216 by decide)
  have F17 := F16.kept kC
  have R17 := R16.at fun o e => kC _ o e
  have U17 : ∀ b o, b ≠ L → b ≠ aR → h.get? b = some o → hC.get? b = some o := fun b o hb hb2 e => kC _ _ (U16 b o hb hb2 e)
  try dsimp only
  refine wpAny_BinOp (wpAny_Constant_int (wpAny_BinOp (wpAny_BinOp ?_)))
  refine wpAny_Name (wpAny_loadName_local rfl rfl F17.ns e16_x ?_)
  refine wpAny_Constant_int (op_div (by decide) (by decide) fun t20 k20 => wpAny_Constant_int (op_mod (by decide) fun t21 k21 => op_add fun t22 k22 => ?_))
  refine mul_pairs (x := x) (by omega) pC rfl (.cons _ _ (.cons _ _ .nil)) fun hMC aMC itsMC IC zMC pMC kMC => ?_
  have F18 := F17.kept kMC
  have R18 := R17.at fun o e => kMC _ o e
  have U18 : ∀ b o, b ≠ L → b ≠ aR → h.get? b = some o → hMC.get? b = some o := fun b o hb hb2 e => kMC _ _ (U17 b o hb hb2 e)
  try dsimp only
  refine iadd_plain R18 pMC (by rw [sizeLine_eq]; omega) fun hRB RRB hsRB => ?_
  have FRB := F18.but hsRB hBR (Ne.symm hRL)
  have URB : ∀ b o, b ≠ L → b ≠ aR → h.get? b = some o → hRB.get? b = some o := fun b o hb hb2 e => (hsRB.2 b hb2).trans (U18 b o hb hb2 e)
  try dsimp only
  refine wpAny_storeName_local rfl FRB.ns fun h19 hn19 hs19 => ?_
  have F19' := FRB.set hn19 hs19
  have R19 := RRB.extBut hs19.extBut hRL
  have U19 : ∀ b o, b ≠ L → b ≠ aR → h.get? b = some o → h19.get? b = some o := fun b o hb hb2 e => (hs19.2 b hb).trans (URB b o hb hb2 e)
  obtain ⟨m19, hm19⟩ : ∃ m' : Str → Option Value, m' = (fun yy => if yy = Str.ofString "row" then some (.ref aR) else m16 yy) := ⟨_, rfl⟩
  have F19 : Fb B L h19 m19 := by rw [hm19]; exact F19'
  have e19_k : m19 "k" = some (.int k tk_k) := by rw [hm19]; exact (put_ne (by decide +kernel)).trans e16_k
  have e19_numbers : m19 "numbers" = some (.ref aN) := by rw [hm19]; exact (put_ne (by decide +kernel)).trans e16_numbers
  have e19_times : m19 "times" = some (.int T tk_T) := by rw [hm19]; exact (put_ne (by decide +kernel)).trans e16_times
  have e19_items : m19 "items" = some (.ref aI) := by rw [hm19]; exact (put_ne (by decide +kernel)).trans e16_items
  have e19_mail : m19 "mail" = some (.str (y1 ++ zz) t19) := by rw [hm19]; exact (put_ne (by decide +kernel)).trans e16_mail
  have e19_x : m19 "x" = some (.int x t0) := by rw [hm19]; exact (put_ne (by decide +kernel)).trans e16_x
  have e19_name : m19 "name" = some (.str (itemName (itIx x)) tk1) := by rw [hm19]; exact (put_ne (by decide +kernel)).trans e16_name
  have e19_worth : m19 "worth" = some (.int (itemWorth (itIx x)) tk2) := by rw [hm19]; exact (put_ne (by decide +kernel)).trans e16_worth
  have e19_dots : m19 "dots" = some (.int (dts T x) td) := by rw [hm19]; exact (put_ne (by decide +kernel)).trans e16_dots
  have e19_row : m19 "row" = some (.ref aR) := by rw [hm19]; exact put_same
  clear hn19 hm19 hs19 F19'
  try dsimp only
  refine wpAny_execs_nil (wpAny_execs_nil ?_)
  refine hQ h19 _ m19 (y1 ++ zz) (rits1 ++ itsMC) F19 e19_numbers ⟨_, e19_times⟩ e19_items ⟨_, e19_mail⟩ e19_row R19 ?_ ?_ ?_ ?_ U19
  · rw [mailUp, mailPart, if_pos hk2, ← hx, ← hnze]; show (y1.cps ++ zz.cps).toList = _; simp [IM, hzt]
  · rw [rowUp, rowPart, if_pos hk2, ← hx, Array.toList_append, ← List.append_assoc]; exact IR.append IC
  · show (y1.cps ++ zz.cps).size ≤ _; rw [Array.size_append]; omega
  · rw [Array.size_append]; omega
end
end Mine

namespace Mine
open PySem PySem.Calls PyProof.Rows
section
variable {prog : Program} {w : World} {A : Around} {E : Value → Shared → Prop} {s : Shared} {mg mb : Str → Option Value}

theorem drawn_ok {a l aF : Addr} {vs : List Value} {ns : List Int} {Q : Value → Shared → Prop} (hroom : A.depth + 10 < recursionLimit) (hA : A.handled = none) (G : Gl mg mb s.heap) (hF : FnAt s.heap a 65)
    (hIt : mg "_law_items" = some (.ref aF)) (hFI : FnAt s.heap aF 63) (hrg : mg "range" = none) (hrb : mb "range" = some (.type "range")) (hcg : mg "chr" = none) (hcb : mb "chr" = some (.builtin "chr"))
    (heg : mg "enumerate" = none) (heb : mb "enumerate" = some (.type "enumerate")) (hsg : mg "sum" = none) (hsb : mb "sum" = some (.builtin "sum"))
    (hl : s.heap.IsList l vs.toArray) (hi : IntsAre vs ns) (hsz : vs.length ≤ 63)
    (hQ : ∀ h' tk r rr y ty T tt its ms, Kept s.heap h' → h'.PlainList r #[.str y ty, .int T tt, .ref rr] → h'.PlainList rr its → IntsAre its.toList (rowUp T ms 3 ++ [0]) → y.cps.toList = mailUp ms 3 → 1 ≤ T ∧ T ≤ 3 →
      y.cps.size ≤ 60 → its.size ≤ 61 → s.heap.get? r = none → s.heap.get? rr = none → Q (.ref r) { s with heap := h', toks := tk }) :
    wpAny (model prog w) A (call (.ref a) [.ref l] []) Q E s := by
  refine fn_call (i := 65) (binds := [("script", .ref l)]) (by omega) G hF (fun _ _ _ => rfl) (fun h₁ cd F0 => ?_) (by rfl)
  generalize s.heap.objs.size = L at F0 ⊢
  -- numbers = [...]
  refine wpAny_execs_cons (wpAny_Assign_Name (List_new (spliced_cons (wpAny_Constant_int (k := 0) (pos := ⟨0, 0, 0, 0⟩) (spliced_cons (wpAny_Constant_int (k := 0) (pos := ⟨0, 0, 0, 0⟩) (spliced_cons (wpAny_Constant_int (k := 0) (pos := ⟨0, 0, 0, 0⟩) (spliced_nil ⟨by rw [sizeLine_eq]; exact (show 3 ≤ 16777216 by decide), fun h2 aN pN kN fN => ?_⟩)))))))))
  have F1 := frKept F0 kN
  have fN0 : s.heap.get? aN = none := by
    cases e : s.heap.get? aN with
    | none => rfl
    | some o => rw [F0.keep _ _ e] at fN; cases fN
  have nNL : aN ≠ L := fun e => by
    obtain ⟨o, _, _, ho, _⟩ := F0.ns
    rw [e] at fN; rw [ho] at fN; cases fN
  refine wpAny_storeName_local rfl F1.ns fun h3 hn3 hs3 => ?_
  have F2 := F1.set hn3 hs3
  have pN3 := pN.extBut hs3.extBut nNL
  dsimp only at F2 pN3 ⊢
  clear hn3 hs3 F1 pN kN fN
  -- the loop over the script
  refine wpAny_execs_cons (drawn_nums (A := A.deeper (envAt 65 L a cd)) hA G heg heb hl hi hsz F2 ?_ ?_ pN3.isList (.cons _ _ (.cons _ _ (.cons _ _ .nil))) rfl fN0 nNL fun h4 tk4 m4 its ms F4 m4n hN4 hNi h3 => ?_)
  · rw [if_neg (by decide +kernel)]; rfl
  · exact if_pos rfl
  clear pN3 F2
  -- times = 1 + sum(numbers) % 3
  refine wpAny_execs_cons (wpAny_Assign_Name (wpAny_BinOp (wpAny_Constant_int (wpAny_BinOp (wpAny_Call_NameR (ldB (G.keeps F4.keep) hsg hsb (cw1 (wpAny_Name (wpAny_loadName_local rfl rfl F4.ns m4n ?_)))))))))
  refine sum_ok (A := A.deeper (envAt 65 L a cd)) (vs := its.toList) hA (by simpa using hN4) hNi fun h5 k5 t5 kk5 => ?_
  refine wpAny_Constant_int (op_mod (by decide) fun t6 k6 => op_add fun t7 k7 => ?_)
  have hT : 1 ≤ 1 + ms.sum % 3 ∧ 1 + ms.sum % 3 ≤ 3 := by
    have h0 := Int.emod_nonneg ms.sum (show (3 : Int) ≠ 0 by decide)
    have h1 := Int.emod_lt_of_pos ms.sum (show (0 : Int) < 3 by decide)
    omega
  generalize 1 + ms.sum % 3 = T at hT ⊢
  have F5 := frKept F4 kk5
  have hN5 := hN4.at fun o e => kk5 _ o e
  have nNL5 : aN ≠ L := nNL
  try dsimp only at F5 hN5 ⊢
  clear kk5 F4 hN4
  refine wpAny_storeName_local rfl F5.ns fun h6 hn6 hs6 => ?_
  have F6 := F5.set hn6 hs6
  have hN6 := hN5.extBut hs6.extBut nNL
  try dsimp only at F6 hN6 ⊢
  clear hn6 hs6 F5 hN5
  -- items = _law_items()
  refine wpAny_execs_cons (wpAny_Assign_Name (wpAny_Call_NameR (ldG (G.keeps F6.keep) hIt (cwF0 (hFI.keeps F6.keep) (items_ok (A := A.deeper (envAt 65 L a cd)) (show A.depth + 1 + 2 < recursionLimit by omega) hA (G.keeps F6.keep) (hFI.keeps F6.keep) hrg hrb hcg hcb fun h7 k7 aI iits kk7 pI hIz hIk fI => ?_)))))
  try dsimp only at kk7 pI hIk fI ⊢
  have F7 := frKept F6 kk7
  have hN7 := hN6.at fun o e => kk7 _ o e
  have nIL : aI ≠ L := fun e => by
    obtain ⟨o, _, _, ho, _⟩ := F6.ns
    rw [e] at fI; rw [ho] at fI; cases fI
  have fI0 : s.heap.get? aI = none := by
    cases e : s.heap.get? aI with
    | none => rfl
    | some o => rw [F6.keep _ _ e] at fI; cases fI
  have hIn : ∀ k, k < 36 → ∃ T' tk1 tk2, iits[k]? = some (.ref T') ∧ h7.IsList T' #[.str (itemName k) tk1, .int (itemWorth k) tk2] ∧ T' ≠ L := fun k hk => by
    obtain ⟨T', tk1, tk2, e1, e2⟩ := hIk k hk
    refine ⟨T', tk1, tk2, e1, e2, fun e => ?_⟩
    obtain ⟨o, _, _, ho, hd, _⟩ := F7.ns
    obtain ⟨o', ho', hc', n', hd'⟩ := e2
    rw [e, ho] at ho'
    injection ho' with q
    subst q
    rw [hd] at hd'; cases hd'
  clear kk7 F6 hN6 hIk
  refine wpAny_storeName_local rfl F7.ns fun h8 hn8 hs8 => ?_
  have F8 := F7.set hn8 hs8
  have hN8 := hN7.extBut hs8.extBut nNL
  have pI8 := pI.extBut hs8.extBut nIL
  have hIn8 : ∀ k, k < 36 → ∃ T' tk1 tk2, iits[k]? = some (.ref T') ∧ h8.IsList T' #[.str (itemName k) tk1, .int (itemWorth k) tk2] ∧ T' ≠ L := fun k hk => by
    obtain ⟨T', tk1, tk2, e1, e2, e3⟩ := hIn k hk
    exact ⟨T', tk1, tk2, e1, e2.extBut hs8.extBut e3, e3⟩
  try dsimp only at F8 hN8 pI8 ⊢
  clear hn8 hs8 F7 hN7 pI hIn
  -- mail = ''
  refine wpAny_execs_cons (wpAny_Assign_Name (wpAny_Constant_str (wpAny_storeName_local rfl F8.ns fun h9 hn9 hs9 => ?_)))
  have F9 := F8.set hn9 hs9
  have hN9 := hN8.extBut hs9.extBut nNL
  have pI9 := pI8.extBut hs9.extBut nIL
  have hIn9 : ∀ k, k < 36 → ∃ T' tk1 tk2, iits[k]? = some (.ref T') ∧ h9.IsList T' #[.str (itemName k) tk1, .int (itemWorth k) tk2] ∧ T' ≠ L := fun k hk => by
    obtain ⟨T', tk1, tk2, e1, e2, e3⟩ := hIn8 k hk
    exact ⟨T', tk1, tk2, e1, e2.extBut hs9.extBut e3, e3⟩
  try dsimp only at F9 hN9 pI9 ⊢
  clear hn9 hs9 F8 hN8 pI8 hIn8
  -- row = []
  refine wpAny_execs_cons (wpAny_Assign_Name (List_new (spliced_nil ⟨by rw [sizeLine_eq]; exact (show 0 ≤ 16777216 by decide), fun h10 aR pR kR fR => ?_⟩)))
  try dsimp only at pR kR fR ⊢
  have F10 := frKept F9 kR
  have hN10 := hN9.at fun o e => kR _ o e
  have pI10 := pI9.at fun o e => kR _ o e
  have nRL : aR ≠ L := fun e => by
    obtain ⟨o, _, _, ho, _⟩ := F9.ns
    rw [e] at fR; rw [ho] at fR; cases fR
  have nRN : aR ≠ aN := fun e => by
    obtain ⟨o, ho, _⟩ := hN9
    rw [e] at fR; rw [ho] at fR; cases fR
  have nRI : aR ≠ aI := fun e => by
    obtain ⟨n', ho⟩ := pI9
    rw [e] at fR; rw [ho] at fR; cases fR
  have fR0 : s.heap.get? aR = none := by
    cases e : s.heap.get? aR with
    | none => rfl
    | some o => rw [F9.keep _ _ e] at fR; cases fR
  have hIn10 : ∀ k, k < 36 → ∃ T' tk1 tk2, iits[k]? = some (.ref T') ∧ h10.IsList T' #[.str (itemName k) tk1, .int (itemWorth k) tk2] ∧ T' ≠ L ∧ T' ≠ aR := fun k hk => by
    obtain ⟨T', tk1, tk2, e1, e2, e3⟩ := hIn9 k hk
    refine ⟨T', tk1, tk2, e1, e2.at fun o e => kR _ o e, e3, fun e => ?_⟩
    obtain ⟨o, ho, _⟩ := e2
    rw [← e] at fR; rw [ho] at fR; cases fR
  clear kR F9 hN9 pI9 hIn9 fR
  refine wpAny_storeName_local rfl F10.ns fun h11 hn11 hs11 => ?_
  have F11 := F10.set hn11 hs11
  have hN11 := hN10.extBut hs11.extBut nNL
  have pI11 := pI10.extBut hs11.extBut nIL
  have pR11 := pR.extBut hs11.extBut nRL
  have hIn11 : ∀ k, k < 36 → ∃ T' tk1 tk2, iits[k]? = some (.ref T') ∧ h11.IsList T' #[.str (itemName k) tk1, .int (itemWorth k) tk2] ∧ T' ≠ L ∧ T' ≠ aR := fun k hk => by
    obtain ⟨T', tk1, tk2, e1, e2, e3, e4⟩ := hIn10 k hk
    exact ⟨T', tk1, tk2, e1, e2.extBut hs11.extBut e3, e3, e4⟩
  try dsimp only at F11 hN11 pI11 pR11 ⊢
  clear hn11 hs11 F10 hN10 pI10 pR hIn10
  -- for k in range(3)
  refine wpAny_execs_cons (wpAny_For (range1_it (G.keeps F11.keep) hrg hrb (wpAny_Constant_int ⟨3, _, rfl, by decide, by decide, fun I h12 k12 kk12 fI12 hIlt hit => ?_⟩)))
  try dsimp only at kk12 fI12 ⊢
  have F12 := frKept F11 kk12
  have nIrL : I ≠ L := fun e => by
    obtain ⟨o, _, _, ho, _⟩ := F11.ns
    rw [e] at fI12; rw [ho] at fI12; cases fI12
  have nIrR : I ≠ aR := fun e => by
    obtain ⟨n', ho⟩ := pR11
    rw [e] at fI12; rw [ho] at fI12; cases fI12
  have nIrN : aN ≠ I := fun e => by
    obtain ⟨o, ho, _⟩ := hN11
    rw [← e] at fI12; rw [ho] at fI12; cases fI12
  have nIrI : aI ≠ I := fun e => by
    obtain ⟨n', ho⟩ := pI11
    rw [← e] at fI12; rw [ho] at fI12; cases fI12
  have fI0' : s.heap.get? I = none := by
    cases e : s.heap.get? I with
    | none => rfl
    | some o => rw [F11.keep _ _ e] at fI12; cases fI12
  have fL0 : s.heap.get? L = none := by
    cases e : s.heap.get? L with
    | none => rfl
    | some o => exact absurd (Heap.lt_size e) (Nat.not_lt.mpr F11.above)
  have out : ∀ b : Nat, b ≠ L → b ≠ aR → b ≠ I → b ∉ [L, aR, I] := fun b h1 h2 h3 hm => by
    rcases List.mem_cons.mp hm with q | hm
    · exact h1 q
    · rcases List.mem_cons.mp hm with q | hm
      · exact h2 q
      · exact h3 (List.mem_singleton.mp hm)
  obtain ⟨B, hB⟩ : ∃ B, B = goneL h12 [L, aR, I] := ⟨_, rfl⟩
  have BL : B.get? L = none := by rw [hB]; exact goneL_in (by simp)
  have BR : B.get? aR = none := by rw [hB]; exact goneL_in (by simp)
  have BI : B.get? I = none := by rw [hB]; exact goneL_in (by simp)
  have Bo : ∀ b o, b ≠ L → b ≠ aR → b ≠ I → h12.get? b = some o → B.get? b = some o := fun b o h1 h2 h3 e => by rw [hB]; exact (goneL_out (out b h1 h2 h3)).trans e
  have Bk : Kept B h12 := by rw [hB]; exact goneL_keeps _ _
  clear hB out
  have hNB : B.IsList aN its := (hN11.at fun o e => kk12 _ o e).at fun o e => Bo _ o nNL (Ne.symm nRN) nIrN e
  have hIB : ItemsAt B aI := by
    refine ⟨iits, (pI11.at fun o e => kk12 _ o e).at fun o e => Bo _ o nIL (Ne.symm nRI) nIrI e, hIz, fun k hk => ?_⟩
    obtain ⟨T', tk1, tk2, e1, e2, e3, e4⟩ := hIn11 k hk
    refine ⟨T', tk1, tk2, e1, e2.at fun o e => Bo _ o e3 e4 (fun q => ?_) (kk12 _ o e)⟩
    rw [← q] at fI12; rw [e] at fI12; cases fI12
  have kB : Kept s.heap B := fun b o e => Bo b o (fun q => by rw [q, fL0] at e; cases e) (fun q => by rw [q, fR0] at e; cases e) (fun q => by rw [q, fI0'] at e; cases e) (F12.keep b o e)
  have FB : Fb B L h12 _ := ⟨F12.ns, Bk, BL⟩
  have pR12 := pR11.at fun o e => kk12 _ o e
  clear kk12 F12 F11 Bk Bo hIn11 hN11 pI11 pR11
  have W := walks_range (prog := prog) (w := w) (A := A.deeper (envAt 65 L a cd)) hA I 0 1 3
  refine codeAny_forLoop (fun n s' => ∃ (i : Nat) (h : Heap) (tk : Nat) (m : Str → Option Value) (y : Str) (rits : Array Value), n = 4 - i ∧ i ≤ 3 ∧ s' = { s with heap := h, toks := tk } ∧ Fb B L h m ∧ m "numbers" = some (.ref aN) ∧ (∃ t, m "times" = some (.int T t)) ∧ m "items" = some (.ref aI) ∧
      (∃ t, m "mail" = some (.str y t)) ∧ m "row" = some (.ref aR) ∧ h.PlainList aR rits ∧ y.cps.toList = mailUp ms i ∧ IntsAre rits.toList (rowUp T ms i) ∧ y.cps.size ≤ 20 * i ∧ rits.size ≤ 20 * i ∧ StRange 3 I 0 1 i h) ?_ 4
    ⟨0, h12, _, _, Str.ofString "", _, rfl, by decide, rfl, FB, ?_, ⟨t7, ?_⟩, ?_, ⟨k7 + 1, ?_⟩, put_same, pR12, rfl, .nil, by decide, by decide, hit⟩
  rotate_left
  · try dsimp only
    rw [if_neg (by decide +kernel), if_neg (by decide +kernel), if_neg (by decide +kernel), if_neg (by decide +kernel)]; exact m4n
  · try dsimp only
    rw [if_neg (by decide +kernel), if_neg (by decide +kernel), if_neg (by decide +kernel), if_pos rfl]
  · try dsimp only
    rw [if_neg (by decide +kernel), if_neg (by decide +kernel), if_pos rfl]
  · try dsimp only
    rw [if_neg (by decide +kernel), if_pos rfl]
  clear pR12 FB hit m4n
  rintro n s' ⟨i, h, tk, m, y, rits, rfl, hi3, rfl, F, mN, ⟨tT, mT⟩, mI, ⟨tM, mM⟩, mR, pR, hy, hr, zy, zr, hst⟩
  have hw1 : ∀ b ∈ [I], B.get? b = none := one_none BI
  have hL1 : L ∉ [I] := fun hm => nIrL (List.mem_singleton.mp hm).symm
  have hR1 : aR ∉ [I] := fun hm => nIrR (List.mem_singleton.mp hm).symm
  by_cases hlt : i < 3
  · refine W.item i _ _ _ hlt hst fun v h1 tk1 hP hst1 hk1 => ?_
    obtain ⟨_, ti, rfl⟩ := hP
    have ei : (0 + (i : Int) * 1) = i := by omega
    rw [ei]
    have F1 := F.out hL1 hw1 hk1
    have pR1 := pR.at fun o e => hk1 _ o hR1 e
    refine wpAny_assign_Name (wpAny_storeName_local rfl F1.ns fun h2 hn2 hs2 => ?_)
    have F2 := F1.set hn2 hs2
    have pR2 := pR1.extBut hs2.extBut nRL
    have hst2 : StRange 3 I 0 1 (i + 1) h2 := hs2.extBut _ _ nIrL hst1
    try dsimp only at F2 pR2 hst2 ⊢
    refine drawn_body (A := A.deeper (envAt 65 L a cd)) hA F2 ⟨ti, put_same⟩ hlt ((put_ne (by decide +kernel)).trans mN) ⟨tT, (put_ne (by decide +kernel)).trans mT⟩ hT ((put_ne (by decide +kernel)).trans mI) ⟨tM, (put_ne (by decide +kernel)).trans mM⟩ ((put_ne (by decide +kernel)).trans mR) hNB hNi h3 hIB pR2 BR nRL hy hr zy zr
      fun h' tk' m' y' rits' F' mN' mT' mI' mM' mR' pR' hy' hr' zy' zr' U => ?_
    exact ⟨4 - (i + 1), by omega, i + 1, h', tk', m', y', rits', rfl, hlt, rfl, F', mN', mT', mI', mM', mR', pR', hy', hr', zy', zr', U _ _ nIrL nIrR hst2⟩
  · have hin : i = 3 := by omega
    subst hin
    refine W.done _ _ _ hst fun h1 tk1 hk1 => wpAny_execs_nil ?_
    have F1 := F.out hL1 hw1 hk1
    have pR1 := pR.at fun o e => hk1 _ o hR1 e
    -- return [mail, times, row + [0]]
    refine wpAny_execs_cons (wpAny_Return_some (List_new (spliced_cons ?_)))
    refine wpAny_Name (wpAny_loadName_local rfl rfl F1.ns mM (spliced_cons ?_))
    refine wpAny_Name (wpAny_loadName_local rfl rfl F1.ns mT (spliced_cons ?_))
    refine wpAny_BinOp (wpAny_Name (wpAny_loadName_local rfl rfl F1.ns mR ?_))
    refine List_new (spliced_cons (wpAny_Constant_int (k := 0) (pos := ⟨0, 0, 0, 0⟩) (spliced_nil ⟨by rw [sizeLine_eq]; exact (show 1 ≤ 16777216 by decide), fun h2 a0 p0 k0 f0 => ?_⟩)))
    refine add_plain (pR1.at fun o e => k0 _ o e) p0 (by rw [sizeLine_eq]; simp only [List.size_toArray, List.length_cons, List.length_nil]; omega) fun h3 pA kA _ => ?_
    refine spliced_nil ⟨by rw [sizeLine_eq]; exact (show 3 ≤ 16777216 by decide), fun h4 r pr kr fr => ?_⟩
    try dsimp only at k0 kA kr fr pA ⊢
    have kk : Kept B h4 := F1.keep.trans (k0.trans (kA.trans kr))
    refine hQ h4 _ r _ y tM T tT _ ms (kB.trans kk) pr (pA.at fun o e => kr _ o e) ?_ hy hT zy ?_ ?_ ?_
    · rw [Array.toList_append]; exact hr.append (.cons _ _ .nil)
    · simp only [Array.size_append, List.size_toArray, List.length_cons, List.length_nil]; omega
    · cases e : s.heap.get? r with
      | none => rfl
      | some o => rw [kA _ _ (k0 _ _ (F1.keep _ _ (kB _ _ e)))] at fr; cases fr
    · cases e : s.heap.get? h2.objs.size with
      | none => rfl
      | some o => exact absurd (Heap.lt_size (k0 _ _ (F1.keep _ _ (kB _ _ e)))) (Nat.lt_irrefl _)
end
end Mine

namespace Mine
open PySem PySem.Calls PyProof.Rows

/-- the numbers that the text's names stand for -/
def topInts : List (Str × Int) := PySem.Challenge.pw_sw0023_01.main.body.filterMap fun st => match st with
  | Stmt.Assign [Expr.Name x _] (Expr.Constant (Const.int k) _ _) _ => some (x, k)
  | _ => none
def topInt (x : Str) : Int := ((topInts.find? fun p => decide (p.1 = x)).map (·.2)).getD 0
def keyStr : Option Expr → Str
  | some (Expr.Constant (Const.str x) _ _) => x
  | _ => default
def valInt : Expr → Int
  | Expr.Name x _ => topInt x
  | _ => 0
/-- the text's table of operators -/
def tab : List (Str × Int) := (PySem.Challenge.pw_sw0023_01.main.body.findSome? fun st => match st with
  | Stmt.Assign _ (Expr.Dict ks vs _) _ => some ((ks.zip vs).map fun p => (keyStr p.1, valInt p.2))
  | _ => none).getD []

def has (cs : List Nat) : Bool := W.kdpHas tab ⟨cs.toArray⟩
def look (cs : List Nat) (d : Int) : Int := W.kdpLook tab ⟨cs.toArray⟩ d
/-- how long the next sign is -/
def stepN (cs : List Nat) : Nat := if has (cs.take 3) then 3 else if has (cs.take 2) then 2 else 1
def stepV (cs : List Nat) : Int := look (cs.take (stepN cs)) (cs.headD 0)
def lex : Nat → List Nat → List Int
  | 0, _ => []
  | _ + 1, [] => []
  | n + 1, c :: r => stepV (c :: r) :: lex n ((c :: r).drop (stepN (c :: r)))
theorem stepN_pos (cs : List Nat) : 1 ≤ stepN cs := by unfold stepN; split <;> (try split) <;> omega

/-- the keys as code lists -/
def keyL : List (List Nat) := tab.map fun p => p.1.cps.toList
theorem has_mem {cs : List Nat} (h : has cs = true) : cs ∈ keyL := by
  unfold has W.kdpHas at h
  obtain ⟨p, hp, e⟩ := List.any_eq_true.mp h
  have e' : p.1 = ⟨cs.toArray⟩ := by simpa using e
  exact List.mem_map.mpr ⟨p, hp, by rw [e']⟩
theorem keys_plain : ∀ k ∈ keyL, (13 ∉ k ∧ 10 ∉ k) ∧ (k.head? = some 46 → k = [46] ∨ k = [46, 46, 46]) ∧ k ≠ [] := by decide +kernel
theorem has_not {cs : List Nat} (h : 13 ∈ cs ∨ 10 ∈ cs) : has cs = false := by
  cases e : has cs with
  | false => rfl
  | true =>
    have := (keys_plain cs (has_mem e)).1
    rcases h with h | h
    · exact absurd h this.1
    · exact absurd h this.2
theorem look_not {cs : List Nat} {d : Int} (h : has cs = false) : look cs d = d := by
  unfold has W.kdpHas at h
  unfold look W.kdpLook
  have : (tab.find? fun p => decide (p.1 = ⟨cs.toArray⟩)) = none := by
    rw [List.find?_eq_none]
    intro p hp e
    have := List.any_eq_false.mp h p hp
    exact this e
  rw [this]; rfl
/-- a return or a feed -/
theorem step_end {c : Nat} {r : List Nat} (h : c = 13 ∨ c = 10) : stepN (c :: r) = 1 ∧ stepV (c :: r) = c := by
  have hm : ∀ k, 0 < k → 13 ∈ (c :: r).take k ∨ 10 ∈ (c :: r).take k := fun k hk => by
    cases k with
    | zero => omega
    | succ k =>
      rw [List.take_succ_cons]
      rcases h with rfl | rfl
      · exact .inl List.mem_cons_self
      · exact .inr List.mem_cons_self
  have e1 : stepN (c :: r) = 1 := by
    unfold stepN
    rw [has_not (hm 3 (by omega)), has_not (hm 2 (by omega))]
    rfl
  refine ⟨e1, ?_⟩
  unfold stepV
  rw [e1, look_not (has_not (hm 1 (by omega)))]
  rfl
end Mine

namespace Mine
open PySem PySem.Calls PyProof.Rows

def Lexes (cs : List Nat) (out : List Int) : Prop := ∀ n, cs.length ≤ n → lex n cs = out
theorem Lexes.nil : Lexes [] [] := fun n _ => by cases n <;> rfl
theorem Lexes.step {c : Nat} {r : List Nat} {k : Nat} {v : Int} {out : List Int} (hk : stepN (c :: r) = k) (hv : stepV (c :: r) = v) (h : Lexes ((c :: r).drop k) out) : Lexes (c :: r) (v :: out) := fun n hn => by
  cases n with
  | zero => simp at hn
  | succ n =>
    show stepV (c :: r) :: lex n ((c :: r).drop (stepN (c :: r))) = _
    rw [hv, hk, h n]
    have := stepN_pos (c :: r)
    rw [hk] at this
    rw [List.length_drop, List.length_cons]
    rw [List.length_cons] at hn
    omega
theorem Lexes.line {c : Nat} {r : List Nat} {out : List Int} (h : c = 13 ∨ c = 10) (hr : Lexes r out) : Lexes (c :: r) ((c : Int) :: out) :=
  Lexes.step (step_end h).1 (step_end h).2 hr
theorem has3 : has [46, 46, 46] = true ∧ look [46, 46, 46] 46 = 52 ∧ look [46] 46 = 23 := by decide +kernel
theorem not_dot {cs : List Nat} (h1 : cs.head? = some 46) (h2 : cs ≠ [46]) (h3 : cs ≠ [46, 46, 46]) : has cs = false := by
  cases e : has cs with
  | false => rfl
  | true =>
    rcases (keys_plain cs (has_mem e)).2.1 h1 with q | q
    · exact absurd q h2
    · exact absurd q h3
theorem dot_one {r : List Nat} (h3 : (46 :: r).take 3 ≠ [46, 46, 46]) (h2 : r ≠ []) : stepN (46 :: r) = 1 ∧ stepV (46 :: r) = 23 := by
  have e1 : stepN (46 :: r) = 1 := by
    cases r with
    | nil => exact absurd rfl h2
    | cons d r =>
      unfold stepN
      rw [not_dot (by rfl) (by simp) h3, not_dot (cs := (46 :: d :: r).take 2) (by rfl) (by simp) (by simp)]
      rfl
  refine ⟨e1, ?_⟩
  unfold stepV
  rw [e1]
  exact has3.2.2
theorem Lexes.dots {c : Nat} {r : List Nat} {out : List Int} (hc : c ≠ 46) (h : Lexes (c :: r) out) : ∀ n, Lexes (List.replicate n 46 ++ c :: r) (List.replicate (n / 3) 52 ++ List.replicate (n % 3) 23 ++ out)
  | 0 => by simpa using h
  | 1 => by
    have := dot_one (r := c :: r) (by cases r <;> simp [hc]) (by simp)
    exact Lexes.step this.1 this.2 h
  | 2 => by
    have h1 := dot_one (r := c :: r) (by cases r <;> simp [hc]) (by simp)
    have h2 := dot_one (r := 46 :: c :: r) (by simp [hc]) (by simp)
    exact Lexes.step h2.1 h2.2 (Lexes.step h1.1 h1.2 h)
  | n + 3 => by
    have ih := Lexes.dots hc h n
    have e1 : (n + 3) / 3 = n / 3 + 1 := by omega
    have e2 : (n + 3) % 3 = n % 3 := by omega
    rw [e1, e2]
    have hs : stepN (46 :: 46 :: 46 :: (List.replicate n 46 ++ c :: r)) = 3 := by
      unfold stepN
      rw [show (46 :: 46 :: 46 :: (List.replicate n 46 ++ c :: r)).take 3 = [46, 46, 46] from rfl, has3.1]; rfl
    have hv : stepV (46 :: 46 :: 46 :: (List.replicate n 46 ++ c :: r)) = 52 := by
      unfold stepV
      rw [hs]; exact has3.2.1
    exact Lexes.step hs hv ih
def nameL (k : Nat) : List Nat := (itemName k).cps.toList
theorem names_ok : ∀ k < 36, (nameL k ≠ [] ∧ (nameL k).length ≤ 3) ∧ look (nameL k) ((nameL k).headD 0) = itemWorth k ∧ ((nameL k).length ≠ 1 → has (nameL k) = true) ∧ ((nameL k).headD 0 ≠ 46 ∧ 13 ∉ nameL k ∧ 10 ∉ nameL k) := by decide +kernel
end Mine

namespace Mine
open PySem PySem.Calls PyProof.Rows

theorem Lexes.name {k : Nat} (hk : k < 36) {r : List Nat} {out : List Int} (hr : r = [] ∨ ∃ r', r = 13 :: r') (h : Lexes r out) : Lexes (nameL k ++ r) (itemWorth k :: out) := by
  obtain ⟨⟨h0, h3⟩, hl, hh, -⟩ := names_ok k hk
  generalize nameL k = nm at h0 h3 hl hh
  generalize itemWorth k = wv at hl
  match nm, h0, h3, hl, hh with
  | [c], _, _, hl, hh =>
    rcases hr with rfl | ⟨r', rfl⟩
    · show Lexes [c] (wv :: out)
      by_cases hc : has [c] = true
      · have hs : stepN [c] = 3 := by
          unfold stepN
          rw [if_pos (show has (List.take 3 [c]) = true from hc)]
        have hv : stepV [c] = wv := by unfold stepV; rw [hs]; exact hl
        exact Lexes.step hs hv h
      · have hs : stepN [c] = 1 := by
          unfold stepN
          rw [if_neg (show ¬ has (List.take 3 [c]) = true from hc), if_neg (show ¬ has (List.take 2 [c]) = true from hc)]
        have hv : stepV [c] = wv := by unfold stepV; rw [hs]; exact hl
        exact Lexes.step hs hv h
    · show Lexes (c :: 13 :: r') (wv :: out)
      have hs : stepN (c :: 13 :: r') = 1 := by
        unfold stepN
        rw [has_not (cs := (c :: 13 :: r').take 3) (.inl (by simp)), has_not (cs := (c :: 13 :: r').take 2) (.inl (by simp))]; rfl
      have hv : stepV (c :: 13 :: r') = wv := by unfold stepV; rw [hs]; exact hl
      exact Lexes.step hs hv h
  | [c, d], _, _, hl, hh =>
    have hc := hh (by simp)
    rcases hr with rfl | ⟨r', rfl⟩
    · show Lexes [c, d] (wv :: out)
      have hs : stepN [c, d] = 3 := by
        unfold stepN
        rw [if_pos (show has (List.take 3 [c, d]) = true from hc)]
      have hv : stepV [c, d] = wv := by unfold stepV; rw [hs]; exact hl
      exact Lexes.step hs hv h
    · show Lexes (c :: d :: 13 :: r') (wv :: out)
      have hs : stepN (c :: d :: 13 :: r') = 2 := by
        unfold stepN
        rw [has_not (cs := (c :: d :: 13 :: r').take 3) (.inl (by simp)), if_neg (by simp), if_pos (show has (List.take 2 (c :: d :: 13 :: r')) = true from hc)]
      have hv : stepV (c :: d :: 13 :: r') = wv := by unfold stepV; rw [hs]; exact hl
      exact Lexes.step hs hv h
  | [c, d, e], _, _, hl, hh =>
    have hc := hh (by simp)
    show Lexes (c :: d :: e :: r) (wv :: out)
    have hs : stepN (c :: d :: e :: r) = 3 := by
      unfold stepN
      rw [if_pos (show has (List.take 3 (c :: d :: e :: r)) = true from hc)]
    have hv : stepV (c :: d :: e :: r) = wv := by unfold stepV; rw [hs]; exact hl
    exact Lexes.step hs hv h
  | _ :: _ :: _ :: _ :: _, _, h3, _, _ => simp at h3

/-- what is sent of one row -/
def sentPart (T : Int) (k : Nat) (x : Int) : List Nat := List.replicate (dts T x).toNat 46 ++ nameL (itIx x) ++ (if k < 2 then (List.replicate (fdN x) [13, 10]).flatten else [])
theorem Lexes.feeds {r : List Nat} {out : List Int} (h : Lexes r out) : ∀ n, Lexes ((List.replicate n [13, 10]).flatten ++ r) ((List.replicate n [13, 10]).flatten ++ out)
  | 0 => by simpa using h
  | n + 1 => by
    have ih := Lexes.feeds h n
    rw [List.replicate_succ, List.replicate_succ, List.flatten_cons, List.flatten_cons]
    exact Lexes.line (.inl rfl) (Lexes.line (.inr rfl) ih)
theorem rep1 {α : Type} (n : Nat) (a : α) : (List.replicate n [a]).flatten = List.replicate n a := by
  induction n with
  | zero => rfl
  | succ n ih => rw [List.replicate_succ, List.flatten_cons, ih, List.replicate_succ]; rfl
theorem Lexes.row {T : Int} (hT : 1 ≤ T ∧ T ≤ 3) (k : Nat) (x : Int) {r : List Nat} {out : List Int} (hr : k < 2 ∨ r = []) (h : Lexes r out) : Lexes (sentPart T k x ++ r) (rowPart T k x ++ out) := by
  have hk := itIx_lt x
  have hd0 : 0 ≤ dts T x := by unfold dts; split <;> omega
  have hn : ∀ r' out', (r' = [] ∨ ∃ r'', r' = 13 :: r'') → Lexes r' out' →
      Lexes (List.replicate (dts T x).toNat 46 ++ (nameL (itIx x) ++ r')) (List.replicate (dts T x / 3).toNat 52 ++ List.replicate (dts T x % 3).toNat 23 ++ (itemWorth (itIx x) :: out')) := by
    intro r' out' hr' h'
    obtain ⟨⟨h0, _⟩, _, _, h46, _⟩ := names_ok (itIx x) hk
    have hname := Lexes.name hk hr' h'
    have e3 : (dts T x / 3).toNat = (dts T x).toNat / 3 := by omega
    have e4 : (dts T x % 3).toNat = (dts T x).toNat % 3 := by omega
    rw [e3, e4]
    cases hnm : nameL (itIx x) with
    | nil => exact absurd hnm h0
    | cons c cs =>
      rw [hnm] at h46 hname
      exact Lexes.dots h46 hname _
  unfold sentPart rowPart
  rw [rep1, rep1]
  by_cases hk2 : k < 2
  · rw [if_pos hk2, if_pos hk2]
    have := hn ((List.replicate (fdN x) [13, 10]).flatten ++ r) _ (.inr ?_) (Lexes.feeds h (fdN x))
    · simpa using this
    · have : ∃ n, fdN x = n + 1 := ⟨fdN x - 1, by unfold fdN; omega⟩
      obtain ⟨n, e⟩ := this
      rw [e, List.replicate_succ, List.flatten_cons]
      exact ⟨_, rfl⟩
  · rw [if_neg hk2, if_neg hk2]
    have hr0 : r = [] := hr.resolve_left hk2
    have := hn r out (.inl hr0) h
    simpa using this
def sentUp (T : Int) (ms : List Int) : Nat → List Nat
  | 0 => []
  | k + 1 => sentUp T ms k ++ sentPart T k (ms.getD k 0)
theorem lex_sent {T : Int} (hT : 1 ≤ T ∧ T ≤ 3) (ms : List Int) : Lexes (sentUp T ms 3) (rowUp T ms 3) := by
  have h2 := Lexes.row hT 2 (ms.getD 2 0) (r := []) (.inr rfl) Lexes.nil
  have h1 := Lexes.row hT 1 (ms.getD 1 0) (.inl (by decide)) h2
  have h0 := Lexes.row hT 0 (ms.getD 0 0) (.inl (by decide)) h1
  have e1 : sentUp T ms 3 = sentPart T 0 (ms.getD 0 0) ++ (sentPart T 1 (ms.getD 1 0) ++ (sentPart T 2 (ms.getD 2 0) ++ [])) := by simp [sentUp]
  have e2 : rowUp T ms 3 = rowPart T 0 (ms.getD 0 0) ++ (rowPart T 1 (ms.getD 1 0) ++ (rowPart T 2 (ms.getD 2 0) ++ [])) := by simp [rowUp]
  rw [e1, e2]; exact h0
end Mine

namespace Mine
open PySem PySem.Calls PyProof.Rows

structure Row1 where
  n : Nat
  ix : Nat
  m : Nat
  f : List Nat
def Row1.text (r : Row1) : List Nat := List.replicate r.n 46 ++ nameL r.ix ++ (List.replicate r.m r.f).flatten
def segs : List Row1 → List Nat
  | [] => []
  | r :: l => r.text ++ segs l
def Row1.Ok (r : Row1) : Prop := r.ix < 36 ∧ (r.f = [10] ∨ r.f = [13] ∨ r.f = [13, 10])
def OkL : List Row1 → Prop
  | [] => True
  | r :: l => r.Ok ∧ (l = [] ∨ 1 ≤ r.m) ∧ OkL l
def Row1.up (r : Row1) : Row1 := ⟨if r.n = 0 then 0 else r.n + 1, r.ix, r.m, [13, 10]⟩
def Row1.mid (r : Row1) : Row1 := { r with f := [13, 10] }

theorem crlf_head {b : Bool} {l : List Nat} (h : l.head? ≠ some 10) : crlfF b l = crlfF false l := by
  cases l with
  | nil => rfl
  | cons c r =>
    have hc : c ≠ 10 := fun e => h (by rw [e]; rfl)
    simp [crlfF, hc]
theorem crlf_pl : ∀ (p : List Nat) (b : Bool) (r : List Nat), p ≠ [] → 13 ∉ p → 10 ∉ p → crlfF b (p ++ r) = p ++ crlfF false r
  | [], b, r, h, _, _ => absurd rfl h
  | [c], b, r, _, h13, h10 => by
    have h1 : c ≠ 10 := fun e => h10 (by simp [e])
    have h2 : c ≠ 13 := fun e => h13 (by simp [e])
    simp [crlfF, h1, h2]
  | c :: d :: p, b, r, _, h13, h10 => by
    have h1 : c ≠ 10 := fun e => h10 (by simp [e])
    have h2 : c ≠ 13 := fun e => h13 (by simp [e])
    have ih := crlf_pl (d :: p) false r (by simp) (fun hm => h13 (List.mem_cons_of_mem _ hm)) (fun hm => h10 (List.mem_cons_of_mem _ hm))
    show crlfF b (c :: (d :: p ++ r)) = _
    rw [crlfF, if_neg h1, if_neg h2, ih]; rfl
theorem crlf_feeds {f : List Nat} (hf : f = [10] ∨ f = [13] ∨ f = [13, 10]) {r : List Nat} (hr : r.head? ≠ some 10) : ∀ (m : Nat) (b : Bool), b = false ∨ (f ≠ [10]) → m ≠ 0 ∨ b = false → crlfF b ((List.replicate m f).flatten ++ r) = (List.replicate m [13, 10]).flatten ++ crlfF false r
  | 0, b, hb, hm => by
    have : b = false := by rcases hm with h | h; exact absurd rfl h; exact h
    subst this; simp
  | m + 1, b, hb, _ => by
    rw [List.replicate_succ, List.replicate_succ, List.flatten_cons, List.flatten_cons, List.append_assoc]
    rcases hf with rfl | rfl | rfl
    · have hb' : b = false := by rcases hb with h | h; exact h; exact absurd rfl h
      subst hb'
      have ih := crlf_feeds (.inl rfl) hr m false (.inl rfl) (.inr rfl)
      simp only [List.cons_append, List.nil_append, crlfF, if_true, if_false, Bool.false_eq_true]
      rw [ih]
    · have ih := crlf_feeds (.inr (.inl rfl)) hr m false (.inl rfl) (.inr rfl)
      have hh : ((List.replicate m [13]).flatten ++ r).head? ≠ some 10 := by
        cases m with
        | zero => simpa using hr
        | succ m => simp [List.replicate_succ]
      simp only [List.cons_append, List.nil_append, crlfF, show ((13 : Nat) = 10) = False from by simp, if_true, if_false]
      rw [crlf_head hh, ih]
    · have ih := crlf_feeds (.inr (.inr rfl)) hr m false (.inl rfl) (.inr rfl)
      simp only [List.cons_append, List.nil_append, crlfF, show ((13 : Nat) = 10) = False from by simp, if_true, if_false]
      rw [ih]
theorem plain_ok {r : Row1} (h : r.Ok) : List.replicate r.n 46 ++ nameL r.ix ≠ [] ∧ 13 ∉ List.replicate r.n 46 ++ nameL r.ix ∧ 10 ∉ List.replicate r.n 46 ++ nameL r.ix ∧ (List.replicate r.n 46 ++ nameL r.ix).head? ≠ some 10 := by
  obtain ⟨⟨h0, _⟩, _, _, _, h13, h10⟩ := names_ok r.ix h.1
  have a10 : 10 ∉ List.replicate r.n 46 ++ nameL r.ix := fun hm => by
    rcases List.mem_append.mp hm with q | q
    · exact absurd (List.eq_of_mem_replicate q) (by decide)
    · exact h10 q
  refine ⟨fun e => h0 (List.append_eq_nil_iff.mp e).2, fun hm => ?_, a10, fun e => a10 (List.mem_of_mem_head? e)⟩
  rcases List.mem_append.mp hm with q | q
  · exact absurd (List.eq_of_mem_replicate q) (by decide)
  · exact h13 q
theorem segs_head {l : List Row1} (h : OkL l) : (segs l).head? ≠ some 10 := by
  cases l with
  | nil => simp [segs]
  | cons r l =>
    obtain ⟨h0, h13, h10, hh⟩ := plain_ok h.1
    show (r.text ++ segs l).head? ≠ _
    unfold Row1.text
    cases e : List.replicate r.n 46 ++ nameL r.ix with
    | nil => exact absurd e h0
    | cons c p => rw [e] at hh; simpa using hh
theorem crlf_segs : ∀ (l : List Row1), OkL l → crlfF false (segs l) = segs (l.map Row1.mid)
  | [], _ => rfl
  | r :: l, h => by
    obtain ⟨h0, h13, h10, _⟩ := plain_ok h.1
    show crlfF false (List.replicate r.n 46 ++ nameL r.ix ++ (List.replicate r.m r.f).flatten ++ segs l) = _
    rw [List.append_assoc, crlf_pl _ false _ h0 h13 h10, crlf_feeds h.1.2 (segs_head h.2.2) r.m false (.inl rfl) (.inr rfl), crlf_segs l h.2.2, ← List.append_assoc]
    rfl
theorem dot_plain : ∀ (p r : List Nat), 10 ∉ p → dot1 false (p ++ r) = p ++ dot1 false r
  | [], r, _ => rfl
  | c :: p, r, h => by
    have hc : (c == 10) = false := by simpa using fun e => h (by simp [e])
    show (if (false && c == 46) = true then [46, 46] else [c]) ++ dot1 (c == 10) (p ++ r) = _
    rw [hc, dot_plain p r fun hm => h (List.mem_cons_of_mem _ hm)]; rfl
theorem dot_feeds (r : List Nat) : ∀ m, m ≠ 0 → ∀ b, dot1 b ((List.replicate m [13, 10]).flatten ++ r) = (List.replicate m [13, 10]).flatten ++ dot1 true r
  | 0, h, _ => absurd rfl h
  | 1, _, b => by cases b <;> simp [dot1]
  | m + 2, _, b => by
    have ih := dot_feeds r (m + 1) (by omega) true
    rw [List.replicate_succ, List.flatten_cons, List.append_assoc]
    have : dot1 b ([13, 10] ++ ((List.replicate (m + 1) [13, 10]).flatten ++ r)) = [13, 10] ++ dot1 true ((List.replicate (m + 1) [13, 10]).flatten ++ r) := by cases b <;> simp [dot1]
    rw [this, ih, List.append_assoc]
theorem dot_row {r : Row1} (h : r.Ok) (t : List Nat) : dot1 true (List.replicate r.n 46 ++ nameL r.ix ++ t) = List.replicate r.up.n 46 ++ nameL r.ix ++ dot1 false t := by
  obtain ⟨⟨h0, _⟩, _, _, h46, _, h10⟩ := names_ok r.ix h.1
  obtain ⟨_, _, p10, _⟩ := plain_ok h
  unfold Row1.up
  cases hn : r.n with
  | zero =>
    cases e : nameL r.ix with
    | nil => exact absurd e h0
    | cons c p =>
      rw [e] at h46 h10
      have hc : (c == 46) = false := by simpa using h46
      have hc2 : (c == 10) = false := by simpa using fun e => h10 (by simp [e])
      show (if (true && c == 46) = true then [46, 46] else [c]) ++ dot1 (c == 10) (p ++ t) = _
      rw [hc, hc2, dot_plain p t fun hm => h10 (List.mem_cons_of_mem _ hm)]
      simp
  | succ n =>
    rw [List.replicate_succ]
    show [46, 46] ++ dot1 false (List.replicate n 46 ++ nameL r.ix ++ t) = _
    rw [hn, List.replicate_succ] at p10
    rw [dot_plain (List.replicate n 46 ++ nameL r.ix) t fun hm => p10 (List.mem_cons_of_mem _ hm)]
    simp [List.replicate_succ]
theorem dot_segs : ∀ (l : List Row1), OkL l → dot1 true (segs (l.map Row1.mid)) = segs (l.map Row1.up)
  | [], _ => rfl
  | r :: l, h => by
    show dot1 true (List.replicate r.n 46 ++ nameL r.ix ++ (List.replicate r.m [13, 10]).flatten ++ segs (l.map Row1.mid)) = List.replicate r.up.n 46 ++ nameL r.ix ++ (List.replicate r.m [13, 10]).flatten ++ segs (l.map Row1.up)
    rw [List.append_assoc, dot_row h.1, ← dot_segs l h.2.2, List.append_assoc _ _ (dot1 true _)]
    congr 1
    rcases h.2.1 with rfl | hm
    · cases hm : r.m with
      | zero => simp [segs, dot1]
      | succ m => rw [dot_feeds _ (m + 1) (by omega)]
    · rw [dot_feeds _ r.m (by omega)]
theorem quote_segs {l : List Row1} (h : OkL l) : quoteL (segs l) = segs (l.map Row1.up) := by
  unfold quoteL crlf
  rw [crlf_segs l h, dot_segs l h]
theorem up_ok : ∀ {l : List Row1}, OkL l → OkL (l.map Row1.up)
  | [], _ => trivial
  | r :: l, h => ⟨⟨h.1.1, .inr (.inr rfl)⟩, h.2.1.imp (fun e => by rw [e]; rfl) id, up_ok h.2.2⟩
def row0 (k : Nat) (x : Int) : Row1 := ⟨(x % 4).toNat, itIx x, if k < 2 then fdN x else 0, fdText x⟩
def rowsOf (ms : List Int) : List Row1 := [row0 0 (ms.getD 0 0), row0 1 (ms.getD 1 0), row0 2 (ms.getD 2 0)]
theorem fd_cases (x : Int) : fdText x = [10] ∨ fdText x = [13] ∨ fdText x = [13, 10] := by unfold fdText; split; exact .inl rfl; split; exact .inr (.inl rfl); exact .inr (.inr rfl)
theorem row0_ok (k : Nat) (x : Int) : (row0 k x).Ok := ⟨itIx_lt x, fd_cases x⟩
theorem fdN_pos (x : Int) : 1 ≤ fdN x := by unfold fdN; omega
theorem rows_ok (ms : List Int) : OkL (rowsOf ms) := ⟨row0_ok _ _, .inr (fdN_pos _), row0_ok _ _, .inr (fdN_pos _), row0_ok _ _, .inl rfl, trivial⟩
theorem mail_segs (ms : List Int) : mailUp ms 3 = segs (rowsOf ms) := by
  simp [mailUp, mailPart, rowsOf, segs, row0, Row1.text, rep1, nameL]
def upN : Nat → List Row1 → List Row1
  | 0, l => l
  | n + 1, l => upN n (l.map Row1.up)
def quoteN : Nat → List Nat → List Nat
  | 0, l => l
  | n + 1, l => quoteN n (quoteL l)
theorem quoteN_segs : ∀ (n : Nat) {l : List Row1}, OkL l → quoteN n (segs l) = segs (upN n l)
  | 0, _, _ => rfl
  | n + 1, l, h => by
    show quoteN n (quoteL (segs l)) = segs (upN n (l.map Row1.up))
    rw [quote_segs h]; exact quoteN_segs n (up_ok h)
theorem upN_map : ∀ (n : Nat) (l : List Row1), upN (n + 1) l = l.map fun r => ⟨if r.n = 0 then 0 else r.n + (n + 1), r.ix, r.m, [13, 10]⟩
  | 0, l => rfl
  | n + 1, l => by
    show upN (n + 1) (l.map Row1.up) = _
    rw [upN_map n, List.map_map]
    refine List.map_congr_left fun r _ => ?_
    simp only [Function.comp, Row1.up]
    by_cases h : r.n = 0
    · simp [h]
    · simp [h]; omega
theorem sent_part (T : Nat) (k : Nat) (x : Int) : (⟨if (row0 k x).n = 0 then 0 else (row0 k x).n + (T + 1), (row0 k x).ix, (row0 k x).m, [13, 10]⟩ : Row1).text = sentPart (((T + 1 : Nat) : Int)) k x := by
  have e : (if (x % 4).toNat = 0 then 0 else (x % 4).toNat + (T + 1)) = (dts (((T + 1 : Nat) : Int)) x).toNat := by
    unfold dts
    by_cases h : x % 4 = 0
    · simp [h]
    · rw [if_neg (by omega), if_neg h]; omega
  unfold sentPart Row1.text row0
  simp only [e]
  by_cases hk : k < 2
  · simp [hk]
  · simp [hk]
/-- what is sent: the mail, quoted T times -/
theorem quote_mail (T : Nat) (ms : List Int) : quoteN (T + 1) (mailUp ms 3) = sentUp (((T + 1 : Nat) : Int)) ms 3 := by
  rw [mail_segs, quoteN_segs _ (rows_ok ms), upN_map]
  simp only [rowsOf, List.map_cons, List.map_nil, segs, sent_part, sentUp, List.append_nil, List.nil_append]
  simp
end Mine

namespace Mine
open PySem PySem.Calls PyProof.Rows PySem.Builtin PySem.Builtin.Str

theorem slice_over {x : Str} {i : Nat} {j : Int} (hj : (x.length : Int) ≤ j) : Txt.slice x (some (i : Int)) (some j) = Txt.slice x (some (i : Int)) (some (x.length : Int)) := by
  have : strSliceIndices (some (i : Int)) (some j) 1 x.length = strSliceIndices (some (i : Int)) (some (x.length : Int)) 1 x.length := by
    unfold strSliceIndices
    simp only [show (1 : Int) > 0 by decide, if_true]
    rw [if_neg (show ¬ j < 0 by omega), if_neg (show ¬ (x.length : Int) < 0 by omega), Int.min_eq_right hj, Int.min_self]
  unfold Txt.slice
  rw [this]
theorem slice_list {x : Str} {i n : Nat} (hi : i ≤ x.length) : (Txt.slice x (some (i : Int)) (some ((i : Int) + (n : Int)))).cps.toList = (x.cps.toList.drop i).take n := by
  by_cases h : i + n ≤ x.length
  · have h' : 0 ≤ (i : Int) ∧ (i : Int) ≤ (i : Int) + n ∧ (i : Int) + n ≤ x.cps.toList.length := ⟨by omega, by omega, by rw [Array.length_toList]; show (i : Int) + n ≤ (x.length : Int); omega⟩
    show (StrLaws.sliceText x (some (i : Int)) (some ((i : Int) + n))).cps.toList = _
    rw [StrLaws.sliceText_plain h']
    show List.take ((i : Int) + n - i).toNat (List.drop (i : Int).toNat x.cps.toList) = _
    rw [show ((i : Int) + n - i).toNat = n by omega, Int.toNat_natCast]
  · rw [slice_over (by omega)]
    have h' : 0 ≤ (i : Int) ∧ (i : Int) ≤ (x.length : Int) ∧ (x.length : Int) ≤ x.cps.toList.length := ⟨by omega, by omega, by rw [Array.length_toList]; exact Int.le_refl _⟩
    show (StrLaws.sliceText x (some (i : Int)) (some (x.length : Int))).cps.toList = _
    rw [StrLaws.sliceText_plain h']
    have e : ((x.length : Int) - i).toNat = x.length - i := by omega
    show List.take ((x.length : Int) - i).toNat (List.drop (i : Int).toNat x.cps.toList) = _
    rw [e, Int.toNat_natCast, List.take_of_length_le (by rw [List.length_drop, Array.length_toList]; exact Nat.le_refl _), List.take_of_length_le (by rw [List.length_drop, Array.length_toList]; show x.length - i ≤ n; omega)]

section
variable {prog : Program} {w : World} {A : Around} {E : Value → Shared → Prop} {s : Shared} {env : Env}
/-- text[at : at + size] -/
theorem sub_slice {value lo hi : Expr} {p pos : Pos} {x : Str} {Q : Value → Shared → Prop}
    (h : wpAny (model prog w) A (eval value env) (fun o s₁ => wpAny (model prog w) A (eval lo env) (fun vl s₂ => wpAny (model prog w) A (eval hi env) (fun vu s₃ =>
      ∃ (t : Tok) (i n : Nat) (t1 t2 : Tok), o = .str x t ∧ vl = .int i t1 ∧ vu = .int ((i : Int) + (n : Int)) t2 ∧ i ≤ x.length ∧ x.length ≤ sizeLine ∧
        ∀ z tz h' tk, z.cps.toList = (x.cps.toList.drop i).take n → Kept s₃.heap h' → Q (.str z tz) { s₃ with heap := h', toks := tk }) E s₂) E s₁) E s)
    (ht : ∀ o r, letTemporaryGo value o r = pure () := by intro _ _; rfl) :
    wpAny (model prog w) A (eval (.Subscript value (.Slice (some lo) (some hi) none p) pos) env) Q E s := by
  refine wpAny_Subscript_str_slice (wpAny_mono h (fun o s₁ h₁ => wpAny_mono (show wpAny _ _ (eval lo env) _ _ _ from h₁) (fun vl s₂ h₂ => wpAny_mono (show wpAny _ _ (eval hi env) _ _ _ from h₂) (fun vu s₃ h₃ => ?_) fun _ _ e => e) fun _ _ e => e) fun _ _ e => e) ht
  obtain ⟨t, i, n, t1, t2, rfl, rfl, rfl, hi', hz, hQ⟩ := h₃
  refine ⟨x, t, some ((i : Int), t1), some ((i : Int) + n, t2), rfl, rfl, rfl, ?_⟩
  exact post_val_or_str ⟨Nat.le_trans (Txt.slice_le x _ _) hz, fun t' k => hQ _ t' _ k (slice_list hi') (kept_push _ _)⟩
end
end Mine

namespace Mine
open PySem PySem.Calls PyProof.Rows

theorem has_str {z : Str} {cs : List Nat} (h : z.cps.toList = cs) : W.kdpHas tab z = has cs := by
  subst h; unfold has; rfl
theorem look_str {z : Str} {cs : List Nat} {d : Int} (h : z.cps.toList = cs) : W.kdpLook tab z d = look cs d := by
  subst h; unfold look; rfl
def readBody : List Stmt := match ((defAt 64).2.2.1[2]? : Option Stmt) with
  | some (Stmt.While _ b _ _) => b
  | _ => default
def sizeLoop : Expr × List Stmt := match (readBody[1]? : Option Stmt) with
  | some (Stmt.While t b _ _) => (t, b)
  | _ => default
section
variable {prog : Program} {w : World} {A : Around} {E : Value → Shared → Prop} {s : Shared} {mg mb : Str → Option Value}

theorem op_isub {a b : Int} {t u : Tok} {Q : Value → Shared → Prop} (h : ∀ t' tk, Q (.int (a - b) t') { s with toks := tk }) : wpAny (model prog w) A (inplaceOp .Sub (.int a t) (.int b u)) Q E s := AutoIntOps.isub_0 (h _ _)
theorem read_inner {a d : Addr} {L i : Nat} {cd : Value} {hb h : Heap} {m : Str → Option Value} {y : Str} {tk : Tok} {ty ti t3 : Tok} {pos : Pos} {rv : Value} {Q : Flow → Shared → Prop}
    (G : Gl mg mb hb) (hE : mg "EXACT_TOKEN_TYPES" = some (.ref d)) (T : StrTab prog w hb d (W.kdpD tab)) (F : Fr hb L h m) (hm1 : m "text" = some (.str y ty)) (hm2 : m "at" = some (.int i ti)) (hm3 : m "size" = some (.int 3 t3)) (hm4 : m "row" = some rv)
    (hi : i < y.length) (hz : y.length ≤ sizeLine)
    (hQ : ∀ h' tk' m' ts, Fr hb L h' m' → m' "text" = some (.str y ty) → m' "at" = some (.int i ti) → m' "size" = some (.int (stepN (y.cps.toList.drop i) : Nat) ts) → m' "row" = some rv → (∀ b o, b ≠ L → h.get? b = some o → h'.get? b = some o) → Q .next { s with heap := h', toks := tk' }) :
    wpAny (model prog w) A (exec (.While sizeLoop.1 sizeLoop.2 [] pos) (envAt 64 L a cd)) Q E { s with heap := h, toks := tk } := by
  refine wpAny_While (codeAny_whileLoop (fun n s' => ∃ h' tk' m' ts, 1 ≤ n ∧ n ≤ 3 ∧ s' = { s with heap := h', toks := tk' } ∧ Fr hb L h' m' ∧ m' "text" = some (.str y ty) ∧ m' "at" = some (.int i ti) ∧ m' "size" = some (.int (n : Nat) ts) ∧ m' "row" = some rv ∧
      (∀ b o, b ≠ L → h.get? b = some o → h'.get? b = some o) ∧ (∀ j, n < j → j ≤ 3 → has ((y.cps.toList.drop i).take j) = false)) ?_ 3
    ⟨h, tk, m, t3, by decide, by decide, rfl, F, hm1, hm2, hm3, hm4, fun _ _ _ e => e, fun j h1 h2 => by omega⟩)
  clear F hm1 hm2 hm3 hm4
  rintro n s' ⟨h', tk', m', ts, hn1, hn3, rfl, F, hm1, hm2, hm3, hm4, U, hno⟩
  refine wpAny_isTrue_BoolOp (wpAny_allTrue_And_cons (wpAny_isTrue_Compare1 (wpAny_Name (wpAny_loadName_local rfl rfl F.ns hm3 (wpAny_Constant_int (P.gt_int (wpAny_truthy_bool ?_))))) (by rfl)))
  by_cases h1 : n = 1
  · subst h1
    rw [if_neg (by simp), if_neg (by simp)]
    refine wpAny_execs_nil (hQ h' _ m' ts F hm1 hm2 ?_ hm4 U)
    have e : stepN (y.cps.toList.drop i) = 1 := by
      unfold stepN
      rw [hno 3 (by decide) (by decide), hno 2 (by decide) (by decide)]; rfl
    rw [e]; exact hm3
  · rw [if_pos (by simp; omega)]
    refine wpAny_allTrue_And_cons (wpAny_isTrue_Compare1 (sub_slice (x := y) ?_) (by rfl))
    refine wpAny_Name (wpAny_loadName_local rfl rfl F.ns hm1 (wpAny_Name (wpAny_loadName_local rfl rfl F.ns hm2 (wpAny_BinOp ?_))))
    refine wpAny_Name (wpAny_loadName_local rfl rfl F.ns hm2 (wpAny_Name (wpAny_loadName_local rfl rfl F.ns hm3 (op_add fun t5 k5 => ?_))))
    refine ⟨ty, i, n, ti, t5, rfl, rfl, rfl, Nat.le_of_lt hi, hz, fun z tz h2 k2 hzl hk2 => ?_⟩
    have F2 := frKept F hk2
    have U2 : ∀ b o, b ≠ L → h.get? b = some o → h2.get? b = some o := fun b o hb e => hk2 _ _ (U b o hb e)
    try dsimp only at F2 U2 ⊢
    clear F U hk2
    refine ldG (G.keeps F2.keep) hE (W.kdp_notin (T.keep F2.keep) (wpAny_truthy_bool ?_))
    rw [has_str hzl]
    by_cases hh : has ((y.cps.toList.drop i).take n) = true
    · rw [hh, if_neg (by simp), if_neg (by simp)]
      refine wpAny_execs_nil (hQ h2 _ m' ts F2 hm1 hm2 ?_ hm4 U2)
      have e : stepN (y.cps.toList.drop i) = n := by
        have : n = 2 ∨ n = 3 := by omega
        unfold stepN
        rcases this with rfl | rfl
        · rw [hno 3 (by decide) (by decide), if_neg (by simp), if_pos hh]
        · rw [if_pos hh]
      rw [e]; exact hm3
    · rw [if_pos (by simpa using hh)]
      refine wpAny_allTrue_And_nil ?_
      rw [if_pos rfl]
      refine wpAny_execs_cons (wpAny_AugAssign_Name (wpAny_loadName_local rfl rfl F2.ns hm3 (wpAny_Constant_int (op_isub fun t6 k6 => ?_))))
      refine wpAny_storeName_local rfl F2.ns fun h3 hn3 hs3 => ?_
      refine wpAny_execs_nil ⟨n - 1, by omega, h3, _, _, t6, by omega, by omega, rfl, F2.set hn3 hs3, (put_ne (by decide +kernel)).trans hm1, (put_ne (by decide +kernel)).trans hm2, ?_, (put_ne (by decide +kernel)).trans hm4, fun b o hb e => (hs3.2 b hb).trans (U2 b o hb e), fun j h1 h2 => ?_⟩
      · rw [show ((n - 1 : Nat) : Int) = (n : Int) - 1 by omega]; exact put_same
      · by_cases hj : j = n
        · rw [hj]; simpa using hh
        · exact hno j (by omega) h2
end
end Mine

namespace Mine
open PySem PySem.Calls PyProof.Rows PySem.Builtin PySem.Builtin.Str

theorem lex_all : ∀ (k : Nat) (l : List Nat) (n : Nat), l.length ≤ k → l.length ≤ n → lex n l = lex l.length l
  | _, [], n, _, _ => by cases n <;> rfl
  | 0, c :: r, n, h, _ => by simp at h
  | k + 1, c :: r, 0, _, h => by simp at h
  | k + 1, c :: r, n + 1, hk, hn => by
    have hp := stepN_pos (c :: r)
    have hd : ((c :: r).drop (stepN (c :: r))).length ≤ r.length := by rw [List.length_drop, List.length_cons]; omega
    show stepV (c :: r) :: lex n ((c :: r).drop (stepN (c :: r))) = stepV (c :: r) :: lex r.length ((c :: r).drop (stepN (c :: r)))
    rw [List.length_cons] at hk hn
    rw [lex_all k _ n (by omega) (by omega), lex_all k _ r.length (by omega) hd]
def lexA (l : List Nat) : List Int := lex l.length l
theorem lexA_cons (c : Nat) (r : List Nat) : lexA (c :: r) = stepV (c :: r) :: lexA ((c :: r).drop (stepN (c :: r))) := by
  have hp := stepN_pos (c :: r)
  show stepV (c :: r) :: lex r.length ((c :: r).drop (stepN (c :: r))) = _
  rw [lex_all _ _ r.length (Nat.le_refl _) (by rw [List.length_drop, List.length_cons]; omega)]; rfl
theorem Lexes.lexA {l : List Nat} {out : List Int} (h : Lexes l out) : lexA l = out := h _ (Nat.le_refl _)
section
variable {prog : Program} {w : World} {A : Around} {E : Value → Shared → Prop} {s : Shared} {mg mb : Str → Option Value}
theorem item_str {x : Str} {i : Nat} {t u : Tok} {c : Nat} {Q : Value → Shared → Prop} (hc : x.cps[i]? = some c) (hi : i < 2 ^ 62) (h : ∀ t' k, Q (.str ⟨#[c]⟩ t') { s with toks := k }) :
    wpAny (model prog w) A (getItem (.str x t) (.int i u)) Q E s := by
  have hlt : i < x.length := (Array.getElem?_eq_some_iff.mp hc).1
  refine getItem_gives (typeIs_str _ _ _) (by decide) F.slot_str_getitem F.entry_str_getitem (F.args_str_getitem_2 _ _) (gives_str_getitem x i t u c (by simp; omega) ?_) ⟨(by show 1 ≤ sizeLine; decide), h _ _⟩
  unfold seqIndex?
  have e1 : (if (i : Int) < 0 then (i : Int) + x.length else (i : Int)) = i := if_neg (by omega)
  simp only [e1]
  have e2 : (decide (0 ≤ (i : Int)) && decide ((i : Int) < x.length)) = true := by simp; omega
  rw [e2, if_pos rfl]
  show x.cps[(i : Int).toNat]? = some c
  rw [Int.toNat_natCast]; exact hc
theorem tab_dict {d : Addr} {h : Heap} (T : StrTab prog w h d (W.kdpD tab)) : ∃ o, h.get? d = some o ∧ o.cls = .type "dict" ∧ o.dict = none := by
  obtain ⟨lo, kvs, ⟨o, es, ep, ho, hc, _⟩, _⟩ := T
  exact ⟨o, ho, hc.1, hc.2.1⟩

/-- one turn of the reading loop -/
theorem read_turn {a d aR : Addr} {L i : Nat} {cd : Value} {hb h : Heap} {m : Str → Option Value} {y : Str} {tk : Tok} {ty ti : Tok} {rits : Array Value} {Q : Flow → Shared → Prop} (hA : A.handled = none)
    (G : Gl mg mb hb) (hE : mg "EXACT_TOKEN_TYPES" = some (.ref d)) (T : StrTab prog w hb d (W.kdpD tab)) (hog : mg "ord" = none) (hob : mb "ord" = some (.builtin "ord"))
    (F0 : Fr hb L h m) (hm1 : m "text" = some (.str y ty)) (hm2 : m "at" = some (.int i ti)) (hm4 : m "row" = some (.ref aR)) (hR : h.PlainList aR rits) (fR : hb.get? aR = none) (nRL : aR ≠ L)
    (hi : i < y.length) (hz : y.length ≤ 100000) (hrz : rits.size ≤ i)
    (hQ : ∀ h' tk' m' t' tv, Fr hb L h' m' → m' "text" = some (.str y ty) → m' "at" = some (.int ((i + stepN (y.cps.toList.drop i) : Nat) : Int) t') → m' "row" = some (.ref aR) → h'.PlainList aR (rits.push (.int (stepV (y.cps.toList.drop i)) tv)) → Q .next { s with heap := h', toks := tk' }) :
    wpAny (model prog w) A (execs readBody (envAt 64 L a cd)) Q E { s with heap := h, toks := tk } := by
  have hzl : y.length ≤ sizeLine := by rw [sizeLine_eq]; omega
  -- size = 3
  refine wpAny_execs_cons (wpAny_Assign_Name (wpAny_Constant_int (wpAny_storeName_local rfl F0.ns fun h1 hn1 hs1 => ?_)))
  have F1 := F0.set hn1 hs1
  have R1 := hR.extBut hs1.extBut nRL
  try dsimp only at F1 R1 ⊢
  refine wpAny_execs_cons (read_inner G hE T F1 ((put_ne (by decide +kernel)).trans hm1) ((put_ne (by decide +kernel)).trans hm2) put_same ((put_ne (by decide +kernel)).trans hm4) hi hzl fun h2 tk2 m2 ts F2 e1 e2 e3 e4 U2 => ?_)
  have R2 := R1.at fun o e => U2 _ o nRL e
  clear U2 R1 F1 hn1 hs1 hR
  obtain ⟨n, hn⟩ : ∃ n, n = stepN (y.cps.toList.drop i) := ⟨_, rfl⟩
  rw [← hn] at e3
  -- row.append(...)
  refine wpAny_execs_cons (wpAny_Expr (call_m1 F.plainAttrs_list F.slot_list_append F.type_list_append (wpAny_Name (wpAny_loadName_local rfl rfl F2.ns e4 ⟨R2.isList.typeIs, plain_dict R2, ?_⟩)) ) rfl rfl)
  have T2 := T.keep F2.keep
  obtain ⟨od, hod, hoc, hodd⟩ := tab_dict T2
  refine call_m2 F.plainAttrs_dict F.slot_dict_get F.type_dict_get (ldG (G.keeps F2.keep) hE ⟨⟨od, hod, hoc⟩, fun a' e => by injection e with e; subst e; exact ⟨od, hod, hodd⟩, ?_⟩)
  refine sub_slice (x := y) ?_
  refine wpAny_Name (wpAny_loadName_local rfl rfl F2.ns e1 (wpAny_Name (wpAny_loadName_local rfl rfl F2.ns e2 (wpAny_BinOp ?_))))
  refine wpAny_Name (wpAny_loadName_local rfl rfl F2.ns e2 (wpAny_Name (wpAny_loadName_local rfl rfl F2.ns e3 (op_add fun t5 k5 => ?_))))
  refine ⟨ty, i, n, ti, t5, rfl, rfl, rfl, Nat.le_of_lt hi, hzl, fun z tz h3 k3 hzt hk3 => ?_⟩
  have F3 := frKept F2 hk3
  have R3 := R2.at fun o e => hk3 _ o e
  try dsimp only at F3 R3 ⊢
  clear F2 R2 hk3 T2 hod
  -- ord(text[at])
  obtain ⟨c, hc⟩ : ∃ c, y.cps[i]? = some c := ⟨_, Array.getElem?_eq_getElem hi⟩
  refine wpAny_Call_NameR (ldB (G.keeps F3.keep) hog hob (cw1 (Sub_any ?_)))
  refine wpAny_Name (wpAny_loadName_local rfl rfl F3.ns e1 (wpAny_Name (wpAny_loadName_local rfl rfl F3.ns e2 ⟨"str", _, F.slot_str_getitem.lookup, typeIs_str _ _ _, item_str hc (by omega) fun t6 k6 => ?_⟩)))
  refine P.ord_of_char ?_
  refine W.kdp_get2 (T.keep F3.keep) fun tv => ?_
  have hcs : y.cps.toList.drop i = c :: y.cps.toList.drop (i + 1) := by
    have hl : i < y.cps.toList.length := by rw [Array.length_toList]; exact hi
    rw [List.drop_eq_getElem_cons hl]
    congr 1
    rw [Array.getElem?_eq_getElem hi] at hc
    exact Option.some.inj hc
  have hv : W.kdpLook tab z c = stepV (y.cps.toList.drop i) := by
    rw [look_str hzt, stepV, ← hn, hcs]; rfl
  rw [hv]
  refine wpAny_list_append_plain R3 ?_ (by rw [sizeLine_eq]; omega)
  intro h4 R4 hs4
  have F4 : Fr hb L h4 m2 := ⟨F3.ns.sameBut hs4 (Ne.symm nRL), kept_but F3.keep hs4 fR, F3.above⟩
  try dsimp only at F4 R4 ⊢
  -- at += size
  refine wpAny_execs_cons (wpAny_AugAssign_Name (wpAny_loadName_local rfl rfl F4.ns e2 (wpAny_Name (wpAny_loadName_local rfl rfl F4.ns e3 (op_iadd fun t7 k7 => ?_)))))
  refine wpAny_storeName_local rfl F4.ns fun h5 hn5 hs5 => ?_
  refine wpAny_execs_nil (hQ h5 _ _ t7 tv (F4.set hn5 hs5) ((put_ne (by decide +kernel)).trans e1) ?_ ((put_ne (by decide +kernel)).trans e4) (R4.extBut hs5.extBut nRL))
  rw [← hn, show (((i + n : Nat)) : Int) = (i : Int) + (n : Int) by omega]
  exact put_same
end
end Mine

namespace Mine
open PySem PySem.Calls PyProof.Rows

theorem stepN_le (cs : List Nat) : stepN cs ≤ 3 := by unfold stepN; split <;> (try split) <;> omega
section
variable {prog : Program} {w : World} {A : Around} {E : Value → Shared → Prop} {s : Shared} {mg mb : Str → Option Value}
theorem read_ok {a d : Addr} {y : Str} {ty : Tok} {Q : Value → Shared → Prop} (hroom : A.depth + 10 < recursionLimit) (hA : A.handled = none) (G : Gl mg mb s.heap) (hF : FnAt s.heap a 64)
    (hE : mg "EXACT_TOKEN_TYPES" = some (.ref d)) (T : StrTab prog w s.heap d (W.kdpD tab)) (hog : mg "ord" = none) (hob : mb "ord" = some (.builtin "ord")) (hlg : mg "len" = none) (hlb : mb "len" = some (.builtin "len"))
    (hEnd : ∃ tk, mg "ENDMARKER" = some (.int 0 tk)) (hz : y.length ≤ 100000)
    (hQ : ∀ h' tk r its, Kept s.heap h' → h'.PlainList r its → IntsAre its.toList (lexA y.cps.toList ++ [0]) → s.heap.get? r = none → Q (.ref r) { s with heap := h', toks := tk }) :
    wpAny (model prog w) A (call (.ref a) [.str y ty] []) Q E s := by
  obtain ⟨tkE, hEnd⟩ := hEnd
  refine fn_call (i := 64) (binds := [("text", .str y ty)]) (by omega) G hF (fun _ _ _ => rfl) (fun h₁ cd F0 => ?_) (by rfl)
  generalize s.heap.objs.size = L at F0 ⊢
  refine wpAny_execs_cons (wpAny_Assign_Name (List_new (spliced_nil ⟨by rw [sizeLine_eq]; exact (show 0 ≤ 16777216 by decide), fun h2 aR pR kR fR => ?_⟩)))
  try dsimp only at pR kR fR ⊢
  have F1 := frKept F0 kR
  have nRL : aR ≠ L := fun e => by
    obtain ⟨o, _, _, ho, _⟩ := F0.ns
    rw [e] at fR; rw [ho] at fR; cases fR
  have fR0 : s.heap.get? aR = none := by
    cases e : s.heap.get? aR with
    | none => rfl
    | some o => rw [F0.keep _ _ e] at fR; cases fR
  refine wpAny_storeName_local rfl F1.ns fun h3 hn3 hs3 => ?_
  have F2 := F1.set hn3 hs3
  have R2 := pR.extBut hs3.extBut nRL
  try dsimp only at F2 R2 ⊢
  refine wpAny_execs_cons (wpAny_Assign_Name (wpAny_Constant_int (wpAny_storeName_local rfl F2.ns fun h4 hn4 hs4 => ?_)))
  have F3 := F2.set hn4 hs4
  have R3 := R2.extBut hs4.extBut nRL
  try dsimp only at F3 R3 ⊢
  refine wpAny_execs_cons (wpAny_While (codeAny_whileLoop (fun n s' => ∃ (i : Nat) (h : Heap) (tk : Nat) (m : Str → Option Value) (its : Array Value) (ti : Tok) (out : List Int), n = y.length + 3 - i ∧ i ≤ y.length + 2 ∧ s' = { s with heap := h, toks := tk } ∧ Fr s.heap L h m ∧
      m "text" = some (.str y ty) ∧ m "at" = some (.int (i : Nat) ti) ∧ m "row" = some (.ref aR) ∧ h.PlainList aR its ∧ IntsAre its.toList out ∧ out ++ lexA (y.cps.toList.drop i) = lexA y.cps.toList ∧ its.size ≤ i) ?_ (y.length + 3)
    ⟨0, h4, _, _, #[], _, [], rfl, by omega, rfl, F3, ?_, if_pos rfl, ?_, R3, .nil, rfl, Nat.le_refl _⟩))
  rotate_left
  · rw [if_neg (by decide +kernel), if_neg (by decide +kernel)]; rfl
  · rw [if_neg (by decide +kernel), if_pos rfl]
  clear F3 R3 F2 R2 F1 pR kR fR hn3 hs3 hn4 hs4
  rintro n s' ⟨i, h, tk, m, its, ti, out, rfl, hi2, rfl, F3, e1, e2, e3, R3, hi, ho, hsz⟩
  refine wpAny_isTrue_Compare1 (wpAny_Name (wpAny_loadName_local rfl rfl F3.ns e2 (wpAny_Call_NameR (ldB (G.keeps F3.keep) hlg hlb (cw1 (wpAny_Name (wpAny_loadName_local rfl rfl F3.ns e1 (P.len_str (by omega) (wpAny_lt_int (wpAny_truthy_bool ?_)))))))))) (by rfl)
  by_cases hlt : i < y.length
  · rw [if_pos (by simp; exact hlt)]
    refine read_turn (A := A.deeper (envAt 64 L a cd)) hA G hE T hog hob F3 e1 e2 e3 R3 fR0 nRL hlt hz hsz fun h' tk' m' t' tv F' e1' e2' e3' R' => ?_
    have hp := stepN_pos (y.cps.toList.drop i)
    have hq := stepN_le (y.cps.toList.drop i)
    refine ⟨y.length + 3 - (i + stepN (y.cps.toList.drop i)), by omega, i + stepN (y.cps.toList.drop i), h', tk', m', _, t', out ++ [stepV (y.cps.toList.drop i)], rfl, by omega, rfl, F', e1', e2', e3', R', ?_, ?_, by rw [Array.size_push]; omega⟩
    · rw [Array.toList_push]; exact IntsAre.snoc hi
    · rw [← ho, List.append_assoc]
      congr 1
      have hl : i < y.cps.toList.length := by rw [Array.length_toList]; exact hlt
      have hcs := List.drop_eq_getElem_cons hl
      rw [hcs, lexA_cons, ← hcs, List.drop_drop]; rfl
  · rw [if_neg (by simp; omega)]
    refine wpAny_execs_nil ?_
    have hdone : out = lexA y.cps.toList := by
      rw [← ho, List.drop_eq_nil_of_le (by rw [Array.length_toList]; show y.length ≤ i; omega)]
      exact (List.append_nil _).symm
    refine wpAny_execs_cons (wpAny_Return_some (wpAny_BinOp (wpAny_Name (wpAny_loadName_local rfl rfl F3.ns e3 (List_new (spliced_cons (ldG (G.keeps F3.keep) hEnd (spliced_nil ⟨by rw [sizeLine_eq]; exact (show 1 ≤ 16777216 by decide), fun h5 a0 p0 k0 f0 => ?_⟩))))))))
    try dsimp only at k0 p0 ⊢
    refine add_plain (R3.at fun o e => k0 _ o e) p0 (by rw [sizeLine_eq]; simp only [List.size_toArray, List.length_cons, List.length_nil]; omega) fun h6 pA kA _ => ?_
    try dsimp only at kA pA ⊢
    refine hQ h6 _ _ _ (fun b o e => kA _ _ (k0 _ _ (F3.keep _ _ e))) pA ?_ ?_
    · rw [Array.toList_append, ← hdone]; exact hi.append (.cons _ _ .nil)
    · cases e : s.heap.get? h5.objs.size with
      | none => rfl
      | some o => exact absurd (Heap.lt_size (k0 _ _ (F3.keep _ _ e))) (Nat.lt_irrefl _)
end
end Mine

namespace Mine
open PySem PySem.Calls PyProof.Rows

section
variable {ns : List Int} {t : Nat} {inf : Bool}
theorem sumY_mono (hp : ∀ j, j < t → 1 ≤ ns.getD j 0) {a : Nat} : ∀ {b : Nat}, a ≤ b → (∀ j, j < b → j < t ∨ 0 < t) → sumY ns t a ≤ sumY ns t b
  | 0, h, _ => by
    have : a = 0 := by omega
    rw [this]; exact Int.le_refl _
  | b + 1, h, hj => by
    by_cases e : a = b + 1
    · rw [e]; exact Int.le_refl _
    · have h1 := sumY_mono hp (show a ≤ b by omega) fun j hj' => hj j (by omega)
      have h2 := yv_pos hp (hj b (by omega))
      rw [sumY_succ]; omega
theorem due_filter (hp : ∀ j, j < t → 1 ≤ ns.getD j 0) {K M : Nat} (hKM : K ≤ M) (hj : ∀ j, j < M → j < t ∨ 0 < t) (hlt : ∀ j, j < K → sumY ns t (j + 1) < 256) (hend : M = K ∨ 256 ≤ sumY ns t (K + 1)) :
    ((List.range M).map fun j => sumY ns t (j + 1)).filter (fun v => decide (v < 256)) = marksK ns t K := by
  have hsplit : List.range M = List.range K ++ (List.range (M - K)).map (K + ·) := by
    rw [← List.range_add]; congr 1; omega
  rw [hsplit, List.map_append, List.filter_append]
  have h1 : ((List.range K).map fun j => sumY ns t (j + 1)).filter (fun v => decide (v < 256)) = marksK ns t K := by
    refine List.filter_eq_self.mpr fun v hv => ?_
    obtain ⟨j, hjm, rfl⟩ := List.mem_map.mp hv
    exact decide_eq_true (hlt j (List.mem_range.mp hjm))
  have h2 : (((List.range (M - K)).map (K + ·)).map fun j => sumY ns t (j + 1)).filter (fun v => decide (v < 256)) = [] := by
    refine List.filter_eq_nil_iff.mpr fun v hv => ?_
    obtain ⟨j, hjm, rfl⟩ := List.mem_map.mp hv
    obtain ⟨i, him, rfl⟩ := List.mem_map.mp hjm
    have hi := List.mem_range.mp him
    rcases hend with e | e
    · omega
    · have := sumY_mono hp (show K + 1 ≤ K + i + 1 by omega) fun j hj' => hj j (by omega)
      simp; omega
  rw [h1, h2, List.append_nil]
/-- behind the stop each step is the last size -/
theorem sumY_after (ht : 0 < t) : ∀ i, sumY ns t (t + i) = sumY ns t t + (i : Int) * ns.getD (t - 1) 0
  | 0 => by simp
  | i + 1 => by
    rw [show t + (i + 1) = (t + i) + 1 by omega, sumY_succ, sumY_after ht i, yv, if_neg (by omega)]
    rw [Int.natCast_add, Int.add_mul]; simp; omega
theorem sum_take (h : t ≤ ns.length) : ∀ k, k ≤ t → sumY ns t k = (ns.take k).sum
  | 0, _ => by simp [sumY]
  | k + 1, hk => by
    rw [sumY_succ, sum_take h k (by omega), yv, if_pos (by omega), List.take_add_one, List.sum_append]
    rw [List.getD_eq_getElem?_getD, List.getElem?_eq_getElem (by omega)]
    simp
end
end Mine

namespace Mine
open PySem PySem.Calls PyProof.Rows

section
variable {prog : Program} {w : World} {A : Around} {E : Value → Shared → Prop} {s : Shared} {mg mb : Str → Option Value}
theorem due_zero {a l : Addr} {v0 : Tok} {vr : List Value} {Q : Value → Shared → Prop} (hroom : A.depth + 10 < recursionLimit) (hA : A.handled = none) (G : Gl mg mb s.heap) (hF : FnAt s.heap a 67)
    (hl : s.heap.IsList l (Value.int 0 v0 :: vr).toArray)
    (hQ : ∀ h' tk r a2, Kept s.heap h' → h'.PlainList r #[.none, .ref a2] → h'.PlainList a2 #[] → s.heap.get? r = none → Q (.ref r) { s with heap := h', toks := tk }) :
    wpAny (model prog w) A (call (.ref a) [.ref l] []) Q E s := by
  refine fnC_call (i := 67) (binds := [("row", .ref l)]) (by omega) G hF (fun _ _ _ => rfl) (fun h₁ tk cd FC => ?_) (by
    intro x hx
    rw [List.mem_singleton.mp hx]
    exact .inr ⟨by rfl, by rfl⟩)
  generalize s.heap.objs.size = L at FC ⊢
  have cR := FC.cell "row" (L + 1) (by rfl)
  have hl1 := hl.at fun o e => FC.keep _ o e
  refine wpAny_execs_cons (wpAny_If (wpAny_isTrue_Compare1 (Sub_any (wpAny_Name (wpAny_loadName_cell (c := L + 1) rfl (by rfl) (by rfl) cR (wpAny_Constant_int ⟨"list", _, F.slot_list_getitem.lookup, hl1.typeIs, wpAny_getItem_list hl1 (by decide) (by decide) (x := .int 0 v0) (by simp) (wpAny_Constant_int (wpAny_eq_int (wpAny_truthy_bool ?_)))⟩)))) (by rfl)))
  rw [if_pos (by rfl)]
  refine wpAny_execs_cons (wpAny_Return_some (List_new (spliced_cons (wpAny_Constant_none (k := 0) (pos := ⟨0, 0, 0, 0⟩) (spliced_cons (List_new (spliced_nil ⟨by rw [sizeLine_eq]; exact (show 0 ≤ 16777216 by decide), fun h2 a2 p2 k2 f2 => ?_⟩)))))))
  refine spliced_nil ⟨by rw [sizeLine_eq]; exact (show 2 ≤ 16777216 by decide), fun h3 r pr kr fr => ?_⟩
  try dsimp only at k2 kr fr p2 pr ⊢
  refine hQ h3 _ r a2 (fun b o e => kr _ _ (k2 _ _ (FC.keep _ _ e))) pr (p2.at fun o e => kr _ o e) ?_
  cases e : s.heap.get? r with
  | none => rfl
  | some o => rw [k2 _ _ (FC.keep _ _ e)] at fr; cases fr
end
end Mine

namespace Mine
open PySem PySem.Calls PyProof.Rows

section
variable {prog : Program} {w : World} {A : Around} {E : Value → Shared → Prop} {s : Shared} {mg mb : Str → Option Value} {env : Env}
/-- the whole body's statement i -/
def dueStmt (i : Nat) : Stmt := ((defAt 67).2.2.1[i]? : Option Stmt).getD default
theorem Paired_filter {F : Value → Value → Prop} {p : Value → Bool} {ys : List Value} : ∀ {vs : List Value} {ns : List Int} {q : Int → Bool}, IntsAre vs ns → (∀ n t, p (.int n t) = q n) → (∀ n t v, F (.int n t) v → ∃ t', v = .int n t') → Paired F (vs.filter p) ys → IntsAre ys (ns.filter q) := by
  intro vs ns q hi hp hF h
  induction hi generalizing ys with
  | nil => cases h; exact .nil
  | cons n t r ih =>
    rw [List.filter_cons] at h ⊢
    rw [hp] at h
    by_cases hq : q n = true
    · rw [if_pos hq] at h ⊢
      cases h with
      | cons hf h' =>
        obtain ⟨t', rfl⟩ := hF _ _ _ hf
        exact .cons n t' (ih h')
    · rw [if_neg hq] at h ⊢
      exact ih h
theorem ints_of : ∀ {vs : List Value} {f : Nat → Int}, (∀ (j : Nat) (v : Value), vs[j]? = some v → ∃ t : Tok, v = Value.int (f j) t) → IntsAre vs ((List.range vs.length).map f)
  | [], f, _ => .nil
  | v :: r, f, hP => by
    obtain ⟨t, rfl⟩ := hP 0 v rfl
    rw [List.length_cons, List.range_succ_eq_map, List.map_cons, List.map_map]
    exact .cons _ t (ints_of (f := f ∘ Nat.succ) fun j u hj => hP (j + 1) u hj)
end
end Mine

namespace Mine
open PySem PySem.Calls PyProof.Rows

def stopAt (ns : List Int) (v : Value) : Bool := match v with
  | .int k _ => [(0 : Int), 127].any (· == ns.getD k.toNat 0)
  | _ => false
section
variable {prog : Program} {w : World} {A : Around} {E : Value → Shared → Prop} {s : Shared} {mg mb : Str → Option Value}
theorem Keeps.of {s : Shared} {h' : Heap} {tk : Nat} (k : Kept s.heap h') : Keeps s { s with heap := h', toks := tk } := ⟨h', tk, rfl, k⟩
theorem due_stop {a l cR : Addr} {L : Nat} {cd : Value} {hb h : Heap} {tk : Tok} {m cm : Str → Option Value} {vs : List Value} {ns : List Int} {Q : Flow → Shared → Prop} (hA : A.handled = none) (G : Gl mg mb hb) (F0 : FrC hb L (csAt 67 L) h m cm)
    (hrg : mg "range" = none) (hrb : mb "range" = some (.type "range")) (hlg : mg "len" = none) (hlb : mb "len" = some (.builtin "len")) (hmg : mg "min" = none) (hmb : mb "min" = some (.builtin "min"))
    (hcm : cm "row" = some (.ref l)) (hl : hb.IsList l vs.toArray) (hi : IntsAre vs ns) (hsz : vs.length ≤ 1000) {t : Nat} {inf : Bool} (RE : RowEnd ns t inf)
    (hQ : ∀ h' tk' ts, FrC hb L (csAt 67 L) h' (fun y => if y = "stop" then some (.int t ts) else m y) cm → Q .next { s with heap := h', toks := tk' }) :
    wpAny (model prog w) A (exec (dueStmt 1) (envC 67 L a cd)) Q E { s with heap := h, toks := tk } := by
  have cR := F0.cell "row" (L + 1) (by rfl)
  rw [hcm] at cR
  have hl0 := hl.at fun o e => F0.keep _ o e
  refine wpAny_Assign_Name (wpAny_Call_NameR (ldB (G.keeps F0.keep) hmg hmb (cw1 ?_)))
  refine wpAny_ListComp_free (cl := [("row", L + 1)]) (stopAt ns) (fun v y => y = v) (by rfl) (by decide +kernel) (by rfl) (by decide +kernel) (by rfl) ?_
  refine range1_it (G.keeps F0.keep) hrg hrb (wpAny_Call_NameR (ldB (G.keeps F0.keep) hlg hlb (cw1 (wpAny_Name (wpAny_loadName_cell (c := L + 1) rfl (by rfl) (by rfl) cR (len_list hl0 (by rw [List.size_toArray]; omega) ?_))))))
  have ez : (vs.toArray.size : Int) = (vs.length : Nat) := by rw [List.size_toArray]
  rw [ez]
  have hzz : vs.length ≤ sizeLine := by rw [sizeLine_eq]; omega
  refine ⟨_, _, rfl, by omega, by omega, fun I h7 tk7 hk7 hI hIlt hit => ⟨I, [I], [I], vs.length, PRange vs.length 0 1, StRange vs.length I 0 1, rfl, walks_range (A := A) hA I 0 1 _, hzz, hit, ?_, ⟨?_, ?_⟩, ?_⟩⟩
  · exact fun b hb => by rw [List.mem_singleton.mp hb]; exact hIlt
  · rintro C i v s₃ m₃ E' hC ⟨hi', ti, rfl⟩ hns hm hk -
    have ei : (0 + (i : Int) * 1) = i := by omega
    rw [ei] at hm ⊢
    have hkk : Kept h s₃.heap := kept_of hk (one_none hI) hk7
    have hl3 := hl0.at fun o e => hkk _ o e
    obtain ⟨tv, ev⟩ := IntsAre.at hi i (ns.getD i 0) (by rw [List.getD_eq_getElem?_getD, List.getElem?_eq_getElem (by rw [← hi.length]; exact hi')]; rfl)
    rw [List.forIn_cons, if_pos rfl]
    refine wpAny_bind (wpAny_bind (wpAny_isTrue_Compare1 (Sub_any ?_) (by rfl)))
    refine wpAny_Name (wpAny_loadName_cell (c := L + 1) rfl (by rfl) (by rfl) (cR.keeps hkk) (wpAny_Name (wpAny_loadName_local rfl (by rfl) hns hm ⟨"list", _, F.slot_list_getitem.lookup, hl3.typeIs, wpAny_getItem_list hl3 (by omega) (by omega) (x := .int (ns.getD i 0) tv) (by simpa using ev) ?_⟩)))
    refine wpAny_Tuple (spliced_cons (wpAny_Constant_int (k := 0) (pos := ⟨0, 0, 0, 0⟩) (spliced_cons (wpAny_Constant_int (k := 0) (pos := ⟨0, 0, 0, 0⟩) (spliced_nil ⟨by rw [sizeLine_eq]; exact (show 2 ≤ 16777216 by decide), ?_⟩)))))
    refine in_tuple_ints ⟨_, Heap.get?_push_size _ rfl, rfl, _, rfl⟩ (.cons 0 _ (.cons 127 _ .nil)) (wpAny_truthy_bool ?_)
    refine wpAny_pure ?_
    show wpAny _ _ (forIn [] _ _) _ _ _
    rw [List.forIn_nil]
    exact wpAny_pure ⟨by simp [stopAt], Keeps.of (kept_push _ _)⟩
  · rintro C i v s₃ m₃ E' hC hP hpv hns hm hk -
    exact wpAny_Name (wpAny_loadName_local rfl (by rfl) hns hm ⟨rfl, Keeps.self _⟩)
  intro D h8 tk8 ys us hD hl8 hpl8 hlen hP hF8 hk8
  have hk : Kept h h8 := kept_of hk8 (one_none hI) hk7
  have hu : IntsAre us ((List.range us.length).map fun j => ((j : Nat) : Int)) := ints_of fun j v hj => by
    obtain ⟨_, t', e⟩ := hP j v hj
    exact ⟨t', by rw [e]; congr 1; omega⟩
  have hys := Paired_filter (q := fun n => [(0 : Int), 127].any (· == ns.getD n.toNat 0)) hu (fun n t' => rfl) (fun n t' v e => ⟨t', e⟩) hF8
  have htl : t < us.length := by rw [hlen, hi.length]; exact RE.lt
  have ht_in : (t : Int) ∈ ((List.range us.length).map fun j => ((j : Nat) : Int)).filter (fun n => [(0 : Int), 127].any (· == ns.getD n.toNat 0)) := by
    refine List.mem_filter.mpr ⟨List.mem_map.mpr ⟨t, List.mem_range.mpr htl, rfl⟩, ?_⟩
    rw [Int.toNat_natCast, RE.stop]
    cases inf <;> simp
  refine min_ok (vs := ys.toList) hA (by simpa using hl8) hys (List.length_pos_of_mem ht_in) fun h9 M tM tk9 hk9 hMin hMle => ?_
  have hM : M = t := by
    have h1 := hMle _ ht_in
    obtain ⟨hm1, hm2⟩ := List.mem_filter.mp hMin
    obtain ⟨j, hj, rfl⟩ := List.mem_map.mp hm1
    rw [Int.toNat_natCast] at hm2
    by_cases hjt : j < t
    · have := RE.pre j hjt
      simp at hm2
      rcases hm2 with e | e
      · exact absurd e.symm this.1
      · exact absurd e.symm this.2
    · have : (t : Int) ≤ (j : Int) := by omega
      omega
  subst hM
  have F9 := F0.kept (hk.trans hk9)
  refine wpAny_storeName_local rfl F9.ns fun h10 hn10 hs10 => ?_
  exact hQ h10 _ tM (F9.set hn10 hs10)
end
end Mine

namespace Mine
open PySem PySem.Calls PyProof.Rows

section
variable {prog : Program} {w : World} {A : Around} {R : Result → Shared → Prop} {E : Value → Shared → Prop} {s : Shared}
/-- the loop that adds a range's numbers to a list that holds something -/
theorem extR_loop {I : Addr} {a c : Int} {n : Nat} (hh : A.handled = none) (S : Addr) (hSI : S ≠ I) (res : Value) (acc0 : Array Value) (hz : acc0.size + n ≤ sizeLine) :
    ∀ (k i : Nat) (s : Shared) (acc : Array Value) (new : List Value), n - i = k → i ≤ n → StRange n I a c i s.heap → s.heap.PlainList S acc → acc.toList = acc0.toList ++ new → new.length = i → (∀ (j : Nat) (v : Value), new[j]? = some v → ∃ t : Tok, v = Value.int (a + j * c) t) →
    (∀ h' tk acc' new', (∀ b o, b ≠ S → b ≠ I → s.heap.get? b = some o → h'.get? b = some o) → h'.PlainList S acc' → acc'.toList = acc0.toList ++ new' → new'.length = n → (∀ (j : Nat) (v : Value), new'[j]? = some v → ∃ t : Tok, v = Value.int (a + j * c) t) → R (.ok (.ret res)) { s with heap := h', toks := tk }) →
    codeAny (model prog w) A (.builtin "list.extend.loop" ⟨[.ref S, .ref I, res], []⟩) R s := by
  have W := walks_range (prog := prog) (w := w) (A := A.in1) hh I a c n
  intro k
  induction k with
  | zero =>
    intro i s acc new hk hi hst hS he hl hP hR
    have hin : i = n := by omega
    subst hin
    refine codeAny_builtin F.entry_extend_loop ?_
    rw [Around.under_plainId F.plain_extend_loop _]
    show wpAny _ A.in1 (pyNext (.ref I) >>= _) _ _ s
    refine wpAny_bind (W.done s _ _ hst fun h' tk hk' => ?_)
    exact wpAny_pure (hR h' tk acc new (fun b o h1 h2 e => hk' b o (by simp [h2]) e) (hS.at fun o e => hk' S o (by simp [hSI]) e) he hl hP)
  | succ k ih =>
    intro i s acc new hk hi hst hS he hl hP hR
    have hlt : i < n := by omega
    refine codeAny_builtin F.entry_extend_loop ?_
    rw [Around.under_plainId F.plain_extend_loop _]
    show wpAny _ A.in1 (pyNext (.ref I) >>= _) _ _ s
    refine wpAny_bind (W.item i s _ _ hlt hst fun v h1 tk1 hPv hst1 hk1 => ?_)
    obtain ⟨_, tv, rfl⟩ := hPv
    obtain ⟨nn, hS1⟩ := hS.at fun o e => hk1 S o (by simp [hSI]) e
    have hsz : acc.size = acc0.size + i := by rw [← Array.length_toList, he, List.length_append, hl, Array.length_toList]
    show wpAny _ A.in1 (updateSeq S (·.push _) >>= _) _ _ _
    refine wpAny_bind ?_
    refine wpAny_updateSeq hS1 rfl (wpAny_pure ⟨plainId_quiet F.plain_extend_loop _, ih (i + 1) _ (acc.push (.int (a + i * c) tv)) (new ++ [.int (a + i * c) tv]) (by omega) hlt ((Heap.get?_update_other _ _ hSI).trans hst1) ⟨_, Heap.get?_update_self _ hS1 rfl⟩ (by rw [Array.toList_push, he, List.append_assoc]) (by rw [List.length_append, hl]; rfl) (fun j v hj => ?_) fun h' tk acc' new' hk' hS' he' hl' hP' => ?_⟩)
      (by rw [hsz]; omega) (by show (acc.push _).size ≤ sizeLine + 1; rw [Array.size_push, hsz]; omega)
    · by_cases hji : j < new.length
      · rw [List.getElem?_append_left hji] at hj; exact hP j v hj
      · rw [List.getElem?_append_right (by omega)] at hj
        have : j - new.length = 0 := by
          have := (List.getElem?_eq_some_iff.mp hj).1
          simp at this; omega
        rw [this] at hj
        have hv : Value.int (a + i * c) tv = v := by simpa using hj
        exact ⟨tv, by rw [← hv, show j = i by omega]⟩
    · exact hR h' tk acc' new' (fun b o h1 h2 e => hk' b o h1 h2 ((Heap.get?_update_other _ _ (Ne.symm h1)).trans (hk1 b o (by simp [h2]) e))) hS' he' hl' hP'
theorem ext_range {r : Addr} {a b c : Int} {t u v : Tok} {n : Nat} (hh : A.handled = none) (hr : IsRange s.heap r a b c t u v) (hsmall : Builtin.Range.small a b c = true)
    (hn : Builtin.Range.rangeSize a b c = n) (S : Addr) (res : Value) (acc0 : Array Value) (hS : s.heap.PlainList S acc0) (hz : acc0.size + n + 1 ≤ sizeLine)
    (hR : ∀ h' tk acc' new', (∀ b o, b ≠ S → s.heap.get? b = some o → h'.get? b = some o) → h'.PlainList S acc' → acc'.toList = acc0.toList ++ new' → new'.length = n → (∀ (j : Nat) (v : Value), new'[j]? = some v → ∃ t : Tok, v = Value.int (a + j * c) t) → R (.ok (.ret res)) { s with heap := h', toks := tk }) :
    wpAny (model prog w) A.in1 (Builtin.List.listExtendWith (.ref S) (.ref r) res)
      (fun fin s' => match fin with | .done f => R (.ok f) s' | .again c' => c'.quiet = true ∧ codeAny (model prog w) A c' R s') (fun e s' => R (.error e) s') s := by
  obtain ⟨c₀, hS⟩ := hS
  have hSr : S ≠ r := fun e => by rw [e, hr] at hS; simp at hS
  have hSlt : S < s.heap.objs.size := Heap.lt_size hS
  have hSI : S ≠ s.heap.objs.size := Nat.ne_of_lt hSlt
  have key : ∀ (h : Heap) (c₁ tk : Nat), StRange n s.heap.objs.size a c 0 h → (∀ b o, b ≠ S → s.heap.get? b = some o → h.get? b = some o) →
      h.get? S = some { cls := .type "list", data := .seq acc0 c₁ } → codeAny (model prog w) A (.builtin "list.extend.loop" ⟨[.ref S, .ref s.heap.objs.size, res], []⟩) R { s with heap := h, toks := tk } := by
    intro h c₁ tk hit hk hS₁
    refine extR_loop hh S hSI res acc0 (by omega) n 0 _ acc0 [] rfl (Nat.zero_le _) hit ⟨_, hS₁⟩ (List.append_nil _).symm rfl (fun j v hj => by simp at hj) fun h' tk acc' new' hk' hS' he hl hP => ?_
    exact hR h' tk acc' new' (fun b o hb e => hk' b o hb (fun q => absurd (Heap.lt_size e) (by rw [q]; exact Nat.lt_irrefl _)) (hk b o hb e)) hS' he hl hP
  unfold Builtin.List.listExtendWith
  refine wpAny_bind (wpAny_typeOf (T := "range") ⟨_, hr, rfl⟩ ?_)
  have h1 : Builtin.List.listSameRef (.ref S) (.ref r) = false := by simp [Builtin.List.listSameRef, hSr]
  have h2 : (Value.type "range" == Value.type "list") = false := by decide
  have h3 : (Value.type "range" == Value.type "tuple") = false := by decide
  simp only [h1, h2, h3, Bool.or_false, Bool.false_eq_true, if_false]
  refine wpAny_bind (wpAny_pyIter_range hr hsmall ?_)
  refine wpAny_bind (wpAny_holding (wpAny_hint_range (n := n) (Heap.get?_push_of_some _ hr) hn (by rw [sizeLine_eq] at hz; omega) ?_))
  have hit₁ : StRange n s.heap.objs.size a c 0 (s.heap.push { cls := .type "range_iterator", data := .fields #[rawInt a, rawInt (Builtin.Range.rangeSize a b c), rawInt c] }) := by
    show IsRangeIter _ _ _ _ _; rw [hn]; simpa using Heap.get?_push_size _ rfl
  have hS₁ := Heap.get?_push_of_some { cls := .type "range_iterator", data := .fields #[rawInt a, rawInt (Builtin.Range.rangeSize a b c), rawInt c] } hS
  refine wpAny_ite_split (fun _ => ?_) (fun _ => wpAny_pure ⟨plainId_quiet F.plain_extend_loop _, key _ c₀ _ hit₁ (fun b o _ e => Heap.get?_push_of_some _ e) hS₁⟩)
  refine wpAny_bind (wpAny_rule ?_)
  refine wpAny_bind ?_
  show wpAny _ _ (updateSeq S (·.push .none) >>= fun _ => updateSeq S (·.pop)) _ _ _
  refine wpAny_bind (wpAny_updateSeq hS₁ rfl ?_ (by omega) (by show (acc0.push _).size ≤ _; rw [Array.size_push]; omega))
  have hS₂ := Heap.get?_update_self (Obj.mapSeq (·.push Value.none)) hS₁ rfl
  refine wpAny_updateSeq hS₂ rfl ?_ (by show (acc0.push _).size ≤ _; rw [Array.size_push]; omega) (by simp; omega)
  have hS₃ := Heap.get?_update_self (Obj.mapSeq (·.pop)) hS₂ rfl
  have hpp : (acc0.push Value.none).pop = acc0 := Array.pop_push ..
  refine wpAny_pure ⟨plainId_quiet F.plain_extend_loop _, key _ _ _ ?_ (fun b o hb e => ?_) (by simpa [Obj.mapSeq, hpp] using hS₃)⟩
  · exact (Heap.get?_update_other _ _ hSI).trans ((Heap.get?_update_other _ _ hSI).trans hit₁)
  · exact (Heap.get?_update_other _ _ (Ne.symm hb)).trans ((Heap.get?_update_other _ _ (Ne.symm hb)).trans (Heap.get?_push_of_some _ e))
theorem iadd_range {l r : Addr} {a b c : Int} {t u v : Tok} {n : Nat} {acc0 : Array Value} {Q : Value → Shared → Prop} (hh : A.handled = none) (hr : IsRange s.heap r a b c t u v) (hsmall : Builtin.Range.small a b c = true)
    (hn : Builtin.Range.rangeSize a b c = n) (hS : s.heap.PlainList l acc0) (hz : acc0.size + n + 1 ≤ sizeLine) (hnone : ∀ {Q : Option Value → Shared → Prop}, Q none s → wpAny (model prog w) A (binaryOp1 "add" (.ref l) (.ref r)) Q E s)
    (hQ : ∀ h' tk acc' new', (∀ b o, b ≠ l → s.heap.get? b = some o → h'.get? b = some o) → h'.PlainList l acc' → acc'.toList = acc0.toList ++ new' → new'.length = n → (∀ (j : Nat) (v : Value), new'[j]? = some v → ∃ t : Tok, v = Value.int (a + j * c) t) → Q (.ref l) { s with heap := h', toks := tk }) :
    wpAny (model prog w) A (inplaceOp .Add (.ref l) (.ref r)) Q E s := by
  have Tl : s.TypeIs (.ref l) "list" := hS.isList.typeIs
  refine iadd_road (U := "range") Tl ⟨_, hr, rfl⟩ F.slot_list_iadd.lookup (by decide +kernel) hnone ?_
  refine wpAny_call (codeAny_call_builtin F.slot_list_iadd.plain F.entry_list_iadd (F.slot_list_iadd.check _ _ _ _ _ _ _ _ Tl (F.args_list_iadd_2 _ _) ?_))
  exact ext_range (R := fun x s' => match x with | .ok (.ret v) => Q v s' | .ok _ => False | .error e => E e s') hh hr hsmall hn l (.ref l) acc0 hS hz hQ
theorem noFill_range_add : fillsNumberSlot (.type "range") "add" = pure false := by unfold fillsNumberSlot; kernel_rfl
theorem binop1_list_range {a b : Value} {Q : Option Value → Shared → Prop} (ha : s.TypeIs a "list") (hb : s.TypeIs b "range") (h : Q none s) : wpAny (model prog w) A (binaryOp1 "add" a b) Q E s := by
  simp only [binaryOp1]
  refine wpAny_bind (wpAny_typeOf ha (wpAny_bind (wpAny_typeOf hb (wpAny_bind (wpAny_of_eq noFill_list_add ?_)))))
  rw [if_neg (show ¬ ((Value.type "list" == Value.type "range") = true) by decide)]
  refine wpAny_bind (wpAny_of_eq noFill_range_add ?_)
  simp only [Bool.false_and, Bool.and_false, Bool.false_eq_true, if_false, pure_bind]
  exact wpAny_pure h
end
end Mine

namespace Mine
open PySem PySem.Calls PyProof.Rows

/-- the sizes before they are cut -/
def sizesD (ns : List Int) (t : Nat) (inf : Bool) : List Int := if inf = true then ns.take t ++ List.replicate (255 / ns.getD (t - 1) 0).toNat (ns.getD (t - 1) 0) else ns.take t
section
variable {prog : Program} {w : World} {A : Around} {E : Value → Shared → Prop} {s : Shared} {mg mb : Str → Option Value}
/-- x[-1] of a list of ints -/
theorem last_item {l : Addr} {vs : List Value} {ns : List Int} {tk : Tok} {Q : Value → Shared → Prop} (hl : s.heap.IsList l vs.toArray) (hi : IntsAre vs ns) (h0 : 0 < ns.length) (hQ : ∀ t', Q (.int (ns.getD (ns.length - 1) 0) t') s) :
    wpAny (model prog w) A (getItem (.ref l) (.int (-1) tk)) Q E s := by
  have hlen := hi.length
  obtain ⟨t', e⟩ := IntsAre.at hi (ns.length - 1) (ns.getD (ns.length - 1) 0) (by rw [List.getD_eq_getElem?_getD, List.getElem?_eq_getElem (by omega)]; rfl)
  have ez : (vs.toArray.size : Int) = (ns.length : Int) := by rw [List.size_toArray, hlen]
  refine wpAny_getItem_list_neg hl (by decide) (by omega) (by decide) (x := .int (ns.getD (ns.length - 1) 0) t') ?_ (hQ t')
  rw [ez, show ((-1 : Int) + (ns.length : Int)).toNat = ns.length - 1 by omega]
  simpa using e
end
end Mine

namespace Mine
open PySem PySem.Calls PyProof.Rows
section
variable {prog : Program} {w : World} {A : Around} {E : Value → Shared → Prop} {s : Shared} {mg mb : Str → Option Value}
/-- sizes = row[:stop] -/
theorem due_sizes {a l : Addr} {L : Nat} {cd : Value} {hb h : Heap} {tk : Tok} {m cm : Str → Option Value} {vs : List Value} {ns : List Int} {Q : Flow → Shared → Prop} (F0 : FrC hb L (csAt 67 L) h m cm) {t : Nat} {ts : Tok}
    (hcm : cm "row" = some (.ref l)) (hl : hb.IsList l vs.toArray) (hi : IntsAre vs ns) (hsz : vs.length ≤ 1000) (htl : t < ns.length) (hm : m "stop" = some (.int t ts))
    (hQ : ∀ h' tk' aS its, FrC hb L (csAt 67 L) h' m (fun y => if y = "sizes" then some (.ref aS) else cm y) → h'.PlainList aS its → IntsAre its.toList (ns.take t) → hb.get? aS = none → aS ≠ L → (∀ n c, (csAt 67 L).lookup n = some c → aS ≠ c) → Q .next { s with heap := h', toks := tk' }) :
    wpAny (model prog w) A (exec (dueStmt 2) (envC 67 L a cd)) Q E { s with heap := h, toks := tk } := by
  have cR := F0.cell "row" (L + 1) (by rfl)
  rw [hcm] at cR
  have hl0 := hl.at fun o e => F0.keep _ o e
  refine wpAny_Assign_Name (wpAny_Subscript_list_slice (wpAny_Name (wpAny_loadName_cell (c := L + 1) rfl (by rfl) (by rfl) cR ?_)))
  refine wpAny_pure (show wpAny (model prog w) A (eval _ _) _ _ _ from (wpAny_Name (wpAny_loadName_local rfl rfl F0.ns hm ⟨l, vs.toArray, none, some (t : Int), rfl, hl0, by rw [List.size_toArray, sizeLine_eq]; omega, .none, .int (t : Int) ts, ?_⟩)))
  have hI : IntsAre (slicePick vs.toArray none (some (t : Int)) none).toList (ns.take t) := by
    have := slice_ints_uptoW hi (y := (t : Int)) (by omega)
    rwa [Int.toNat_natCast] at this
  have pS := pushed_plain (h.push { cls := .type "slice", data := .fields #[.none, .int t ts, .none] }) (slicePick vs.toArray none (some (t : Int)) none)
  rw [Heap.size_push] at pS
  have kS : Kept h ((h.push { cls := .type "slice", data := .fields #[.none, .int t ts, .none] }).push { cls := .type "list", data := .seq (slicePick vs.toArray none (some (t : Int)) none) }) := (kept_push _ _).trans (kept_push _ _)
  have fS : h.get? (h.objs.size + 1) = none := Heap.get?_none_of_le (Nat.le_succ _)
  dsimp only
  generalize ((h.push { cls := .type "slice", data := .fields #[.none, .int t ts, .none] }).push { cls := .type "list", data := .seq (slicePick vs.toArray none (some (t : Int)) none) }) = hS at pS kS ⊢
  have F1 := F0.kept kS
  have nL : h.objs.size + 1 ≠ L := F0.ne fS
  have nC : ∀ n c, (csAt 67 L).lookup n = some c → h.objs.size + 1 ≠ c := fun n c hc => F0.neC fS hc
  have fB : hb.get? (h.objs.size + 1) = none := by
    cases e : hb.get? (h.objs.size + 1) with
    | none => rfl
    | some o => rw [F0.keep _ _ e] at fS; cases fS
  refine wpAny_storeName_cell (c := L + 2) rfl (by rfl) (by rfl) (F1.cell "sizes" (L + 2) (by rfl)) fun h3 hc3 hs3 => ?_
  exact hQ h3 _ _ _ (F1.setC (n := "sizes") (c := L + 2) (by rfl) hc3 hs3) (pS.extBut hs3.extBut (nC "sizes" (L + 2) (by rfl))) hI fB nL nC
end
end Mine

namespace Mine
open PySem PySem.Calls PyProof.Rows
section
variable {prog : Program} {w : World} {A : Around} {E : Value → Shared → Prop} {s : Shared} {mg mb : Str → Option Value}
theorem take_last {ns : List Int} {t : Nat} (h0 : 0 < t) (h : t < ns.length) : (ns.take t).getD ((ns.take t).length - 1) 0 = ns.getD (t - 1) 0 ∧ 0 < (ns.take t).length := by
  have hl : (ns.take t).length = t := by rw [List.length_take]; omega
  refine ⟨?_, by omega⟩
  rw [hl, List.getD_eq_getElem?_getD, List.getD_eq_getElem?_getD, List.getElem?_take]
  rw [if_pos (by omega)]
/-- if row[stop] == 0: sizes = sizes + [sizes[-1]] * (255 // sizes[-1]) -/
theorem due_more {a l aS : Addr} {L : Nat} {cd : Value} {hb h : Heap} {tk : Tok} {m cm : Str → Option Value} {vs : List Value} {ns : List Int} {its : Array Value} {Q : Flow → Shared → Prop} (F0 : FrC hb L (csAt 67 L) h m cm) {t : Nat} {ts : Tok} {inf : Bool}
    (hcm : cm "row" = some (.ref l)) (hcs : cm "sizes" = some (.ref aS)) (hl : hb.IsList l vs.toArray) (hi : IntsAre vs ns) (hsz : vs.length ≤ 1000) (RE : RowEnd ns t inf) (hp : ∀ j, j < t → 1 ≤ ns.getD j 0 ∧ ns.getD j 0 < 1073741824) (hm : m "stop" = some (.int t ts))
    (hS : h.PlainList aS its) (hiS : IntsAre its.toList (ns.take t)) (hfS : hb.get? aS = none) (hSL : aS ≠ L) (hSc : ∀ n c, (csAt 67 L).lookup n = some c → aS ≠ c)
    (hQ : ∀ h' tk' aS' its' cm', FrC hb L (csAt 67 L) h' m cm' → cm' "row" = some (.ref l) → cm' "sizes" = some (.ref aS') → h'.PlainList aS' its' → IntsAre its'.toList (sizesD ns t inf) → hb.get? aS' = none → aS' ≠ L → (∀ n c, (csAt 67 L).lookup n = some c → aS' ≠ c) → Q .next { s with heap := h', toks := tk' }) :
    wpAny (model prog w) A (exec (dueStmt 3) (envC 67 L a cd)) Q E { s with heap := h, toks := tk } := by
  have cR := F0.cell "row" (L + 1) (by rfl)
  rw [hcm] at cR
  have cS := F0.cell "sizes" (L + 2) (by rfl)
  rw [hcs] at cS
  have hl0 := hl.at fun o e => F0.keep _ o e
  obtain ⟨tv, ev⟩ := IntsAre.at hi t (ns.getD t 0) (by rw [List.getD_eq_getElem?_getD, List.getElem?_eq_getElem RE.lt]; rfl)
  have htl := RE.lt
  refine wpAny_If (wpAny_isTrue_Compare1 (Sub_any (wpAny_Name (wpAny_loadName_cell (c := L + 1) rfl (by rfl) (by rfl) cR (wpAny_Name (wpAny_loadName_local rfl rfl F0.ns hm ⟨"list", _, F.slot_list_getitem.lookup, hl0.typeIs, wpAny_getItem_list hl0 (by omega) (by rw [← hi.length] at htl; omega) (x := .int (ns.getD t 0) tv) (by simpa using ev) (wpAny_Constant_int (wpAny_eq_int (wpAny_truthy_bool ?_)))⟩))))) (by rfl))
  have hstop := RE.stop
  cases hinf : inf with
  | false =>
    rw [hinf] at hstop
    rw [if_neg (by rw [hstop]; decide)]
    refine wpAny_execs_nil (hQ h _ aS its cm F0 hcm hcs hS ?_ hfS hSL hSc)
    unfold sizesD; rw [hinf, if_neg (by decide)]; exact hiS
  | true =>
    rw [hinf] at hstop
    have h0t := RE.pos hinf
    obtain ⟨hlast, hpos⟩ := take_last h0t htl
    obtain ⟨hg1, hg2⟩ := hp (t - 1) (by omega)
    rw [if_pos (by rw [hstop]; decide)]
    have hSL' : h.IsList aS its.toList.toArray := by simpa using hS.isList
    refine wpAny_execs_cons (wpAny_Assign_Name (wpAny_BinOp (wpAny_Name (wpAny_loadName_cell (c := L + 2) rfl (by rfl) (by rfl) cS ?_))))
    refine wpAny_BinOp (List_new (spliced_cons (Sub_any ?_)))
    refine wpAny_Name (wpAny_loadName_cell (c := L + 2) rfl (by rfl) (by rfl) cS ?_)
    refine wpAny_UnaryOp (wpAny_Constant_int (P.neg_int ⟨"list", _, F.slot_list_getitem.lookup, hSL'.typeIs, last_item hSL' hiS hpos fun t1 => ?_⟩))
    rw [hlast]
    generalize hg : ns.getD (t - 1) 0 = g at hg1 hg2
    refine spliced_nil ⟨by rw [sizeLine_eq]; exact (show 1 ≤ 16777216 by decide), fun h2 a1 p1 k1 f1 => ?_⟩
    try dsimp only at p1 k1 f1 ⊢
    have cS2 := cS.keeps k1
    have hS2 : h2.PlainList aS its := hS.at fun o e => k1 _ o e
    have hSL2 := hSL'.at fun o e => k1 _ o e
    refine wpAny_BinOp (wpAny_Constant_int (Sub_any (wpAny_Name (wpAny_loadName_cell (c := L + 2) rfl (by rfl) (by rfl) cS2 (wpAny_UnaryOp (wpAny_Constant_int (P.neg_int ⟨"list", _, F.slot_list_getitem.lookup, hSL2.typeIs, last_item hSL2 hiS hpos fun t2 => ?_⟩)))))))
    rw [hlast, hg]
    refine op_div (by omega) hg2 fun t3 k3 => ?_
    have hq1 : 0 ≤ 255 / g := Int.ediv_nonneg (by omega) (by omega)
    have hq2 : 255 / g ≤ 255 := Int.ediv_le_self _ (by omega)
    refine mul_plain p1 (by omega) (by omega) (by simp; omega) fun h3 its3 e3 p3 k3' z3 => ?_
    have hS3 : h3.PlainList aS its := hS2.at fun o e => k3' _ o e
    have e3' : its3.toList = List.replicate (255 / g).toNat (.int g t1) := by rw [e3]; simp
    have hi3 : IntsAre its3.toList (List.replicate (255 / g).toNat g) := by
      rw [e3']
      generalize (255 / g).toNat = q
      induction q with
      | zero => exact .nil
      | succ q ih => exact .cons _ _ ih
    have l3 : its3.size ≤ 255 := by rw [← Array.length_toList, e3', List.length_replicate]; omega
    have ls : its.size ≤ 1000 := by
      rw [← Array.length_toList, hiS.length, List.length_take]
      rw [← hi.length] at htl
      omega
    refine add_plain hS3 p3 (by rw [sizeLine_eq]; omega) fun h4 p4 k4 z4 => ?_
    have F4 := F0.kept (k1.trans (k3'.trans k4))
    have fS : h3.get? h3.objs.size = none := Heap.get?_none_of_le (Nat.le_refl _)
    have F3 := F0.kept (k1.trans k3')
    dsimp only at p4 k4 z4 F4 F3 fS hS3 p3 ⊢
    have nL : h3.objs.size ≠ L := F3.ne fS
    have nC : ∀ n c, (csAt 67 L).lookup n = some c → h3.objs.size ≠ c := fun n c hc => F3.neC fS hc
    have fB : hb.get? h3.objs.size = none := by
      cases e : hb.get? h3.objs.size with
      | none => rfl
      | some o => rw [F3.keep _ _ e] at fS; cases fS
    generalize h3.objs.size = aS' at p4 nL nC fB ⊢
    refine wpAny_storeName_cell (c := L + 2) rfl (by rfl) (by rfl) (F4.cell "sizes" (L + 2) (by rfl)) fun h5 hc5 hs5 => ?_
    refine wpAny_execs_nil (hQ h5 _ aS' _ _ (F4.setC (n := "sizes") (c := L + 2) (by rfl) hc5 hs5) ((if_neg (by decide +kernel)).trans hcm) (if_pos rfl) (p4.extBut hs5.extBut (nC "sizes" (L + 2) (by rfl))) ?_ fB nL nC)
    unfold sizesD
    rw [hinf, if_pos rfl, hg, Array.toList_append]
    exact hiS.append hi3
end
end Mine

namespace Mine
open PySem PySem.Calls PyProof.Rows

theorem FrC.setX {hb h h' : Heap} {L : Nat} {cs : List (Str × Addr)} {m m' cm : Str → Option Value} (F0 : FrC hb L cs h m cm) (hn : h'.Ns L m') (k : ∀ b o, b ≠ L → h.get? b = some o → h'.get? b = some o) : FrC hb L cs h' m' cm where
  ns := hn
  keep := fun b o e => k b o (fun q => by rw [q, F0.bL] at e; cases e) (F0.keep b o e)
  above := F0.above
  cell := fun n c hc => let ⟨o, ho, hd⟩ := F0.cell n c hc; ⟨o, k _ _ (Nat.ne_of_gt (F0.up n c (mem_of_lookup hc))) ho, hd⟩
  apart := F0.apart
  up := F0.up
theorem FrC.fresh {hb h : Heap} {L : Nat} {cs : List (Str × Addr)} {m cm : Str → Option Value} (F0 : FrC hb L cs h m cm) {a : Addr} (e : h.get? a = none) : hb.get? a = none := by
  cases e' : hb.get? a with
  | none => rfl
  | some o => rw [F0.keep _ _ e'] at e; cases e
section
variable {prog : Program} {w : World} {A : Around} {E : Value → Shared → Prop} {s : Shared} {mg mb : Str → Option Value}
/-- sum(sizes[:k + 1]) of a list of ints, from a rule for its evaluation -/
theorem due_marks {a aS : Addr} {L : Nat} {cd : Value} {hb h : Heap} {tk : Tok} {m cm : Str → Option Value} {D : List Int} {its : Array Value} {Q : Flow → Shared → Prop} (hA : A.handled = none) (G : Gl mg mb hb) (F0 : FrC hb L (csAt 67 L) h m cm) {t : Nat} {ts : Tok}
    (hrg : mg "range" = none) (hrb : mb "range" = some (.type "range")) (hlg : mg "len" = none) (hlb : mb "len" = some (.builtin "len")) (hmg : mg "min" = none) (hmb : mb "min" = some (.builtin "min")) (hsg : mg "sum" = none) (hsb : mb "sum" = some (.builtin "sum"))
    (hcs : cm "sizes" = some (.ref aS)) (hm : m "stop" = some (.int t ts)) (hS : h.PlainList aS its) (hiS : IntsAre its.toList D) (htD : t ≤ D.length) (hDl : D.length ≤ 2000) (hSL : aS ≠ L)
    (hQ : ∀ h' tk' aM itsM, FrC hb L (csAt 67 L) h' (fun y => if y = "marks" then some (.ref aM) else m y) cm → h'.PlainList aS its → h'.PlainList aM itsM → IntsAre itsM.toList ((List.range t).map fun j => (D.take (j + 1)).sum) → hb.get? aM = none → aM ≠ L → aM ≠ aS → (∀ n c, (csAt 67 L).lookup n = some c → aM ≠ c) → Q .next { s with heap := h', toks := tk' }) :
    wpAny (model prog w) A (exec (dueStmt 4) (envC 67 L a cd)) Q E { s with heap := h, toks := tk } := by
  have cS := F0.cell "sizes" (L + 2) (by rfl)
  rw [hcs] at cS
  have hSl : h.IsList aS its.toList.toArray := by simpa using hS.isList
  have hlen := hiS.length
  refine wpAny_Assign_ListComp_free (cl := [("sizes", L + 2)]) (fun _ => true) (fun v y => ∃ j t1 t2, v = .int (j : Nat) t1 ∧ y = .int ((D.take (j + 1)).sum) t2) (by rfl) (by rfl) (by decide +kernel) (by rfl) (by decide +kernel) (by rfl) (by rfl) (by rfl) ?_
  refine range1_it (G.keeps F0.keep) hrg hrb (wpAny_Call_NameR (ldB (G.keeps F0.keep) hmg hmb (cw2 ?_)))
  refine wpAny_Name (wpAny_loadName_local rfl rfl F0.ns hm (wpAny_Call_NameR (ldB (G.keeps F0.keep) hlg hlb (cw1 (wpAny_Name (wpAny_loadName_cell (c := L + 2) rfl (by rfl) (by rfl) cS (len_list hSl (by rw [List.size_toArray]; omega) ?_)))))))
  have ez : (its.toList.toArray.size : Int) = (D.length : Nat) := by rw [List.size_toArray, hlen]
  rw [ez]
  refine min_two_ints hA fun h2 tk2 k2 => ?_
  replace k2 : Kept h h2 := k2
  rw [show (if ((D.length : Nat) : Int) < ((t : Nat) : Int) then _ else _ : Value) = Value.int (t : Nat) ts from if_neg (by omega)]
  refine ⟨_, _, rfl, by omega, by omega, fun I h7 tk7 hk7 hI hIlt hit => ⟨I, [I], [I], t, PRange t 0 1, StRange t I 0 1, m, rfl, walks_range (A := A) hA I 0 1 _, by rw [sizeLine_eq]; omega, hit, ?_, ?_, ?_, ⟨?_, ?_⟩, ?_⟩⟩
  · exact fun b hb => by rw [List.mem_singleton.mp hb]; exact hIlt
  · intro hm'
    have hIL := (F0.kept k2).ne hI
    exact hIL (List.mem_singleton.mp hm').symm
  · exact ((F0.kept k2).kept hk7).ns
  · rintro C i v s₃ m₃ E' hC hP hns hm hk -
    exact wpAny_pure ⟨rfl, Keeps.self _⟩
  · rintro C i v s₃ m₃ E' hC ⟨hi', ti, rfl⟩ hpv hns hm3 hk -
    have ei : (0 + (i : Int) * 1) = i := by omega
    rw [ei] at hm3 ⊢
    have hI0 : h.get? I = none := by
      cases e : h.get? I with
      | none => rfl
      | some o => have := k2 _ _ e; rw [hI] at this; cases this
    have hkk : Kept h s₃.heap := kept_of hk (one_none hI0) (k2.trans hk7)
    have hl3 := hSl.at fun o e => hkk _ o e
    have cS3 := cS.keeps hkk
    refine wpAny_Call_NameR (ldB (G.keeps fun b o e => hkk b o (F0.keep b o e)) hsg hsb (cw1 (wpAny_Subscript_list_slice (wpAny_Name (wpAny_loadName_cell (c := L + 2) rfl (by rfl) (by rfl) cS3 ?_)))))
    refine wpAny_pure (show wpAny (model prog w) A (eval _ _) _ _ _ from (wpAny_BinOp (wpAny_Name (wpAny_loadName_local rfl (by rfl) hns hm3 (wpAny_Constant_int (op_add fun t5 k5 => ?_))))))
    refine ⟨aS, its.toList.toArray, none, some ((i : Int) + 1), rfl, hl3, by rw [List.size_toArray, sizeLine_eq]; omega, .none, .int _ _, ?_⟩
    have hI : IntsAre (slicePick its.toList.toArray none (some ((i : Int) + 1)) none).toList (D.take (i + 1)) := by
      have := slice_ints_uptoW hiS (y := (i : Int) + 1) (by omega)
      rwa [show ((i : Int) + 1).toNat = i + 1 by omega] at this
    dsimp only
    refine sum_ok (vs := (slicePick its.toList.toArray none (some ((i : Int) + 1)) none).toList) hA (Heap.PlainList.isList ?_) hI fun h9 tk9 t9 k9 => ⟨⟨i, _, _, rfl, rfl⟩, ⟨h9, _, rfl, fun b o e => ?_⟩⟩
    · have := pushed_plain (s₃.heap.push { cls := .type "slice", data := .fields #[.none, .int ((i : Int) + 1) t5, .none] }) (slicePick its.toList.toArray none (some ((i : Int) + 1)) none)
      rw [Heap.size_push] at this
      simpa using this
    · exact k9 b o (kept_push _ _ b o (kept_push _ _ b o e))
  intro Dl h8 tk8 ys us hDn hl8 hpl8 hlen8 hP hF8 hns8 hk8
  rw [filter_true] at hF8
  have hkD : ∀ b o, b ≠ L → h.get? b = some o → h8.get? b = some o := fun b o hb e => hk8 b o hb (fun hm' => by
    rw [List.mem_singleton.mp hm'] at e
    have := k2 _ _ e
    rw [hI] at this; cases this) (hk7 b o (k2 b o e))
  have hDf : h.get? Dl = none := by
    cases e : h.get? Dl with
    | none => rfl
    | some o => have := hk7 _ _ (k2 _ _ e); rw [hDn] at this; cases this
  have hlY : ys.toList.length = t := by rw [← hF8.length, hlen8]
  have hyi : IntsAre ys.toList ((List.range t).map fun j => (D.take (j + 1)).sum) := by
    have := ints_of (vs := ys.toList) (f := fun j => (D.take (j + 1)).sum) fun j v hj => by
      have hjt : j < t := by
        have := (List.getElem?_eq_some_iff.mp hj).1
        omega
      obtain ⟨y, hy, k, t1, t2, e1, e2⟩ := Paired_at hF8 j _ (List.getElem?_eq_getElem (by omega : j < us.length))
      obtain ⟨_, t3, e3⟩ := hP j _ (List.getElem?_eq_getElem (by omega : j < us.length))
      rw [hj] at hy
      cases hy
      rw [e3] at e1
      injection e1 with e1 _
      have : k = j := by omega
      subst this
      exact ⟨t2, e2⟩
    rw [hlY] at this
    exact this
  exact hQ h8 _ Dl ys (F0.setX hns8 hkD) (hS.at fun o e => hkD _ o hSL e) hpl8 hyi (F0.fresh hDf) (F0.ne hDf) (fun q => by
    obtain ⟨c, e⟩ := hS
    rw [q, e] at hDf; cases hDf) fun n c hc => F0.neC hDf hc
end
end Mine

namespace Mine
open PySem PySem.Calls PyProof.Rows

theorem range_small {a b c : Int} (hc : 0 < c) (hc2 : c < 2 ^ 30) (ha : -(2 ^ 61) ≤ a) (ha' : a < 2 ^ 61) (hb : -(2 ^ 61) ≤ b) (hb' : b < 2 ^ 61) : Builtin.Range.small a b c = true := by
  have hs : 0 ≤ Builtin.Range.rangeSize a b c ∧ Builtin.Range.rangeSize a b c < 2 ^ 63 := by
    unfold Builtin.Range.rangeSize
    rw [if_pos hc]
    by_cases h : a < b
    · rw [if_pos h]
      have h1 : 0 ≤ (b - a - 1) / c := Int.ediv_nonneg (by omega) (by omega)
      have h2 : (b - a - 1) / c ≤ b - a - 1 := Int.ediv_le_self _ (by omega)
      omega
    · rw [if_neg h]; omega
  simp [Builtin.Range.small, Builtin.Range.rangeFitsLong, hc]
  omega
theorem cs67 {L : Nat} {n : Str} {c : Addr} (h : (n, c) ∈ csAt 67 L) : (csAt 67 L).lookup n = some c := by
  have e : csAt 67 L = [((Str.ofString "sizes" : Str), L + 2), (Str.ofString "row", L + 1)] := by rfl
  rw [e] at h ⊢
  rcases List.mem_cons.mp h with q | q
  · cases q; exact List.lookup_cons_self
  · rcases List.mem_cons.mp q with q | q
    · cases q; rw [List.lookup_cons, show (Str.ofString "row" == Str.ofString "sizes") = false by decide +kernel]; exact List.lookup_cons_self
    · cases q
theorem sumY_le {ns : List Int} {t : Nat} (hp : ∀ j, j < t → ns.getD j 0 < 1073741824) : ∀ k, k ≤ t → sumY ns t k ≤ k * 1073741824
  | 0, _ => by simp [sumY]
  | k + 1, h => by
    have := sumY_le hp k (by omega)
    have := hp k (by omega)
    rw [sumY_succ, yv, if_pos (by omega)]; omega
/-- how far the range behind the stop goes -/
theorem range_cnt {a g : Int} (hg : 0 < g) : ∃ n : Nat, Builtin.Range.rangeSize a 256 g = n ∧ 256 ≤ a + n * g ∧ ((n : Int) ≤ 256 - a ∨ n = 0) := by
  unfold Builtin.Range.rangeSize
  rw [if_pos hg]
  by_cases h : a < 256
  · rw [if_pos h]
    have h1 : 0 ≤ (256 - a - 1) / g := Int.ediv_nonneg (by omega) (by omega)
    have h2 : (256 - a - 1) / g ≤ 256 - a - 1 := Int.ediv_le_self _ (by omega)
    have h3 : (256 - a - 1) = g * ((256 - a - 1) / g) + (256 - a - 1) % g := (Int.mul_ediv_add_emod _ _).symm
    have h4 : (256 - a - 1) % g < g := Int.emod_lt_of_pos _ hg
    refine ⟨((256 - a - 1) / g + 1).toNat, by omega, ?_, by omega⟩
    rw [Int.toNat_of_nonneg (by omega), Int.add_mul, Int.mul_comm]; omega
  · rw [if_neg h]
    exact ⟨0, rfl, by simp; omega, .inr rfl⟩
section
variable {prog : Program} {w : World} {A : Around} {E : Value → Shared → Prop} {s : Shared} {mg mb : Str → Option Value}
theorem range3_new {a b c : Int} {t u v : Tok} {Q : Value → Shared → Prop} (hc : 0 < c) (hc2 : c < 1073741824)
    (hQ : ∀ h' r tk, IsRange h' r a b c t u v → Kept s.heap h' → s.heap.get? r = none → Q (.ref r) { s with heap := h', toks := tk }) :
    wpAny (model prog w) A (call (.type "range") [.int a t, .int b u, .int c v] []) Q E s :=
  call_range_3 (by omega) (hQ _ _ _ (IsRange.new s.heap a b c t u v) (kept_push _ _) (Heap.get?_none_of_le (Nat.le_refl _))) (Or.inl (PyProof.noPylong_small (by omega)))
/-- if row[stop] == 0: marks += range(marks[-1] + sizes[-1], 256, sizes[-1]) -/
theorem due_grow {a l aS aM : Addr} {L : Nat} {cd : Value} {hb h : Heap} {tk : Tok} {m cm : Str → Option Value} {vs : List Value} {ns D : List Int} {its itsM : Array Value} {Q : Flow → Shared → Prop} (hA : A.handled = none) (G : Gl mg mb hb) (F0 : FrC hb L (csAt 67 L) h m cm) {t : Nat} {ts : Tok} {inf : Bool}
    (hrg : mg "range" = none) (hrb : mb "range" = some (.type "range"))
    (hcm : cm "row" = some (.ref l)) (hcs : cm "sizes" = some (.ref aS)) (hl : hb.IsList l vs.toArray) (hi : IntsAre vs ns) (hsz : vs.length ≤ 1000) (RE : RowEnd ns t inf) (hp : ∀ j, j < t → 1 ≤ ns.getD j 0 ∧ ns.getD j 0 < 1073741824) (hm : m "stop" = some (.int t ts))
    (hS : h.PlainList aS its) (hiS : IntsAre its.toList D) (hD : inf = true → D.getD (D.length - 1) 0 = ns.getD (t - 1) 0 ∧ 0 < D.length)
    (hmM : m "marks" = some (.ref aM)) (hM : h.PlainList aM itsM) (hiM : IntsAre itsM.toList ((List.range t).map fun j => sumY ns t (j + 1))) (hfM : hb.get? aM = none) (hML : aM ≠ L) (hMS : aM ≠ aS) (hSL : aS ≠ L) (hMc : ∀ n c, (csAt 67 L).lookup n = some c → aM ≠ c)
    (hQ : ∀ h' tk' m' itsM' M, FrC hb L (csAt 67 L) h' m' cm → m' "marks" = some (.ref aM) → h'.PlainList aS its → h'.PlainList aM itsM' → IntsAre itsM'.toList ((List.range M).map fun j => sumY ns t (j + 1)) → t ≤ M → M ≤ t + 256 → (inf = false → M = t) → (inf = true → 256 ≤ sumY ns t (M + 1)) → Q .next { s with heap := h', toks := tk' }) :
    wpAny (model prog w) A (exec (dueStmt 5) (envC 67 L a cd)) Q E { s with heap := h, toks := tk } := by
  have cR := F0.cell "row" (L + 1) (by rfl)
  rw [hcm] at cR
  have cS := F0.cell "sizes" (L + 2) (by rfl)
  rw [hcs] at cS
  have hl0 := hl.at fun o e => F0.keep _ o e
  obtain ⟨tv, ev⟩ := IntsAre.at hi t (ns.getD t 0) (by rw [List.getD_eq_getElem?_getD, List.getElem?_eq_getElem RE.lt]; rfl)
  have htl := RE.lt
  refine wpAny_If (wpAny_isTrue_Compare1 (Sub_any (wpAny_Name (wpAny_loadName_cell (c := L + 1) rfl (by rfl) (by rfl) cR (wpAny_Name (wpAny_loadName_local rfl rfl F0.ns hm ⟨"list", _, F.slot_list_getitem.lookup, hl0.typeIs, wpAny_getItem_list hl0 (by omega) (by rw [← hi.length] at htl; omega) (x := .int (ns.getD t 0) tv) (by simpa using ev) (wpAny_Constant_int (wpAny_eq_int (wpAny_truthy_bool ?_)))⟩))))) (by rfl))
  have hstop := RE.stop
  cases hinf : inf with
  | false =>
    rw [hinf] at hstop
    rw [if_neg (by rw [hstop]; decide)]
    exact wpAny_execs_nil (hQ h _ m itsM t F0 hmM hS hM hiM (Nat.le_refl _) (by omega) (fun _ => rfl) (fun e => by rw [hinf] at e; cases e))
  | true =>
    rw [hinf] at hstop
    have h0t := RE.pos hinf
    obtain ⟨hlast, hpos⟩ := hD hinf
    obtain ⟨hg1, hg2⟩ := hp (t - 1) (by omega)
    have hafter := sumY_after (ns := ns) (t := t) h0t
    obtain ⟨g, hg⟩ : ∃ g, ns.getD (t - 1) 0 = g := ⟨_, rfl⟩
    rw [hg] at hlast hg1 hg2 hafter
    have hg0 : 0 < g := by omega
    obtain ⟨n, hn, hn1, hn2⟩ := range_cnt (a := sumY ns t t + g) (g := g) hg0
    rw [if_pos (by rw [hstop]; decide)]
    have hSL' : h.IsList aS its.toList.toArray := by simpa using hS.isList
    have hML' : h.IsList aM itsM.toList.toArray := by simpa using hM.isList
    have hMlast : ((List.range t).map fun j => sumY ns t (j + 1)).getD (((List.range t).map fun j => sumY ns t (j + 1)).length - 1) 0 = sumY ns t t := by
      rw [List.length_map, List.length_range, List.getD_eq_getElem?_getD, List.getElem?_map, List.getElem?_range (by omega)]
      simp only [Option.map_some, Option.getD_some]
      rw [show t - 1 + 1 = t by omega]
    have hY1 := sumY_le (fun j hj => (hp j hj).2) t (Nat.le_refl _)
    have hY0 := sumY_ge (fun j hj => (hp j hj).1) t fun j hj => .inl hj
    have ht1 : t ≤ 1000 := by rw [← hi.length] at htl; omega
    have hsm := range_small (a := sumY ns t t + g) (b := 256) (c := g) hg0 hg2 (by omega) (by omega) (by decide) (by decide)
    have hsz' : itsM.size = t := by rw [← Array.length_toList, hiM.length]; simp
    have hszM : itsM.size + n + 1 ≤ sizeLine := by rw [hsz', sizeLine_eq]; omega
    refine wpAny_execs_cons (wpAny_AugAssign_Name (wpAny_loadName_local rfl rfl F0.ns hmM (wpAny_Call_NameR (ldB (G.keeps F0.keep) hrg hrb (PySem.callWith_type rfl (Calls.evalArgs_plain (Calls.spliced_cons ?_)))))))
    refine wpAny_BinOp (Sub_any (wpAny_Name (wpAny_loadName_local rfl rfl F0.ns hmM (wpAny_UnaryOp (wpAny_Constant_int (P.neg_int ⟨"list", _, F.slot_list_getitem.lookup, hML'.typeIs, last_item hML' hiM (by simpa using h0t) fun t1 => ?_⟩))))))
    rw [hMlast]
    refine Sub_any (wpAny_Name (wpAny_loadName_cell (c := L + 2) rfl (by rfl) (by rfl) cS (wpAny_UnaryOp (wpAny_Constant_int (P.neg_int ⟨"list", _, F.slot_list_getitem.lookup, hSL'.typeIs, last_item hSL' hiS hpos fun t2 => ?_⟩)))))
    rw [hlast]
    refine op_add fun t3 k3 => Calls.spliced_cons (wpAny_Constant_int (k := 0) (pos := ⟨0, 0, 0, 0⟩) (Calls.spliced_cons ?_))
    refine Sub_any (wpAny_Name (wpAny_loadName_cell (c := L + 2) rfl (by rfl) (by rfl) cS (wpAny_UnaryOp (wpAny_Constant_int (P.neg_int ⟨"list", _, F.slot_list_getitem.lookup, hSL'.typeIs, last_item hSL' hiS hpos fun t4 => ?_⟩)))))
    rw [hlast]
    refine Calls.spliced_nil ?_
    refine range3_new hg0 hg2 fun h4 r4 tk4 hnew hk4 hf4 => ?_
    replace hk4 : Kept h h4 := hk4
    have hM' : h4.PlainList aM itsM := hM.at fun o' e => hk4 _ o' e
    refine iadd_range hA hnew hsm hn hM' hszM (fun {Q} hq => binop1_list_range hM'.isList.typeIs ⟨_, hnew, rfl⟩ hq) fun h5 tk5 acc new hk5 hp5 he5 hl5 hP5 => ?_
    have hkX : ∀ b o, b ≠ aM → h.get? b = some o → h5.get? b = some o := fun b o hb e => hk5 b o hb (hk4 b o e)
    have F5 : FrC hb L (csAt 67 L) h5 m cm := F0.at' fun b o hb e => hkX b o (by
      rcases hb with q | ⟨n', hn'⟩ | ⟨o', ho'⟩
      · rw [q]; exact Ne.symm hML
      · rintro rfl
        exact hMc n' b (cs67 hn') rfl
      · rintro rfl
        rw [hfM] at ho'; cases ho') e
    refine wpAny_storeName_local rfl F5.ns fun h6 hn6 hs6 => ?_
    refine wpAny_execs_nil (hQ h6 _ _ acc (t + n) (F5.set hn6 hs6) (if_pos rfl) ((hS.at fun o e => hkX _ o (Ne.symm hMS) e).extBut hs6.extBut hSL) (hp5.extBut hs6.extBut hML) ?_ (by omega) (by omega) (fun e => by rw [hinf] at e; cases e) fun _ => ?_)
    · rw [he5, List.range_add, List.map_append]
      refine hiM.append ?_
      have := ints_of (vs := new) (f := fun j => sumY ns t t + g + j * g) hP5
      rw [hl5] at this
      rw [List.map_map]
      have e : ((fun j => sumY ns t (j + 1)) ∘ fun x => t + x) = fun j : Nat => sumY ns t t + g + (j : Int) * g := by
        funext j
        show sumY ns t (t + j + 1) = _
        rw [Nat.add_assoc, hafter (j + 1), Int.natCast_add, Int.add_mul]; simp; omega
      rw [e]; exact this
    · rw [Nat.add_assoc, hafter (n + 1), Int.natCast_add, Int.add_mul]; simp; omega
end
end Mine

namespace Mine
open PySem PySem.Calls PyProof.Rows

def lt256 (v : Value) : Bool := match v with
  | .int k _ => decide (k < 256)
  | _ => false
section
variable {prog : Program} {w : World} {A : Around} {E : Value → Shared → Prop} {s : Shared} {mg mb : Str → Option Value}
/-- an iterator over a list -/
theorem list_it {l : Addr} {items : Array Value} {Q : Value → Shared → Prop} (hl : s.heap.IsList l items)
    (h : ∀ h' I, Kept s.heap h' → s.heap.get? I = none → I < h'.objs.size → l < h'.objs.size → l ≠ I → h'.IsListIter I l 0 ∧ h'.IsList l items → Q (.ref I) { s with heap := h' }) : wpAny (model prog w) A (pyIter (.ref l)) Q E s := by
  have hlt : l < s.heap.objs.size := by obtain ⟨o, ho, _⟩ := hl; exact Heap.lt_size ho
  refine wpAny_pyIter_list hl (h _ _ (kept_push _ _) (Heap.get?_none_of_le (Nat.le_refl _)) (by rw [Heap.size_push]; exact Nat.lt_succ_self _) (by rw [Heap.size_push]; exact Nat.lt_succ_of_lt hlt) (Nat.ne_of_lt hlt) ⟨⟨_, Heap.get?_push_size _ rfl, rfl, rfl⟩, hl.at fun o e => kept_push _ _ _ o e⟩)
/-- marks = [mark for mark in marks if mark < 256] -/
theorem due_cut {a aM : Addr} {L : Nat} {cd : Value} {hb h : Heap} {tk : Tok} {m cm : Str → Option Value} {X : List Int} {itsM : Array Value} {Q : Flow → Shared → Prop} (hA : A.handled = none) (F0 : FrC hb L (csAt 67 L) h m cm)
    (hmM : m "marks" = some (.ref aM)) (hM : h.PlainList aM itsM) (hiM : IntsAre itsM.toList X) (hXl : X.length ≤ 3000) (hML : aM ≠ L)
    (hQ : ∀ h' tk' aN itsN, FrC hb L (csAt 67 L) h' (fun y => if y = "marks" then some (.ref aN) else m y) cm → (∀ b o, b ≠ L → h.get? b = some o → h'.get? b = some o) → h'.PlainList aN itsN → IntsAre itsN.toList (X.filter fun v => decide (v < 256)) → hb.get? aN = none → Q .next { s with heap := h', toks := tk' }) :
    wpAny (model prog w) A (exec (dueStmt 6) (envC 67 L a cd)) Q E { s with heap := h, toks := tk } := by
  have hSl : h.IsList aM itsM.toList.toArray := by simpa using hM.isList
  have hlen := hiM.length
  refine wpAny_Assign_ListComp_free (cl := []) lt256 (fun v y => y = v) (by rfl) (by rfl) (by decide +kernel) (by rfl) (by decide +kernel) (by rfl) (by rfl) (by rfl) ?_
  refine wpAny_Name (wpAny_loadName_local rfl rfl F0.ns hmM (list_it hSl fun h7 I hk7 hI hIlt hllt hlI hit => ?_))
  refine ⟨I, [I, aM], [I], itsM.toList.toArray.size, fun i v => itsM.toList.toArray[i]? = some v, fun i h => h.IsListIter I aM i ∧ h.IsList aM itsM.toList.toArray, m, rfl, Walks.list hA I aM hlI _, by rw [List.size_toArray, sizeLine_eq]; omega, hit, ?_, ?_, ?_, ⟨?_, ?_⟩, ?_⟩
  · intro b hb
    rcases List.mem_cons.mp hb with q | q
    · rw [q]; exact hIlt
    · rw [List.mem_singleton.mp q]; exact hllt
  · intro hm'
    exact F0.ne hI (List.mem_singleton.mp hm').symm
  · exact (F0.kept hk7).ns
  · rintro C i v s₃ m₃ E' hC hP hns hm hk -
    obtain ⟨k, tv, rfl⟩ : ∃ k tv, v = .int k tv := by
      obtain ⟨x, hx⟩ : ∃ x, X[i]? = some x := ⟨_, List.getElem?_eq_getElem (by
        have := (Array.getElem?_eq_some_iff.mp hP).1
        rw [List.size_toArray] at this; omega)⟩
      obtain ⟨tv, e⟩ := IntsAre.at hiM i x hx
      have hP' : itsM.toList[i]? = some v := by simpa using hP
      rw [e] at hP'
      exact ⟨x, tv, (Option.some.inj hP').symm⟩
    rw [List.forIn_cons, if_pos rfl]
    refine wpAny_bind (wpAny_bind (wpAny_isTrue_Compare1 (wpAny_Name (wpAny_loadName_local rfl (by rfl) hns hm (wpAny_Constant_int (wpAny_lt_int (wpAny_truthy_bool ?_))))) (by rfl)))
    refine wpAny_pure ?_
    show wpAny _ _ (forIn [] _ _) _ _ _
    rw [List.forIn_nil]
    exact wpAny_pure ⟨rfl, Keeps.of (Kept.refl _)⟩
  · rintro C i v s₃ m₃ E' hC hP hpv hns hm hk -
    exact wpAny_Name (wpAny_loadName_local rfl (by rfl) hns hm ⟨rfl, Keeps.self _⟩)
  intro Dl h8 tk8 ys us hDn hl8 hpl8 hlen8 hP hF8 hns8 hk8
  have hkD : ∀ b o, b ≠ L → h.get? b = some o → h8.get? b = some o := fun b o hb e => hk8 b o hb (fun hm' => by
    rw [List.mem_singleton.mp hm'] at e
    have e' : h.get? I = none := hI
    rw [e'] at e; cases e) (hk7 b o e)
  have hDf : h.get? Dl = none := by
    cases e : h.get? Dl with
    | none => rfl
    | some o => have := hk7 _ _ e; rw [hDn] at this; cases this
  have hus : us = itsM.toList := by
    refine List.ext_getElem? fun j => ?_
    rw [List.size_toArray] at hlen8
    by_cases hj : j < us.length
    · have := hP j _ (List.getElem?_eq_getElem hj)
      rw [List.getElem?_eq_getElem hj]
      rw [← this]; simp
    · rw [List.getElem?_eq_none (by omega), List.getElem?_eq_none (by omega)]
  subst hus
  have hys := Paired_filter (q := fun v => decide (v < 256)) hiM (fun n t' => rfl) (fun n t' v e => ⟨t', e⟩) hF8
  exact hQ h8 _ Dl ys (F0.setX hns8 hkD) hkD hpl8 hys (F0.fresh hDf)
/-- return [sizes[:len(marks)], marks] -/
theorem due_ret {a aS aM : Addr} {L : Nat} {cd : Value} {hb h : Heap} {tk : Tok} {m cm : Str → Option Value} {D X : List Int} {its itsM : Array Value} {Q : Flow → Shared → Prop} (F0 : FrC hb L (csAt 67 L) h m cm) (G : Gl mg mb hb) (hlg : mg "len" = none) (hlb : mb "len" = some (.builtin "len"))
    (hcs : cm "sizes" = some (.ref aS)) (hS : h.PlainList aS its) (hiS : IntsAre its.toList D) (hDl : D.length ≤ 3000)
    (hmM : m "marks" = some (.ref aM)) (hM : h.PlainList aM itsM) (hiM : IntsAre itsM.toList X) (hXl : X.length ≤ 3000)
    (hQ : ∀ h' tk' r a1 its1, Kept hb h' → h'.PlainList r #[.ref a1, .ref aM] → h'.PlainList a1 its1 → IntsAre its1.toList (D.take X.length) → h'.PlainList aM itsM → hb.get? r = none → hb.get? a1 = none → Q (.ret (.ref r)) { s with heap := h', toks := tk' }) :
    wpAny (model prog w) A (exec (dueStmt 7) (envC 67 L a cd)) Q E { s with heap := h, toks := tk } := by
  have cS := F0.cell "sizes" (L + 2) (by rfl)
  rw [hcs] at cS
  have hSl : h.IsList aS its.toList.toArray := by simpa using hS.isList
  have hMl : h.IsList aM itsM.toList.toArray := by simpa using hM.isList
  have hlen := hiS.length
  have hlenM := hiM.length
  refine wpAny_Return_some (List_new (spliced_cons (wpAny_Subscript_list_slice (wpAny_Name (wpAny_loadName_cell (c := L + 2) rfl (by rfl) (by rfl) cS ?_)))))
  refine wpAny_pure (show wpAny (model prog w) A (eval _ _) _ _ _ from (wpAny_Call_NameR (ldB (G.keeps F0.keep) hlg hlb (cw1 (wpAny_Name (wpAny_loadName_local rfl rfl F0.ns hmM (len_list hMl (by rw [List.size_toArray]; omega) ?_)))))))
  have ez : (itsM.toList.toArray.size : Int) = (X.length : Nat) := by rw [List.size_toArray, hlenM]
  rw [ez]
  refine ⟨aS, its.toList.toArray, none, some (X.length : Int), rfl, hSl, by rw [List.size_toArray, sizeLine_eq]; omega, .none, .int _ _, ?_⟩
  have hI : IntsAre (slicePick its.toList.toArray none (some (X.length : Int)) none).toList (D.take X.length) := by
    have := slice_ints_uptoW hiS (y := (X.length : Int)) (by omega)
    rwa [Int.toNat_natCast] at this
  generalize slicePick its.toList.toArray none (some (X.length : Int)) none = pk at hI ⊢
  have pS := fun o => pushed_plain (h.push o) pk
  have kS : ∀ o, Kept h ((h.push o).push { cls := .type "list", data := .seq pk }) := fun o => (kept_push _ _).trans (kept_push _ _)
  have fS : h.get? (h.objs.size + 1) = none := Heap.get?_none_of_le (Nat.le_succ _)
  simp only [Heap.size_push] at pS
  dsimp only
  generalize h.objs.size + 1 = a1 at pS fS ⊢
  refine spliced_cons (wpAny_Name (wpAny_loadName_local rfl rfl ((F0.kept (kS _)).ns) hmM (spliced_nil ⟨by rw [sizeLine_eq]; exact (show 2 ≤ 16777216 by decide), fun h2 r pr kr fr => ?_⟩)))
  dsimp only at kr fr
  have kk : Kept h h2 := fun b o e => kr _ _ (kS _ _ _ e)
  refine hQ h2 _ r a1 pk (F0.kept kk).keep pr ((pS _).at fun o e => kr _ o e) hI (hM.at fun o e => kk _ o e) ((F0.kept (kS _)).fresh fr) (F0.fresh fS)
end
end Mine

namespace Mine
open PySem PySem.Calls PyProof.Rows
section
variable {ns : List Int} {t : Nat} {inf : Bool}
theorem sizesD_len (RE : RowEnd ns t inf) (hp : ∀ j, j < t → 1 ≤ ns.getD j 0) : t ≤ (sizesD ns t inf).length ∧ (sizesD ns t inf).length ≤ t + 255 := by
  have h1 := RE.lt
  have hl : (ns.take t).length = t := by rw [List.length_take]; omega
  unfold sizesD
  by_cases h : inf = true
  · rw [if_pos h, List.length_append, hl, List.length_replicate]
    have h2 : 255 / ns.getD (t - 1) 0 ≤ 255 := Int.ediv_le_self _ (by omega)
    omega
  · rw [if_neg h, hl]; omega
theorem sizesD_get (RE : RowEnd ns t inf) {i : Nat} (hi : i < (sizesD ns t inf).length) : (sizesD ns t inf)[i]? = some (yv ns t i) := by
  have h1 := RE.lt
  have hl : (ns.take t).length = t := by rw [List.length_take]; omega
  unfold sizesD at hi ⊢
  unfold yv
  by_cases h : inf = true
  · rw [if_pos h] at hi ⊢
    by_cases hit : i < t
    · rw [if_pos hit, List.getElem?_append_left (by omega), List.getElem?_take, if_pos hit, List.getD_eq_getElem?_getD, List.getElem?_eq_getElem (by omega)]; rfl
    · rw [List.length_append, hl, List.length_replicate] at hi
      rw [if_neg hit, List.getElem?_append_right (by omega), List.getElem?_replicate, if_pos (by omega)]
  · rw [if_neg h] at hi ⊢
    rw [hl] at hi
    rw [if_pos hi, List.getElem?_take, if_pos hi, List.getD_eq_getElem?_getD, List.getElem?_eq_getElem (by omega)]; rfl
theorem sizesD_take (RE : RowEnd ns t inf) {k : Nat} (hk : k ≤ (sizesD ns t inf).length) : (sizesD ns t inf).take k = sizesK ns t k := by
  refine List.ext_getElem? fun i => ?_
  rw [List.getElem?_take]
  by_cases hi : i < k
  · rw [if_pos hi, sizesD_get RE (by omega)]
    unfold sizesK
    rw [List.getElem?_map, List.getElem?_range hi]; rfl
  · rw [if_neg hi, List.getElem?_eq_none]
    rw [sizesK_len]; omega
theorem sizesD_sums (RE : RowEnd ns t inf) (hp : ∀ j, j < t → 1 ≤ ns.getD j 0) : ((List.range t).map fun j => ((sizesD ns t inf).take (j + 1)).sum) = (List.range t).map fun j => sumY ns t (j + 1) := by
  have h1 := (sizesD_len RE hp).1
  refine List.map_congr_left fun j hj => ?_
  have := List.mem_range.mp hj
  rw [sizesD_take RE (by omega)]; rfl
theorem sizesD_last (RE : RowEnd ns t inf) (hp : ∀ j, j < t → 1 ≤ ns.getD j 0) (h : inf = true) : (sizesD ns t inf).getD ((sizesD ns t inf).length - 1) 0 = ns.getD (t - 1) 0 ∧ 0 < (sizesD ns t inf).length := by
  have h0 := RE.pos h
  have h1 := (sizesD_len RE hp).1
  refine ⟨?_, by omega⟩
  rw [List.getD_eq_getElem?_getD, sizesD_get RE (by omega), Option.getD_some]
  unfold yv
  by_cases e : (sizesD ns t inf).length - 1 < t
  · rw [if_pos e, show (sizesD ns t inf).length - 1 = t - 1 by omega]
  · rw [if_neg e]
theorem told_due (RE : RowEnd ns t inf) (hp : ∀ j, j < t → 1 ≤ ns.getD j 0) {K M : Nat} (hlt : ∀ j, j < K → sumY ns t (j + 1) < 256) (hK : (K = t ∧ inf = false) ∨ ((K < t ∨ inf = true) ∧ 256 ≤ sumY ns t (K + 1)))
    (htM : t ≤ M) (hM1 : inf = false → M = t) (hM2 : inf = true → 256 ≤ sumY ns t (M + 1)) :
    ((List.range M).map fun j => sumY ns t (j + 1)).filter (fun v => decide (v < 256)) = marksK ns t K ∧ (sizesD ns t inf).take (marksK ns t K).length = sizesK ns t K := by
  have hKM : K ≤ M := by
    rcases hK with ⟨h1, h2⟩ | ⟨h1, h2⟩
    · omega
    · rcases h1 with h1 | h1
      · omega
      · have := hM2 h1
        rcases Nat.lt_or_ge M K with q | q
        · have := hlt M q; omega
        · exact q
  refine ⟨due_filter hp hKM (fun j hj => ?_) hlt ?_, ?_⟩
  · cases hinf : inf with
    | true => exact .inr (RE.pos hinf)
    | false => exact .inl (by have := hM1 hinf; omega)
  · rcases hK with ⟨h1, h2⟩ | ⟨h1, h2⟩
    · exact .inl (by have := hM1 h2; omega)
    · exact .inr h2
  · have hml : (marksK ns t K).length = K := by simp [marksK]
    rw [hml]
    refine sizesD_take RE ?_
    have h1 := sizesD_len RE hp
    rcases Nat.lt_or_ge t K with q | q
    · have hinf : inf = true := by
        rcases hK with ⟨h1, h2⟩ | ⟨h1, h2⟩
        · omega
        · rcases h1 with h1 | h1
          · omega
          · exact h1
      have h0 := RE.pos hinf
      have hY := hlt (K - 1) (by omega)
      rw [show K - 1 + 1 = t + (K - t) by omega, sumY_after h0] at hY
      have hY0 := sumY_ge hp t fun j hj => .inl hj
      have hg := hp (t - 1) (by omega)
      have hq : ((K - t : Nat) : Int) ≤ 255 / ns.getD (t - 1) 0 := (Int.le_ediv_iff_mul_le (by omega)).mpr (by omega)
      have hl : (ns.take t).length = t := by rw [List.length_take]; have := RE.lt; omega
      unfold sizesD
      rw [if_pos hinf, List.length_append, hl, List.length_replicate]
      omega
    · omega
end
end Mine

namespace Mine
open PySem PySem.Calls PyProof.Rows
theorem due_body : (defAt 67).2.2.1 = [dueStmt 0, dueStmt 1, dueStmt 2, dueStmt 3, dueStmt 4, dueStmt 5, dueStmt 6, dueStmt 7] := by kernel_rfl
section
variable {prog : Program} {w : World} {A : Around} {E : Value → Shared → Prop} {s : Shared} {mg mb : Str → Option Value} {ns : List Int} {vs : List Value} {t : Nat} {inf : Bool}
theorem due_first {a l : Addr} {L : Nat} {cd : Value} {hb h : Heap} {tk : Tok} {m cm : Str → Option Value} {Q : Flow → Shared → Prop} (F0 : FrC hb L (csAt 67 L) h m cm)
    (hcm : cm "row" = some (.ref l)) (hl : hb.IsList l vs.toArray) (hi : IntsAre vs ns) (RE : RowEnd ns t inf) (hQ : ∀ tk', Q .next { s with heap := h, toks := tk' }) :
    wpAny (model prog w) A (exec (dueStmt 0) (envC 67 L a cd)) Q E { s with heap := h, toks := tk } := by
  have cR := F0.cell "row" (L + 1) (by rfl)
  rw [hcm] at cR
  have hl0 := hl.at fun o e => F0.keep _ o e
  have htl := RE.lt
  have h0 : ns.getD 0 0 ≠ 0 := by
    by_cases ht : 0 < t
    · exact (RE.pre 0 ht).1
    · have e : t = 0 := by omega
      have hs := RE.stop
      rw [e] at hs
      rw [hs]
      cases hinf : inf with
      | true => have := RE.pos hinf; omega
      | false => decide
  obtain ⟨tv, ev⟩ := IntsAre.at hi 0 (ns.getD 0 0) (by rw [List.getD_eq_getElem?_getD, List.getElem?_eq_getElem (by omega : 0 < ns.length)]; rfl)
  refine wpAny_If (wpAny_isTrue_Compare1 (Sub_any (wpAny_Name (wpAny_loadName_cell (c := L + 1) rfl (by rfl) (by rfl) cR (wpAny_Constant_int ⟨"list", _, F.slot_list_getitem.lookup, hl0.typeIs, wpAny_getItem_list hl0 (by decide) (by rw [← hi.length] at htl; simp) (x := .int (ns.getD 0 0) tv) (by simpa using ev) (wpAny_Constant_int (wpAny_eq_int (wpAny_truthy_bool ?_)))⟩)))) (by rfl))
  rw [if_neg (by simpa using h0)]
  exact wpAny_execs_nil (hQ _)
theorem due_ok {a l : Addr} {K : Nat} {Q : Value → Shared → Prop} (hroom : A.depth + 10 < recursionLimit) (hA : A.handled = none) (G : Gl mg mb s.heap) (hF : FnAt s.heap a 67)
    (hrg : mg "range" = none) (hrb : mb "range" = some (.type "range")) (hlg : mg "len" = none) (hlb : mb "len" = some (.builtin "len")) (hmg : mg "min" = none) (hmb : mb "min" = some (.builtin "min")) (hsg : mg "sum" = none) (hsb : mb "sum" = some (.builtin "sum"))
    (hl : s.heap.IsList l vs.toArray) (hi : IntsAre vs ns) (hsz : vs.length ≤ 1000) (RE : RowEnd ns t inf) (hp : ∀ j, j < t → 1 ≤ ns.getD j 0 ∧ ns.getD j 0 < 1073741824)
    (hlt : ∀ j, j < K → sumY ns t (j + 1) < 256) (hK : (K = t ∧ inf = false) ∨ ((K < t ∨ inf = true) ∧ 256 ≤ sumY ns t (K + 1)))
    (hQ : ∀ h' tk r a1 a2 its1 its2, Kept s.heap h' → h'.PlainList r #[.ref a1, .ref a2] → h'.PlainList a1 its1 → h'.PlainList a2 its2 → IntsAre its1.toList (sizesK ns t K) → IntsAre its2.toList (marksK ns t K) → s.heap.get? r = none → Q (.ref r) { s with heap := h', toks := tk }) :
    wpAny (model prog w) A (call (.ref a) [.ref l] []) Q E s := by
  refine fnC_call (i := 67) (binds := [("row", .ref l)]) (by omega) G hF (fun _ _ _ => rfl) (fun h₁ tk cd FC => ?_) (by
    intro x hx
    rw [List.mem_singleton.mp hx]
    exact .inr ⟨by rfl, by rfl⟩)
  generalize s.heap.objs.size = L at FC ⊢
  rw [due_body]
  have hp1 : ∀ j, j < t → 1 ≤ ns.getD j 0 := fun j hj => (hp j hj).1
  have htl := RE.lt
  have htv : t ≤ 1000 := by rw [← hi.length] at htl; omega
  have hD := sizesD_len RE hp1
  refine wpAny_execs_cons (due_first (s := s) FC rfl hl hi RE fun tk1 => ?_)
  refine wpAny_execs_cons (due_stop (s := s) (cR := 0) hA G FC hrg hrb hlg hlb hmg hmb rfl hl hi hsz RE fun h2 tk2 ts F2 => ?_)
  refine wpAny_execs_cons (due_sizes (s := s) F2 rfl hl hi hsz htl (if_pos rfl) fun h3 tk3 aS its F3 hS hiS hfS hSL hSc => ?_)
  refine wpAny_execs_cons (due_more (s := s) F3 ((if_neg (by decide +kernel)).trans rfl) (if_pos rfl) hl hi hsz RE hp (if_pos rfl) hS hiS hfS hSL hSc fun h4 tk4 aS' its' cm' F4 hc4r hc4s hS4 hiS4 hfS4 hSL4 hSc4 => ?_)
  refine wpAny_execs_cons (due_marks (s := s) hA G F4 hrg hrb hlg hlb hmg hmb hsg hsb hc4s (if_pos rfl) hS4 hiS4 hD.1 (by omega) hSL4 fun h5 tk5 aM itsM F5 hS5 hM5 hiM5 hfM5 hML5 hMS5 hMc5 => ?_)
  rw [sizesD_sums RE hp1] at hiM5
  refine wpAny_execs_cons (due_grow (s := s) hA G F5 hrg hrb hc4r hc4s hl hi hsz RE hp ((if_neg (by decide +kernel)).trans (if_pos rfl)) hS5 hiS4 (fun e => sizesD_last RE hp1 e) (if_pos rfl) hM5 hiM5 hfM5 hML5 hMS5 hSL4 hMc5 fun h6 tk6 m6 itsM6 M F6 hm6 hS6 hM6 hiM6 htM hMle hM1 hM2 => ?_)
  refine wpAny_execs_cons (due_cut (s := s) hA F6 hm6 hM6 hiM6 (by simp; omega) hML5 fun h7 tk7 aN itsN F7 k7 hN hiN hfN => ?_)
  obtain ⟨e1, e2⟩ := told_due RE hp1 hlt hK htM hM1 hM2
  rw [e1] at hiN
  have hKM : (marksK ns t K).length ≤ 3000 := by
    rw [← e1]
    refine Nat.le_trans (List.length_filter_le _ _) ?_
    simp; omega
  refine wpAny_execs_cons (due_ret (s := s) F7 G hlg hlb hc4s (hS6.at fun o e => k7 _ o hSL4 e) hiS4 (by omega) (if_pos rfl) hN hiN hKM fun h8 tk8 r a1 its1 k8 pr p1 hi1 p2 fr f1 => ?_)
  rw [e2] at hi1
  exact hQ h8 tk8 r a1 aN its1 itsN k8 pr p1 p2 hi1 hiN fr
end
end Mine

namespace Mine
open PySem PySem.Calls PyProof.Rows

/-- a frame with cells over a base that knows neither -/
structure FrL (B : Heap) (L : Nat) (cs : List (Str × Addr)) (h : Heap) (m cm : Str → Option Value) : Prop where
  ns : h.Ns L m
  keep : Kept B h
  bL : B.get? L = none
  cell : ∀ n c, cs.lookup n = some c → h.IsCell c (cm n)
  bC : ∀ n c, (n, c) ∈ cs → B.get? c = none
  apart : cs.Pairwise fun x y => x.2 ≠ y.2
  up : ∀ n c, (n, c) ∈ cs → c ≠ L
theorem FrC.toL {B h : Heap} {L : Nat} {cs : List (Str × Addr)} {m cm : Str → Option Value} (F0 : FrC B L cs h m cm) : FrL B L cs h m cm :=
  ⟨F0.ns, F0.keep, F0.bL, F0.cell, fun n c hc => F0.bC hc, F0.apart, fun n c hc => Nat.ne_of_gt (F0.up n c hc)⟩
namespace FrL
variable {B h h' : Heap} {L : Nat} {cs : List (Str × Addr)} {m m' cm : Str → Option Value}
theorem at' (F0 : FrL B L cs h m cm) (k : ∀ b o, (b = L ∨ (∃ n, (n, b) ∈ cs) ∨ (∃ o', B.get? b = some o')) → h.get? b = some o → h'.get? b = some o) : FrL B L cs h' m cm where
  ns := let ⟨o, es, ep, ho, r⟩ := F0.ns; ⟨o, es, ep, k _ _ (.inl rfl) ho, r⟩
  keep := fun b o e => k b o (.inr (.inr ⟨o, e⟩)) (F0.keep b o e)
  bL := F0.bL
  cell := fun n c hc => let ⟨o, ho, hd⟩ := F0.cell n c hc; ⟨o, k _ _ (.inr (.inl ⟨n, mem_of_lookup hc⟩)) ho, hd⟩
  bC := F0.bC
  apart := F0.apart
  up := F0.up
theorem kept (F0 : FrL B L cs h m cm) (k : Kept h h') : FrL B L cs h' m cm := F0.at' fun b o _ e => k b o e
theorem set (F0 : FrL B L cs h m cm) (hn : h'.Ns L m') (hs : Heap.SameBut L h h') : FrL B L cs h' m' cm where
  ns := hn
  keep := kept_but F0.keep hs F0.bL
  bL := F0.bL
  cell := fun n c hc => (F0.cell n c hc).sameBut hs (F0.up n c (mem_of_lookup hc))
  bC := F0.bC
  apart := F0.apart
  up := F0.up
theorem setX (F0 : FrL B L cs h m cm) (hn : h'.Ns L m') (k : ∀ b o, b ≠ L → h.get? b = some o → h'.get? b = some o) : FrL B L cs h' m' cm where
  ns := hn
  keep := fun b o e => k b o (fun q => by rw [q, F0.bL] at e; cases e) (F0.keep b o e)
  bL := F0.bL
  cell := fun n c hc => let ⟨o, ho, hd⟩ := F0.cell n c hc; ⟨o, k _ _ (F0.up n c (mem_of_lookup hc)) ho, hd⟩
  bC := F0.bC
  apart := F0.apart
  up := F0.up
theorem setC (F0 : FrL B L cs h m cm) {n : Str} {c : Addr} {v : Value} (hc : cs.lookup n = some c) (hc' : h'.IsCell c (some v)) (hs : Heap.SameBut c h h') : FrL B L cs h' m (fun y => if y = n then some v else cm y) where
  ns := F0.ns.sameBut hs fun e => F0.up n c (mem_of_lookup hc) e.symm
  keep := kept_but F0.keep hs (F0.bC n c (mem_of_lookup hc))
  bL := F0.bL
  cell := fun k c' hk => by
    by_cases hkn : k = n
    · subst hkn
      rw [hc] at hk; cases hk
      simpa using hc'
    · rw [if_neg hkn]
      exact (F0.cell k c' hk).sameBut hs fun e => hkn (name_of_addr F0.apart (mem_of_lookup hk) (e ▸ mem_of_lookup hc))
  bC := F0.bC
  apart := F0.apart
  up := F0.up
theorem out {wr : List Addr} (F0 : FrL B L cs h m cm) (hL : L ∉ wr) (hC : ∀ n c, (n, c) ∈ cs → c ∉ wr) (hw : ∀ b ∈ wr, B.get? b = none) (k : ∀ b o, b ∉ wr → h.get? b = some o → h'.get? b = some o) : FrL B L cs h' m cm :=
  F0.at' fun b o hb e => k b o (by
    rcases hb with q | ⟨n, hn⟩ | ⟨o', ho'⟩
    · rw [q]; exact hL
    · exact hC n b hn
    · intro hm; rw [hw b hm] at ho'; cases ho') e
theorem ne {b : Addr} (F0 : FrL B L cs h m cm) (hb' : h.get? b = none) : b ≠ L := fun e => by
  obtain ⟨o, _, _, ho, _⟩ := F0.ns
  rw [e, ho] at hb'; cases hb'
theorem fresh {b : Addr} (F0 : FrL B L cs h m cm) (e : h.get? b = none) : B.get? b = none := by
  cases e' : B.get? b with
  | none => rfl
  | some o => rw [F0.keep _ _ e'] at e; cases e
theorem neL {b : Addr} {o : Obj} (F0 : FrL B L cs h m cm) (hb' : B.get? b = some o) : b ≠ L := fun e => by
  rw [e, F0.bL] at hb'; cases hb'
theorem neB {b : Addr} {o : Obj} (F0 : FrL B L cs h m cm) (hb' : B.get? b = some o) {n : Str} {c : Addr} (hc : (n, c) ∈ cs) : b ≠ c := fun e => by
  rw [e, F0.bC n c hc] at hb'; cases hb'
/-- all that stands now, but the frame, its cells and X, as the base -/
theorem rebase (F0 : FrL B L cs h m cm) (X : List Addr) : ∃ B', FrL B' L cs h m cm ∧ (∀ b o, b ≠ L → (∀ n c, (n, c) ∈ cs → b ≠ c) → b ∉ X → h.get? b = some o → B'.get? b = some o) ∧ (∀ b ∈ X, B'.get? b = none) ∧ ((∀ b ∈ X, B.get? b = none) → Kept B B') := by
  have hout : ∀ b, b ≠ L → (∀ n c, (n, c) ∈ cs → b ≠ c) → b ∉ X → b ∉ L :: (cs.map (·.2) ++ X) := fun b h1 h2 h3 hm => by
    rcases List.mem_cons.mp hm with q | q
    · exact h1 q
    · rcases List.mem_append.mp q with q | q
      · obtain ⟨⟨n, c⟩, hx, rfl⟩ := List.mem_map.mp q
        exact h2 n c hx rfl
      · exact h3 q
  refine ⟨goneL h (L :: (cs.map (·.2) ++ X)), ⟨F0.ns, goneL_keeps _ _, goneL_in (by simp), F0.cell, fun n c hc => goneL_in (List.mem_cons_of_mem _ (List.mem_append_left _ (List.mem_map.mpr ⟨_, hc, rfl⟩))), F0.apart, F0.up⟩, ?_, ?_, ?_⟩
  · exact fun b o h1 h2 h3 e => (goneL_out (hout b h1 h2 h3)).trans e
  · exact fun b hb => goneL_in (List.mem_cons_of_mem _ (List.mem_append_right _ hb))
  · intro hX b o e
    exact (goneL_out (hout b (F0.neL e) (fun n c hc => F0.neB e hc) (fun hm => by rw [hX b hm] at e; cases e))).trans (F0.keep b o e)
end FrL
def lawStmt (i : Nat) : Stmt := ((defAt 68).2.2.1[i]? : Option Stmt).getD default
theorem law_body : (defAt 68).2.2.1 = [lawStmt 0, lawStmt 1, lawStmt 2, lawStmt 3, lawStmt 4, lawStmt 5, lawStmt 6, lawStmt 7, lawStmt 8, lawStmt 9, lawStmt 10] := by kernel_rfl
section
variable {prog : Program} {w : World} {A : Around} {E : Value → Shared → Prop} {s : Shared} {env : Env}
theorem unpack_list3 {t : Addr} {v0 v1 v2 : Value} {Q : List Value → Shared → Prop} (hh : A.handled = none) (ht : s.heap.IsList t #[v0, v1, v2])
    (hQ : ∀ h', Kept s.heap h' → Q [v0, v1, v2] { s with heap := h' }) : wpAny (model prog w) A (unpackItems (.ref t) 3 none) Q E s := by
  have hlt : t ≠ s.heap.objs.size := by obtain ⟨o, ho, _⟩ := ht; exact Nat.ne_of_lt (Heap.lt_size ho)
  unfold unpackItems
  refine wpAny_bind ?_
  · unfold notIterableAtAll
    refine wpAny_bind (wpAny_specialOf ht.typeIs F.slot_list_iter.lookup ?_)
    refine wpAny_pure ?_
    simp only [Bool.false_eq_true, if_false]
    refine wpAny_bind (wpAny_holding (wpAny_pyIter_list ht ?_))
    have k0 : Kept s.heap (s.heap.push { cls := .type "list_iterator", data := .fields #[.ref t, .int 0 0] }) := kept_push _ _
    have hit : (s.heap.push { cls := .type "list_iterator", data := .fields #[.ref t, .int 0 0] }).IsListIter s.heap.objs.size t 0 := ⟨_, Heap.get?_push_size _ rfl, rfl, rfl⟩
    have hf : s.heap.get? s.heap.objs.size = none := Heap.get?_none_of_le (Nat.le_refl _)
    generalize s.heap.push { cls := .type "list_iterator", data := .fields #[.ref t, .int 0 0] } = h0 at k0 hit ⊢
    have ht0 := ht.at fun o e => k0 _ o e
    refine wpAny_bind (wpAny_holding ?_)
    show wpAny _ _ (pyNext (.ref s.heap.objs.size) >>= _) _ E _
    refine wpAny_bind (wpAny_pyNext_list_item hit ht0 (x := v0) rfl fun h1 hit1 hs1 => ?_)
    have ht1 := ht0.extBut hs1.extBut hlt
    refine wpAny_bind (wpAny_holding ?_)
    show wpAny _ _ (pyNext (.ref s.heap.objs.size) >>= _) _ E _
    refine wpAny_bind (wpAny_pyNext_list_item hit1 ht1 (x := v1) rfl fun h2 hit2 hs2 => ?_)
    have ht2 := ht1.extBut hs2.extBut hlt
    refine wpAny_bind (wpAny_holding ?_)
    show wpAny _ _ (pyNext (.ref s.heap.objs.size) >>= _) _ E _
    refine wpAny_bind (wpAny_pyNext_list_item hit2 ht2 (x := v2) rfl fun h3 hit3 hs3 => ?_)
    have ht3 := ht2.extBut hs3.extBut hlt
    refine wpAny_bind (wpAny_holding (wpAny_pure (wpAny_pure (wpAny_pure (wpAny_pure ?_)))))
    rw [if_neg (by simp)]
    refine wpAny_bind (wpAny_holding (wpAny_pyNext_list_end hh hit3 ht3 (by simp) fun h4 he4 => ?_))
    simp only [Option.isSome_none, Bool.false_eq_true, if_false]
    refine wpAny_pure (hQ h4 fun b o e => ?_)
    have hb : b ≠ s.heap.objs.size := Nat.ne_of_lt (Heap.lt_size e)
    exact he4 b o hb (hs3.extBut b o hb (hs2.extBut b o hb (hs1.extBut b o hb (k0 b o e))))
end
end Mine

namespace Mine
open PySem PySem.Calls PyProof.Rows
abbrev cs68 (L : Nat) := csAt 68 L

theorem crlfF_le : ∀ (b : Bool) (l : List Nat), (crlfF b l).length ≤ 2 * l.length
  | _, [] => by simp [crlfF]
  | b, c :: r => by
    have h1 := crlfF_le false r
    have h2 := crlfF_le true r
    unfold crlfF
    by_cases e : c = 10
    · rw [if_pos e]
      by_cases hb : b = true
      · rw [if_pos hb]; simp; omega
      · rw [if_neg hb]; simp; omega
    · rw [if_neg e]
      by_cases e2 : c = 13
      · rw [if_pos e2]; simp; omega
      · rw [if_neg e2]; simp; omega
theorem quoteL_len (l : List Nat) : (quoteL l).length ≤ 4 * l.length := by
  have h1 := dot1_len true (crlf l)
  have h2 := crlfF_le false l
  unfold quoteL
  have : crlf l = crlfF false l := rfl
  rw [this] at h1 ⊢
  omega
theorem cs68_eq (L : Nat) : csAt 68 L = [((Str.ofString "led" : Str), L + 3), (Str.ofString "place", L + 2), (Str.ofString "worths", L + 1)] := by rfl
theorem cs68_mem {L : Nat} {n : Str} {c : Addr} (h : (n, c) ∈ csAt 68 L) : (csAt 68 L).lookup n = some c := by
  rw [cs68_eq] at h ⊢
  rcases List.mem_cons.mp h with q | q
  · cases q; exact List.lookup_cons_self
  · rcases List.mem_cons.mp q with q | q
    · cases q; rw [List.lookup_cons, show (Str.ofString "place" == Str.ofString "led") = false by decide +kernel]; exact List.lookup_cons_self
    · rcases List.mem_cons.mp q with q | q
      · cases q; rw [List.lookup_cons, show (Str.ofString "worths" == Str.ofString "led") = false by decide +kernel]
        show List.lookup _ _ = _
        rw [List.lookup_cons, show (Str.ofString "worths" == Str.ofString "place") = false by decide +kernel]; exact List.lookup_cons_self
      · cases q
theorem FrL.neC68 {B h : Heap} {L : Nat} {m cm : Str → Option Value} {b : Addr} (F0 : FrL B L (csAt 68 L) h m cm) (hb' : h.get? b = none) {n : Str} {c : Addr} (hc : (n, c) ∈ csAt 68 L) : b ≠ c := fun e => by
  obtain ⟨o, ho, _⟩ := F0.cell n c (cs68_mem hc)
  rw [e, ho] at hb'; cases hb'
section
variable {prog : Program} {w : World} {A : Around} {E : Value → Shared → Prop} {s : Shared} {mg mb : Str → Option Value}
/-- mail, times, row = _law_drawn(script) -/
theorem law_draw {a aD aF l : Addr} {L : Nat} {cd : Value} {B h : Heap} {tk : Tok} {m cm : Str → Option Value} {vs : List Value} {ns : List Int} {tg : Nat} {Q : Flow → Shared → Prop} (hroom : A.depth + 12 < recursionLimit) (hA : A.handled = none) (G : Gl mg mb B) (F0 : FrL B L (cs68 L) h m cm)
    (hD : mg "_law_drawn" = some (.ref aD)) (hFD : FnAt B aD 65) (hIt : mg "_law_items" = some (.ref aF)) (hFI : FnAt B aF 63) (hrg : mg "range" = none) (hrb : mb "range" = some (.type "range")) (hcg : mg "chr" = none) (hcb : mb "chr" = some (.builtin "chr"))
    (heg : mg "enumerate" = none) (heb : mb "enumerate" = some (.type "enumerate")) (hsg : mg "sum" = none) (hsb : mb "sum" = some (.builtin "sum"))
    (hl : B.IsList l vs.toArray) (hi : IntsAre vs ns) (hsz : vs.length ≤ 63) (hm : m "script" = some (.ref l))
    (hQ : ∀ B' h' tk' m' rr y ty T tt its ms, FrL B' L (cs68 L) h' m' cm → Kept B B' → m' "mail" = some (.str y ty) → m' "times" = some (.int T tt) → m' "row" = some (.ref rr) → B'.PlainList rr its → IntsAre its.toList (rowUp T ms 3 ++ [0]) → y.cps.toList = mailUp ms 3 → 1 ≤ T ∧ T ≤ 3 → y.cps.size ≤ 60 → its.size ≤ 61 → Q .next { s with heap := h', toks := tk' }) :
    wpAny (model prog w) A (exec (lawStmt 0) (envC 68 L a cd)) Q E { s with heap := h, toks := tk } := by
  refine Assign_one (by rfl) (by rfl) (by rfl) (evalF1 (G.keeps F0.keep) hD (hFD.keeps F0.keep) (wpAny_Name (wpAny_loadName_local rfl rfl F0.ns hm ⟨Kept.refl _, ?_⟩)))
  refine drawn_ok (by omega) hA (G.keeps F0.keep) (hFD.keeps F0.keep) hIt (hFI.keeps F0.keep) hrg hrb hcg hcb heg heb hsg hsb (hl.at fun o e => F0.keep _ o e) hi hsz fun h2 tk2 r rr y ty T tt its ms k2 pr prr hi2 hy hT hz1 hz2 fr frr => ?_
  try dsimp only at k2 fr frr ⊢
  rw [arm_assign_Tuple]
  refine wpAny_bind (wpAny_standAt ?_)
  unfold unpack
  refine wpAny_bind (wpAny_holding (unpack_list3 hA pr.isList fun hu ku => ?_))
  have F2 := (F0.kept k2).kept ku
  try dsimp only
  show wpAny _ A (do holding [_, _] (assign (.Name _ _) _ _); do holding [_] (assign (.Name _ _) _ _); do holding [] (assign (.Name _ _) _ _); pure ()) _ _ _
  refine wpAny_bind (wpAny_holding (wpAny_assign_Name (wpAny_storeName_local rfl F2.ns fun h3 hn3 hs3 => ?_)))
  have F3 := F2.set hn3 hs3
  refine wpAny_bind (wpAny_holding (wpAny_assign_Name (wpAny_storeName_local rfl F3.ns fun h4 hn4 hs4 => ?_)))
  have F4 := F3.set hn4 hs4
  refine wpAny_bind (wpAny_holding (wpAny_assign_Name (wpAny_storeName_local rfl F4.ns fun h5 hn5 hs5 => ?_)))
  have F5 := F4.set hn5 hs5
  have nL : rr ≠ L := F0.ne frr
  have nC : ∀ n c, (n, c) ∈ cs68 L → rr ≠ c := fun n c hc => F0.neC68 frr hc
  obtain ⟨B', F6, hB', hX, hk⟩ := F5.rebase []
  have kE : ∀ b o, b ≠ L → hu.get? b = some o → h5.get? b = some o := fun b o hb e => hs5.extBut b o hb (hs4.extBut b o hb (hs3.extBut b o hb e))
  refine wpAny_pure (hQ B' h5 _ _ rr y ty T tt its ms F6 (hk fun b hb => by cases hb) ?_ ?_ (if_pos rfl) ((prr.at fun o e => kE _ o nL (ku _ o e)).at fun o e => hB' _ o nL nC (by simp) e) hi2 hy hT hz1 hz2)
  · exact (if_neg (by decide +kernel)).trans ((if_neg (by decide +kernel)).trans (if_pos rfl))
  · exact (if_neg (by decide +kernel)).trans (if_pos rfl)
end
end Mine

namespace Mine
open PySem PySem.Calls PyProof.Rows

theorem quoteN_succ : ∀ (n : Nat) (l : List Nat), quoteL (quoteN n l) = quoteN (n + 1) l
  | 0, l => rfl
  | n + 1, l => quoteN_succ n (quoteL l)
theorem quoteN_len : ∀ (n : Nat) (l : List Nat), (quoteN n l).length ≤ 4 ^ n * l.length
  | 0, l => by simp [quoteN]
  | n + 1, l => by
    have h1 := quoteN_len n (quoteL l)
    have h2 := quoteL_len l
    have h3 : 4 ^ n * (quoteL l).length ≤ 4 ^ n * (4 * l.length) := Nat.mul_le_mul (Nat.le_refl _) h2
    show (quoteN n (quoteL l)).length ≤ _
    rw [Nat.pow_succ, Nat.mul_assoc]
    omega
theorem FrL.down {B B1 h : Heap} {L : Nat} {cs : List (Str × Addr)} {m cm m' cm' : Str → Option Value} {h0 : Heap} (F0 : FrL B L cs h0 m cm) (k : Kept B B1) (F1 : FrL B1 L cs h m' cm') : FrL B L cs h m' cm' :=
  ⟨F1.ns, k.trans F1.keep, F0.bL, F1.cell, F0.bC, F1.apart, F1.up⟩
section
variable {prog : Program} {w : World} {A : Around} {E : Value → Shared → Prop} {s : Shared} {mg mb : Str → Option Value}
/-- sent = mail -/
theorem law_sent {a : Addr} {L : Nat} {cd : Value} {B h : Heap} {tk : Tok} {m cm : Str → Option Value} {y : Str} {ty : Tok} {Q : Flow → Shared → Prop} (F0 : FrL B L (cs68 L) h m cm) (hm : m "mail" = some (.str y ty))
    (hQ : ∀ h' tk', FrL B L (cs68 L) h' (fun z => if z = "sent" then some (.str y ty) else m z) cm → Q .next { s with heap := h', toks := tk' }) :
    wpAny (model prog w) A (exec (lawStmt 1) (envC 68 L a cd)) Q E { s with heap := h, toks := tk } :=
  wpAny_Assign_Name (wpAny_Name (wpAny_loadName_local rfl rfl F0.ns hm (wpAny_storeName_local rfl F0.ns fun h3 hn3 hs3 => hQ h3 _ (F0.set hn3 hs3))))
/-- for turn in range(times): sent = quotedata(sent) -/
theorem law_loop {a aQ p1 p2 rr : Addr} {tc : Tok} {L : Nat} {cd : Value} {B h : Heap} {tk : Tok} {m cm : Str → Option Value} {y : Str} {ty tt : Tok} {T : Int} {Q : Flow → Shared → Prop} (hroom : A.depth + 12 < recursionLimit) (hA : A.handled = none) (G : Gl mg mb B) (F0 : FrL B L (cs68 L) h m cm)
    (hrg : mg "range" = none) (hrb : mb "range" = some (.type "range")) (hq : mg "quotedata" = some (.ref aQ)) (hFQ : FnAt B aQ 8) (h1 : mg "_twin_re_1" = some (.ref p1)) (P1 : IsPat B p1 code1) (h2 : mg "_twin_re_2" = some (.ref p2)) (P2 : IsPat B p2 code2) (hc : mg "CRLF" = some (.str ⟨#[13, 10]⟩ tc))
    (hm : m "sent" = some (.str y ty)) (hmT : m "times" = some (.int T tt)) (hT : 1 ≤ T ∧ T ≤ 3) (hy : y.cps.size ≤ 60) (hmR : m "row" = some (.ref rr))
    (hQ : ∀ h' tk' m' z tz, FrL B L (cs68 L) h' m' cm → m' "sent" = some (.str z tz) → m' "row" = some (.ref rr) → z.cps.toList = quoteN T.toNat y.cps.toList → z.cps.size ≤ 10000 → Q .next { s with heap := h', toks := tk' }) :
    wpAny (model prog w) A (exec (lawStmt 2) (envC 68 L a cd)) Q E { s with heap := h, toks := tk } := by
  refine wpAny_For (range1_it (G.keeps F0.keep) hrg hrb (wpAny_Name (wpAny_loadName_local rfl rfl F0.ns hmT ⟨T, tt, rfl, by omega, by omega, fun I h12 k12 kk12 fI12 hIlt hit => ?_⟩)))
  try dsimp only at kk12 fI12 ⊢
  have F12 := F0.kept kk12
  have nIL := F0.ne fI12
  have nIC : ∀ n c, (n, c) ∈ cs68 L → I ≠ c := fun n c hc => F0.neC68 fI12 hc
  have bI := F0.fresh fI12
  obtain ⟨B1, F1, hB1, hX1, hk1⟩ := F12.rebase [I]
  have kB := hk1 fun b hb => by rw [List.mem_singleton.mp hb]; exact bI
  have hw1 : ∀ b ∈ [I], B1.get? b = none := hX1
  have hL1 : L ∉ [I] := fun hm => nIL (List.mem_singleton.mp hm).symm
  have hC1 : ∀ n c, (n, c) ∈ cs68 L → c ∉ [I] := fun n c hc hm => nIC n c hc (List.mem_singleton.mp hm).symm
  obtain ⟨N, hN⟩ : ∃ N : Nat, T.toNat = N := ⟨_, rfl⟩
  rw [hN] at hit hQ
  have hN3 : N ≤ 3 := by omega
  have W := walks_range (prog := prog) (w := w) (A := A) hA I 0 1 N
  have Gb := G.keeps kB
  have hFb := hFQ.keeps kB
  refine codeAny_forLoop (fun n s' => ∃ (i : Nat) (h : Heap) (tk : Nat) (m : Str → Option Value) (z : Str), n = 4 - i ∧ i ≤ N ∧ s' = { s with heap := h, toks := tk } ∧ FrL B1 L (cs68 L) h m cm ∧ (∃ t, m "sent" = some (.str z t)) ∧ m "row" = some (.ref rr) ∧
      z.cps.toList = quoteN i y.cps.toList ∧ StRange N I 0 1 i h) ?_ 4
    ⟨0, h12, _, _, y, rfl, by omega, rfl, F1, ⟨ty, hm⟩, hmR, rfl, hit⟩
  rintro n s' ⟨i, h, tk, m, z, rfl, hi3, rfl, FX, ⟨tz, mS⟩, mR, hz, hst⟩
  have hzl : z.cps.size ≤ 4 ^ i * 60 := by
    rw [← Array.length_toList, hz]
    exact Nat.le_trans (quoteN_len i _) (Nat.mul_le_mul (Nat.le_refl _) (by rw [Array.length_toList]; exact hy))
  have h4 : 4 ^ i ≤ 64 := by
    have : i = 0 ∨ i = 1 ∨ i = 2 ∨ i = 3 := by omega
    rcases this with rfl | rfl | rfl | rfl <;> decide
  have hzl2 : z.cps.size ≤ 10000 := by
    have : 4 ^ i * 60 ≤ 64 * 60 := Nat.mul_le_mul h4 (Nat.le_refl _)
    omega
  by_cases hlt : i < N
  · refine W.item i _ _ _ hlt hst fun v h1' tk1 hP hst1 hk1 => ?_
    obtain ⟨_, ti, rfl⟩ := hP
    have FX1 := FX.out hL1 hC1 hw1 hk1
    refine wpAny_assign_Name (wpAny_storeName_local rfl FX1.ns fun h2' hn2 hs2 => ?_)
    have FX2 := FX1.set hn2 hs2
    have hst2 : StRange N I 0 1 (i + 1) h2' := hs2.extBut _ _ nIL hst1
    refine wpAny_execs_cons (wpAny_Assign_Name (evalF1 (Gb.keeps FX2.keep) hq (hFb.keeps FX2.keep) (wpAny_Name (wpAny_loadName_local rfl rfl FX2.ns ((if_neg (by decide +kernel)).trans mS) ⟨Kept.refl _, ?_⟩))))
    refine quote_ok (by omega) (Gb.keeps FX2.keep) (hFb.keeps FX2.keep) h1 ((P1.keeps kB).keeps FX2.keep) h2 ((P2.keeps kB).keeps FX2.keep) hc hzl2 fun h3 tk3 t3 y3 k3 hy3 => ?_
    have FX3 := FX2.kept k3
    refine wpAny_storeName_local rfl FX3.ns fun h4' hn4 hs4 => wpAny_execs_nil ?_
    refine ⟨4 - (i + 1), by omega, i + 1, h4', _, _, y3, rfl, hlt, rfl, FX3.set hn4 hs4, ⟨t3, if_pos rfl⟩, (if_neg (by decide +kernel)).trans ((if_neg (by decide +kernel)).trans mR), ?_, hs4.extBut _ _ nIL (k3 _ _ hst2)⟩
    rw [hy3, hz, quoteN_succ]
  · have hin : i = N := by omega
    subst hin
    refine W.done _ _ _ hst fun h1' tk1 hk1 => wpAny_execs_nil ?_
    have FX1 := FX.out hL1 hC1 hw1 hk1
    exact hQ h1' _ m z tz (F0.down kB FX1) mS mR hz hzl2
/-- read = _law_read(sent) -/
theorem law_read {a aR d rr : Addr} {L : Nat} {cd : Value} {B h : Heap} {tk : Tok} {m cm : Str → Option Value} {z : Str} {tz : Tok} {Q : Flow → Shared → Prop} (hroom : A.depth + 12 < recursionLimit) (hA : A.handled = none) (G : Gl mg mb B) (F0 : FrL B L (cs68 L) h m cm)
    (hr : mg "_law_read" = some (.ref aR)) (hFR : FnAt B aR 64) (hE : mg "EXACT_TOKEN_TYPES" = some (.ref d)) (hTab : ∀ h', Kept B h' → StrTab prog w h' d (W.kdpD tab)) (hog : mg "ord" = none) (hob : mb "ord" = some (.builtin "ord")) (hlg : mg "len" = none) (hlb : mb "len" = some (.builtin "len"))
    (hEnd : ∃ tk, mg "ENDMARKER" = some (.int 0 tk)) (hm : m "sent" = some (.str z tz)) (hz : z.cps.size ≤ 10000) (hmR : m "row" = some (.ref rr))
    (hQ : ∀ B' h' tk' m' r its, FrL B' L (cs68 L) h' m' cm → Kept B B' → m' "read" = some (.ref r) → m' "row" = some (.ref rr) → B'.PlainList r its → IntsAre its.toList (lexA z.cps.toList ++ [0]) → Q .next { s with heap := h', toks := tk' }) :
    wpAny (model prog w) A (exec (lawStmt 3) (envC 68 L a cd)) Q E { s with heap := h, toks := tk } := by
  refine wpAny_Assign_Name (evalF1 (G.keeps F0.keep) hr (hFR.keeps F0.keep) (wpAny_Name (wpAny_loadName_local rfl rfl F0.ns hm ⟨Kept.refl _, ?_⟩)))
  refine read_ok (by omega) hA (G.keeps F0.keep) (hFR.keeps F0.keep) hE (hTab _ F0.keep) hog hob hlg hlb hEnd (by show z.cps.size ≤ _; omega) fun h2 tk2 r its k2 pr hi fr => ?_
  have F2 := F0.kept k2
  refine wpAny_storeName_local rfl F2.ns fun h3 hn3 hs3 => ?_
  have F3 := F2.set hn3 hs3
  have nL : r ≠ L := F0.ne fr
  obtain ⟨B', F6, hB', hX, hk⟩ := F3.rebase []
  refine hQ B' h3 _ _ r its F6 (hk fun b hb => by cases hb) (if_pos rfl) ((if_neg (by decide +kernel)).trans hmR) ((pr.at fun o e => hs3.extBut _ _ nL e).at fun o e => hB' _ o nL (fun n c hc => F0.neC68 fr hc) (by simp) e) hi
end
end Mine

namespace Mine
open PySem PySem.Calls PyProof.Rows PySem.SeqAt

theorem all_tt {α : Type} (l : List α) : l.all (fun _ => true) = true := List.all_eq_true.mpr fun _ _ => rfl
section
variable {prog : Program} {w : World} {A : Around} {E : Value → Shared → Prop} {s : Shared} {mg mb : Str → Option Value}
theorem eqAt_ints {l b : Addr} {vs us : Array Value} {ns : List Int} (hl : s.heap.IsList l vs) (hb : s.heap.IsList b us) (hi : IntsAre vs.toList ns) (hj : IntsAre us.toList ns) : ∀ (j : Nat) (h1 : j < vs.size) (h2 : j < us.size), EqAt A s vs[j] us[j] true := by
  intro j h1 h2
  have hln : vs.size = ns.length := by rw [← Array.length_toList, hi.length]
  obtain ⟨t1, e1⟩ := IntsAre.at hi j (ns[j]'(by omega)) (List.getElem?_eq_getElem _)
  obtain ⟨t2, e2⟩ := IntsAre.at hj j (ns[j]'(by omega)) (List.getElem?_eq_getElem _)
  have f1 : vs[j] = .int (ns[j]'(by omega)) t1 := by
    have : vs.toList[j]? = some vs[j] := by simp [h1]
    rw [this] at e1; exact Option.some.inj e1
  have f2 : us[j] = .int (ns[j]'(by omega)) t2 := by
    have : us.toList[j]? = some us[j] := by simp [h2]
    rw [this] at e2; exact Option.some.inj e2
  rw [f1, f2]
  have := EqAt.int_int (A := A) (s := s) (ns[j]'(by omega)) t1 (ns[j]'(by omega)) t2
  simpa using this
theorem ints_size {vs us : Array Value} {ns : List Int} (hi : IntsAre vs.toList ns) (hj : IntsAre us.toList ns) : vs.size = us.size := by
  rw [← Array.length_toList, ← Array.length_toList, hi.length, hj.length]
theorem eqAt_lists {l b : Addr} {vs us : Array Value} {ns : List Int} (hu : A.units + 1 < cLine) (hl : s.heap.IsList l vs) (hb : s.heap.IsList b us) (hi : IntsAre vs.toList ns) (hj : IntsAre us.toList ns) : EqAt A s (.ref l) (.ref b) true := by
  by_cases e : l = b
  · subst e; exact EqAt.same _
  · refine EqAt.of_refs e ?_
    have := RcAt.lists (A := A) (s := s) (e := fun _ => true) hl hb (ints_size hi hj) (by omega) (eqAt_ints hl hb hi hj)
    rw [all_tt] at this; exact this
theorem ne_lists {l b : Addr} {vs us : Array Value} {Q : Value → Shared → Prop} (hu : A.units + 1 < cLine) (hl : s.heap.IsList l vs) (hb : s.heap.IsList b us) (hsz : vs.size = us.size) (he : ∀ (j : Nat) (h1 : j < vs.size) (h2 : j < us.size), EqAt A.in1 s vs[j] us[j] true) (hQ : Q (.bool false) s) :
    wpAny (model prog w) A (compareOp .NotEq (.ref l) (.ref b)) Q E s := by
  have := RcNeAt.lists (A := A) (s := s) (e := fun _ => true) hl hb hsz (by omega) he
  exact this prog w E Q (by rw [all_tt]; exact hQ)
/-- if read != row or told != _law_due(row): return False -/
theorem law_check {a aU r rr t : Addr} {L : Nat} {cd v1 v2 : Value} {B h : Heap} {tk : Tok} {m cm : Str → Option Value} {i1 i2 : Array Value} {ns : List Int} {Q : Flow → Shared → Prop} (hu : A.units + 10 < cLine) (G : Gl mg mb B) (F0 : FrL B L (cs68 L) h m cm)
    (hU : mg "_law_due" = some (.ref aU)) (hFU : FnAt B aU 67) (hmr : m "read" = some (.ref r)) (hmR : m "row" = some (.ref rr)) (hmt : m "told" = some (.ref t)) (h1 : B.PlainList r i1) (h2 : B.PlainList rr i2) (hi1 : IntsAre i1.toList ns) (hi2 : IntsAre i2.toList ns) (ht : B.PlainList t #[v1, v2])
    (hdue : ∀ h' tk' Q', Kept B h' → (∀ h'' tk'' d u1 u2, Kept h' h'' → h''.PlainList d #[u1, u2] → EqAt A.in1 { s with heap := h'', toks := tk'' } v1 u1 true → EqAt A.in1 { s with heap := h'', toks := tk'' } v2 u2 true → Q' (.ref d) { s with heap := h'', toks := tk'' }) →
      wpAny (model prog w) A (call (.ref aU) [.ref rr] []) Q' E { s with heap := h', toks := tk' })
    (hQ : ∀ h' tk', FrL B L (cs68 L) h' m cm → Q .next { s with heap := h', toks := tk' }) :
    wpAny (model prog w) A (exec (lawStmt 5) (envC 68 L a cd)) Q E { s with heap := h, toks := tk } := by
  have b1 := (h1.at fun o e => F0.keep _ o e).isList
  have b2 := (h2.at fun o e => F0.keep _ o e).isList
  refine wpAny_If (wpAny_isTrue_BoolOp (wpAny_allTrue_Or_cons (wpAny_isTrue_Compare1 (wpAny_Name (wpAny_loadName_local rfl rfl F0.ns hmr (wpAny_Name (wpAny_loadName_local rfl rfl F0.ns hmR ?_)))) (by rfl))))
  refine ne_lists (by omega) b1 b2 (ints_size hi1 hi2) (eqAt_ints b1 b2 hi1 hi2) (wpAny_truthy_bool ?_)
  rw [if_neg Bool.false_ne_true]
  refine wpAny_allTrue_Or_cons (wpAny_isTrue_Compare1 (wpAny_Name (wpAny_loadName_local rfl rfl F0.ns hmt (evalF1 (G.keeps F0.keep) hU (hFU.keeps F0.keep) (wpAny_Name (wpAny_loadName_local rfl rfl F0.ns hmR ⟨Kept.refl _, ?_⟩))))) (by rfl))
  refine hdue h _ _ F0.keep fun h'' tk'' d u1 u2 k pd e1 e2 => ?_
  have F2 := F0.kept k
  refine ne_lists (by omega) (ht.at fun o e => F2.keep _ o e).isList pd.isList rfl (fun j hj1 hj2 => ?_) (wpAny_truthy_bool ?_)
  · have : j = 0 ∨ j = 1 := by simp at hj1; omega
    rcases this with rfl | rfl
    · exact e1
    · exact e2
  · rw [if_neg Bool.false_ne_true]
    refine wpAny_allTrue_Or_nil ?_
    rw [if_neg Bool.false_ne_true]
    exact wpAny_execs_nil (hQ _ _ F2)
end
end Mine

namespace Mine
open PySem PySem.Calls PyProof.Rows PySem.SeqAt

theorem FrL.neP {B h : Heap} {L : Nat} {cs : List (Str × Addr)} {m cm : Str → Option Value} {b : Addr} {its : Array Value} (F0 : FrL B L cs h m cm) (p : h.PlainList b its) : b ≠ L := fun e => by
  obtain ⟨o, es, ep, ho, hd, _⟩ := F0.ns
  obtain ⟨n, hp⟩ := p
  rw [e, ho] at hp
  have := Option.some.inj hp
  rw [this] at hd; cases hd
theorem FrL.nePC {B h : Heap} {L : Nat} {m cm : Str → Option Value} {b : Addr} {its : Array Value} (F0 : FrL B L (csAt 68 L) h m cm) (p : h.PlainList b its) {n : Str} {c : Addr} (hc : (n, c) ∈ csAt 68 L) : b ≠ c := fun e => by
  obtain ⟨o, ho, hd⟩ := F0.cell n c (cs68_mem hc)
  obtain ⟨n', hp⟩ := p
  rw [e, ho] at hp
  have := Option.some.inj hp
  rw [this] at hd; cases hd
section
variable {prog : Program} {w : World} {A : Around} {E : Value → Shared → Prop} {s : Shared} {mg mb : Str → Option Value}
/-- told = _law_told(read), of a row that is not refused -/
theorem law_told {a aD aT aG r rr : Addr} {L : Nat} {cd : Value} {B h : Heap} {tk : Tok} {m cm : Str → Option Value} {i1 : Array Value} {ns : List Int} {t : Nat} {inf : Bool} {Q : Flow → Shared → Prop} (hroom : A.depth + 12 < recursionLimit) (hA : A.handled = none) (G : Gl mg mb B) (F0 : FrL B L (cs68 L) h m cm)
    (hD : mg "_law_told" = some (.ref aD)) (hFD : FnAt B aD 66) (hT : mg "ISTERMINAL" = some (.ref aT)) (hFT : FnAt B aT 61)
    (hnt : ∃ tk, mg "NT_OFFSET" = some (.int 256 tk)) (hcm : ∃ tk, mg "CHAR_MAX" = some (.int 127 tk)) (hG : mg "_grouping_intervals" = some (.ref aG)) (hFG : FnAt B aG 3)
    (hmr : m "read" = some (.ref r)) (hmR : m "row" = some (.ref rr)) (h1 : B.PlainList r i1) (hi1 : IntsAre i1.toList ns) (RE : RowEnd ns t inf) (hp : ∀ j, j < t → 1 ≤ ns.getD j 0) (ht : t < 300)
    (hQ : ∀ B' h' tk' m' gs d a1 a2 its1 its2 K, gs.bare = true → FrL B' L (cs68 L) h' m' cm → Kept B B' → m' "told" = some (.ref d) → m' "read" = some (.ref r) → m' "row" = some (.ref rr) → B'.PlainList d #[.ref a1, .ref a2] → B'.PlainList a1 its1 → B'.PlainList a2 its2 →
      IntsAre its1.toList (sizesK ns t K) → IntsAre its2.toList (marksK ns t K) → (∀ j, j < K → sumY ns t (j + 1) < 256) → ((K = t ∧ inf = false) ∨ ((K < t ∨ inf = true) ∧ 256 ≤ sumY ns t (K + 1))) → Q .next { s with heap := h', toks := tk', gens := s.gens.push gs }) :
    wpAny (model prog w) A (exec (lawStmt 4) (envC 68 L a cd)) Q E { s with heap := h, toks := tk } := by
  have b1 : h.IsList r i1.toList.toArray := by simpa using (h1.at fun o e => F0.keep _ o e).isList
  refine wpAny_Assign_Name (evalF1 (G.keeps F0.keep) hD (hFD.keeps F0.keep) (wpAny_Name (wpAny_loadName_local rfl rfl F0.ns hmr ⟨Kept.refl _, ?_⟩)))
  refine told_ok (by omega) hA (G.keeps F0.keep) (hFD.keeps F0.keep) hT (hFT.keeps F0.keep) hnt hcm hG (hFG.keeps F0.keep) b1 hi1 RE hp ht fun h2 tk2 gs d a1 a2 its1 its2 K hbare k2 pd p1 p2 fd hj1 hj2 hlt hK => ?_
  have F2 := F0.kept k2
  refine wpAny_storeName_local rfl F2.ns fun h3 hn3 hs3 => ?_
  have F3 := F2.set hn3 hs3
  obtain ⟨B', F6, hB', hX, hk⟩ := F3.rebase []
  have up : ∀ b its, h2.PlainList b its → B'.PlainList b its := fun b its p => (p.extBut hs3.extBut (F2.neP p)).at fun o e => hB' _ o (F2.neP p) (fun n c hc => F2.nePC p hc) (by simp) e
  exact hQ B' h3 _ _ gs d a1 a2 its1 its2 K hbare F6 (hk fun b hb => by cases hb) (if_pos rfl) ((if_neg (by decide +kernel)).trans hmr) ((if_neg (by decide +kernel)).trans hmR) (up _ _ pd) (up _ _ p1) (up _ _ p2) hj1 hj2 hlt hK
end
end Mine

namespace Mine
open PySem PySem.Calls PyProof.Rows PySem.SeqAt

section
variable {prog : Program} {w : World} {A : Around} {E : Value → Shared → Prop} {s : Shared} {mg mb : Str → Option Value}
theorem first_ints {i1 : Array Value} {ns : List Int} {x : Int} {r : List Int} (hi : IntsAre i1.toList (x :: r)) : ∃ t vr, i1 = (Value.int x t :: vr).toArray ∧ IntsAre vr r := by
  generalize hv : i1.toList = vs at hi
  cases hi with
  | cons _ t hr => exact ⟨t, _, by rw [← hv], hr⟩
/-- told = _law_told(read), of a row that is refused -/
theorem law_told_z {a aD aG r rr : Addr} {L : Nat} {cd : Value} {B h : Heap} {tk : Tok} {m cm : Str → Option Value} {i1 : Array Value} {nr : List Int} {Q : Flow → Shared → Prop} (hroom : A.depth + 12 < recursionLimit) (hA : A.handled = none) (hfo : A.frames = some [envC 68 L a cd]) (G : Gl mg mb B) (F0 : FrL B L (cs68 L) h m cm)
    (hD : mg "_law_told" = some (.ref aD)) (hFD : FnAt B aD 66)
    (hcm : ∃ tk, mg "CHAR_MAX" = some (.int 127 tk)) (hve : mg "ValueError" = none) (hvb : mb "ValueError" = some (.type "ValueError")) (hG : mg "_grouping_intervals" = some (.ref aG)) (hFG : FnAt B aG 3)
    (hmr : m "read" = some (.ref r)) (hmR : m "row" = some (.ref rr)) (h1 : B.PlainList r i1) (hi1 : IntsAre i1.toList (0 :: nr))
    (hQ : ∀ B' h' tk' m' gs d a2, gs.bare = true → FrL B' L (cs68 L) h' m' cm → Kept B B' → m' "told" = some (.ref d) → m' "read" = some (.ref r) → m' "row" = some (.ref rr) → B'.PlainList d #[.none, .ref a2] → B'.PlainList a2 #[] → Q .next { s with heap := h', toks := tk', gens := s.gens.push gs }) :
    wpAny (model prog w) A (exec (lawStmt 4) (envC 68 L a cd)) Q E { s with heap := h, toks := tk } := by
  obtain ⟨v0, vr, rfl, hr⟩ := first_ints (ns := nr) hi1
  have b1 := (h1.at fun o e => F0.keep _ o e).isList
  refine wpAny_Assign_Name (evalF1 (G.keeps F0.keep) hD (hFD.keeps F0.keep) (wpAny_Name (wpAny_loadName_local rfl rfl F0.ns hmr ⟨Kept.refl _, ?_⟩)))
  have hff : h.FunFrames B [envC 68 L a cd] := by
    obtain ⟨o, es, ep, ho, hd, _⟩ := F0.ns
    exact ⟨(fun q => by cases (show ScopeKind.function = ScopeKind.module from q)), ⟨L, o, rfl, F0.bL, ho, fun vs q => by rw [hd] at q; cases q⟩, trivial⟩
  refine told_raise (B0 := B) (by omega) hA hfo (G.keeps F0.keep) (hFD.keeps F0.keep) hcm hve hvb hG (hFG.keeps F0.keep) b1 hff fun h2 tk2 gs d a2 hbare hso pd p2 fd => ?_
  obtain ⟨so1, so2⟩ := hso
  have F2 : FrL B L (cs68 L) h2 m cm := F0.setX (ns_up F0.ns fun o e hv => so2 _ o e hv) fun b o hb e => so1 b o (by
    show b ∉ [L]
    intro hm; exact hb (List.mem_singleton.mp hm)) e
  refine wpAny_storeName_local rfl F2.ns fun h3 hn3 hs3 => ?_
  have F3 := F2.set hn3 hs3
  obtain ⟨B', F6, hB', hX, hk⟩ := F3.rebase []
  have up : ∀ b its, h2.PlainList b its → B'.PlainList b its := fun b its p => (p.extBut hs3.extBut (F2.neP p)).at fun o e => hB' _ o (F2.neP p) (fun n c hc => F2.nePC p hc) (by simp) e
  exact hQ B' h3 _ _ gs d a2 hbare F6 (hk fun b hb => by cases hb) (if_pos rfl) ((if_neg (by decide +kernel)).trans hmr) ((if_neg (by decide +kernel)).trans hmR) (up _ _ pd) (up _ _ p2)
/-- if not told[0]: return True -/
theorem law_none {a t : Addr} {L : Nat} {cd v2 : Value} {B h : Heap} {tk : Tok} {m cm : Str → Option Value} {Q : Flow → Shared → Prop} (F0 : FrL B L (cs68 L) h m cm) (hmt : m "told" = some (.ref t)) (ht : B.PlainList t #[.none, v2])
    (hQ : ∀ tk', Q (.ret (.bool true)) { s with heap := h, toks := tk' }) :
    wpAny (model prog w) A (exec (lawStmt 6) (envC 68 L a cd)) Q E { s with heap := h, toks := tk } := by
  have b := (ht.at fun o e => F0.keep _ o e).isList
  refine wpAny_If (wpAny_isTrue_Not (wpAny_isTrue_value (Sub_any (wpAny_Name (wpAny_loadName_local rfl rfl F0.ns hmt (wpAny_Constant_int ⟨"list", _, F.slot_list_getitem.lookup, b.typeIs, wpAny_getItem_list b (by decide) (by decide) (x := .none) (by rfl) (truthy_none ?_)⟩)))) rfl))
  rw [if_pos (by rfl)]
  exact wpAny_execs_cons (wpAny_Return_some (wpAny_Constant_bool (hQ _)))
theorem law_some {a t a1 : Addr} {L : Nat} {cd v2 : Value} {B h : Heap} {tk : Tok} {m cm : Str → Option Value} {its : Array Value} {Q : Flow → Shared → Prop} (F0 : FrL B L (cs68 L) h m cm) (hmt : m "told" = some (.ref t)) (ht : B.PlainList t #[.ref a1, v2]) (h1 : B.PlainList a1 its) (hsz : its.size ≤ 1000)
    (hQ : ∀ tk', (its.size = 0 → Q (.ret (.bool true)) { s with heap := h, toks := tk' }) ∧ (0 < its.size → Q .next { s with heap := h, toks := tk' })) :
    wpAny (model prog w) A (exec (lawStmt 6) (envC 68 L a cd)) Q E { s with heap := h, toks := tk } := by
  have b := (ht.at fun o e => F0.keep _ o e).isList
  have b1 := (h1.at fun o e => F0.keep _ o e).isList
  refine wpAny_If (wpAny_isTrue_Not (wpAny_isTrue_value (Sub_any (wpAny_Name (wpAny_loadName_local rfl rfl F0.ns hmt (wpAny_Constant_int ⟨"list", _, F.slot_list_getitem.lookup, b.typeIs, wpAny_getItem_list b (by decide) (by decide) (x := .ref a1) (by rfl) (wpAny_truthy_list b1 (by omega) ?_)⟩)))) rfl))
  by_cases hz : its.size = 0
  · rw [if_pos (by simp [Array.isEmpty, hz])]
    exact wpAny_execs_cons (wpAny_Return_some (wpAny_Constant_bool ((hQ _).1 hz)))
  · rw [if_neg (by simp [Array.isEmpty, hz])]
    exact wpAny_execs_nil ((hQ _).2 (by omega))
end
end Mine

namespace Mine
/-- what one division tells of a number that lies d before 255 -/
def gv (a b d : Int) : Int := if d % (a + b) < b then d % (a + b) / a % 2 else 1 + (d % (a + b) - a) / a % 2
theorem gv_at {a b d r k : Int} (hd : d = r + (a + b) * k) (h0 : 0 ≤ r) (h1 : r < a + b) : gv a b d = if r < b then r / a % 2 else 1 + (r - a) / a % 2 := by
  have e : d % (a + b) = r := by rw [hd, Int.add_mul_emod_self_left, Int.emod_eq_of_lt h0 h1]
  unfold gv; rw [e]
theorem gv_mex {a b d : Int} (ha : 1 ≤ a) (hab : a ≤ b) (hd : 0 ≤ d) : (0 ≤ gv a b d ∧ gv a b d ≤ 2) ∧ (a ≤ d → gv a b d ≠ gv a b (d - a)) ∧ (b ≤ d → gv a b d ≠ gv a b (d - b)) ∧
    (∀ n, 0 ≤ n → n < gv a b d → (a ≤ d ∧ n = gv a b (d - a)) ∨ (b ≤ d ∧ n = gv a b (d - b))) := by
  have hs : 0 < a + b := by omega
  obtain ⟨r, hr⟩ : ∃ r, d % (a + b) = r := ⟨_, rfl⟩
  obtain ⟨k, hk⟩ : ∃ k, d / (a + b) = k := ⟨_, rfl⟩
  have h0 : 0 ≤ r := by rw [← hr]; exact Int.emod_nonneg _ (by omega)
  have h1 : r < a + b := by rw [← hr]; exact Int.emod_lt_of_pos _ hs
  have hdk : d = r + (a + b) * k := by rw [← hr, ← hk]; exact (Int.emod_add_mul_ediv d (a + b)).symm
  have hk0 : 0 ≤ k := by rw [← hk]; exact Int.ediv_nonneg hd (by omega)
  have hrd : r ≤ d := by
    have : 0 ≤ (a + b) * k := Int.mul_nonneg (by omega) hk0
    omega
  have eK : (a + b) * (k - 1) = (a + b) * k - (a + b) := by rw [Int.mul_sub, Int.mul_one]
  have g0 := gv_at hdk h0 h1
  have q0 : 0 ≤ r / a := Int.ediv_nonneg h0 (by omega)
  have qs : r < a → r / a = 0 := fun h => Int.ediv_eq_zero_of_lt h0 h
  have qp : (r + a) / a = r / a + 1 := by
    have := Int.add_mul_ediv_right r 1 (show a ≠ 0 by omega)
    rwa [Int.one_mul] at this
  have qm : (r - a) / a = r / a - 1 := by
    have := Int.add_mul_ediv_right r (-1) (show a ≠ 0 by omega)
    rw [show r + -1 * a = r - a by omega] at this
    rw [this]; omega
  have qp2 : (r + a - a) / a = r / a := by rw [Int.add_sub_cancel]
  by_cases hrb : r < b
  · rw [if_pos hrb] at g0
    have ga1 : a ≤ r → gv a b (d - a) = (r / a - 1) % 2 := fun h => by
      rw [gv_at (r := r - a) (k := k) (by omega) (by omega) (by omega), if_pos (by omega), qm]
    have ga2 : r < a → 1 ≤ gv a b (d - a) := fun h => by
      rw [gv_at (r := r + b) (k := k - 1) (by omega) (by omega) (by omega), if_neg (by omega)]
      omega
    have gb1 : r + a < b → gv a b (d - b) = (r / a + 1) % 2 := fun h => by
      rw [gv_at (r := r + a) (k := k - 1) (by omega) (by omega) (by omega), if_pos h, qp]
    have gb2 : ¬ r + a < b → gv a b (d - b) = 1 + r / a % 2 := fun h => by
      rw [gv_at (r := r + a) (k := k - 1) (by omega) (by omega) (by omega), if_neg h, qp2]
    refine ⟨by omega, fun _ => ?_, fun _ => ?_, fun n hn hlt => ?_⟩
    · by_cases h : a ≤ r
      · rw [ga1 h, g0]; omega
      · have := ga2 (by omega)
        have := qs (by omega)
        rw [g0]; omega
    · by_cases h : r + a < b
      · rw [gb1 h, g0]; omega
      · rw [gb2 h, g0]; omega
    · rw [g0] at hlt
      have : a ≤ r := by
        by_cases h : a ≤ r
        · exact h
        · have := qs (by omega); omega
      refine .inl ⟨by omega, ?_⟩
      rw [ga1 this]; omega
  · rw [if_neg hrb] at g0
    have ga : gv a b (d - a) = (r - a) / a % 2 := by
      rw [gv_at (r := r - a) (k := k) (by omega) (by omega) (by omega), if_pos (by omega)]
    have gb : gv a b (d - b) = 0 := by
      rw [gv_at (r := r - b) (k := k) (by omega) (by omega) (by omega), if_pos (by omega), Int.ediv_eq_zero_of_lt (by omega) (by omega)]; rfl
    refine ⟨by omega, fun _ => ?_, fun _ => ?_, fun n hn hlt => ?_⟩
    · rw [ga, g0]; omega
    · rw [gb, g0]; omega
    · rw [g0] at hlt
      by_cases hn0 : n = 0
      · exact .inr ⟨by omega, by rw [gb]; exact hn0⟩
      · refine .inl ⟨by omega, ?_⟩
        rw [ga]; omega
end Mine

namespace Mine
open PySem PySem.Calls PyProof.Rows PySem.SeqAt

section
variable {prog : Program} {w : World} {A : Around} {E : Value → Shared → Prop} {s : Shared} {mg mb : Str → Option Value}
/-- least, most = (min(told[0]), max(told[0])) -/
theorem law_ends {a t a1 : Addr} {L : Nat} {cd v2 : Value} {B h : Heap} {tk : Tok} {m cm : Str → Option Value} {its : Array Value} {xs : List Int} {Q : Flow → Shared → Prop} (hA : A.handled = none) (G : Gl mg mb B) (F0 : FrL B L (cs68 L) h m cm)
    (hmg : mg "min" = none) (hmb : mb "min" = some (.builtin "min")) (hxg : mg "max" = none) (hxb : mb "max" = some (.builtin "max"))
    (hmt : m "told" = some (.ref t)) (ht : B.PlainList t #[.ref a1, v2]) (h1 : B.PlainList a1 its) (hi : IntsAre its.toList xs) (hne : 0 < xs.length)
    (hQ : ∀ h' tk' m' x y t1 t2, FrL B L (cs68 L) h' m' cm → m' "least" = some (.int x t1) → m' "most" = some (.int y t2) → x ∈ xs → y ∈ xs → (∀ z, z ∈ xs → x ≤ z) → (∀ z, z ∈ xs → z ≤ y) → Q .next { s with heap := h', toks := tk' }) :
    wpAny (model prog w) A (exec (lawStmt 7) (envC 68 L a cd)) Q E { s with heap := h, toks := tk } := by
  have b := (ht.at fun o e => F0.keep _ o e).isList
  have b1 : h.IsList a1 its.toList.toArray := by simpa using (h1.at fun o e => F0.keep _ o e).isList
  refine Assign_Tuple_swapped (names := [Str.ofString "least", Str.ofString "most"]) (wpAny_Tuple (spliced_cons (wpAny_Call_NameR (ldB (G.keeps F0.keep) hmg hmb (cw1 ?_))))) (by rfl) (by rfl)
  refine Sub_any (wpAny_Name (wpAny_loadName_local rfl rfl F0.ns hmt (wpAny_Constant_int ⟨"list", _, F.slot_list_getitem.lookup, b.typeIs, wpAny_getItem_list b (by decide) (by decide) (x := .ref a1) (by rfl) ?_⟩)))
  refine min_ok hA b1 hi hne fun h2 x t1 tk2 k2 hx1 hx2 => ?_
  try dsimp only at k2 ⊢
  have F2 := F0.kept k2
  have b' := (ht.at fun o e => F2.keep _ o e).isList
  have b1' : h2.IsList a1 its.toList.toArray := b1.at fun o e => k2 _ o e
  refine spliced_cons (wpAny_Call_NameR (ldB (G.keeps F2.keep) hxg hxb (cw1 ?_)))
  refine Sub_any (wpAny_Name (wpAny_loadName_local rfl rfl F2.ns hmt (wpAny_Constant_int ⟨"list", _, F.slot_list_getitem.lookup, b'.typeIs, wpAny_getItem_list b' (by decide) (by decide) (x := .ref a1) (by rfl) ?_⟩)))
  refine max_ok hA b1' hi hne fun h3 y t2 tk3 k3 hy1 hy2 => ?_
  try dsimp only at k3 ⊢
  have F3 := F2.kept k3
  refine spliced_nil ⟨by rw [sizeLine_eq]; exact (show 2 ≤ 16777216 by decide), ?_⟩
  have k4 : Kept h3 (h3.push { cls := .type "tuple", data := .seq #[.int x t1, .int y t2] }) := kept_push _ _
  have T4 : (h3.push { cls := .type "tuple", data := .seq #[.int x t1, .int y t2] }).IsTuple h3.objs.size #[.int x t1, .int y t2] := ⟨_, Heap.get?_push_size _ rfl, rfl, 0, rfl⟩
  have F4 := F3.kept k4
  refine unpackItems_tuple (items := #[.int x t1, .int y t2]) hA T4 fun h5 he5 => ?_
  have F5 : FrL B L (cs68 L) h5 m cm := F3.kept fun b o e => he5 b o (Nat.ne_of_lt (Nat.lt_of_lt_of_le (Heap.lt_size e) (by show _ ≤ (h3.push _).objs.size; rw [Heap.size_push]; exact Nat.le_succ _))) (k4 _ _ e)
  try dsimp only
  show wpAny _ A (do holding [_] (bindName _ _ _); do holding [] (bindName _ _ _); pure ()) _ _ _
  refine wpAny_bind (wpAny_holding (wpAny_bindName (wpAny_storeName_local rfl F5.ns fun h6 hn6 hs6 => ?_)))
  have F6 := F5.set hn6 hs6
  refine wpAny_bind (wpAny_holding (wpAny_bindName (wpAny_storeName_local rfl F6.ns fun h7 hn7 hs7 => ?_)))
  have F7 := F6.set hn7 hs7
  exact wpAny_pure (hQ h7 _ _ x y t1 t2 F7 (if_pos rfl) ((if_neg (by decide +kernel)).trans (if_pos rfl)) hx1 hy1 hx2 hy2)
/-- worths = [0] * 96 -/
theorem law_worths {a : Addr} {L : Nat} {cd : Value} {B h : Heap} {tk : Tok} {m cm : Str → Option Value} {Q : Flow → Shared → Prop} (F0 : FrL B L (cs68 L) h m cm)
    (hQ : ∀ h' tk' aW its, FrL B L (cs68 L) h' m (fun y => if y = "worths" then some (.ref aW) else cm y) → h'.PlainList aW its → IntsAre its.toList (List.replicate 96 0) → B.get? aW = none → aW ≠ L → (∀ n c, (n, c) ∈ cs68 L → aW ≠ c) → Q .next { s with heap := h', toks := tk' }) :
    wpAny (model prog w) A (exec (lawStmt 8) (envC 68 L a cd)) Q E { s with heap := h, toks := tk } := by
  refine wpAny_Assign_Name (wpAny_BinOp (List_new (spliced_cons (wpAny_Constant_int (k := 0) (pos := ⟨0, 0, 0, 0⟩) (spliced_nil ⟨by rw [sizeLine_eq]; exact (show 1 ≤ 16777216 by decide), fun h2 a1 p1 k1 f1 => ?_⟩)))))
  try dsimp only at p1 k1 f1 ⊢
  refine wpAny_Constant_int (mul_plain p1 (by decide) (by decide) (show 1 * 96 ≤ 2 ^ 24 by decide) fun h3 its3 e3 p3 k3 z3 => ?_)
  try dsimp only at p3 k3 z3 ⊢
  have F2 := F0.kept k1
  have F3 := F2.kept k3
  have fW : h2.get? h2.objs.size = none := Heap.get?_none_of_le (Nat.le_refl _)
  have nL := F2.ne fW
  have nC : ∀ n c, (n, c) ∈ cs68 L → h2.objs.size ≠ c := fun n c hc => F2.neC68 fW hc
  have fB := F2.fresh fW
  generalize h2.objs.size = aW at p3 nL nC fB ⊢
  refine wpAny_storeName_cell (c := L + 1) rfl (by rfl) (by rfl) (F3.cell "worths" (L + 1) (by rfl)) fun h4 hc4 hs4 => ?_
  refine hQ h4 _ aW its3 (F3.setC (n := "worths") (c := L + 1) (by rfl) hc4 hs4) (p3.extBut hs4.extBut (nC "worths" (L + 1) (mem_of_lookup (by rfl)))) ?_ fB nL nC
  rw [e3]
  exact ints_rep (n := 96) (ns := [0]) (.cons _ _ .nil)
end
end Mine

namespace Mine
open PySem PySem.Calls PyProof.Rows PySem.SeqAt

def gameFor : Expr × Expr × List Stmt := match lawStmt 9 with
  | .For tg it b _ _ => (tg, it, b)
  | _ => (default, default, [])
def gameStmt (i : Nat) : Stmt := (gameFor.2.2[i]? : Option Stmt).getD default
def under (p : Int) (v : Value) : Bool := match v with
  | .int z _ => decide (p + z < 256)
  | _ => false
section
variable {prog : Program} {w : World} {A : Around} {E : Value → Shared → Prop} {s : Shared} {mg mb : Str → Option Value}
theorem Paired_map {F : Value → Value → Prop} {p : Value → Bool} {ys : List Value} : ∀ {vs : List Value} {ns : List Int} {q : Int → Bool} {f : Int → Int}, IntsAre vs ns → (∀ n t, p (.int n t) = q n) → (∀ n t v, F (.int n t) v → ∃ t', v = .int (f n) t') → Paired F (vs.filter p) ys → IntsAre ys ((ns.filter q).map f) := by
  intro vs ns q f hi hp hF h
  induction hi generalizing ys with
  | nil => cases h; exact .nil
  | cons n t r ih =>
    rw [List.filter_cons] at h ⊢
    rw [hp] at h
    by_cases hq : q n = true
    · rw [if_pos hq] at h ⊢
      cases h with
      | cons hf h' =>
        obtain ⟨t', rfl⟩ := hF _ _ _ hf
        exact .cons (f n) t' (ih h')
    · rw [if_neg hq] at h ⊢
      exact ih h
theorem tuple_it {l : Addr} {items : Array Value} {Q : Value → Shared → Prop} (hl : s.heap.IsTuple l items)
    (h : ∀ h' I, Kept s.heap h' → s.heap.get? I = none → I < h'.objs.size → l < h'.objs.size → l ≠ I → h'.IsTupleIter I l 0 ∧ h'.IsTuple l items → Q (.ref I) { s with heap := h' }) : wpAny (model prog w) A (pyIter (.ref l)) Q E s := by
  have hlt : l < s.heap.objs.size := by obtain ⟨o, ho, _⟩ := hl; exact Heap.lt_size ho
  refine wpAny_pyIter_tuple hl (h _ _ (kept_push _ _) (Heap.get?_none_of_le (Nat.le_refl _)) (by rw [Heap.size_push]; exact Nat.lt_succ_self _) (by rw [Heap.size_push]; exact Nat.lt_succ_of_lt hlt) (Nat.ne_of_lt hlt) ⟨⟨_, Heap.get?_push_size _ rfl, rfl, rfl⟩, hl.at fun o e => kept_push _ _ _ o e⟩)
theorem Tuple_new {M : Model} {env : Env} {elts : List Expr} {k : Nat} {pos : Pos} {Q : Value → Shared → Prop}
    (h : wpAny M A (spliced (backTo pos (starEach elts env))) (fun vs s₁ => vs.length ≤ sizeLine ∧ ∀ h' a, h'.IsTuple a vs.toArray → Kept s₁.heap h' → s₁.heap.get? a = none → Q (.ref a) { s₁ with heap := h' }) E s) :
    wpAny M A (eval (.Tuple elts k pos) env) Q E s :=
  wpAny_Tuple (wpAny_mono h (fun vs s₁ h₁ => ⟨h₁.1, h₁.2 _ _ ⟨_, Heap.get?_push_size _ rfl, rfl, 0, rfl⟩ (kept_push _ _) (Heap.get?_none_of_le (Nat.le_refl _))⟩) fun _ _ e => e)
/-- led = [worths[place + size - 160] for size in (least, most) if ISTERMINAL(place + size)] -/
theorem game_led {a aT aW : Addr} {L : Nat} {cd : Value} {B h : Heap} {tk : Tok} {m cm : Str → Option Value} {x y p : Int} {t1 t2 tp : Tok} {wits : Array Value} {ws : List Int} {Q : Flow → Shared → Prop} (hroom : A.depth + 12 < recursionLimit) (hA : A.handled = none) (G : Gl mg mb B) (F0 : FrL B L (cs68 L) h m cm)
    (hT : mg "ISTERMINAL" = some (.ref aT)) (hFT : FnAt B aT 61) (hnt : ∃ tk, mg "NT_OFFSET" = some (.int 256 tk))
    (hx : m "least" = some (.int x t1)) (hy : m "most" = some (.int y t2)) (hcW : cm "worths" = some (.ref aW)) (hcp : cm "place" = some (.int p tp)) (hW : h.IsList aW wits) (hWL : aW ≠ L + 3) (hi : IntsAre wits.toList ws) (hwl : ws.length = 96) (hp : 160 ≤ p) (hx1 : 1 ≤ x) (hxy : x ≤ y)
    (hQ : ∀ h' tk' aD dits, FrL B L (cs68 L) h' m (fun z => if z = "led" then some (.ref aD) else cm z) → (∀ b o, b ≠ L + 3 → h.get? b = some o → h'.get? b = some o) → h'.PlainList aD dits → IntsAre dits.toList ((([x, y] : List Int).filter fun z => decide (p + z < 256)).map fun z => ws.getD (p + z - 160).toNat 0) → h.get? aD = none → Q .next { s with heap := h', toks := tk' }) :
    wpAny (model prog w) A (exec (gameStmt 0) (envC 68 L a cd)) Q E { s with heap := h, toks := tk } := by
  have cW := F0.cell "worths" (L + 1) (by rfl)
  rw [hcW] at cW
  have cP := F0.cell "place" (L + 2) (by rfl)
  rw [hcp] at cP
  have hWl : h.IsList aW wits.toList.toArray := by simpa using hW
  refine wpAny_Assign_Name (hs := by rfl) ?_
  refine wpAny_ListComp_free (cl := [("worths", L + 1), ("place", L + 2)]) (under p) (fun v u => ∃ z t1 t2, v = .int z t1 ∧ u = .int (ws.getD (p + z - 160).toNat 0) t2) (by rfl) (by decide +kernel) (by rfl) (by decide +kernel) (by rfl) ?_
  refine Tuple_new (spliced_cons (wpAny_Name (wpAny_loadName_local rfl rfl F0.ns hx (spliced_cons (wpAny_Name (wpAny_loadName_local rfl rfl F0.ns hy (spliced_nil ⟨by rw [sizeLine_eq]; exact (show 2 ≤ 16777216 by decide), fun h2 T pT kT fT => ?_⟩)))))))
  refine tuple_it pT fun h7 I hk7 hI hIlt hllt hlI hit => ?_
  try dsimp only at kT fT hk7 hI ⊢
  have k0 : Kept h h7 := kT.trans hk7
  have hI0 : h.get? I = none := by
    cases e : h.get? I with
    | none => rfl
    | some o => rw [kT _ _ e] at hI; cases hI
  have hPi : ∀ (i : Nat) (v : Value), (#[Value.int x t1, Value.int y t2] : Array Value)[i]? = some v → ∃ z t, v = .int z t ∧ (z = x ∨ z = y) := fun i v hv => by
    have hlt := (Array.getElem?_eq_some_iff.mp hv).1
    have : i = 0 ∨ i = 1 := by simp at hlt; omega
    rcases this with rfl | rfl
    · exact ⟨x, t1, (Option.some.inj hv).symm, .inl rfl⟩
    · exact ⟨y, t2, (Option.some.inj hv).symm, .inr rfl⟩
  refine ⟨I, [I, T], [I], (#[Value.int x t1, Value.int y t2] : Array Value).size, fun i v => (#[Value.int x t1, Value.int y t2] : Array Value)[i]? = some v, fun i h => h.IsTupleIter I T i ∧ h.IsTuple T #[Value.int x t1, Value.int y t2], rfl, Walks.tuple hA I T hlI #[Value.int x t1, Value.int y t2], by rw [sizeLine_eq]; exact (show 2 ≤ 16777216 by decide), hit, ?_, ⟨?_, ?_⟩, ?_⟩
  · intro b hb
    rcases List.mem_cons.mp hb with q | q
    · rw [q]; exact hIlt
    · rw [List.mem_singleton.mp q]; exact hllt
  · rintro C i v s₃ m₃ E' hC hP hns hm hk -
    obtain ⟨z, t, rfl, hz⟩ := hPi i v hP
    have hkk : Kept h s₃.heap := kept_of hk (one_none hI0) k0
    have F3 := F0.kept hkk
    rw [List.forIn_cons, if_pos rfl]
    refine wpAny_bind (wpAny_bind (wpAny_isTrue_value (evalF1 (G.keeps F3.keep) hT (hFT.keeps F3.keep) ?_) rfl))
    refine wpAny_BinOp (wpAny_Name (wpAny_loadName_cell (c := L + 2) rfl (by rfl) (by rfl) (cP.keeps hkk) (wpAny_Name (wpAny_loadName_local rfl (by rfl) hns hm (op_add fun t5 k5 => ⟨Kept.refl _, ?_⟩)))))
    refine isterm_ok (by omega) (G.keeps F3.keep) (hFT.keeps F3.keep) hnt fun h4 tk4 hk4 => wpAny_truthy_bool ?_
    refine wpAny_pure ?_
    show wpAny _ _ (forIn [] _ _) _ _ _
    rw [List.forIn_nil]
    exact wpAny_pure ⟨rfl, Keeps.of hk4⟩
  · rintro C i v s₃ m₃ E' hC hP hpv hns hm hk -
    obtain ⟨z, t, rfl, hz⟩ := hPi i v hP
    have hkk : Kept h s₃.heap := kept_of hk (one_none hI0) k0
    have hz1 : 1 ≤ z := by rcases hz with rfl | rfl <;> omega
    have hpz : p + z < 256 := of_decide_eq_true hpv
    have hl3 := hWl.at fun o e => hkk _ o e
    obtain ⟨tv, ev⟩ := IntsAre.at hi (p + z - 160).toNat (ws.getD (p + z - 160).toNat 0) (by rw [List.getD_eq_getElem?_getD, List.getElem?_eq_getElem (by omega)]; rfl)
    refine Sub_any (wpAny_Name (wpAny_loadName_cell (c := L + 1) rfl (by rfl) (by rfl) (cW.keeps hkk) (wpAny_BinOp (wpAny_BinOp (wpAny_Name (wpAny_loadName_cell (c := L + 2) rfl (by rfl) (by rfl) (cP.keeps hkk) (wpAny_Name (wpAny_loadName_local rfl (by rfl) hns hm (op_add fun t5 k5 => wpAny_Constant_int (op_sub fun t6 k6 => ?_))))))))))
    have hlen := hi.length
    refine ⟨"list", _, F.slot_list_getitem.lookup, hl3.typeIs, wpAny_getItem_list hl3 (by omega) (by omega) (x := .int (ws.getD (p + z - 160).toNat 0) tv) (by simpa using ev) ⟨⟨z, _, _, rfl, rfl⟩, Keeps.of (Kept.refl _)⟩⟩
  intro Dl h8 tk8 ys us hDn hl8 hpl8 hlen8 hP hF8 hk8
  have hkD : Kept h h8 := kept_of hk8 (one_none hI0) k0
  have hDf : h.get? Dl = none := by
    cases e : h.get? Dl with
    | none => rfl
    | some o => have := k0 _ _ e; rw [hDn] at this; cases this
  have hyi : IntsAre ys.toList ((([x, y] : List Int).filter fun z => decide (p + z < 256)).map fun z => ws.getD (p + z - 160).toNat 0) := by
    have hus : us = [Value.int x t1, Value.int y t2] := by
      refine List.ext_getElem? fun j => ?_
      have hl2 : us.length = 2 := hlen8
      by_cases hj : j < us.length
      · have := hP j _ (List.getElem?_eq_getElem hj)
        rw [List.getElem?_eq_getElem hj, ← this]; simp
      · rw [List.getElem?_eq_none (by omega), List.getElem?_eq_none (by simp; omega)]
    rw [hus] at hF8
    exact Paired_map (ns := [x, y]) (p := under p) (q := fun z => decide (p + z < 256)) (.cons _ _ (.cons _ _ .nil)) (fun n t => rfl) (fun n t v hv => by
      obtain ⟨z, t3, t4, e1, e2⟩ := hv
      injection e1 with e1 _
      subst e1
      exact ⟨t4, e2⟩) hF8
  have F8 := F0.kept hkD
  refine wpAny_storeName_cell (c := L + 3) rfl (by rfl) (by rfl) (F8.cell "led" (L + 3) (by rfl)) fun h9 hc9 hs9 => ?_
  refine hQ h9 _ Dl ys (F8.setC (n := "led") (c := L + 3) (by rfl) hc9 hs9) (fun b o hb e => hs9.extBut b o hb (hkD b o e)) (hpl8.extBut hs9.extBut ?_) hyi hDf
  exact F0.neC68 hDf (mem_of_lookup (n := "led") (by rfl))
end
end Mine

namespace Mine
open PySem PySem.Calls PyProof.Rows PySem.SeqAt

theorem FrL.but {B h h' : Heap} {L : Nat} {cs : List (Str × Addr)} {m cm : Str → Option Value} {b : Addr} (F0 : FrL B L cs h m cm) (hs : Heap.SameBut b h h') (hb : B.get? b = none) (hL : b ≠ L) (hC : ∀ n c, (n, c) ∈ cs → b ≠ c) : FrL B L cs h' m cm :=
  F0.at' fun d o hd e => hs.extBut d o (by
    rcases hd with q | ⟨n, hn⟩ | ⟨o', ho'⟩
    · rw [q]; exact Ne.symm hL
    · exact Ne.symm (hC n d hn)
    · intro q; rw [q, hb] at ho'; cases ho') e
def outOf (ds : List Int) (v : Value) : Bool := match v with
  | .int z _ => !ds.any (· == z)
  | _ => false
section
variable {prog : Program} {w : World} {A : Around} {E : Value → Shared → Prop} {s : Shared} {mg mb : Str → Option Value}
/-- worths[place - 160] = min([n for n in range(3) if n not in led]) -/
theorem game_worth {a aD aW : Addr} {L : Nat} {cd : Value} {B h : Heap} {tk : Tok} {m cm : Str → Option Value} {p : Int} {tp : Tok} {wits dits : Array Value} {ws ds : List Int} {Q : Flow → Shared → Prop} (hA : A.handled = none) (G : Gl mg mb B) (F0 : FrL B L (cs68 L) h m cm)
    (hrg : mg "range" = none) (hrb : mb "range" = some (.type "range")) (hmg : mg "min" = none) (hmb : mb "min" = some (.builtin "min"))
    (hcD : cm "led" = some (.ref aD)) (hcW : cm "worths" = some (.ref aW)) (hcp : cm "place" = some (.int p tp)) (hW : h.IsList aW wits) (hWB : B.get? aW = none) (hWL : aW ≠ L) (hWC : ∀ n c, (n, c) ∈ cs68 L → aW ≠ c) (hi : IntsAre wits.toList ws) (hwl : ws.length = 96) (hp : 160 ≤ p) (hp2 : p ≤ 255)
    (hD : h.IsList aD dits) (hd : IntsAre dits.toList ds) (hne : ∃ n : Nat, n < 3 ∧ (n : Int) ∉ ds)
    (hQ : ∀ h' tk' wits' M, FrL B L (cs68 L) h' m cm → (∀ b o, b ≠ aW → h.get? b = some o → h'.get? b = some o) → h'.IsList aW wits' → IntsAre wits'.toList (ws.set (p - 160).toNat M) → 0 ≤ M → M ≤ 2 → M ∉ ds → (∀ n, 0 ≤ n → n < M → n ∈ ds) → Q .next { s with heap := h', toks := tk' }) :
    wpAny (model prog w) A (exec (gameStmt 1) (envC 68 L a cd)) Q E { s with heap := h, toks := tk } := by
  have cW := F0.cell "worths" (L + 1) (by rfl)
  rw [hcW] at cW
  have cP := F0.cell "place" (L + 2) (by rfl)
  rw [hcp] at cP
  have cD := F0.cell "led" (L + 3) (by rfl)
  rw [hcD] at cD
  have hDl : h.IsList aD dits.toList.toArray := by simpa using hD
  refine wpAny_Assign_Subscript (hs := by rfl) (wpAny_Call_NameR (ldB (G.keeps F0.keep) hmg hmb (cw1 ?_)))
  refine wpAny_ListComp_free (cl := [("led", L + 3)]) (outOf ds) (fun v y => y = v) (by rfl) (by decide +kernel) (by rfl) (by decide +kernel) (by rfl) ?_
  refine range1_it (G.keeps F0.keep) hrg hrb (wpAny_Constant_int ⟨3, _, rfl, by decide, by decide, fun I h7 tk7 hk7 hI hIlt hit => ⟨I, [I], [I], 3, PRange 3 0 1, StRange 3 I 0 1, rfl, walks_range (A := A) hA I 0 1 _, by rw [sizeLine_eq]; decide, hit, ?_, ⟨?_, ?_⟩, ?_⟩⟩)
  · exact fun b hb => by rw [List.mem_singleton.mp hb]; exact hIlt
  · rintro C i v s₃ m₃ E' hC ⟨hi', ti, rfl⟩ hns hm hk -
    have ei : (0 + (i : Int) * 1) = i := by omega
    rw [ei] at hm ⊢
    have hkk : Kept h s₃.heap := kept_of hk (one_none hI) hk7
    have hl3 := hDl.at fun o e => hkk _ o e
    rw [List.forIn_cons, if_pos rfl]
    refine wpAny_bind (wpAny_bind (wpAny_isTrue_Compare1 (wpAny_Name (wpAny_loadName_local rfl (by rfl) hns hm (wpAny_Name (wpAny_loadName_cell (c := L + 3) rfl (by rfl) (by rfl) (cD.keeps hkk) (notin_list_ints hl3 hd ?_))))) (by rfl)))
    refine wpAny_truthy_bool ?_
    refine wpAny_pure ?_
    show wpAny _ _ (forIn [] _ _) _ _ _
    rw [List.forIn_nil]
    exact wpAny_pure ⟨by first | rfl | (simp [outOf]), Keeps.of (Kept.refl _)⟩
  · rintro C i v s₃ m₃ E' hC hP hpv hns hm hk -
    exact wpAny_Name (wpAny_loadName_local rfl (by rfl) hns hm ⟨rfl, Keeps.self _⟩)
  intro Dl h8 tk8 ys us hDn hl8 hpl8 hlen8 hP hF8 hk8
  have hk : Kept h h8 := kept_of hk8 (one_none hI) hk7
  have hu : IntsAre us ((List.range us.length).map fun j => ((j : Nat) : Int)) := ints_of fun j v hj => by
    obtain ⟨_, t', e⟩ := hP j v hj
    exact ⟨t', by rw [e]; congr 1; omega⟩
  rw [hlen8] at hu
  have hys := Paired_filter (q := fun n => !ds.any (· == n)) hu (fun n t' => rfl) (fun n t' v e => ⟨t', e⟩) hF8
  have hmem : ∀ n : Int, n ∈ ((List.range 3).map fun j => ((j : Nat) : Int)).filter (fun n => !ds.any (· == n)) ↔ (0 ≤ n ∧ n < 3) ∧ n ∉ ds := fun n => by
    rw [List.mem_filter]
    constructor
    · rintro ⟨h1, h2⟩
      obtain ⟨j, hj, rfl⟩ := List.mem_map.mp h1
      have := List.mem_range.mp hj
      refine ⟨by omega, fun hm => ?_⟩
      have : ds.any (· == (j : Int)) = true := List.any_eq_true.mpr ⟨_, hm, by simp⟩
      rw [this] at h2; cases h2
    · rintro ⟨h1, h2⟩
      refine ⟨List.mem_map.mpr ⟨n.toNat, List.mem_range.mpr (by omega), by omega⟩, ?_⟩
      cases e : ds.any (· == n) with
      | false => rfl
      | true =>
        obtain ⟨x, hx, hxe⟩ := List.any_eq_true.mp e
        have : x = n := by simpa using hxe
        exact absurd (this ▸ hx) h2
  obtain ⟨n0, hn0, hn1⟩ := hne
  have hpos := List.length_pos_of_mem ((hmem n0).mpr ⟨by omega, hn1⟩)
  refine min_ok (vs := ys.toList) hA (by simpa using hl8) hys hpos fun h9 M tM tk9 hk9 hMin hMle => ?_
  obtain ⟨hM1, hM2⟩ := (hmem M).mp hMin
  have kk : Kept h h9 := hk.trans hk9
  have F9 := F0.kept kk
  have hW9 := hW.at fun o e => kk _ o e
  refine wpAny_Name (wpAny_loadName_cell (c := L + 1) rfl (by rfl) (by rfl) (cW.keeps kk) (wpAny_BinOp (wpAny_Name (wpAny_loadName_cell (c := L + 2) rfl (by rfl) (by rfl) (cP.keeps kk) (wpAny_Constant_int (op_sub fun t6 k6 => ?_))))))
  have hlen := hi.length
  rw [Array.length_toList, hwl] at hlen
  refine wpAny_setItem_list hW9 (by omega) (by omega) (by omega) fun h10 hl10 hs10 => ?_
  refine hQ h10 _ _ M (F9.but hs10 hWB hWL hWC) (fun b o hb e => hs10.extBut b o hb (kk b o e)) hl10 ?_ hM1.1 (by omega) hM2 fun n hn hlt => ?_
  · rw [Array.toList_setIfInBounds]
    exact IntsAre_set hi _
  · by_cases hnd : n ∈ ds
    · exact hnd
    · have := hMle n ((hmem n).mpr ⟨by omega, hnd⟩)
      omega
end
end Mine

namespace Mine
open PySem PySem.Calls PyProof.Rows PySem.SeqAt
section
variable {prog : Program} {w : World} {A : Around} {E : Value → Shared → Prop} {s : Shared} {mg mb : Str → Option Value}
/-- left = (255 - place) % (least + most) -/
theorem game_left {a : Addr} {L : Nat} {cd : Value} {B h : Heap} {tk : Tok} {m cm : Str → Option Value} {x y p : Int} {t1 t2 tp : Tok} {Q : Flow → Shared → Prop} (F0 : FrL B L (cs68 L) h m cm)
    (hx : m "least" = some (.int x t1)) (hy : m "most" = some (.int y t2)) (hcp : cm "place" = some (.int p tp)) (hx1 : 1 ≤ x) (hxy : x ≤ y)
    (hQ : ∀ h' tk' t, FrL B L (cs68 L) h' (fun z => if z = "left" then some (.int ((255 - p) % (x + y)) t) else m z) cm → Heap.SameBut L h h' → Q .next { s with heap := h', toks := tk' }) :
    wpAny (model prog w) A (exec (gameStmt 2) (envC 68 L a cd)) Q E { s with heap := h, toks := tk } := by
  have cP := F0.cell "place" (L + 2) (by rfl)
  rw [hcp] at cP
  refine wpAny_Assign_Name (wpAny_BinOp (wpAny_BinOp (wpAny_Constant_int (wpAny_Name (wpAny_loadName_cell (c := L + 2) rfl (by rfl) (by rfl) cP (op_sub fun t3 k3 => ?_))))))
  refine wpAny_BinOp (wpAny_Name (wpAny_loadName_local rfl rfl F0.ns hx (wpAny_Name (wpAny_loadName_local rfl rfl F0.ns hy (op_add fun t4 k4 => op_mod (by omega) fun t5 k5 => ?_)))))
  exact wpAny_storeName_local rfl F0.ns fun h6 hn6 hs6 => hQ h6 _ t5 (F0.set hn6 hs6) hs6
/-- if worths[place - 160] != (...): return False -/
theorem game_check {a aW : Addr} {L : Nat} {cd : Value} {B h : Heap} {tk : Tok} {m cm : Str → Option Value} {x y p l : Int} {t1 t2 tp tl : Tok} {wits : Array Value} {ws : List Int} {Q : Flow → Shared → Prop} (F0 : FrL B L (cs68 L) h m cm)
    (hx : m "least" = some (.int x t1)) (hy : m "most" = some (.int y t2)) (hl : m "left" = some (.int l tl)) (hcW : cm "worths" = some (.ref aW)) (hcp : cm "place" = some (.int p tp)) (hW : h.IsList aW wits) (hi : IntsAre wits.toList ws) (hwl : ws.length = 96) (hp : 160 ≤ p) (hp2 : p ≤ 255) (hx1 : 1 ≤ x) (hx2 : x < 1073741824)
    (he : ws.getD (p - 160).toNat 0 = if l < y then l / x % 2 else 1 + (l - x) / x % 2)
    (hQ : ∀ tk', Q .next { s with heap := h, toks := tk' }) :
    wpAny (model prog w) A (exec (gameStmt 3) (envC 68 L a cd)) Q E { s with heap := h, toks := tk } := by
  have cW := F0.cell "worths" (L + 1) (by rfl)
  rw [hcW] at cW
  have cP := F0.cell "place" (L + 2) (by rfl)
  rw [hcp] at cP
  obtain ⟨tv, ev⟩ := IntsAre.at hi (p - 160).toNat (ws.getD (p - 160).toNat 0) (by rw [List.getD_eq_getElem?_getD, List.getElem?_eq_getElem (by omega)]; rfl)
  refine wpAny_If (wpAny_isTrue_Compare1 (Sub_any (wpAny_Name (wpAny_loadName_cell (c := L + 1) rfl (by rfl) (by rfl) cW (wpAny_BinOp (wpAny_Name (wpAny_loadName_cell (c := L + 2) rfl (by rfl) (by rfl) cP (wpAny_Constant_int (op_sub fun t3 k3 => ⟨"list", _, F.slot_list_getitem.lookup, hW.typeIs, wpAny_getItem_list hW (by omega) (by omega) (x := .int (ws.getD (p - 160).toNat 0) tv) (by simpa using ev) ?_⟩)))))))) (by rfl))
  refine wpAny_IfExp (wpAny_isTrue_Compare1 (wpAny_Name (wpAny_loadName_local rfl rfl F0.ns hl (wpAny_Name (wpAny_loadName_local rfl rfl F0.ns hy (wpAny_lt_int (wpAny_truthy_bool ?_)))))) (by rfl))
  have fin : ∀ tk1 : Nat, ∀ (u1 u2 : Tok) (v : Int), ws.getD (p - 160).toNat 0 = v → wpAny (model prog w) A (compareOp .NotEq (.int (ws.getD (p - 160).toNat 0) u1) (.int v u2)) (fun c s₃ => wpAny (model prog w) A (truthy c) (fun b s₁ => if b = true then wpAny (model prog w) A (execs [Stmt.Return (some (Expr.Constant (Const.bool false) 0 { line := 156, col := 19, endLine := 156, endCol := 24 })) { line := 156, col := 12, endLine := 156, endCol := 24 }] (envC 68 L a cd)) Q E s₁ else wpAny (model prog w) A (execs [] (envC 68 L a cd)) Q E s₁) E s₃) E { s with heap := h, toks := tk1 } := by
    intro tk1 u1 u2 v hv
    refine PyProof.Rows.ne_int (wpAny_truthy_bool ?_)
    rw [hv, if_neg (by simp)]
    exact wpAny_execs_nil (hQ _)
  by_cases hly : l < y
  · rw [if_pos (by simpa using hly)]
    rw [if_pos hly] at he
    refine wpAny_BinOp (wpAny_BinOp (wpAny_Name (wpAny_loadName_local rfl rfl F0.ns hl (wpAny_Name (wpAny_loadName_local rfl rfl F0.ns hx (op_div (by omega) hx2 fun t4 k4 => wpAny_Constant_int (op_mod (by decide) fun t5 k5 => ?_)))))))
    exact fin _ _ _ _ he
  · rw [if_neg (by simpa using hly)]
    rw [if_neg hly] at he
    refine wpAny_BinOp (wpAny_Constant_int (wpAny_BinOp (wpAny_BinOp (wpAny_BinOp ?_))))
    refine wpAny_Name (wpAny_loadName_local rfl rfl F0.ns hl ?_)
    refine wpAny_Name (wpAny_loadName_local rfl rfl F0.ns hx ?_)
    refine op_sub fun t3 k3 => ?_
    refine wpAny_Name (wpAny_loadName_local rfl rfl F0.ns hx ?_)
    refine op_div (by omega) hx2 fun t4 k4 => ?_
    refine wpAny_Constant_int ?_
    refine op_mod (by decide) fun t5 k5 => ?_
    refine op_add fun t6 k6 => ?_
    exact fin _ _ _ _ he
end
end Mine

namespace Mine
open PySem PySem.Calls PyProof.Rows PySem.SeqAt
theorem game_body : gameFor.2.2 = [gameStmt 0, gameStmt 1, gameStmt 2, gameStmt 3] := by kernel_rfl
/-- what the list of the led-to worths holds -/
theorem led_mem {x y : Int} {i : Nat} {ws : List Int} (hx1 : 1 ≤ x) (hxy : x ≤ y) (hi : i ≤ 95) (hg : ∀ d : Nat, d < i → ws.getD (95 - d) 0 = gv x y d) (n : Int) :
    n ∈ (([x, y] : List Int).filter fun z => decide (255 - (i : Int) + z < 256)).map (fun z => ws.getD (255 - (i : Int) + z - 160).toNat 0) ↔ (x ≤ i ∧ n = gv x y ((i : Int) - x)) ∨ (y ≤ i ∧ n = gv x y ((i : Int) - y)) := by
  have key : ∀ z : Int, 1 ≤ z → z ≤ i → ws.getD (255 - (i : Int) + z - 160).toNat 0 = gv x y ((i : Int) - z) := fun z h1 h2 => by
    have := hg ((i : Int) - z).toNat (by omega)
    rw [show 95 - ((i : Int) - z).toNat = (255 - (i : Int) + z - 160).toNat by omega] at this
    rw [this, Int.toNat_of_nonneg (by omega)]
  rw [List.mem_map]
  constructor
  · rintro ⟨z, hz, rfl⟩
    obtain ⟨hz1, hz2⟩ := List.mem_filter.mp hz
    have hz3 : 255 - (i : Int) + z < 256 := of_decide_eq_true hz2
    rcases List.mem_cons.mp hz1 with rfl | hz1
    · exact .inl ⟨by omega, key z hx1 (by omega)⟩
    · have : z = y := List.mem_singleton.mp hz1
      subst this
      exact .inr ⟨by omega, key z (by omega) (by omega)⟩
  · rintro (⟨h1, h2⟩ | ⟨h1, h2⟩)
    · exact ⟨x, List.mem_filter.mpr ⟨by simp, decide_eq_true (by omega)⟩, by rw [h2]; exact key x hx1 h1⟩
    · exact ⟨y, List.mem_filter.mpr ⟨by simp, decide_eq_true (by omega)⟩, by rw [h2]; exact key y (by omega) h1⟩
section
variable {prog : Program} {w : World} {A : Around} {E : Value → Shared → Prop} {s : Shared} {mg mb : Str → Option Value}
theorem range_iter3 {a b c : Int} {t u v : Tok} {n : Nat} {Q : Value → Shared → Prop} (hc : c ≠ 0) (hsz : Builtin.Range.rangeSize a b c = n) (hsm : Builtin.Range.small a b c = true) (hp : Builtin.divisionGoesByPylong (b - a) c = false)
    (hQ : ∀ h' I tk, Kept s.heap h' → s.heap.get? I = none → I < h'.objs.size → StRange n I a c 0 h' → Q (.ref I) { s with heap := h', toks := tk }) :
    wpAny (model prog w) A (call (.type "range") [.int a t, .int b u, .int c v] []) (fun xv s₁ => wpAny (model prog w) A (pyIter xv) Q E s₁) E s := by
  refine call_range_3 hc ?_ (Or.inl hp)
  refine wpAny_pyIter_range (IsRange.new ..) hsm ?_
  refine hQ _ _ _ ((kept_push _ _).trans (kept_push _ _)) ?_ ?_ ?_
  · refine Heap.get?_none_of_le ?_
    rw [Heap.size_push]; exact Nat.le_succ _
  · simp [Heap.size_push]
  · have e1 : (a + ((0 : Nat) : Int) * c) = a := by simp
    have e2 : ((n : Int) - ((0 : Nat) : Int)) = Builtin.Range.rangeSize a b c := by rw [hsz]; simp
    show IsRangeIter _ _ _ _ _
    rw [e1, e2]
    exact Heap.get?_push_size _ rfl
/-- the game's loop -/
theorem law_game {a aT aW : Addr} {L : Nat} {cd : Value} {B h : Heap} {tk : Tok} {m cm : Str → Option Value} {x y : Int} {t1 t2 : Tok} {wits : Array Value} {Q : Flow → Shared → Prop} (hroom : A.depth + 12 < recursionLimit) (hA : A.handled = none) (G : Gl mg mb B) (F0 : FrL B L (cs68 L) h m cm)
    (hT : mg "ISTERMINAL" = some (.ref aT)) (hFT : FnAt B aT 61) (hnt : ∃ tk, mg "NT_OFFSET" = some (.int 256 tk)) (hrg : mg "range" = none) (hrb : mb "range" = some (.type "range")) (hmg : mg "min" = none) (hmb : mb "min" = some (.builtin "min"))
    (hx : m "least" = some (.int x t1)) (hy : m "most" = some (.int y t2)) (hcW : cm "worths" = some (.ref aW)) (hW : h.PlainList aW wits) (hWB : B.get? aW = none) (hWL : aW ≠ L) (hWC : ∀ n c, (n, c) ∈ cs68 L → aW ≠ c) (hi : IntsAre wits.toList (List.replicate 96 0)) (hx1 : 1 ≤ x) (hxy : x ≤ y) (hx2 : x < 1073741824)
    (hQ : ∀ h' tk', Kept B h' → Q .next { s with heap := h', toks := tk' }) :
    wpAny (model prog w) A (exec (lawStmt 9) (envC 68 L a cd)) Q E { s with heap := h, toks := tk } := by
  refine wpAny_For (wpAny_Call_NameR (ldB (G.keeps F0.keep) hrg hrb (PySem.callWith_type rfl (Calls.evalArgs_plain (Calls.spliced_cons ?_)))))
  refine wpAny_Constant_int (k := 0) (pos := ⟨0, 0, 0, 0⟩) (Calls.spliced_cons ?_)
  refine wpAny_Constant_int (k := 0) (pos := ⟨0, 0, 0, 0⟩) (Calls.spliced_cons ?_)
  refine wpAny_UnaryOp (wpAny_Constant_int (k := 0) (pos := ⟨0, 0, 0, 0⟩) (P.neg_int (Calls.spliced_nil ?_)))
  refine range_iter3 (n := 96) (by decide) (by decide) (by decide) (PyProof.noPylong_small (by decide)) fun h12 I k12 kk12 fI12 hIlt hit => ?_
  try dsimp only at kk12 fI12 ⊢
  have F12 := F0.kept kk12
  have nIL := F0.ne fI12
  have nIC : ∀ n c, (n, c) ∈ cs68 L → I ≠ c := fun n c hc => F0.neC68 fI12 hc
  have nIW : I ≠ aW := fun e => by
    obtain ⟨n, ho⟩ := hW
    have : h.get? I = none := fI12
    rw [e, ho] at this; cases this
  have bI := F0.fresh fI12
  obtain ⟨B1, F1, hB1, hX1, hk1⟩ := F12.rebase [I, aW]
  have kB := hk1 fun b hb => by
    rcases List.mem_cons.mp hb with q | q
    · rw [q]; exact bI
    · rw [List.mem_singleton.mp q]; exact hWB
  have hw1 : ∀ b ∈ [I], B1.get? b = none := fun b hb => hX1 b (by rw [List.mem_singleton.mp hb]; simp)
  have hWB1 : B1.get? aW = none := hX1 aW (by simp)
  have hL1 : L ∉ [I] := fun hm => nIL (List.mem_singleton.mp hm).symm
  have hC1 : ∀ n c, (n, c) ∈ cs68 L → c ∉ [I] := fun n c hc hm => nIC n c hc (List.mem_singleton.mp hm).symm
  have W := walks_range (prog := prog) (w := w) (A := A) hA I 255 (-1) 96
  have Gb := G.keeps kB
  have hFb := hFT.keeps kB
  have c1 : ((Str.ofString "place" : Str), L + 2) ∈ cs68 L := mem_of_lookup (by rfl)
  have c2 : ((Str.ofString "led" : Str), L + 3) ∈ cs68 L := mem_of_lookup (by rfl)
  have c3 : ((Str.ofString "worths" : Str), L + 1) ∈ cs68 L := mem_of_lookup (by rfl)
  refine codeAny_forLoop (fun n s' => ∃ (i : Nat) (h : Heap) (tk : Nat) (m cm : Str → Option Value) (wits : Array Value) (ws : List Int), n = 97 - i ∧ i ≤ 96 ∧ s' = { s with heap := h, toks := tk } ∧ FrL B1 L (cs68 L) h m cm ∧ m "least" = some (.int x t1) ∧ m "most" = some (.int y t2) ∧ cm "worths" = some (.ref aW) ∧
      h.IsList aW wits ∧ IntsAre wits.toList ws ∧ ws.length = 96 ∧ (∀ d : Nat, d < i → ws.getD (95 - d) 0 = gv x y d) ∧ StRange 96 I 255 (-1) i h) ?_ 97
    ⟨0, h12, _, _, cm, wits, _, rfl, by omega, rfl, F1, hx, hy, hcW, hW.isList.at fun o e => kk12 _ o e, hi, by simp, fun d hd => absurd hd (Nat.not_lt_zero _), hit⟩
  rintro n s' ⟨i, h, tk, m, cm, wits, ws, rfl, hi96, rfl, FX, mx, my, cmW, hWl, hiw, hwl, hg, hst⟩
  by_cases hlt : i < 96
  · refine W.item i _ _ _ hlt hst fun v h1 tk1 hP hst1 hk1 => ?_
    obtain ⟨_, ti, rfl⟩ := hP
    rw [show (255 + (i : Int) * (-1)) = 255 - (i : Int) by omega]
    have FX1 := FX.out hL1 hC1 hw1 hk1
    have hW1 := hWl.at fun o e => hk1 aW o (by simpa using Ne.symm nIW) e
    refine wpAny_assign_Name (wpAny_storeName_cell (c := L + 2) rfl (by rfl) (by rfl) (FX1.cell "place" (L + 2) (by rfl)) fun h2 hc2 hs2 => ?_)
    have FX2 := FX1.setC (n := "place") (c := L + 2) (by rfl) hc2 hs2
    have hW2 := hW1.extBut hs2.extBut (hWC _ _ c1)
    have hst2 : StRange 96 I 255 (-1) (i + 1) h2 := hs2.extBut _ _ (nIC _ _ c1) hst1
    try dsimp only
    show wpAny (model prog w) A (execs gameFor.2.2 _) _ _ _
    rw [game_body]
    refine wpAny_execs_cons (game_led (s := s) hroom hA Gb FX2 hT hFb hnt mx my ((if_neg (by decide +kernel)).trans cmW) (if_pos rfl) hW2 (hWC _ _ c2) hiw hwl (by omega) hx1 hxy fun h3 tk3 aD dits FX3 k3 hD3 hd3 fD3 => ?_)
    have hW3 := hW2.at fun o e => k3 aW o (hWC _ _ c2) e
    have hst3 : StRange 96 I 255 (-1) (i + 1) h3 := k3 _ _ (nIC _ _ c2) hst2
    have hmem := led_mem hx1 hxy (by omega) hg
    generalize hds : (([x, y] : List Int).filter fun z => decide (255 - (i : Int) + z < 256)).map (fun z => ws.getD (255 - (i : Int) + z - 160).toNat 0) = ds at hd3 hmem
    obtain ⟨⟨g0, g2⟩, gx, gy, gall⟩ := gv_mex hx1 hxy (show (0 : Int) ≤ (i : Int) by omega)
    have gout : gv x y i ∉ ds := fun hm => by
      rcases (hmem _).mp hm with ⟨h1, h2⟩ | ⟨h1, h2⟩
      · exact gx h1 h2
      · exact gy h1 h2
    refine wpAny_execs_cons (game_worth (s := s) hA Gb FX3 hrg hrb hmg hmb (if_pos rfl) ((if_neg (by decide +kernel)).trans ((if_neg (by decide +kernel)).trans cmW)) ((if_neg (by decide +kernel)).trans (if_pos rfl)) hW3 hWB1 hWL hWC hiw hwl (by omega) (by omega) hD3.isList hd3 ⟨(gv x y i).toNat, by omega, by rw [Int.toNat_of_nonneg g0]; exact gout⟩ fun h4 tk4 wits4 M FX4 k4 hW4 hi4 hM0 hM2 hMo hMl => ?_)
    have hst4 : StRange 96 I 255 (-1) (i + 1) h4 := k4 _ _ nIW hst3
    have hMg : M = gv x y i := by
      rcases Int.lt_trichotomy M (gv x y i) with q | q | q
      · exact absurd ((hmem M).mpr (gall M hM0 q)) hMo
      · exact q
      · exact absurd (hMl _ g0 q) gout
    refine wpAny_execs_cons (game_left (s := s) FX4 mx my ((if_neg (by decide +kernel)).trans (if_pos rfl)) hx1 hxy fun h5 tk5 t5 FX5 hs5 => ?_)
    have hW5 := hW4.extBut hs5.extBut hWL
    have hst5 : StRange 96 I 255 (-1) (i + 1) h5 := hs5.extBut _ _ nIL hst4
    have hset : (ws.set (255 - (i : Int) - 160).toNat M).getD (255 - (i : Int) - 160).toNat 0 = M := by
      rw [List.getD_eq_getElem?_getD, List.getElem?_set_self (by omega)]; rfl
    refine wpAny_execs_cons (game_check (s := s) (l := (i : Int) % (x + y)) (tl := t5) FX5 ((if_neg (by decide +kernel)).trans mx) ((if_neg (by decide +kernel)).trans my) ?_ ((if_neg (by decide +kernel)).trans ((if_neg (by decide +kernel)).trans cmW)) ((if_neg (by decide +kernel)).trans (if_pos rfl)) hW5 hi4 (by simpa using hwl) (by omega) (by omega) hx1 hx2 ?_ fun tk6 => ?_)
    · refine (if_pos rfl).trans ?_
      rw [show (255 - (255 - (i : Int))) = (i : Int) by omega]
    · rw [hset, hMg]; rfl
    · refine wpAny_execs_nil ⟨97 - (i + 1), by omega, i + 1, h5, _, _, _, wits4, _, rfl, hlt, rfl, FX5, (if_neg (by decide +kernel)).trans mx, (if_neg (by decide +kernel)).trans my, (if_neg (by decide +kernel)).trans ((if_neg (by decide +kernel)).trans cmW), hW5, hi4, by simpa using hwl, fun d hd => ?_, hst5⟩
      by_cases hdi : d = i
      · subst hdi
        have e : 95 - d = (255 - (d : Int) - 160).toNat := by omega
        rw [e, hset, hMg]
      · rw [← hg d (by omega), List.getD_eq_getElem?_getD, List.getD_eq_getElem?_getD, List.getElem?_set_ne (by omega)]
  · have hin : i = 96 := by omega
    subst hin
    exact W.done _ _ _ hst fun h1 tk1 hk1 => wpAny_execs_nil (hQ h1 _ (kB.trans (FX.out hL1 hC1 hw1 hk1).keep))
end
end Mine

namespace Mine
open PySem PySem.Calls PyProof.Rows PySem.SeqAt
theorem row_cases {ns : List Int} (hr : ∀ x, x ∈ ns → 0 ≤ x ∧ x < 1000) (h0 : (0 : Int) ∈ ns) : (∃ r, ns = 0 :: r) ∨ ∃ t inf, RowEnd ns t inf ∧ ∀ j, j < t → 1 ≤ ns.getD j 0 ∧ ns.getD j 0 < 1000 := by
  obtain ⟨p, hp⟩ : ∃ p : Int → Bool, p = fun x => x == 0 || x == 127 := ⟨_, rfl⟩
  have hlt : ns.findIdx p < ns.length := List.findIdx_lt_length_of_exists ⟨0, h0, by rw [hp]; rfl⟩
  have hgd : ∀ j (h : j < ns.length), ns.getD j 0 = ns[j] := fun j h => by rw [List.getD_eq_getElem?_getD, List.getElem?_eq_getElem h]; rfl
  have hat : p (ns.getD (ns.findIdx p) 0) = true := by rw [hgd _ hlt]; exact List.findIdx_getElem
  have hbef : ∀ j, j < ns.findIdx p → p (ns.getD j 0) = false := fun j h => by
    have := List.not_of_lt_findIdx h
    rw [hgd j (by omega)]
    simpa using this
  generalize ns.findIdx p = t at hlt hat hbef
  have hb2 : ∀ j, j < t → ns.getD j 0 ≠ 0 ∧ ns.getD j 0 ≠ 127 := fun j h => by
    have := hbef j h
    rw [hp] at this
    simpa using this
  have hst : ns[t] = 0 ∨ ns[t] = 127 := by
    rw [hp, hgd t hlt] at hat
    simpa using hat
  by_cases h1 : t = 0 ∧ ns[t] = 0
  · obtain ⟨ht, h2⟩ := h1
    subst ht
    match ns, hlt, h2 with
    | x :: r, _, h2 => exact .inl ⟨r, by rw [show x = 0 from h2]⟩
  · refine .inr ⟨t, decide (ns[t] = 0), ⟨hlt, hb2, ?_, fun h => ?_⟩, fun j hj => ?_⟩
    · rw [hgd t hlt]
      rcases hst with e | e
      · rw [e]; rfl
      · rw [e]; rfl
    · have h3 : ns[t] = 0 := of_decide_eq_true h
      exact Nat.pos_of_ne_zero fun e => h1 ⟨e, h3⟩
    · have h3 := hr ns[j] (List.getElem_mem (by omega))
      have h4 := (hb2 j hj).1
      rw [hgd j (by omega)] at h4 ⊢
      omega
theorem worth_ok : ∀ k < 36, 0 ≤ itemWorth k ∧ itemWorth k < 1000 := by decide +kernel
theorem rowPart_ok (T : Int) (k : Nat) (x : Int) : ∀ v, v ∈ rowPart T k x → 0 ≤ v ∧ v < 1000 := by
  intro v hv
  have hrep : ∀ (n : Nat) (l : List Int), (∀ u ∈ l, 0 ≤ u ∧ u < 1000) → v ∈ (List.replicate n l).flatten → 0 ≤ v ∧ v < 1000 := fun n l hl hm => by
    obtain ⟨l', h1, h2⟩ := List.mem_flatten.mp hm
    rw [List.eq_of_mem_replicate h1] at h2
    exact hl v h2
  unfold rowPart at hv
  rcases List.mem_append.mp hv with hv | hv
  · rcases List.mem_append.mp hv with hv | hv
    · rcases List.mem_append.mp hv with hv | hv
      · exact hrep _ _ (by decide) hv
      · exact hrep _ _ (by decide) hv
    · rw [List.mem_singleton.mp hv]; exact worth_ok _ (itIx_lt x)
  · by_cases h : k < 2
    · rw [if_pos h] at hv
      exact hrep _ _ (by decide) hv
    · rw [if_neg h] at hv; cases hv
theorem rowUp_ok (T : Int) (ms : List Int) : ∀ k v, v ∈ rowUp T ms k → 0 ≤ v ∧ v < 1000
  | 0, v, hv => by cases hv
  | k + 1, v, hv => by
    rcases List.mem_append.mp hv with h | h
    · exact rowUp_ok T ms k v h
    · exact rowPart_ok T k _ v h
end Mine

namespace Mine
open PySem PySem.Calls PyProof.Rows PySem.SeqAt

/-- all that the law stands on -/
structure LawOn (prog : Program) (w : World) (mg mb : Str → Option Value) (B : Heap) : Prop where
  G : Gl mg mb B
  grp : ∃ a, mg "_grouping_intervals" = some (.ref a) ∧ FnAt B a 3
  quo : ∃ a, mg "quotedata" = some (.ref a) ∧ FnAt B a 8
  trm : ∃ a, mg "ISTERMINAL" = some (.ref a) ∧ FnAt B a 61
  itm : ∃ a, mg "_law_items" = some (.ref a) ∧ FnAt B a 63
  rea : ∃ a, mg "_law_read" = some (.ref a) ∧ FnAt B a 64
  drw : ∃ a, mg "_law_drawn" = some (.ref a) ∧ FnAt B a 65
  tol : ∃ a, mg "_law_told" = some (.ref a) ∧ FnAt B a 66
  due : ∃ a, mg "_law_due" = some (.ref a) ∧ FnAt B a 67
  re1 : ∃ a, mg "_twin_re_1" = some (.ref a) ∧ IsPat B a code1
  re2 : ∃ a, mg "_twin_re_2" = some (.ref a) ∧ IsPat B a code2
  tok : ∃ d, mg "EXACT_TOKEN_TYPES" = some (.ref d) ∧ ∀ h', Kept B h' → StrTab prog w h' d (W.kdpD tab)
  crlf : ∃ tc, mg "CRLF" = some (.str ⟨#[13, 10]⟩ tc)
  nt : ∃ tk, mg "NT_OFFSET" = some (.int 256 tk)
  cmx : ∃ tk, mg "CHAR_MAX" = some (.int 127 tk)
  endm : ∃ tk, mg "ENDMARKER" = some (.int 0 tk)
  g1 : mg "range" = none ∧ mg "chr" = none ∧ mg "enumerate" = none ∧ mg "sum" = none ∧ mg "ord" = none ∧ mg "len" = none ∧ mg "min" = none ∧ mg "max" = none ∧ mg "ValueError" = none
  b1 : mb "range" = some (.type "range") ∧ mb "chr" = some (.builtin "chr") ∧ mb "enumerate" = some (.type "enumerate") ∧ mb "sum" = some (.builtin "sum") ∧ mb "ord" = some (.builtin "ord") ∧ mb "len" = some (.builtin "len") ∧ mb "min" = some (.builtin "min") ∧ mb "max" = some (.builtin "max") ∧ mb "ValueError" = some (.type "ValueError")
section
variable {prog : Program} {w : World} {A : Around} {E : Value → Shared → Prop} {s : Shared} {mg mb : Str → Option Value}
/-- the law gives back True -/
theorem law_ok {a l : Addr} {vs : List Value} {xs : List Int} {Q : Value → Shared → Prop} (hroom : A.depth + 20 < recursionLimit) (hA : A.handled = none) (hfr : A.frames = some []) (hu : A.units + 30 < cLine) (S : LawOn prog w mg mb s.heap) (hF : FnAt s.heap a 68)
    (hl : s.heap.IsList l vs.toArray) (hi : IntsAre vs xs) (hsz : vs.length ≤ 63)
    (hQ : ∀ h' tk gs, gs.bare = true → Kept s.heap h' → Q (.bool true) { s with heap := h', toks := tk, gens := s.gens.push gs }) :
    wpAny (model prog w) A (call (.ref a) [.ref l] []) Q E s := by
  obtain ⟨G, ⟨aG, nG, fG⟩, ⟨aQ, nQ, fQ⟩, ⟨aT, nT, fT⟩, ⟨aI, nI, fI⟩, ⟨aR, nR, fR⟩, ⟨aD, nD, fD⟩, ⟨aO, nO, fO⟩, ⟨aU, nU, fU⟩, ⟨p1, np1, P1⟩, ⟨p2, np2, P2⟩, ⟨d, nd, hTab⟩, ⟨tc, hcrlf⟩, hnt, hcm, hend, ⟨q1, q2, q3, q4, q5, q6, q7, q8, q9⟩, ⟨b1, b2, b3, b4, b5, b6, b7, b8, b9⟩⟩ := S
  refine fnC_call (i := 68) (binds := [("script", .ref l)]) (by omega) G hF (fun _ _ _ => rfl) (fun h₁ tk cd FC => ?_) (by
    intro x hx
    rw [List.mem_singleton.mp hx]
    exact .inl (by rfl))
  generalize s.heap.objs.size = L at FC ⊢
  obtain ⟨A', hA'⟩ : ∃ A', A' = A.deeper (envC 68 L a cd) := ⟨_, rfl⟩
  have hA1 : A'.handled = none := by rw [hA']; exact hA
  have hfr1 : A'.frames = some [envC 68 L a cd] := by rw [hA']; show A.frames.map _ = _; rw [hfr]; rfl
  have hu1 : A'.units + 20 < cLine := by rw [hA']; show A.units + 3 + 20 < cLine; omega
  have hd1 : A'.depth + 15 < recursionLimit := by rw [hA']; show A.depth + 1 + 15 < recursionLimit; omega
  rw [← hA', law_body]
  clear hA'
  have FL := FC.toL
  refine wpAny_execs_cons (law_draw (tg := 0) (s := s) (by omega) hA1 G FL nD fD nI fI q1 b1 q2 b2 q3 b3 q4 b4 hl hi hsz rfl fun B1 h1 tk1 m1 rr y ty T tt its ms F1 K1 m1a m1b m1c pr hri hy hT hz1 hz2 => ?_)
  have G1 := G.keeps K1
  refine wpAny_execs_cons (law_sent (s := s) F1 m1a fun h2 tk2 F2 => ?_)
  refine wpAny_execs_cons (law_loop (s := s) (by omega) hA1 G1 F2 q1 b1 nQ (fQ.keeps K1) np1 (P1.keeps K1) np2 (P2.keeps K1) hcrlf (if_pos rfl) ((if_neg (by decide +kernel)).trans m1b) hT hz1 ((if_neg (by decide +kernel)).trans m1c) fun h3 tk3 m3 z tz F3 m3a m3b hz hz3 => ?_)
  refine wpAny_execs_cons (law_read (s := s) (by omega) hA1 G1 F3 nR (fR.keeps K1) nd (fun h' k => hTab h' (K1.trans k)) q5 b5 q6 b6 hend m3a hz3 m3b fun B4 h4 tk4 m4 r ir F4 K4 m4a m4b pr4 hir => ?_)
  have hrow : lexA z.cps.toList ++ [0] = rowUp T ms 3 ++ [0] := by
    obtain ⟨n, hn⟩ : ∃ n : Nat, T.toNat = n + 1 := ⟨T.toNat - 1, by omega⟩
    have e : T = ((n + 1 : Nat) : Int) := by omega
    rw [hz, hy, hn, quote_mail n ms, ← e, (lex_sent hT ms).lexA]
  rw [hrow] at hir
  have hrr : ∀ x, x ∈ rowUp T ms 3 ++ [0] → 0 ≤ x ∧ x < 1000 := fun x hx => by
    rcases List.mem_append.mp hx with h | h
    · exact rowUp_ok T ms 3 x h
    · rw [List.mem_singleton.mp h]; decide
  have hr0 : (0 : Int) ∈ rowUp T ms 3 ++ [0] := by simp
  have prr := pr.at fun o e => K4 _ o e
  generalize rowUp T ms 3 ++ [0] = ns at hir hri hrr hr0
  have K5 := K1.trans K4
  have G4 := G.keeps K5
  have hns : ns.length ≤ 61 := by rw [← hri.length, Array.length_toList]; exact hz2
  rcases row_cases hrr hr0 with ⟨nr, rfl⟩ | ⟨t, inf, RE, hp⟩
  · -- the row is refused
    refine wpAny_execs_cons (law_told_z (s := s) (by omega) hA1 hfr1 G4 F4 nO (fO.keeps K5) hcm q9 b9 nG (fG.keeps K5) m4a m4b pr4 hir fun B5 h5 tk5 m5 gs dd a2 hbare F5 K6 m5a m5b m5c pd p2' => ?_)
    have K7 := K5.trans K6
    have G5 := G.keeps K7
    have prr5 := prr.at fun o e => K6 _ o e
    obtain ⟨v0, vr, hits, hvr⟩ := first_ints (ns := nr) hri
    refine wpAny_execs_cons (law_check (s := { s with gens := s.gens.push gs }) (by omega) G5 F5 nU (fU.keeps K7) m5b m5c m5a (pr4.at fun o e => K6 _ o e) prr5 hir hri pd (fun h' tk' Q' k hh => ?_) fun h6 tk6 F6 => ?_)
    · rw [hits] at prr5
      refine due_zero (by omega) hA1 (G5.keeps k) ((fU.keeps K7).keeps k) ((prr5.at fun o e => k _ o e).isList) fun h'' tk'' r5 a5 k5 pr5 pa5 fr5 => ?_
      exact hh h'' tk'' r5 _ _ k5 pr5 (EqAt.same _) (eqAt_lists (by show A'.units + 1 + 1 < cLine; omega) ((p2'.at fun o e => k _ o e).at fun o e => k5 _ o e).isList pa5.isList .nil .nil)
    · exact wpAny_execs_cons (law_none (s := { s with gens := s.gens.push gs }) F6 m5a pd fun tk7 => hQ _ _ gs hbare (K7.trans F6.keep))
  · refine wpAny_execs_cons (law_told (s := s) (by omega) hA1 G4 F4 nO (fO.keeps K5) nT (fT.keeps K5) hnt hcm nG (fG.keeps K5) m4a m4b pr4 hir RE (fun j hj => (hp j hj).1) (by have := RE.lt; omega) fun B5 h5 tk5 m5 gs dd a1 a2 its1 its2 K hbare F5 K6 m5a m5b m5c pd pa1 pa2 hi1 hi2 hlt hK => ?_)
    have K7 := K5.trans K6
    have G5 := G.keeps K7
    have prr5 := prr.at fun o e => K6 _ o e
    refine wpAny_execs_cons (law_check (s := { s with gens := s.gens.push gs }) (by omega) G5 F5 nU (fU.keeps K7) m5b m5c m5a (pr4.at fun o e => K6 _ o e) prr5 hir hri pd (fun h' tk' Q' k hh => ?_) fun h6 tk6 F6 => ?_)
    · refine due_ok (K := K) (vs := its.toList) (by omega) hA1 (G5.keeps k) ((fU.keeps K7).keeps k) q1 b1 q6 b6 q7 b7 q4 b4 (by simpa using (prr5.at fun o e => k _ o e).isList) hri (by rw [Array.length_toList]; omega) RE (fun j hj => ⟨(hp j hj).1, by have := (hp j hj).2; omega⟩) hlt hK fun h'' tk'' r5 c1 c2 jts1 jts2 k5 pr5 pc1 pc2 hj1 hj2 fr5 => ?_
      exact hh h'' tk'' r5 _ _ k5 pr5 (eqAt_lists (by show A'.units + 1 + 1 < cLine; omega) ((pa1.at fun o e => k _ o e).at fun o e => k5 _ o e).isList pc1.isList hi1 hj1) (eqAt_lists (by show A'.units + 1 + 1 < cLine; omega) ((pa2.at fun o e => k _ o e).at fun o e => k5 _ o e).isList pc2.isList hi2 hj2)
    · have hKl : its1.size = K := by rw [← Array.length_toList, hi1.length, sizesK_len]
      have hK256 : K ≤ 256 := by
        rcases Nat.eq_zero_or_pos K with e | e
        · omega
        · have h1 := hlt (K - 1) (by omega)
          rw [show K - 1 + 1 = K by omega] at h1
          have h2 := sumY_ge (fun j hj => (hp j hj).1) K fun j hj => by
            cases hinf : inf with
            | true => exact .inr (RE.pos hinf)
            | false =>
              rcases hK with ⟨h1, h2⟩ | ⟨h1 | h1, h2⟩
              · exact .inl (by omega)
              · exact .inl (by omega)
              · rw [hinf] at h1; cases h1
          omega
      refine wpAny_execs_cons (law_some (s := { s with gens := s.gens.push gs }) F6 m5a pd pa1 (by omega) fun tk7 => ⟨fun _ => hQ _ _ gs hbare (K7.trans F6.keep), fun hpos => ?_⟩)
      refine wpAny_execs_cons (law_ends (s := { s with gens := s.gens.push gs }) hA1 G5 F6 q7 b7 q8 b8 m5a pd pa1 hi1 (by rw [sizesK_len]; omega) fun h8 tk8 m8 x y' t1 t2 F8 m8a m8b hxm hym hxl hyl => ?_)
      refine wpAny_execs_cons (law_worths (s := { s with gens := s.gens.push gs }) F8 fun h9 tk9 aW wits F9 pW hiW bW nWL nWC => ?_)
      have hyv : ∀ z, z ∈ sizesK ns t K → 1 ≤ z ∧ z < 1000 := fun z hz => by
        obtain ⟨j, hj, rfl⟩ := List.mem_map.mp hz
        have hjK := List.mem_range.mp hj
        unfold yv
        by_cases e : j < t
        · rw [if_pos e]; exact hp j e
        · rw [if_neg e]
          refine hp (t - 1) ?_
          rcases hK with ⟨h1, h2⟩ | ⟨h1 | h1, h2⟩
          · omega
          · omega
          · have := RE.pos h1; omega
      refine wpAny_execs_cons (law_game (s := { s with gens := s.gens.push gs }) (by omega) hA1 G5 F9 nT (fT.keeps K7) hnt q1 b1 q7 b7 m8a m8b (if_pos rfl) pW bW nWL nWC hiW (hyv x hxm).1 (hxl _ hym) (by have := (hyv x hxm).2; omega) fun h10 tk10 k10 => ?_)
      exact wpAny_execs_cons (wpAny_Return_some (wpAny_Constant_bool (hQ _ _ gs hbare (K7.trans k10))))
end
end Mine

namespace Mine
open PySem PySem.Calls PyProof.Rows PySem.Builtin.Re

def fragName (K : Addr → Option Obj) (x : Str) : Option Value := match K mainGlobals with
  | some o => (match o.data with | .dict es _ => nsFind es x | _ => none)
  | none => none
def fragDict (K : Addr → Option Obj) : Bool := match K mainGlobals with
  | some o => (match o.data with | .dict _ _ => true | _ => false)
  | none => false
def intIs (v : Option Value) (k : Int) : Bool := match v with
  | some (.int i _) => decide (i = k)
  | _ => false
def strIs (v : Option Value) (x : List Nat) : Bool := match v with
  | some (.str y _) => decide (y.cps.toList = x)
  | _ => false
def refAt (v : Option Value) : Addr := match v with
  | some (.ref a) => a
  | _ => 0
def refIs (v : Option Value) : Bool := match v with
  | some (.ref _) => true
  | _ => false
def isZero (v : Value) : Bool := match v with
  | .int 0 0 => true
  | _ => false
def patIs (K : Addr → Option Obj) (a : Addr) (code : List Nat) : Bool := match K a with
  | some o => (match o.cls, o.dict, o.data with
    | .type t, none, .fields vs => decide (t = "re.Pattern") && isZero (vs.getD 2 .none) && isZero (vs.getD 6 .none) && (match vs.getD 5 .none with
      | .ref c => (match K c with
        | some oc => (match oc.data with
          | .seq cs _ => decide (((cs.map reRawOf).map (·.toNat)).toList = code)
          | _ => false)
        | none => false)
      | _ => false)
    | _, _, _ => false)
  | none => false
section
variable {K : Addr → Option Obj} {h : Heap} {mg : Str → Option Value}
theorem main_of_frag (KX : ∀ a o, K a = some o → h.get? a = some o) (hg : h.Ns mainGlobals mg) (hd : fragDict K = true) (x : Str) : mg x = fragName K x := by
  obtain ⟨o, es, ep, ho, hdt, _, hf⟩ := hg
  unfold fragDict at hd
  unfold fragName
  cases e : K mainGlobals with
  | none => rw [e] at hd; cases hd
  | some o' =>
    have h1 := KX _ _ e
    rw [ho] at h1
    cases h1
    rw [← hf x]
    simp only [hdt]
theorem isZero_eq {v : Value} (h : isZero v = true) : v = .int 0 0 := by
  unfold isZero at h
  split at h
  · rfl
  · cases h
theorem pat_of_frag (KX : ∀ a o, K a = some o → h.get? a = some o) {a : Addr} {code : Array Nat} (hp : patIs K a code.toList = true) : IsPat h a code := by
  unfold patIs at hp
  split at hp
  · rename_i o ho
    split at hp
    · rename_i t vs hc hdi hda
      simp only [Bool.and_eq_true] at hp
      obtain ⟨⟨⟨h1, h2⟩, h3⟩, h4⟩ := hp
      split at h4
      · rename_i c hcv
        split at h4
        · rename_i oc hoc
          split at h4
          · rename_i cs n hcs
            refine ⟨o, vs, c, oc, cs, n, KX _ _ ho, by rw [hc, of_decide_eq_true h1], hdi, hda, isZero_eq h2, hcv, isZero_eq h3, KX _ _ hoc, hcs, ?_⟩
            have := of_decide_eq_true h4
            apply Array.ext'
            exact this
          · cases h4
        · cases h4
      · cases h4
    · cases hp
  · cases hp
theorem int_of {v : Option Value} {k : Int} (h : intIs v k = true) : ∃ t, v = some (.int k t) := by
  unfold intIs at h
  split at h
  · exact ⟨_, by rw [of_decide_eq_true h]⟩
  · cases h
theorem str_of {v : Option Value} {x : List Nat} (h : strIs v x = true) : ∃ t, v = some (.str ⟨x.toArray⟩ t) := by
  unfold strIs at h
  split at h
  · rename_i y t
    refine ⟨t, ?_⟩
    have := of_decide_eq_true h
    have e : y = ⟨x.toArray⟩ := by
      cases y with
      | mk c =>
        congr 1
        apply Array.ext'
        simpa using this
    rw [e]
  · cases h
theorem ref_of {v : Option Value} (h : refIs v = true) : v = some (.ref (refAt v)) := by
  unfold refIs at h
  split at h
  · rfl
  · cases h
end
theorem fn_of_top {p : Program} {loose : List Str} {mean : ExcName → Option Value} {mg mb : Str → Option Value} {h : Heap} (T : Top p loose mean mg mb h) {is : List Nat} (hr : (recsOf p).map (fun d => (d.name, d.params, d.body, d.scope)) = is.map defAt) {i : Nat} (hi : i ∈ is) :
    ∃ a, mg (defAt i).1 = some (.ref a) ∧ FnAt h a i := by
  have hm : defAt i ∈ (recsOf p).map (fun d => (d.name, d.params, d.body, d.scope)) := by rw [hr]; exact List.mem_map.mpr ⟨i, hi, rfl⟩
  obtain ⟨d, hd, e⟩ := List.mem_map.mp hm
  obtain ⟨a, o, pm, code, doc, h1, h2, h3, h4⟩ := T.fn d hd
  have e1 : d.name = (defAt i).1 := congrArg (·.1) e
  have e2 : d.params = (defAt i).2.1 := congrArg (·.2.1) e
  have e3 : d.body = (defAt i).2.2.1 := congrArg (·.2.2.1) e
  have e4 : d.scope = (defAt i).2.2.2 := congrArg (·.2.2.2) e
  rw [e1] at h1 h3 h4
  rw [e2, e3, e4] at h3
  exact ⟨a, h1, o, pm, code, doc, h2, h3, h4⟩
def lawIx : List Nat := [3, 8, 61, 63, 64, 65, 66, 67, 68]
/-- what is to be seen of the written objects -/
def fragOk (K : Addr → Option Obj) : Bool := fragDict K && ((["range", "chr", "enumerate", "sum", "ord", "len", "min", "max", "ValueError"] : List String).all fun x => (fragName K (Str.ofString x)).isNone) &&
  (refIs (fragName K "_twin_re_1") && patIs K (refAt (fragName K "_twin_re_1")) code1.toList) && (refIs (fragName K "_twin_re_2") && patIs K (refAt (fragName K "_twin_re_2")) code2.toList) && refIs (fragName K "EXACT_TOKEN_TYPES") &&
  strIs (fragName K "CRLF") [13, 10] && intIs (fragName K "NT_OFFSET") 256 && intIs (fragName K "CHAR_MAX") 127 && intIs (fragName K "ENDMARKER") 0
theorem none_at {K : Addr → Option Obj} {h : Heap} {mg : Str → Option Value} (hm : ∀ x, mg x = fragName K x) {l : List String} (ha : (l.all fun x => (fragName K (Str.ofString x)).isNone) = true) {x : String} (hx : x ∈ l) : mg (Str.ofString x) = none := by
  rw [hm]
  have := List.all_eq_true.mp ha x hx
  simpa using this
theorem lawOn_of {p : Program} {loose : List Str} {mean : ExcName → Option Value} {mg mb : Str → Option Value} {h : Heap} {K : Addr → Option Obj} {prog : Program} {w : World} (T : Top p loose mean mg mb h) (KX : ∀ a o, K a = some o → h.get? a = some o) (hr : (recsOf p).map (fun d => (d.name, d.params, d.body, d.scope)) = lawIx.map defAt) (hf : fragOk K = true)
    (hTab : ∀ h', Kept h h' → StrTab prog w h' (refAt (fragName K "EXACT_TOKEN_TYPES")) (W.kdpD tab)) : LawOn prog w mg mb h := by
  simp only [fragOk, Bool.and_eq_true] at hf
  obtain ⟨⟨⟨⟨⟨⟨⟨⟨f0, f1⟩, ⟨f2, f2'⟩⟩, ⟨f3, f3'⟩⟩, f4⟩, f5⟩, f6⟩, f7⟩, f8⟩ := hf
  have hm := main_of_frag KX T.g f0
  have hn := fun x hx => none_at (h := h) (x := x) hm f1 hx
  have fn := fun i (hi : i ∈ lawIx) => fn_of_top T hr hi
  have hb := fun x hx => T.builtins x hx
  have e2 : mg "_twin_re_1" = _ := (hm _).trans (ref_of f2)
  have e3 : mg "_twin_re_2" = _ := (hm _).trans (ref_of f3)
  have e4 : mg "EXACT_TOKEN_TYPES" = _ := (hm _).trans (ref_of f4)
  obtain ⟨t5, h5⟩ := str_of f5
  obtain ⟨t6, h6⟩ := int_of f6
  obtain ⟨t7, h7⟩ := int_of f7
  obtain ⟨t8, h8⟩ := int_of f8
  refine ⟨⟨T.g, T.b, T.nolimit⟩, fn 3 (by decide), fn 8 (by decide), fn 61 (by decide), fn 63 (by decide), fn 64 (by decide), fn 65 (by decide), fn 66 (by decide), fn 67 (by decide), ⟨_, e2, pat_of_frag KX f2'⟩, ⟨_, e3, pat_of_frag KX f3'⟩, ⟨_, e4, hTab⟩, ⟨t5, (hm _).trans h5⟩, ⟨t6, (hm _).trans h6⟩, ⟨t7, (hm _).trans h7⟩, ⟨t8, (hm _).trans h8⟩, ?_, ?_⟩
  · exact ⟨hn _ (by decide), hn _ (by decide), hn _ (by decide), hn _ (by decide), hn _ (by decide), hn _ (by decide), hn _ (by decide), hn _ (by decide), hn _ (by decide)⟩
  · refine ⟨(hb _ (by decide +kernel)).trans ?_, (hb _ (by decide +kernel)).trans ?_, (hb _ (by decide +kernel)).trans ?_, (hb _ (by decide +kernel)).trans ?_, (hb _ (by decide +kernel)).trans ?_, (hb _ (by decide +kernel)).trans ?_, (hb _ (by decide +kernel)).trans ?_, (hb _ (by decide +kernel)).trans ?_, (hb _ (by decide +kernel)).trans ?_⟩ <;> kernel_rfl
def tabD : List (Str × PyData) := tab.map fun p => (p.1, PyData.int p.2)
theorem tabD_keys : (tabD.map (·.1)).Nodup := by decide +kernel
theorem tab_of_frag {K : Addr → Option Obj} {h : Heap} {prog : Program} {w : World} (KX : ∀ a o, K a = some o → h.get? a = some o) {a : Addr} (hl : KTD.tabLook KTD.flatLooks K a tabD = true) (hh : KTD.hashesOf K a = tabD.map fun p => (PySem.strKind prog w).hash p.1) :
    ∀ h', Kept h h' → StrTab prog w h' a (W.kdpD tab) := fun h' k => by
  have := KTD.strTab_of_look prog w (get := K) (h := h') (fun a o e => k _ _ (KX a o e)) hl tabD_keys hh
  have e : (tabD.map fun p => (PyData.str p.1, p.2)) = W.kdpD tab := by
    unfold tabD W.kdpD
    rw [List.map_map]; rfl
  rw [e] at this
  exact this
end Mine

namespace Mine
open PySem PySem.W PyProof.Rows

/-- the top's run over a tree of objects -/
def topG (ok : Nat → Option Value → Thread → Bool) (st : SharedT → Thread → Option (SharedT × Thread)) (n₀ : Nat) (ann : Option Value) : Nat → SharedT → Thread → Option SharedT
  | 0, _, _ => none
  | n + 1, s, t => match through t with
    | true => some s
    | false => match ok n₀ ann t with
      | false => none
      | true => match st s t with
        | some (s', t') => topG ok st n₀ ann n s' t'
        | none => none
theorem topG_of {tb : String → Option Builtin} {p : Program} {w : World} {n₀ : Nat} {ann : Option Value} : ∀ {n : Nat} {s r : SharedT} {t : Thread}, topG stepOk (stepT (denote tb) p w) n₀ ann n s t = some r → topRun tb p w n₀ ann n s.abs t = some r.abs
  | 0, _, _, _, h => by cases h
  | n + 1, s, r, t, h => by
    unfold topG at h
    unfold topRun
    cases he : through t with
    | true => rw [he] at h; cases h; rfl
    | false =>
      rw [he] at h
      cases hk : stepOk n₀ ann t with
      | false => rw [hk] at h; cases h
      | true =>
        rw [hk] at h
        cases hs : stepT (denote tb) p w s t with
        | none => rw [hs] at h; cases h
        | some q => obtain ⟨s₂, t₂⟩ := q; rw [hs] at h; dsimp only; rw [stepT_spec hs]; exact topG_of h
def ofObjs : List Obj → BT → Nat → Option BT
  | [], t, _ => some t
  | o :: r, t, n => match ((t.ins n o).get n).isSome with
    | true => ofObjs r (t.ins n o) (n + 1)
    | false => none
theorem ofObjs_abs {life : Life} : ∀ {l : List Obj} {t r : BT} {n : Nat}, ofObjs l t n = some r → absHeap r (n + l.length) life = ⟨(absHeap t n life).objs ++ l.toArray, life⟩
  | [], t, r, n, h => by
    cases h
    show absHeap t n life = _
    simp [absHeap]
  | o :: l, t, r, n, h => by
    unfold ofObjs at h
    cases g : ((t.ins n o).get n).isSome with
    | false => rw [g] at h; cases h
    | true =>
      rw [g] at h
      have := ofObjs_abs (life := life) h
      rw [List.length_cons, show n + (l.length + 1) = n + 1 + l.length by omega, this, absHeap_ins g]
      show Heap.mk _ _ = Heap.mk _ _
      congr 1
      show (absHeap t n life).objs.push o ++ l.toArray = _
      apply Array.ext'
      simp
def toT (s : Shared) : Option SharedT := (ofObjs s.heap.objs.toList .nil 0).map fun t => ⟨t, s.heap.objs.size, s.heap.life, s.gens, s.drawn, s.toks, s.os⟩
theorem toT_abs {s : Shared} {r : SharedT} (h : toT s = some r) : r.abs = s := by
  unfold toT at h
  obtain ⟨t, ht, rfl⟩ := Option.map_eq_some_iff.mp h
  have := ofObjs_abs (life := s.heap.life) ht
  obtain ⟨⟨objs, life⟩, gens, drawn, toks, os⟩ := s
  show Shared.mk _ _ _ _ _ = Shared.mk _ _ _ _ _
  congr 1
  rw [Nat.zero_add, Array.length_toList] at this
  rw [this]
  show Heap.mk _ _ = Heap.mk _ _
  congr 1
  show (absHeap .nil 0 _).objs ++ objs.toList.toArray = objs
  have e : (absHeap .nil 0 life).objs = #[] := rfl
  rw [show (absHeap .nil 0 (Shared.heap ⟨⟨objs, life⟩, gens, drawn, toks, os⟩).life).objs = #[] from rfl]
  simp
/-- the whole run, by functions that may be turned to quicker ones -/
def endsG (imp : Program → World → Nat → Shared → Thread → Option Shared) (fen : Program → Shared → Option Shared) (beg : Program → Shared × Thread) (ok : Nat → Option Value → Thread → Bool) (st : SharedT → Thread → Option (SharedT × Thread)) (p : Program) (w : World) (N : Nat) : Option Shared :=
  ((imp (opening p) w N (beg (opening p)).1 (beg (opening p)).2).bind (fen p)).bind fun s₀ => match s₀.heap.isNs mainGlobals && s₀.gens.size == 0 with
    | true => (toT s₀).bind fun t₀ => (topG ok st s₀.heap.objs.size (s₀.heap.nsMap mainGlobals "__annotations__") N t₀ (topStub p)).bind fun r => match staticsOk (importedModules p.main.body) s₀.heap r.abs.heap && namesBound p r.abs.heap && gensDone r.abs && laidKept s₀.heap r.abs.heap with
      | true => some r.abs
      | false => none
    | false => none
theorem endsG_of {tb : String → Option Builtin} {p : Program} {w : World} {N : Nat} {r : Shared} (h : endsG (importEnds tb) fenceModules? PySem.start stepOk (stepT (denote tb) p w) p w N = some r) : openEnds tb p w N = some r := by
  unfold endsG at h
  obtain ⟨s₀, h0, h⟩ := Option.bind_eq_some_iff.mp h
  unfold openEnds
  refine Option.bind_eq_some_iff.mpr ⟨s₀, h0, ?_⟩
  unfold topFrom
  cases e : s₀.heap.isNs mainGlobals && s₀.gens.size == 0 with
  | false => rw [e] at h; cases h
  | true =>
    rw [e] at h
    obtain ⟨t₀, ht, h⟩ := Option.bind_eq_some_iff.mp h
    obtain ⟨q, hq, h⟩ := Option.bind_eq_some_iff.mp h
    have h1 := topG_of hq
    rw [toT_abs ht] at h1
    dsimp only
    refine Option.bind_eq_some_iff.mpr ⟨_, h1, ?_⟩
    exact h
end Mine

namespace Mine
open PySem PySem.W PyProof.Rows
def keepIt : Stmt → Bool
  | .Assign [.Name x _] _ _ => !(x == Str.ofString "__name__")
  | _ => true
def viewOf (p : Program) : Program := { p with main := { p.main with body := p.main.body.filter keepIt } }
def lawLoose : List Str := [Str.ofString "_twin_re_1", Str.ofString "_twin_re_2", Str.ofString "EXACT_TOKEN_TYPES"]
def lawXt (s : Shared) : Bool := xlAt (viewOf PySem.Challenge.pw_sw0023_01) [] s && recOk [] s
def lookOk (get : Addr → Option Obj) : Bool := fragOk get && KTD.tabLook KTD.flatLooks get (refAt (fragName get "EXACT_TOKEN_TYPES")) tabD
def lawObs (s : Shared) : Bool × List Int := (lookOk s.heap.get?, KTD.hashesOf s.heap.get? (refAt (fragName s.heap.get? "EXACT_TOKEN_TYPES")))
def lawVal (w : World) : Bool × List Int := (true, tabD.map fun p => (PySem.strKind PySem.Challenge.pw_sw0023_01 w).hash p.1)
def obsA {α : Type} (q : Program) (Yf : Shared → α) (s : Shared) := (seen ((recsOf q).map (·.name)) (ownsOf q) [] { s with gens := #[] }, s.heap.bltView, tabsOk q s, Yf s)
def goodA {α : Type} (q : Program) (ya : α) := (expectedOf q, bltViewBooted, true, ya)
def obsB (q : Program) (loose mods : List Str) (s : Shared) := (s.heap.keysOk (looseW q loose) ((recsOf q).map (·.name)) ((litsOf q).map (·.1)) ((clssOf q (looseW q loose)).map (·.name)) && s.heap.accountedOkI mods && s.heap.isNs mainGlobals && s.heap.isNs builtinsNs,
  pinSeenD q (drecsOf q) s, plainSeenE q (looseW q loose) s, plainSeenD q loose s, wideSeen q s, clsSeenW q loose s)
def goodB (q : Program) (loose : List Str) := (true, pinGoodD (drecsOf q), plainGoodE q (looseW q loose), plainGoodD q loose, wideGood q, clsGoodW q loose)
def obsC (q : Program) (Xt : Shared → Bool) (g0 : Bool) (s : Shared) := (tablesOk q s.heap, Xt s, (if g0 then s.gens.size == 0 else !leftWithCleanup s.gens))
def endsQ (p : Program) (w : World) : Option Shared := endsG (importEnds treeTable) fenceModules? PySem.start stepOk (stepT (denote treeTable) p w) p w 4000
theorem all_obs {p : Program} {w : World} {α β γ : Type} {f : Shared → α} {g : Shared → β} {k : Shared → γ} {a : α} {b : β} {c : γ} (ha : (endsQ p w).map f = some a) (hb : (endsQ p w).map g = some b) (hc : (endsQ p w).map k = some c) : ∃ s, openEnds treeTable p w 4000 = some s ∧ f s = a ∧ g s = b ∧ k s = c := by
  obtain ⟨s, h1, h2⟩ := Option.map_eq_some_iff.mp ha
  obtain ⟨s', h3, h4⟩ := Option.map_eq_some_iff.mp hb
  obtain ⟨s'', h5, h6⟩ := Option.map_eq_some_iff.mp hc
  rw [h1] at h3 h5; cases h3; cases h5
  exact ⟨s, endsG_of h1, h2, h4, h6⟩
theorem left_of {p q : Program} {loose mods : List Str} {Xt : Shared → Bool} {g0 : Bool} {w : World} {α : Type} {Yf : Shared → α} {ya : α} (ha : (endsQ p w).map (obsA q Yf) = some (goodA q ya)) (hb : (endsQ p w).map (obsB q loose mods) = some (goodB q loose)) (hc : (endsQ p w).map (obsC q Xt g0) = some (true, true, true)) :
    (openEnds treeTable p w 4000).map (fun s => (openSeen q loose mods Xt g0 s, Yf s)) = some (openGood q loose, ya) := by
  obtain ⟨s, h1, h2, h3, h4⟩ := all_obs ha hb hc
  refine Option.map_eq_some_iff.mpr ⟨s, h1, ?_⟩
  simp only [obsA, goodA, Prod.mk.injEq] at h2
  simp only [obsB, goodB, Prod.mk.injEq] at h3
  simp only [obsC, Prod.mk.injEq] at h4
  obtain ⟨e1, e2, e3, e4⟩ := h2
  obtain ⟨f1, f2, f3, f4, f5, f6⟩ := h3
  obtain ⟨g1, g2, g3⟩ := h4
  unfold openSeen openGood
  rw [e1, e2, e3, e4, f1, f2, f3, f4, f5, f6, g1, g2, g3]
  rfl
theorem left_fa : ∀ w : World, (endsQ PySem.Challenge.pw_sw0023_01 (w.withFollow "special-get-raises" false)).map (obsA (viewOf PySem.Challenge.pw_sw0023_01) lawObs) = some (goodA (viewOf PySem.Challenge.pw_sw0023_01) (lawVal (w.withFollow "special-get-raises" false))) := fun w => by
  unfold endsQ
  rw [Fast.te10274390034422433532, Fast.te14364793385576792824, Fast.te14289696077712309145, Fast.te1435165496053646825, Fast.te6613529449190102663, Fast.te10156331382660048174, Fast.te11892475500146522536]
  kernel_rfl
theorem left_fb : ∀ w : World, (endsQ PySem.Challenge.pw_sw0023_01 (w.withFollow "special-get-raises" false)).map (obsB (viewOf PySem.Challenge.pw_sw0023_01) lawLoose (importedModules PySem.Challenge.pw_sw0023_01.main.body)) = some (goodB (viewOf PySem.Challenge.pw_sw0023_01) lawLoose) := fun w => by
  unfold endsQ
  rw [Fast.te10274390034422433532, Fast.te14364793385576792824, Fast.te14289696077712309145, Fast.te1435165496053646825, Fast.te6613529449190102663, Fast.te10156331382660048174, Fast.te11892475500146522536]
  kernel_rfl
theorem left_fc : ∀ w : World, (endsQ PySem.Challenge.pw_sw0023_01 (w.withFollow "special-get-raises" false)).map (obsC (viewOf PySem.Challenge.pw_sw0023_01) lawXt true) = some (true, true, true) := fun w => by
  unfold endsQ
  rw [Fast.te10274390034422433532, Fast.te14364793385576792824, Fast.te14289696077712309145, Fast.te1435165496053646825, Fast.te6613529449190102663, Fast.te10156331382660048174, Fast.te11892475500146522536]
  kernel_rfl
theorem left_ta : ∀ w : World, (endsQ PySem.Challenge.pw_sw0023_01 (w.withFollow "special-get-raises" true)).map (obsA (viewOf PySem.Challenge.pw_sw0023_01) lawObs) = some (goodA (viewOf PySem.Challenge.pw_sw0023_01) (lawVal (w.withFollow "special-get-raises" true))) := fun w => by
  unfold endsQ
  rw [Fast.te10274390034422433532, Fast.te14364793385576792824, Fast.te14289696077712309145, Fast.te1435165496053646825, Fast.te6613529449190102663, Fast.te10156331382660048174, Fast.te11892475500146522536]
  kernel_rfl
theorem left_tb : ∀ w : World, (endsQ PySem.Challenge.pw_sw0023_01 (w.withFollow "special-get-raises" true)).map (obsB (viewOf PySem.Challenge.pw_sw0023_01) lawLoose (importedModules PySem.Challenge.pw_sw0023_01.main.body)) = some (goodB (viewOf PySem.Challenge.pw_sw0023_01) lawLoose) := fun w => by
  unfold endsQ
  rw [Fast.te10274390034422433532, Fast.te14364793385576792824, Fast.te14289696077712309145, Fast.te1435165496053646825, Fast.te6613529449190102663, Fast.te10156331382660048174, Fast.te11892475500146522536]
  kernel_rfl
theorem left_tc : ∀ w : World, (endsQ PySem.Challenge.pw_sw0023_01 (w.withFollow "special-get-raises" true)).map (obsC (viewOf PySem.Challenge.pw_sw0023_01) lawXt true) = some (true, true, true) := fun w => by
  unfold endsQ
  rw [Fast.te10274390034422433532, Fast.te14364793385576792824, Fast.te14289696077712309145, Fast.te1435165496053646825, Fast.te6613529449190102663, Fast.te10156331382660048174, Fast.te11892475500146522536]
  kernel_rfl
theorem law_left : LeftO PySem.Challenge.pw_sw0023_01 (viewOf PySem.Challenge.pw_sw0023_01) lawLoose lawXt lawObs lawVal 4000 := byRow2 "special-get-raises" (fun w => left_of (left_fa w) (left_fb w) (left_fc w)) fun w => left_of (left_ta w) (left_tb w) (left_tc w)
end Mine

namespace Mine
open PySem PySem.W PyProof.Rows
/-- what is seen of the written objects, at every later heap -/
def lawSays (w : World) (h : Heap) : Prop := ∃ get : Addr → Option Obj, (∀ a o, get a = some o → h.get? a = some o) ∧ lookOk get = true ∧ KTD.hashesOf get (refAt (fragName get "EXACT_TOKEN_TYPES")) = tabD.map fun p => (PySem.strKind PySem.Challenge.pw_sw0023_01 w).hash p.1
theorem lawSays_of (w : World) (s : Shared) (h : lawObs s = lawVal w) : lawSays w s.heap := by
  unfold lawObs lawVal at h
  obtain ⟨h1, h2⟩ := Prod.mk.inj h
  exact ⟨s.heap.get?, fun _ _ e => e, h1, h2⟩
theorem lawSays_keeps (w : World) (h h' : Heap) (x : lawSays w h) (k : ∀ b o, h.get? b = some o → h'.get? b = some o) : lawSays w h' :=
  let ⟨get, h1, r⟩ := x; ⟨get, fun a o e => k a o (h1 a o e), r⟩
/-- the law's ground, from what the head gives -/
theorem ground_law {loose : List Str} {mean : ExcName → Option Value} {mg mb : Str → Option Value} {h : Heap} {w : World} {p : Program} (T : Top p loose mean mg mb h) (hr : (recsOf p).map (fun d => (d.name, d.params, d.body, d.scope)) = lawIx.map Mine.defAt) (Y : lawSays w h) : LawOn PySem.Challenge.pw_sw0023_01 w mg mb h := by
  obtain ⟨get, h1, h2, h3⟩ := Y
  unfold lookOk at h2
  obtain ⟨h4, h5⟩ := Bool.and_eq_true_iff.mp h2
  exact lawOn_of T h1 hr h4 (tab_of_frag h1 h5 h3)
theorem view_recs : (recsOf (viewOf PySem.Challenge.pw_sw0023_01)).map (fun d => (d.name, d.params, d.body, d.scope)) = lawIx.map Mine.defAt := by kernel_rfl
theorem fn_law {p : Program} {loose : List Str} {mean : ExcName → Option Value} {mg mb : Str → Option Value} {h : Heap} (T : Top p loose mean mg mb h) (hr : (recsOf p).map (fun d => (d.name, d.params, d.body, d.scope)) = lawIx.map Mine.defAt) {nm : Str} (hn : (Mine.defAt 68).1 = nm) {fa : Addr} (hmg : mg nm = some (.ref fa)) : FnAt h fa 68 := by
  obtain ⟨a, h1, hF⟩ := fn_of_top T hr (i := 68) (by decide)
  rw [hn, hmg] at h1
  injection h1 with h1
  injection h1 with h1
  rw [h1]; exact hF
/-- the law's own record -/
def lawPos : Pos := match (PySem.Challenge.pw_sw0023_01.main.body[68]? : Option Stmt) with
  | some (Stmt.FunctionDef _ _ _ _ _ _ _ _ _ p) => p
  | _ => default
def lawRec : DefRec := ⟨(Mine.defAt 68).1, (Mine.defAt 68).2.1, (Mine.defAt 68).2.2.1, (Mine.defAt 68).2.2.2, lawPos⟩
theorem law_def : defOf (viewOf PySem.Challenge.pw_sw0023_01) PySem.Challenge.rw_sw0023_01.row.name = some (lawRec, []) := by kernel_rfl
theorem law_the : PySem.Challenge.rw_sw0023_01.row.prog.theDef PySem.Challenge.rw_sw0023_01.row.name = some (lawRec.params, lawRec.body, lawRec.scope) := by kernel_rfl
theorem law_kw : kwWritten? lawRec.params.kwonlyargs lawRec.params.kw_defaults = some [] := by kernel_rfl
theorem law_name : (Mine.defAt 68).1 = lawRec.name := rfl
theorem law_bare : PySem.Challenge.rw_sw0023_01.row.prog.bare := by
  refine ⟨?_, ?_, ?_, ?_, ?_, ?_⟩
  iterate 5 kernel_rfl
  decide +kernel
theorem law_fits : (chainsOk (viewOf PySem.Challenge.pw_sw0023_01) && opensWell PySem.Challenge.rw_sw0023_01.row.prog && (frees PySem.Challenge.rw_sw0023_01.row.toRowW && PySem.Challenge.rw_sw0023_01.row.within.isEmpty)) = true := by decide +kernel
section
variable {prog : Program} {w : World} {s : Shared} {mg mb : Str → Option Value}
/-- the claim's end, from the law's own answer -/
theorem law_good {c : ClaimW} {cl : Str → Option Addr} {mean : ExcName → Option Value} {args : List WData} {E : Value → Shared → Prop} {fa l : Addr} {vs : List Value} {xs : List Int} (S : LawOn prog w mg mb s.heap) (hF : FnAt s.heap fa 68) (hl : s.heap.IsList l vs.toArray) (hi : IntsAre vs xs) (hsz : xs.length ≤ 63) (hg : s.gens = #[])
    (hn : ∀ cls, c.raises args cls = false) (hp : c.post args (.bool true) args = true) :
    wpAny (model prog w) callerA (call (.ref fa) [.ref l] []) (fun v s' => GoodWG c cl mean args s (.ok (.ret v)) s') E s := by
  refine law_ok (by decide) rfl rfl (by decide) S hF hl hi (by rw [hi.length]; exact hsz) fun h' tk gs hb k => ?_
  refine ⟨.inl ⟨.bool true, .bool true, [], rfl, hn, .bool true, hp, unshared_nil⟩, .of_keep k, rfl, ?_⟩
  rw [hg]
  exact AllBare.push AllBare.empty hb
end
end Mine
open PySem PySem.W PyProof.Rows
theorem PySem.Challenge.cw_sw0023_01_holds : PySem.Challenge.rw_sw0023_01.Holds := by
  w_on; o_law
  refine PySem.W.holds_open (r := PySem.Challenge.rw_sw0023_01.row) (q := Mine.viewOf PySem.Challenge.pw_sw0023_01) (loose := Mine.lawLoose) (Xt := Mine.lawXt) (XP := XL (Mine.viewOf PySem.Challenge.pw_sw0023_01) []) (Yf := Mine.lawObs) (Ya := Mine.lawVal) (YP := Mine.lawSays) (N := 4000) Mine.law_left Mine.lawSays_of Mine.lawSays_keeps (fun s e => xl_of s (Bool.and_eq_true_iff.mp e).1) XL.keeps Mine.law_def Mine.law_the Mine.law_kw (fun s e => recFacts_of (Bool.and_eq_true_iff.mp e).2) (by rfl) (by assumption) Mine.law_fits Mine.law_bare ?hw ?hc
  case hw => w_witness2
  intro w s₀ s₁ mg mb G Y fa o pm cd doc dV kV ho hd hcd hD hmg hg args vals as hpre hlay hrd hwl hlo
  refine Ground.open G ?_
  intro T B D TE TW
  clear hd hcd hD ho
  have hF := Mine.fn_law T Mine.view_recs Mine.law_name hmg
  have S := Mine.ground_law T Mine.view_recs Y
  clear hmg Y T B D TE TW G
  wrow_args hpre hlay hrd hwl hlo
  rename_i xs hs hlay0 hL hr1 hl2 x4 x3 l vs x0 hLl ra w1 r0 hI hr2 hc hcT
  refine Mine.law_good S hF hLl hI (by omega) hg (fun cls => rfl) ?_
  refine' postW_of ?hshZ ?hvZ ?hXZ
  case hshZ => o_shape
  case hvZ => wtm_val
  case hXZ => first | rfl | w_fin
