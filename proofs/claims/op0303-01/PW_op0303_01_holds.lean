import PyProof.Rows.All
import Wide.All
import OpenK.AllK
import Wide.FinOn
import PySem.Challenge.RW_op0303_01
set_option Elab.async false
set_option autoImplicit false
set_option maxRecDepth 100000

-- part SreA
namespace Mine
open PySem PySem.Sre

def codeDot : Array Nat := #[14, 4, 0, 1, 1, 6, 1, 16, 46, 1]
def codeEol : Array Nat := #[14, 9, 4, 1, 2, 16, 10, 16, 13, 0, 7, 7, 16, 13, 16, 10, 15, 18, 5, 16, 10, 15, 13, 11, 16, 13, 5, 5, 0, 16, 10, 1, 15, 2, 0, 1]

def stepN : Nat → M → M
  | 0, m => m
  | n + 1, m => stepN n m.step

theorem step_done {m : M} (h : m.outcome.isSome = true) : m.step = m := by
  unfold M.step; rw [if_pos h]
theorem stepN_done {m : M} (h : m.outcome.isSome = true) : ∀ n, stepN n m = m
  | 0 => rfl
  | n + 1 => by rw [stepN, step_done h, stepN_done h n]
theorem stepN_add (a b : Nat) (m : M) : stepN (a + b) m = stepN b (stepN a m) := by
  induction a generalizing m with
  | zero => rw [Nat.zero_add]; rfl
  | succ a ih => rw [Nat.succ_add]; exact ih _
theorem runFor_eq (n : Nat) (m : M) : m.runFor n = stepN n m := by
  induction n generalizing m with
  | zero => rfl
  | succ n ih =>
    unfold M.runFor
    split
    · rename_i h; rw [stepN_done h]
    · exact ih _
theorem stepN_final {m : M} {a b : Nat} (ha : (stepN a m).outcome.isSome = true) (hb : (stepN b m).outcome.isSome = true) : stepN a m = stepN b m := by
  rcases Nat.le_total a b with h | h
  · obtain ⟨k, rfl⟩ := Nat.exists_eq_add_of_le h
    rw [stepN_add, stepN_done ha]
  · obtain ⟨k, rfl⟩ := Nat.exists_eq_add_of_le h
    rw [stepN_add, stepN_done hb]

section dot
variable (text : Array Nat) (lim : Nat)

def dA (s : Nat) (o : Bool) (σ : Seen) : M :=
  { code := codeDot, text, lim, start := s, lastStart := lim, pc := 5, pos := s, handed := s, outermost := o, marks := #[],
    frames := [{ wait := .nextStart, pc := 5, pos := s, outermost := o }], weight := 1, seen := σ }

theorem dA_step (s : Nat) (o : Bool) (σ : Seen) : (dA text lim s o σ).step =
    if (s == 0 || text.getD (s - 1) 0 == 10) = true then { dA text lim s o ((σ.add 6).add 44) with pc := 7 } else { dA text lim s o ((σ.add 6).add 44) with answer := some false } := rfl

theorem dB_step (s : Nat) (o : Bool) (σ : Seen) : ({ dA text lim s o σ with pc := 7 } : M).step =
    if s ≥ lim then { dA text lim s o (σ.add 16) with pc := 7, answer := some false } else
    if (text.getD s 0 == 46) = true then { dA text lim s o (σ.add 16) with pc := 9, pos := s + 1 } else { dA text lim s o (σ.add 16) with pc := 7, answer := some false } := by
  show (if s ≥ lim then _ else _) = _
  split
  · rfl
  · show (match (Except.ok (text.getD s 0 == 46, σ.add 16) : Except String (Bool × Seen)) with | .error why => _ | .ok (false, seen) => _ | .ok (true, seen) => _) = _
    cases text.getD s 0 == 46 <;> rfl

theorem dC_step (s : Nat) (o : Bool) (σ : Seen) : ({ dA text lim s o σ with pc := 9, pos := s + 1 } : M).step =
    { dA text lim s o (σ.add 1) with pc := 9, pos := s + 1, handed := s + 1, answer := some true } := by
  cases o <;> rfl

theorem dYes (s : Nat) (o : Bool) (σ : Seen) : stepN 2 { dA text lim s o σ with pc := 9, pos := s + 1, handed := s + 1, answer := some true } =
    { dA text lim s o σ with handed := s + 1, frames := [], weight := 0, answer := some true, outcome := some .matched } := rfl

theorem dNo (s pc : Nat) (o : Bool) (σ : Seen) : ({ dA text lim s o σ with pc := pc, answer := some false } : M).step =
    if s < lim then dA text lim (s + 1) false σ else { dA text lim s o σ with frames := [], weight := 0, answer := some false } := rfl

def DotAt (s : Nat) : Prop := (s = 0 ∨ text.getD (s - 1) 0 = 10) ∧ text.getD s 0 = 46

theorem dHit (s : Nat) (o : Bool) (σ : Seen) (hs : s < lim) (h : DotAt text s) :
    ∃ m, stepN 5 (dA text lim s o σ) = m ∧ m.outcome = some .matched ∧ m.start = s ∧ m.handed = s + 1 := by
  obtain ⟨h1, h2⟩ := h
  refine ⟨_, rfl, ?_⟩
  have e1 : (s == 0 || text.getD (s - 1) 0 == 10) = true := by rcases h1 with h | h <;> simp [h]
  have e2 : (text.getD s 0 == 46) = true := by simp [h2]
  show (stepN 4 (dA text lim s o σ).step).outcome = _ ∧ (stepN 4 (dA text lim s o σ).step).start = _ ∧ (stepN 4 (dA text lim s o σ).step).handed = _
  rw [dA_step, if_pos e1]
  show (stepN 3 (M.step _)).outcome = _ ∧ (stepN 3 (M.step _)).start = _ ∧ (stepN 3 (M.step _)).handed = _
  rw [dB_step, if_neg (Nat.not_le.mpr hs), if_pos e2]
  show (stepN 2 (M.step _)).outcome = _ ∧ (stepN 2 (M.step _)).start = _ ∧ (stepN 2 (M.step _)).handed = _
  rw [dC_step, dYes]
  exact ⟨rfl, rfl, rfl⟩

theorem dMiss (s : Nat) (o : Bool) (σ : Seen) (hs : s < lim) (h : ¬ DotAt text s) :
    ∃ n σ', n ≤ 3 ∧ stepN n (dA text lim s o σ) = dA text lim (s + 1) false σ' := by
  by_cases e1 : (s == 0 || text.getD (s - 1) 0 == 10) = true
  · have e2 : ¬ (text.getD s 0 == 46) = true := by
      intro e
      refine h ⟨?_, by simpa using e⟩
      simpa using e1
    refine ⟨3, ((σ.add 6).add 44).add 16, Nat.le_refl _, ?_⟩
    show stepN 2 (dA text lim s o σ).step = _
    rw [dA_step, if_pos e1]
    show stepN 1 (M.step _) = _
    rw [dB_step, if_neg (Nat.not_le.mpr hs), if_neg e2]
    exact (dNo text lim s 7 o _).trans (if_pos hs)
  · refine ⟨2, (σ.add 6).add 44, by omega, ?_⟩
    show stepN 1 (dA text lim s o σ).step = _
    rw [dA_step, if_neg e1]
    exact (dNo text lim s 5 o _).trans (if_pos hs)

theorem dEnd (s : Nat) (o : Bool) (σ : Seen) (hs : lim ≤ s) :
    ∃ n m, n ≤ 4 ∧ stepN n (dA text lim s o σ) = m ∧ m.outcome = some .failed := by
  have hl : ¬ s < lim := Nat.not_lt.mpr hs
  by_cases e1 : (s == 0 || text.getD (s - 1) 0 == 10) = true
  · refine ⟨4, _, Nat.le_refl _, rfl, ?_⟩
    show (stepN 3 (dA text lim s o σ).step).outcome = _
    rw [dA_step, if_pos e1]
    show (stepN 2 (M.step _)).outcome = _
    rw [dB_step, if_pos hs]
    show (stepN 1 (M.step _)).outcome = _
    rw [dNo, if_neg hl]
    rfl
  · refine ⟨3, _, by omega, rfl, ?_⟩
    show (stepN 2 (dA text lim s o σ).step).outcome = _
    rw [dA_step, if_neg e1]
    show (stepN 1 (M.step _)).outcome = _
    rw [dNo, if_neg hl]
    rfl

theorem dot_hit {text : Array Nat} {lim : Nat} {b : Nat} (hb : b < lim) (h : DotAt text b) : ∀ (k s : Nat) (o : Bool) (σ : Seen), s + k = b → (∀ i, s ≤ i → i < b → ¬ DotAt text i) →
    ∃ n m, n ≤ 3 * k + 5 ∧ stepN n (dA text lim s o σ) = m ∧ m.outcome = some .matched ∧ m.start = b ∧ m.handed = b + 1
  | 0, s, o, σ, e, _ => by
    obtain rfl : s = b := e
    obtain ⟨m, h1, h2⟩ := dHit text lim s o σ hb h
    exact ⟨5, m, by omega, h1, h2⟩
  | k + 1, s, o, σ, e, hn => by
    obtain ⟨n, σ', hn', e'⟩ := dMiss text lim s o σ (by omega) (hn s (Nat.le_refl _) (by omega))
    obtain ⟨n2, m, h1, h2, h3⟩ := dot_hit hb h k (s + 1) false σ' (by omega) (fun i hi => hn i (by omega))
    exact ⟨n + n2, m, by omega, by rw [stepN_add, e', h2], h3⟩

theorem dot_none {text : Array Nat} {lim : Nat} : ∀ (k s : Nat) (o : Bool) (σ : Seen), s + k = lim → (∀ i, s ≤ i → i < lim → ¬ DotAt text i) →
    ∃ n m, n ≤ 3 * k + 5 ∧ stepN n (dA text lim s o σ) = m ∧ m.outcome = some .failed
  | 0, s, o, σ, e, _ => by
    obtain ⟨n, m, h0, h1, h2⟩ := dEnd text lim s o σ (by omega)
    exact ⟨n, m, by omega, h1, h2⟩
  | k + 1, s, o, σ, e, hn => by
    obtain ⟨n, σ', hn', e'⟩ := dMiss text lim s o σ (by omega) (hn s (Nat.le_refl _) (by omega))
    obtain ⟨n2, m, h1, h2, h3⟩ := dot_none k (s + 1) false σ' (by omega) (fun i hi => hn i (by omega))
    exact ⟨n + n2, m, by omega, by rw [stepN_add, e', h2], h3⟩

theorem dot_search (text : Array Nat) (lim s : Nat) (hs : s ≤ lim) : forSearch codeDot text 0 s lim false =
    if lim - s < 1 then { dA text lim s true (({} : Seen).add 14) with lastStart := 0, frames := [], weight := 0, answer := some false } else dA text lim s true (({} : Seen).add 14) := by
  have h0 : ¬ s > lim := Nat.not_lt.mpr hs
  unfold forSearch
  by_cases h : lim - s < 1
  · rw [if_pos h]
    have : (s > lim || lim - s < (header codeDot).1) = true := by
      have : (header codeDot).1 = 1 := rfl
      simp [this, h]
    show (if _ then _ else _) = _
    rw [if_pos (by simpa using this)]
    rfl
  · rw [if_neg h]
    have : ¬ (s > lim || lim - s < (header codeDot).1) = true := by
      have e : (header codeDot).1 = 1 := rfl
      rw [e]
      simp only [Bool.or_eq_true, decide_eq_true_eq]
      omega
    show (if _ then _ else _) = _
    rw [if_neg (by simpa using this)]
    rfl
end dot
end Mine

-- part SreB
namespace Mine
open PySem PySem.Sre

section eol
variable (text : Array Nat) (lim s : Nat)

def eS (pc pos handed : Nat) (o : Bool) (fr : List Sre.Frame) (wt : Nat) (σ : Seen) : M :=
  { code := codeEol, text, lim, start := s, lastStart := lim, pc, pos, handed, outermost := o, marks := #[], frames := fr, weight := wt, seen := σ }

def fS (o : Bool) : Sre.Frame := { wait := .nextStart, pc := 10, pos := s, outermost := o }
def fB (alt : Nat) (o : Bool) : Sre.Frame := { wait := .nextBranch, pc := alt, pos := s, outermost := o }
def fL (o : Bool) : Sre.Frame := { wait := .lookNot, pc := 26, pos := s + 1, outermost := o }

variable (o : Bool) (σ : Seen) (hd pos wt : Nat) (fr : List Sre.Frame)

theorem e_branch : (eS text lim s 10 s s o [fS s o] 1 σ).step = eS text lim s 12 s s o [fB s 11 o, fS s o] 2 (σ.add 7) := rfl


theorem e_lit12 : (eS text lim s 12 pos hd o fr wt σ).step =
    if pos ≥ lim then { eS text lim s 12 pos hd o fr wt (σ.add 16) with answer := some false } else
    if (text.getD pos 0 == 13) = true then eS text lim s 14 (pos + 1) hd o fr wt (σ.add 16) else { eS text lim s 12 pos hd o fr wt (σ.add 16) with answer := some false } := by
  show (if pos ≥ lim then _ else _) = _
  split
  · rfl
  · show (match (Except.ok (text.getD pos 0 == 13, σ.add 16) : Except String (Bool × Seen)) with | .error why => _ | .ok (false, seen) => _ | .ok (true, seen) => _) = _
    cases text.getD pos 0 == 13 <;> rfl
theorem e_lit14 : (eS text lim s 14 pos hd o fr wt σ).step =
    if pos ≥ lim then { eS text lim s 14 pos hd o fr wt (σ.add 16) with answer := some false } else
    if (text.getD pos 0 == 10) = true then eS text lim s 16 (pos + 1) hd o fr wt (σ.add 16) else { eS text lim s 14 pos hd o fr wt (σ.add 16) with answer := some false } := by
  show (if pos ≥ lim then _ else _) = _
  split
  · rfl
  · show (match (Except.ok (text.getD pos 0 == 10, σ.add 16) : Except String (Bool × Seen)) with | .error why => _ | .ok (false, seen) => _ | .ok (true, seen) => _) = _
    cases text.getD pos 0 == 10 <;> rfl
theorem e_lit19 : (eS text lim s 19 pos hd o fr wt σ).step =
    if pos ≥ lim then { eS text lim s 19 pos hd o fr wt (σ.add 16) with answer := some false } else
    if (text.getD pos 0 == 10) = true then eS text lim s 21 (pos + 1) hd o fr wt (σ.add 16) else { eS text lim s 19 pos hd o fr wt (σ.add 16) with answer := some false } := by
  show (if pos ≥ lim then _ else _) = _
  split
  · rfl
  · show (match (Except.ok (text.getD pos 0 == 10, σ.add 16) : Except String (Bool × Seen)) with | .error why => _ | .ok (false, seen) => _ | .ok (true, seen) => _) = _
    cases text.getD pos 0 == 10 <;> rfl
theorem e_lit24 : (eS text lim s 24 pos hd o fr wt σ).step =
    if pos ≥ lim then { eS text lim s 24 pos hd o fr wt (σ.add 16) with answer := some false } else
    if (text.getD pos 0 == 13) = true then eS text lim s 26 (pos + 1) hd o fr wt (σ.add 16) else { eS text lim s 24 pos hd o fr wt (σ.add 16) with answer := some false } := by
  show (if pos ≥ lim then _ else _) = _
  split
  · rfl
  · show (match (Except.ok (text.getD pos 0 == 13, σ.add 16) : Except String (Bool × Seen)) with | .error why => _ | .ok (false, seen) => _ | .ok (true, seen) => _) = _
    cases text.getD pos 0 == 13 <;> rfl
theorem e_lit29 : (eS text lim s 29 pos hd o fr wt σ).step =
    if pos ≥ lim then { eS text lim s 29 pos hd o fr wt (σ.add 16) with answer := some false } else
    if (text.getD pos 0 == 10) = true then eS text lim s 31 (pos + 1) hd o fr wt (σ.add 16) else { eS text lim s 29 pos hd o fr wt (σ.add 16) with answer := some false } := by
  show (if pos ≥ lim then _ else _) = _
  split
  · rfl
  · show (match (Except.ok (text.getD pos 0 == 10, σ.add 16) : Except String (Bool × Seen)) with | .error why => _ | .ok (false, seen) => _ | .ok (true, seen) => _) = _
    cases text.getD pos 0 == 10 <;> rfl

theorem e_alt1 (pc pos : Nat) : ({ eS text lim s pc pos hd o [fB s 11 o, fS s o] 2 σ with answer := some false } : M).step = eS text lim s 19 s s o [fB s 18 o, fS s o] 2 σ := rfl
theorem e_alt2 (pc pos : Nat) : ({ eS text lim s pc pos hd o [fB s 18 o, fS s o] 2 σ with answer := some false } : M).step = eS text lim s 24 s s o [fB s 23 o, fS s o] 2 σ := rfl
theorem e_jump16 : (eS text lim s 16 pos hd o fr wt σ).step = eS text lim s 35 pos hd o fr wt (σ.add 15) := rfl
theorem e_jump21 : (eS text lim s 21 pos hd o fr wt σ).step = eS text lim s 35 pos hd o fr wt (σ.add 15) := rfl
theorem e_jump32 : (eS text lim s 32 pos hd o fr wt σ).step = eS text lim s 35 pos hd o fr wt (σ.add 15) := rfl
theorem e_not : (eS text lim s 26 (s + 1) hd o [fB s 23 o, fS s o] 2 σ).step = eS text lim s 29 (s + 1) (s + 1) false [fL s o, fB s 23 o, fS s o] 3 (σ.add 5) := rfl
theorem e_notEnd (pc pos : Nat) (o' : Bool) : ({ eS text lim s pc pos hd o' [fL s o, fB s 23 o, fS s o] 3 σ with answer := some false } : M).step = eS text lim s 32 (s + 1) hd o [fB s 23 o, fS s o] 2 σ := rfl
theorem e_success : (eS text lim s 35 pos hd o fr wt σ).step = { eS text lim s 35 pos pos o fr wt (σ.add 1) with answer := some true } := by
  cases o <;> rfl
theorem e_yes (alt : Nat) : stepN 3 { eS text lim s 35 pos hd o [fB s alt o, fS s o] 2 σ with answer := some true } =
    { eS text lim s 10 s hd o [] 0 σ with answer := some true, outcome := some .matched } := rfl

def eLen (s : Nat) : Nat := if text.getD s 0 = 13 ∧ s + 1 < lim ∧ text.getD (s + 1) 0 = 10 then 2 else 1

theorem e_hit (hs : s < lim) (h : text.getD s 0 = 10 ∨ text.getD s 0 = 13) :
    ∃ n m, n ≤ 15 ∧ stepN n (eS text lim s 10 s s o [fS s o] 1 σ) = m ∧ m.outcome = some .matched ∧ m.start = s ∧ m.handed = s + eLen text lim s := by
  have hl : ¬ s ≥ lim := Nat.not_le.mpr hs
  rcases h with h | h
  · have e1 : ¬ (text.getD s 0 == 13) = true := by simp [h]
    have e2 : (text.getD s 0 == 10) = true := by simp [h]
    have el : eLen text lim s = 1 := by unfold eLen; rw [if_neg]; rintro ⟨h', _⟩; omega
    refine ⟨9, _, by omega, rfl, ?_⟩
    rw [el]
    generalize hm : stepN 9 _ = m
    rw [stepN, e_branch, stepN, e_lit12, if_neg hl, if_neg e1, stepN, e_alt1, stepN, e_lit19, if_neg hl, if_pos e2, stepN, e_jump21, stepN, e_success, e_yes] at hm
    subst hm
    exact ⟨rfl, rfl, rfl⟩
  · have e1 : (text.getD s 0 == 13) = true := by simp [h]
    have e2 : ¬ (text.getD s 0 == 10) = true := by simp [h]
    by_cases hc : s + 1 < lim ∧ text.getD (s + 1) 0 = 10
    · have el : eLen text lim s = 2 := by unfold eLen; rw [if_pos ⟨h, hc⟩]
      have e3 : (text.getD (s + 1) 0 == 10) = true := by simp [hc.2]
      have hl2 : ¬ s + 1 ≥ lim := Nat.not_le.mpr hc.1
      refine ⟨8, _, by omega, rfl, ?_⟩
      rw [el]
      generalize hm : stepN 8 _ = m
      rw [stepN, e_branch, stepN, e_lit12, if_neg hl, if_pos e1, stepN, e_lit14, if_neg hl2, if_pos e3, stepN, e_jump16, stepN, e_success, e_yes] at hm
      subst hm
      exact ⟨rfl, rfl, rfl⟩
    · have el : eLen text lim s = 1 := by unfold eLen; rw [if_neg]; rintro ⟨_, h'⟩; exact hc h'
      rw [el]
      have e14 : ∀ (hd wt : Nat) (fr : List Sre.Frame) (σ : Seen), (eS text lim s 14 (s + 1) hd o fr wt σ).step = { eS text lim s 14 (s + 1) hd o fr wt (σ.add 16) with answer := some false } := by
        intro hd wt fr σ
        rw [e_lit14]
        split
        · rfl
        · rename_i h1
          rw [if_neg]
          intro h2
          exact hc ⟨by omega, by simpa using h2⟩
      have e29 : ∀ (o : Bool) (hd wt : Nat) (fr : List Sre.Frame) (σ : Seen), (eS text lim s 29 (s + 1) hd o fr wt σ).step = { eS text lim s 29 (s + 1) hd o fr wt (σ.add 16) with answer := some false } := by
        intro o hd wt fr σ
        rw [e_lit29]
        split
        · rfl
        · rename_i h1
          rw [if_neg]
          intro h2
          exact hc ⟨by omega, by simpa using h2⟩
      refine ⟨15, _, by omega, rfl, ?_⟩
      generalize hm : stepN 15 _ = m
      rw [stepN, e_branch, stepN, e_lit12, if_neg hl, if_pos e1, stepN, e14, stepN, e_alt1, stepN, e_lit19, if_neg hl, if_neg e2, stepN, e_alt2, stepN, e_lit24, if_neg hl, if_pos e1,
        stepN, e_not, stepN, e29, stepN, e_notEnd, stepN, e_jump32, stepN, e_success, e_yes] at hm
      subst hm
      exact ⟨rfl, rfl, rfl⟩
end eol

theorem e_inSet (c : Nat) (σ : Seen) : inSet codeEol c 36 5 true σ =
    if (c == 10) = true then .ok (true, σ.add 16) else if (c == 13) = true then .ok (true, (σ.add 16).add 16) else .ok (false, ((σ.add 16).add 16).add 0) := rfl

theorem e_admitted_hit {m : M} (hc : m.code = codeEol) {b : Nat} (hb : b < m.lim) (h : m.text.getD b 0 = 10 ∨ m.text.getD b 0 = 13) : ∀ (k s fuel : Nat) (σ : Seen), s + k = b → k < fuel →
    (∀ i, s ≤ i → i < b → ¬ (m.text.getD i 0 = 10 ∨ m.text.getD i 0 = 13)) → ∃ σ', m.admitted fuel s σ = .ok (some b, σ')
  | 0, s, fuel + 1, σ, e, _, _ => by
    obtain rfl : s = b := e
    unfold M.admitted
    rw [if_neg (Nat.not_le.mpr hb), hc]
    rw [show codeEol.size = 36 from rfl, e_inSet]
    rcases h with h | h
    · rw [if_pos (by simp [h])]; exact ⟨_, rfl⟩
    · rw [if_neg (by simp [h]), if_pos (by simp [h])]; exact ⟨_, rfl⟩
  | k + 1, s, fuel + 1, σ, e, hk, hn => by
    unfold M.admitted
    have hno := hn s (Nat.le_refl _) (by omega)
    rw [if_neg (by omega), hc]
    rw [show codeEol.size = 36 from rfl, e_inSet, if_neg (fun h => hno (.inl (eq_of_beq h))), if_neg (fun h => hno (.inr (eq_of_beq h)))]
    exact e_admitted_hit hc hb h k (s + 1) fuel _ (by omega) (by omega) (fun i hi => hn i (by omega))

theorem e_admitted_none {m : M} (hc : m.code = codeEol) : ∀ (k s fuel : Nat) (σ : Seen), s + k = m.lim → k < fuel →
    (∀ i, s ≤ i → i < m.lim → ¬ (m.text.getD i 0 = 10 ∨ m.text.getD i 0 = 13)) → ∃ σ', m.admitted fuel s σ = .ok (none, σ')
  | 0, s, fuel + 1, σ, e, _, _ => by
    unfold M.admitted
    rw [if_pos (by omega)]
    exact ⟨_, rfl⟩
  | k + 1, s, fuel + 1, σ, e, hk, hn => by
    unfold M.admitted
    have hno := hn s (Nat.le_refl _) (by omega)
    rw [if_neg (by omega), hc]
    rw [show codeEol.size = 36 from rfl, e_inSet, if_neg (fun h => hno (.inl (eq_of_beq h))), if_neg (fun h => hno (.inr (eq_of_beq h)))]
    exact e_admitted_none hc k (s + 1) fuel _ (by omega) (by omega) (fun i hi => hn i (by omega))

def eFresh (text : Array Nat) (lim s : Nat) : M :=
  { code := codeEol, text, lim, start := s, lastStart := lim, pc := 10, pos := s, handed := s, marks := #[], seen := ({} : Seen).add 14 }

theorem eol_search (text : Array Nat) (lim s : Nat) (hs : s < lim) : forSearch codeEol text 0 s lim false = (eFresh text lim s).attemptFrom s true := by
  unfold forSearch
  have : ¬ (s > lim || lim - s < (header codeEol).1) = true := by
    have e : (header codeEol).1 = 1 := rfl
    rw [e]
    simp only [Bool.or_eq_true, decide_eq_true_eq]
    omega
  show (if _ then _ else _) = _
  rw [if_neg (by simpa using this)]
  rfl
theorem eol_search_end (text : Array Nat) (lim : Nat) : (stepN 1 (forSearch codeEol text 0 lim lim false)).outcome = some .failed := by
  unfold forSearch
  have : (lim > lim || lim - lim < (header codeEol).1) = true := by
    have e : (header codeEol).1 = 1 := rfl
    rw [e]
    simp only [Bool.or_eq_true, decide_eq_true_eq]
    omega
  show (stepN 1 (if _ then _ else _)).outcome = _
  rw [if_pos (by simpa using this)]
  rfl

theorem eol_hit {text : Array Nat} {lim s b : Nat} (hs : s ≤ b) (hb : b < lim) (h : text.getD b 0 = 10 ∨ text.getD b 0 = 13) (hn : ∀ i, s ≤ i → i < b → ¬ (text.getD i 0 = 10 ∨ text.getD i 0 = 13)) :
    ∃ n m, n ≤ 15 ∧ stepN n (forSearch codeEol text 0 s lim false) = m ∧ m.outcome = some .matched ∧ m.start = b ∧ m.handed = b + eLen text lim b := by
  rw [eol_search text lim s (by omega)]
  obtain ⟨σ', e⟩ := e_admitted_hit (m := eFresh text lim s) rfl (b := b) hb h (b - s) s (lim + 1 - s) (({} : Seen).add 14) (by omega) (by omega) hn
  have : (eFresh text lim s).attemptFrom s true = eS text lim b 10 b b true [fS b true] 1 σ' := by
    unfold M.attemptFrom
    show (if false = true then _ else _) = _
    rw [if_neg Bool.false_ne_true]
    have e' : (eFresh text lim s).admitted ((eFresh text lim s).lim + 1 - s) s (eFresh text lim s).seen = .ok (some b, σ') := e
    rw [e']
    rfl
  rw [this]
  exact e_hit text lim b true σ' hb h

theorem eol_none {text : Array Nat} {lim s : Nat} (hs : s ≤ lim) (hn : ∀ i, s ≤ i → i < lim → ¬ (text.getD i 0 = 10 ∨ text.getD i 0 = 13)) :
    ∃ n m, n ≤ 15 ∧ stepN n (forSearch codeEol text 0 s lim false) = m ∧ m.outcome = some .failed := by
  rcases Nat.lt_or_ge s lim with h | h
  · rw [eol_search text lim s h]
    obtain ⟨σ', e⟩ := e_admitted_none (m := eFresh text lim s) rfl (lim - s) s (lim + 1 - s) (({} : Seen).add 14) (by show s + _ = lim; omega) (by omega) hn
    refine ⟨1, _, by omega, rfl, ?_⟩
    unfold M.attemptFrom
    show (stepN 1 (if false = true then _ else _)).outcome = _
    rw [if_neg Bool.false_ne_true]
    have e' : (eFresh text lim s).admitted ((eFresh text lim s).lim + 1 - s) s (eFresh text lim s).seen = .ok (none, σ') := e
    rw [e']
    rfl
  · obtain rfl : s = lim := by omega
    exact ⟨1, _, by omega, rfl, eol_search_end text s⟩

theorem dot_hit' {text : Array Nat} {lim s b : Nat} (hs : s ≤ b) (hb : b < lim) (h : DotAt text b) (hn : ∀ i, s ≤ i → i < b → ¬ DotAt text i) :
    ∃ n m, n ≤ 3 * lim + 5 ∧ stepN n (forSearch codeDot text 0 s lim false) = m ∧ m.outcome = some .matched ∧ m.start = b ∧ m.handed = b + 1 := by
  rw [dot_search text lim s (by omega), if_neg (by omega)]
  obtain ⟨n, m, h1, h2⟩ := dot_hit hb h (b - s) s true _ (by omega) hn
  exact ⟨n, m, by omega, h2⟩

theorem dot_none' {text : Array Nat} {lim s : Nat} (hs : s ≤ lim) (hn : ∀ i, s ≤ i → i < lim → ¬ DotAt text i) :
    ∃ n m, n ≤ 3 * lim + 5 ∧ stepN n (forSearch codeDot text 0 s lim false) = m ∧ m.outcome = some .failed := by
  rw [dot_search text lim s (by omega)]
  by_cases h : lim - s < 1
  · rw [if_pos h]
    exact ⟨1, _, by omega, rfl, rfl⟩
  · rw [if_neg h]
    obtain ⟨n, m, h1, h2⟩ := dot_none (lim - s) s true _ (by omega) hn
    exact ⟨n, m, by omega, h2⟩
end Mine

-- part Sub1
namespace Mine
open PySem PySem.Sre PySem.Builtin PySem.Builtin.Re

theorem slot_sub : Slot "re.Pattern" "sub" "re.Pattern.sub" :=
  .of (owner := "re.Pattern") (n := "sub") (by rw [typeLookup_type, builtinLookup_eq_fast]; kernel_rfl) (by decide +kernel) (by decide +kernel) (by decide +kernel)
    (by first | exact .inl (by decide +kernel) | exact .inr (by decide +kernel)) (by rw [isSubtype_type]; kernel_rfl)
theorem entry_sub : entryFor table "re.Pattern.sub" = some Builtin.«re.Pattern.sub» := entryFor_of_tree (by kernel_rfl)
theorem entry_loop : entryFor table "re.Pattern.sub.loop" = some Builtin.«re.Pattern.sub.loop» := entryFor_of_tree (by kernel_rfl)
theorem owner_pat : Manifest.owners.lookup (String.ofList ['n', 'r', 'e', 't', 't', 'a', 'P', '.', 'e', 'r'].reverse) = some Manifest.sig_re_Pattern := by kernel_rfl
theorem args_sub (a b c : Value) : argsOk "re.Pattern.sub" ⟨[a, b, c], []⟩ := by
  unfold argsOk; rw [signature?_of (id := "re.Pattern.sub") (n := ['b', 'u', 's']) (o := ['n', 'r', 'e', 't', 't', 'a', 'P', '.', 'e', 'r']) (by kernel_rfl) owner_pat]; kernel_rfl
end Mine

-- part Sub2
namespace Mine
open PySem PySem.Sre PySem.Builtin PySem.Builtin.Re

section
variable {M : Model} {A : Around} {E : Value → Shared → Prop} {s : Shared}

theorem drive_spec {Q : Sre.M → Shared → Prop} : ∀ (turns n : Nat) (m : Sre.M), 0 < turns → n ≤ 4 * turns → (stepN n m).outcome.isSome = true → Q (stepN n m) s → wpAny M A (reDrive turns m) Q E s
  | 0, _, _, h, _, _, _ => absurd h (Nat.lt_irrefl _)
  | turns + 1, n, m, _, hn, ho, hq => by
    unfold reDrive
    show wpAny M A (if (m.runFor 4).outcome.isSome = true then pure (m.runFor 4) else (do rule "sre.turn"; reDrive turns (m.runFor 4))) Q E s
    rw [runFor_eq]
    split
    · rename_i h4
      rw [stepN_final h4 ho]
      exact wpAny_pure hq
    · rename_i h4
      have hn4 : 4 < n := by
        refine Nat.lt_of_not_le fun h => h4 ?_
        obtain ⟨k, e⟩ : ∃ k, 4 = n + k := ⟨4 - n, by omega⟩
        rw [e, stepN_add, stepN_done ho]; exact ho
      obtain ⟨k, rfl⟩ : ∃ k, n = 4 + k := ⟨n - 4, by omega⟩
      rw [stepN_add] at ho hq
      exact wpAny_bind (wpAny_rule (drive_spec turns k _ (by omega) (by omega) ho hq))

theorem runToEnd_spec {Q : Option Sre.M → Shared → Prop} {m : Sre.M} {n : Nat} (hn : n ≤ 2 ^ 60) (ho : (stepN n m).outcome.isSome = true)
    (hq : wpAny M A (match (stepN n m).outcome with
      | some .matched => pure (some (stepN n m))
      | some .failed => pure none
      | some (.stuck why) => unsupported s!"_sre:{why}"
      | none => unsupported "internal:sre:no-outcome") Q E s) : wpAny M A (reRunToEnd m) Q E s := by
  unfold reRunToEnd
  refine wpAny_bind (drive_spec (2 ^ 64) n m (by decide) (Nat.le_trans hn (by decide)) ho ?_)
  refine wpAny_bind ?_
  refine wpAny_forIn_list _ (fun _ _ s' => s' = s) _ ?_ ?_ _ _ rfl
  · rintro x rest b s' rfl
    split
    · exact wpAny_bind (wpAny_rule (wpAny_pure rfl))
    · exact wpAny_pure rfl
  · rintro b s' rfl
    exact hq

theorem runToEnd_hit {Q : Option Sre.M → Shared → Prop} {m m' : Sre.M} {n : Nat} (hn : n ≤ 2 ^ 60) (e : stepN n m = m') (ho : m'.outcome = some .matched) (hq : Q (some m') s) :
    wpAny M A (reRunToEnd m) Q E s := by
  subst e
  refine runToEnd_spec hn (by rw [ho]; rfl) ?_
  rw [ho]
  exact wpAny_pure hq
theorem runToEnd_none {Q : Option Sre.M → Shared → Prop} {m m' : Sre.M} {n : Nat} (hn : n ≤ 2 ^ 60) (e : stepN n m = m') (ho : m'.outcome = some .failed) (hq : Q none s) :
    wpAny M A (reRunToEnd m) Q E s := by
  subst e
  refine runToEnd_spec hn (by rw [ho]; rfl) ?_
  rw [ho]
  exact wpAny_pure hq
end

def mkV (isB : Bool) (l : List Nat) (t : Tok) : Value := match isB with
  | false => .str ⟨l.toArray⟩ t
  | true => .bytes (l.map (·.toUInt8)).toArray t
def kindOf (isB : Bool) : Nat := match isB with | false => 0 | true => 1
def Octets (isB : Bool) (l : List Nat) : Prop := isB = true → ∀ c ∈ l, c < 256

theorem toNat_toUInt8 {l : List Nat} (h : ∀ c ∈ l, c < 256) : ((l.map (·.toUInt8)).toArray.map (·.toNat)) = l.toArray := by
  simp only [List.map_toArray, List.map_map, Array.mk.injEq]
  conv => rhs; rw [← List.map_id l]
  refine List.map_congr_left fun c hc => ?_
  have := h c hc
  show (Nat.toUInt8 c).toNat = c
  simp [Nat.toUInt8, UInt8.toNat_ofNat', Nat.mod_eq_of_lt this]

theorem textOf_eq {isB : Bool} {l : List Nat} {t : Tok} (h : Octets isB l) : reTextOf (mkV isB l t) = pure (l.toArray, kindOf isB) := by
  cases isB with
  | false => rfl
  | true =>
    show (do
      if let some s ← asStr? (.bytes (l.map (·.toUInt8)).toArray t) then return (s.cps, 0)
      match ← Bytes.bufferQuiet? "_sre" (.bytes (l.map (·.toUInt8)).toArray t) with
      | some b => pure (b.map (·.toNat), 1)
      | none => raiseError "TypeError" s!"expected string or bytes-like object, got '{← typeNameOf (.bytes (l.map (·.toUInt8)).toArray t)}'" : Sem (Array Nat × Nat)) = _
    rw [PySem.W.KBy.quiet_eq]
    show (pure ((l.map (·.toUInt8)).toArray.map (·.toNat), 1) : Sem (Array Nat × Nat)) = _
    rw [toNat_toUInt8 (h rfl)]
    rfl
theorem noColl_eq {isB : Bool} {l : List Nat} {t : Tok} : reNoCollectionInside (mkV isB l t) (kindOf isB) = pure () := by
  cases isB with
  | false => rfl
  | true =>
    unfold reNoCollectionInside
    show (do if !(← isInstance (.bytes _ t) (.type "bytes")) then _ : Sem Unit) = _
    rw [PySem.W.KBy.isInstance_eq]
    rfl
theorem notTurned_eq {isB : Bool} {l : List Nat} {t : Tok} : reLiteralCannotBeTurned (mkV isB l t) = pure () := by
  cases isB with
  | false => rfl
  | true =>
    unfold reLiteralCannotBeTurned mkV
    simp only [PySem.W.KBy.isInstance_eq]
    rfl
theorem slice_spec {M : Model} {A : Around} {E : Value → Shared → Prop} {s : Shared} {isB : Bool} {l : List Nat} {b e : Nat} {Q : Value → Shared → Prop} (hsz : l.length ≤ sizeLine)
    (hq : Q (mkV isB ((l.take e).drop b) s.toks) { s with toks := s.toks + 1 }) : wpAny M A (reSlice l.toArray (kindOf isB) b e) Q E s := by
  have hx : l.toArray.extract b e = ((l.take e).drop b).toArray := by simp [List.extract_toArray, List.drop_take]
  cases isB with
  | false =>
    show wpAny M A (mkStr ⟨l.toArray.extract b e⟩) Q E s
    rw [hx]
    refine wpAny_mkStr hq ?_
    show ((l.take e).drop b).toArray.size ≤ sizeLine
    simp; omega
  | true =>
    show wpAny M A (mkBytes ((l.toArray.extract b e).map (·.toUInt8))) Q E s
    rw [hx, List.map_toArray]
    refine wpAny_mkBytes hq ?_
    simp; omega
end Mine

-- part Sub3
namespace Mine
open PySem PySem.Sre PySem.Builtin PySem.Builtin.Re

theorem slot_bjoin : Slot "bytes" "join" "bytes.join" :=
  .of (owner := "bytes") (n := "join") (by rw [typeLookup_type, builtinLookup_eq_fast]; kernel_rfl) (by decide +kernel) (by decide +kernel) (by decide +kernel)
    (by first | exact .inl (by decide +kernel) | exact .inr (by decide +kernel)) (by rw [isSubtype_type]; kernel_rfl)
theorem entry_bjoin : entryFor table "bytes.join" = some Builtin.«bytes.join» := entryFor_of_tree (by kernel_rfl)
theorem owner_bytes' : Manifest.owners.lookup (String.ofList ['s', 'e', 't', 'y', 'b'].reverse) = some Manifest.sig_bytes := by kernel_rfl
theorem args_bjoin (a b : Value) : argsOk "bytes.join" ⟨[a, b], []⟩ := by
  unfold argsOk; rw [signature?_of (id := "bytes.join") (n := ['n', 'i', 'o', 'j']) (o := ['s', 'e', 't', 'y', 'b']) (by kernel_rfl) owner_bytes']; kernel_rfl

theorem take_eq {id : String} {b : Array UInt8} {t : Tok} : Bytes.takeBufferQuiet? id (.bytes b t) 0 = pure (some (b, none)) := by
  unfold Bytes.takeBufferQuiet? Bytes.takeBuffer?
  rw [PySem.W.KBy.special_eq PySem.W.KBy.look_buffer, PySem.W.KBy.own_buffer]
  simp only [pure_bind]
  have hf : ((0 : Int) == Bytes.fullReadOnly) = false := by decide +kernel
  rw [hf, PySem.W.KBy.buffer_eq]
  rfl

def bVals (ps : List (Array UInt8 × Tok)) : List Value := ps.map fun p => .bytes p.1 p.2

theorem joinLetGo_spec {M : Model} {A : Around} {E : Value → Shared → Prop} {s : Shared} {keep : List Value} {Q : Unit → Shared → Prop} : ∀ (taken : List (Value × Option Value)), (∀ p ∈ taken, p.2 = none) → Q () s → wpAny M A (Bytes.joinLetGo taken keep) Q E s
  | [], _, h => wpAny_pure h
  | (x, w) :: rest, hn, h => by
    obtain rfl : w = none := hn (x, w) List.mem_cons_self
    unfold Bytes.joinLetGo
    exact wpAny_bind (wpAny_letGo (joinLetGo_spec rest (fun p hp => hn p (List.mem_cons_of_mem _ hp)) h))

theorem joined_eq (parts : List (Array UInt8)) : Bytes.joined #[] parts = (parts.map (·.toList)).flatten.toArray := by
  unfold Bytes.joined
  have : ∀ (l : List (Array UInt8)) (k : Nat) (acc : Array UInt8), ((l.zipIdx k).foldl (fun out (x : Array UInt8 × Nat) => (if x.2 > 0 then out ++ #[] else out) ++ x.1) acc) = acc ++ (l.map (·.toList)).flatten.toArray := by
    intro l
    induction l with
    | nil => intro k acc; simp
    | cons x l ih =>
      intro k acc
      simp only [List.zipIdx_cons, List.foldl_cons]
      rw [ih]
      simp only [Array.append_empty, ite_self, Array.append_assoc, List.map_cons, List.flatten_cons]
      congr 1
      simp
  simpa using this parts 0 #[]

theorem bjoin_spec {prog : Program} {w : World} {A : Around} {E : Value → Shared → Prop} {s : Shared} {a : Addr} {t : Tok} {ps : List (Array UInt8 × Tok)} {Q : Value → Shared → Prop}
    (hl : s.heap.IsList a (bVals ps).toArray) (hsz : ((ps.map (·.1.toList)).flatten).length ≤ sizeLine)
    (hq : ∀ t' k, Q (.bytes (ps.map (·.1.toList)).flatten.toArray t') { s with toks := k }) :
    wpAny (model prog w) A (call (.builtin "bytes.join") [.bytes #[] t, .ref a]) Q E s := by
  refine call_meets slot_bjoin (PySem.W.typeIs_bytes _ _ _) entry_bjoin (args_bjoin _ _) (S := fun _ R s' => s' = s ∧ R = wants Q E) ?_ ⟨rfl, rfl⟩
  rintro prog w A R s' ⟨rfl, rfl⟩
  unfold «bytes.join» Bytes.joinM
  obtain ⟨o, ho, hc, n, hd⟩ := id hl
  refine wpAny_bind (wpAny_of_eq (a := (Value.bytes #[] t, Value.ref a)) (by rfl) ?_)
  dsimp only
  rw [if_pos (by rfl)]
  unfold Bytes.joinItems
  refine wpAny_bind (wpAny_bind (wpAny_typeOf hl.typeIs ?_))
  rw [if_pos (by rfl)]
  refine wpAny_pure (wpAny_bind (wpAny_seqItems ho hd ?_))
  dsimp only
  rw [if_pos (by rfl)]
  have fin : ∀ v, Q v s' → (match (Fin.done (.ret v)) with | .done f => wants Q E (.ok f) s' | .again c' => c'.quiet = true ∧ codeAny (model prog w) A c' (wants Q E) s') := fun v h => h
  by_cases h1 : ∃ p, ps = [p]
  · obtain ⟨p, rfl⟩ := h1
    show wpAny _ _ (typeOf (.bytes p.1 p.2) >>= _) _ _ _
    refine wpAny_bind (wpAny_typeOf (PySem.W.typeIs_bytes _ _ _) ?_)
    rw [if_pos (by rfl)]
    refine wpAny_bind (wpAny_rule (wpAny_pure ?_))
    have := hq p.2 s'.toks
    show Q (.bytes p.1 p.2) s'
    simpa using this
  · have hs : ∀ (f : Value → Sem PySem.Fin) (k : Array Value → Sem PySem.Fin), Bytes.joinM.match_1 (fun _ => Sem PySem.Fin) (bVals ps).toArray f k = k (bVals ps).toArray := by
      intro f k
      cases ps with
      | nil => rfl
      | cons p r =>
        cases r with
        | nil => exact absurd ⟨p, rfl⟩ h1
        | cons _ _ => rfl
    rw [hs]
    rw [Std.Legacy.Range.forIn_eq_forIn_range']
    refine wpAny_bind (wpAny_forIn_list _ (fun rest b s₂ => s₂ = s' ∧ ∃ i, i ≤ ps.length ∧ rest = List.range' i (ps.length - i) ∧ b = (((ps.take i).map (·.1)).toArray, (ps.take i).map fun p => (Value.bytes p.1 p.2, (none : Option Value)))) _ ?_ ?_ _ _ ⟨rfl, 0, Nat.zero_le _, by simp [bVals, Std.Legacy.Range.size], rfl⟩)
    · rintro x rest b s₂ ⟨rfl, i, hi, hr, rfl⟩
      have hlt : i < ps.length := by
        rcases Nat.lt_or_ge i ps.length with h | h
        · exact h
        · rw [Nat.sub_eq_zero_of_le h] at hr
          simp at hr
      obtain ⟨k, hk⟩ : ∃ k, ps.length - i = k + 1 := ⟨ps.length - i - 1, by omega⟩
      rw [hk, List.range'_succ] at hr
      obtain ⟨rfl, rfl⟩ : x = i ∧ rest = List.range' (i + 1) k := by simpa using hr
      dsimp only
      refine wpAny_bind (wpAny_seqItems ho hd ?_)
      dsimp only
      rw [if_neg (by
        have : ∀ l : List (Array UInt8 × Tok), (l.map fun p => (Value.bytes p.1 p.2, (none : Option Value))).any (fun y => y.1.onHeap) = false := by
          intro l
          induction l with
          | nil => rfl
          | cons p l ih => simp only [List.map_cons, List.any_cons, ih]; rfl
        rw [this]; decide)]
      have hx : (bVals ps).toArray.getD x Value.none = Value.bytes (ps[x]).1 (ps[x]).2 := by
        simp [bVals, Array.getD, hlt]
      rw [hx]
      refine wpAny_bind (wpAny_holding (wpAny_of_eq take_eq ?_))
      dsimp only
      refine wpAny_bind (wpAny_seqItems ho hd ?_)
      dsimp only
      rw [if_neg (by simp)]
      refine wpAny_pure ⟨rfl, x + 1, hlt, by congr 1; omega, ?_⟩
      rw [List.take_add_one, List.getElem?_eq_getElem hlt]
      simp only [Option.toList, List.map_append, List.map_cons, List.map_nil, List.push_toArray]
    · rintro b s₂ ⟨rfl, i, hi, hr, rfl⟩
      have : i = ps.length := by
        have := congrArg List.length hr
        simp at this
        omega
      subst this
      dsimp only
      refine wpAny_bind (wpAny_of_eq (a := #[]) (by rfl) ?_)
      have hjl : (Bytes.joined #[] ((ps.take ps.length).map (·.1)).toArray.toList) = (ps.map (·.1.toList)).flatten.toArray := by
        rw [joined_eq]; simp [Function.comp_def]
      rw [if_neg ?_]
      · rw [hjl]
        refine wpAny_bind ?_
        show wpAny _ _ (mkBytes _) _ _ _
        refine wpAny_mkBytes ?_ (by simpa using hsz)
        refine wpAny_bind (wpAny_holding (wpAny_point ?_))
        refine wpAny_bind (joinLetGo_spec _ (fun p hp => by obtain ⟨q, _, rfl⟩ := List.mem_map.mp hp; rfl) ?_)
        exact wpAny_pure (hq _ _)
      · rw [PySem.W.KBy.tooLong_not]
        · exact Bool.false_ne_true
        · rw [sizeLine_eq] at hsz
          refine Nat.le_trans (Nat.le_of_eq ?_) hsz
          simp only [List.take_length]
          have : ∀ (l : List (Array UInt8 × Tok)) (k : Nat), Array.foldl (fun x1 x2 => x1 + x2.size) k (l.map (·.1)).toArray = k + ((l.map (·.1.toList)).flatten).length := by
            intro l
            induction l with
            | nil => simp
            | cons x l ih =>
              intro k
              have := ih (k + x.1.size)
              simp only [List.size_toArray, List.map_cons, List.flatten_cons, List.length_append] at this ⊢
              simp at this ⊢
              rw [this]; omega
          rw [this]
          simp
end Mine

-- part Sub4
namespace Mine
open PySem PySem.Sre PySem.Builtin PySem.Builtin.Re

def pVals (isB : Bool) (ps : List (List Nat × Tok)) : List Value := ps.map fun p => mkV isB p.1 p.2

theorem join_nil_eq (ls : List (List Nat)) : PySem.Str.join ⟨#[]⟩ (ls.map fun l => (⟨l.toArray⟩ : PySem.Str)) = ⟨ls.flatten.toArray⟩ := by
  induction ls with
  | nil => rfl
  | cons x r ih =>
    cases r with
    | nil => show (⟨x.toArray⟩ : PySem.Str) = _; simp
    | cons y r =>
      show (⟨x.toArray⟩ : PySem.Str) ++ ⟨#[]⟩ ++ PySem.Str.join ⟨#[]⟩ ((y :: r).map fun l => (⟨l.toArray⟩ : PySem.Str)) = _
      rw [ih]
      show (⟨x.toArray ++ #[] ++ (y :: r).flatten.toArray⟩ : PySem.Str) = _
      simp

theorem join_spec {prog : Program} {w : World} {A : Around} {E : Value → Shared → Prop} {s : Shared} {isB : Bool} {a : Addr} {t : Tok} {ps : List (List Nat × Tok)} {Q : Value → Shared → Prop}
    (hl : s.heap.IsList a (pVals isB ps).toArray) (hsz : ((ps.map (·.1)).flatten).length ≤ sizeLine)
    (hq : ∀ t' k, Q (mkV isB (ps.map (·.1)).flatten t') { s with toks := k }) :
    wpAny (model prog w) A (call (.builtin (if (kindOf isB == 0) = true then "str.join" else "bytes.join")) [mkV isB [] t, .ref a]) Q E s := by
  cases isB with
  | false =>
    rw [if_pos (by rfl)]
    show wpAny (model prog w) A (call (.builtin "str.join") [.str ⟨#[]⟩ t, .ref a]) Q E s
    refine SC.join (l := ps.map fun p => ((⟨p.1.toArray⟩ : PySem.Str), p.2)) (texts := (ps.map (·.1)).map fun l => (⟨l.toArray⟩ : PySem.Str)) ?_ ?_ ?_ ?_
    · have : strValues (ps.map fun p => ((⟨p.1.toArray⟩ : PySem.Str), p.2)) = pVals false ps := by simp [strValues, pVals, mkV]
      rw [this]; exact hl
    · simp
    · unfold JoinOk Str.tooLong
      rw [StrLaws.joinTotal]
      have : (((ps.map (·.1)).map fun l => (⟨l.toArray⟩ : PySem.Str)).map (·.length)).sum = ((ps.map (·.1)).flatten).length := by
        rw [List.length_flatten, List.map_map]
        rfl
      rw [this]
      show (!decide (_ + _ * 0 > sizeLine)) = true
      rw [Nat.mul_zero, Nat.add_zero, decide_eq_false (Nat.not_lt.mpr hsz)]
      rfl
    · intro t' k
      have : Txt.join ⟨#[]⟩ ((ps.map (·.1)).map fun l => (⟨l.toArray⟩ : PySem.Str)) = ⟨(ps.map (·.1)).flatten.toArray⟩ := by
        show Str.glued _ _ = _
        rw [StrLaws.glued_eq_join, join_nil_eq]
      rw [this]
      exact hq t' k
  | true =>
    rw [if_neg (by decide)]
    show wpAny (model prog w) A (call (.builtin "bytes.join") [.bytes #[] t, .ref a]) Q E s
    refine bjoin_spec (ps := ps.map fun p => ((p.1.map (·.toUInt8)).toArray, p.2)) ?_ ?_ ?_
    · have : bVals (ps.map fun p => ((p.1.map (·.toUInt8)).toArray, p.2)) = pVals true ps := by simp [bVals, pVals, mkV]
      rw [this]; exact hl
    · simpa [Function.comp_def, List.length_flatten] using hsz
    · intro t' k
      have := hq t' k
      have e : (ps.map fun p => ((p.1.map (·.toUInt8)).toArray, p.2)).map (·.1.toList) = (ps.map (·.1)).map (List.map (·.toUInt8)) := by simp [Function.comp_def]
      rw [e, ← List.map_flatten]
      exact this

theorem first_or_none (P : Nat → Prop) (lim : Nat) : ∀ (k p : Nat), p + k = lim → (∀ i, p ≤ i → i < lim → ¬ P i) ∨ ∃ b, p ≤ b ∧ b < lim ∧ P b ∧ ∀ i, p ≤ i → i < b → ¬ P i
  | 0, p, e => .inl fun i h1 h2 => absurd h1 (by omega)
  | k + 1, p, e => by
    by_cases hp : P p
    · exact .inr ⟨p, Nat.le_refl _, by omega, hp, fun i h1 h2 => absurd h1 (by omega)⟩
    · rcases first_or_none P lim k (p + 1) (by omega) with h | ⟨b, h1, h2, h3, h4⟩
      · refine .inl fun i h1 h2 => ?_
        rcases Nat.eq_or_lt_of_le h1 with rfl | h1
        · exact hp
        · exact h i h1 h2
      · refine .inr ⟨b, by omega, h2, h3, fun i h5 h6 => ?_⟩
        rcases Nat.eq_or_lt_of_le h5 with rfl | h5
        · exact hp
        · exact h4 i h5 h6

/-- the pure meaning of one substitution: F p is what the text from place p on becomes -/
structure Sub (code : Array Nat) (N : Nat) (text repl : List Nat) (F : Nat → List Nat) (Hit : Nat → Prop) (len : Nat → Nat) : Prop where
  miss : ∀ p, p < text.length → ¬ Hit p → F p = text.getD p 0 :: F (p + 1)
  fin : F text.length = []
  hit : ∀ p, p < text.length → Hit p → F p = repl ++ F (p + len p) ∧ 0 < len p ∧ p + len p ≤ text.length
  yes : ∀ s b, s ≤ b → b < text.length → Hit b → (∀ i, s ≤ i → i < b → ¬ Hit i) → ∃ n m, n ≤ N ∧ stepN n (forSearch code text.toArray 0 s text.length false) = m ∧ m.outcome = some .matched ∧ m.start = b ∧ m.handed = b + len b
  no : ∀ s, s ≤ text.length → (∀ i, s ≤ i → i < text.length → ¬ Hit i) → ∃ n m, n ≤ N ∧ stepN n (forSearch code text.toArray 0 s text.length false) = m ∧ m.outcome = some .failed

theorem Sub.run {code : Array Nat} {N : Nat} {text repl : List Nat} {F : Nat → List Nat} {Hit : Nat → Prop} {len : Nat → Nat} (S : Sub code N text repl F Hit len) :
    ∀ (k p b : Nat), p + k = b → b ≤ text.length → (∀ i, p ≤ i → i < b → ¬ Hit i) → F p = ((text.take b).drop p) ++ F b
  | 0, p, b, e, _, _ => by
    obtain rfl : p = b := e
    simp
  | k + 1, p, b, e, hb, hn => by
    rw [S.miss p (by omega) (hn p (Nat.le_refl _) (by omega)), S.run k (p + 1) b (by omega) hb (fun i hi => hn i (by omega))]
    have : (text.take b).drop p = text.getD p 0 :: (text.take b).drop (p + 1) := by
      rw [List.drop_eq_getElem_cons (by simp; omega)]
      congr 1
      simp [List.getD, show p < text.length by omega]
    rw [this]; rfl

def PatAt (h : Heap) (isB : Bool) (code : Array Nat) (P : Addr) : Prop :=
  ∃ o vs T oT n, h.get? P = some o ∧ (o.cls = .type "re.Pattern" ∧ o.dict = none) ∧ o.data = .fields vs ∧ vs.getD 2 .none = .int 0 0 ∧ vs.getD 5 .none = .ref T ∧ vs.getD 6 .none = .int (kindOf isB : Nat) 0 ∧
    h.get? T = some oT ∧ oT.cls = .type "tuple" ∧ oT.data = .seq (code.map fun (c : Nat) => Value.int (c : Int) 0) n

theorem PatAt.keeps {h h' : Heap} {isB : Bool} {code : Array Nat} {P : Addr} (K : PatAt h isB code P) (hk : ∀ b o, h.get? b = some o → h'.get? b = some o) : PatAt h' isB code P := by
  obtain ⟨o, vs, T, oT, n, h1, h2, h3, h4, h5, h6, h7, h8, h9⟩ := K
  exact ⟨o, vs, T, oT, n, hk _ _ h1, h2, h3, h4, h5, h6, hk _ _ h7, h8, h9⟩
theorem PatAt.off {h h' : Heap} {isB : Bool} {code : Array Nat} {P l : Addr} {items : Array Value} (K : PatAt h isB code P) (hl : h.IsList l items) (hk : ∀ b o, b ≠ l → h.get? b = some o → h'.get? b = some o) : PatAt h' isB code P := by
  obtain ⟨o, vs, T, oT, n, h1, h2, h3, h4, h5, h6, h7, h8, h9⟩ := K
  obtain ⟨ol, l1, l2, _⟩ := hl
  refine ⟨o, vs, T, oT, n, hk _ _ ?_ h1, h2, h3, h4, h5, h6, hk _ _ ?_ h7, h8, h9⟩
  · rintro rfl; rw [h1] at l1; cases l1; rw [h2.1] at l2; exact absurd l2 (by decide)
  · rintro rfl; rw [h7] at l1; cases l1; rw [h8] at l2; exact absurd l2 (by decide)

theorem code_back (code : Array Nat) : (((code.map fun (c : Nat) => Value.int (c : Int) 0).map reRawOf).map (·.toNat)) = code := by
  rw [Array.map_map, Array.map_map]
  conv => rhs; rw [← Array.map_id code]
  rfl

theorem whole_spec {M : Model} {A : Around} {E : Value → Shared → Prop} {s : Shared} {isB : Bool} {code : Array Nat} {P : Addr} {text : List Nat} {t : Tok} {Q : ReTarget → Shared → Prop}
    (K : PatAt s.heap isB code P) (ho : Octets isB text)
    (hq : Q { pattern := .ref P, string := mkV isB text t, code, text := text.toArray, kind := kindOf isB, groups := 0, pos := 0, lim := text.length } s) :
    wpAny M A (reWholeTarget (.ref P) (mkV isB text t)) Q E s := by
  obtain ⟨o, vs, T, oT, n, h1, h2, h3, h4, h5, h6, h7, h8, h9⟩ := K
  unfold reWholeTarget
  refine wpAny_bind (wpAny_fieldsOf h1 h3 ?_)
  refine wpAny_bind (wpAny_of_eq (textOf_eq ho) ?_)
  dsimp only
  rw [h6, h5, h4]
  have e0 : reRawNat (.int (kindOf isB : Nat) 0) = kindOf isB := by show ((kindOf isB : Nat) : Int).toNat = _; simp
  have e1 : reRawNat (.int 0 0) = 0 := rfl
  rw [e0, e1]
  rw [if_neg (by cases isB <;> decide), if_neg (by cases isB <;> decide), noColl_eq]
  refine wpAny_bind (wpAny_pure ?_)
  unfold reRawItems
  refine wpAny_bind (wpAny_bind (wpAny_seqItems h7 h9 (wpAny_pure (wpAny_pure ?_))))
  rw [show (some (code.map fun (c : Nat) => Value.int (c : Int) 0)).getD #[] = code.map fun (c : Nat) => Value.int (c : Int) 0 from rfl, code_back]
  simpa using hq
end Mine

-- part Sub5
namespace Mine
open PySem PySem.Sre PySem.Builtin PySem.Builtin.Re

theorem push_spec {M : Model} {A : Around} {E : Value → Shared → Prop} {s : Shared} {l : Addr} {items : List Value} {v : Value} {Q : Unit → Shared → Prop}
    (hl : s.heap.IsList l items.toArray) (hsz : items.length ≤ sizeLine)
    (hq : ∀ h', h'.IsList l (items ++ [v]).toArray → (∀ b o, b ≠ l → s.heap.get? b = some o → h'.get? b = some o) → Q () { s with heap := h' }) :
    wpAny M A (updateSeq l (·.push v)) Q E s := by
  obtain ⟨o, h1, h2, n, h3⟩ := hl
  refine wpAny_updateSeq h1 h3 (hq _ ?_ ?_) (by simpa using hsz) (by simp; omega)
  · obtain ⟨c, d, dt, sl⟩ := o
    cases h2
    cases h3
    refine ⟨_, Heap.get?_update_self _ h1 rfl, rfl, (if (items.toArray.push v).size == items.toArray.size then n else n + 1), ?_⟩
    rw [← List.push_toArray]
    rfl
  · intro b o' hb ho'
    rw [Heap.get?_update_ne _ _ _ _ hb]
    exact ho'

theorem loop_spec {prog : Program} {w : World} {isB : Bool} {code : Array Nat} {N : Nat} {text repl : List Nat} {F : Nat → List Nat} {Hit : Nat → Prop} {len : Nat → Nat}
    (S : Sub code N text repl F Hit len) (hN : N ≤ 2 ^ 60) (ht : text.length ≤ 100000) (hr : repl.length ≤ 2) (ho : Octets isB text) {P l : Addr} {tS tR : Tok} {R : Result → Shared → Prop} :
    ∀ (k p : Nat) (n : Int) (ps : List (List Nat × Tok)) (s : Shared) (A : Around), p ≤ text.length → text.length - p < k →
      PatAt s.heap isB code P → s.heap.IsList l (pVals isB ps).toArray → ps.length ≤ 2 * p → ((ps.map (·.1)).flatten).length ≤ 3 * p →
      (∀ t' h' tk, (∀ b o, b ≠ l → s.heap.get? b = some o → h'.get? b = some o) → R (.ok (.ret (mkV isB ((ps.map (·.1)).flatten ++ F p) t'))) { s with heap := h', toks := tk }) →
      codeAny (model prog w) A (.builtin "re.Pattern.sub.loop" ⟨[.ref P, mkV isB text tS, mkV isB repl tR, rawInt 0, rawInt 0, rawInt n, rawInt p, rawInt p, .bool false, .ref l, .bool false], []⟩) R s := by
  intro k
  induction k with
  | zero => exact fun p n ps s A _ hk => absurd hk (Nat.not_lt_zero _)
  | succ k ih =>
    intro p n ps s A hp hk K hl h2 h3 hR
    refine codeAny_builtin entry_loop ?_
    have hlen : (pVals isB ps).length = ps.length := by simp [pVals]
    show wpAny _ _ (reWholeTarget (.ref P) (mkV isB text tS) >>= _) _ _ _
    refine wpAny_bind (whole_spec K ho ?_)
    rw [if_pos (by rfl), notTurned_eq]
    refine wpAny_bind (wpAny_pure ?_)
    dsimp only
    rw [if_neg (by simp)]
    rcases first_or_none Hit text.length (text.length - p) p (by omega) with hno | ⟨b, hb1, hb2, hb3, hb4⟩
    · obtain ⟨N', m, hN', e, hm⟩ := S.no p hp hno
      refine wpAny_bind (runToEnd_none (Nat.le_trans hN' hN) e hm ?_)
      dsimp only
      have hF : F p = (text.take text.length).drop p := by
        rw [S.run (text.length - p) p text.length (by omega) (Nat.le_refl _) hno, S.fin, List.append_nil]
      have hz : text.length ≤ sizeLine := by rw [sizeLine_eq]; omega
      by_cases hlt : p < text.length
      · rw [if_pos (show ((p : Int)).toNat < text.length by simpa using hlt)]
        refine wpAny_bind (slice_spec hz ?_)
        refine wpAny_bind (push_spec hl (by rw [hlen, sizeLine_eq]; omega) fun h₁ hl₁ hk₁ => ?_)
        refine wpAny_bind (slice_spec hz ?_)
        obtain ⟨o₁, a1, a2, n₁, a3⟩ := id hl₁
        refine wpAny_bind (wpAny_seqItems a1 a3 ?_)
        rw [if_neg (by simp)]
        have hv : (pVals isB ps ++ [mkV isB ((text.take text.length).drop p) s.toks]) = pVals isB (ps ++ [((text.take text.length).drop p, s.toks)]) := by simp [pVals]
        have e0 : ((p : Int)).toNat = p := by simp
        rw [e0] at hl₁
        rw [hv] at hl₁
        refine wpAny_bind (join_spec (ps := ps ++ [((text.take text.length).drop p, s.toks)]) hl₁ ?_ ?_)
        · rw [sizeLine_eq]; simp at h3 ⊢; omega
        · intro t' tk
          rw [if_neg Bool.false_ne_true]
          refine wpAny_pure ?_
          have := hR t' h₁ tk hk₁
          rw [hF] at this
          simpa using this
      · rw [if_neg (show ¬ ((p : Int)).toNat < text.length by simpa using hlt)]
        refine wpAny_bind (slice_spec hz ?_)
        obtain ⟨o₁, a1, a2, n₁, a3⟩ := id hl
        have hF' : F p = [] := by rw [hF]; simp; omega
        refine wpAny_bind (wpAny_seqItems a1 a3 ?_)
        by_cases hps : ps = []
        · subst hps
          rw [if_pos (by rfl)]
          refine wpAny_bind (wpAny_pure ?_)
          rw [if_neg Bool.false_ne_true]
          refine wpAny_pure ?_
          have := hR s.toks s.heap (s.toks + 1) (fun _ _ _ h => h)
          rw [hF'] at this
          simpa using this
        · rw [if_neg (by cases ps with | nil => exact absurd rfl hps | cons _ _ => simp [pVals])]
          refine wpAny_bind (join_spec (ps := ps) hl ?_ ?_)
          · rw [sizeLine_eq]; omega
          · intro t' tk
            rw [if_neg Bool.false_ne_true]
            refine wpAny_pure ?_
            have := hR t' s.heap tk (fun _ _ _ h => h)
            rw [hF'] at this
            simpa using this
    · obtain ⟨N', m, hN', e, hm, hms, hmh⟩ := S.yes p b hb1 hb2 hb3 hb4
      obtain ⟨hF1, hl0, hl1⟩ := S.hit b hb2 hb3
      have hF : F p = (text.take b).drop p ++ (repl ++ F (b + len b)) := by
        rw [S.run (b - p) p b (by omega) (by omega) hb4, hF1]
      have hz : text.length ≤ sizeLine := by rw [sizeLine_eq]; omega
      refine wpAny_bind (runToEnd_hit (Nat.le_trans hN' hN) e hm ?_)
      dsimp only
      rw [hms, hmh]
      have hne : (b + len b == b) = false := by simp; omega
      have hnn : ((mkV isB repl tR) != Value.none) = true := by cases isB <;> rfl
      have hq : (Code.builtin "re.Pattern.sub.loop" ⟨[.ref P, mkV isB text tS, mkV isB repl tR, rawInt 0, rawInt 0, rawInt (n + 1), rawInt ((b + len b : Nat) : Int), rawInt ((b + len b : Nat) : Int), .bool false, .ref l, .bool false], []⟩).quiet = true := plainId_quiet (by decide +kernel) _
      rw [hne]
      by_cases hlt : p < b
      · rw [if_pos (show ((p : Int)).toNat < b by simpa using hlt)]
        refine wpAny_bind (slice_spec hz ?_)
        refine wpAny_bind (push_spec hl (by rw [hlen, sizeLine_eq]; omega) fun h₁ hl₁ hk₁ => ?_)
        rw [if_pos (by rfl)]
        refine wpAny_bind (wpAny_pure ?_)
        rw [if_pos hnn]
        refine wpAny_bind (push_spec hl₁ (by rw [List.length_append, hlen, sizeLine_eq]; simp; omega) fun h₂ hl₂ hk₂ => ?_)
        have e0 : ((p : Int)).toNat = p := by simp
        rw [e0] at hl₂
        have hv : (pVals isB ps ++ [mkV isB ((text.take b).drop p) s.toks] ++ [mkV isB repl tR]) = pVals isB (ps ++ [((text.take b).drop p, s.toks), (repl, tR)]) := by simp [pVals]
        rw [hv] at hl₂
        have hkeep : ∀ x o, x ≠ l → s.heap.get? x = some o → h₂.get? x = some o := fun x o hx hxo => hk₂ x o hx (hk₁ x o hx hxo)
        refine wpAny_pure ⟨hq, ih (b + len b) (n + 1) _ _ A hl1 (by omega) (K.off hl hkeep) hl₂ ?_ ?_ ?_⟩
        · simp; omega
        · simp at h3 ⊢; omega
        · intro t' h' tk hk'
          have := hR t' h' tk (fun x o hx hxo => hk' x o hx (hkeep x o hx hxo))
          rw [hF] at this
          simpa using this
      · obtain rfl : p = b := by omega
        rw [if_neg (show ¬ ((p : Int)).toNat < p by simp)]
        rw [if_pos (by rfl)]
        refine wpAny_bind (wpAny_pure ?_)
        rw [if_pos hnn]
        refine wpAny_bind (push_spec hl (by rw [hlen, sizeLine_eq]; omega) fun h₂ hl₂ hk₂ => ?_)
        have hv : (pVals isB ps ++ [mkV isB repl tR]) = pVals isB (ps ++ [(repl, tR)]) := by simp [pVals]
        rw [hv] at hl₂
        refine wpAny_pure ⟨hq, ih (p + len p) (n + 1) _ _ A hl1 (by omega) (K.off hl hk₂) hl₂ ?_ ?_ ?_⟩
        · simp; omega
        · simp at h3 ⊢; omega
        · intro t' h' tk hk'
          have := hR t' h' tk (fun x o hx hxo => hk' x o hx (hk₂ x o hx hxo))
          rw [hF] at this
          simpa using this
end Mine

-- part Sub6
namespace Mine
open PySem PySem.Sre PySem.Builtin PySem.Builtin.Re

theorem named_eq (a b : Value) : reNamed "re.Pattern.sub" "sub" ["repl", "string", "count"] 2 [a, b] [] = pure [some a, some b, none] := by rfl

theorem typeIs_of_get {s : Shared} {a : Addr} {o : Obj} {T : String} (h : s.heap.get? a = some o) (hc : o.cls = .type T) : s.TypeIs (.ref a) T := by
  exact ⟨_, h, hc⟩

theorem nocall_str : typeLookup (.type "str") "__call__" = pure none := by rw [typeLookup_type, builtinLookup_eq_fast]; kernel_rfl
theorem nocall_bytes : typeLookup (.type "bytes") "__call__" = pure none := by rw [typeLookup_type, builtinLookup_eq_fast]; kernel_rfl
theorem nocall_eq {isB : Bool} {l : List Nat} {t : Tok} : specialOf (mkV isB l t) "__call__" = pure none := by
  cases isB with
  | false =>
    have e : specialOf (.str ⟨l.toArray⟩ t) "__call__" = typeLookup (.type "str") "__call__" := rfl
    exact e.trans nocall_str
  | true => exact PySem.W.KBy.special_eq nocall_bytes

theorem sub_spec {prog : Program} {w : World} {A : Around} {E : Value → Shared → Prop} {s : Shared} {isB : Bool} {code : Array Nat} {N : Nat} {text repl : List Nat} {F : Nat → List Nat} {Hit : Nat → Prop} {len : Nat → Nat}
    (S : Sub code N text repl F Hit len) (hN : N ≤ 2 ^ 60) (ht : text.length ≤ 100000) (hr : repl.length ≤ 2) (hr2 : ∀ c ∈ repl, c < 92) (ho : Octets isB text) {P : Addr} {tS tR : Tok} {Q : Value → Shared → Prop}
    (K : PatAt s.heap isB code P) (hq : ∀ t' h' tk, (∀ b o, s.heap.get? b = some o → h'.get? b = some o) → Q (mkV isB (F 0) t') { s with heap := h', toks := tk }) :
    wpAny (model prog w) A (call (.builtin "re.Pattern.sub") [.ref P, mkV isB repl tR, mkV isB text tS]) Q E s := by
  obtain ⟨oP, vsP, T, oT, nT, k1, k2, k3, _⟩ := id K
  refine call_meets slot_sub ?_ entry_sub (args_sub _ _ _) (S := fun _ R s' => s' = s ∧ R = wants Q E) ?_ ⟨rfl, rfl⟩
  · exact typeIs_of_get k1 k2.1
  rintro prog w A R s' ⟨rfl, rfl⟩
  unfold «re.Pattern.sub» reSubstitute
  dsimp only
  rw [named_eq]
  refine wpAny_bind (wpAny_pure ?_)
  dsimp only
  refine wpAny_bind (wpAny_pure ?_)
  rw [nocall_eq]
  refine wpAny_bind (wpAny_pure ?_)
  rw [if_neg (by decide)]
  have fin : ∀ tS' tR' : Tok, tS' = tS → tR' = tR → wpAny (model prog w) A.in1 (do
      let _ ← holding [mkV isB repl tR] (reWholeTarget (Value.ref P) (mkV isB text tS))
      let l ← newList []
      again (Code.builtin "re.Pattern.sub.loop" { pos := [Value.ref P, mkV isB text tS, mkV isB repl tR, rawInt 0, rawInt 0, rawInt 0, rawInt 0, rawInt 0, Value.bool false, l, Value.bool false] }))
      (fun fin s' => match fin with | Fin.done f => wants Q E (Except.ok f) s' | Fin.again c' => c'.quiet = true ∧ codeAny (model prog w) A c' (wants Q E) s')
      (fun e s' => wants Q E (Except.error e) s') s' := by
    rintro _ _ rfl rfl
    refine wpAny_bind (wpAny_holding (whole_spec K ho ?_))
    refine wpAny_bind (wpAny_newList ?_ (Nat.zero_le _))
    have hk : ∀ b o, s'.heap.get? b = some o → (s'.heap.push { cls := .type "list", data := .seq #[] }).get? b = some o := fun b o h => Heap.get?_push_of_some _ h
    refine wpAny_pure ⟨plainId_quiet (by decide +kernel) _, loop_spec S hN ht hr ho (text.length + 1) 0 0 [] _ A (Nat.zero_le _) (by omega) (K.keeps hk) ⟨_, Heap.get?_push_size _ rfl, rfl, 0, rfl⟩ (Nat.zero_le _) (Nat.zero_le _) ?_⟩
    intro t' h' tk hk'
    have := hq t' h' tk (fun b o hb => hk' b o (Nat.ne_of_lt (Heap.lt_size hb)) (hk b o hb))
    simpa using this
  have fin' := fin tS tR rfl rfl
  clear fin
  cases isB with
  | false =>
    refine wpAny_bind (wpAny_of_eq (a := some ⟨repl.toArray⟩) (by rfl) ?_)
    dsimp only
    have : (!Array.contains repl.toArray 92) = true := by
      simp only [List.contains_toArray, Bool.not_eq_true', List.contains_eq_mem, decide_eq_false_iff_not]
      intro hm
      exact absurd (hr2 _ hm) (by decide)
    rw [this]
    refine wpAny_bind (wpAny_pure ?_)
    rw [if_neg (by decide), if_pos rfl]
    refine wpAny_bind (wpAny_pure ?_)
    rw [if_neg (show ¬ (((0 : Int) == 1) = true) by decide)]
    exact fin'
  | true =>
    refine wpAny_bind (wpAny_of_eq (a := none) (by rfl) ?_)
    dsimp only
    refine wpAny_bind ?_
    show wpAny _ _ (Bytes.bufferQuiet? "re.Pattern.sub" (.bytes _ tR)) _ _ _
    refine wpAny_of_eq PySem.W.KBy.quiet_eq ?_
    dsimp only
    have : (!Array.contains (repl.map (·.toUInt8)).toArray 92) = true := by
      simp only [List.contains_toArray, Bool.not_eq_true', List.contains_eq_mem, decide_eq_false_iff_not]
      intro hm
      obtain ⟨c, hc, e⟩ := List.mem_map.mp hm
      have hlt := hr2 c hc
      have e2 : c.toUInt8.toNat = 92 := by rw [e]; rfl
      simp [Nat.toUInt8, UInt8.toNat_ofNat', Nat.mod_eq_of_lt (show c < 256 by omega)] at e2
      omega
    rw [this]
    refine wpAny_bind (wpAny_pure ?_)
    rw [if_neg (by decide), if_pos rfl]
    refine wpAny_bind (wpAny_pure ?_)
    rw [if_neg (show ¬ (((0 : Int) == 1) = true) by decide)]
    exact fin'
end Mine

-- part Sub7
namespace Mine
open PySem PySem.Sre PySem.Builtin PySem.Builtin.Re

/-- ends made whole: b says that a return stood right before -/
def fx : Bool → List Nat → List Nat
  | _, [] => []
  | b, c :: r => if c = 10 then (if b = true then fx false r else 13 :: 10 :: fx false r) else if c = 13 then 13 :: 10 :: fx true r else c :: fx false r
/-- dots doubled: b says that the place is the first of a line -/
def qd : Bool → List Nat → List Nat
  | _, [] => []
  | b, c :: r => if c = 46 ∧ b = true then 46 :: 46 :: qd false r else c :: qd (c == 10) r

theorem fx_cons (b : Bool) (c : Nat) (r : List Nat) : fx b (c :: r) = if c = 10 then (if b = true then fx false r else 13 :: 10 :: fx false r) else if c = 13 then 13 :: 10 :: fx true r else c :: fx false r := rfl
theorem qd_cons (b : Bool) (c : Nat) (r : List Nat) : qd b (c :: r) = if c = 46 ∧ b = true then 46 :: 46 :: qd false r else c :: qd (c == 10) r := rfl
theorem getD_arr (l : List Nat) (i : Nat) : l.toArray.getD i 0 = l.getD i 0 := by
  simp [Array.getD, List.getD]
  split
  · rename_i h; rw [List.getElem?_eq_getElem h]; rfl
  · rename_i h; rw [List.getElem?_eq_none (by omega)]; rfl
theorem drop_cons {l : List Nat} {p : Nat} (h : p < l.length) : l.drop p = l.getD p 0 :: l.drop (p + 1) := by
  rw [List.drop_eq_getElem_cons h]
  simp [List.getD, h]

theorem sub_eol (text : List Nat) : Sub codeEol 15 text [13, 10] (fun p => fx false (text.drop p)) (fun p => text.toArray.getD p 0 = 10 ∨ text.toArray.getD p 0 = 13) (fun p => eLen text.toArray text.length p) where
  miss := by
    intro p hp hn
    show fx false (text.drop p) = _
    rw [getD_arr] at hn
    rw [drop_cons hp, fx_cons, if_neg (fun h => hn (.inl h)), if_neg (fun h => hn (.inr h))]
  fin := by show fx false (text.drop text.length) = []; rw [List.drop_length]; rfl
  hit := by
    intro p hp hh
    show fx false (text.drop p) = [13, 10] ++ fx false (text.drop (p + eLen text.toArray text.length p)) ∧ 0 < eLen text.toArray text.length p ∧ p + eLen text.toArray text.length p ≤ text.length
    rw [getD_arr] at hh
    have he : eLen text.toArray text.length p = if text.getD p 0 = 13 ∧ p + 1 < text.length ∧ text.getD (p + 1) 0 = 10 then 2 else 1 := by
      unfold eLen; rw [getD_arr, getD_arr]
    rw [he]
    by_cases h13 : text.getD p 0 = 13
    · by_cases h1 : p + 1 < text.length ∧ text.getD (p + 1) 0 = 10
      · rw [if_pos ⟨h13, h1⟩, drop_cons hp, h13, drop_cons h1.1, h1.2]
        exact ⟨rfl, by omega, by omega⟩
      · rw [if_neg (fun h => h1 h.2), drop_cons hp, h13]
        refine ⟨?_, by omega, by omega⟩
        show 13 :: 10 :: fx true (text.drop (p + 1)) = 13 :: 10 :: fx false (text.drop (p + 1))
        congr 2
        rcases Nat.lt_or_ge (p + 1) text.length with h2 | h2
        · rw [drop_cons h2]
          have h3 : text.getD (p + 1) 0 ≠ 10 := fun h => h1 ⟨h2, h⟩
          rw [fx_cons, fx_cons, if_neg h3, if_neg h3]
        · rw [List.drop_eq_nil_of_le h2]; rfl
    · have h10 : text.getD p 0 = 10 := hh.resolve_right h13
      rw [if_neg (fun h => h13 h.1), drop_cons hp, h10]
      exact ⟨rfl, by omega, by omega⟩
  yes := fun s b h1 h2 h3 h4 => eol_hit h1 h2 h3 h4
  no := fun s h1 h2 => eol_none h1 h2

theorem sub_dot (text : List Nat) : Sub codeDot (3 * text.length + 5) text [46, 46] (fun p => qd (p == 0 || text.getD (p - 1) 0 == 10) (text.drop p)) (fun p => DotAt text.toArray p) (fun _ => 1) where
  miss := by
    intro p hp hn
    show qd _ (text.drop p) = _ :: qd _ (text.drop (p + 1))
    rw [drop_cons hp, qd_cons, if_neg]
    · congr 1
    · rintro ⟨h1, h2⟩
      refine hn ⟨?_, by rw [getD_arr]; exact h1⟩
      rw [getD_arr]
      simpa using h2
  fin := by show qd _ (text.drop text.length) = []; rw [List.drop_length]; rfl
  hit := by
    rintro p hp ⟨h1, h2⟩
    rw [getD_arr] at h1 h2
    show qd _ (text.drop p) = [46, 46] ++ qd _ (text.drop (p + 1)) ∧ _
    rw [drop_cons hp, h2]
    refine ⟨?_, by omega, by omega⟩
    have hb : (p == 0 || text.getD (p - 1) 0 == 10) = true := by rw [Bool.or_eq_true, beq_iff_eq, beq_iff_eq]; exact h1
    rw [hb]
    have hb2 : (p + 1 == 0 || text.getD (p + 1 - 1) 0 == 10) = false := by
      rw [Nat.add_sub_cancel, h2]; simp
    rw [hb2]
    rfl
  yes := fun s b h1 h2 h3 h4 => dot_hit' h1 h2 h3 h4
  no := fun s h1 h2 => dot_none' h1 h2

/-- what the three calls give -/
theorem fix_call {prog : Program} {w : World} {A : Around} {E : Value → Shared → Prop} {s : Shared} {text : List Nat} (ht : text.length ≤ 100000) {P : Addr} {tS tR : Tok} {Q : Value → Shared → Prop}
    (K : PatAt s.heap false codeEol P) (hq : ∀ t' h' tk, (∀ b o, s.heap.get? b = some o → h'.get? b = some o) → Q (.str ⟨(fx false text).toArray⟩ t') { s with heap := h', toks := tk }) :
    wpAny (model prog w) A (call (.builtin "re.Pattern.sub") [.ref P, .str ⟨#[13, 10]⟩ tR, .str ⟨text.toArray⟩ tS]) Q E s :=
  sub_spec (isB := false) (repl := [13, 10]) (sub_eol text) (by decide) ht (by decide) (by decide) (fun h => nomatch h) K hq
theorem dot_call {prog : Program} {w : World} {A : Around} {E : Value → Shared → Prop} {s : Shared} {text : List Nat} (ht : text.length ≤ 100000) {P : Addr} {tS tR : Tok} {Q : Value → Shared → Prop}
    (K : PatAt s.heap false codeDot P) (hq : ∀ t' h' tk, (∀ b o, s.heap.get? b = some o → h'.get? b = some o) → Q (.str ⟨(qd true text).toArray⟩ t') { s with heap := h', toks := tk }) :
    wpAny (model prog w) A (call (.builtin "re.Pattern.sub") [.ref P, .str ⟨#[46, 46]⟩ tR, .str ⟨text.toArray⟩ tS]) Q E s :=
  sub_spec (isB := false) (repl := [46, 46]) (sub_dot text) (by have : (2 : Nat) ^ 60 = 1152921504606846976 := by decide
                                                                omega) ht (by decide) (by decide) (fun h => nomatch h) K hq
theorem dotB_call {prog : Program} {w : World} {A : Around} {E : Value → Shared → Prop} {s : Shared} {text : List Nat} (ht : text.length ≤ 100000) (ho : ∀ c ∈ text, c < 256) {P : Addr} {tS tR : Tok} {Q : Value → Shared → Prop}
    (K : PatAt s.heap true codeDot P) (hq : ∀ t' h' tk, (∀ b o, s.heap.get? b = some o → h'.get? b = some o) → Q (.bytes ((qd true text).map (·.toUInt8)).toArray t') { s with heap := h', toks := tk }) :
    wpAny (model prog w) A (call (.builtin "re.Pattern.sub") [.ref P, .bytes #[46, 46] tR, .bytes (text.map (·.toUInt8)).toArray tS]) Q E s :=
  sub_spec (isB := true) (repl := [46, 46]) (sub_dot text) (by have : (2 : Nat) ^ 60 = 1152921504606846976 := by decide
                                                               omega) ht (by decide) (by decide) (fun _ => ho) K hq
end Mine

-- part Walk1
namespace Mine
open PySem PySem.Builtin PyProof.Rows

def fRec (i : Nat) : Str × Arguments × List Stmt × Scope := match PySem.Challenge.pw_op0303_01.main.body[i]? with
  | some (.FunctionDef name args body _ _ _ scope _ _ _) => (name, args, body, scope)
  | _ => default
def fName (i : Nat) : Str := (fRec i).1
def fParams (i : Nat) : Arguments := (fRec i).2.1
def fBody (i : Nat) : List Stmt := (fRec i).2.2.1
def fScope (i : Nat) : Scope := (fRec i).2.2.2

def FnIs (h : Heap) (a : Addr) (i : Nat) : Prop :=
  ∃ o pm cd doc, h.get? a = some o ∧ o.data = .func (Calls.docDef (fName i) (fParams i) (fBody i) (fScope i) pm cd doc) ∧ h.CodeRec cd (fName i)
abbrev Kept (h h' : Heap) : Prop := ∀ b o, h.get? b = some o → h'.get? b = some o
theorem FnIs.keeps {h h' : Heap} {a : Addr} {i : Nat} (F : FnIs h a i) (hk : Kept h h') : FnIs h' a i :=
  let ⟨o, pm, cd, doc, h1, h2, h3⟩ := F; ⟨o, pm, cd, doc, hk _ _ h1, h2, h3.keeps hk⟩

structure GG (mg mb : Str → Option Value) (h : Heap) : Prop where
  g : h.Ns mainGlobals mg
  b : h.Ns builtinsNs mb
  lim : h.NoLimit
  len : mg "len" = none ∧ mb "len" = some (.builtin "len")
  bytes : mg "bytes" = none ∧ mb "bytes" = some (.type "bytes")
  ord : mg "ord" = none ∧ mb "ord" = some (.builtin "ord")
  crlf : ∃ t, mg "CRLF" = some (.str ⟨#[13, 10]⟩ t)
  p1 : ∃ P, mg "_twin_re_1" = some (.ref P) ∧ PatAt h false codeDot P
  p2 : ∃ P, mg "_twin_re_2" = some (.ref P) ∧ PatAt h true codeDot P
  p3 : ∃ P, mg "_twin_re_3" = some (.ref P) ∧ PatAt h false codeEol P
  fq : ∃ a, mg "quotedata" = some (.ref a) ∧ FnIs h a 6
  fp : ∃ a, mg "_quote_periods" = some (.ref a) ∧ FnIs h a 7
  fe : ∃ a, mg "_fix_eols" = some (.ref a) ∧ FnIs h a 8
  fs : ∃ a, mg "_law_sent" = some (.ref a) ∧ FnIs h a 10
  ft : ∃ a, mg "_law_texts" = some (.ref a) ∧ FnIs h a 11

theorem GG.keeps {mg mb : Str → Option Value} {h h' : Heap} (G : GG mg mb h) (hk : Kept h h') : GG mg mb h' where
  g := G.g.keeps hk
  b := G.b.keeps hk
  lim := G.lim.keeps hk
  len := G.len
  bytes := G.bytes
  ord := G.ord
  crlf := G.crlf
  p1 := let ⟨P, h1, h2⟩ := G.p1; ⟨P, h1, h2.keeps hk⟩
  p2 := let ⟨P, h1, h2⟩ := G.p2; ⟨P, h1, h2.keeps hk⟩
  p3 := let ⟨P, h1, h2⟩ := G.p3; ⟨P, h1, h2.keeps hk⟩
  fq := let ⟨P, h1, h2⟩ := G.fq; ⟨P, h1, h2.keeps hk⟩
  fp := let ⟨P, h1, h2⟩ := G.fp; ⟨P, h1, h2.keeps hk⟩
  fe := let ⟨P, h1, h2⟩ := G.fe; ⟨P, h1, h2.keeps hk⟩
  fs := let ⟨P, h1, h2⟩ := G.fs; ⟨P, h1, h2.keeps hk⟩
  ft := let ⟨P, h1, h2⟩ := G.ft; ⟨P, h1, h2.keeps hk⟩

theorem plainAttrs_pat : PlainAttrs "re.Pattern" :=
  ⟨⟨"object.__getattribute__", by rw [typeLookup_type, builtinLookup_eq_fast]; kernel_rfl, by decide +kernel⟩, by rw [typeLookup_type, builtinLookup_eq_fast]; kernel_rfl⟩
theorem type_sub : typeOf (.builtin "re.Pattern.sub") = pure (.type "method_descriptor") := by show builtinType _ = _; rw [builtinType_eq_fast]; kernel_rfl

theorem PatAt.get {h : Heap} {isB : Bool} {code : Array Nat} {P : Addr} (K : PatAt h isB code P) : ∃ o, h.get? P = some o ∧ o.cls = .type "re.Pattern" ∧ o.dict = none :=
  let ⟨o, _, _, _, _, h1, h2, _⟩ := K; ⟨o, h1, h2.1, h2.2⟩

theorem sDots : Str.ofString ".." = ⟨#[46, 46]⟩ := by decide +kernel
theorem fx_length : ∀ (b : Bool) (l : List Nat), (fx b l).length ≤ 2 * l.length
  | _, [] => Nat.zero_le _
  | b, c :: r => by
    have h1 := fx_length false r
    have h2 := fx_length true r
    rw [fx_cons]
    split
    · split
      · simp; omega
      · simp; omega
    · split
      · simp; omega
      · simp; omega
theorem qd_length : ∀ (b : Bool) (l : List Nat), (qd b l).length ≤ 2 * l.length
  | _, [] => Nat.zero_le _
  | b, c :: r => by
    have h1 := qd_length false r
    have h2 := qd_length (c == 10) r
    rw [qd_cons]
    split
    · simp; omega
    · simp; omega

section
variable {prog : Program} {w : World} {A : Around} {E : Value → Shared → Prop} {s : Shared} {mg mb : Str → Option Value} {R : Result → Shared → Prop}

theorem cw_builtin {M : Model} {env : Env} {id : String} {first : List Value} {pos : Pos} {e : Expr} {rest : List Expr} {Q : Value → Shared → Prop}
    (h : wpAny M A (spliced (backTo pos (starEach (e :: rest) env))) (fun vs s₁ => wpAny M A (call (.builtin id) (first ++ vs)) Q E s₁) E s)
    (he : starEach (e :: rest) env = (false, eval e env) :: starEach rest env := by rfl) (hp : (backTo pos (starEach (e :: rest) env)).any (·.1) = false := by rfl) :
    wpAny M A (callWith pos (.builtin id) first (backTo pos (starEach (e :: rest) env)) []) Q E s := by
  refine Calls.callWith_builtin hp ?_
  have e2 : backTo pos (starEach (e :: rest) env) = (false, eval e env) :: backTo pos (starEach rest env) := by rw [he]; rfl
  rw [e2] at h ⊢
  exact Calls.evalArgs_plain h
theorem cw_function {M : Model} {env : Env} {a : Addr} {first : List Value} {pos : Pos} {e : Expr} {rest : List Expr} {Q : Value → Shared → Prop}
    {o : Obj} {fd : FuncData} (h : wpAny M A (spliced (backTo pos (starEach (e :: rest) env))) (fun vs s₁ => (s₁.heap.get? a = some o ∧ o.data = .func fd) ∧ wpAny M A (call (.ref a) (first ++ vs)) Q E s₁) E s)
    (he : starEach (e :: rest) env = (false, eval e env) :: starEach rest env := by rfl) :
    wpAny M A (callWith pos (.ref a) first (backTo pos (starEach (e :: rest) env)) []) Q E s := by
  refine Calls.callWith_function (o := o) (fd := fd) ?_
  have e2 : backTo pos (starEach (e :: rest) env) = (false, eval e env) :: backTo pos (starEach rest env) := by rw [he]; rfl
  rw [e2] at h ⊢
  exact Calls.evalArgs_plain h

theorem quote_spec {a : Addr} {text : List Nat} {t : Tok} (G : GG mg mb s.heap) (F : FnIs s.heap a 6) (hroom : A.depth < recursionLimit) (ht : text.length ≤ 50000)
    (hR : ∀ t' h' tk, Kept s.heap h' → R (.ok (.ret (.str ⟨(qd true (fx false text)).toArray⟩ t'))) { s with heap := h', toks := tk }) :
    codeAny (model prog w) A (.call (.ref a) ⟨[.str ⟨text.toArray⟩ t], []⟩) R s := by
  obtain ⟨o, pm, cd, doc, h1, h2, h3⟩ := F
  refine call_pos_ret hroom h1 h2 G.lim h3 (by rfl) (locs (by rfl)) (fun h₁ F₁ => ?_)
  have G₁ := G.keeps F₁.keep
  obtain ⟨P1, m1, K1⟩ := G₁.p1
  obtain ⟨P3, m3, K3⟩ := G₁.p3
  obtain ⟨tc, mc⟩ := G₁.crlf
  obtain ⟨o1, o11, o12, o13⟩ := K1.get
  obtain ⟨o3, o31, o32, o33⟩ := K3.get
  refine wpAny_execs_cons (wpAny_Return_some ?_)
  refine wpAny_Call_method (T := "re.Pattern") (id := "re.Pattern.sub") (by rfl) (by rfl) (by rfl) plainAttrs_pat slot_sub type_sub ?_
  refine Calls.Name_function_global (by rfl) (by rfl) (Calls.loadGlobal_global G₁.g m1 ?_) (by decide)
  refine ⟨typeIs_of_get o11 o12, fun x hx => by cases hx; exact ⟨o1, o11, o13⟩, ?_⟩
  refine cw_builtin (spliced_more (wpAny_Constant_str ?_))
  refine spliced_more ?_
  refine wpAny_Call_method (T := "re.Pattern") (id := "re.Pattern.sub") (by rfl) (by rfl) (by rfl) plainAttrs_pat slot_sub type_sub ?_
  refine Calls.Name_function_global (by rfl) (by rfl) (Calls.loadGlobal_global G₁.g m3 ?_) (by decide)
  refine ⟨typeIs_of_get o31 o32, fun x hx => by cases hx; exact ⟨o3, o31, o33⟩, ?_⟩
  refine cw_builtin (spliced_more ?_)
  refine Calls.Name_function_global (by rfl) (by rfl) (Calls.loadGlobal_global G₁.g mc ?_) (by decide)
  refine spliced_more (ld F₁ (by rfl) ?_)
  refine spliced_none ?_
  refine fix_call (by omega) K3 fun t2 h₂ tk₂ hk₂ => ?_
  refine spliced_none ?_
  rw [sDots]
  refine dot_call (by have := fx_length false text; omega) (K1.keeps hk₂) fun t3 h₃ tk₃ hk₃ => ?_
  exact hR _ _ _ fun b o e => hk₃ _ _ (hk₂ _ _ (F₁.keep _ _ e))

theorem eols_spec {a : Addr} {text : List Nat} {t : Tok} (G : GG mg mb s.heap) (F : FnIs s.heap a 8) (hroom : A.depth < recursionLimit) (ht : text.length ≤ 50000)
    (hR : ∀ t' h' tk, Kept s.heap h' → R (.ok (.ret (.str ⟨(fx false text).toArray⟩ t'))) { s with heap := h', toks := tk }) :
    codeAny (model prog w) A (.call (.ref a) ⟨[.str ⟨text.toArray⟩ t], []⟩) R s := by
  obtain ⟨o, pm, cd, doc, h1, h2, h3⟩ := F
  refine call_pos_ret hroom h1 h2 G.lim h3 (by rfl) (locs (by rfl)) (fun h₁ F₁ => ?_)
  have G₁ := G.keeps F₁.keep
  obtain ⟨P3, m3, K3⟩ := G₁.p3
  obtain ⟨tc, mc⟩ := G₁.crlf
  obtain ⟨o3, o31, o32, o33⟩ := K3.get
  refine wpAny_execs_cons (wpAny_Return_some ?_)
  refine wpAny_Call_method (T := "re.Pattern") (id := "re.Pattern.sub") (by rfl) (by rfl) (by rfl) plainAttrs_pat slot_sub type_sub ?_
  refine Calls.Name_function_global (by rfl) (by rfl) (Calls.loadGlobal_global G₁.g m3 ?_) (by decide)
  refine ⟨typeIs_of_get o31 o32, fun x hx => by cases hx; exact ⟨o3, o31, o33⟩, ?_⟩
  refine cw_builtin (spliced_more ?_)
  refine Calls.Name_function_global (by rfl) (by rfl) (Calls.loadGlobal_global G₁.g mc ?_) (by decide)
  refine spliced_more (ld F₁ (by rfl) ?_)
  refine spliced_none ?_
  refine fix_call (by omega) K3 fun t2 h₂ tk₂ hk₂ => ?_
  exact hR _ _ _ fun b o e => hk₂ _ _ (F₁.keep _ _ e)

theorem wpAny_Constant_bytes {M : Model} {env : Env} {b : List UInt8} {k : Nat} {pos : Pos} {Q : Value → Shared → Prop} (h : Q (.bytes b.toArray s.toks) { s with toks := s.toks + 1 }) :
    wpAny M A (eval (.Constant (.bytes b) k pos) env) Q E s := fun _ _ _ => h

theorem periods_spec {a : Addr} {text : List Nat} {t : Tok} (G : GG mg mb s.heap) (F : FnIs s.heap a 7) (hroom : A.depth < recursionLimit) (ht : text.length ≤ 50000) (ho : ∀ c ∈ text, c < 256)
    (hR : ∀ t' h' tk, Kept s.heap h' → R (.ok (.ret (.bytes ((qd true text).map (·.toUInt8)).toArray t'))) { s with heap := h', toks := tk }) :
    codeAny (model prog w) A (.call (.ref a) ⟨[.bytes (text.map (·.toUInt8)).toArray t], []⟩) R s := by
  obtain ⟨o, pm, cd, doc, h1, h2, h3⟩ := F
  refine call_pos_ret hroom h1 h2 G.lim h3 (by rfl) (locs (by rfl)) (fun h₁ F₁ => ?_)
  have G₁ := G.keeps F₁.keep
  obtain ⟨P2, m2, K2⟩ := G₁.p2
  obtain ⟨o2, o21, o22, o23⟩ := K2.get
  refine wpAny_execs_cons (wpAny_Return_some ?_)
  refine wpAny_Call_method (T := "re.Pattern") (id := "re.Pattern.sub") (by rfl) (by rfl) (by rfl) plainAttrs_pat slot_sub type_sub ?_
  refine Calls.Name_function_global (by rfl) (by rfl) (Calls.loadGlobal_global G₁.g m2 ?_) (by decide)
  refine ⟨typeIs_of_get o21 o22, fun x hx => by cases hx; exact ⟨o2, o21, o23⟩, ?_⟩
  refine cw_builtin (spliced_more ?_)
  refine wpAny_Constant_bytes ?_
  refine spliced_more (ld F₁ (by rfl) ?_)
  refine spliced_none ?_
  refine dotB_call (by omega) ho K2 fun t2 h₂ tk₂ hk₂ => ?_
  exact hR _ _ _ fun b o e => hk₂ _ _ (F₁.keep _ _ e)
end
end Mine

-- part Walk2
namespace Mine
open PySem PySem.Builtin PyProof.Rows

structure Ent where
  sg : List Nat
  qt : List Nat
  fx : List Nat
  oc : List Nat

def entVals (e : Ent) (t1 t2 t3 t4 : Tok) : Array Value := #[.str ⟨e.sg.toArray⟩ t1, .str ⟨e.qt.toArray⟩ t2, .str ⟨e.fx.toArray⟩ t3, .bytes (e.oc.map (·.toUInt8)).toArray t4]
def EntAt (h : Heap) (v : Value) (e : Ent) : Prop :=
  ∃ a o n t1 t2 t3 t4, v = .ref a ∧ h.get? a = some o ∧ o.cls = .type "tuple" ∧ o.data = .seq (entVals e t1 t2 t3 t4) n
def PartAt (h : Heap) (v : Value) (es : List Ent) : Prop := ∃ a vs, v = .ref a ∧ h.IsList a vs.toArray ∧ Paired (EntAt h) vs es
def PartsAt (h : Heap) (v : Value) (ess : List (List Ent)) : Prop := ∃ a vs, v = .ref a ∧ h.IsList a vs.toArray ∧ Paired (PartAt h) vs ess

/-- tuples stay -/
def KeptT (h h' : Heap) : Prop := ∀ b o xs n, h.get? b = some o → o.cls = .type "tuple" → o.data = .seq xs n → h'.get? b = some o
/-- tuples and lists stay -/
def KeptS (h h' : Heap) : Prop := ∀ b o xs n, h.get? b = some o → o.data = .seq xs n → h'.get? b = some o
theorem Kept.toS {h h' : Heap} (k : Kept h h') : KeptS h h' := fun b o _ _ e _ => k b o e
theorem KeptS.toT {h h' : Heap} (k : KeptS h h') : KeptT h h' := fun b o xs n e _ c => k b o xs n e c
theorem Kept.toT {h h' : Heap} (k : Kept h h') : KeptT h h' := fun b o _ _ e _ _ => k b o e
theorem KeptS.trans {h h' h'' : Heap} (k : KeptS h h') (k' : KeptS h' h'') : KeptS h h'' := fun b o xs n e c => k' b o xs n (k b o xs n e c) c
theorem KeptT.trans {h h' h'' : Heap} (k : KeptT h h') (k' : KeptT h' h'') : KeptT h h'' := fun b o xs n e c d => k' b o xs n (k b o xs n e c d) c d
theorem KeptS.refl (h : Heap) : KeptS h h := fun _ _ _ _ e _ => e
theorem EntAt.keeps {h h' : Heap} {v : Value} {e : Ent} (K : KeptT h h') (x : EntAt h v e) : EntAt h' v e :=
  let ⟨a, o, n, t1, t2, t3, t4, h1, h2, h3, h4⟩ := x; ⟨a, o, n, t1, t2, t3, t4, h1, K _ _ _ _ h2 h3 h4, h3, h4⟩
theorem Paired.imp {α β : Type} {F F' : α → β → Prop} (h : ∀ a b, F a b → F' a b) : ∀ {l₁ : List α} {l₂ : List β}, Paired F l₁ l₂ → Paired F' l₁ l₂
  | _, _, .nil => .nil
  | _, _, .cons h₁ t => .cons (h _ _ h₁) (Paired.imp h t)
theorem IsList.keepsS {h h' : Heap} {a : Addr} {items : Array Value} (K : KeptS h h') (x : h.IsList a items) : h'.IsList a items :=
  let ⟨o, h1, h2, n, h3⟩ := x; ⟨o, K _ _ _ _ h1 h3, h2, n, h3⟩
theorem PartAt.keeps {h h' : Heap} {v : Value} {es : List Ent} (K : KeptS h h') (x : PartAt h v es) : PartAt h' v es :=
  let ⟨a, vs, h1, h2, h3⟩ := x; ⟨a, vs, h1, IsList.keepsS K h2, Paired.imp (fun _ _ p => EntAt.keeps K.toT p) h3⟩
theorem PartsAt.keeps {h h' : Heap} {v : Value} {ess : List (List Ent)} (K : KeptS h h') (x : PartsAt h v ess) : PartsAt h' v ess :=
  let ⟨a, vs, h1, h2, h3⟩ := x; ⟨a, vs, h1, IsList.keepsS K h2, Paired.imp (fun _ _ p => PartAt.keeps K p) h3⟩
theorem Paired.length {α β : Type} {F : α → β → Prop} : ∀ {l₁ : List α} {l₂ : List β}, Paired F l₁ l₂ → l₁.length = l₂.length
  | _, _, .nil => rfl
  | _, _, .cons _ t => by rw [List.length_cons, List.length_cons, Paired.length t]
theorem Paired.mem {α β : Type} {F : α → β → Prop} {x : α} : ∀ {l₁ : List α} {l₂ : List β}, Paired F l₁ l₂ → x ∈ l₁ → ∃ y ∈ l₂, F x y
  | _, _, .cons h t, hx => by
    rcases List.mem_cons.mp hx with rfl | hx
    · exact ⟨_, List.mem_cons_self, h⟩
    · obtain ⟨y, h1, h2⟩ := Paired.mem t hx
      exact ⟨y, List.mem_cons_of_mem _ h1, h2⟩

/-- a namespace's object is no tuple and no list -/
theorem keptS_ns {h h' : Heap} {L : Addr} {m : Str → Option Value} (hn : h.Ns L m) (hs : Heap.SameBut L h h') : KeptS h h' := by
  intro b o xs n e c
  by_cases hb : b = L
  · subst hb
    obtain ⟨o', es, ep, h1, h2, _⟩ := hn
    rw [e] at h1
    cases h1
    rw [c] at h2
    cases h2
  · rw [hs.2 b hb]; exact e
theorem kept_push {h : Heap} {o : Obj} : Kept h (h.push o) := fun _ _ e => Heap.get?_push_of_some _ e

section
variable {prog : Program} {w : World} {A : Around} {E : Value → Shared → Prop} {s : Shared} {mg mb : Str → Option Value} {R : Result → Shared → Prop}

theorem ent_same {h : Heap} {v : Value} {e e' : Ent} {t1 t2 t3 t4 : Tok} {a : Addr} {o : Obj} {n : Nat} (hv : v = .ref a) (h1 : h.get? a = some o) (h2 : o.data = .seq (entVals e t1 t2 t3 t4) n) (he : EntAt h v e') :
    ∃ t1' t2' t3' t4', entVals e t1 t2 t3 t4 = entVals e' t1' t2' t3' t4' := by
  obtain ⟨a', o', n', u1, u2, u3, u4, rfl, k1, k2, k3⟩ := he
  cases hv
  rw [h1] at k1
  cases k1
  rw [h2] at k3
  injection k3 with k3 _
  exact ⟨u1, u2, u3, u4, k3⟩

/-- entry[k] in a comprehension's frame -/
theorem ent_item {scope : Scope} {C : Addr} {env : Env} {x : Str} {p1 p2 p3 : Pos} {kd : Nat} {m : Str → Option Value} {v : Value} {e : Ent} {k : Int} {Q : Value → Shared → Prop}
    (hn : s.heap.Ns C m) (hx : m x = some v) (he : EntAt s.heap v e) (hk : 0 ≤ k ∧ k < 4)
    (hq : ∀ y tk, (∀ e', EntAt s.heap v e' → ∃ t1 t2 t3 t4, y = (entVals e' t1 t2 t3 t4).getD k.toNat .none) → Q y { s with toks := tk })
    (hkind : scope.kind = .function := by rfl) (hl : (compEnv scope C env).kindOf x = some .local := by rfl) (hd : (x == ("__debug__" : Str)) = false := by decide) :
    wpAny (model prog w) A (eval (.Subscript (.Name x p1) (.Constant (.int k) kd p2) p3) (compEnv scope C env)) Q E s := by
  obtain ⟨a, o, n, t1, t2, t3, t4, rfl, h1, h2, h3⟩ := he
  refine wpAny_Subscript_Constant_late (wpAny_Name (wpAny_loadName_local hkind hl hn hx (wpAny_Constant_int ?_)) hd)
  refine ⟨"tuple", "tuple.__getitem__", PySem.F.slot_tuple_getitem.lookup, typeIs_of_get h1 h2, ?_⟩
  have hk4 : k.toNat < (entVals e t1 t2 t3 t4).size := by show k.toNat < 4; omega
  refine getItem_tuple (items := entVals e t1 t2 t3 t4) (j := k.toNat) ⟨o, h1, h2, n, h3⟩ (by omega) (by omega) ?_ (Array.getElem?_eq_getElem hk4) ?_
  · unfold seqIndex?
    dsimp only
    have h4 : k < ((entVals e t1 t2 t3 t4).size : Int) := by show k < 4; omega
    rw [if_neg (show ¬ k < 0 by omega), if_pos (by simp [hk.1, h4])]
  · refine hq _ _ fun e' he' => ?_
    obtain ⟨u1, u2, u3, u4, hu⟩ := ent_same rfl h1 h3 he'
    refine ⟨u1, u2, u3, u4, ?_⟩
    rw [← hu]
    simp [Array.getD, hk4]

theorem col_paired {h : Heap} {isB : Bool} {k : Nat} {col : Ent → List Nat} (hc : ∀ e t1 t2 t3 t4, ∃ t, (entVals e t1 t2 t3 t4).getD k .none = mkV isB (col e) t) :
    ∀ {vs ys : List Value} {es : List Ent}, Paired (EntAt h) vs es → Paired (fun v y => ∀ e, EntAt h v e → ∃ t1 t2 t3 t4, y = (entVals e t1 t2 t3 t4).getD k .none) vs ys →
      ∃ ps : List (List Nat × Tok), ys = pVals isB ps ∧ ps.map (·.1) = es.map col
  | _, _, _, .nil, .nil => ⟨[], rfl, rfl⟩
  | _, _, _, .cons (b := e) h1 r1, .cons h2 r2 => by
    obtain ⟨ps, e1, e2⟩ := col_paired hc r1 r2
    obtain ⟨t1, t2, t3, t4, rfl⟩ := h2 _ h1
    obtain ⟨t, ht⟩ := hc e t1 t2 t3 t4
    refine ⟨(col e, t) :: ps, ?_, ?_⟩
    · rw [ht, e1]; rfl
    · rw [List.map_cons, e2]; rfl

/-- [entry[k] for entry in part] -/
theorem col_comp {name : Str} {scope cs : Scope} {L a : Addr} {cd : Value} {h₀ : Heap} {m : Str → Option Value} {p1 p2 p3 p4 p5 pos : Pos} {kd : Nat} {part x : Str} {v : Value} {es : List Ent} {isB : Bool} {k : Int} {col : Ent → List Nat} {Q : Value → Shared → Prop}
    (hh : A.handled = none) (F : Fr h₀ L s.heap m) (hm : m part = some v) (hv : PartAt s.heap v es) (hn : es.length ≤ 10000) (hk : 0 ≤ k ∧ k < 4)
    (hc : ∀ e t1 t2 t3 t4, ∃ t, (entVals e t1 t2 t3 t4).getD k.toNat .none = mkV isB (col e) t)
    (hq : ∀ D h' tk ps, ps.map (·.1) = es.map col → h'.IsList D (pVals isB ps).toArray → Kept s.heap h' → Q (.ref D) { s with heap := h', toks := tk })
    (hfree : ∀ y ∈ cs.names, y.2 ≠ .free := by decide) (hcell : ∀ y ∈ cs.names, y.2 ≠ .cell := by decide) (hkind : cs.kind = .function := by rfl)
    (hnames : ∀ y ∈ cs.names, y.2 = .local → cs.names.lookup y.1 = some .local := by decide) (hx : cs.names.lookup x = some .local := by rfl)
    (hkf : scope.kind = .function := by rfl) (hl : (envOf name scope L a cd).kindOf part = some .local := by rfl) (hd : (part == ("__debug__" : Str)) = false := by decide) (hd' : (x == ("__debug__" : Str)) = false := by decide) :
    wpAny (model prog w) A (eval (.ListComp (.Subscript (.Name x p1) (.Constant (.int k) kd p2) p3) [⟨.Name x p4, .Name part p5, [], 0⟩] cs pos) (envOf name scope L a cd)) Q E s := by
  obtain ⟨ax, vs, rfl, hl1, hp⟩ := hv
  refine wpAny_ListComp_map (fun _ => true) (fun v y => ∀ e, EntAt s.heap v e → ∃ t1 t2 t3 t4, y = (entVals e t1 t2 t3 t4).getD k.toNat .none) hh hfree hcell hkind hnames hx ?_ (by intro _; rfl)
  refine ld F hm ?_ hkf hl hd
  refine ⟨ax, vs.toArray, rfl, hl1, by have := Paired.length hp; rw [sizeLine_eq]; simp; omega, ?_, ?_, ?_⟩
  · intro C u s₂ m₂ E' _ _ _ hk₂
    exact wpAny_pure ⟨rfl, s₂.heap, s₂.toks, rfl, fun _ _ h => h⟩
  · intro C u s₂ m₂ E' hu _ hns hmx hk₂
    obtain ⟨e, _, he⟩ := Paired.mem hp (by simpa using hu)
    exact ent_item hns hmx (EntAt.keeps (Kept.toT hk₂) he) hk (fun y tk hy => ⟨fun e' he' => hy e' (EntAt.keeps (Kept.toT hk₂) he'), s₂.heap, tk, rfl, fun _ _ h => h⟩) hkind hx hd'
  · intro D h' tk ys hD hl2 hpair hk'
    have e : (vs.toArray.toList.filter fun _ => true) = vs := by simp
    rw [e] at hpair
    obtain ⟨ps, e1, e2⟩ := col_paired hc hp hpair
    refine hq D h' tk ps e2 ?_ hk'
    have : ys = (pVals isB ps).toArray := by rw [← e1]
    rw [← this]; exact hl2
end
end Mine

-- part Walk3
namespace Mine
open PySem PySem.Builtin PyProof.Rows

theorem plainAttrs_bytes : PlainAttrs "bytes" :=
  ⟨⟨"bytes.__getattribute__", by rw [typeLookup_type, builtinLookup_eq_fast]; kernel_rfl, by decide +kernel⟩, by rw [typeLookup_type, builtinLookup_eq_fast]; kernel_rfl⟩
theorem type_bjoin : typeOf (.builtin "bytes.join") = pure (.type "method_descriptor") := by show builtinType _ = _; rw [builtinType_eq_fast]; kernel_rfl

def txtVals (q f o : List Nat) (t1 t2 t3 : Tok) : Array Value := #[.str ⟨q.toArray⟩ t1, .str ⟨f.toArray⟩ t2, .bytes (o.map (·.toUInt8)).toArray t3]
def TxtAt (h : Heap) (v : Value) (q f o : List Nat) : Prop :=
  ∃ a ob n t1 t2 t3, v = .ref a ∧ h.get? a = some ob ∧ ob.cls = .type "tuple" ∧ ob.data = .seq (txtVals q f o t1 t2 t3) n

def qtOf (es : List Ent) : List Nat := (es.map Ent.qt).flatten
def fxOf (es : List Ent) : List Nat := (es.map Ent.fx).flatten
def ocOf (es : List Ent) : List Nat := (es.map Ent.oc).flatten

section
variable {prog : Program} {w : World} {A : Around} {E : Value → Shared → Prop} {s : Shared} {mg mb : Str → Option Value} {R : Result → Shared → Prop}

theorem sjoin_call {a : Addr} {t : Tok} {x : Str} (hx : x = ⟨#[]⟩) {ps : List (List Nat × Tok)} {ls : List (List Nat)} {Q : Value → Shared → Prop} (hl : s.heap.IsList a (pVals false ps).toArray) (hp : ps.map (·.1) = ls) (hsz : ls.flatten.length ≤ 100000)
    (hq : ∀ t' k, Q (.str ⟨ls.flatten.toArray⟩ t') { s with toks := k }) : wpAny (model prog w) A (call (.builtin "str.join") [.str x t, .ref a]) Q E s := by
  subst hp hx
  exact join_spec (isB := false) hl (by rw [sizeLine_eq]; omega) hq
theorem bjoin_call {a : Addr} {t : Tok} {ps : List (List Nat × Tok)} {ls : List (List Nat)} {Q : Value → Shared → Prop} (hl : s.heap.IsList a (pVals true ps).toArray) (hp : ps.map (·.1) = ls) (hsz : ls.flatten.length ≤ 100000)
    (hq : ∀ t' k, Q (.bytes (ls.flatten.map (·.toUInt8)).toArray t') { s with toks := k }) : wpAny (model prog w) A (call (.builtin "bytes.join") [.bytes #[] t, .ref a]) Q E s := by
  subst hp
  exact join_spec (isB := true) hl (by rw [sizeLine_eq]; omega) hq

theorem sjoin_eval {env : Env} {x : Str} {k : Nat} {p apos pos : Pos} {e : Expr} {Q : Value → Shared → Prop}
    (h : wpAny (model prog w) A (eval e env) (fun v s₁ => wpAny (model prog w) A (call (.builtin "str.join") [.str x s.toks, v]) Q E s₁) E { s with toks := s.toks + 1 })
    (he : starEach [e] env = [(false, eval e env)] := by rfl) (hline : (apos.endLine == pos.line) = true := by rfl) :
    wpAny (model prog w) A (eval (.Call (.Attribute (.Constant (.str x) k p) "join" apos) [e] [] pos) env) Q E s := by
  refine wpAny_Call_method (T := "str") (id := "str.join") ?_ ?_ hline ?_ ?_ ?_ ?_
  · rfl
  · rw [he]; rfl
  · exact PySem.F.plainAttrs_str
  · exact PySem.F.slot_str_join
  · exact PySem.F.type_str_join
  · refine wpAny_Constant_str ⟨typeIs_str _ _ _, fun x hx => (nomatch hx), ?_⟩
    refine cw_builtin ?_ he (by rw [he]; rfl)
    refine spliced_more ?_ he
    exact wpAny_mono h (fun v s₁ h₁ => spliced_none h₁) fun _ _ h => h
theorem bjoin_eval {env : Env} {x : List UInt8} {k : Nat} {p apos pos : Pos} {e : Expr} {Q : Value → Shared → Prop}
    (h : wpAny (model prog w) A (eval e env) (fun v s₁ => wpAny (model prog w) A (call (.builtin "bytes.join") [.bytes x.toArray s.toks, v]) Q E s₁) E { s with toks := s.toks + 1 })
    (he : starEach [e] env = [(false, eval e env)] := by rfl) (hline : (apos.endLine == pos.line) = true := by rfl) :
    wpAny (model prog w) A (eval (.Call (.Attribute (.Constant (.bytes x) k p) "join" apos) [e] [] pos) env) Q E s := by
  refine wpAny_Call_method (T := "bytes") (id := "bytes.join") ?_ ?_ hline ?_ ?_ ?_ ?_
  · rfl
  · rw [he]; rfl
  · exact plainAttrs_bytes
  · exact slot_bjoin
  · exact type_bjoin
  · refine wpAny_Constant_bytes ⟨PySem.W.typeIs_bytes _ _ _, fun x hx => (nomatch hx), ?_⟩
    refine cw_builtin ?_ he (by rw [he]; rfl)
    refine spliced_more ?_ he
    exact wpAny_mono h (fun v s₁ h₁ => spliced_none h₁) fun _ _ h => h

theorem sNil : Str.ofString "" = ⟨#[]⟩ := by decide +kernel

set_option maxHeartbeats 4000000 in
theorem texts_spec {a : Addr} {v : Value} {es : List Ent} (G : GG mg mb s.heap) (F : FnIs s.heap a 11) (hroom : A.depth < recursionLimit) (hh : A.handled = none) (hv : PartAt s.heap v es)
    (hn : es.length ≤ 10000) (h1 : (qtOf es).length ≤ 50000) (h2 : (fxOf es).length ≤ 50000) (h3 : (ocOf es).length ≤ 50000)
    (hR : ∀ r h' tk, Kept s.heap h' → TxtAt h' r (qtOf es) (fxOf es) (ocOf es) → R (.ok (.ret r)) { s with heap := h', toks := tk }) :
    codeAny (model prog w) A (.call (.ref a) ⟨[v], []⟩) R s := by
  obtain ⟨o, pm, cd, doc, f1, f2, f3⟩ := F
  refine call_pos_ret hroom f1 f2 G.lim f3 (by rfl) (locs (by rfl)) (fun h₁ F₁ => ?_)
  refine wpAny_execs_cons ?_
  refine wpAny_Assign_Name ?_
  refine sjoin_eval ?_
  refine col_comp (isB := false) (col := Ent.qt) (es := es) hh F₁ (by rfl) (hv.keeps (Kept.toS F₁.keep)) hn (by decide) (fun e t1 t2 t3 t4 => ⟨t2, rfl⟩) ?_
  intro D₂ h₂ tk₂ ps₂ hp₂ hl₂ hk₂
  dsimp only
  refine sjoin_call sNil hl₂ hp₂ (by show (qtOf es).length ≤ _; omega) ?_
  intro t₃ tk₃
  have F₂ : Fr s.heap s.heap.objs.size h₂ _ := ⟨F₁.ns.keeps hk₂, fun b o e => hk₂ b o (F₁.keep b o e), F₁.above⟩
  refine st F₂ ?_
  intro h₃ F₃
  refine wpAny_execs_cons ?_
  refine wpAny_Assign_Name ?_
  refine sjoin_eval ?_
  refine col_comp (isB := false) (col := Ent.fx) (es := es) hh F₃ (by rfl) (hv.keeps (Kept.toS F₃.keep)) hn (by decide) (fun e t1 t2 t3 t4 => ⟨t3, rfl⟩) ?_
  intro D₄ h₄ tk₄ ps₄ hp₄ hl₄ hk₄
  dsimp only
  refine sjoin_call sNil hl₄ hp₄ (by show (fxOf es).length ≤ _; omega) ?_
  intro t₅ tk₅
  have F₄ : Fr s.heap s.heap.objs.size h₄ _ := ⟨F₃.ns.keeps hk₄, fun b o e => hk₄ b o (F₃.keep b o e), F₃.above⟩
  refine st F₄ ?_
  intro h₅ F₅
  refine wpAny_execs_cons ?_
  refine wpAny_Return_some ?_
  refine wpAny_Tuple ?_
  refine spliced_more ?_
  refine ld F₅ (by rfl) ?_
  refine spliced_more ?_
  refine ld F₅ (by rfl) ?_
  refine spliced_more ?_
  refine bjoin_eval ?_
  refine col_comp (isB := true) (col := Ent.oc) (es := es) hh F₅ (by rfl) (hv.keeps (Kept.toS F₅.keep)) hn (by decide) (fun e t1 t2 t3 t4 => ⟨t4, rfl⟩) ?_
  intro D₆ h₆ tk₆ ps₆ hp₆ hl₆ hk₆
  refine bjoin_call hl₆ hp₆ (by show (ocOf es).length ≤ _; omega) ?_
  intro t₇ tk₇
  refine spliced_none ⟨by show 3 ≤ sizeLine; decide, ?_⟩
  refine hR _ _ _ (fun b o e => kept_push b o (hk₆ b o (F₅.keep b o e))) ?_
  exact ⟨_, _, _, t₃, t₅, t₇, rfl, Heap.get?_push_size _ rfl, rfl, rfl⟩
end
end Mine

-- part Walk4
namespace Mine
open PySem PySem.Builtin PyProof.Rows

def NonDict (o : Obj) : Prop := ∀ es ep, o.data ≠ .dict es ep
def Fine (h h' : Heap) : Prop := ∀ b o, h.get? b = some o → NonDict o → h'.get? b = some o
def FineX (g : Addr) (h h' : Heap) : Prop := ∀ b o, b ≠ g → h.get? b = some o → NonDict o → h'.get? b = some o
theorem nonDict_seq {o : Obj} {xs : Array Value} {n : Nat} (h : o.data = .seq xs n) : NonDict o := fun es ep e => by rw [h] at e; cases e
theorem nonDict_fields {o : Obj} {xs : Array Value} (h : o.data = .fields xs) : NonDict o := fun es ep e => by rw [h] at e; cases e
theorem Fine.refl (h : Heap) : Fine h h := fun _ _ e _ => e
theorem Fine.trans {h h' h'' : Heap} (a : Fine h h') (b : Fine h' h'') : Fine h h'' := fun x o e n => b x o (a x o e n) n
theorem Fine.x {h h' : Heap} (a : Fine h h') (g : Addr) : FineX g h h' := fun x o _ e n => a x o e n
theorem FineX.trans {g : Addr} {h h' h'' : Heap} (a : FineX g h h') (b : FineX g h' h'') : FineX g h h'' := fun x o hx e n => b x o hx (a x o hx e n) n
theorem Kept.fine {h h' : Heap} (a : Kept h h') : Fine h h' := fun x o e _ => a x o e
theorem Fine.toS {h h' : Heap} (a : Fine h h') : KeptS h h' := fun b o _ _ e d => a b o e (nonDict_seq d)
theorem fine_ns {h h' : Heap} {L : Addr} {m : Str → Option Value} (hn : h.Ns L m) (hs : Heap.SameBut L h h') : Fine h h' := by
  intro b o e c
  by_cases hb : b = L
  · subst hb
    obtain ⟨o', es, ep, h1, h2, _⟩ := hn
    rw [e] at h1
    cases h1
    exact absurd h2 (c es ep)
  · rw [hs.2 b hb]; exact e
theorem EntAt.fineX {g : Addr} {h h' : Heap} {v : Value} {e : Ent} {ws : Array Value} (hg : PlainL h g ws) (K : FineX g h h') (x : EntAt h v e) : EntAt h' v e := by
  obtain ⟨a, o, n, t1, t2, t3, t4, h1, h2, h3, h4⟩ := x
  refine ⟨a, o, n, t1, t2, t3, t4, h1, K _ _ ?_ h2 (nonDict_seq h4), h3, h4⟩
  rintro rfl
  obtain ⟨o', n', g1, g2, _⟩ := hg
  rw [h2] at g1
  cases g1
  rw [h3] at g2
  exact absurd g2 (by decide)

section
variable {prog : Program} {w : World} {A : Around} {E : Value → Shared → Prop} {s : Shared} {mg mb : Str → Option Value} {R : Result → Shared → Prop}
  {name : Str} {scope : Scope} {L a : Addr} {cd : Value} {h₀ : Heap} {m : Str → Option Value}

theorem stF {x : Str} {v : Value} {Q : Unit → Shared → Prop} (F : Fr h₀ L s.heap m)
    (h : ∀ h', Fr h₀ L h' (fun y => if y = x then some v else m y) → Fine s.heap h' → Q () { s with heap := h', toks := s.toks + 1 })
    (hk : scope.kind = .function := by rfl) (hl : (envOf name scope L a cd).kindOf x = some .local := by rfl) :
    wpAny (model prog w) A (storeName (envOf name scope L a cd) x v) Q E s :=
  wpAny_storeName_local hl F.ns (fun h' hn hs => h h' (F.set hn hs) (fine_ns F.ns hs))
    (by show (scope.kind == .class || (scope.kind == .module && L != mainGlobals)) = false; rw [hk]; rfl)
theorem Fr.kept {h h' : Heap} (F : Fr h₀ L h m) (hk : Kept h h') : Fr h₀ L h' m := ⟨F.ns.keeps hk, fun b o e => hk b o (F.keep b o e), F.above⟩
/-- the frame stands when only an object off the base and off the frame turns -/
theorem Fr.off {h h' : Heap} {g : Addr} (F : Fr h₀ L h m) (hs : Heap.SameBut g h h') (hg : h₀.objs.size ≤ g) (hL : g ≠ L) : Fr h₀ L h' m :=
  ⟨F.ns.sameBut hs (Ne.symm hL), fun b o e => by rw [hs.2 b (Nat.ne_of_lt (Nat.lt_of_lt_of_le (Heap.lt_size e) hg))]; exact F.keep b o e, F.above⟩

theorem str_beq_list (x y : List Nat) : ((⟨x.toArray⟩ : Str) == ⟨y.toArray⟩) = decide (x = y) := by
  rw [Bool.eq_iff_iff, beq_iff_eq, decide_eq_true_iff, Str.mk.injEq]
  exact ⟨fun h => by simpa using h, fun h => by rw [h]⟩

/-- x == 'c' as a test -/
theorem t_eq {x c : Str} {k : Nat} {p1 p2 p3 : Pos} {whole : Sem Value} {l cl : List Nat} {t : Tok} {Q : Bool → Shared → Prop}
    (F : Fr h₀ L s.heap m) (hm : m x = some (.str ⟨l.toArray⟩ t)) (hc : c = ⟨cl.toArray⟩) (hq : Q (decide (l = cl)) { s with toks := s.toks + 1 })
    (hk : scope.kind = .function := by rfl) (hl : (envOf name scope L a cd).kindOf x = some .local := by rfl) (hd : (x == ("__debug__" : Str)) = false := by decide) :
    wpAny (model prog w) A (isTrue (.Compare (.Name x p1) [.Eq] [.Constant (.str c) k p2] p3) (envOf name scope L a cd) whole) Q E s := by
  refine wpAny_isTrue_Compare1 ?_
  refine ld F hm ?_ hk hl hd
  refine wpAny_Constant_str ?_
  refine eq_str ?_
  refine wpAny_truthy_bool ?_
  subst hc
  rw [str_beq_list]
  exact hq
/-- x != 'c' as a test -/
theorem t_ne {x c : Str} {k : Nat} {p1 p2 p3 : Pos} {whole : Sem Value} {l cl : List Nat} {t : Tok} {Q : Bool → Shared → Prop}
    (F : Fr h₀ L s.heap m) (hm : m x = some (.str ⟨l.toArray⟩ t)) (hc : c = ⟨cl.toArray⟩) (hq : Q (!decide (l = cl)) { s with toks := s.toks + 1 })
    (hk : scope.kind = .function := by rfl) (hl : (envOf name scope L a cd).kindOf x = some .local := by rfl) (hd : (x == ("__debug__" : Str)) = false := by decide) :
    wpAny (model prog w) A (isTrue (.Compare (.Name x p1) [.NotEq] [.Constant (.str c) k p2] p3) (envOf name scope L a cd) whole) Q E s := by
  refine wpAny_isTrue_Compare1 ?_
  refine ld F hm ?_ hk hl hd
  refine wpAny_Constant_str ?_
  refine ne_str ?_
  refine wpAny_truthy_bool ?_
  subst hc
  rw [bne, str_beq_list]
  exact hq

theorem eqAt_texts {A : Around} {s : Shared} {x y : List Nat} {t u : Tok} : SeqAt.EqAt A s (.str ⟨x.toArray⟩ t) (.str ⟨y.toArray⟩ u) (decide (x = y)) := by
  have h := SeqAt.EqAt.str_str (A := A) (s := s) ⟨x.toArray⟩ t ⟨y.toArray⟩ u
  rwa [str_beq_list] at h

/-- x in ('c1', 'c2', 'c3') as a test -/
theorem t_in3 {x c1 c2 c3 : Str} {k1 k2 k3 kt : Nat} {p1 p2 p3 p4 p5 p6 : Pos} {whole : Sem Value} {l l1 l2 l3 : List Nat} {t : Tok} {Q : Bool → Shared → Prop}
    (F : Fr h₀ L s.heap m) (hm : m x = some (.str ⟨l.toArray⟩ t)) (e1 : c1 = ⟨l1.toArray⟩) (e2 : c2 = ⟨l2.toArray⟩) (e3 : c3 = ⟨l3.toArray⟩)
    (hq : ∀ h' tk, Kept s.heap h' → Q (decide (l = l1 ∨ l = l2 ∨ l = l3)) { s with heap := h', toks := tk })
    (hk : scope.kind = .function := by rfl) (hl : (envOf name scope L a cd).kindOf x = some .local := by rfl) (hd : (x == ("__debug__" : Str)) = false := by decide) :
    wpAny (model prog w) A (isTrue (.Compare (.Name x p1) [.In] [.Tuple [.Constant (.str c1) k1 p2, .Constant (.str c2) k2 p3, .Constant (.str c3) k3 p4] kt p5] p6) (envOf name scope L a cd) whole) Q E s := by
  refine wpAny_isTrue_Compare1 ?_
  refine ld F hm ?_ hk hl hd
  refine wpAny_Tuple ?_
  refine spliced_more ?_
  refine wpAny_Constant_str ?_
  refine spliced_more ?_
  refine wpAny_Constant_str ?_
  refine spliced_more ?_
  refine wpAny_Constant_str ?_
  refine spliced_none ⟨by show 3 ≤ sizeLine; decide, ?_⟩
  subst e1 e2 e3
  refine SeqAt.in_tupleAt (items := #[.str ⟨l1.toArray⟩ s.toks, .str ⟨l2.toArray⟩ (s.toks + 1), .str ⟨l3.toArray⟩ (s.toks + 1 + 1)]) (fun y => match y with | .str y _ => y == ⟨l.toArray⟩ | _ => false) ⟨_, Heap.get?_push_size _ rfl, rfl, _, rfl⟩ ?_ ?_
  · intro y hy
    simp only [List.mem_toArray, List.mem_cons, List.not_mem_nil, or_false] at hy
    rcases hy with rfl | rfl | rfl <;> exact SeqAt.EqAt.str_str _ _ _ _
  · refine wpAny_truthy_bool ?_
    have := hq (s.heap.push { cls := .type "tuple", data := .seq #[.str ⟨l1.toArray⟩ s.toks, .str ⟨l2.toArray⟩ (s.toks + 1), .str ⟨l3.toArray⟩ (s.toks + 1 + 1)] }) (s.toks + 1 + 1 + 1) kept_push
    have e : decide (l = l1 ∨ l = l2 ∨ l = l3) = (#[Value.str ⟨l1.toArray⟩ s.toks, .str ⟨l2.toArray⟩ (s.toks + 1), .str ⟨l3.toArray⟩ (s.toks + 1 + 1)].any (fun y => match y with | .str y _ => y == ⟨l.toArray⟩ | _ => false)) := by
      simp only [List.any_toArray, List.any_cons, List.any_nil, Bool.or_false, str_beq_list]
      rw [Bool.eq_iff_iff]
      simp only [Bool.or_eq_true, decide_eq_true_iff]
      exact ⟨fun h => h.imp Eq.symm (Or.imp Eq.symm Eq.symm), fun h => h.imp Eq.symm (Or.imp Eq.symm Eq.symm)⟩
    rw [← e]
    exact this

theorem t_in2 {x c1 c2 : Str} {k1 k2 kt : Nat} {p1 p2 p3 p5 p6 : Pos} {whole : Sem Value} {l l1 l2 : List Nat} {t : Tok} {Q : Bool → Shared → Prop}
    (F : Fr h₀ L s.heap m) (hm : m x = some (.str ⟨l.toArray⟩ t)) (e1 : c1 = ⟨l1.toArray⟩) (e2 : c2 = ⟨l2.toArray⟩)
    (hq : ∀ h' tk, Kept s.heap h' → Q (decide (l = l1 ∨ l = l2)) { s with heap := h', toks := tk })
    (hk : scope.kind = .function := by rfl) (hl : (envOf name scope L a cd).kindOf x = some .local := by rfl) (hd : (x == ("__debug__" : Str)) = false := by decide) :
    wpAny (model prog w) A (isTrue (.Compare (.Name x p1) [.In] [.Tuple [.Constant (.str c1) k1 p2, .Constant (.str c2) k2 p3] kt p5] p6) (envOf name scope L a cd) whole) Q E s := by
  refine wpAny_isTrue_Compare1 ?_
  refine ld F hm ?_ hk hl hd
  refine wpAny_Tuple ?_
  refine spliced_more ?_
  refine wpAny_Constant_str ?_
  refine spliced_more ?_
  refine wpAny_Constant_str ?_
  refine spliced_none ⟨by show 2 ≤ sizeLine; decide, ?_⟩
  subst e1 e2
  refine SeqAt.in_tupleAt (items := #[.str ⟨l1.toArray⟩ s.toks, .str ⟨l2.toArray⟩ (s.toks + 1)]) (fun y => match y with | .str y _ => y == ⟨l.toArray⟩ | _ => false) ⟨_, Heap.get?_push_size _ rfl, rfl, _, rfl⟩ ?_ ?_
  · intro y hy
    simp only [List.mem_toArray, List.mem_cons, List.not_mem_nil, or_false] at hy
    rcases hy with rfl | rfl <;> exact SeqAt.EqAt.str_str _ _ _ _
  · refine wpAny_truthy_bool ?_
    have := hq (s.heap.push { cls := .type "tuple", data := .seq #[.str ⟨l1.toArray⟩ s.toks, .str ⟨l2.toArray⟩ (s.toks + 1)] }) (s.toks + 1 + 1) kept_push
    have e : decide (l = l1 ∨ l = l2) = (#[Value.str ⟨l1.toArray⟩ s.toks, .str ⟨l2.toArray⟩ (s.toks + 1)].any (fun y => match y with | .str y _ => y == ⟨l.toArray⟩ | _ => false)) := by
      simp only [List.any_toArray, List.any_cons, List.any_nil, Bool.or_false, str_beq_list]
      rw [Bool.eq_iff_iff]
      simp only [Bool.or_eq_true, decide_eq_true_iff]
      exact ⟨fun h => h.imp Eq.symm Eq.symm, fun h => h.imp Eq.symm Eq.symm⟩
    rw [← e]
    exact this

theorem noI_bytes_add : typeLookup (.type "bytes") (dunderI "add") = pure none := by rw [typeLookup_type, builtinLookup_eq_fast]; kernel_rfl
theorem iadd_bytes {b c : Array UInt8} {t u : Tok} {Q : Value → Shared → Prop} (hsz : b.size + c.size ≤ 16777216) (h : ∀ t' k, Q (.bytes (b ++ c) t') { s with toks := k }) :
    wpAny (model prog w) A (inplaceOp .Add (.bytes b t) (.bytes c u)) Q E s := by
  refine wpAny_inplaceOp_concat (PySem.W.typeIs_bytes s b t) (PySem.W.typeIs_bytes s c u) noI_bytes_add PySem.W.KBy.noFill_bytes_add PySem.W.KBy.seq_bytes_add ?_
  refine call_gives PySem.W.FB.slot_bytes_add (PySem.W.typeIs_bytes s b t) PySem.W.FB.entry_bytes_add (PySem.W.FB.args_bytes_add_2 _ _) (PySem.W.KBy.gives_bytes_add (PySem.W.KBy.tooLong_not hsz)) ?_
  split
  · rename_i hb
    have q := h u s.toks
    rw [Array.isEmpty_iff.mp hb, Array.empty_append] at q
    exact q
  · split
    · rename_i hc
      have q := h t s.toks
      rw [Array.isEmpty_iff.mp hc, Array.append_empty] at q
      exact q
    · refine ⟨?_, h _ _⟩
      rw [sizeLine_eq, Array.size_append]
      exact hsz
end
end Mine

-- part Walk5
namespace Mine
open PySem PySem.Builtin PyProof.Rows

def sentE (ah : List Nat) (e : Ent) : Ent where
  sg := e.sg
  qt := if e.sg = [13] ∨ e.sg = [10] then [13, 10] else if e.sg = [46] ∧ (ah = [13] ∨ ah = [10] ∨ ah = [13, 10]) then e.qt ++ [46] else e.qt
  fx := if e.sg = [13] ∨ e.sg = [10] then [13, 10] else e.fx
  oc := if e.sg = [46] ∧ (ah = [10] ∨ ah = [13, 10]) then e.oc ++ [46] else e.oc
def nextA (ah : List Nat) (e : Ent) : List Nat := if e.sg = [] then ah else e.sg
def sentL : List Nat → List Ent → List Ent
  | _, [] => []
  | ah, e :: es => sentE ah e :: sentL (nextA ah e) es
def crlfEnt : Ent := ⟨[13, 10], [13, 10], [13, 10], [13, 10]⟩
def sent (es : List Ent) : List Ent := if es.map Ent.sg = [[13], [10]] then [crlfEnt] else sentL [10] es

theorem sDot : Str.ofString "." = ⟨[46].toArray⟩ := by decide +kernel
theorem sCr : Str.ofString "\r" = ⟨[13].toArray⟩ := by decide +kernel
theorem sLf : Str.ofString "\n" = ⟨[10].toArray⟩ := by decide +kernel
theorem sCrLf : Str.ofString "\r\n" = ⟨[13, 10].toArray⟩ := by decide +kernel
theorem sEmpty : Str.ofString "" = ⟨([] : List Nat).toArray⟩ := by decide +kernel

structure SLoc (m : Str → Option Value) (sg qt fx oc ah : List Nat) (g : Addr) : Prop where
  sg : ∃ t, m "sign" = some (.str ⟨sg.toArray⟩ t)
  qt : ∃ t, m "quoted" = some (.str ⟨qt.toArray⟩ t)
  fx : ∃ t, m "fixed" = some (.str ⟨fx.toArray⟩ t)
  oc : ∃ t, m "octets" = some (.bytes (oc.map (·.toUInt8)).toArray t)
  ah : ∃ t, m "ahead" = some (.str ⟨ah.toArray⟩ t)
  g : m "grown" = some (.ref g)

section
variable {m : Str → Option Value} {sg qt fx oc ah : List Nat} {g : Addr}
theorem SLoc.setQ (S : SLoc m sg qt fx oc ah g) {q : List Nat} {t : Tok} : SLoc (fun y => if y = ("quoted" : Str) then some (.str ⟨q.toArray⟩ t) else m y) sg q fx oc ah g :=
  ⟨let ⟨u, h⟩ := S.sg; ⟨u, (if_neg (by decide)).trans h⟩, ⟨t, if_pos rfl⟩, let ⟨u, h⟩ := S.fx; ⟨u, (if_neg (by decide)).trans h⟩, let ⟨u, h⟩ := S.oc; ⟨u, (if_neg (by decide)).trans h⟩, let ⟨u, h⟩ := S.ah; ⟨u, (if_neg (by decide)).trans h⟩, (if_neg (by decide)).trans S.g⟩
theorem SLoc.setF (S : SLoc m sg qt fx oc ah g) {q : List Nat} {t : Tok} : SLoc (fun y => if y = ("fixed" : Str) then some (.str ⟨q.toArray⟩ t) else m y) sg qt q oc ah g :=
  ⟨let ⟨u, h⟩ := S.sg; ⟨u, (if_neg (by decide)).trans h⟩, let ⟨u, h⟩ := S.qt; ⟨u, (if_neg (by decide)).trans h⟩, ⟨t, if_pos rfl⟩, let ⟨u, h⟩ := S.oc; ⟨u, (if_neg (by decide)).trans h⟩, let ⟨u, h⟩ := S.ah; ⟨u, (if_neg (by decide)).trans h⟩, (if_neg (by decide)).trans S.g⟩
theorem SLoc.setO (S : SLoc m sg qt fx oc ah g) {q : List Nat} {t : Tok} : SLoc (fun y => if y = ("octets" : Str) then some (.bytes (q.map (·.toUInt8)).toArray t) else m y) sg qt fx q ah g :=
  ⟨let ⟨u, h⟩ := S.sg; ⟨u, (if_neg (by decide)).trans h⟩, let ⟨u, h⟩ := S.qt; ⟨u, (if_neg (by decide)).trans h⟩, let ⟨u, h⟩ := S.fx; ⟨u, (if_neg (by decide)).trans h⟩, ⟨t, if_pos rfl⟩, let ⟨u, h⟩ := S.ah; ⟨u, (if_neg (by decide)).trans h⟩, (if_neg (by decide)).trans S.g⟩
theorem SLoc.setA (S : SLoc m sg qt fx oc ah g) {q : List Nat} {t : Tok} : SLoc (fun y => if y = ("ahead" : Str) then some (.str ⟨q.toArray⟩ t) else m y) sg qt fx oc q g :=
  ⟨let ⟨u, h⟩ := S.sg; ⟨u, (if_neg (by decide)).trans h⟩, let ⟨u, h⟩ := S.qt; ⟨u, (if_neg (by decide)).trans h⟩, let ⟨u, h⟩ := S.fx; ⟨u, (if_neg (by decide)).trans h⟩, let ⟨u, h⟩ := S.oc; ⟨u, (if_neg (by decide)).trans h⟩, ⟨t, if_pos rfl⟩, (if_neg (by decide)).trans S.g⟩
end

section
variable {prog : Program} {w : World} {A : Around} {E : Value → Shared → Prop} {s : Shared} {L a : Addr} {cd : Value} {h₀ : Heap} {m : Str → Option Value} {sg qt fx oc ah : List Nat} {g : Addr} {Q : Flow → Shared → Prop}

theorem if_q {p1 p2 p3 p4 p5 p6 p7 p8 p9 p10 p11 p12 p13 p14 : Pos} {k1 k2 k3 k4 k5 k6 : Nat} (F : Fr h₀ L s.heap m) (S : SLoc m sg qt fx oc ah g) (hsz : qt.length ≤ 100000)
    (hq : ∀ h' tk m', Fr h₀ L h' m' → SLoc m' sg (if sg = [46] ∧ (ah = [13] ∨ ah = [10] ∨ ah = [13, 10]) then qt ++ [46] else qt) fx oc ah g → Fine s.heap h' → Q .next { s with heap := h', toks := tk }) :
    wpAny (model prog w) A (exec (.If (.BoolOp .And [.Compare (.Name "sign" p1) [.Eq] [.Constant (.str ".") k1 p2] p3, .Compare (.Name "ahead" p4) [.In] [.Tuple [.Constant (.str "\r") k2 p5, .Constant (.str "\n") k3 p6, .Constant (.str "\r\n") k4 p7] k5 p8] p9] p10)
      [.AugAssign (.Name "quoted" p11) .Add (.Constant (.str ".") k6 p12) p13] [] p14) (envOf (fName 10) (fScope 10) L a cd)) Q E s := by
  obtain ⟨t1, m1⟩ := S.sg
  obtain ⟨t2, m2⟩ := S.ah
  obtain ⟨t3, m3⟩ := S.qt
  refine wpAny_If ?_
  refine wpAny_isTrue_BoolOp ?_
  refine wpAny_allTrue_And_cons ?_
  refine t_eq F m1 sDot ?_
  by_cases c1 : sg = [46]
  · rw [if_pos (decide_eq_true c1)]
    refine wpAny_allTrue_And_cons ?_
    refine t_in3 (s := { s with toks := s.toks + 1 }) F m2 sCr sLf sCrLf ?_
    intro h₁ tk₁ hk₁
    by_cases c2 : ah = [13] ∨ ah = [10] ∨ ah = [13, 10]
    · rw [if_pos (decide_eq_true c2)]
      refine wpAny_allTrue_And_nil ?_
      rw [if_pos rfl]
      have F₁ := Fr.kept F hk₁
      refine wpAny_execs_cons ?_
      refine wpAny_AugAssign_Name ?_
      refine ldn F₁ m3 ?_
      refine wpAny_Constant_str ?_
      rw [sDot]
      refine iadd_str ?_ ?_
      · intro t' tk'
        refine stF F₁ ?_
        intro h₂ F₂ hf₂
        refine wpAny_execs_nil ?_
        refine hq h₂ _ _ F₂ ?_ (fun b o e n => hf₂ b o (hk₁ b o e) n)
        rw [if_pos ⟨c1, c2⟩]
        have := S.setQ (q := qt ++ [46]) (t := t')
        have e : (⟨(qt ++ [46]).toArray⟩ : Str) = ⟨qt.toArray⟩ ++ ⟨[46].toArray⟩ := by
          show _ = (⟨qt.toArray ++ [46].toArray⟩ : Str)
          simp
        rw [e] at this
        exact this
      · show (qt.toArray.size + 1) ≤ sizeLine
        rw [sizeLine_eq]; simp; omega
    · rw [if_neg (by simpa using c2)]
      rw [if_neg Bool.false_ne_true]
      refine wpAny_execs_nil ?_
      refine hq h₁ tk₁ m (Fr.kept F hk₁) ?_ (Kept.fine hk₁)
      rw [if_neg (fun h => c2 h.2)]
      exact S
  · rw [if_neg (by simpa using c1), if_neg Bool.false_ne_true]
    refine wpAny_execs_nil ?_
    refine hq s.heap _ m F ?_ (Fine.refl _)
    rw [if_neg (fun h => c1 h.1)]
    exact S

theorem if_o {p1 p2 p3 p4 p5 p6 p8 p9 p10 p11 p12 p13 p14 : Pos} {k1 k2 k3 k5 k6 : Nat} (F : Fr h₀ L s.heap m) (S : SLoc m sg qt fx oc ah g) (hsz : oc.length ≤ 100000)
    (hq : ∀ h' tk m', Fr h₀ L h' m' → SLoc m' sg qt fx (if sg = [46] ∧ (ah = [10] ∨ ah = [13, 10]) then oc ++ [46] else oc) ah g → Fine s.heap h' → Q .next { s with heap := h', toks := tk }) :
    wpAny (model prog w) A (exec (.If (.BoolOp .And [.Compare (.Name "sign" p1) [.Eq] [.Constant (.str ".") k1 p2] p3, .Compare (.Name "ahead" p4) [.In] [.Tuple [.Constant (.str "\n") k2 p5, .Constant (.str "\r\n") k3 p6] k5 p8] p9] p10)
      [.AugAssign (.Name "octets" p11) .Add (.Constant (.bytes [46]) k6 p12) p13] [] p14) (envOf (fName 10) (fScope 10) L a cd)) Q E s := by
  obtain ⟨t1, m1⟩ := S.sg
  obtain ⟨t2, m2⟩ := S.ah
  obtain ⟨t3, m3⟩ := S.oc
  refine wpAny_If ?_
  refine wpAny_isTrue_BoolOp ?_
  refine wpAny_allTrue_And_cons ?_
  refine t_eq F m1 sDot ?_
  by_cases c1 : sg = [46]
  · rw [if_pos (decide_eq_true c1)]
    refine wpAny_allTrue_And_cons ?_
    refine t_in2 (s := { s with toks := s.toks + 1 }) F m2 sLf sCrLf ?_
    intro h₁ tk₁ hk₁
    by_cases c2 : ah = [10] ∨ ah = [13, 10]
    · rw [if_pos (decide_eq_true c2)]
      refine wpAny_allTrue_And_nil ?_
      rw [if_pos rfl]
      have F₁ := Fr.kept F hk₁
      refine wpAny_execs_cons ?_
      refine wpAny_AugAssign_Name ?_
      refine ldn F₁ m3 ?_
      refine wpAny_Constant_bytes ?_
      refine iadd_bytes ?_ ?_
      · simp; omega
      · intro t' tk'
        refine stF F₁ ?_
        intro h₂ F₂ hf₂
        refine wpAny_execs_nil ?_
        refine hq h₂ _ _ F₂ ?_ (fun b o e n => hf₂ b o (hk₁ b o e) n)
        rw [if_pos ⟨c1, c2⟩]
        have := S.setO (q := oc ++ [46]) (t := t')
        have e : ((oc ++ [46]).map (fun (c : Nat) => c.toUInt8)).toArray = (oc.map (fun (c : Nat) => c.toUInt8)).toArray ++ [(46 : UInt8)].toArray := by
          rw [List.map_append]; simp
        rw [e] at this
        exact this
    · rw [if_neg (by simpa using c2)]
      rw [if_neg Bool.false_ne_true]
      refine wpAny_execs_nil ?_
      refine hq h₁ tk₁ m (Fr.kept F hk₁) ?_ (Kept.fine hk₁)
      rw [if_neg (fun h => c2 h.2)]
      exact S
  · rw [if_neg (by simpa using c1), if_neg Bool.false_ne_true]
    refine wpAny_execs_nil ?_
    refine hq s.heap _ m F ?_ (Fine.refl _)
    rw [if_neg (fun h => c1 h.1)]
    exact S

theorem if_e {p1 p2 p3 p4 p5 p6 p7 p8 p9 p10 p11 p12 p13 p14 : Pos} {k1 k2 k3 k4 : Nat} (F : Fr h₀ L s.heap m) (S : SLoc m sg qt fx oc ah g)
    (hq : ∀ h' tk m', Fr h₀ L h' m' → SLoc m' sg (if sg = [13] ∨ sg = [10] then [13, 10] else qt) (if sg = [13] ∨ sg = [10] then [13, 10] else fx) oc ah g → Fine s.heap h' → Q .next { s with heap := h', toks := tk }) :
    wpAny (model prog w) A (exec (.If (.BoolOp .Or [.Compare (.Name "sign" p1) [.Eq] [.Constant (.str "\r") k1 p2] p3, .Compare (.Name "sign" p4) [.Eq] [.Constant (.str "\n") k2 p5] p6] p7)
      [.Assign [.Name "quoted" p8] (.Constant (.str "\r\n") k3 p9) p10, .Assign [.Name "fixed" p11] (.Constant (.str "\r\n") k4 p12) p13] [] p14) (envOf (fName 10) (fScope 10) L a cd)) Q E s := by
  obtain ⟨t1, m1⟩ := S.sg
  have yes : ∀ s' : Shared, s'.heap = s.heap → (∃ tk, s' = { s with toks := tk }) → (sg = [13] ∨ sg = [10]) → wpAny (model prog w) A (execs [.Assign [.Name "quoted" p8] (.Constant (.str "\r\n") k3 p9) p10, .Assign [.Name "fixed" p11] (.Constant (.str "\r\n") k4 p12) p13] (envOf (fName 10) (fScope 10) L a cd)) Q E s' := by
    rintro s' - ⟨tk, rfl⟩ c
    refine wpAny_execs_cons ?_
    refine wpAny_Assign_Name ?_
    refine wpAny_Constant_str ?_
    rw [sCrLf]
    refine stF (s := { s with toks := tk + 1 }) F ?_
    intro h₁ F₁ hf₁
    refine wpAny_execs_cons ?_
    refine wpAny_Assign_Name ?_
    refine wpAny_Constant_str ?_
    refine stF (s := { s with heap := h₁, toks := tk + 1 + 1 + 1 }) F₁ ?_
    intro h₂ F₂ hf₂
    refine wpAny_execs_nil ?_
    refine hq h₂ _ _ F₂ ?_ (Fine.trans hf₁ hf₂)
    rw [if_pos c, if_pos c]
    exact (S.setQ (q := [13, 10])).setF (q := [13, 10])
  refine wpAny_If ?_
  refine wpAny_isTrue_BoolOp ?_
  refine wpAny_allTrue_Or_cons ?_
  refine t_eq F m1 sCr ?_
  by_cases c1 : sg = [13]
  · rw [if_pos (decide_eq_true c1), if_pos rfl]
    exact yes _ rfl ⟨_, rfl⟩ (.inl c1)
  · rw [if_neg (by simpa using c1)]
    refine wpAny_allTrue_Or_cons ?_
    refine t_eq (s := { s with toks := s.toks + 1 }) F m1 sLf ?_
    by_cases c2 : sg = [10]
    · rw [if_pos (decide_eq_true c2), if_pos rfl]
      exact yes _ rfl ⟨_, rfl⟩ (.inr c2)
    · rw [if_neg (by simpa using c2)]
      refine wpAny_allTrue_Or_nil ?_
      rw [if_neg Bool.false_ne_true]
      refine wpAny_execs_nil ?_
      refine hq s.heap _ m F ?_ (Fine.refl _)
      rw [if_neg (fun h => h.elim c1 c2), if_neg (fun h => h.elim c1 c2)]
      exact S

theorem if_a {p1 p2 p3 p4 p5 p6 p7 : Pos} {k1 : Nat} (F : Fr h₀ L s.heap m) (S : SLoc m sg qt fx oc ah g)
    (hq : ∀ h' tk m', Fr h₀ L h' m' → SLoc m' sg qt fx oc (if sg = [] then ah else sg) g → Fine s.heap h' → Q .next { s with heap := h', toks := tk }) :
    wpAny (model prog w) A (exec (.If (.Compare (.Name "sign" p1) [.NotEq] [.Constant (.str "") k1 p2] p3) [.Assign [.Name "ahead" p4] (.Name "sign" p5) p6] [] p7) (envOf (fName 10) (fScope 10) L a cd)) Q E s := by
  obtain ⟨t1, m1⟩ := S.sg
  refine wpAny_If ?_
  refine t_ne F m1 sEmpty ?_
  by_cases c1 : sg = []
  · rw [if_neg (by simp [c1])]
    refine wpAny_execs_nil ?_
    refine hq s.heap _ m F ?_ (Fine.refl _)
    rw [if_pos c1]
    exact S
  · rw [if_pos (by simp [c1])]
    refine wpAny_execs_cons ?_
    refine wpAny_Assign_Name ?_
    refine ld (s := { s with toks := s.toks + 1 }) F m1 ?_
    refine stF (s := { s with toks := s.toks + 1 }) F ?_
    intro h₁ F₁ hf₁
    refine wpAny_execs_nil ?_
    refine hq h₁ _ _ F₁ ?_ hf₁
    rw [if_neg c1]
    exact S.setA

theorem do_append {p1 p2 p3 p4 p5 p6 p7 p8 p9 : Pos} {k1 : Nat} {ws : List Value} (F : Fr h₀ L s.heap m) (S : SLoc m sg qt fx oc ah g) (hg : PlainL s.heap g ws.toArray) (hg0 : h₀.objs.size ≤ g) (hgL : g ≠ L) (hsz : ws.length ≤ 100000)
    (hline : (p2.endLine == p8.line) = true)
    (hq : ∀ h' tk v, Fr h₀ L h' m → PlainL h' g (ws ++ [v]).toArray → EntAt h' v ⟨sg, qt, fx, oc⟩ → FineX g s.heap h' → Q .next { s with heap := h', toks := tk }) :
    wpAny (model prog w) A (exec (.Expr (.Call (.Attribute (.Name "grown" p1) "append" p2) [.Tuple [.Name "sign" p3, .Name "quoted" p4, .Name "fixed" p5, .Name "octets" p6] k1 p7] [] p8) p9) (envOf (fName 10) (fScope 10) L a cd)) Q E s := by
  obtain ⟨t1, m1⟩ := S.sg
  obtain ⟨t2, m2⟩ := S.qt
  obtain ⟨t3, m3⟩ := S.fx
  obtain ⟨t4, m4⟩ := S.oc
  refine wpAny_Expr_any ?_
  refine wpAny_Call_append ?_ ?_ hline ?_ ?_
  · rfl
  · rfl
  · rfl
  refine ld F S.g ?_
  refine ⟨g, ws.toArray, rfl, hg, ?_⟩
  refine wpAny_Tuple ?_
  refine spliced_more ?_
  refine ld F m1 ?_
  refine spliced_more ?_
  refine ld F m2 ?_
  refine spliced_more ?_
  refine ld F m3 ?_
  refine spliced_more ?_
  refine ld F m4 ?_
  refine spliced_none ⟨by show 4 ≤ sizeLine; decide, ?_⟩
  refine list_append_plainL (hg.keeps kept_push) ?_ (by rw [sizeLine_eq]; simp; omega)
  intro h₁ hg₁ hs₁
  have hfx : FineX g (s.heap.push { cls := .type "tuple", data := .seq [Value.str ⟨sg.toArray⟩ t1, Value.str ⟨qt.toArray⟩ t2, Value.str ⟨fx.toArray⟩ t3, Value.bytes (oc.map (·.toUInt8)).toArray t4].toArray }) h₁ := fun b o hb e _ => by rw [hs₁.2 b hb]; exact e
  refine hq h₁ s.toks (.ref s.heap.objs.size) (Fr.off (Fr.kept F kept_push) hs₁ hg0 hgL) ?_ ?_ ?_
  · rw [← List.push_toArray]; exact hg₁
  · refine EntAt.fineX (hg.keeps kept_push) hfx ?_
    exact ⟨_, _, _, t1, t2, t3, t4, rfl, Heap.get?_push_size _ rfl, rfl, rfl⟩
  · exact (Kept.fine kept_push |>.x g).trans hfx
end
end Mine

-- part Walk6
namespace Mine
open PySem PySem.Builtin PyProof.Rows

def sentFor : Stmt := (fBody 10).getD 3 default

theorem FineX.isList {g b : Addr} {h h' : Heap} {xs : Array Value} (K : FineX g h h') (hb : b ≠ g) (x : h.IsList b xs) : h'.IsList b xs :=
  let ⟨o, h1, h2, n, h3⟩ := x; ⟨o, K b o hb h1 (nonDict_seq h3), h2, n, h3⟩
theorem FineX.isIter {g b l : Addr} {i : Nat} {h h' : Heap} (K : FineX g h h') (hb : b ≠ g) (x : h.IsListIter b l i) : h'.IsListIter b l i :=
  let ⟨o, h1, h2, h3⟩ := x; ⟨o, K b o hb h1 (nonDict_fields h3), h2, h3⟩
theorem Fine.plainL {b : Addr} {h h' : Heap} {xs : Array Value} (K : Fine h h') (x : PlainL h b xs) : PlainL h' b xs :=
  let ⟨o, n, h1, h2, h3, h4⟩ := x; ⟨o, n, K b o h1 (nonDict_seq h4), h2, h3, h4⟩
theorem SameBut.fineX {I : Addr} {h h' : Heap} (hs : Heap.SameBut I h h') : FineX I h h' := fun b o hb e _ => by rw [hs.2 b hb]; exact e
theorem EntAt.iter {I l : Addr} {i : Nat} {h h' : Heap} {v : Value} {e : Ent} (hI : h.IsListIter I l i) (K : FineX I h h') (x : EntAt h v e) : EntAt h' v e := by
  obtain ⟨a, o, n, t1, t2, t3, t4, h1, h2, h3, h4⟩ := x
  refine ⟨a, o, n, t1, t2, t3, t4, h1, K _ _ ?_ h2 (nonDict_seq h4), h3, h4⟩
  rintro rfl
  obtain ⟨o', g1, g2, _⟩ := hI
  rw [h2] at g1
  cases g1
  rw [h3] at g2
  exact absurd g2 (by decide)

theorem Paired.get {α β : Type} {F : α → β → Prop} : ∀ {l₁ : List α} {l₂ : List β} {i : Nat} {x : α}, Paired F l₁ l₂ → l₁[i]? = some x → ∃ y, l₂[i]? = some y ∧ F x y
  | _, _, 0, _, .cons h t, e => by cases e; exact ⟨_, rfl, h⟩
  | _, _, i + 1, _, .cons h t, e => Paired.get (i := i) t e

section
variable {prog : Program} {w : World} {A : Around} {E : Value → Shared → Prop} {s : Shared} {L a : Addr} {cd : Value} {h₀ : Heap} {m : Str → Option Value} {Q : Flow → Shared → Prop}

/-- the targets of the loop -/
theorem assign4 {e : Ent} {g : Addr} {ah : List Nat} {t0 t1 t2 t3 t4 : Tok} {p1 p2 p3 p4 : Pos} {Q : Unit → Shared → Prop} (F : Fr h₀ L s.heap m) (hg : m "grown" = some (.ref g)) (ha : m "ahead" = some (.str ⟨ah.toArray⟩ t0))
    (hq : ∀ h' tk m', Fr h₀ L h' m' → SLoc m' e.sg e.qt e.fx e.oc ah g → Fine s.heap h' → Q () { s with heap := h', toks := tk }) :
    wpAny (model prog w) A (assignInOrder ((assignEach [.Name "sign" p1, .Name "quoted" p2, .Name "fixed" p3, .Name "octets" p4] (envOf (fName 10) (fScope 10) L a cd)).map (·.2)) (entVals e t1 t2 t3 t4).toList) Q E s := by
  refine wpAny_assignInOrder_more (t := assign (.Name "sign" p1) (envOf (fName 10) (fScope 10) L a cd)) ?_
  refine wpAny_assign_Name ?_
  refine stF F ?_
  intro h₁ F₁ f₁
  refine wpAny_assignInOrder_more (t := assign (.Name "quoted" p2) (envOf (fName 10) (fScope 10) L a cd)) ?_
  refine wpAny_assign_Name ?_
  refine stF (s := { s with heap := h₁, toks := s.toks + 1 }) F₁ ?_
  intro h₂ F₂ f₂
  refine wpAny_assignInOrder_more (t := assign (.Name "fixed" p3) (envOf (fName 10) (fScope 10) L a cd)) ?_
  refine wpAny_assign_Name ?_
  refine stF (s := { s with heap := h₂, toks := s.toks + 1 + 1 }) F₂ ?_
  intro h₃ F₃ f₃
  refine wpAny_assignInOrder_more (t := assign (.Name "octets" p4) (envOf (fName 10) (fScope 10) L a cd)) ?_
  refine wpAny_assign_Name ?_
  refine stF (s := { s with heap := h₃, toks := s.toks + 1 + 1 + 1 }) F₃ ?_
  intro h₄ F₄ f₄
  refine wpAny_assignInOrder_none ?_
  refine hq h₄ _ _ F₄ ?_ (((f₁.trans f₂).trans f₃).trans f₄)
  refine ⟨⟨t1, ?_⟩, ⟨t2, ?_⟩, ⟨t3, ?_⟩, ⟨t4, ?_⟩, ⟨t0, ?_⟩, ?_⟩
  · rw [if_neg (by decide), if_neg (by decide), if_neg (by decide), if_pos rfl]
  · rw [if_neg (by decide), if_neg (by decide), if_pos rfl]
  · rw [if_neg (by decide), if_pos rfl]
  · rw [if_pos rfl]
  · rw [if_neg (by decide), if_neg (by decide), if_neg (by decide), if_neg (by decide)]; exact ha
  · rw [if_neg (by decide), if_neg (by decide), if_neg (by decide), if_neg (by decide)]; exact hg

/-- the body of the loop, once -/
theorem sent_turn {e : Ent} {g : Addr} {ah : List Nat} {ws : List Value} (F : Fr h₀ L s.heap m) (S : SLoc m e.sg e.qt e.fx e.oc ah g) (hg : PlainL s.heap g ws.toArray) (hg0 : h₀.objs.size ≤ g) (hgL : g ≠ L) (hsz : ws.length ≤ 10000)
    (h1 : e.qt.length ≤ 50000) (h3 : e.oc.length ≤ 50000)
    (hq : ∀ h' tk m' v, Fr h₀ L h' m' → m' "grown" = some (.ref g) → (∃ t, m' "ahead" = some (.str ⟨(nextA ah e).toArray⟩ t)) → PlainL h' g (ws ++ [v]).toArray → EntAt h' v (sentE ah e) → FineX g s.heap h' → Q .next { s with heap := h', toks := tk }) :
    wpAny (model prog w) A (execs (match sentFor with | .For _ _ b _ _ => b | _ => []) (envOf (fName 10) (fScope 10) L a cd)) Q E s := by
  refine wpAny_execs_cons ?_
  refine if_q F S (by omega) ?_
  intro h₁ tk₁ m₁ F₁ S₁ f₁
  refine wpAny_execs_cons ?_
  refine if_o (s := { s with heap := h₁, toks := tk₁ }) F₁ S₁ (by omega) ?_
  intro h₂ tk₂ m₂ F₂ S₂ f₂
  refine wpAny_execs_cons ?_
  refine if_e (s := { s with heap := h₂, toks := tk₂ }) F₂ S₂ ?_
  intro h₃ tk₃ m₃ F₃ S₃ f₃
  refine wpAny_execs_cons ?_
  have f03 : Fine s.heap h₃ := (Fine.trans f₁ f₂).trans f₃
  refine do_append (s := { s with heap := h₃, toks := tk₃ }) F₃ S₃ (f03.plainL hg) hg0 hgL (by omega) (by rfl) ?_
  intro h₄ tk₄ v F₄ hg₄ he₄ f₄
  refine wpAny_execs_cons ?_
  refine if_a (s := { s with heap := h₄, toks := tk₄ }) F₄ S₃ ?_
  intro h₅ tk₅ m₅ F₅ S₅ f₅
  refine wpAny_execs_nil ?_
  refine hq h₅ tk₅ m₅ v F₅ S₅.g S₅.ah (Fine.plainL f₅ hg₄) (EntAt.keeps (Fine.toS f₅).toT he₄) ?_
  exact ((f03.x g).trans f₄).trans (f₅.x g)

theorem sent_for {ax g : Addr} {vs : List Value} {es : List Ent} {t0 : Tok} (hh : A.handled = none) (F : Fr h₀ L s.heap m) (hp : m "part" = some (.ref ax)) (hgm : m "grown" = some (.ref g)) (ha : m "ahead" = some (.str ⟨[10].toArray⟩ t0))
    (hl : s.heap.IsList ax vs.toArray) (hax : ax < h₀.objs.size) (hv : Paired (EntAt s.heap) vs es) (hg : PlainL s.heap g #[]) (hg0 : h₀.objs.size ≤ g) (hgL : g ≠ L) (hn : es.length ≤ 10000)
    (hb : ∀ e ∈ es, e.qt.length ≤ 50000 ∧ e.oc.length ≤ 50000)
    (hq : ∀ h' tk m' ws, Fr h₀ L h' m' → m' "grown" = some (.ref g) → PlainL h' g ws.toArray → Paired (EntAt h') ws (sentL [10] es) → Q .next { s with heap := h', toks := tk }) :
    wpAny (model prog w) A (exec sentFor (envOf (fName 10) (fScope 10) L a cd)) Q E s := by
  have hlen := Paired.length hv
  refine wpAny_For ?_
  refine ld F hp ?_
  refine wpAny_pyIter_list hl ?_
  generalize hI : s.heap.objs.size = I
  have hLs : L < s.heap.objs.size := F.ns.lt
  have hI0 : h₀.objs.size ≤ I := hI ▸ Nat.le_trans F.above (Nat.le_of_lt hLs)
  have hIL : I ≠ L := hI ▸ Nat.ne_of_gt hLs
  have hIg : I ≠ g := by obtain ⟨o, n, e, _⟩ := id hg; exact hI ▸ Nat.ne_of_gt (Heap.lt_size e)
  have hIa : ax ≠ I := by obtain ⟨o, e, _⟩ := id hl; exact hI ▸ Nat.ne_of_lt (Heap.lt_size e)
  have hag : ax ≠ g := Nat.ne_of_lt (Nat.lt_of_lt_of_le hax hg0)
  refine codeAny_forLoop_any (fun n s' => ∃ h tk m ah ws i done, s' = { s with heap := h, toks := tk } ∧ n = vs.length - i ∧ i ≤ vs.length ∧ Fr h₀ L h m ∧ m "grown" = some (.ref g) ∧ (∃ t, m "ahead" = some (.str ⟨ah.toArray⟩ t)) ∧
    h.IsListIter I ax i ∧ h.IsList ax vs.toArray ∧ Paired (EntAt h) vs es ∧ PlainL h g ws.toArray ∧ ws.length = i ∧ Paired (EntAt h) ws done ∧ done ++ sentL ah (es.drop i) = sentL [10] es) ?_ vs.length ?_
  · rintro n s' ⟨h, tk, m, ah, ws, i, done, rfl, rfl, hi, F, hgm, ⟨t, ha⟩, hit, hl, hv, hg, hwl, hws, hd⟩
    rcases Nat.lt_or_ge i vs.length with hlt | hge
    · have hx : vs.toArray[i]? = some vs[i] := by simp [hlt]
      refine wpAny_pyNext_list_item (s := { s with heap := h, toks := tk }) hit hl hx ?_
      intro h₁ hit₁ hs₁
      dsimp only
      have fx₁ := SameBut.fineX hs₁
      have F₁ : Fr h₀ L h₁ m := Fr.off F hs₁ hI0 hIL
      have hl₁ := fx₁.isList hIa hl
      have hv₁ : Paired (EntAt h₁) vs es := Paired.imp (fun _ _ p => EntAt.iter hit fx₁ p) hv
      have hg₁ : PlainL h₁ g ws.toArray := by
        obtain ⟨o, n, e, r⟩ := hg
        exact ⟨o, n, fx₁ g o (Ne.symm hIg) e (nonDict_seq r.2.2), r⟩
      have hws₁ : Paired (EntAt h₁) ws done := Paired.imp (fun _ _ p => EntAt.iter hit fx₁ p) hws
      obtain ⟨e, he, hE⟩ := Paired.get hv₁ (List.getElem?_eq_getElem hlt)
      obtain ⟨T, oT, nT, t1, t2, t3, t4, hvT, hT1, hT2, hT3⟩ := id hE
      rw [hvT]
      refine wpAny_letOwnedTupleGo_listiter (s := { s with heap := h₁, toks := tk }) hit₁ ?_
      refine wpAny_assign_Tuple (s := { s with heap := h₁, toks := tk }) (items := entVals e t1 t2 t3 t4) hh ⟨oT, hT1, hT2, nT, hT3⟩ (by rfl) (by rfl) ?_
      intro h₂ hx₂
      have k₂ : Kept h₁ h₂ := fun b o e => hx₂ b o (Nat.ne_of_lt (Heap.lt_size e)) e
      refine assign4 (s := { s with heap := h₂, toks := tk }) (Fr.kept F₁ k₂) hgm ha ?_
      intro h₃ tk₃ m₃ F₃ S₃ f₃
      have f13 : Fine h₁ h₃ := (Kept.fine k₂).trans f₃
      refine sent_turn (s := { s with heap := h₃, toks := tk₃ }) F₃ S₃ (f13.plainL hg₁) hg0 hgL (by omega) ?_ ?_ ?_
      · exact (hb e (List.mem_of_getElem? he)).1
      · exact (hb e (List.mem_of_getElem? he)).2
      intro h₄ tk₄ m₄ v F₄ hgm₄ ha₄ hg₄ hv₄ fx₄
      have f14 : FineX g h₁ h₄ := (f13.x g).trans fx₄
      refine ⟨vs.length - (i + 1), by omega, h₄, tk₄, m₄, nextA ah e, ws ++ [v], i + 1, done ++ [sentE ah e], rfl, rfl, hlt, F₄, hgm₄, ha₄, ?_, ?_, ?_, hg₄, ?_, ?_, ?_⟩
      · exact f14.isIter hIg hit₁
      · exact f14.isList hag hl₁
      · exact Paired.imp (fun _ _ p => EntAt.fineX hg₁ f14 p) hv₁
      · simp [hwl]
      · exact Paired.snoc (Paired.imp (fun _ _ p => EntAt.fineX hg₁ f14 p) hws₁) hv₄
      · rw [← hd]
        have : es.drop i = e :: es.drop (i + 1) := by
          obtain ⟨hi', rfl⟩ := List.getElem?_eq_some_iff.mp he
          exact List.drop_eq_getElem_cons hi'
        rw [this, sentL]
        simp
    · have hx : vs.toArray[i]? = none := by simp; omega
      refine wpAny_pyNext_list_end (s := { s with heap := h, toks := tk }) hh hit hl hx ?_
      intro h₁ hs₁
      dsimp only
      refine wpAny_execs_nil ?_
      have fx₁ : FineX I h h₁ := fun b o hb e _ => hs₁ b o hb e
      refine hq h₁ tk m ws ?_ hgm ?_ ?_
      · refine ⟨?_, fun b o e => hs₁ b o ?_ (F.keep b o e), F.above⟩
        · obtain ⟨o, es, ep, e, r⟩ := F.ns
          exact ⟨o, es, ep, hs₁ L o (Ne.symm hIL) e, r⟩
        · exact Nat.ne_of_lt (Nat.lt_of_lt_of_le (Heap.lt_size e) hI0)
      · obtain ⟨o, n, e, r⟩ := hg
        exact ⟨o, n, fx₁ g o (Ne.symm hIg) e (nonDict_seq r.2.2), r⟩
      · have : es.drop i = [] := List.drop_eq_nil_of_le (by omega)
        rw [this, sentL, List.append_nil] at hd
        rw [← hd]
        exact Paired.imp (fun _ _ p => EntAt.iter hit fx₁ p) hws
  · refine ⟨_, s.toks, m, [10], [], 0, [], rfl, rfl, Nat.zero_le _, Fr.kept F kept_push, hgm, ⟨t0, ha⟩, ?_, ?_, ?_, ?_, rfl, .nil, rfl⟩
    · exact ⟨_, hI ▸ Heap.get?_push_size _ rfl, rfl, rfl⟩
    · exact hl.push _
    · exact Paired.imp (fun _ _ p => EntAt.keeps (Kept.toT kept_push) p) hv
    · exact hg.keeps kept_push
end
end Mine

-- part Walk7
namespace Mine
open PySem PySem.Builtin PyProof.Rows

section
variable {prog : Program} {w : World} {A : Around} {E : Value → Shared → Prop} {s : Shared} {mg mb : Str → Option Value} {R : Result → Shared → Prop}

theorem signs_eq {D D' : Addr} {ps : List (List Nat × Tok)} {ls : List (List Nat)} {u u' : Tok} {Q : Value → Shared → Prop} (hl : s.heap.IsList D (pVals false ps).toArray) (hp : ps.map (·.1) = ls)
    (hl' : s.heap.IsList D' #[.str ⟨[13].toArray⟩ u, .str ⟨[10].toArray⟩ u']) (hu : A.units < cLine) (hq : Q (.bool (decide (ls = [[13], [10]]))) s) :
    wpAny (model prog w) A (compareOp .Eq (.ref D) (.ref D')) Q E s := by
  subst hp
  match ps, hl, hq with
  | [p, q], hl, hq =>
    have e : ((List.range 2).all fun j => match j with | 0 => decide (p.1 = [13]) | _ => decide (q.1 = [10])) = decide (List.map (·.1) [p, q] = [[13], [10]]) := by
      rw [Bool.eq_iff_iff]
      simp [List.range, List.range.loop]
    refine SeqAt.eq_listAt (e := fun j => match j with | 0 => decide (p.1 = [13]) | _ => decide (q.1 = [10])) hl hl' (by rfl) hu ?_ ?_
    · intro j h1 h2
      match j, h1, h2 with
      | 0, _, _ => exact eqAt_texts
      | 1, _, _ => exact eqAt_texts
      | j + 2, _, h2 => exact absurd h2 (by simp)
    · rw [← e] at hq
      exact hq
  | [], hl, hq => exact SeqAt.eq_list_lengthsAt hl hl' (by rfl) hu (by simpa using hq)
  | [p], hl, hq => exact SeqAt.eq_list_lengthsAt hl hl' (by rfl) hu (by simpa using hq)
  | p :: q :: r :: rs, hl, hq =>
    refine SeqAt.eq_list_lengthsAt hl hl' (by simp [pVals]) hu ?_
    have : decide (List.map (·.1) (p :: q :: r :: rs) = [[13], [10]]) = false := by simp
    rw [this] at hq
    exact hq

set_option maxHeartbeats 1000000 in
theorem sent_spec {a : Addr} {v : Value} {es : List Ent} (G : GG mg mb s.heap) (F : FnIs s.heap a 10) (hroom : A.depth < recursionLimit) (hh : A.handled = none) (hu : A.units + 10 < cLine) (hv : PartAt s.heap v es)
    (hn : es.length ≤ 10000) (hb : ∀ e ∈ es, e.qt.length ≤ 50000 ∧ e.oc.length ≤ 50000)
    (hR : ∀ r h' tk, Kept s.heap h' → PartAt h' r (sent es) → R (.ok (.ret r)) { s with heap := h', toks := tk }) :
    codeAny (model prog w) A (.call (.ref a) ⟨[v], []⟩) R s := by
  obtain ⟨o, pm, cd, doc, f1, f2, f3⟩ := F
  refine call_pos_ret hroom f1 f2 G.lim f3 (by rfl) (locs (by rfl)) (fun h₁ F₁ => ?_)
  refine wpAny_execs_cons ?_
  refine wpAny_If ?_
  refine wpAny_isTrue_Compare1 ?_
  refine col_comp (isB := false) (col := Ent.sg) (es := es) hh F₁ (by rfl) (hv.keeps (Kept.toS F₁.keep)) hn (by decide) (fun e t1 t2 t3 t4 => ⟨t1, rfl⟩) ?_
  intro D₂ h₂ tk₂ ps₂ hp₂ hl₂ hk₂
  refine wpAny_List ?_
  refine spliced_more ?_
  refine wpAny_Constant_str ?_
  refine spliced_more ?_
  refine wpAny_Constant_str ?_
  refine spliced_none ⟨by show 2 ≤ sizeLine; decide, ?_⟩
  dsimp only
  have F₂ : Fr s.heap s.heap.objs.size h₂ _ := Fr.kept F₁ hk₂
  refine signs_eq (u := tk₂) (u' := tk₂ + 1) (hl₂.push _) hp₂ ?_ (by show A.units + 3 < cLine; omega) ?_
  · refine ⟨_, Heap.get?_push_size _ rfl, rfl, 0, ?_⟩
    rw [sCr, sLf]
  refine wpAny_truthy_bool ?_
  by_cases hc : es.map Ent.sg = [[13], [10]]
  · rw [if_pos (decide_eq_true hc)]
    refine wpAny_execs_cons ?_
    refine wpAny_Return_some ?_
    refine wpAny_List ?_
    refine spliced_more ?_
    refine wpAny_Tuple ?_
    refine spliced_more ?_
    refine wpAny_Constant_str ?_
    refine spliced_more ?_
    refine wpAny_Constant_str ?_
    refine spliced_more ?_
    refine wpAny_Constant_str ?_
    refine spliced_more ?_
    refine wpAny_Constant_bytes ?_
    refine spliced_none ⟨by show 4 ≤ sizeLine; decide, ?_⟩
    refine spliced_none ⟨by show 1 ≤ sizeLine; decide, ?_⟩
    dsimp only
    refine hR _ _ _ (fun b o e => kept_push b o (kept_push b o (kept_push b o (F₂.keep b o e)))) ?_
    unfold sent
    rw [if_pos hc]
    refine ⟨_, [_], rfl, ⟨_, Heap.get?_push_size _ rfl, rfl, 0, rfl⟩, .cons ?_ .nil⟩
    refine EntAt.keeps (Kept.toT kept_push) ?_
    refine ⟨_, _, 0, tk₂ + 1 + 1, tk₂ + 1 + 1 + 1, tk₂ + 1 + 1 + 1 + 1, tk₂ + 1 + 1 + 1 + 1 + 1, rfl, Heap.get?_push_size _ rfl, rfl, ?_⟩
    rw [sCrLf]
    rfl
  · rw [if_neg (by simpa using hc)]
    refine wpAny_execs_nil ?_
    refine wpAny_execs_cons ?_
    refine wpAny_Assign_Name ?_
    refine wpAny_List ?_
    refine spliced_none ⟨by show 0 ≤ sizeLine; decide, ?_⟩
    dsimp only
    obtain ⟨ax, vs, rfl, hl, hp⟩ := hv
    have hax : ax < s.heap.objs.size := by obtain ⟨o', e, _⟩ := hl; exact Heap.lt_size e
    generalize hH : h₂.push { cls := .type "list", data := .seq [Value.str (Str.ofString "\r") tk₂, Value.str (Str.ofString "\n") (tk₂ + 1)].toArray } = h₃
    have k₃ : Kept h₂ h₃ := hH ▸ kept_push
    have F₃ := Fr.kept F₂ k₃
    have hL3 : s.heap.objs.size < h₃.objs.size := F₃.ns.lt
    generalize hg : h₃.objs.size = g
    have hg0 : s.heap.objs.size ≤ g := hg ▸ Nat.le_of_lt hL3
    have hgL : g ≠ s.heap.objs.size := hg ▸ Nat.ne_of_gt hL3
    have hgp : PlainL (h₃.push { cls := .type "list", data := .seq ([] : List Value).toArray }) g #[] := ⟨_, 0, hg ▸ Heap.get?_push_size _ rfl, rfl, rfl, rfl⟩
    generalize hH4 : h₃.push { cls := .type "list", data := .seq ([] : List Value).toArray } = h₄ at hgp ⊢
    have k₄ : Kept h₃ h₄ := hH4 ▸ kept_push
    refine stF (s := { s with heap := h₄, toks := tk₂ + 1 + 1 }) (Fr.kept F₃ k₄) ?_
    intro h₅ F₅ f₅
    refine wpAny_execs_cons ?_
    refine wpAny_Assign_Name ?_
    refine wpAny_Constant_str ?_
    rw [sLf]
    dsimp only
    refine stF (s := { s with heap := h₅, toks := tk₂ + 1 + 1 + 1 + 1 }) F₅ ?_
    intro h₆ F₆ f₆
    refine wpAny_execs_cons ?_
    have f46 : Fine h₄ h₆ := Fine.trans f₅ f₆
    have kS : KeptS s.heap h₆ := (Kept.toS (fun b o e => k₄ b o (k₃ b o (F₂.keep b o e)))).trans f46.toS
    refine sent_for (s := { s with heap := h₆, toks := tk₂ + 1 + 1 + 1 + 1 + 1 }) (es := es) (vs := vs) (ax := ax) (g := g) (t0 := tk₂ + 1 + 1 + 1) hh F₆ (by rfl) (by rfl) (by rfl) (IsList.keepsS kS hl) hax ?_ (f46.plainL hgp) hg0 hgL hn hb ?_
    · exact Paired.imp (fun _ _ p => EntAt.keeps kS.toT p) hp
    · intro h₇ tk₇ m₇ ws F₇ hgm₇ hg₇ hw₇
      refine wpAny_execs_cons ?_
      refine wpAny_Return_some ?_
      refine ld (s := { s with heap := h₇, toks := tk₇ }) F₇ hgm₇ ?_
      refine hR _ h₇ tk₇ F₇.keep ?_
      unfold sent
      rw [if_neg hc]
      exact ⟨g, ws, rfl, hg₇.isList, hw₇⟩
end
end Mine

-- part Pure1
namespace Mine
open PySem

def dots (n : Nat) : List Nat := List.replicate n 46
inductive SentIs : Ent → Prop
  | dot (a b : Nat) : SentIs ⟨[46], dots (a + 1), [46], dots (b + 1)⟩
  | cr : SentIs ⟨[13], [13, 10], [13, 10], [13]⟩
  | lf : SentIs ⟨[10], [13, 10], [13, 10], [10]⟩
  | crlf : SentIs ⟨[13, 10], [13, 10], [13, 10], [13, 10]⟩
  | other (c : Nat) (h1 : c ≠ 46) (h2 : c ≠ 13) (h3 : c ≠ 10) (h4 : c < 256) : SentIs ⟨[c], [c], [c], [c]⟩
  | nil : SentIs ⟨[], [], [], []⟩
def freshCr : Ent := ⟨[13], [13], [13], [13]⟩
def freshLf : Ent := ⟨[10], [10], [10], [10]⟩
inductive Any : Ent → Prop
  | sent {e : Ent} (h : SentIs e) : Any e
  | cr : Any freshCr
  | lf : Any freshLf
def PartOk (es : List Ent) : Prop := (∃ e, es = [e] ∧ (SentIs e ∨ e = freshCr ∨ e = freshLf) ∧ e.sg ≠ [13, 10] ∧ (e.sg = [13] → e = freshCr) ∧ (e.sg = [10] → e = freshLf)) ∨ ((∀ e ∈ es, SentIs e) ∧ (2 ≤ es.length ∨ es = [crlfEnt]))

def Good : List Ent → Prop
  | [] => True
  | e :: r => Any e ∧ (e = freshCr → ∀ x ∈ r, x ≠ freshLf) ∧ Good r

theorem SentIs.ne_lf {e : Ent} (h : SentIs e) : e ≠ freshLf := by
  intro e'
  cases h <;> simp [freshLf] at e' <;> omega
theorem SentIs.ne_cr {e : Ent} (h : SentIs e) : e ≠ freshCr := by
  intro e'
  cases h <;> simp [freshCr] at e' <;> omega

theorem fx_dots (n : Nat) (r : List Nat) : ∀ b, fx b (dots (n + 1) ++ r) = dots (n + 1) ++ fx false r := by
  induction n with
  | zero => intro b; rfl
  | succ n ih =>
    intro b
    show fx b (46 :: (dots (n + 1) ++ r)) = 46 :: (dots (n + 1) ++ fx false r)
    rw [← ih false]; rfl
theorem qd_dots (n : Nat) (r : List Nat) (b : Bool) : qd b (dots (n + 1) ++ r) = (if b = true then dots (n + 2) else dots (n + 1)) ++ qd false r := by
  have key : ∀ n, qd false (dots n ++ r) = dots n ++ qd false r := by
    intro n
    induction n with
    | zero => rfl
    | succ n ih =>
      show qd false (46 :: (dots n ++ r)) = 46 :: (dots n ++ qd false r)
      rw [← ih]; rfl
  cases b with
  | false => rw [if_neg Bool.false_ne_true]; exact key (n + 1)
  | true =>
    rw [if_pos rfl]
    show 46 :: 46 :: qd false (dots n ++ r) = 46 :: 46 :: (dots n ++ qd false r)
    rw [key]
theorem dots_snoc (n : Nat) : dots n ++ [46] = dots (n + 1) := by
  unfold dots; rw [List.replicate_succ']

/-- a text of entries none of which is an unsent feed begins with no feed -/
theorem fx_flag (f : Ent → List Nat) (hs : ∀ e, SentIs e → f e = [] ∨ ∃ c r, f e = c :: r ∧ c ≠ 10) (hc : ∃ c r, f freshCr = c :: r ∧ c ≠ 10) :
    ∀ (es : List Ent), Good es → (∀ x ∈ es, x ≠ freshLf) → fx true (es.map f).flatten = fx false (es.map f).flatten
  | [], _, _ => rfl
  | e :: r, hg, hn => by
    rw [List.map_cons, List.flatten_cons]
    have step : ∀ c l, f e = c :: l → c ≠ 10 → fx true (f e ++ (r.map f).flatten) = fx false (f e ++ (r.map f).flatten) := by
      intro c l h1 h2
      rw [h1, List.cons_append, fx_cons, fx_cons, if_neg h2, if_neg h2]
    obtain ⟨ha, _, hr⟩ := hg
    cases ha with
    | sent h =>
      rcases hs e h with h0 | ⟨c, l, h1, h2⟩
      · rw [h0]
        exact fx_flag f hs hc r hr (fun x hx => hn x (List.mem_cons_of_mem _ hx))
      · exact step c l h1 h2
    | cr =>
      obtain ⟨c, l, h1, h2⟩ := hc
      exact step c l h1 h2
    | lf => exact absurd rfl (hn _ List.mem_cons_self)

/-- fixing tells entry by entry -/
theorem fx_list (f f' : Ent → List Nat) (hs : ∀ e, SentIs e → ∀ r, fx false (f e ++ r) = f' e ++ fx false r) (hs0 : ∀ e, SentIs e → f e = [] ∨ ∃ c r, f e = c :: r ∧ c ≠ 10)
    (hc : f freshCr = [13] ∧ f' freshCr = [13, 10]) (hl : f freshLf = [10] ∧ f' freshLf = [13, 10]) :
    ∀ (es : List Ent), Good es → fx false (es.map f).flatten = (es.map f').flatten
  | [], _ => rfl
  | e :: r, hg => by
    rw [List.map_cons, List.flatten_cons, List.map_cons, List.flatten_cons]
    obtain ⟨ha, hcl, hr⟩ := hg
    have ih := fx_list f f' hs hs0 hc hl r hr
    cases ha with
    | sent h => rw [hs e h, ih]
    | cr =>
      rw [hc.1, hc.2]
      show 13 :: 10 :: fx true (r.map f).flatten = _
      rw [fx_flag f hs0 ⟨13, [], hc.1, by decide⟩ r hr (hcl rfl), ih]
      rfl
    | lf =>
      rw [hl.1, hl.2]
      show 13 :: 10 :: fx false (r.map f).flatten = _
      rw [ih]
      rfl

def qfix (e : Ent) : List Nat := if e.sg = [13] ∨ e.sg = [10] then [13, 10] else e.qt
def ffix (e : Ent) : List Nat := if e.sg = [13] ∨ e.sg = [10] then [13, 10] else e.fx

theorem fix_quoted (es : List Ent) (hg : Good es) : fx false (qtOf es) = (es.map qfix).flatten := by
  refine fx_list Ent.qt qfix ?_ ?_ ⟨rfl, rfl⟩ ⟨rfl, rfl⟩ es hg
  · intro e h r
    cases h with
    | dot a b => exact fx_dots a r false
    | cr => rfl
    | lf => rfl
    | crlf => rfl
    | other c h1 h2 h3 h4 =>
      have : qfix ⟨[c], [c], [c], [c]⟩ = [c] := by unfold qfix; rw [if_neg (by simp; omega)]
      rw [this]
      show fx false (c :: r) = c :: fx false r
      rw [fx_cons, if_neg h3, if_neg h2]
    | nil => rfl
  · intro e h
    cases h with
    | dot a b => exact .inr ⟨46, dots a, rfl, by decide⟩
    | cr => exact .inr ⟨13, [10], rfl, by decide⟩
    | lf => exact .inr ⟨13, [10], rfl, by decide⟩
    | crlf => exact .inr ⟨13, [10], rfl, by decide⟩
    | other c h1 h2 h3 h4 => exact .inr ⟨c, [], rfl, h3⟩
    | nil => exact .inl rfl

theorem fix_fixed (es : List Ent) (hg : Good es) : fx false (fxOf es) = (es.map ffix).flatten := by
  refine fx_list Ent.fx ffix ?_ ?_ ⟨rfl, rfl⟩ ⟨rfl, rfl⟩ es hg
  · intro e h r
    cases h with
    | dot a b => rfl
    | cr => rfl
    | lf => rfl
    | crlf => rfl
    | other c h1 h2 h3 h4 =>
      have : ffix ⟨[c], [c], [c], [c]⟩ = [c] := by unfold ffix; rw [if_neg (by simp; omega)]
      rw [this]
      show fx false (c :: r) = c :: fx false r
      rw [fx_cons, if_neg h3, if_neg h2]
    | nil => rfl
  · intro e h
    cases h with
    | dot a b => exact .inr ⟨46, [], rfl, by decide⟩
    | cr => exact .inr ⟨13, [10], rfl, by decide⟩
    | lf => exact .inr ⟨13, [10], rfl, by decide⟩
    | crlf => exact .inr ⟨13, [10], rfl, by decide⟩
    | other c h1 h2 h3 h4 => exact .inr ⟨c, [], rfl, h3⟩
    | nil => exact .inl rfl

theorem sent_fixed (ah : List Nat) (es : List Ent) : fxOf (sentL ah es) = (es.map ffix).flatten := by
  induction es generalizing ah with
  | nil => rfl
  | cons e r ih =>
    show (sentE ah e).fx ++ fxOf (sentL (nextA ah e) r) = ffix e ++ _
    rw [ih]; rfl

theorem quote_quoted (ah : List Nat) (es : List Ent) (hg : Good es) : qd (decide (ah = [13] ∨ ah = [10] ∨ ah = [13, 10])) (es.map qfix).flatten = qtOf (sentL ah es) := by
  induction es generalizing ah with
  | nil => rfl
  | cons e r ih =>
    obtain ⟨ha, _, hr⟩ := hg
    show qd _ (qfix e ++ (r.map qfix).flatten) = (sentE ah e).qt ++ qtOf (sentL (nextA ah e) r)
    rw [← ih (nextA ah e) hr]
    cases ha with
    | sent h =>
      cases h with
      | dot a b =>
        show qd _ (dots (a + 1) ++ _) = (if ([46] : List Nat) = [13] ∨ ([46] : List Nat) = [10] then [13, 10] else if ([46] : List Nat) = [46] ∧ (ah = [13] ∨ ah = [10] ∨ ah = [13, 10]) then dots (a + 1) ++ [46] else dots (a + 1)) ++ qd _ _
        rw [qd_dots, if_neg (show ¬ (([46] : List Nat) = [13] ∨ ([46] : List Nat) = [10]) by decide)]
        congr 1
        by_cases hA : ah = [13] ∨ ah = [10] ∨ ah = [13, 10]
        · rw [if_pos (by simpa using hA), if_pos ⟨rfl, hA⟩, dots_snoc]
        · rw [if_neg (by simpa using hA), if_neg (fun h => hA h.2)]
      | cr => rfl
      | lf => rfl
      | crlf => rfl
      | other c h1 h2 h3 h4 =>
        have e1 : qfix ⟨[c], [c], [c], [c]⟩ = [c] := by unfold qfix; rw [if_neg (by simp; omega)]
        have e2 : (sentE ah ⟨[c], [c], [c], [c]⟩).qt = [c] := by
          show (if _ ∨ _ then _ else if _ then _ else _) = _
          rw [if_neg (by simp; omega), if_neg (by simp; omega)]
        have e3 : nextA ah ⟨[c], [c], [c], [c]⟩ = [c] := rfl
        rw [e1, e2, e3]
        show qd _ (c :: _) = c :: qd _ _
        rw [qd_cons, if_neg (fun h => h1 h.1)]
        congr 2
        rw [Bool.eq_iff_iff]
        simp [h2, h3]
      | nil => rfl
    | cr => rfl
    | lf => rfl

theorem quote_octets (ah : List Nat) (es : List Ent) (hg : Good es) : qd (decide (ah = [10] ∨ ah = [13, 10])) (ocOf es) = ocOf (sentL ah es) := by
  induction es generalizing ah with
  | nil => rfl
  | cons e r ih =>
    obtain ⟨ha, _, hr⟩ := hg
    show qd _ (e.oc ++ ocOf r) = (sentE ah e).oc ++ ocOf (sentL (nextA ah e) r)
    rw [← ih (nextA ah e) hr]
    cases ha with
    | sent h =>
      cases h with
      | dot a b =>
        show qd _ (dots (b + 1) ++ _) = (if ([46] : List Nat) = [46] ∧ (ah = [10] ∨ ah = [13, 10]) then dots (b + 1) ++ [46] else dots (b + 1)) ++ qd _ _
        rw [qd_dots]
        congr 1
        by_cases hA : ah = [10] ∨ ah = [13, 10]
        · rw [if_pos (by simpa using hA), if_pos ⟨rfl, hA⟩, dots_snoc]
        · rw [if_neg (by simpa using hA), if_neg (fun h => hA h.2)]
      | cr => rfl
      | lf => rfl
      | crlf => rfl
      | other c h1 h2 h3 h4 =>
        have e2 : (sentE ah ⟨[c], [c], [c], [c]⟩).oc = [c] := by
          show (if _ then _ else _) = _
          rw [if_neg (by simp; omega)]
        have e3 : nextA ah ⟨[c], [c], [c], [c]⟩ = [c] := rfl
        rw [e2, e3]
        show qd _ (c :: _) = c :: qd _ _
        rw [qd_cons, if_neg (fun h => h1 h.1)]
        congr 2
        rw [Bool.eq_iff_iff]
        simp [h2, h3]
      | nil => rfl
    | cr => rfl
    | lf => rfl

theorem good_append_sent : ∀ (p : List Ent), (∀ e ∈ p, SentIs e) → ∀ q, Good q → Good (p ++ q)
  | [], _, _, h => h
  | e :: p, hp, q, h => ⟨.sent (hp e List.mem_cons_self), fun h' => absurd h' (hp e List.mem_cons_self).ne_cr, good_append_sent p (fun x hx => hp x (List.mem_cons_of_mem _ hx)) q h⟩
theorem good_sent (p : List Ent) (hp : ∀ e ∈ p, SentIs e) : Good p := by
  have := good_append_sent p hp [] trivial
  rwa [List.append_nil] at this
theorem any_of {e : Ent} (h : SentIs e ∨ e = freshCr ∨ e = freshLf) : Any e := by
  rcases h with h | rfl | rfl
  · exact .sent h
  · exact .cr
  · exact .lf

theorem good_two {p q : List Ent} (hp : PartOk p) (hq : PartOk q) (hn : (p ++ q).map Ent.sg ≠ [[13], [10]]) : Good (p ++ q) := by
  have hq' : Good q := by
    rcases hq with ⟨e, rfl, h, _⟩ | ⟨h, _⟩
    · exact ⟨any_of h, fun _ x hx => (nomatch hx), trivial⟩
    · exact good_sent q h
  rcases hp with ⟨e, rfl, h, _⟩ | ⟨h, _⟩
  · refine ⟨any_of h, ?_, hq'⟩
    rintro rfl x hx rfl
    rcases hq with ⟨e', rfl, h', _⟩ | ⟨h', _⟩
    · obtain rfl : freshLf = e' := by simpa using hx
      exact hn rfl
    · exact (h' _ hx).ne_lf rfl
  · exact good_append_sent p h q hq'

theorem pair_two {p q : List Ent} (hp : PartOk p) (hq : PartOk q) (hn : (p ++ q).map Ent.sg = [[13], [10]]) : p ++ q = [freshCr, freshLf] := by
  have one : ∀ {p : List Ent}, PartOk p → p ≠ [] := by
    rintro p (⟨e, rfl, _⟩ | ⟨_, h | rfl⟩)
    · simp
    · rintro rfl; simp at h
    · simp
  match p, q, hp, hq, hn with
  | [], _, hp, _, _ => exact absurd rfl (one hp)
  | _ :: _, [], _, hq, _ => exact absurd rfl (one hq)
  | [e1], [e2], hp, hq, hn =>
    have h1 : e1.sg = [13] := by simp at hn; exact hn.1
    have h2 : e2.sg = [10] := by simp at hn; exact hn.2
    have e1' : e1 = freshCr := by
      rcases hp with ⟨e, he, _, _, h, _⟩ | ⟨_, h | h⟩
      · cases he; exact h h1
      · simp at h
      · cases h; simp [crlfEnt] at h1
    have e2' : e2 = freshLf := by
      rcases hq with ⟨e, he, _, _, _, h⟩ | ⟨_, h | h⟩
      · cases he; exact h h2
      · simp at h
      · cases h; simp [crlfEnt] at h2
    rw [e1', e2']; rfl
  | [e1], _ :: _ :: _, _, _, hn => simp at hn
  | _ :: _ :: _, e :: q, _, _, hn => simp at hn

theorem sentE_is {ah : List Nat} {e : Ent} (h : Any e) : SentIs (sentE ah e) := by
  cases h with
  | sent h =>
    cases h with
    | dot a b =>
      have e1 : (sentE ah ⟨[46], dots (a + 1), [46], dots (b + 1)⟩) = ⟨[46], (if ah = [13] ∨ ah = [10] ∨ ah = [13, 10] then dots (a + 1 + 1) else dots (a + 1)), [46], (if ah = [10] ∨ ah = [13, 10] then dots (b + 1 + 1) else dots (b + 1))⟩ := by
        unfold sentE
        simp [dots_snoc]
      rw [e1]
      by_cases h1 : ah = [13] ∨ ah = [10] ∨ ah = [13, 10] <;> by_cases h2 : ah = [10] ∨ ah = [13, 10]
      · rw [if_pos h1, if_pos h2]; exact .dot _ _
      · rw [if_pos h1, if_neg h2]; exact .dot _ _
      · rw [if_neg h1, if_pos h2]; exact .dot _ _
      · rw [if_neg h1, if_neg h2]; exact .dot _ _
    | cr => exact .cr
    | lf => exact .lf
    | crlf => exact .crlf
    | other c h1 h2 h3 h4 =>
      have : sentE ah ⟨[c], [c], [c], [c]⟩ = ⟨[c], [c], [c], [c]⟩ := by
        unfold sentE
        simp [h1, h2, h3]
      rw [this]; exact .other c h1 h2 h3 h4
    | nil => exact .nil
  | cr => exact .cr
  | lf => exact .lf
theorem sentL_is : ∀ (ah : List Nat) (es : List Ent), Good es → ∀ e ∈ sentL ah es, SentIs e
  | _, [], _, e, he => nomatch he
  | ah, x :: r, hg, e, he => by
    rcases List.mem_cons.mp he with rfl | he
    · exact sentE_is hg.1
    · exact sentL_is _ r hg.2.2 e he
theorem sentL_length : ∀ (ah : List Nat) (es : List Ent), (sentL ah es).length = es.length
  | _, [] => rfl
  | ah, x :: r => by show _ + 1 = _ + 1; rw [sentL_length]

theorem partOk_length {p : List Ent} (hp : PartOk p) : 1 ≤ p.length := by
  rcases hp with ⟨e, rfl, _⟩ | ⟨_, h | rfl⟩
  · exact Nat.le_refl _
  · omega
  · exact Nat.le_refl _

theorem turn_pure {p q : List Ent} (hp : PartOk p) (hq : PartOk q) :
    qd true (fx false (qtOf (p ++ q))) = qtOf (sent (p ++ q)) ∧ fx false (fxOf (p ++ q)) = fxOf (sent (p ++ q)) ∧ qd true (ocOf (p ++ q)) = ocOf (sent (p ++ q)) ∧ PartOk (sent (p ++ q)) := by
  by_cases hn : (p ++ q).map Ent.sg = [[13], [10]]
  · rw [pair_two hp hq hn]
    refine ⟨rfl, rfl, rfl, .inr ⟨?_, .inr rfl⟩⟩
    intro e he
    have hs : sent [freshCr, freshLf] = [crlfEnt] := rfl
    rw [hs] at he
    obtain rfl : e = crlfEnt := by simpa using he
    exact .crlf
  · have hg := good_two hp hq hn
    unfold sent
    rw [if_neg hn]
    refine ⟨?_, ?_, ?_, .inr ⟨sentL_is _ _ hg, .inl ?_⟩⟩
    · rw [fix_quoted _ hg]
      exact quote_quoted [10] _ hg
    · rw [fix_fixed _ hg, sent_fixed]
    · exact quote_octets [10] _ hg
    · rw [sentL_length, List.length_append]
      have := partOk_length hp
      have := partOk_length hq
      omega
end Mine

-- part Walk8
namespace Mine
open PySem PySem.Builtin PyProof.Rows

def Bnd (B : Nat) (es : List Ent) : Prop := ∀ e ∈ es, e.qt.length ≤ B ∧ e.fx.length ≤ B ∧ e.oc.length ≤ B
theorem sentE_bnd {B : Nat} {ah : List Nat} {e : Ent} (hB : 2 ≤ B) (h : e.qt.length ≤ B ∧ e.fx.length ≤ B ∧ e.oc.length ≤ B) : (sentE ah e).qt.length ≤ B + 1 ∧ (sentE ah e).fx.length ≤ B + 1 ∧ (sentE ah e).oc.length ≤ B + 1 := by
  obtain ⟨h1, h2, h3⟩ := h
  unfold sentE
  refine ⟨?_, ?_, ?_⟩
  · dsimp only; split
    · show 2 ≤ B + 1; omega
    · split
      · rw [List.length_append]; show _ + 1 ≤ _; omega
      · omega
  · dsimp only; split
    · show 2 ≤ B + 1; omega
    · omega
  · dsimp only; split
    · rw [List.length_append]; show _ + 1 ≤ _; omega
    · omega
theorem sentL_bnd {B : Nat} (hB : 2 ≤ B) : ∀ (ah : List Nat) (es : List Ent), Bnd B es → Bnd (B + 1) (sentL ah es)
  | _, [], _, _, he => nomatch he
  | ah, e :: es, hb, x, hx => by
    rcases List.mem_cons.mp hx with rfl | hx
    · exact sentE_bnd hB (hb e List.mem_cons_self)
    · exact sentL_bnd hB _ es (fun y hy => hb y (List.mem_cons_of_mem _ hy)) x hx
theorem sent_bnd {B : Nat} (hB : 2 ≤ B) {es : List Ent} (h : Bnd B es) : Bnd (B + 1) (sent es) := by
  unfold sent
  split
  · intro e he
    obtain rfl : e = crlfEnt := by simpa using he
    exact ⟨by show 2 ≤ _; omega, by show 2 ≤ _; omega, by show 2 ≤ _; omega⟩
  · exact sentL_bnd hB _ _ h
theorem sent_length (es : List Ent) : (sent es).length ≤ es.length := by
  unfold sent
  split
  · rename_i h
    have := congrArg List.length h
    simp at this
    rw [this]; exact Nat.le_succ _
  · rw [sentL_length]; exact Nat.le_refl _
theorem flat_length {B : Nat} (f : Ent → List Nat) : ∀ (es : List Ent), (∀ e ∈ es, (f e).length ≤ B) → ((es.map f).flatten).length ≤ es.length * B
  | [], _ => Nat.zero_le _
  | e :: es, h => by
    have h1 := h e List.mem_cons_self
    have h2 := flat_length f es fun x hx => h x (List.mem_cons_of_mem _ hx)
    rw [List.map_cons, List.flatten_cons, List.length_append, List.length_cons, Nat.succ_mul]
    omega
theorem sentIs_oc {e : Ent} (h : SentIs e) : ∀ c ∈ e.oc, c < 256 := by
  cases h with
  | dot a b =>
    intro c hc
    have : c = 46 := List.eq_of_mem_replicate hc
    omega
  | cr => decide
  | lf => decide
  | crlf => decide
  | other c h1 h2 h3 h4 => intro x hx; obtain rfl : x = c := by simpa using hx
                           exact h4
  | nil => intro c hc; exact nomatch hc
theorem partOk_oc {es : List Ent} (h : PartOk es) : ∀ c ∈ ocOf es, c < 256 := by
  have key : ∀ es : List Ent, (∀ e ∈ es, ∀ c ∈ e.oc, c < 256) → ∀ c ∈ ocOf es, c < 256 := by
    intro es h c hc
    unfold ocOf at hc
    obtain ⟨l, hl, hc⟩ := List.mem_flatten.mp hc
    obtain ⟨e, he, rfl⟩ := List.mem_map.mp hl
    exact h e he c hc
  refine key es ?_
  rcases h with ⟨e, rfl, h | rfl | rfl, _⟩ | ⟨h, _⟩
  · intro x hx; obtain rfl : x = e := by simpa using hx
    exact sentIs_oc h
  · intro x hx; obtain rfl : x = freshCr := by simpa using hx
    decide
  · intro x hx; obtain rfl : x = freshLf := by simpa using hx
    decide
  · exact fun e he => sentIs_oc (h e he)

structure PInv (i : Nat) (ess : List (List Ent)) : Prop where
  ok : ∀ es ∈ ess, PartOk es ∧ Bnd (2 + i) es
  tot : (ess.map List.length).sum ≤ 16

def step (k : Nat) (ess : List (List Ent)) : List (List Ent) := ess.take k ++ [sent (ess.getD k [] ++ ess.getD (k + 1) [])] ++ ess.drop (k + 2)

theorem split_two {α : Type} {l : List α} {k : Nat} {d : α} (h : k + 1 < l.length) : l = l.take k ++ (l.getD k d :: l.getD (k + 1) d :: l.drop (k + 2)) := by
  have e1 : l.drop k = l.getD k d :: l.drop (k + 1) := by
    rw [List.drop_eq_getElem_cons (by omega)]; simp [List.getD, show k < l.length by omega]
  have e2 : l.drop (k + 1) = l.getD (k + 1) d :: l.drop (k + 2) := by
    rw [List.drop_eq_getElem_cons h]; simp [List.getD, h]
  rw [← e2, ← e1, List.take_append_drop]

theorem getD_mem {α : Type} {l : List α} {k : Nat} {d : α} (h : k < l.length) : l.getD k d ∈ l := by
  simp [List.getD, h]
theorem PInv.step {i k : Nat} {ess : List (List Ent)} (P : PInv i ess) (h : k + 1 < ess.length) : PInv (i + 1) (step k ess) ∧ (Mine.step k ess).length + 1 = ess.length := by
  have hs := split_two (d := []) h
  have hp := P.ok (ess.getD k []) (getD_mem (by omega))
  have hq := P.ok (ess.getD (k + 1) []) (getD_mem h)
  generalize hpe : ess.getD k [] = p at *
  generalize hqe : ess.getD (k + 1) [] = q at *
  have hok := (turn_pure hp.1 hq.1).2.2.2
  refine ⟨⟨?_, ?_⟩, ?_⟩
  · intro es hes
    unfold Mine.step at hes
    rw [hpe, hqe] at hes
    rcases List.mem_append.mp hes with hes | hes
    · rcases List.mem_append.mp hes with hes | hes
      · obtain ⟨h1, h2⟩ := P.ok es (List.mem_of_mem_take hes)
        exact ⟨h1, fun e he => by obtain ⟨a, b, c⟩ := h2 e he; exact ⟨by omega, by omega, by omega⟩⟩
      · obtain rfl : es = sent (p ++ q) := by simpa using hes
        refine ⟨hok, sent_bnd (B := 2 + i) (by omega) fun e he => ?_⟩
        rcases List.mem_append.mp he with he | he
        · exact hp.2 e he
        · exact hq.2 e he
    · obtain ⟨h1, h2⟩ := P.ok es (List.mem_of_mem_drop hes)
      exact ⟨h1, fun e he => by obtain ⟨a, b, c⟩ := h2 e he; exact ⟨by omega, by omega, by omega⟩⟩
  · have ht := P.tot
    rw [hs] at ht
    have hl := sent_length (p ++ q)
    unfold Mine.step
    rw [hpe, hqe]
    simp only [List.map_append, List.map_cons, List.map_nil, List.sum_append, List.sum_cons, List.sum_nil, List.length_append] at ht hl ⊢
    omega
  · unfold Mine.step
    simp
    omega
end Mine

-- part Walk9
namespace Mine
open PySem PySem.Builtin PyProof.Rows

section
variable {prog : Program} {w : World} {A : Around} {E : Value → Shared → Prop} {s : Shared} {mg mb : Str → Option Value}
  {name : Str} {scope : Scope} {L a : Addr} {cd : Value} {h₀ : Heap} {m : Str → Option Value}

theorem add_raw {l b : Addr} {vs ws : List Value} {Q : Value → Shared → Prop} (hl : s.heap.IsList l vs.toArray) (hb : s.heap.IsList b ws.toArray) (hsz : vs.length + ws.length ≤ 100000)
    (h : ∀ D h', h'.IsList D (vs ++ ws).toArray → Kept s.heap h' → Q (.ref D) { s with heap := h' }) :
    wpAny (model prog w) A (binaryOp .Add (.ref l) (.ref b)) Q E s := by
  obtain ⟨⟨cls, dd, data, sl⟩, ho, hc, n, hd⟩ := id hl
  obtain ⟨⟨cls2, dd2, data2, sl2⟩, ho2, hc2, n2, hd2⟩ := id hb
  simp only at hc hd hc2 hd2
  subst hc hd hc2 hd2
  have e : vs.toArray ++ ws.toArray = (vs ++ ws).toArray := by simp
  refine concat_meets ⟨_, ho, rfl⟩ ⟨_, ho2, rfl⟩ noFill_list_add seq_list_add PySem.F.slot_list_add PySem.F.entry_list_add (PySem.F.args_list_add_2 _ _) (list_addW l b vs.toArray ws.toArray n n2 dd dd2 sl sl2 (by rw [sizeLine_eq]; simp; omega)) ⟨ho, ho2, ?_⟩
  rw [e]
  exact h _ _ ⟨_, Heap.get?_push_size _ rfl, rfl, 0, rfl⟩ kept_push

theorem eqAt_bytes {A : Around} {s : Shared} {x y : Array UInt8} {t u : Tok} : SeqAt.EqAt A s (.bytes x t) (.bytes y u) (x.toList == y.toList) := fun prog w E Q h => by
  unfold eqBool
  refine wpAny_holding ?_
  refine wpAny_ite_split (fun hab => ?_) (fun _ => ?_)
  · have e : x = y := by have := eq_of_beq hab; injection this
    subst e
    exact wpAny_bind (wpAny_rule (wpAny_pure (by simpa using h)))
  · refine wpAny_bind ?_
    refine richCompare_gives (op := .Eq) (PySem.W.typeIs_bytes _ _ _) (PySem.W.typeIs_bytes _ _ _) PySem.W.FB.slot_bytes_eq PySem.W.FB.entry_bytes_eq (PySem.W.FB.args_bytes_eq_2 _ _) (PySem.W.gives_bytes_eq x y t u) (fun e => nomatch e) ?_
    exact wpAny_truthy_bool h

theorem pick_upto (vs : List Value) (y : Int) (h : 0 ≤ y) : slicePick vs.toArray none (some y) none = (vs.take y.toNat).toArray := by
  rw [PySem.W.kms_pick_eq]
  congr 1
  show (vs.drop 0).take ((if y < 0 then _ else min y.toNat vs.length) - 0) = _
  rw [if_neg (show ¬ y < 0 by omega), List.drop_zero, Nat.sub_zero]
  rcases Nat.le_total y.toNat vs.length with hle | hle
  · rw [Nat.min_eq_left hle]
  · rw [Nat.min_eq_right hle, List.take_length, List.take_of_length_le hle]
theorem pick_from (vs : List Value) (x : Int) (h : 0 ≤ x) : slicePick vs.toArray (some x) none none = (vs.drop x.toNat).toArray := by
  rw [PySem.W.kms_pick_eq]
  congr 1
  show (vs.drop (if x < 0 then _ else min x.toNat vs.length)).take (vs.length - (if x < 0 then _ else min x.toNat vs.length)) = _
  rw [if_neg (show ¬ x < 0 by omega), List.take_of_length_le (by rw [List.length_drop]; exact Nat.le_refl _)]
  rcases Nat.le_total x.toNat vs.length with hle | hle
  · rw [Nat.min_eq_left hle]
  · rw [Nat.min_eq_right hle, List.drop_length, List.drop_of_length_le hle]

/-- f(x) for a def f of the text's and a local x -/
theorem call1 {f x : Str} {pf px pos : Pos} {b : Addr} {i : Nat} {v : Value} {Q : Value → Shared → Prop} (F : Fr h₀ L s.heap m) (G : GG mg mb h₀) (hf : mg f = some (.ref b)) (hfn : FnIs h₀ b i) (hx : m x = some v)
    (hc : codeAny (model prog w) A (.call (.ref b) ⟨[v], []⟩) (fun r s' => match r with | .ok (.ret v) => Q v s' | .ok _ => False | .error e => E e s') s)
    (hk : scope.kind = .function := by rfl) (hkf : (envOf name scope L a cd).kindOf f = some .globalImplicit := by rfl) (hkx : (envOf name scope L a cd).kindOf x = some .local := by rfl)
    (hdf : (f == ("__debug__" : Str)) = false := by decide) (hdx : (x == ("__debug__" : Str)) = false := by decide) :
    wpAny (model prog w) A (eval (.Call (.Name f pf) [.Name x px] [] pos) (envOf name scope L a cd)) Q E s := by
  obtain ⟨o, pm, cd', doc, f1, f2, f3⟩ := hfn
  refine wpAny_Call_NameR ?_
  refine Calls.Name_function_global hk hkf ?_ hdf
  refine Calls.loadGlobal_global (G.keeps F.keep).g hf ?_
  refine cw_function (o := o) (fd := Calls.docDef (fName i) (fParams i) (fBody i) (fScope i) pm cd' doc) ?_
  refine spliced_more ?_
  refine ld F hx ?_ hk hkx hdx
  refine spliced_none ?_
  exact ⟨⟨F.keep _ _ f1, f2⟩, wpAny_call hc⟩
end
end Mine

-- part Walk10
namespace Mine
open PySem PySem.Builtin PyProof.Rows

def lawFor : Stmt := (fBody 12).getD 3 default
def lawLoop : List Stmt := match lawFor with | .For _ _ b _ _ => b | _ => []

theorem Paired.getD {F : Value → List Ent → Prop} {vs : List Value} {ess : List (List Ent)} {k : Nat} (h : Paired F vs ess) (hk : k < ess.length) : ∃ v, vs[k]? = some v ∧ F v (ess.getD k []) := by
  have hl := Paired.length h
  obtain ⟨y, h1, h2⟩ := Paired.get h (List.getElem?_eq_getElem (show k < vs.length by omega))
  refine ⟨_, List.getElem?_eq_getElem (show k < vs.length by omega), ?_⟩
  rw [List.getD, h1]; exact h2
theorem Paired.append {α β : Type} {F : α → β → Prop} {l₁ l₁' : List α} {l₂ l₂' : List β} : Paired F l₁ l₂ → Paired F l₁' l₂' → Paired F (l₁ ++ l₁') (l₂ ++ l₂')
  | .nil, h => h
  | .cons h t, h' => .cons h (Paired.append t h')
theorem Paired.take {α β : Type} {F : α → β → Prop} : ∀ {l₁ : List α} {l₂ : List β} (k : Nat), Paired F l₁ l₂ → Paired F (l₁.take k) (l₂.take k)
  | _, _, 0, _ => .nil
  | _, _, _ + 1, .nil => .nil
  | _, _, k + 1, .cons h t => .cons h (Paired.take k t)
theorem Paired.drop {α β : Type} {F : α → β → Prop} : ∀ {l₁ : List α} {l₂ : List β} (k : Nat), Paired F l₁ l₂ → Paired F (l₁.drop k) (l₂.drop k)
  | _, _, 0, h => h
  | _, _, _ + 1, .nil => .nil
  | _, _, k + 1, .cons _ t => Paired.drop k t

section
variable {prog : Program} {w : World} {A : Around} {E : Value → Shared → Prop} {s : Shared} {mg mb : Str → Option Value}
  {L a : Addr} {cd : Value} {h₀ : Heap} {m : Str → Option Value} {Q : Flow → Shared → Prop}

theorem assign3 {q f o : List Nat} {t1 t2 t3 : Tok} {p1 p2 p3 : Pos} {Q : Unit → Shared → Prop} {vk vp vw : Value} (F : Fr h₀ L s.heap m) (hk : m "k" = some vk) (hp : m "parts" = some vp) (hw : m "whole" = some vw)
    (hq : ∀ h' tk m', Fr h₀ L h' m' → m' "k" = some vk → m' "parts" = some vp → m' "whole" = some vw → (m' "text" = some (.str ⟨q.toArray⟩ t1) ∧ m' "lines" = some (.str ⟨f.toArray⟩ t2) ∧ m' "octets" = some (.bytes (o.map (·.toUInt8)).toArray t3)) →
      Fine s.heap h' → Q () { s with heap := h', toks := tk }) :
    wpAny (model prog w) A (assignInOrder ((assignEach [.Name "text" p1, .Name "lines" p2, .Name "octets" p3] (envOf (fName 12) (fScope 12) L a cd)).map (·.2)) (txtVals q f o t1 t2 t3).toList) Q E s := by
  refine wpAny_assignInOrder_more (t := assign (.Name "text" p1) (envOf (fName 12) (fScope 12) L a cd)) ?_
  refine wpAny_assign_Name ?_
  refine stF F ?_
  intro h₁ F₁ f₁
  refine wpAny_assignInOrder_more (t := assign (.Name "lines" p2) (envOf (fName 12) (fScope 12) L a cd)) ?_
  refine wpAny_assign_Name ?_
  refine stF (s := { s with heap := h₁, toks := s.toks + 1 }) F₁ ?_
  intro h₂ F₂ f₂
  refine wpAny_assignInOrder_more (t := assign (.Name "octets" p3) (envOf (fName 12) (fScope 12) L a cd)) ?_
  refine wpAny_assign_Name ?_
  refine stF (s := { s with heap := h₂, toks := s.toks + 1 + 1 }) F₂ ?_
  intro h₃ F₃ f₃
  refine wpAny_assignInOrder_none ?_
  refine hq h₃ _ _ F₃ ?_ ?_ ?_ ⟨?_, ?_, ?_⟩ ((f₁.trans f₂).trans f₃)
  · rw [if_neg (by decide), if_neg (by decide), if_neg (by decide)]; exact hk
  · rw [if_neg (by decide), if_neg (by decide), if_neg (by decide)]; exact hp
  · rw [if_neg (by decide), if_neg (by decide), if_neg (by decide)]; exact hw
  · rw [if_neg (by decide), if_neg (by decide), if_pos rfl]
  · rw [if_neg (by decide), if_pos rfl]
  · rw [if_pos rfl]

theorem ne_txts {v1 v2 : Value} {q f o : List Nat} {Q : Value → Shared → Prop} (hu : A.units < cLine) (h1 : TxtAt s.heap v1 q f o) (h2 : TxtAt s.heap v2 q f o) (hq : Q (.bool false) s) :
    wpAny (model prog w) A (compareOp .NotEq v1 v2) Q E s := by
  obtain ⟨a1, o1, n1, t1, t2, t3, rfl, e1, e2, e3⟩ := h1
  obtain ⟨a2, o2, n2, u1, u2, u3, rfl, g1, g2, g3⟩ := h2
  refine SeqAt.RcNeAt.tuples (items := txtVals q f o t1 t2 t3) (items2 := txtVals q f o u1 u2 u3) (e := fun _ => true) ⟨o1, e1, e2, n1, e3⟩ ⟨o2, g1, g2, n2, g3⟩ hu ?_ prog w E Q ?_
  · intro j h1 h2
    match j, h1, h2 with
    | 0, _, _ => have := eqAt_texts (A := A.in1) (s := s) (x := q) (y := q) (t := t1) (u := u1); rw [decide_eq_true rfl] at this; exact this
    | 1, _, _ => have := eqAt_texts (A := A.in1) (s := s) (x := f) (y := f) (t := t2) (u := u2); rw [decide_eq_true rfl] at this; exact this
    | 2, _, _ => have := eqAt_bytes (A := A.in1) (s := s) (x := (o.map (·.toUInt8)).toArray) (y := (o.map (·.toUInt8)).toArray) (t := t3) (u := u3); rw [beq_self_eq_true] at this; exact this
    | j + 3, h1, _ => exact absurd h1 (by show ¬ j + 3 < 3; omega)
  · exact hq

/-- x[:k] -/
theorem slice_upto {name : Str} {scope : Scope} {xn kn : Str} {p1 p2 p3 p4 : Pos} {ap : Addr} {vs : List Value} {k : Nat} {t : Tok} {Q : Value → Shared → Prop} (F : Fr h₀ L s.heap m) (hx : m xn = some (.ref ap)) (hk : m kn = some (.int (k : Int) t))
    (hl : s.heap.IsList ap vs.toArray) (hsz : vs.length ≤ 100000) (hq : ∀ D h', h'.IsList D (vs.take k).toArray → Kept s.heap h' → Q (.ref D) { s with heap := h' })
    (hkf : scope.kind = .function := by rfl) (hkx : (envOf name scope L a cd).kindOf xn = some .local := by rfl) (hkk : (envOf name scope L a cd).kindOf kn = some .local := by rfl)
    (hdx : (xn == ("__debug__" : Str)) = false := by decide) (hdk : (kn == ("__debug__" : Str)) = false := by decide) :
    wpAny (model prog w) A (eval (.Subscript (.Name xn p1) (.Slice none (some (.Name kn p2)) none p3) p4) (envOf name scope L a cd)) Q E s := by
  refine wpAny_Subscript_list_slice ?_
  refine ld F hx ?_ hkf hkx hdx
  refine wpAny_evalPart_none ?_
  refine wpAny_evalPart_some ?_
  refine ld F hk ?_ hkf hkk hdk
  refine ⟨ap, vs.toArray, none, some (k : Int), rfl, hl, by rw [sizeLine_eq]; simp; omega, .none, .int _ _, ?_⟩
  rw [pick_upto vs (k : Int) (by omega)]
  have e : s.heap.objs.size + 1 = (s.heap.push { cls := .type "slice", data := .fields #[Value.none, .int (k : Int) t, .none] }).objs.size := by rw [Heap.size_push]
  rw [e]
  exact hq _ _ ⟨_, Heap.get?_push_size _ rfl, rfl, 0, rfl⟩ fun b o h => kept_push b o (kept_push b o h)
/-- x[k + c:] -/
theorem slice_from {name : Str} {scope : Scope} {xn kn : Str} {p1 p2 p3 p4 p5 p6 : Pos} {kd c : Nat} {ap : Addr} {vs : List Value} {k : Nat} {t : Tok} {Q : Value → Shared → Prop} (F : Fr h₀ L s.heap m) (hx : m xn = some (.ref ap)) (hk : m kn = some (.int (k : Int) t))
    (hl : s.heap.IsList ap vs.toArray) (hsz : vs.length ≤ 100000) (hq : ∀ D h' tk, h'.IsList D (vs.drop (k + c)).toArray → Kept s.heap h' → Q (.ref D) { s with heap := h', toks := tk })
    (hkf : scope.kind = .function := by rfl) (hkx : (envOf name scope L a cd).kindOf xn = some .local := by rfl) (hkk : (envOf name scope L a cd).kindOf kn = some .local := by rfl)
    (hdx : (xn == ("__debug__" : Str)) = false := by decide) (hdk : (kn == ("__debug__" : Str)) = false := by decide) :
    wpAny (model prog w) A (eval (.Subscript (.Name xn p1) (.Slice (some (.BinOp (.Name kn p2) .Add (.Constant (.int (c : Int)) kd p3) p4)) none none p5) p6) (envOf name scope L a cd)) Q E s := by
  refine wpAny_Subscript_list_slice ?_
  refine ld F hx ?_ hkf hkx hdx
  refine wpAny_evalPart_some ?_
  refine wpAny_BinOp ?_
  refine ld F hk ?_ hkf hkk hdk
  refine wpAny_Constant_int ?_
  refine add_int ?_
  refine wpAny_evalPart_none ?_
  refine ⟨ap, vs.toArray, some ((k : Int) + (c : Int)), none, rfl, hl, by rw [sizeLine_eq]; simp; omega, .int _ _, .none, ?_⟩
  rw [pick_from vs ((k : Int) + (c : Int)) (by omega)]
  have e : s.heap.objs.size + 1 = (s.heap.push { cls := .type "slice", data := .fields #[Value.int ((k : Int) + (c : Int)) (s.toks + 1), Value.none, .none] }).objs.size := by rw [Heap.size_push]
  have e2 : ((k : Int) + (c : Int)).toNat = k + c := by omega
  dsimp only
  rw [e, e2]
  exact hq _ _ _ ⟨_, Heap.get?_push_size _ rfl, rfl, 0, rfl⟩ fun b o h => kept_push b o (kept_push b o h)

set_option maxHeartbeats 2000000 in
theorem law_turn {x : Int} {tx : Tok} {v : Value} {ess : List (List Ent)} {i : Nat} (G : GG mg mb h₀) (hroom : A.depth + 1 < recursionLimit) (hh : A.handled = none) (hu : A.units + 20 < cLine)
    (F : Fr h₀ L s.heap m) (hx : m "x" = some (.int x tx)) (hp : m "parts" = some v) (hv : PartsAt s.heap v ess) (hi : PInv i ess) (hi' : i ≤ 20) (hl2 : 2 ≤ ess.length) (hl16 : ess.length ≤ 16)
    (hq : ∀ h' tk m' v' ess', Fr h₀ L h' m' → m' "parts" = some v' → PartsAt h' v' ess' → PInv (i + 1) ess' → ess'.length + 1 = ess.length → Fine s.heap h' → Q .next { s with heap := h', toks := tk }) :
    wpAny (model prog w) A (execs lawLoop (envOf (fName 12) (fScope 12) L a cd)) Q E s := by
  obtain ⟨ap, vs, rfl, hlp, hvp⟩ := hv
  have hvl := Paired.length hvp
  -- k = x // 10 % (len(parts) - 1)
  refine wpAny_execs_cons ?_
  refine wpAny_Assign_Name ?_
  refine wpAny_BinOp ?_
  refine wpAny_BinOp ?_
  refine ld F hx ?_
  refine wpAny_Constant_int ?_
  refine floordiv_int (by decide) ?_
  refine wpAny_BinOp ?_
  refine wpAny_Call_NameR ?_
  refine Calls.Name_function_global (by rfl) (by rfl) ?_ (by decide)
  refine Calls.loadGlobal_builtin (G.keeps F.keep).g G.len.1 (G.keeps F.keep).b G.len.2 ?_
  refine cw_builtin ?_
  refine spliced_more ?_
  refine ld (s := { s with toks := s.toks + 1 + 1 }) F hp ?_
  refine spliced_none ?_
  refine len_list (s := { s with toks := s.toks + 1 + 1 }) hlp (by simp; omega) ?_
  refine wpAny_Constant_int ?_
  refine sub_int ?_
  refine mod_int (by simp; omega) ?_
  dsimp only
  have hn : ((vs.toArray.size : Nat) : Int) - 1 = ((vs.length - 1 : Nat) : Int) := by simp; omega
  have hK0 : 0 ≤ Int.fmod (x.fdiv 10) (↑vs.toArray.size - 1) := Int.fmod_nonneg_of_pos _ (by rw [hn]; omega)
  have hK1 : Int.fmod (x.fdiv 10) (↑vs.toArray.size - 1) < ((vs.length - 1 : Nat) : Int) := hn ▸ Int.fmod_lt_of_pos _ (by rw [hn]; omega)
  generalize Int.fmod (x.fdiv 10) (↑vs.toArray.size - 1) = K at hK0 hK1 ⊢
  obtain ⟨k, rfl⟩ : ∃ k : Nat, K = (k : Int) := ⟨K.toNat, by omega⟩
  have hk : k + 1 < ess.length := by omega
  refine stF (s := { s with toks := _ }) F ?_
  intro h₁ F₁ f₁
  obtain ⟨m₁, F₁, ⟨tkB, hk1⟩, hp1⟩ : ∃ m₁, Fr h₀ L h₁ m₁ ∧ (∃ t, m₁ "k" = some (.int (k : Int) t)) ∧ m₁ "parts" = some (.ref ap) := ⟨_, F₁, ⟨_, if_pos rfl⟩, (if_neg (by decide)).trans hp⟩
  have hl₁ := IsList.keepsS (Fine.toS f₁) hlp
  have hv₁ : Paired (PartAt h₁) vs ess := Paired.imp (fun _ _ p => PartAt.keeps (Fine.toS f₁) p) hvp
  obtain ⟨v1, hv1, hP1⟩ := Paired.getD hv₁ (show k < ess.length by omega)
  obtain ⟨v2, hv2, hP2⟩ := Paired.getD hv₁ hk
  obtain ⟨a1, ws1, rfl, hl1, hq1⟩ := hP1
  obtain ⟨a2, ws2, rfl, hl2', hq2⟩ := hP2
  have hpk := hi.ok _ (getD_mem (d := []) (show k < ess.length by omega))
  have hqk := hi.ok _ (getD_mem (d := []) hk)
  have hpure := turn_pure hpk.1 hqk.1
  have htot : (ess.getD k []).length + (ess.getD (k + 1) []).length ≤ 16 := by
    have ht := hi.tot
    rw [split_two (d := []) hk] at ht
    simp only [List.map_append, List.map_cons, List.sum_append, List.sum_cons] at ht
    omega
  have hstep := hi.step hk
  have hBnd : Bnd (2 + i) (ess.getD k [] ++ ess.getD (k + 1) []) := fun e he => (List.mem_append.mp he).elim (hpk.2 e) (hqk.2 e)
  have hOct : ∀ c ∈ ocOf (ess.getD k [] ++ ess.getD (k + 1) []), c < 256 := by
    intro c hc
    unfold ocOf at hc
    rw [List.map_append, List.flatten_append] at hc
    exact (List.mem_append.mp hc).elim (partOk_oc hpk.1 c) (partOk_oc hqk.1 c)
  -- whole = parts[k] + parts[k + 1]
  refine wpAny_execs_cons ?_
  refine wpAny_Assign_Name ?_
  refine wpAny_BinOp ?_
  refine wpAny_Subscript_Name_late ?_
  refine ld (s := { s with heap := h₁, toks := _ }) F₁ hp1 ?_
  refine ld (s := { s with heap := h₁, toks := _ }) F₁ hk1 ?_
  refine ⟨"list", "list.__getitem__", slot_list_getitem.lookup, hl₁.typeIs, ?_⟩
  refine wpAny_getItem_list (s := { s with heap := h₁, toks := _ }) hl₁ (by omega) (by omega) (by simpa using hv1) ?_
  refine wpAny_Subscript_BinOp_late ?_
  refine ld (s := { s with heap := h₁, toks := _ }) F₁ hp1 ?_
  refine wpAny_BinOp ?_
  refine ld (s := { s with heap := h₁, toks := _ }) F₁ hk1 ?_
  refine wpAny_Constant_int ?_
  refine add_int ?_
  refine ⟨"list", "list.__getitem__", slot_list_getitem.lookup, hl₁.typeIs, ?_⟩
  refine wpAny_getItem_list (s := { s with heap := h₁, toks := _ }) hl₁ (by omega) (by omega) (x := .ref a2) ?_ ?_
  · have : ((k : Int) + 1).toNat = k + 1 := by omega
    rw [this]; simpa using hv2
  have hlen1 := Paired.length hq1
  have hlen2 := Paired.length hq2
  refine add_raw (s := { s with heap := h₁, toks := _ }) hl1 hl2' (by omega) ?_
  intro D₂ h₂ hD₂ k₂
  dsimp only
  refine stF (s := { s with heap := h₂, toks := _ }) (Fr.kept F₁ k₂) ?_
  intro h₃ F₃ f₃
  obtain ⟨m₃, F₃, hk3, hp3, hw3⟩ : ∃ m₃, Fr h₀ L h₃ m₃ ∧ m₃ "k" = some (.int (k : Int) tkB) ∧ m₃ "parts" = some (.ref ap) ∧ m₃ "whole" = some (.ref D₂) := ⟨_, F₃, (if_neg (by decide)).trans hk1, (if_neg (by decide)).trans hp1, if_pos rfl⟩
  have f13 : Fine h₁ h₃ := (Kept.fine k₂).trans f₃
  have hW₃ : PartAt h₃ (.ref D₂) (ess.getD k [] ++ ess.getD (k + 1) []) := by
    refine PartAt.keeps (Fine.toS f₃) ⟨D₂, ws1 ++ ws2, rfl, hD₂, ?_⟩
    exact Paired.append (Paired.imp (fun _ _ p => EntAt.keeps (Kept.toT k₂) p) hq1) (Paired.imp (fun _ _ p => EntAt.keeps (Kept.toT k₂) p) hq2)
  have hWl : (ess.getD k [] ++ ess.getD (k + 1) []).length ≤ 16 := by rw [List.length_append]; exact htot
  have hstepE : step k ess = ess.take k ++ [sent (ess.getD k [] ++ ess.getD (k + 1) [])] ++ ess.drop (k + 2) := rfl
  generalize ess.getD k [] ++ ess.getD (k + 1) [] = W at *
  have hmul : W.length * (2 + i) ≤ 400 := Nat.le_trans (Nat.mul_le_mul hWl (show 2 + i ≤ 22 by omega)) (by decide)
  have hb1 : (qtOf W).length ≤ 400 := Nat.le_trans (flat_length Ent.qt W fun e he => (hBnd e he).1) hmul
  have hb2 : (fxOf W).length ≤ 400 := Nat.le_trans (flat_length Ent.fx W fun e he => (hBnd e he).2.1) hmul
  have hb3 : (ocOf W).length ≤ 400 := Nat.le_trans (flat_length Ent.oc W fun e he => (hBnd e he).2.2) hmul
  have hSB := sent_bnd (show 2 ≤ 2 + i by omega) hBnd
  have hSl := sent_length W
  have hmulS : (sent W).length * (2 + i + 1) ≤ 400 := Nat.le_trans (Nat.mul_le_mul (Nat.le_trans hSl hWl) (show 2 + i + 1 ≤ 23 by omega)) (by decide)
  have hs1 : (qtOf (sent W)).length ≤ 400 := Nat.le_trans (flat_length Ent.qt _ fun e he => (hSB e he).1) hmulS
  have hs2 : (fxOf (sent W)).length ≤ 400 := Nat.le_trans (flat_length Ent.fx _ fun e he => (hSB e he).2.1) hmulS
  have hs3 : (ocOf (sent W)).length ≤ 400 := Nat.le_trans (flat_length Ent.oc _ fun e he => (hSB e he).2.2) hmulS
  obtain ⟨at', mt, Ft⟩ := G.ft
  obtain ⟨as', ms, Fs⟩ := G.fs
  -- text, lines, octets = _law_texts(whole)
  refine wpAny_execs_cons ?_
  refine Assign_Tuple ?_
  refine call1 (s := { s with heap := h₃, toks := _ }) F₃ G mt Ft hw3 ?_
  refine texts_spec (s := { s with heap := h₃, toks := _ }) (G.keeps F₃.keep) (Ft.keeps F₃.keep) (by omega) hh hW₃ (by omega) (by omega) (by omega) (by omega) ?_
  intro r₄ h₄ tk₄ k₄ hT₄
  dsimp only
  obtain ⟨aT, oT, nT, t1, t2, t3, rfl, hT1, hT2, hT3⟩ := hT₄
  refine wpAny_assign_Tuple (s := { s with heap := h₄, toks := tk₄ }) (items := txtVals (qtOf W) (fxOf W) (ocOf W) t1 t2 t3) hh ⟨oT, hT1, hT2, nT, hT3⟩ (by rfl) (by rfl) ?_
  intro h₅ hx₅
  have k₅ : Kept h₄ h₅ := fun b o e => hx₅ b o (Nat.ne_of_lt (Heap.lt_size e)) e
  have k35 : Kept h₃ h₅ := fun b o e => k₅ b o (k₄ b o e)
  refine assign3 (s := { s with heap := h₅, toks := tk₄ }) (Fr.kept F₃ k35) hk3 hp3 hw3 ?_
  intro h₆ tk₆ m₆ F₆ hk6 hp6 hw6 hm6 f₆
  obtain ⟨ht6, hl6, ho6⟩ := hm6
  have f36 : Fine h₃ h₆ := (Kept.fine k35).trans f₆
  -- sent = _law_sent(whole)
  refine wpAny_execs_cons ?_
  refine wpAny_Assign_Name ?_
  refine call1 (s := { s with heap := h₆, toks := tk₆ }) F₆ G ms Fs hw6 ?_
  refine sent_spec (s := { s with heap := h₆, toks := tk₆ }) (G.keeps F₆.keep) (Fs.keeps F₆.keep) (by omega) hh (by omega) (PartAt.keeps f36.toS hW₃) (by omega) (fun e he => ⟨Nat.le_trans (hBnd e he).1 (by omega), Nat.le_trans (hBnd e he).2.2 (by omega)⟩) ?_
  intro r₇ h₇ tk₇ k₇ hS₇
  dsimp only
  refine stF (s := { s with heap := h₇, toks := tk₇ }) (Fr.kept F₆ k₇) ?_
  intro h₈ F₈ f₈
  obtain ⟨m₈, F₈, hk8, hp8, ht8, hl8, ho8, hs8⟩ : ∃ m₈, Fr h₀ L h₈ m₈ ∧ m₈ "k" = some (.int (k : Int) tkB) ∧ m₈ "parts" = some (.ref ap) ∧ m₈ "text" = some (.str ⟨(qtOf W).toArray⟩ t1) ∧ m₈ "lines" = some (.str ⟨(fxOf W).toArray⟩ t2) ∧
      m₈ "octets" = some (.bytes ((ocOf W).map (·.toUInt8)).toArray t3) ∧ m₈ "sent" = some r₇ :=
    ⟨_, F₈, (if_neg (by decide)).trans hk6, (if_neg (by decide)).trans hp6, (if_neg (by decide)).trans ht6, (if_neg (by decide)).trans hl6, (if_neg (by decide)).trans ho6, if_pos rfl⟩
  have f38 : Fine h₃ h₈ := (f36.trans (Kept.fine k₇)).trans f₈
  have hS₈ : PartAt h₈ r₇ (sent W) := PartAt.keeps f₈.toS hS₇
  obtain ⟨aq, mq, Fq⟩ := G.fq
  obtain ⟨ae, me, Fe⟩ := G.fe
  obtain ⟨apd, mpd, Fpd⟩ := G.fp
  -- if (quotedata(text), _fix_eols(lines), _quote_periods(octets)) != _law_texts(sent)
  refine wpAny_execs_cons ?_
  refine wpAny_If ?_
  refine wpAny_isTrue_Compare1 ?_
  refine wpAny_Tuple ?_
  refine spliced_more ?_
  refine call1 (s := { s with heap := h₈, toks := _ }) F₈ G mq Fq ht8 ?_
  refine quote_spec (s := { s with heap := h₈, toks := _ }) (G.keeps F₈.keep) (Fq.keeps F₈.keep) (by omega) (by omega) ?_
  intro u1 h₉ tk₉ k₉
  dsimp only
  have F₉ := Fr.kept F₈ k₉
  refine spliced_more ?_
  refine call1 (s := { s with heap := h₉, toks := tk₉ }) F₉ G me Fe hl8 ?_
  refine eols_spec (s := { s with heap := h₉, toks := tk₉ }) (G.keeps F₉.keep) (Fe.keeps F₉.keep) (by omega) (by omega) ?_
  intro u2 h10 tk10 k10
  dsimp only
  have F10 := Fr.kept F₉ k10
  refine spliced_more ?_
  refine call1 (s := { s with heap := h10, toks := tk10 }) F10 G mpd Fpd ho8 ?_
  refine periods_spec (s := { s with heap := h10, toks := tk10 }) (G.keeps F10.keep) (Fpd.keeps F10.keep) (by omega) (by omega) hOct ?_
  intro u3 h11 tk11 k11
  dsimp only
  have F11 := Fr.kept F10 k11
  refine spliced_none ⟨by show 3 ≤ sizeLine; decide, ?_⟩
  dsimp only
  rw [hpure.1, hpure.2.1, hpure.2.2.1]
  have hT12 : TxtAt (h11.push { cls := .type "tuple", data := .seq [Value.str ⟨(qtOf (sent W)).toArray⟩ u1, .str ⟨(fxOf (sent W)).toArray⟩ u2, .bytes ((ocOf (sent W)).map (·.toUInt8)).toArray u3].toArray }) (.ref h11.objs.size) (qtOf (sent W)) (fxOf (sent W)) (ocOf (sent W)) :=
    ⟨_, _, 0, u1, u2, u3, rfl, Heap.get?_push_size _ rfl, rfl, rfl⟩
  generalize hH12 : h11.push { cls := .type "tuple", data := .seq [Value.str ⟨(qtOf (sent W)).toArray⟩ u1, .str ⟨(fxOf (sent W)).toArray⟩ u2, .bytes ((ocOf (sent W)).map (·.toUInt8)).toArray u3].toArray } = h12 at hT12 ⊢
  have k12 : Kept h11 h12 := hH12 ▸ kept_push
  have F12 := Fr.kept F11 k12
  have k812 : Kept h₈ h12 := fun b o e => k12 b o (k11 b o (k10 b o (k₉ b o e)))
  refine call1 (s := { s with heap := h12, toks := tk11 }) F12 G mt Ft hs8 ?_
  refine texts_spec (s := { s with heap := h12, toks := tk11 }) (G.keeps F12.keep) (Ft.keeps F12.keep) (by omega) hh (PartAt.keeps (Kept.toS k812) hS₈) (by omega) (by omega) (by omega) (by omega) ?_
  intro r13 h13 tk13 k13 hT13
  dsimp only
  have hT12' : TxtAt h13 (.ref h11.objs.size) (qtOf (sent W)) (fxOf (sent W)) (ocOf (sent W)) := by
    obtain ⟨a', o', n', w1, w2, w3, e0, e1, e2⟩ := hT12
    exact ⟨a', o', n', w1, w2, w3, e0, k13 _ _ e1, e2⟩
  refine ne_txts (s := { s with heap := h13, toks := tk13 }) (by omega) hT12' hT13 ?_
  refine wpAny_truthy_bool ?_
  rw [if_neg Bool.false_ne_true]
  refine wpAny_execs_nil ?_
  have F13 := Fr.kept F12 k13
  have k813 : Kept h₈ h13 := fun b o e => k13 b o (k812 b o e)
  have fs13 : Fine s.heap h13 := ((Fine.trans f₁ f13).trans f38).trans (Kept.fine k813)
  have hl13 := IsList.keepsS fs13.toS hlp
  have hv13 : Paired (PartAt h13) vs ess := Paired.imp (fun _ _ p => PartAt.keeps fs13.toS p) hvp
  have hS13 : PartAt h13 r₇ (sent W) := PartAt.keeps (Kept.toS k813) hS₈
  -- parts = parts[:k] + [sent] + parts[k + 2:]
  refine wpAny_execs_cons ?_
  refine wpAny_Assign_Name ?_
  refine wpAny_BinOp ?_
  refine wpAny_BinOp ?_
  refine slice_upto (s := { s with heap := h13, toks := tk13 }) F13 hp8 hk8 hl13 (by omega) ?_
  intro D14 h14 hD14 k14
  have F14 := Fr.kept F13 k14
  refine wpAny_List ?_
  refine spliced_more ?_
  refine ld (s := { s with heap := h14, toks := tk13 }) F14 hs8 ?_
  refine spliced_none ⟨by show 1 ≤ sizeLine; decide, ?_⟩
  dsimp only
  have hD15 : (h14.push { cls := .type "list", data := .seq [r₇].toArray }).IsList h14.objs.size [r₇].toArray := ⟨_, Heap.get?_push_size _ rfl, rfl, 0, rfl⟩
  have hD14' := hD14.push { cls := .type "list", data := .seq [r₇].toArray }
  generalize hH15 : h14.push { cls := .type "list", data := .seq [r₇].toArray } = h15 at hD15 hD14' ⊢
  have k15 : Kept h14 h15 := hH15 ▸ kept_push
  refine add_raw (s := { s with heap := h15, toks := tk13 }) hD14' hD15 (by simp; omega) ?_
  intro D16 h16 hD16 k16
  have k1316 : Kept h13 h16 := fun b o e => k16 b o (k15 b o (k14 b o e))
  have F16 := Fr.kept F13 k1316
  refine slice_from (c := 2) (s := { s with heap := h16, toks := tk13 }) F16 hp8 hk8 (IsList.keepsS (Kept.toS k1316) hl13) (by omega) ?_
  intro D17 h17 tk17 hD17 k17
  refine add_raw (s := { s with heap := h17, toks := tk17 }) (IsList.keepsS (Kept.toS k17) hD16) hD17 (by simp; omega) ?_
  intro D18 h18 hD18 k18
  have k1318 : Kept h13 h18 := fun b o e => k18 b o (k17 b o (k1316 b o e))
  dsimp only
  refine stF (s := { s with heap := h18, toks := tk17 }) (Fr.kept F13 k1318) ?_
  intro h19 F19 f19
  refine wpAny_execs_nil ?_
  have f1319 : Fine h13 h19 := (Kept.fine k1318).trans f19
  refine hq h19 _ _ (.ref D18) (step k ess) F19 (if_pos rfl) ?_ hstep.1 hstep.2 (fs13.trans f1319)
  refine ⟨D18, vs.take k ++ [r₇] ++ vs.drop (k + 2), rfl, IsList.keepsS f19.toS hD18, ?_⟩
  rw [hstepE]
  exact Paired.append (Paired.append (Paired.take k (Paired.imp (fun _ _ p => PartAt.keeps f1319.toS p) hv13)) (.cons (PartAt.keeps f1319.toS hS13) .nil)) (Paired.drop (k + 2) (Paired.imp (fun _ _ p => PartAt.keeps f1319.toS p) hv13))
end
end Mine

-- part Walk11
namespace Mine
open PySem PySem.Builtin PyProof.Rows

theorem ints_of_signs {x : Str} : ∀ {vs ys : List Value} (k : Nat), (∀ j v, vs[j]? = some v → SignAt x (k + j) v) → k + vs.length = x.cps.size → Paired (fun v y => ∀ c u, v = Value.str ⟨#[c]⟩ u → ∃ t, y = Value.int (c : Int) t) vs ys →
    IntsAre ys ((x.cps.toList.drop k).map fun (c : Nat) => (c : Int))
  | [], [], k, _, hk, .nil => by
    rw [List.drop_eq_nil_of_le (by simp at hk ⊢; omega)]
    exact .nil
  | v :: vs, y :: ys, k, hs, hk, .cons h1 h2 => by
    obtain ⟨c, u, hc, rfl⟩ := hs 0 v rfl
    obtain ⟨t, rfl⟩ := h1 c u rfl
    have hlt : k < x.cps.size := by simp at hk; omega
    have e : x.cps.toList.drop k = c :: x.cps.toList.drop (k + 1) := by
      rw [List.drop_eq_getElem_cons (by simpa using hlt)]
      congr 1
      have := hc
      rw [Nat.add_zero, Array.getElem?_eq_getElem hlt] at this
      simpa using this
    rw [e]
    refine .cons _ _ (ints_of_signs (k + 1) (fun j v hv => ?_) (by simp at hk; omega) h2)
    have := hs (j + 1) v (by simpa using hv)
    rwa [show k + (j + 1) = k + 1 + j by omega] at this

section
variable {prog : Program} {w : World} {A : Around} {E : Value → Shared → Prop} {s : Shared} {mg mb : Str → Option Value}

/-- bytes([ord(each) for each in sign]) inside a comprehension -/
theorem octets_eval {env : Env} {cs' : Scope} {C : Addr} {m : Str → Option Value} {p1 p2 p3 p4 p5 p6 p7 p8 : Pos} {l : List Nat} {t : Tok} {Q : Value → Shared → Prop}
    (hh : A.handled = none) (G : GG mg mb s.heap) (hg : env.globals = mainGlobals) (hbn : env.builtins = builtinsNs) (hn : s.heap.Ns C m) (hC : env.locals = C) (hm : m "sign" = some (.str ⟨l.toArray⟩ t)) (hl : ∀ c ∈ l, c < 256) (hll : l.length ≤ 1000)
    (hk : env.scope.kind = .function) (hs : env.kindOf "sign" = some .local) (hb : env.kindOf "bytes" = some .globalImplicit)
    (hfree : ∀ y ∈ cs'.names, y.2 ≠ .free) (hcell : ∀ y ∈ cs'.names, y.2 ≠ .cell) (hkind : cs'.kind = .function)
    (hnames : ∀ y ∈ cs'.names, y.2 = .local → cs'.names.lookup y.1 = some .local) (hx : cs'.names.lookup ("each" : Str) = some .local) (ho : cs'.names.lookup ("ord" : Str) = some .globalImplicit)
    (hq : ∀ t' h' tk, Kept s.heap h' → Q (.bytes (l.map (·.toUInt8)).toArray t') { s with heap := h', toks := tk }) :
    wpAny (model prog w) A (eval (.Call (.Name "bytes" p1) [.ListComp (.Call (.Name "ord" p2) [.Name "each" p3] [] p4) [⟨.Name "each" p5, .Name "sign" p6, [], 0⟩] cs' p7] [] p8) env) Q E s := by
  refine wpAny_Call_NameR ?_
  refine Calls.Name_function_global hk hb ?_ (by decide)
  refine Calls.loadGlobal_builtin (by rw [hg]; exact G.g) G.bytes.1 (by rw [hbn]; exact G.b) G.bytes.2 ?_
  refine PyProof.Rows.callWith_type1 ?_
  refine spliced_more ?_
  refine wpAny_ListComp_walk (fun _ => true) (fun v y => ∀ c u, v = Value.str ⟨#[c]⟩ u → ∃ t, y = Value.int (c : Int) t) hfree hcell hkind hnames hx ?_ (by intro _; rfl)
  refine wpAny_Name (wpAny_loadName_local hk hs (by rw [hC]; exact hn) hm ?_) (by decide)
  refine wpAny_pyIter_str ?_
  intro o St hW hst
  refine ⟨_, _, _, _, _, St, rfl, hW A hh, ?_, hst, ?_, ⟨?_, ?_⟩, ?_⟩
  · show l.toArray.size ≤ sizeLine
    rw [sizeLine_eq]; simp; omega
  · intro b hb'
    rw [List.mem_singleton.mp hb']
    rw [Heap.size_push]; exact Nat.lt_succ_self _
  · intro C' i v s₃ m₃ E' _ _ _ _ _
    exact wpAny_pure ⟨rfl, s₃.heap, s₃.toks, rfl, fun _ _ h => h⟩
  · intro C' i v s₃ m₃ E' hP _ hns hmx hk₃ _
    have k₃ : Kept s.heap s₃.heap := fun b o' e => hk₃ b o' (by rw [List.mem_singleton]; exact Nat.ne_of_lt (Heap.lt_size e)) (kept_push b o' e)
    obtain ⟨c, u, hc, rfl⟩ := hP
    refine wpAny_Call_NameR ?_
    refine Calls.Name_function_global hkind ho ?_ (by decide)
    refine Calls.loadGlobal_builtin (env := compEnv cs' C' env) (mg := mg) (mb := mb) (by show s₃.heap.Ns env.globals mg; rw [hg]; exact (G.keeps k₃).g) G.ord.1 (by show s₃.heap.Ns env.builtins mb; rw [hbn]; exact (G.keeps k₃).b) G.ord.2 ?_
    refine cw_builtin ?_
    refine spliced_more ?_
    refine wpAny_Name (wpAny_loadName_local hkind hx hns hmx ?_) (by decide)
    refine spliced_none ?_
    refine P.ord_of_char ?_
    refine ⟨?_, s₃.heap, s₃.toks + 1, rfl, fun _ _ h => h⟩
    intro c' u' e
    injection e with e _
    have : c = c' := by simpa using e
    subst this
    exact ⟨_, rfl⟩
  · intro D h' tk ys vs hD hlD _ hlen hP hF hk'
    have e : (vs.filter fun _ => true) = vs := by simp
    rw [e] at hF
    have hi := ints_of_signs 0 (fun j v hv => by rw [Nat.zero_add]; exact hP j v hv) (by rw [Nat.zero_add]; exact hlen) hF
    refine spliced_none ?_
    have k' : Kept s.heap h' := fun b o' e => hk' b o' (by rw [List.mem_singleton]; exact Nat.ne_of_lt (Heap.lt_size e)) (kept_push b o' e)
    refine call_bytes_ints (vs := ys.toList) (by simpa using hlD) hi ?_ ?_ hh ?_
    · intro n hn
      obtain ⟨c, hc, rfl⟩ := List.mem_map.mp hn
      have := hl c (by simpa using hc)
      omega
    · have := hi.length
      rw [this, sizeLine_eq]; simp; omega
    · intro h'' t' k'' hk''
      have eb : byteArr ((List.drop 0 (⟨l.toArray⟩ : Str).cps.toList).map fun (c : Nat) => (c : Int)) = (l.map (·.toUInt8)).toArray := by
        unfold byteArr
        simp [Function.comp_def]
      rw [eb]
      exact hq t' h'' k'' fun b o e => hk'' b o (k' b o e)
end
end Mine

-- part Walk12
namespace Mine
open PySem PySem.Builtin PyProof.Rows

def mkFresh (l : List Nat) : Ent := ⟨l, l, l, l⟩

theorem keptS_iter {h h' : Heap} {I l : Addr} {i : Nat} (hI : h.IsListIter I l i) (hs : ∀ b o, b ≠ I → h.get? b = some o → h'.get? b = some o) : KeptS h h' := by
  intro b o xs n e d
  refine hs b o ?_ e
  rintro rfl
  obtain ⟨o', e', _, d'⟩ := hI
  rw [e] at e'; cases e'
  rw [d] at d'; cases d'
theorem PartAt.offD {h h' : Heap} {D T : Addr} {ys : Array Value} {es : List Ent} (hD : h.IsList D ys) (hs : Heap.SameBut D h h') (hT : T ≠ D) (x : PartAt h (.ref T) es) : PartAt h' (.ref T) es := by
  obtain ⟨a, vs, e, ⟨o, h1, h2⟩, h3⟩ := x
  cases e
  refine ⟨T, vs, rfl, ⟨o, by rw [hs.2 T hT]; exact h1, h2⟩, Paired.imp (fun _ _ p => EntAt.keeps ?_ p) h3⟩
  intro b o' xs n e c d
  rw [hs.2 b]
  · exact e
  · rintro rfl
    obtain ⟨oD, e', c', _⟩ := hD
    rw [e] at e'; cases e'
    rw [c] at c'
    exact absurd c' (by decide)

section
variable {prog : Program} {w : World} {A : Around} {E : Value → Shared → Prop} {s : Shared} {mg mb : Str → Option Value}

def partElt (p1 p2 p3 p4 p5 p6 p7 p8 p9 p10 p11 p12 p13 : Pos) (k1 : Nat) (cs' : Scope) : Expr :=
  .List [.Tuple [.Name "sign" p1, .Name "sign" p2, .Name "sign" p3, .Call (.Name "bytes" p4) [.ListComp (.Call (.Name "ord" p5) [.Name "each" p6] [] p7) [⟨.Name "each" p8, .Name "sign" p9, [], 0⟩] cs' p10] [] p11] k1 p12] p13

structure CompOk (env : Env) (cs' : Scope) : Prop where
  g : env.globals = mainGlobals
  b : env.builtins = builtinsNs
  k : env.scope.kind = .function
  sign : env.kindOf "sign" = some .local
  bytes : env.kindOf "bytes" = some .globalImplicit
  free : ∀ y ∈ cs'.names, y.2 ≠ .free
  cell : ∀ y ∈ cs'.names, y.2 ≠ .cell
  kind : cs'.kind = .function
  names : ∀ y ∈ cs'.names, y.2 = .local → cs'.names.lookup y.1 = some .local
  each : cs'.names.lookup ("each" : Str) = some .local
  ord : cs'.names.lookup ("ord" : Str) = some .globalImplicit

theorem part_elt {env : Env} {cs' : Scope} {m : Str → Option Value} {p1 p2 p3 p4 p5 p6 p7 p8 p9 p10 p11 p12 p13 : Pos} {k1 : Nat} {l : List Nat} {t : Tok} {Q : Value → Shared → Prop}
    (hh : A.handled = none) (G : GG mg mb s.heap) (O : CompOk env cs') (hn : s.heap.Ns env.locals m) (hm : m "sign" = some (.str ⟨l.toArray⟩ t)) (hl : ∀ c ∈ l, c < 256) (hll : l.length ≤ 1000)
    (hq : ∀ T h' tk, s.heap.get? T = none → PartAt h' (.ref T) [mkFresh l] → Kept s.heap h' → Q (.ref T) { s with heap := h', toks := tk }) :
    wpAny (model prog w) A (eval (partElt p1 p2 p3 p4 p5 p6 p7 p8 p9 p10 p11 p12 p13 k1 cs') env) Q E s := by
  refine wpAny_List ?_
  refine spliced_more ?_
  refine wpAny_Tuple ?_
  refine spliced_more ?_
  refine wpAny_Name (wpAny_loadName_local O.k O.sign hn hm ?_) (by decide)
  refine spliced_more ?_
  refine wpAny_Name (wpAny_loadName_local O.k O.sign hn hm ?_) (by decide)
  refine spliced_more ?_
  refine wpAny_Name (wpAny_loadName_local O.k O.sign hn hm ?_) (by decide)
  refine spliced_more ?_
  refine octets_eval hh G O.g O.b hn rfl hm hl hll O.k O.sign O.bytes O.free O.cell O.kind O.names O.each O.ord ?_
  intro t' h₁ tk₁ k₁
  refine spliced_none ⟨by show 4 ≤ sizeLine; decide, ?_⟩
  refine spliced_none ⟨by show 1 ≤ sizeLine; decide, ?_⟩
  dsimp only
  generalize hH : h₁.push { cls := .type "tuple", data := .seq [Value.str ⟨l.toArray⟩ t, .str ⟨l.toArray⟩ t, .str ⟨l.toArray⟩ t, .bytes (l.map (·.toUInt8)).toArray t'].toArray } = h₂
  have k₂ : Kept h₁ h₂ := hH ▸ kept_push
  refine hq h₂.objs.size _ tk₁ ?_ ?_ fun b o e => kept_push b o (k₂ b o (k₁ b o e))
  · cases e : s.heap.get? h₂.objs.size with
    | none => rfl
    | some o => exact absurd (Heap.lt_size (k₂ _ _ (k₁ _ _ e))) (Nat.lt_irrefl _)
  · refine ⟨_, [_], rfl, ⟨_, Heap.get?_push_size _ rfl, rfl, 0, rfl⟩, .cons ?_ .nil⟩
    refine EntAt.keeps (Kept.toT kept_push) ?_
    refine ⟨h₁.objs.size, { cls := .type "tuple", data := .seq [Value.str ⟨l.toArray⟩ t, .str ⟨l.toArray⟩ t, .str ⟨l.toArray⟩ t, .bytes (l.map (·.toUInt8)).toArray t'].toArray }, 0, t, t, t, t', rfl, ?_, rfl, rfl⟩
    rw [← hH]
    exact Heap.get?_push_size _ rfl

/-- the loop of the comprehension that lays the parts -/
theorem parts_loop {R : Result → Shared → Prop} {cenv : Env} {cs' scope : Scope} {iter : Expr} {m : Str → Option Value} {I ax D : Addr} {ps : List (List Nat × Tok)} {px p1 p2 p3 p4 p5 p6 p7 p8 p9 p10 p11 p12 p13 pos : Pos} {k1 : Nat}
    (hh : A.handled = none) (h₀ : Heap) (G : GG mg mb h₀) (O : CompOk cenv cs') (hx : cenv.kindOf "sign" = some .local) (hp : (cenv.scope.kind == .class || (cenv.scope.kind == .module && cenv.locals != cenv.globals)) = false)
    (hDI : D ≠ I) (hDC : D ≠ cenv.locals) (hIC : I ≠ cenv.locals) (haI : ax ≠ I) (haC : ax ≠ cenv.locals) (haD : ax ≠ D)
    (h0 : ∀ b o, h₀.get? b = some o → b ≠ cenv.locals ∧ b ≠ I ∧ b ≠ D ∧ s.heap.get? b = some o)
    (hit : s.heap.IsListIter I ax 0) (hl : s.heap.IsList ax (pVals false ps).toArray) (hacc : s.heap.IsList D #[]) (hn : s.heap.Ns cenv.locals m)
    (hc : ∀ p ∈ ps, (∀ c ∈ p.1, c < 256) ∧ p.1.length ≤ 1000) (hsz : ps.length ≤ 10000)
    (hR : ∀ h' tk m' ys, h'.Ns cenv.locals m' → h'.IsList D ys.toArray → Paired (fun v es => (∃ T, v = Value.ref T ∧ T ≠ D) ∧ PartAt h' v es) ys (ps.map fun p => [mkFresh p.1]) →
      (∀ b o, b ≠ cenv.locals → b ≠ I → b ≠ D → s.heap.get? b = some o → h'.get? b = some o) → R (.ok .next) { s with heap := h', toks := tk }) :
    codeAny (model prog w) A (.compLoop (.ListComp (partElt p1 p2 p3 p4 p5 p6 p7 p8 p9 p10 p11 p12 p13 k1 cs') [⟨.Name "sign" px, iter, [], 0⟩] scope pos) 0 (.ref I) (.ref D) cenv) R s := by
  have hvl : (pVals false ps).length = ps.length := by simp [pVals]
  refine codeAny_compLoop_tests
    (fun k s' => ∃ h tk m' ys i, s' = { s with heap := h, toks := tk } ∧ h.IsListIter I ax i ∧ h.IsList ax (pVals false ps).toArray ∧ h.IsList D ys.toArray ∧ h.Ns cenv.locals m' ∧
      Paired (fun v es => (∃ T, v = Value.ref T ∧ T ≠ D) ∧ PartAt h v es) ys ((ps.take i).map fun p => [mkFresh p.1]) ∧ i ≤ ps.length ∧ k = ps.length + 1 - i ∧
      ∀ b o, b ≠ cenv.locals → b ≠ I → b ≠ D → s.heap.get? b = some o → h.get? b = some o) ?_ (ps.length + 1)
    ⟨s.heap, s.toks, m, [], 0, rfl, hit, hl, hacc, hn, .nil, Nat.zero_le _, rfl, fun _ _ _ _ _ e => e⟩
  rintro k s' ⟨h, tk, m', ys, i, rfl, hit', hl', hacc', hn', hF, hi, rfl, hk⟩
  rcases Nat.lt_or_ge i ps.length with hlt | hge
  · have hv : (pVals false ps).toArray[i]? = some (mkV false (ps[i]).1 (ps[i]).2) := by simp [pVals, hlt]
    refine wpAny_pyNext_list_item (s := { s with heap := h, toks := tk }) hit' hl' hv ?_
    intro h₁ hit₁ hs₁
    dsimp only
    refine wpAny_assign_Name (wpAny_storeName_local (s := { s with heap := h₁, toks := tk }) hx (hn'.sameBut hs₁ (Ne.symm hIC)) (fun h₂ hn₂ hs₂ => ?_) hp)
    refine wpAny_pure ?_
    rw [if_pos rfl]
    dsimp only
    have kS1 : KeptS h h₁ := keptS_iter hit' fun b o hb e => by rw [hs₁.2 b hb]; exact e
    have kS2 : KeptS h₁ h₂ := keptS_ns (hn'.sameBut hs₁ (Ne.symm hIC)) hs₂
    have up : ∀ b o, b ≠ cenv.locals → b ≠ I → h.get? b = some o → h₂.get? b = some o := fun b o hbC hbI e => hs₂.extBut b o hbC (hs₁.extBut b o hbI e)
    have G₂ : GG mg mb h₂ := G.keeps fun b o e => by
      obtain ⟨a1, a2, a3, a4⟩ := h0 b o e
      exact up b o a1 a2 (hk b o a1 a2 a3 a4)
    obtain ⟨c1, c2⟩ := hc ps[i] (List.getElem_mem hlt)
    refine part_elt (s := { s with heap := h₂, toks := tk + 1 }) hh G₂ O hn₂ (t := (ps[i]).2) (l := (ps[i]).1) (if_pos rfl) c1 c2 ?_
    intro T h₃ tk₃ hT hP k₃
    have hacc₂ : h₂.IsList D ys.toArray := hacc'.at fun o e => up D o hDC hDI e
    have hTD : T ≠ D := by
      rintro rfl
      obtain ⟨o, e, _⟩ := hacc₂
      have hT' : h₂.get? T = none := hT
      rw [hT'] at e; cases e
    have hacc₃ : h₃.IsList D ys.toArray := hacc₂.at fun o e => k₃ _ o e
    have hylen := Paired.length hF
    refine wpAny_list_append (s := { s with heap := h₃, toks := tk₃ }) hacc₃ ?_ (by rw [sizeLine_eq]; simp at hylen ⊢; omega)
    intro h₄ hl₄ hs₄
    refine ⟨ps.length + 1 - (i + 1), by omega, h₄, tk₃, (fun x => if x = ("sign" : Str) then some (mkV false ps[i].1 ps[i].2) else m' x), ys ++ [.ref T], i + 1, rfl, ?_, ?_, ?_, ?_, ?_, hlt, rfl, ?_⟩
    · exact (((hit₁.extBut hs₂.extBut hIC).at fun o e => k₃ _ o e)).extBut hs₄.extBut (Ne.symm hDI)
    · exact ((hl'.at fun o e => up ax o haC haI e).at fun o e => k₃ _ o e).extBut hs₄.extBut haD
    · rw [← List.push_toArray]; exact hl₄
    · exact (hn₂.keeps k₃).sameBut hs₄ (Ne.symm hDC)
    · rw [List.take_add_one, List.getElem?_eq_getElem hlt]
      simp only [Option.toList, List.map_append, List.map_cons, List.map_nil]
      refine Paired.snoc (Paired.imp (fun v es p => ?_) hF) ⟨⟨T, rfl, hTD⟩, PartAt.offD hacc₃ hs₄ hTD hP⟩
      obtain ⟨⟨T', rfl, hT'⟩, hp'⟩ := p
      exact ⟨⟨T', rfl, hT'⟩, PartAt.offD hacc₃ hs₄ hT' (PartAt.keeps ((kS1.trans kS2).trans (Kept.toS k₃)) hp')⟩
    · intro b o hbC hbI hbD e
      exact hs₄.extBut b o hbD (k₃ b o (up b o hbC hbI (hk b o hbC hbI hbD e)))
  · have hv : (pVals false ps).toArray[i]? = none := by simp [pVals]; omega
    refine wpAny_pyNext_list_end (s := { s with heap := h, toks := tk }) hh hit' hl' hv ?_
    intro h₁ he₁
    dsimp only
    refine hR h₁ tk m' ys (hn'.extBut he₁ (Ne.symm hIC)) (hacc'.extBut he₁ hDI) ?_ fun b o hbC hbI hbD e => he₁ b o hbI (hk b o hbC hbI hbD e)
    rw [List.take_of_length_le hge] at hF
    exact Paired.imp (fun v es p => ⟨p.1, PartAt.keeps (keptS_iter hit' he₁) p.2⟩) hF
end
end Mine

-- part Walk13
namespace Mine
open PySem PySem.Builtin PyProof.Rows

section
variable {prog : Program} {w : World} {A : Around} {E : Value → Shared → Prop} {s : Shared} {mg mb : Str → Option Value}
  {L a : Addr} {cd : Value} {h₀ : Heap} {m : Str → Option Value} {Q : Flow → Shared → Prop}

theorem stFS {name : Str} {scope : Scope} {x : Str} {v : Value} {Q : Unit → Shared → Prop} (F : Fr h₀ L s.heap m)
    (h : ∀ h', Fr h₀ L h' (fun y => if y = x then some v else m y) → Heap.SameBut L s.heap h' → Q () { s with heap := h', toks := s.toks + 1 })
    (hk : scope.kind = .function := by rfl) (hl : (envOf name scope L a cd).kindOf x = some .local := by rfl) :
    wpAny (model prog w) A (storeName (envOf name scope L a cd) x v) Q E s :=
  wpAny_storeName_local hl F.ns (fun h' hn hs => h h' (F.set hn hs) hs)
    (by show (scope.kind == .class || (scope.kind == .module && L != mainGlobals)) = false; rw [hk]; rfl)

theorem parts_assign {cs cs' : Scope} {ax : Addr} {ps : List (List Nat × Tok)} {py px pi p1 p2 p3 p4 p5 p6 p7 p8 p9 p10 p11 p12 p13 pos spos : Pos} {k1 : Nat}
    (hh : A.handled = none) (G : GG mg mb h₀) (F : Fr h₀ L s.heap m) (hm : m "signs" = some (.ref ax)) (hl : s.heap.IsList ax (pVals false ps).toArray) (hc : ∀ p ∈ ps, (∀ c ∈ p.1, c < 256) ∧ p.1.length ≤ 1000) (hsz : ps.length ≤ 10000)
    (hsw : swapsWith (.ListComp (partElt p1 p2 p3 p4 p5 p6 p7 p8 p9 p10 p11 p12 p13 k1 cs') [⟨.Name "sign" px, .Name "signs" pi, [], 0⟩] cs pos) (some (.Name "parts" py)) spos.line (envOf (fName 12) (fScope 12) L a cd) = pure true)
    (hfree : ∀ y ∈ cs.names, y.2 ≠ .free) (hcell : ∀ y ∈ cs.names, y.2 ≠ .cell) (hkind : cs.kind = .function)
    (hnames : ∀ y ∈ cs.names, y.2 = .local → cs.names.lookup y.1 = some .local) (hx : cs.names.lookup ("sign" : Str) = some .local) (hby : cs.names.lookup ("bytes" : Str) = some .globalImplicit)
    (hfree' : ∀ y ∈ cs'.names, y.2 ≠ .free) (hcell' : ∀ y ∈ cs'.names, y.2 ≠ .cell) (hkind' : cs'.kind = .function)
    (hnames' : ∀ y ∈ cs'.names, y.2 = .local → cs'.names.lookup y.1 = some .local) (hx' : cs'.names.lookup ("each" : Str) = some .local) (ho' : cs'.names.lookup ("ord" : Str) = some .globalImplicit)
    (hq : ∀ h' tk v, Fr h₀ L h' (fun y => if y = ("parts" : Str) then some v else m y) → PartsAt h' v (ps.map fun p => [mkFresh p.1]) → Fine s.heap h' → Q .next { s with heap := h', toks := tk }) :
    wpAny (model prog w) A (exec (.Assign [.Name "parts" py] (.ListComp (partElt p1 p2 p3 p4 p5 p6 p7 p8 p9 p10 p11 p12 p13 k1 cs') [⟨.Name "sign" px, .Name "signs" pi, [], 0⟩] cs pos) spos) (envOf (fName 12) (fScope 12) L a cd)) Q E s := by
  rw [exec_Assign_Name_used _ _ _ _ hsw]
  refine wpAny_bind (wpAny_standAt (wpAny_bind ?_))
  show wpAny _ A (do let _ ← comprehension (.ListComp (partElt p1 p2 p3 p4 p5 p6 p7 p8 p9 p10 p11 p12 p13 k1 cs') [⟨.Name "sign" px, .Name "signs" pi, [], 0⟩] cs pos) cs (envOf (fName 12) (fScope 12) L a cd) _ (newList []) false (eval (.Name "signs" pi) (envOf (fName 12) (fScope 12) L a cd)) (some (assign (.Name "parts" py) (envOf (fName 12) (fScope 12) L a cd)))) _ _ s
  refine wpAny_bind (wpAny_mono (wpAny_comprehension_use (Q := fun _ s' => Q .next s') rfl (by intro _; rfl) hfree hkind hnames ?_) (fun _ s' hq => wpAny_pure (wpAny_pure hq)) fun _ _ e => e)
  refine ld F hm ?_
  have hax : ax < s.heap.objs.size := by obtain ⟨o, e, _⟩ := id hl; exact Heap.lt_size e
  refine wpAny_pyIter_list hl ?_
  refine wpAny_newList ?_ (Nat.zero_le _)
  refine wpAny_newFunctionEnv hcell (by intro y hy; simp at hy) ?_ hkind
  intro h₁ hns₁ hsb₁
  dsimp only at hns₁ hsb₁ ⊢
  generalize hI : s.heap.objs.size = I at hax ⊢
  generalize hH1 : s.heap.push { cls := .type "list_iterator", data := .fields #[.ref ax, .int 0 0] } = H1 at hns₁ hsb₁ ⊢
  have hD : H1.objs.size = I + 1 := by rw [← hH1, Heap.size_push, hI]
  generalize hH2 : H1.push { cls := .type "list", data := .seq ([] : List Value).toArray } = H2 at hns₁ hsb₁ ⊢
  have hC : H2.objs.size = I + 2 := by rw [← hH2, Heap.size_push, hD]
  generalize hDe : H1.objs.size = D at hD hns₁ hsb₁ ⊢
  generalize hCe : H2.objs.size = C at hC hns₁ hsb₁ ⊢
  have hDI : D ≠ I := by rw [hD]; exact Nat.succ_ne_self _
  have hDC : D ≠ C := by rw [hD, hC]; exact Nat.ne_of_lt (Nat.lt_succ_self _)
  have hIC : I ≠ C := by rw [hC]; exact Nat.ne_of_lt (Nat.lt_succ_of_lt (Nat.lt_succ_self _))
  have below : ∀ b, b < I → b ≠ C ∧ b ≠ I ∧ b ≠ D := fun b hb =>
    ⟨by rw [hC]; exact Nat.ne_of_lt (Nat.lt_succ_of_lt (Nat.lt_succ_of_lt hb)), Nat.ne_of_lt hb, by rw [hD]; exact Nat.ne_of_lt (Nat.lt_succ_of_lt hb)⟩
  have lt_I : ∀ b o, s.heap.get? b = some o → b < I := fun b o e => hI ▸ Heap.lt_size e
  have old : ∀ b o, s.heap.get? b = some o → h₁.get? b = some o := fun b o e =>
    hsb₁.extBut b o (below b (lt_I b o e)).1 (Heap.get?_push_of_some _ (hH2 ▸ Heap.get?_push_of_some _ (hH1 ▸ Heap.get?_push_of_some _ e)))
  have hit : h₁.IsListIter I ax 0 := by
    refine ⟨{ cls := .type "list_iterator", data := .fields #[.ref ax, .int 0 0] }, hsb₁.extBut _ _ hIC (Heap.get?_push_of_some _ (hH2 ▸ Heap.get?_push_of_some _ ?_)), rfl, rfl⟩
    rw [← hH1, ← hI]
    exact Heap.get?_push_size _ rfl
  have hacc : h₁.IsList D #[] := by
    refine ⟨{ cls := .type "list", data := .seq ([] : List Value).toArray }, hsb₁.extBut _ _ hDC (Heap.get?_push_of_some _ ?_), rfl, 0, rfl⟩
    rw [← hH2, ← hDe]
    exact Heap.get?_push_size _ rfl
  have hl₁ : h₁.IsList ax (pVals false ps).toArray := hl.at fun o e => old _ o e
  have hLI : L < I := hI ▸ F.ns.lt
  have fresh : ∀ b, I ≤ b → s.heap.get? b = none := fun b hb => by
    cases e : s.heap.get? b with
    | none => rfl
    | some o => exact absurd (lt_I b o e) (Nat.not_lt.mpr hb)
  have O : CompOk (compEnv cs C (envOf (fName 12) (fScope 12) L a cd)) cs' := ⟨rfl, rfl, hkind, hx, hby, hfree', hcell', hkind', hnames', hx', ho'⟩
  have loop : codeAny (model prog w) A (.compLoop (.ListComp (partElt p1 p2 p3 p4 p5 p6 p7 p8 p9 p10 p11 p12 p13 k1 cs') [⟨.Name "sign" px, .Name "signs" pi, [], 0⟩] cs pos) 0 (.ref I) (.ref D) (compEnv cs C (envOf (fName 12) (fScope 12) L a cd)))
      (fun r s' => match r with
          | .ok _ => wpAny (model prog w) A (assign (.Name "parts" py) (envOf (fName 12) (fScope 12) L a cd) (.ref D)) (fun _ s'' => ∃ m, s''.heap.Ns C m ∧ ∀ h', Heap.SameBut C s''.heap h' → Q .next { s'' with heap := h' }) E s'
          | .error x => ∃ m, s'.heap.Ns C m ∧ ∀ h', Heap.SameBut C s'.heap h' → wpAny (model prog w) A (passOn (α := Value) "comprehension.variables-let-go" x (compEnv cs C (envOf (fName 12) (fScope 12) L a cd))) (fun (_ : Value) s' => Q .next s') E { s' with heap := h' })
      { s with heap := h₁, toks := s.toks + ([] : List (Str × Value)).length } := by
    refine parts_loop (s := { s with heap := h₁, toks := s.toks + ([] : List (Str × Value)).length }) hh h₀ G O hx (by show (cs.kind == .class || (cs.kind == .module && _)) = false; rw [hkind]; rfl) hDI hDC hIC (below ax hax).2.1 (below ax hax).1 (below ax hax).2.2 ?_ hit hl₁ hacc hns₁ hc hsz ?_
    · intro b o e
      have e' := F.keep b o e
      obtain ⟨a1, a2, a3⟩ := below b (lt_I b o e')
      exact ⟨a1, a2, a3, old b o e'⟩
    · intro h₂ tk₂ m₂ ys hn₂ hl₂ hF hk₂
      dsimp only
      have up : ∀ b o, s.heap.get? b = some o → h₂.get? b = some o := fun b o e => by
        obtain ⟨a1, a2, a3⟩ := below b (lt_I b o e)
        exact hk₂ b o a1 a2 a3 (old b o e)
      have F₂ : Fr h₀ L h₂ m := Fr.kept F up
      refine wpAny_assign_Name ?_
      refine stFS (s := { s with heap := h₂, toks := tk₂ }) F₂ ?_
      intro h₃ F₃ hs₃
      have f₃ := fine_ns F₂.ns hs₃
      have hCL : C ≠ L := by rw [hC]; exact Nat.ne_of_gt (Nat.lt_succ_of_lt (Nat.lt_succ_of_lt hLI))
      have hn₃ : h₃.Ns C m₂ := hn₂.sameBut hs₃ hCL
      refine ⟨m₂, hn₃, ?_⟩
      intro h' hs'
      have kS := keptS_ns hn₃ hs'
      refine hq h' _ (.ref D) ?_ ?_ ?_
      · refine Fr.off F₃ hs' ?_ hCL
        rw [hC]
        exact Nat.le_trans F.above (Nat.le_of_lt (Nat.lt_succ_of_lt (Nat.lt_succ_of_lt hLI)))
      · exact ⟨D, ys, rfl, IsList.keepsS (f₃.toS.trans kS) hl₂, Paired.imp (fun _ _ p => PartAt.keeps (f₃.toS.trans kS) p.2) hF⟩
      · exact ((Kept.fine up).trans f₃).trans (fine_ns hn₃ hs')
  exact codeAny_compStart_list loop (wpAny_pyIter_listiter hit loop)
end
end Mine

-- part Walk14
namespace Mine
open PySem PySem.Builtin PyProof.Rows

def menuL : List (List Nat) := [[46], [13], [10], [97], [46], [13], [10], [12], [133], []]
def menu (n : Int) : List Nat := menuL.getD (n.fmod 10).toNat []
theorem menu_mem (n : Int) : menu n ∈ menuL := by
  have h0 : 0 ≤ n.fmod 10 := Int.fmod_nonneg_of_pos _ (by decide)
  have h1 : n.fmod 10 < 10 := Int.fmod_lt_of_pos _ (by decide)
  exact getD_mem (by show (n.fmod 10).toNat < 10; omega)
theorem menu_ok : ∀ l ∈ menuL, (∀ c ∈ l, c < 256) ∧ l.length ≤ 1 := by decide
theorem menu_part (n : Int) : PartOk [mkFresh (menu n)] ∧ Bnd 2 [mkFresh (menu n)] := by
  have hm := menu_mem n
  have hl := (menu_ok _ hm).2
  generalize menu n = l at hm hl
  refine ⟨.inl ⟨_, rfl, ?_⟩, ?_⟩
  · simp only [menuL, List.mem_cons, List.not_mem_nil, or_false] at hm
    have dot : ([46] = l → (SentIs (mkFresh l) ∨ mkFresh l = freshCr ∨ mkFresh l = freshLf) ∧ (mkFresh l).sg ≠ [13, 10] ∧ ((mkFresh l).sg = [13] → mkFresh l = freshCr) ∧ ((mkFresh l).sg = [10] → mkFresh l = freshLf)) := by
      rintro rfl
      exact ⟨.inl (.dot 0 0), by decide, fun h => absurd h (by decide), fun h => absurd h (by decide)⟩
    have cr : ([13] = l → (SentIs (mkFresh l) ∨ mkFresh l = freshCr ∨ mkFresh l = freshLf) ∧ (mkFresh l).sg ≠ [13, 10] ∧ ((mkFresh l).sg = [13] → mkFresh l = freshCr) ∧ ((mkFresh l).sg = [10] → mkFresh l = freshLf)) := by
      rintro rfl
      exact ⟨.inr (.inl rfl), by decide, fun _ => rfl, fun h => absurd h (by decide)⟩
    have lf : ([10] = l → (SentIs (mkFresh l) ∨ mkFresh l = freshCr ∨ mkFresh l = freshLf) ∧ (mkFresh l).sg ≠ [13, 10] ∧ ((mkFresh l).sg = [13] → mkFresh l = freshCr) ∧ ((mkFresh l).sg = [10] → mkFresh l = freshLf)) := by
      rintro rfl
      exact ⟨.inr (.inr rfl), by decide, fun h => absurd h (by decide), fun _ => rfl⟩
    have oth : ∀ c, c ≠ 46 → c ≠ 13 → c ≠ 10 → c < 256 → ([c] = l → (SentIs (mkFresh l) ∨ mkFresh l = freshCr ∨ mkFresh l = freshLf) ∧ (mkFresh l).sg ≠ [13, 10] ∧ ((mkFresh l).sg = [13] → mkFresh l = freshCr) ∧ ((mkFresh l).sg = [10] → mkFresh l = freshLf)) := by
      rintro c h1 h2 h3 h4 rfl
      refine ⟨.inl (.other c h1 h2 h3 h4), by simp [mkFresh], ?_, ?_⟩
      · intro h; simp [mkFresh] at h; exact absurd h h2
      · intro h; simp [mkFresh] at h; exact absurd h h3
    rcases hm with h | h | h | h | h | h | h | h | h | h
    · exact dot h.symm
    · exact cr h.symm
    · exact lf h.symm
    · exact oth 97 (by decide) (by decide) (by decide) (by decide) h.symm
    · exact dot h.symm
    · exact cr h.symm
    · exact lf h.symm
    · exact oth 12 (by decide) (by decide) (by decide) (by decide) h.symm
    · exact oth 133 (by decide) (by decide) (by decide) (by decide) h.symm
    · subst h
      exact ⟨.inl .nil, by decide, fun h => absurd h (by decide), fun h => absurd h (by decide)⟩
  · intro e he
    obtain rfl : e = mkFresh l := by simpa using he
    exact ⟨by show l.length ≤ 2; omega, by show l.length ≤ 2; omega, by show l.length ≤ 2; omega⟩

theorem sA : Str.ofString "a" = ⟨[97].toArray⟩ := by decide +kernel
theorem sFf : Str.ofString "\x0c" = ⟨[12].toArray⟩ := by decide +kernel
theorem sNel : Str.ofString "\u0085" = ⟨[133].toArray⟩ := by decide +kernel

section
variable {prog : Program} {w : World} {A : Around} {E : Value → Shared → Prop} {s : Shared} {mg mb : Str → Option Value}
  {L a : Addr} {cd : Value} {h₀ : Heap} {m : Str → Option Value}

/-- the menu's item in the comprehension's frame -/
theorem sign_elt {env : Env} {c0 c1 c2 c3 c4 c5 c6 c7 c8 c9 : Str} (e0 : c0 = ⟨[46].toArray⟩) (e1 : c1 = ⟨[13].toArray⟩) (e2 : c2 = ⟨[10].toArray⟩) (e3 : c3 = ⟨[97].toArray⟩) (e4 : c4 = ⟨[46].toArray⟩) (e5 : c5 = ⟨[13].toArray⟩) (e6 : c6 = ⟨[10].toArray⟩) (e7 : c7 = ⟨[12].toArray⟩) (e8 : c8 = ⟨[133].toArray⟩) (e9 : c9 = ⟨([] : List Nat).toArray⟩) {k0 k1 k2 k3 k4 k5 k6 k7 k8 k9 kt kc : Nat} {q0 q1 q2 q3 q4 q5 q6 q7 q8 q9 qt p1 p2 p3 p4 : Pos} {n : Int} {t : Tok} {Q : Value → Shared → Prop}
    (hk : env.scope.kind = .function) (hx : env.kindOf "x" = some .local) (hn : s.heap.Ns env.locals m) (hm : m "x" = some (.int n t))
    (hq : ∀ t' h' tk, Kept s.heap h' → Q (.str ⟨(menu n).toArray⟩ t') { s with heap := h', toks := tk }) :
    wpAny (model prog w) A (eval (.Subscript (.Tuple [.Constant (.str c0) k0 q0, .Constant (.str c1) k1 q1, .Constant (.str c2) k2 q2, .Constant (.str c3) k3 q3, .Constant (.str c4) k4 q4, .Constant (.str c5) k5 q5, .Constant (.str c6) k6 q6, .Constant (.str c7) k7 q7, .Constant (.str c8) k8 q8, .Constant (.str c9) k9 q9] kt qt) (.BinOp (.Name "x" p1) .Mod (.Constant (.int 10) kc p2) p3) p4) env) Q E s := by
  refine Subscript_ ?_
  refine wpAny_Tuple ?_
  refine spliced_more ?_
  refine wpAny_Constant_str ?_
  refine spliced_more ?_
  refine wpAny_Constant_str ?_
  refine spliced_more ?_
  refine wpAny_Constant_str ?_
  refine spliced_more ?_
  refine wpAny_Constant_str ?_
  refine spliced_more ?_
  refine wpAny_Constant_str ?_
  refine spliced_more ?_
  refine wpAny_Constant_str ?_
  refine spliced_more ?_
  refine wpAny_Constant_str ?_
  refine spliced_more ?_
  refine wpAny_Constant_str ?_
  refine spliced_more ?_
  refine wpAny_Constant_str ?_
  refine spliced_more ?_
  refine wpAny_Constant_str ?_
  refine spliced_none ⟨by show 10 ≤ sizeLine; decide, ?_⟩
  subst e0 e1 e2 e3 e4 e5 e6 e7 e8 e9
  dsimp only
  generalize hvs : [Value.str ⟨[46].toArray⟩ s.toks, .str ⟨[13].toArray⟩ (s.toks + 1), .str ⟨[10].toArray⟩ (s.toks + 1 + 1), .str ⟨[97].toArray⟩ (s.toks + 1 + 1 + 1), .str ⟨[46].toArray⟩ (s.toks + 1 + 1 + 1 + 1),
    .str ⟨[13].toArray⟩ (s.toks + 1 + 1 + 1 + 1 + 1), .str ⟨[10].toArray⟩ (s.toks + 1 + 1 + 1 + 1 + 1 + 1), .str ⟨[12].toArray⟩ (s.toks + 1 + 1 + 1 + 1 + 1 + 1 + 1), .str ⟨[133].toArray⟩ (s.toks + 1 + 1 + 1 + 1 + 1 + 1 + 1 + 1),
    .str ⟨([] : List Nat).toArray⟩ (s.toks + 1 + 1 + 1 + 1 + 1 + 1 + 1 + 1 + 1)] = vs
  have h0 : 0 ≤ n.fmod 10 := Int.fmod_nonneg_of_pos _ (by decide)
  have h1 : n.fmod 10 < 10 := Int.fmod_lt_of_pos _ (by decide)
  have hvl : vs.length = 10 := by rw [← hvs]; rfl
  have hget : ∃ t', vs.toArray[(n.fmod 10).toNat]? = some (.str ⟨(menu n).toArray⟩ t') := by
    unfold menu
    have hj : (n.fmod 10).toNat < 10 := by omega
    generalize (n.fmod 10).toNat = j at hj
    subst hvs
    match j, hj with
    | 0, _ => exact ⟨_, rfl⟩
    | 1, _ => exact ⟨_, rfl⟩
    | 2, _ => exact ⟨_, rfl⟩
    | 3, _ => exact ⟨_, rfl⟩
    | 4, _ => exact ⟨_, rfl⟩
    | 5, _ => exact ⟨_, rfl⟩
    | 6, _ => exact ⟨_, rfl⟩
    | 7, _ => exact ⟨_, rfl⟩
    | 8, _ => exact ⟨_, rfl⟩
    | 9, _ => exact ⟨_, rfl⟩
    | j + 10, hj => exact absurd hj (by omega)
  obtain ⟨t', hget⟩ := hget
  refine wpAny_BinOp ?_
  refine wpAny_Name (wpAny_loadName_local hk hx (hn.keeps kept_push) hm ?_) (by decide)
  refine wpAny_Constant_int ?_
  refine mod_int (by decide) ?_
  have hT : IsTup (s.heap.push { cls := .type "tuple", data := .seq vs.toArray }) s.heap.objs.size vs.toArray := ⟨_, Heap.get?_push_size _ rfl, rfl, 0, rfl⟩
  refine tail_any (ops := [.ref s.heap.objs.size, .int (n.fmod 10) _]) (typeIs_of_get (Heap.get?_push_size _ rfl) rfl) PySem.F.slot_tuple_getitem.lookup ?_ (by with_unfolding_all rfl)
  refine getItem_tuple (s := { s with heap := s.heap.push { cls := .type "tuple", data := .seq vs.toArray }, toks := _ }) hT (by omega) (by omega) (j := (n.fmod 10).toNat) ?_ hget ?_
  · unfold seqIndex?
    dsimp only
    have h4 : n.fmod 10 < ((vs.toArray.size : Nat) : Int) := by simp [hvl]; exact h1
    rw [if_neg (show ¬ n.fmod 10 < 0 by omega), if_pos (by simp only [Bool.and_eq_true, decide_eq_true_eq]; exact ⟨h0, h4⟩)]
  · exact hq t' _ _ kept_push
end
end Mine

-- part Walk15
namespace Mine
open PySem PySem.Builtin PyProof.Rows

theorem ints_to_ps : ∀ {vs ys : List Value} {ns : List Int}, IntsAre vs ns → Paired (fun v y => ∀ n t, v = Value.int n t → ∃ t', y = Value.str ⟨(menu n).toArray⟩ t') vs ys →
    ∃ ps : List (List Nat × Tok), ys = pVals false ps ∧ ps.map (·.1) = ns.map menu
  | _, _, _, .nil, .nil => ⟨[], rfl, rfl⟩
  | _, _, _, .cons n t hi, .cons h hr => by
    obtain ⟨ps, e1, e2⟩ := ints_to_ps hi hr
    obtain ⟨t', rfl⟩ := h n t rfl
    exact ⟨(menu n, t') :: ps, by rw [e1]; rfl, by rw [List.map_cons, List.map_cons, e2]⟩
theorem IntsAre.item {vs : List Value} {ns : List Int} {i : Nat} {v : Value} (h : IntsAre vs ns) (hv : vs[i]? = some v) : ∃ n t, v = .int n t := by
  have hi : i < ns.length := by rw [← h.length]; exact (List.getElem?_eq_some_iff.mp hv).1
  obtain ⟨t, e⟩ := h.get i ns[i] (List.getElem?_eq_getElem hi)
  rw [hv] at e
  exact ⟨_, t, Option.some.inj e⟩
theorem IntsAre.mem {vs : List Value} {ns : List Int} {v : Value} (h : IntsAre vs ns) (hv : v ∈ vs) : ∃ n t, v = .int n t := by
  obtain ⟨i, hi, rfl⟩ := List.mem_iff_getElem.mp hv
  exact IntsAre.item h (List.getElem?_eq_getElem hi)

section
variable {prog : Program} {w : World} {A : Around} {E : Value → Shared → Prop} {s : Shared} {mg mb : Str → Option Value}
  {L a : Addr} {cd : Value} {h₀ : Heap} {m : Str → Option Value} {Q : Flow → Shared → Prop}

/-- for x in numbers[1:] -/
theorem law_for {an : Addr} {v : Value} {vs : List Value} {ns : List Int} {ess : List (List Ent)} (G : GG mg mb h₀) (hroom : A.depth + 1 < recursionLimit) (hh : A.handled = none) (hu : A.units + 20 < cLine)
    (F : Fr h₀ L s.heap m) (hm : m "numbers" = some (.ref an)) (hl : s.heap.IsList an vs.toArray) (hi : IntsAre vs ns) (hp : m "parts" = some v) (hv : PartsAt s.heap v ess) (hP : PInv 0 ess) (hlen : ess.length = vs.length) (h1 : 1 ≤ vs.length) (h16 : vs.length ≤ 16)
    (hq : ∀ h' tk m', Fr h₀ L h' m' → Q .next { s with heap := h', toks := tk }) :
    wpAny (model prog w) A (exec lawFor (envOf (fName 12) (fScope 12) L a cd)) Q E s := by
  refine wpAny_For ?_
  refine wpAny_Subscript_list_slice ?_
  refine ld F hm ?_
  refine wpAny_evalPart_some ?_
  refine wpAny_Constant_int ?_
  refine wpAny_evalPart_none ?_
  refine ⟨an, vs.toArray, some 1, none, rfl, hl, by rw [sizeLine_eq]; simp; omega, .int _ _, .none, ?_⟩
  rw [pick_from vs 1 (by decide)]
  dsimp only
  have hax : ((s.heap.push { cls := .type "slice", data := .fields #[Value.int 1 s.toks, Value.none, .none] }).push { cls := .type "list", data := .seq (vs.drop 1).toArray }).IsList (s.heap.objs.size + 1) (vs.drop 1).toArray := by
    have e : s.heap.objs.size + 1 = (s.heap.push { cls := .type "slice", data := .fields #[Value.int 1 s.toks, Value.none, .none] }).objs.size := by rw [Heap.size_push]
    rw [e]
    exact ⟨_, Heap.get?_push_size _ rfl, rfl, 0, rfl⟩
  have k₁ : Kept s.heap ((s.heap.push { cls := .type "slice", data := .fields #[Value.int 1 s.toks, Value.none, .none] }).push { cls := .type "list", data := .seq (vs.drop 1).toArray }) := fun b o e => kept_push b o (kept_push b o e)
  show wpAny _ _ (pyIter (.ref (s.heap.objs.size + 1))) _ _ { s with heap := (s.heap.push { cls := .type "slice", data := .fields #[Value.int 1 s.toks, Value.none, .none] }).push { cls := .type "list", data := .seq (vs.drop 1).toArray }, toks := s.toks + 1 }
  generalize (s.heap.push { cls := .type "slice", data := .fields #[Value.int 1 s.toks, Value.none, .none] }).push { cls := .type "list", data := .seq (vs.drop 1).toArray } = h₁ at hax k₁ ⊢
  generalize s.heap.objs.size + 1 = ax at hax ⊢
  have F₁ := Fr.kept F k₁
  have hv₁ := PartsAt.keeps (Kept.toS k₁) hv
  refine wpAny_pyIter_list (s := { s with heap := h₁, toks := s.toks + 1 }) hax ?_
  dsimp only
  generalize hI : h₁.objs.size = I
  have hLs : L < h₁.objs.size := F₁.ns.lt
  have hI0 : h₀.objs.size ≤ I := hI ▸ Nat.le_trans F.above (Nat.le_of_lt hLs)
  have hIL : I ≠ L := hI ▸ Nat.ne_of_gt hLs
  have hIa : ax ≠ I := by obtain ⟨o, e, _⟩ := id hax; exact hI ▸ Nat.ne_of_lt (Heap.lt_size e)
  have hid : IntsAre (vs.drop 1) (ns.drop 1) := by
    cases hi with
    | nil => exact .nil
    | cons n t h => exact h
  have hdl : (vs.drop 1).length = vs.length - 1 := by simp
  refine codeAny_forLoop_any (fun n s' => ∃ h tk m v ess i, s' = { s with heap := h, toks := tk } ∧ n = vs.length - i ∧ i ≤ vs.length - 1 ∧ Fr h₀ L h m ∧ m "parts" = some v ∧ PartsAt h v ess ∧ PInv i ess ∧ ess.length + i = vs.length ∧
    h.IsListIter I ax i ∧ h.IsList ax (vs.drop 1).toArray) ?_ vs.length ?_
  · rintro n s' ⟨h, tk, m, v, ess, i, rfl, rfl, hi', F, hp, hv, hP, hlen, hit, hl⟩
    rcases Nat.lt_or_ge i (vs.length - 1) with hlt | hge
    · have hlt' : i < (vs.drop 1).length := by omega
      have hx : (vs.drop 1).toArray[i]? = some (vs.drop 1)[i] := by simp
      obtain ⟨x, tx, hxe⟩ := IntsAre.item hid (List.getElem?_eq_getElem hlt')
      rw [hxe] at hx
      refine wpAny_pyNext_list_item (s := { s with heap := h, toks := tk }) hit hl hx ?_
      intro h₂ hit₂ hs₂
      dsimp only
      refine wpAny_pure ?_
      have F₂ : Fr h₀ L h₂ m := Fr.off F hs₂ hI0 hIL
      have kS₂ : KeptS h h₂ := keptS_iter hit fun b o hb e => by rw [hs₂.2 b hb]; exact e
      refine wpAny_assign_Name ?_
      refine stF (s := { s with heap := h₂, toks := tk }) F₂ ?_
      intro h₃ F₃ f₃
      refine law_turn (s := { s with heap := h₃, toks := tk + 1 }) G hroom hh hu F₃ (if_pos rfl) ((if_neg (by decide)).trans hp) (PartsAt.keeps (kS₂.trans f₃.toS) hv) hP (by omega) (by omega) (by omega) ?_
      intro h₄ tk₄ m₄ v₄ ess₄ F₄ hp₄ hv₄ hP₄ hl₄ f₄
      refine ⟨vs.length - (i + 1), by omega, h₄, tk₄, m₄, v₄, ess₄, i + 1, rfl, rfl, by omega, F₄, hp₄, hv₄, hP₄, by omega, ?_, ?_⟩
      · obtain ⟨o, e1, e2, e3⟩ := hit₂
        exact ⟨o, f₄ _ _ (f₃ _ _ e1 (nonDict_fields e3)) (nonDict_fields e3), e2, e3⟩
      · exact IsList.keepsS ((kS₂.trans f₃.toS).trans f₄.toS) hl
    · have hx : (vs.drop 1).toArray[i]? = none := by simp; omega
      refine wpAny_pyNext_list_end (s := { s with heap := h, toks := tk }) hh hit hl hx ?_
      intro h₂ hs₂
      dsimp only
      refine wpAny_execs_nil ?_
      refine hq h₂ tk m ⟨?_, fun b o e => hs₂ b o ?_ (F.keep b o e), F.above⟩
      · obtain ⟨o, es, ep, e, r⟩ := F.ns
        exact ⟨o, es, ep, hs₂ L o (Ne.symm hIL) e, r⟩
      · exact Nat.ne_of_lt (Nat.lt_of_lt_of_le (Heap.lt_size e) hI0)
  · refine ⟨_, s.toks + 1, m, v, ess, 0, rfl, rfl, Nat.zero_le _, Fr.kept F₁ kept_push, hp, PartsAt.keeps (Kept.toS kept_push) hv₁, hP, by omega, ?_, ?_⟩
    · exact ⟨_, hI ▸ Heap.get?_push_size _ rfl, rfl, rfl⟩
    · exact hax.push _
end
end Mine

-- part Walk16
namespace Mine
open PySem PySem.Builtin PyProof.Rows

section
variable {prog : Program} {w : World} {A : Around} {E : Value → Shared → Prop} {s : Shared} {mg mb : Str → Option Value}
  {L a : Addr} {cd : Value} {h₀ : Heap} {m : Str → Option Value} {Q : Flow → Shared → Prop}

theorem pinv_start (ns : List Int) (h : ns.length ≤ 16) : PInv 0 (ns.map fun n => [mkFresh (menu n)]) where
  ok := by
    intro es hes
    obtain ⟨n, _, rfl⟩ := List.mem_map.mp hes
    exact menu_part n
  tot := by
    rw [List.map_map]
    have : (ns.map (List.length ∘ fun n => [mkFresh (menu n)])).sum = ns.length := by
      clear h
      induction ns with
      | nil => rfl
      | cons n ns ih => rw [List.map_cons, List.sum_cons, ih, List.length_cons]; show 1 + _ = _; omega
    rw [this]; exact h

set_option maxHeartbeats 2000000 in
theorem law_body {sc : Addr} {svs : List Value} {ns : List Int} (G : GG mg mb h₀) (hroom : A.depth + 1 < recursionLimit) (hh : A.handled = none) (hu : A.units + 20 < cLine)
    (F : Fr h₀ L s.heap m) (hm : m "script" = some (.ref sc)) (hl : s.heap.IsList sc svs.toArray) (hi : IntsAre svs ns) (hn : svs.length ≤ 100000)
    (hq : ∀ h' tk m', Fr h₀ L h' m' → Q (.ret (.bool true)) { s with heap := h', toks := tk }) :
    wpAny (model prog w) A (execs (fBody 12) (envOf (fName 12) (fScope 12) L a cd)) Q E s := by
  -- numbers = [..] + script[:8]
  refine wpAny_execs_cons ?_
  refine wpAny_Assign_Name ?_
  refine wpAny_BinOp ?_
  refine wpAny_List ?_
  refine spliced_more ?_
  refine wpAny_Constant_int ?_
  refine spliced_more ?_
  refine wpAny_Constant_int ?_
  refine spliced_more ?_
  refine wpAny_Constant_int ?_
  refine spliced_more ?_
  refine wpAny_Constant_int ?_
  refine spliced_more ?_
  refine wpAny_Constant_int ?_
  refine spliced_more ?_
  refine wpAny_Constant_int ?_
  refine spliced_more ?_
  refine wpAny_Constant_int ?_
  refine spliced_more ?_
  refine wpAny_Constant_int ?_
  refine spliced_none ⟨by show 8 ≤ sizeLine; decide, ?_⟩
  dsimp only
  obtain ⟨ks, hks⟩ : ∃ ks : List Int, ks = [31, 0, 22, 4, 15, 6, 13, 4] := ⟨_, rfl⟩
  obtain ⟨fv, hfi, hfv⟩ : ∃ fv, IntsAre fv ks ∧ fv = [Value.int 31 s.toks, .int 0 (s.toks + 1), .int 22 (s.toks + 1 + 1), .int 4 (s.toks + 1 + 1 + 1), .int 15 (s.toks + 1 + 1 + 1 + 1), .int 6 (s.toks + 1 + 1 + 1 + 1 + 1),
    .int 13 (s.toks + 1 + 1 + 1 + 1 + 1 + 1), .int 4 (s.toks + 1 + 1 + 1 + 1 + 1 + 1 + 1)] :=
    ⟨_, by rw [hks]; exact .cons _ _ (.cons _ _ (.cons _ _ (.cons _ _ (.cons _ _ (.cons _ _ (.cons _ _ (.cons _ _ .nil))))))), rfl⟩
  rw [← hfv]
  have hk8 : ks.length = 8 := by rw [hks]; rfl
  have hf8 : fv.length = 8 := by rw [hfi.length]; exact hk8
  have hf₁ : (s.heap.push { cls := .type "list", data := .seq fv.toArray }).IsList s.heap.objs.size fv.toArray := ⟨_, Heap.get?_push_size _ rfl, rfl, 0, rfl⟩
  have k₁ : Kept s.heap (s.heap.push { cls := .type "list", data := .seq fv.toArray }) := kept_push
  generalize s.heap.push { cls := .type "list", data := .seq fv.toArray } = h₁ at hf₁ k₁ ⊢
  generalize s.heap.objs.size = D₁ at hf₁ ⊢
  have F₁ := Fr.kept F k₁
  refine wpAny_Subscript_list_slice ?_
  refine ld (s := { s with heap := h₁, toks := _ }) F₁ hm ?_
  refine wpAny_evalPart_none ?_
  refine wpAny_evalPart_some ?_
  refine wpAny_Constant_int ?_
  refine ⟨sc, svs.toArray, none, some 8, rfl, IsList.keepsS (Kept.toS k₁) hl, by rw [sizeLine_eq]; simp; omega, .none, .int _ _, ?_⟩
  rw [pick_upto svs 8 (by decide)]
  dsimp only
  generalize hHa : h₁.push { cls := .type "slice", data := .fields #[Value.none, .int 8 _, .none] } = ha
  have ka : Kept h₁ ha := hHa ▸ kept_push
  have hsz : h₁.objs.size + 1 = ha.objs.size := by rw [← hHa, Heap.size_push]
  rw [hsz]
  have hs₂ : (ha.push { cls := .type "list", data := .seq (svs.take 8).toArray }).IsList ha.objs.size (svs.take 8).toArray := ⟨_, Heap.get?_push_size _ rfl, rfl, 0, rfl⟩
  have k₂ : Kept ha (ha.push { cls := .type "list", data := .seq (svs.take 8).toArray }) := kept_push
  show wpAny _ _ (binaryOp .Add (.ref D₁) (.ref ha.objs.size)) _ _ { s with heap := ha.push { cls := .type "list", data := .seq (svs.take 8).toArray }, toks := _ }
  generalize ha.push { cls := .type "list", data := .seq (svs.take 8).toArray } = h₂ at hs₂ k₂ ⊢
  generalize ha.objs.size = D₂ at hs₂ ⊢
  have k12 : Kept h₁ h₂ := fun b o e => k₂ b o (ka b o e)
  refine add_raw (s := { s with heap := h₂, toks := _ }) (IsList.keepsS (Kept.toS k12) hf₁) hs₂ (by simp; omega) ?_
  intro an h₃ hl₃ k₃
  have hi₃ : IntsAre (fv ++ svs.take 8) (ks ++ ns.take 8) := hfi.append (hi.take 8)
  have hnl : (fv ++ svs.take 8).length ≤ 16 ∧ 8 ≤ (fv ++ svs.take 8).length := by simp; omega
  generalize fv ++ svs.take 8 = vs at hl₃ hi₃ hnl
  generalize ks ++ ns.take 8 = ms at hi₃
  have k03 : Kept s.heap h₃ := fun b o e => k₃ b o (k12 b o (k₁ b o e))
  dsimp only
  refine stF (s := { s with heap := h₃, toks := _ }) (Fr.kept F k03) ?_
  intro h₄ F₄ f₄
  obtain ⟨m₄, F₄, hn4⟩ : ∃ m₄, Fr h₀ L h₄ m₄ ∧ m₄ "numbers" = some (.ref an) := ⟨_, F₄, if_pos rfl⟩
  have hl₄ := IsList.keepsS f₄.toS hl₃
  -- signs
  refine wpAny_execs_cons ?_
  refine wpAny_Assign_ListComp_map (fun _ => true) (fun v y => ∀ n t, v = Value.int n t → ∃ t', y = Value.str ⟨(menu n).toArray⟩ t') ?_ hh ?_ ?_ ?_ ?_ ?_ ?_ ?_ ?_ ?_
  · rfl
  · decide
  · decide
  · rfl
  · decide
  · rfl
  · rfl
  · rfl
  · refine ld (s := { s with heap := h₄, toks := _ }) F₄ hn4 ?_
    refine ⟨an, vs.toArray, m₄, rfl, hl₄, by rw [sizeLine_eq]; simp; omega, F₄.ns, ?_, ?_, ?_⟩
    · intro C u s₂ m₂ E' _ _ _ _
      exact wpAny_pure ⟨rfl, s₂.heap, s₂.toks, rfl, fun _ _ h => h⟩
    · intro C u s₂ m₂ E' hu' _ hns hmx _
      obtain ⟨n, t, rfl⟩ := IntsAre.mem hi₃ (by simpa using hu')
      refine sign_elt (m := m₂) (n := n) (t := t) ?_ ?_ ?_ ?_ ?_ ?_ ?_ ?_ ?_ ?_ ?_ ?_ ?_ ?_ ?_
      · exact sDot
      · exact sCr
      · exact sLf
      · exact sA
      · exact sDot
      · exact sCr
      · exact sLf
      · exact sFf
      · exact sNel
      · exact sEmpty
      · rfl
      · rfl
      · exact hns
      · exact hmx
      · intro t' h' tk hk'
        refine ⟨fun n' t'' e => ?_, h', tk, rfl, hk'⟩
        cases e
        exact ⟨t', rfl⟩
    · intro D₅ h₅ tk₅ ys hD₅ hl₅ hpair hns₅ hk₅
      have e : (vs.toArray.toList.filter fun _ => true) = vs := by simp
      rw [e] at hpair
      obtain ⟨ps, e1, e2⟩ := ints_to_ps hi₃ hpair
      have hL5 : L < h₄.objs.size := F₄.ns.lt
      have F₅ : Fr h₀ L h₅ (fun z => if z = ("signs" : Str) then some (.ref D₅) else m₄ z) := ⟨hns₅, fun b o e => hk₅ b o (Nat.ne_of_lt (Nat.lt_of_lt_of_le (Heap.lt_size e) F₄.above)) (F₄.keep b o e), F₄.above⟩
      have f₅ : Fine h₄ h₅ := by
        intro b o e hnd
        refine hk₅ b o ?_ e
        intro hb
        have hb' : b = L := hb
        rw [hb'] at e
        obtain ⟨o', es, ep, e', d, _⟩ := F₄.ns
        have e'' : h₄.get? L = some o := e
        rw [e''] at e'; cases e'
        exact hnd es ep d
      have hl5' : h₅.IsList D₅ (pVals false ps).toArray := by
        have : ys = (pVals false ps).toArray := by rw [← e1]
        rw [← this]; exact hl₅
      have hpsl : ps.length = vs.length := by
        have := congrArg List.length e2
        rw [List.length_map, List.length_map] at this
        rw [this, hi₃.length]
      -- parts
      refine wpAny_execs_cons ?_
      refine parts_assign (s := { s with heap := h₅, toks := tk₅ }) (ps := ps) (cs' := _) hh G F₅ (if_pos rfl) hl5' ?_ (by omega) ?_ ?_ ?_ ?_ ?_ ?_ ?_ ?_ ?_ ?_ ?_ ?_ ?_ ?_
      · intro p hp
        have hmem : p.1 ∈ ms.map menu := by rw [← e2]; exact List.mem_map.mpr ⟨p, hp, rfl⟩
        obtain ⟨n, _, hn'⟩ := List.mem_map.mp hmem
        have := menu_ok _ (menu_mem n)
        rw [hn'] at this
        exact ⟨this.1, by omega⟩
      · rfl
      · decide
      · decide
      · rfl
      · decide
      · rfl
      · rfl
      · decide
      · decide
      · rfl
      · decide
      · rfl
      · rfl
      · intro h₆ tk₆ v₆ F₆ hP₆ f₆
        have hess : (ps.map fun p => [mkFresh p.1]) = ms.map fun n => [mkFresh (menu n)] := by
          have : (ps.map fun p => [mkFresh p.1]) = (ps.map (·.1)).map fun l => [mkFresh l] := by rw [List.map_map]; rfl
          rw [this, e2, List.map_map]; rfl
        rw [hess] at hP₆
        refine wpAny_execs_cons ?_
        refine law_for (s := { s with heap := h₆, toks := tk₆ }) (vs := vs) (ns := ms) (an := an) (v := v₆) G hroom hh hu F₆ ?_ (IsList.keepsS (f₅.toS.trans f₆.toS) hl₄) hi₃ (if_pos rfl) hP₆ (pinv_start ms (by rw [← hi₃.length]; omega)) (by rw [List.length_map, ← hi₃.length]) (by omega) (by omega) ?_
        · exact (if_neg (by decide)).trans ((if_neg (by decide)).trans hn4)
        · intro h₇ tk₇ m₇ F₇
          refine wpAny_execs_cons ?_
          refine wpAny_Return_some ?_
          refine wpAny_Constant_bool ?_
          exact hq h₇ tk₇ m₇ F₇
  · intro _; rfl
end
end Mine

-- part Glue
namespace Mine
open PySem PySem.W PySem.Builtin PyProof.Rows

def patIn (K : Frag) (isB : Bool) (code : Array Nat) (P T : Addr) : Bool :=
  match K.lookup P, K.lookup T with
  | some ⟨c, none, .fields vs, _⟩, some ⟨c2, _, .seq xs _, _⟩ => c == .type "re.Pattern" && vs.getD 2 .none == .int 0 0 && vs.getD 5 .none == .ref T && vs.getD 6 .none == .int (kindOf isB : Nat) 0 && c2 == .type "tuple" && xs == (code.map fun (c : Nat) => Value.int (c : Int) 0)
  | _, _ => false
theorem patAt_of {K : Frag} {h : Heap} (X : K.In h) {isB : Bool} {code : Array Nat} {P T : Addr} (e : patIn K isB code P T = true) : PatAt h isB code P := by
  unfold patIn at e
  split at e
  · rename_i c vs sl c2 d2 xs n sl2 h1 h2
    simp only [Bool.and_eq_true, beq_iff_eq] at e
    obtain ⟨⟨⟨⟨⟨e1, e2⟩, e3⟩, e4⟩, e5⟩, e6⟩ := e
    exact ⟨_, vs, T, _, n, X _ _ h1, ⟨e1, rfl⟩, rfl, e2, e3, e4, X _ _ h2, e5, by rw [e6]⟩
  · exact absurd e Bool.false_ne_true

theorem fnIs_of {p : Program} {loose : List Str} {mean : ExcName → Option Value} {mg mb : Str → Option Value} {h : Heap} (T : Top p loose mean mg mb h) (d : DefRec) (hd : d ∈ recsOf p) (i : Nat) (n : Str)
    (en : n = d.name) (e1 : d.name = fName i) (e2 : d.params = fParams i) (e3 : d.body = fBody i) (e4 : d.scope = fScope i) : ∃ a, mg n = some (.ref a) ∧ FnIs h a i := by
  obtain ⟨a, o, pm, code, doc, h1, h2, h3, h4⟩ := T.fn d hd
  refine ⟨a, by rw [en]; exact h1, o, pm, code, doc, h2, ?_, ?_⟩
  · rw [h3, e1, e2, e3, e4]
  · rw [← e1]; exact h4
theorem fnIs_at {p : Program} {loose : List Str} {mean : ExcName → Option Value} {mg mb : Str → Option Value} {h : Heap} (T : Top p loose mean mg mb h) (k : Nat) (hk : k < (recsOf p).length) (i : Nat) (n : Str)
    (en : n = (recsOf p)[k].name) (e1 : (recsOf p)[k].name = fName i) (e2 : (recsOf p)[k].params = fParams i) (e3 : (recsOf p)[k].body = fBody i) (e4 : (recsOf p)[k].scope = fScope i) : ∃ a, mg n = some (.ref a) ∧ FnIs h a i :=
  fnIs_of T _ (List.getElem_mem hk) i n en e1 e2 e3 e4
end Mine

-- the end: the head by the library's words, then the law by its contract
open PySem PySem.W PyProof.Rows Mine
set_option maxHeartbeats 8000000 in
theorem PySem.Challenge.cw_op0303_01_holds : PySem.Challenge.rw_op0303_01.Holds := by
  w_on
  o_law
  k_head
  case hw => w_witness2
  k_fill
  intro w s₀ s₁ mg mb G Y fa o pm cd doc dV kV ho hd hcd hD hmg hg args vals as hpre hlay hrd hwl hlo
  have KX := kIn_of Y
  refine Ground.open G ?_
  intro T B D TE TW
  try (refine guard_noD D (by decide +kernel) ?_; clear D)
  have GG₁ : GG mg mb s₁.heap := {
    g := T.g
    b := T.b
    lim := T.nolimit
    len := ⟨T.free _ (by decide +kernel) (by decide +kernel) (by decide +kernel) (by decide +kernel) (by decide +kernel), (T.builtins _ (by decide)).trans Boot.«len»⟩
    bytes := ⟨T.free _ (by decide +kernel) (by decide +kernel) (by decide +kernel) (by decide +kernel) (by decide +kernel), (T.builtins _ (by decide)).trans Boot.«bytes»⟩
    ord := ⟨T.free _ (by decide +kernel) (by decide +kernel) (by decide +kernel) (by decide +kernel) (by decide +kernel), (T.builtins _ (by decide)).trans Boot.«ord»⟩
    crlf := ⟨358, (mg_of KX T.g (v := .str (Str.ofString "\r\n") 358) (by kernel_rfl)).trans (by rw [sCrLf])⟩
    p1 := ⟨36, mg_of KX T.g (by kernel_rfl), patAt_of KX (T := 35) (by kernel_rfl)⟩
    p2 := ⟨41, mg_of KX T.g (by kernel_rfl), patAt_of KX (T := 40) (by kernel_rfl)⟩
    p3 := ⟨46, mg_of KX T.g (by kernel_rfl), patAt_of KX (T := 45) (by kernel_rfl)⟩
    fq := fnIs_at T 0 (by decide +kernel) 6 _ (by kernel_rfl) (by kernel_rfl) (by kernel_rfl) (by kernel_rfl) (by kernel_rfl)
    fp := fnIs_at T 1 (by decide +kernel) 7 _ (by kernel_rfl) (by kernel_rfl) (by kernel_rfl) (by kernel_rfl) (by kernel_rfl)
    fe := fnIs_at T 2 (by decide +kernel) 8 _ (by kernel_rfl) (by kernel_rfl) (by kernel_rfl) (by kernel_rfl) (by kernel_rfl)
    fs := fnIs_at T 3 (by decide +kernel) 10 _ (by kernel_rfl) (by kernel_rfl) (by kernel_rfl) (by kernel_rfl) (by kernel_rfl)
    ft := fnIs_at T 4 (by decide +kernel) 11 _ (by kernel_rfl) (by kernel_rfl) (by kernel_rfl) (by kernel_rfl) (by kernel_rfl) }
  wrow_args hpre hlay hrd hwl hlo
  refine enter_call ?_
  w_top on
  w_call any ho hd hcd hD T F
  rename IntsAre _ _ => hI
  rename Heap.IsList _ _ _ => hL
  rename ¬ (_ : Int) < _ => hlen
  have hL' := hL.at fun o e => F.keep _ o e
  refine law_body (L := s₁.heap.objs.size) (a := fa) (cd := cd) (h₀ := s₁.heap) GG₁ ?_ ?_ ?_ F ?_ hL' hI ?_ ?_
  · show callerA.depth + 1 + 1 < recursionLimit
    decide +kernel
  · rfl
  · show callerA.units + 3 + 20 < cLine
    decide +kernel
  · rfl
  · have := hI.length
    omega
  · intro h' tk m' F'
    refine GoodW.toG ?_
    refine goodW_bool (s₁ := s₁) (s' := { heap := h', gens := s₁.gens, drawn := s₁.drawn, toks := tk, os := s₁.os }) F' ?_ ?_ ?_ rfl
    · exact hg
    · exact raisesW_false (by wrow_none_raised)
    · wrow_post
