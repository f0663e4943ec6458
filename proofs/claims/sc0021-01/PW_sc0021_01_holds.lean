import PyProof.Rows.All
import Wide.All
import OpenK.AllK
import Wide.FinOn
import PySem.Challenge.RW_sc0021_01

set_option Elab.async false
set_option maxRecDepth 100000
set_option maxHeartbeats 8000000

section
open PySem PySem.Sre
namespace Mine

theorem runFor_add (a b : Nat) (m : M) : M.runFor (a + b) m = M.runFor b (M.runFor a m) := by
  induction a generalizing m with
  | zero => rw [Nat.zero_add]; rfl
  | succ a ih =>
    rw [show a + 1 + b = (a + b) + 1 from by omega]
    by_cases h : m.outcome.isSome = true
    · have e1 : M.runFor (a + b + 1) m = m := by unfold M.runFor; rw [if_pos h]
      have e2 : M.runFor (a + 1) m = m := by unfold M.runFor; rw [if_pos h]
      rw [e1, e2]
      cases b with
      | zero => rfl
      | succ b => unfold M.runFor; rw [if_pos h]
    · have e1 : M.runFor (a + b + 1) m = M.runFor (a + b) m.step := by rw [M.runFor, if_neg h]
      have e2 : M.runFor (a + 1) m = M.runFor a m.step := by rw [M.runFor, if_neg h]
      rw [e1, e2, ih]

/-- m comes to m' within n steps -/
def Goes (n : Nat) (m m' : M) : Prop := ∃ k, k ≤ n ∧ M.runFor k m = m'

theorem Goes.refl {m : M} : Goes 0 m m := ⟨0, Nat.le_refl _, rfl⟩
theorem Goes.trans {a b : Nat} {m m' m'' : M} (x : Goes a m m') (y : Goes b m' m'') : Goes (a + b) m m'' := by
  obtain ⟨k, hk, rfl⟩ := x
  obtain ⟨l, hl, rfl⟩ := y
  exact ⟨k + l, Nat.add_le_add hk hl, runFor_add _ _ _⟩
theorem Goes.le {a b : Nat} {m m' : M} (x : Goes a m m') (h : a ≤ b) : Goes b m m' := let ⟨k, hk, e⟩ := x; ⟨k, Nat.le_trans hk h, e⟩
theorem Goes.one {m m' : M} (h : m.outcome = none) (e : m.step = m') : Goes 1 m m' := ⟨1, Nat.le_refl _, by
  show (if m.outcome.isSome then m else M.runFor 0 m.step) = m'
  rw [h]; exact e⟩
theorem Goes.cons {n : Nat} {m m' m'' : M} (h : m.outcome = none) (e : m.step = m') (y : Goes n m' m'') : Goes (n + 1) m m'' := by
  have := (Goes.one h e).trans y
  rwa [Nat.add_comm] at this

def code1 : Array Nat := #[14, 4, 0, 1, 1, 6, 1, 16, 46, 1]
def code2 : Array Nat := #[14, 9, 4, 1, 2, 16, 10, 16, 13, 0, 7, 7, 16, 13, 16, 10, 15, 18, 5, 16, 10, 15, 13, 11, 16, 13, 5, 5, 0, 16, 10, 1, 15, 2, 0, 1]

/-- the machine of the first pattern -/
def mk1 (t : Array Nat) (s : Nat) (f : Bool) (sn : Seen) (pc pos hd : Nat) (fr : List Sre.Frame) (w : Nat) (ans : Option Bool) (out : Option Sre.Outcome) : M :=
  { code := code1, text := t, lim := t.size, start := s, lastStart := t.size, wholeText := false, mustAdvance := false, pc := pc, pos := pos, handed := hd, outermost := f,
    marks := #[], lastmark := -1, lastindex := -1, loops := #[], inner := none, frames := fr, weight := w, answer := ans, seen := sn, outcome := out }
def fr1 (s : Nat) (f : Bool) : Sre.Frame := { wait := .nextStart, pc := 5, pos := s, outermost := f }
/-- .. at a start -/
def st1 (t : Array Nat) (s : Nat) (f : Bool) (sn : Seen) : M := mk1 t s f sn 5 s s [fr1 s f] 1 none none

/-- a row's begin -/
def atRow (t : Array Nat) (s : Nat) : Bool := s == 0 || t.getD (s - 1) 0 == 10

theorem st1_at (t : Array Nat) (s : Nat) (f : Bool) (sn : Seen) :
    (st1 t s f sn).step = (if atRow t s = true then mk1 t s f ((sn.add 6).add 44) 7 s s [fr1 s f] 1 none none else mk1 t s f ((sn.add 6).add 44) 5 s s [fr1 s f] 1 (some false) none) := rfl
theorem st1_lit (t : Array Nat) (s : Nat) (f : Bool) (sn : Seen) :
    (mk1 t s f sn 7 s s [fr1 s f] 1 none none).step = (if s ≥ t.size then mk1 t s f (sn.add 16) 7 s s [fr1 s f] 1 (some false) none else
      (if (t.getD s 0 == 46) = true then mk1 t s f (sn.add 16) 9 (s + 1) s [fr1 s f] 1 none none else mk1 t s f (sn.add 16) 7 s s [fr1 s f] 1 (some false) none)) := by
  have e : accepts code1 7 (t.getD s 0) (sn.add 16) = .ok (t.getD s 0 == 46, sn.add 16) := rfl
  have e' : (mk1 t s f sn 7 s s [fr1 s f] 1 none none).step = (mk1 t s f sn 7 s s [fr1 s f] 1 none none).exec := rfl
  rw [e']
  by_cases h : s ≥ t.size
  · rw [if_pos h]
    have : (mk1 t s f sn 7 s s [fr1 s f] 1 none none).exec = (if s ≥ t.size then _ else _) := rfl
    rw [this, if_pos h]; rfl
  · rw [if_neg h]
    have : (mk1 t s f sn 7 s s [fr1 s f] 1 none none).exec = (if s ≥ t.size then _ else _) := rfl
    rw [this, if_neg h]
    show (match accepts code1 7 (t.getD s 0) (sn.add 16) with
      | .error why => _
      | .ok (false, seen) => _
      | .ok (true, seen) => _) = _
    rw [e]
    cases (t.getD s 0 == 46) <;> rfl
theorem st1_succ (t : Array Nat) (s : Nat) (f : Bool) (sn : Seen) :
    (mk1 t s f sn 9 (s + 1) s [fr1 s f] 1 none none).step = mk1 t s f (sn.add 1) 9 (s + 1) (s + 1) [fr1 s f] 1 (some true) none := by
  cases f <;> rfl
theorem st1_yes (t : Array Nat) (s : Nat) (f : Bool) (sn : Seen) :
    (mk1 t s f sn 9 (s + 1) (s + 1) [fr1 s f] 1 (some true) none).step = mk1 t s f sn 5 s (s + 1) [] 0 (some true) none := rfl
theorem st1_yes' (t : Array Nat) (s : Nat) (f : Bool) (sn : Seen) :
    (mk1 t s f sn 5 s (s + 1) [] 0 (some true) none).step = mk1 t s f sn 5 s (s + 1) [] 0 (some true) (some .matched) := rfl
theorem st1_no (t : Array Nat) (s pc : Nat) (f : Bool) (sn : Seen) :
    (mk1 t s f sn pc s s [fr1 s f] 1 (some false) none).step = (if s < t.size then st1 t (s + 1) false sn else mk1 t s f sn 5 s s [] 0 (some false) none) := rfl
theorem st1_no' (t : Array Nat) (s : Nat) (f : Bool) (sn : Seen) :
    (mk1 t s f sn 5 s s [] 0 (some false) none).step = mk1 t s f sn 5 s s [] 0 (some false) (some .failed) := rfl

theorem goes1_hit {t : Array Nat} {s : Nat} {f : Bool} {sn : Seen} (ha : atRow t s = true) (hs : s < t.size) (hc : t.getD s 0 = 46) :
    ∃ sn', Goes 5 (st1 t s f sn) (mk1 t s f sn' 5 s (s + 1) [] 0 (some true) (some .matched)) := by
  refine ⟨_, Goes.cons rfl ((st1_at t s f sn).trans (if_pos ha)) (Goes.cons rfl ((st1_lit t s f _).trans ((if_neg (by omega)).trans (if_pos (by simp [hc])))) (Goes.cons rfl (st1_succ t s f _) (Goes.cons rfl (st1_yes t s f _) (Goes.cons rfl (st1_yes' t s f _) Goes.refl))))⟩

theorem goes1_miss {t : Array Nat} {s : Nat} {f : Bool} {sn : Seen} (hs : s < t.size) (hc : ¬ (atRow t s = true ∧ t.getD s 0 = 46)) :
    ∃ sn', Goes 3 (st1 t s f sn) (st1 t (s + 1) false sn') := by
  by_cases ha : atRow t s = true
  · have h46 : ¬ (t.getD s 0 == 46) = true := fun e => hc ⟨ha, by simpa using e⟩
    exact ⟨_, Goes.cons rfl ((st1_at t s f sn).trans (if_pos ha)) (Goes.cons rfl ((st1_lit t s f _).trans ((if_neg (by omega)).trans (if_neg h46))) (Goes.cons rfl ((st1_no t s 7 f _).trans (if_pos hs)) Goes.refl))⟩
  · exact ⟨_, (Goes.cons rfl ((st1_at t s f sn).trans (if_neg ha)) (Goes.cons rfl ((st1_no t s 5 f _).trans (if_pos hs)) Goes.refl)).le (by omega)⟩

theorem goes1_end {t : Array Nat} {f : Bool} {sn : Seen} :
    ∃ sn', Goes 4 (st1 t t.size f sn) (mk1 t t.size f sn' 5 t.size t.size [] 0 (some false) (some .failed)) := by
  by_cases ha : atRow t t.size = true
  · exact ⟨_, Goes.cons rfl ((st1_at t _ f sn).trans (if_pos ha)) (Goes.cons rfl ((st1_lit t _ f _).trans (if_pos (Nat.le_refl _))) (Goes.cons rfl ((st1_no t _ 7 f _).trans (if_neg (Nat.lt_irrefl _))) (Goes.cons rfl (st1_no' t _ f _) Goes.refl)))⟩
  · exact ⟨_, (Goes.cons rfl ((st1_at t _ f sn).trans (if_neg ha)) (Goes.cons rfl ((st1_no t _ 5 f _).trans (if_neg (Nat.lt_irrefl _))) (Goes.cons rfl (st1_no' t _ f _) Goes.refl))).le (by omega)⟩

/-- a hit of the first pattern -/
def hit1 (t : Array Nat) (s : Nat) : Prop := atRow t s = true ∧ t.getD s 0 = 46

theorem goes1_to {t : Array Nat} : ∀ (k s : Nat) (f : Bool) (sn : Seen), s + k ≤ t.size → (∀ i, i < k → ¬ hit1 t (s + i)) → ∃ f' sn', Goes (3 * k) (st1 t s f sn) (st1 t (s + k) f' sn')
  | 0, s, f, sn, _, _ => ⟨f, sn, Goes.refl⟩
  | k + 1, s, f, sn, h, hn => by
    obtain ⟨sn₁, g₁⟩ := goes1_miss (f := f) (sn := sn) (show s < t.size by omega) (hn 0 (by omega))
    obtain ⟨f', sn', g⟩ := goes1_to (t := t) k (s + 1) false sn₁ (by omega) (fun i hi => by have := hn (i + 1) (by omega); rwa [show s + (i + 1) = s + 1 + i from by omega] at this)
    refine ⟨f', sn', ?_⟩
    have := g₁.trans g
    rw [show s + 1 + k = s + (k + 1) from by omega] at this
    exact this.le (by omega)

theorem forSearch1 (t : Array Nat) (p : Nat) : forSearch code1 t 0 p t.size false =
    (if (decide (p > t.size) || decide (t.size - p < 1)) = true then { st1 t p true (({} : Seen).add 14) with frames := [], weight := 0, answer := some false, lastStart := 0 } else st1 t p true (({} : Seen).add 14)) := rfl

/-- the first pattern, sought from p: found at q -/
theorem search1_hit {t : Array Nat} {p q : Nat} (hpq : p ≤ q) (hq : q < t.size) (hh : hit1 t q) (hn : ∀ i, p ≤ i → i < q → ¬ hit1 t i) :
    ∃ m', Goes (3 * t.size + 9) (forSearch code1 t 0 p t.size false) m' ∧ m'.outcome = some .matched ∧ m'.start = q ∧ m'.handed = q + 1 := by
  rw [forSearch1, if_neg (by simp only [Bool.or_eq_true, decide_eq_true_eq]; omega)]
  obtain ⟨f', sn', g⟩ := goes1_to (t := t) (q - p) p true (({} : Seen).add 14) (by omega) (fun i hi => hn (p + i) (by omega) (by omega))
  rw [show p + (q - p) = q from by omega] at g
  obtain ⟨sn₂, g₂⟩ := goes1_hit (f := f') (sn := sn') hh.1 hq hh.2
  exact ⟨_, (g.trans g₂).le (by omega), rfl, rfl, rfl⟩

theorem search1_none {t : Array Nat} {p : Nat} (hp : p ≤ t.size) (hn : ∀ i, p ≤ i → i < t.size → ¬ hit1 t i) :
    ∃ m', Goes (3 * t.size + 9) (forSearch code1 t 0 p t.size false) m' ∧ m'.outcome = some .failed := by
  rw [forSearch1]
  by_cases e : p = t.size
  · rw [if_pos (by simp only [Bool.or_eq_true, decide_eq_true_eq]; omega)]
    exact ⟨_, (Goes.one rfl rfl).le (by omega), rfl⟩
  · rw [if_neg (by simp only [Bool.or_eq_true, decide_eq_true_eq]; omega)]
    obtain ⟨f', sn', g⟩ := goes1_to (t := t) (t.size - p) p true (({} : Seen).add 14) (by omega) (fun i hi => hn (p + i) (by omega) (by omega))
    rw [show p + (t.size - p) = t.size from by omega] at g
    obtain ⟨sn₂, g₂⟩ := goes1_end (t := t) (f := f') (sn := sn')
    exact ⟨_, (g.trans g₂).le (by omega), rfl⟩

/-- the machine of the second pattern -/
def mk2 (t : Array Nat) (s : Nat) (f : Bool) (sn : Seen) (pc pos hd : Nat) (fr : List Sre.Frame) (w : Nat) (ans : Option Bool) (out : Option Sre.Outcome) : M :=
  { code := code2, text := t, lim := t.size, start := s, lastStart := t.size, wholeText := false, mustAdvance := false, pc := pc, pos := pos, handed := hd, outermost := f,
    marks := #[], lastmark := -1, lastindex := -1, loops := #[], inner := none, frames := fr, weight := w, answer := ans, seen := sn, outcome := out }
def fr2 (s : Nat) (f : Bool) : Sre.Frame := { wait := .nextStart, pc := 10, pos := s, outermost := f }
def fb2 (s pc : Nat) (f : Bool) : Sre.Frame := { wait := .nextBranch, pc := pc, pos := s, outermost := f }
def fl2 (s : Nat) (f : Bool) : Sre.Frame := { wait := .lookNot, pc := 26, pos := s, outermost := f }

theorem lit2_12 (t : Array Nat) (s : Nat) (f : Bool) (sn : Seen) (pos hd : Nat) (fr : List Sre.Frame) (w : Nat) :
    (mk2 t s f sn 12 pos hd fr w none none).step = (if pos ≥ t.size then mk2 t s f (sn.add 16) 12 pos hd fr w (some false) none else
      (if (t.getD pos 0 == 13) = true then mk2 t s f (sn.add 16) 14 (pos + 1) hd fr w none none else mk2 t s f (sn.add 16) 12 pos hd fr w (some false) none)) := by
  have e : accepts code2 12 (t.getD pos 0) (sn.add 16) = .ok (t.getD pos 0 == 13, sn.add 16) := rfl
  have e' : (mk2 t s f sn 12 pos hd fr w none none).step = (mk2 t s f sn 12 pos hd fr w none none).exec := rfl
  rw [e']
  by_cases h : pos ≥ t.size
  · rw [if_pos h]
    have : (mk2 t s f sn 12 pos hd fr w none none).exec = (if pos ≥ t.size then _ else _) := rfl
    rw [this, if_pos h]; rfl
  · rw [if_neg h]
    have : (mk2 t s f sn 12 pos hd fr w none none).exec = (if pos ≥ t.size then _ else _) := rfl
    rw [this, if_neg h]
    show (match accepts code2 12 (t.getD pos 0) (sn.add 16) with
      | .error why => _
      | .ok (false, seen) => _
      | .ok (true, seen) => _) = _
    rw [e]
    cases (t.getD pos 0 == 13) <;> rfl

theorem lit2_14 (t : Array Nat) (s : Nat) (f : Bool) (sn : Seen) (pos hd : Nat) (fr : List Sre.Frame) (w : Nat) :
    (mk2 t s f sn 14 pos hd fr w none none).step = (if pos ≥ t.size then mk2 t s f (sn.add 16) 14 pos hd fr w (some false) none else
      (if (t.getD pos 0 == 10) = true then mk2 t s f (sn.add 16) 16 (pos + 1) hd fr w none none else mk2 t s f (sn.add 16) 14 pos hd fr w (some false) none)) := by
  have e : accepts code2 14 (t.getD pos 0) (sn.add 16) = .ok (t.getD pos 0 == 10, sn.add 16) := rfl
  have e' : (mk2 t s f sn 14 pos hd fr w none none).step = (mk2 t s f sn 14 pos hd fr w none none).exec := rfl
  rw [e']
  by_cases h : pos ≥ t.size
  · rw [if_pos h]
    have : (mk2 t s f sn 14 pos hd fr w none none).exec = (if pos ≥ t.size then _ else _) := rfl
    rw [this, if_pos h]; rfl
  · rw [if_neg h]
    have : (mk2 t s f sn 14 pos hd fr w none none).exec = (if pos ≥ t.size then _ else _) := rfl
    rw [this, if_neg h]
    show (match accepts code2 14 (t.getD pos 0) (sn.add 16) with
      | .error why => _
      | .ok (false, seen) => _
      | .ok (true, seen) => _) = _
    rw [e]
    cases (t.getD pos 0 == 10) <;> rfl

theorem lit2_19 (t : Array Nat) (s : Nat) (f : Bool) (sn : Seen) (pos hd : Nat) (fr : List Sre.Frame) (w : Nat) :
    (mk2 t s f sn 19 pos hd fr w none none).step = (if pos ≥ t.size then mk2 t s f (sn.add 16) 19 pos hd fr w (some false) none else
      (if (t.getD pos 0 == 10) = true then mk2 t s f (sn.add 16) 21 (pos + 1) hd fr w none none else mk2 t s f (sn.add 16) 19 pos hd fr w (some false) none)) := by
  have e : accepts code2 19 (t.getD pos 0) (sn.add 16) = .ok (t.getD pos 0 == 10, sn.add 16) := rfl
  have e' : (mk2 t s f sn 19 pos hd fr w none none).step = (mk2 t s f sn 19 pos hd fr w none none).exec := rfl
  rw [e']
  by_cases h : pos ≥ t.size
  · rw [if_pos h]
    have : (mk2 t s f sn 19 pos hd fr w none none).exec = (if pos ≥ t.size then _ else _) := rfl
    rw [this, if_pos h]; rfl
  · rw [if_neg h]
    have : (mk2 t s f sn 19 pos hd fr w none none).exec = (if pos ≥ t.size then _ else _) := rfl
    rw [this, if_neg h]
    show (match accepts code2 19 (t.getD pos 0) (sn.add 16) with
      | .error why => _
      | .ok (false, seen) => _
      | .ok (true, seen) => _) = _
    rw [e]
    cases (t.getD pos 0 == 10) <;> rfl

theorem lit2_24 (t : Array Nat) (s : Nat) (f : Bool) (sn : Seen) (pos hd : Nat) (fr : List Sre.Frame) (w : Nat) :
    (mk2 t s f sn 24 pos hd fr w none none).step = (if pos ≥ t.size then mk2 t s f (sn.add 16) 24 pos hd fr w (some false) none else
      (if (t.getD pos 0 == 13) = true then mk2 t s f (sn.add 16) 26 (pos + 1) hd fr w none none else mk2 t s f (sn.add 16) 24 pos hd fr w (some false) none)) := by
  have e : accepts code2 24 (t.getD pos 0) (sn.add 16) = .ok (t.getD pos 0 == 13, sn.add 16) := rfl
  have e' : (mk2 t s f sn 24 pos hd fr w none none).step = (mk2 t s f sn 24 pos hd fr w none none).exec := rfl
  rw [e']
  by_cases h : pos ≥ t.size
  · rw [if_pos h]
    have : (mk2 t s f sn 24 pos hd fr w none none).exec = (if pos ≥ t.size then _ else _) := rfl
    rw [this, if_pos h]; rfl
  · rw [if_neg h]
    have : (mk2 t s f sn 24 pos hd fr w none none).exec = (if pos ≥ t.size then _ else _) := rfl
    rw [this, if_neg h]
    show (match accepts code2 24 (t.getD pos 0) (sn.add 16) with
      | .error why => _
      | .ok (false, seen) => _
      | .ok (true, seen) => _) = _
    rw [e]
    cases (t.getD pos 0 == 13) <;> rfl

theorem lit2_29 (t : Array Nat) (s : Nat) (f : Bool) (sn : Seen) (pos hd : Nat) (fr : List Sre.Frame) (w : Nat) :
    (mk2 t s f sn 29 pos hd fr w none none).step = (if pos ≥ t.size then mk2 t s f (sn.add 16) 29 pos hd fr w (some false) none else
      (if (t.getD pos 0 == 10) = true then mk2 t s f (sn.add 16) 31 (pos + 1) hd fr w none none else mk2 t s f (sn.add 16) 29 pos hd fr w (some false) none)) := by
  have e : accepts code2 29 (t.getD pos 0) (sn.add 16) = .ok (t.getD pos 0 == 10, sn.add 16) := rfl
  have e' : (mk2 t s f sn 29 pos hd fr w none none).step = (mk2 t s f sn 29 pos hd fr w none none).exec := rfl
  rw [e']
  by_cases h : pos ≥ t.size
  · rw [if_pos h]
    have : (mk2 t s f sn 29 pos hd fr w none none).exec = (if pos ≥ t.size then _ else _) := rfl
    rw [this, if_pos h]; rfl
  · rw [if_neg h]
    have : (mk2 t s f sn 29 pos hd fr w none none).exec = (if pos ≥ t.size then _ else _) := rfl
    rw [this, if_neg h]
    show (match accepts code2 29 (t.getD pos 0) (sn.add 16) with
      | .error why => _
      | .ok (false, seen) => _
      | .ok (true, seen) => _) = _
    rw [e]
    cases (t.getD pos 0 == 10) <;> rfl

theorem br2 (t : Array Nat) (s : Nat) (f : Bool) (sn : Seen) :
    (mk2 t s f sn 10 s s [fr2 s f] 1 none none).step = mk2 t s f (sn.add 7) 12 s s [fb2 s 11 f, fr2 s f] 2 none none := rfl
theorem jump2_16 (t : Array Nat) (s : Nat) (f : Bool) (sn : Seen) (pos hd : Nat) (fr : List Sre.Frame) (w : Nat) :
    (mk2 t s f sn 16 pos hd fr w none none).step = mk2 t s f (sn.add 15) 35 pos hd fr w none none := rfl
theorem jump2_21 (t : Array Nat) (s : Nat) (f : Bool) (sn : Seen) (pos hd : Nat) (fr : List Sre.Frame) (w : Nat) :
    (mk2 t s f sn 21 pos hd fr w none none).step = mk2 t s f (sn.add 15) 35 pos hd fr w none none := rfl
theorem jump2_32 (t : Array Nat) (s : Nat) (f : Bool) (sn : Seen) (pos hd : Nat) (fr : List Sre.Frame) (w : Nat) :
    (mk2 t s f sn 32 pos hd fr w none none).step = mk2 t s f (sn.add 15) 35 pos hd fr w none none := rfl
theorem succ2 (t : Array Nat) (s : Nat) (f : Bool) (sn : Seen) (pos hd : Nat) (fr : List Sre.Frame) (w : Nat) :
    (mk2 t s f sn 35 pos hd fr w none none).step = mk2 t s f (sn.add 1) 35 pos pos fr w (some true) none := by
  cases f <;> rfl
theorem yes2_b (t : Array Nat) (s : Nat) (f f' : Bool) (sn : Seen) (pc pos hd pb : Nat) :
    (mk2 t s f' sn pc pos hd [fb2 s pb f, fr2 s f] 2 (some true) none).step = mk2 t s f sn pb s hd [fr2 s f] 1 (some true) none := rfl
theorem yes2_s (t : Array Nat) (s : Nat) (f f' : Bool) (sn : Seen) (pc pos hd : Nat) :
    (mk2 t s f' sn pc pos hd [fr2 s f] 1 (some true) none).step = mk2 t s f sn 10 s hd [] 0 (some true) none := rfl
theorem yes2_e (t : Array Nat) (s : Nat) (f : Bool) (sn : Seen) (pc pos hd : Nat) :
    (mk2 t s f sn pc pos hd [] 0 (some true) none).step = mk2 t s f sn pc pos hd [] 0 (some true) (some .matched) := rfl
theorem no2_1 (t : Array Nat) (s : Nat) (f f' : Bool) (sn : Seen) (pc pos hd : Nat) :
    (mk2 t s f' sn pc pos hd [fb2 s 11 f, fr2 s f] 2 (some false) none).step = mk2 t s f sn 19 s s [fb2 s 18 f, fr2 s f] 2 none none := rfl
theorem no2_2 (t : Array Nat) (s : Nat) (f f' : Bool) (sn : Seen) (pc pos hd : Nat) :
    (mk2 t s f' sn pc pos hd [fb2 s 18 f, fr2 s f] 2 (some false) none).step = mk2 t s f sn 24 s s [fb2 s 23 f, fr2 s f] 2 none none := rfl
theorem look2 (t : Array Nat) (s : Nat) (f : Bool) (sn : Seen) (pos hd : Nat) :
    (mk2 t s f sn 26 pos hd [fb2 s 23 f, fr2 s f] 2 none none).step = mk2 t s false (sn.add 5) 29 pos pos [fl2 pos f, fb2 s 23 f, fr2 s f] 3 none none := rfl
theorem no2_l (t : Array Nat) (s : Nat) (f f' : Bool) (sn : Seen) (pc pos hd q : Nat) :
    (mk2 t s f' sn pc pos hd [fl2 q f, fb2 s 23 f, fr2 s f] 3 (some false) none).step = mk2 t s f sn 32 q hd [fb2 s 23 f, fr2 s f] 2 none none := rfl

/-- from the branch's success on -/
theorem goes2_yes (t : Array Nat) (s : Nat) (f : Bool) (sn : Seen) (pos hd pb : Nat) :
    Goes 4 (mk2 t s f sn 35 pos hd [fb2 s pb f, fr2 s f] 2 none none) (mk2 t s f (sn.add 1) 10 s pos [] 0 (some true) (some .matched)) :=
  Goes.cons rfl (succ2 ..) (Goes.cons rfl (yes2_b ..) (Goes.cons rfl (yes2_s ..) (Goes.cons rfl (yes2_e ..) Goes.refl)))

/-- where an end begins, and where it ends -/
def isEol (c : Nat) : Bool := c == 10 || c == 13
def eolEnd (t : Array Nat) (q : Nat) : Nat := if t.getD q 0 = 13 ∧ q + 1 < t.size ∧ t.getD (q + 1) 0 = 10 then q + 2 else q + 1

theorem goes2_hit {t : Array Nat} {s : Nat} {f : Bool} {sn : Seen} (hs : s < t.size) (hc : isEol (t.getD s 0) = true) :
    ∃ sn', Goes 16 (mk2 t s f sn 10 s s [fr2 s f] 1 none none) (mk2 t s f sn' 10 s (eolEnd t s) [] 0 (some true) (some .matched)) := by
  unfold isEol at hc
  rcases (by simpa using hc : t.getD s 0 = 10 ∨ t.getD s 0 = 13) with e | e
  · have e1 : eolEnd t s = s + 1 := by unfold eolEnd; rw [if_neg (by omega)]
    rw [e1]
    refine ⟨_, (Goes.cons rfl (br2 ..) (Goes.cons rfl ((lit2_12 ..).trans ((if_neg (by omega)).trans (if_neg (by simp [e])))) (Goes.cons rfl (no2_1 ..)
      (Goes.cons rfl ((lit2_19 ..).trans ((if_neg (by omega)).trans (if_pos (by simp [e])))) (Goes.cons rfl (jump2_21 ..) (goes2_yes ..)))))).le (by omega)⟩
  · by_cases h : s + 1 < t.size ∧ t.getD (s + 1) 0 = 10
    · have e1 : eolEnd t s = s + 2 := by unfold eolEnd; rw [if_pos ⟨e, h⟩]
      rw [e1]
      exact ⟨_, (Goes.cons rfl (br2 ..) (Goes.cons rfl ((lit2_12 ..).trans ((if_neg (by omega)).trans (if_pos (by simp [e]))))
        (Goes.cons rfl ((lit2_14 ..).trans ((if_neg (by omega)).trans (if_pos (by simp [h.2])))) (Goes.cons rfl (jump2_16 ..) (goes2_yes ..))))).le (by omega)⟩
    · have e1 : eolEnd t s = s + 1 := by unfold eolEnd; rw [if_neg (fun x => h x.2)]
      rw [e1]
      have no14 : ∀ sn, ∃ sn', (mk2 t s f sn 14 (s + 1) s [fb2 s 11 f, fr2 s f] 2 none none).step = mk2 t s f sn' 14 (s + 1) s [fb2 s 11 f, fr2 s f] 2 (some false) none := fun sn => by
        by_cases h1 : s + 1 ≥ t.size
        · exact ⟨_, (lit2_14 ..).trans (if_pos h1)⟩
        · exact ⟨_, (lit2_14 ..).trans ((if_neg h1).trans (if_neg (by intro x; exact h ⟨by omega, by simpa using x⟩)))⟩
      have no29 : ∀ sn, ∃ sn', (mk2 t s false sn 29 (s + 1) (s + 1) [fl2 (s + 1) f, fb2 s 23 f, fr2 s f] 3 none none).step = mk2 t s false sn' 29 (s + 1) (s + 1) [fl2 (s + 1) f, fb2 s 23 f, fr2 s f] 3 (some false) none := fun sn => by
        by_cases h1 : s + 1 ≥ t.size
        · exact ⟨_, (lit2_29 ..).trans (if_pos h1)⟩
        · exact ⟨_, (lit2_29 ..).trans ((if_neg h1).trans (if_neg (by intro x; exact h ⟨by omega, by simpa using x⟩)))⟩
      obtain ⟨sa, ea⟩ := no14 (((sn.add 7)).add 16)
      obtain ⟨sb, eb⟩ := no29 ((((sa).add 16).add 16).add 5)
      exact ⟨_, (Goes.cons rfl (br2 ..) (Goes.cons rfl ((lit2_12 ..).trans ((if_neg (by omega)).trans (if_pos (by simp [e])))) (Goes.cons rfl ea (Goes.cons rfl (no2_1 ..)
        (Goes.cons rfl ((lit2_19 ..).trans ((if_neg (by omega)).trans (if_neg (by simp [e])))) (Goes.cons rfl (no2_2 ..)
        (Goes.cons rfl ((lit2_24 ..).trans ((if_neg (by omega)).trans (if_pos (by simp [e])))) (Goes.cons rfl (look2 ..) (Goes.cons rfl eb (Goes.cons rfl (no2_l ..) (Goes.cons rfl (jump2_32 ..) (goes2_yes ..)))))))))))).le (by omega)⟩

theorem set2_yes {c : Nat} (h : isEol c = true) (sn : Seen) : ∃ sn', inSet code2 c code2.size 5 true sn = .ok (true, sn') := by
  unfold isEol at h
  have e : inSet code2 c code2.size 5 true sn = (if (c == 10) = true then .ok (true, sn.add 16) else if (c == 13) = true then .ok (true, (sn.add 16).add 16) else .ok (false, ((sn.add 16).add 16).add 0)) := rfl
  rw [e]
  by_cases h1 : (c == 10) = true
  · exact ⟨_, if_pos h1⟩
  · rw [if_neg h1, if_pos (by simpa [h1] using h)]; exact ⟨_, rfl⟩
theorem set2_no {c : Nat} (h : isEol c = false) (sn : Seen) : ∃ sn', inSet code2 c code2.size 5 true sn = .ok (false, sn') := by
  unfold isEol at h
  have e : inSet code2 c code2.size 5 true sn = (if (c == 10) = true then .ok (true, sn.add 16) else if (c == 13) = true then .ok (true, (sn.add 16).add 16) else .ok (false, ((sn.add 16).add 16).add 0)) := rfl
  rw [e, if_neg (by simp_all), if_neg (by simp_all)]; exact ⟨_, rfl⟩

theorem adm_step (m : M) (fuel s : Nat) (sn : Seen) : M.admitted m (fuel + 1) s sn = (if s ≥ m.lim then .ok (none, sn) else
    match inSet m.code (m.text.getD s 0) m.code.size 5 true sn with
    | .ok (true, seen) => .ok (some s, seen)
    | .ok (false, seen) => M.admitted m fuel (s + 1) seen
    | .error why => .error why) := by rfl

theorem adm_hit {m : M} (hm : m.code = code2) : ∀ (k fuel s : Nat) (sn : Seen), s + k < m.lim → k < fuel → (∀ i, i < k → isEol (m.text.getD (s + i) 0) = false) → isEol (m.text.getD (s + k) 0) = true →
    ∃ sn', M.admitted m fuel s sn = .ok (some (s + k), sn')
  | 0, fuel + 1, s, sn, h, _, _, hq => by
    obtain ⟨sn', e⟩ := set2_yes hq sn
    rw [adm_step, if_neg (by omega), hm, show s + 0 = s from rfl] at *
    rw [e]; exact ⟨_, rfl⟩
  | k + 1, fuel + 1, s, sn, h, hf, hn, hq => by
    obtain ⟨sn₁, e⟩ := set2_no (hn 0 (by omega)) sn
    obtain ⟨sn', e'⟩ := adm_hit hm k fuel (s + 1) sn₁ (by omega) (by omega) (fun i hi => by have := hn (i + 1) (by omega); rwa [show s + (i + 1) = s + 1 + i from by omega] at this) (by rwa [show s + (k + 1) = s + 1 + k from by omega] at hq)
    rw [adm_step, if_neg (by omega), hm]
    rw [show s + 0 = s from rfl] at e
    rw [e]
    exact ⟨sn', by rw [show s + (k + 1) = s + 1 + k from by omega]; exact e'⟩

theorem adm_none {m : M} (hm : m.code = code2) : ∀ (k fuel s : Nat) (sn : Seen), s + k = m.lim → (∀ i, i < k → isEol (m.text.getD (s + i) 0) = false) → ∃ sn', M.admitted m fuel s sn = .ok (none, sn')
  | _, 0, _, sn, _, _ => ⟨sn, by rw [M.admitted]⟩
  | 0, fuel + 1, s, sn, h, _ => ⟨sn, by rw [adm_step, if_pos (by omega)]⟩
  | k + 1, fuel + 1, s, sn, h, hn => by
    obtain ⟨sn₁, e⟩ := set2_no (hn 0 (by omega)) sn
    obtain ⟨sn', e'⟩ := adm_none hm k fuel (s + 1) sn₁ (by omega) (fun i hi => by have := hn (i + 1) (by omega); rwa [show s + (i + 1) = s + 1 + i from by omega] at this)
    rw [adm_step, if_neg (by omega), hm]
    rw [show s + 0 = s from rfl] at e
    rw [e]
    exact ⟨sn', e'⟩

/-- the machine ahead of its first start -/
def pre2 (t : Array Nat) (p : Nat) : M := mk2 t p true (({} : Seen).add 14) 10 p p [] 0 none none
theorem forSearch2 (t : Array Nat) (p : Nat) : forSearch code2 t 0 p t.size false =
    (if (decide (p > t.size) || decide (t.size - p < 1)) = true then { mk2 t p true (({} : Seen).add 14) 10 p p [] 0 (some false) none with lastStart := 0 } else
      match M.admitted (pre2 t p) (t.size + 1 - p) p (({} : Seen).add 14) with
      | .ok (some s, seen) => { pre2 t p with mustAdvance := false, seen }.attemptAt s true
      | .ok (none, seen) => { pre2 t p with seen }.say false
      | .error why => (pre2 t p).stick why) := by
  by_cases h : (decide (p > t.size) || decide (t.size - p < 1)) = true
  · rw [if_pos h]
    have : forSearch code2 t 0 p t.size false = (if (decide (p > t.size) || decide (t.size - p < 1)) = true then _ else _) := rfl
    rw [this, if_pos h]; rfl
  · rw [if_neg h]
    have : forSearch code2 t 0 p t.size false = (if (decide (p > t.size) || decide (t.size - p < 1)) = true then _ else (pre2 t p).attemptFrom p true) := rfl
    rw [this, if_neg h]
    rfl

theorem search2_hit {t : Array Nat} {p q : Nat} (hpq : p ≤ q) (hq : q < t.size) (hh : isEol (t.getD q 0) = true) (hn : ∀ i, p ≤ i → i < q → isEol (t.getD i 0) = false) :
    ∃ m', Goes 16 (forSearch code2 t 0 p t.size false) m' ∧ m'.outcome = some .matched ∧ m'.start = q ∧ m'.handed = eolEnd t q := by
  rw [forSearch2, if_neg (by simp only [Bool.or_eq_true, decide_eq_true_eq]; omega)]
  obtain ⟨sn', e⟩ := adm_hit (m := pre2 t p) rfl (q - p) (t.size + 1 - p) p (({} : Seen).add 14) (by show p + (q - p) < t.size; omega) (by omega) (fun i hi => hn (p + i) (by omega) (by omega)) (by rw [show p + (q - p) = q from by omega]; exact hh)
  rw [show p + (q - p) = q from by omega] at e
  rw [e]
  obtain ⟨sn₂, g₂⟩ := goes2_hit (f := true) (sn := sn') hq hh
  exact ⟨_, g₂, rfl, rfl, rfl⟩

theorem search2_none {t : Array Nat} {p : Nat} (hp : p ≤ t.size) (hn : ∀ i, p ≤ i → i < t.size → isEol (t.getD i 0) = false) :
    ∃ m', Goes 16 (forSearch code2 t 0 p t.size false) m' ∧ m'.outcome = some .failed := by
  rw [forSearch2]
  by_cases e : p = t.size
  · rw [if_pos (by simp only [Bool.or_eq_true, decide_eq_true_eq]; omega)]
    exact ⟨_, (Goes.one rfl rfl).le (by omega), rfl⟩
  · rw [if_neg (by simp only [Bool.or_eq_true, decide_eq_true_eq]; omega)]
    obtain ⟨sn', e⟩ := adm_none (m := pre2 t p) rfl (t.size - p) (t.size + 1 - p) p (({} : Seen).add 14) (by show p + (t.size - p) = t.size; omega) (fun i hi => hn (p + i) (by omega) (by omega))
    rw [e]
    exact ⟨_, (Goes.one rfl rfl).le (by omega), rfl⟩
end Mine
end

section
open PySem PySem.Sre PySem.Builtin.Re
namespace Mine

theorem runFor_stable {m : M} (h : m.outcome.isSome = true) (j : Nat) : M.runFor j m = m := by
  cases j with
  | zero => rfl
  | succ j => unfold M.runFor; rw [if_pos h]

section
variable {MM : Model} {A : Around} {E : Value → Shared → Prop} {s : Shared}

theorem drive {Q : M → Shared → Prop} {m' : M} (ho : m'.outcome.isSome = true) (hq : Q m' s) :
    ∀ (k n : Nat) (m : M), n ≤ 4 * k → 0 < k → M.runFor n m = m' → wpAny MM A (reDrive k m) Q E s
  | 0, _, _, _, h, _ => absurd h (Nat.lt_irrefl _)
  | k + 1, n, m, hn, _, e => by
    show wpAny MM A (if (M.runFor reTurnSteps m).outcome.isSome then pure (M.runFor reTurnSteps m) else do rule "sre.turn"; reDrive k (M.runFor reTurnSteps m)) Q E s
    by_cases h4 : n ≤ 4
    · have e4 : M.runFor reTurnSteps m = m' := by
        rw [show reTurnSteps = n + (4 - n) from by unfold reTurnSteps; omega, runFor_add, e, runFor_stable ho]
      rw [e4, if_pos ho]
      exact wpAny_pure hq
    · by_cases hs : (M.runFor reTurnSteps m).outcome.isSome = true
      · have e4 : M.runFor reTurnSteps m = m' := by
          rw [← e, show n = reTurnSteps + (n - 4) from by unfold reTurnSteps; omega, runFor_add, runFor_stable hs]
        rw [e4, if_pos ho]
        exact wpAny_pure hq
      · rw [if_neg hs]
        refine wpAny_bind (wpAny_rule ?_)
        refine drive ho hq k (n - 4) _ (by omega) (by omega) ?_
        rw [← runFor_add, show reTurnSteps + (n - 4) = n from by unfold reTurnSteps; omega, e]

theorem rules_loop {α : Type} {Q : PUnit → Shared → Prop} (f : α → PUnit → Sem (ForInStep PUnit)) (hf : ∀ a (Q' : ForInStep PUnit → Shared → Prop), Q' (.yield ⟨⟩) s → wpAny MM A (f a ⟨⟩) Q' E s) (hq : Q ⟨⟩ s) :
    ∀ l : List α, wpAny MM A (forIn l ⟨⟩ f) Q E s
  | [] => wpAny_pure hq
  | a :: l => by
    rw [List.forIn_cons]
    exact wpAny_bind (hf a _ (rules_loop f hf hq l))

theorem runToEnd {Q : Option M → Shared → Prop} {m m' : M} {n : Nat} (g : Goes n m m') (hn : n ≤ 2 ^ 60)
    (h : (m'.outcome = some .matched ∧ Q (some m') s) ∨ (m'.outcome = some .failed ∧ Q none s)) : wpAny MM A (reRunToEnd m) Q E s := by
  obtain ⟨k, hk, e⟩ := g
  unfold reRunToEnd
  refine wpAny_bind (drive (m' := m') (by rcases h with h | h <;> rw [h.1] <;> rfl) ?_ (2 ^ 64) k m (by omega) (by decide) e)
  refine wpAny_bind (rules_loop _ (fun i Q' hQ => ?_) ?_ _)
  · by_cases hc : m'.seen.has i = true
    · rw [if_pos hc]; exact wpAny_bind (wpAny_rule (wpAny_pure hQ))
    · rw [if_neg hc]; exact wpAny_pure hQ
  · rcases h with h | h
    · rw [h.1]; exact wpAny_pure h.2
    · rw [h.1]; exact wpAny_pure h.2
end
end Mine
end

section
open PySem PySem.Sre PySem.Builtin.Re
namespace Mine

theorem slot_sub : Slot "re.Pattern" "sub" "re.Pattern.sub" :=
  .of (owner := "re.Pattern") (n := "sub") (by rw [typeLookup_type, builtinLookup_eq_fast]; kernel_rfl) (by decide +kernel) (by decide +kernel) (by decide +kernel)
    (by first | exact .inl (by decide +kernel) | exact .inr (by decide +kernel)) (by rw [isSubtype_type]; kernel_rfl)
theorem plainAttrs_pat : PlainAttrs "re.Pattern" :=
  ⟨⟨"object.__getattribute__", by rw [typeLookup_type, builtinLookup_eq_fast]; kernel_rfl, by decide +kernel⟩, by rw [typeLookup_type, builtinLookup_eq_fast]; kernel_rfl⟩
theorem type_sub : typeOf (.builtin "re.Pattern.sub") = pure (.type "method_descriptor") := by show builtinType _ = _; rw [builtinType_eq_fast]; kernel_rfl
theorem entry_sub : entryFor table "re.Pattern.sub" = some Builtin.«re.Pattern.sub» := entryFor_of_tree (by kernel_rfl)
theorem entry_sub_loop : entryFor table "re.Pattern.sub.loop" = some Builtin.«re.Pattern.sub.loop» := entryFor_of_tree (by kernel_rfl)
theorem plain_sub_loop : plainId "re.Pattern.sub.loop" = true := by decide +kernel
theorem args_sub_3 (a b c : Value) : argsOk "re.Pattern.sub" ⟨[a, b, c], []⟩ := by unfold argsOk; kernel_rfl
theorem lookup_str_call : typeLookup (.type "str") "__call__" = pure none := by rw [typeLookup_type, builtinLookup_eq_fast]; kernel_rfl

theorem named_sub (a b : Value) : reNamed "re.Pattern.sub" "sub" ["repl", "string", "count"] 2 [a, b] [] = pure [some a, some b, none] := by
  first | rfl | kernel_rfl
end Mine
end

section
open PySem PySem.Sre PySem.Builtin.Re
namespace Mine

/-- a pattern object: its code's words lie in a tuple -/
structure PatAt (h : Heap) (pa : Addr) (code : Array Nat) : Prop where
  ex : ∃ (fs its : Array Value) (o oc : Obj) (ca : Addr) (n : Nat), h.get? pa = some o ∧ o.cls = .type "re.Pattern" ∧ o.dict = none ∧ o.data = .fields fs ∧ fs.getD 5 .none = .ref ca ∧ reRawNat (fs.getD 6 .none) = 0 ∧ reRawNat (fs.getD 2 .none) = 0 ∧
    h.get? ca = some oc ∧ oc.data = .seq its n ∧ (its.map reRawOf).map (·.toNat) = code
theorem PatAt.keeps {h h' : Heap} {pa : Addr} {code : Array Nat} (x : PatAt h pa code) (k : ∀ b o, h.get? b = some o → h'.get? b = some o) : PatAt h' pa code := by
  obtain ⟨fs, its, o, oc, ca, n, h1, h2, h2', h3, h4, h5, h6, h7, h8, h9⟩ := x.ex
  exact ⟨fs, its, o, oc, ca, n, k _ _ h1, h2, h2', h3, h4, h5, h6, k _ _ h7, h8, h9⟩

section
variable {MM : Model} {A : Around} {E : Value → Shared → Prop} {s : Shared}
theorem wholeTarget {pa : Addr} {code : Array Nat} {x : Str} {tx : Tok} {Q : ReTarget → Shared → Prop} (P : PatAt s.heap pa code)
    (hq : Q { pattern := .ref pa, string := .str x tx, code := code, text := x.cps, kind := 0, groups := 0, pos := 0, lim := x.cps.size } s) :
    wpAny MM A (reWholeTarget (.ref pa) (.str x tx)) Q E s := by
  obtain ⟨fs, its, o, oc, ca, n, h1, h2, h2', h3, h4, h5, h6, h7, h8, rfl⟩ := P.ex
  unfold reWholeTarget
  refine wpAny_bind (wpAny_fieldsOf h1 h3 ?_)
  refine wpAny_bind (m := reTextOf (.str x tx)) (wpAny_pure ?_)
  dsimp only
  rw [h5]
  refine wpAny_bind (wpAny_pure ?_)
  rw [h4, h6]
  unfold reRawItems
  refine wpAny_bind (wpAny_bind (wpAny_seqItems h7 h8 (wpAny_pure ?_)))
  exact wpAny_pure hq
end

/-- what the loop lays down from p on: S tells the next find -/
inductive Lays (t : Array Nat) (y : Str) (S : Nat → Option (Nat × Nat)) : Nat → List Str → Prop where
  | none {p : Nat} : S p = Option.none → Lays t y S p (if p < t.size then [⟨t.extract p t.size⟩] else [])
  | some {p q e : Nat} {r : List Str} : S p = Option.some (q, e) → Lays t y S e r → Lays t y S p ((if p < q then [⟨t.extract p q⟩] else []) ++ y :: r)

/-- S is what the machine finds -/
def Finds (code t : Array Nat) (S : Nat → Option (Nat × Nat)) : Prop := ∀ p, p ≤ t.size → match S p with
  | Option.some (q, e) => p ≤ q ∧ q < e ∧ e ≤ t.size ∧ ∃ m', Goes (2 ^ 40) (forSearch code t 0 p t.size false) m' ∧ m'.outcome = some .matched ∧ m'.start = q ∧ m'.handed = e
  | Option.none => ∃ m', Goes (2 ^ 40) (forSearch code t 0 p t.size false) m' ∧ m'.outcome = some .failed

def textOf (l : List Str) : Str := ⟨(l.flatMap fun x => x.cps.toList).toArray⟩
theorem textOf_nil : textOf [] = Str.empty := rfl

theorem textOf_toList (l : List Str) : (textOf l).cps.toList = l.flatMap fun x => x.cps.toList := rfl
theorem textOf_cons (a : Str) (l : List Str) : textOf (a :: l) = ⟨a.cps ++ (textOf l).cps⟩ := by
  unfold textOf
  congr 1
  apply Array.ext'
  simp
theorem textOf_append (a b : List Str) : textOf (a ++ b) = ⟨(textOf a).cps ++ (textOf b).cps⟩ := by
  unfold textOf
  congr 1
  apply Array.ext'
  simp
theorem textOf_length (l : List Str) : (textOf l).length = (l.map (·.length)).sum := by
  induction l with
  | nil => rfl
  | cons a l ih =>
    rw [textOf_cons, List.map_cons, List.sum_cons, ← ih]
    show (a.cps ++ (textOf l).cps).size = a.cps.size + (textOf l).cps.size
    simp

theorem joinOk_empty (l : List Str) (h : (textOf l).length ≤ sizeLine) : JoinOk Str.empty l = true := by
  unfold JoinOk Builtin.Str.tooLong
  have key : ∀ (l : List Str) (k : Nat), l.foldl (fun a b => a + b.length + Str.empty.length) k = k + (l.map (·.length)).sum := by
    intro l
    induction l with
    | nil => intro k; rfl
    | cons a l ih =>
      intro k
      rw [List.foldl_cons, ih, List.map_cons, List.sum_cons]
      show k + a.length + 0 + _ = _
      omega
  have e : l.toArray.foldl (fun a b => a + b.length + Str.empty.length) 0 = (textOf l).length := by
    rw [List.foldl_toArray, key, textOf_length]; omega
  rw [e]
  simp only [Bool.not_eq_true', decide_eq_false_iff_not]
  omega
theorem join_empty (l : List Str) : Txt.join Str.empty l = textOf l := by
  unfold Txt.join Builtin.Str.glued
  cases l with
  | nil => rfl
  | cons a r =>
    have key : ∀ (r : List Str) (acc : Array Nat), r.foldl (fun acc p => acc ++ Str.empty.cps ++ p.cps) acc = acc ++ (textOf r).cps := by
      intro r
      induction r with
      | nil => intro acc; simp [textOf]
      | cons b r ih =>
        intro acc
        rw [List.foldl_cons, ih, textOf_cons]
        have : Str.empty.cps = #[] := rfl
        rw [this]
        simp
    rw [textOf_cons]
    show (⟨(r.foldl _ a.cps)⟩ : Str) = _
    rw [key]

theorem slice0 {MM : Model} {A : Around} {E : Value → Shared → Prop} {s : Shared} {t : Array Nat} {b e : Nat} {Q : Value → Shared → Prop} (hz : t.size ≤ sizeLine) (hq : Q (.str ⟨t.extract b e⟩ s.toks) { s with toks := s.toks + 1 }) :
    wpAny MM A (reSlice t 0 b e) Q E s := by
  unfold reSlice
  exact wpAny_mkStr hq (by show (t.extract b e).size ≤ sizeLine; rw [Array.size_extract]; omega)

theorem push_plain {MM : Model} {A : Around} {E : Value → Shared → Prop} {s : Shared} {P : Addr} {its : Array Value} {v : Value} {Q : Unit → Shared → Prop} (hl : s.heap.PlainList P its) (hz : its.size ≤ sizeLine)
    (hq : ∀ h', h'.PlainList P (its.push v) → Heap.SameBut P s.heap h' → Q () { s with heap := h' }) : wpAny MM A (updateSeq P (·.push v)) Q E s := by
  obtain ⟨n, ho⟩ := hl
  refine wpAny_updateSeq ho rfl (hq _ ⟨n + 1, ?_⟩ (Heap.SameBut.update ..)) hz (by simp; omega)
  rw [Heap.get?_update_self _ ho (by rw [Obj.mapSeq_push_plain]; rfl), Obj.mapSeq_push_plain]

theorem strValues_snoc (l : List (Str × Tok)) (x : Str) (t : Tok) : (strValues l).toArray.push (.str x t) = (strValues (l ++ [(x, t)])).toArray := by
  simp [strValues]

theorem keep_but {h₀ h h' : Heap} {P : Addr} (k : ∀ b o, h₀.get? b = some o → h.get? b = some o) (hP : h₀.get? P = none) (e : Heap.SameBut P h h') : ∀ b o, h₀.get? b = some o → h'.get? b = some o :=
  fun b o x => e.extBut b o (by rintro rfl; rw [hP] at x; cases x) (k b o x)

/-- the loop's end: the pieces are joined -/
theorem sub_tail {prog : Program} {w : World} {A : Around} {Q : PySem.Fin → Shared → Prop} {E : Value → Shared → Prop} {t : Array Nat} {P : Addr} {l : List (Str × Tok)} {s : Shared} {k : Value → Sem PySem.Fin}
    (hz : t.size ≤ sizeLine) (hpl : s.heap.PlainList P (strValues l).toArray) (hlen : (textOf (l.map (·.1))).length ≤ sizeLine)
    (hk : ∀ t' tk', wpAny (model prog w) A (k (.str (textOf (l.map (·.1))) t')) Q E { s with toks := tk' }) :
    wpAny (model prog w) A (do
      let joiner ← reSlice t 0 0 0
      let x ← seqItems? (Value.ref P)
      if (x.getD #[]).isEmpty = true then (do let text ← pure joiner; k text)
      else (do let text ← call (Value.builtin (if (0 == 0) = true then "str.join" else "bytes.join")) [joiner, Value.ref P]; k text)) Q E s := by
  refine wpAny_bind (slice0 hz ?_)
  obtain ⟨n, ho⟩ := id hpl
  refine wpAny_bind (wpAny_seqItems ho rfl ?_)
  have e0 : (⟨t.extract 0 0⟩ : Str) = Str.empty := by simp [Str.empty]
  rw [e0]
  cases l with
  | nil =>
    rw [if_pos (by rfl)]
    exact wpAny_bind (wpAny_pure (hk _ _))
  | cons a l =>
    rw [if_neg (by simp [strValues])]
    refine wpAny_bind (SC.join (l := a :: l) (texts := (a :: l).map (·.1)) hpl.isList rfl (joinOk_empty _ hlen) fun t' k' => ?_)
    rw [join_empty]
    exact hk _ _

theorem sub_loop {prog : Program} {w : World} {A : Around} {code : Array Nat} {x y : Str} {tx ty : Tok} {pa P : Addr} {S : Nat → Option (Nat × Nat)} {R : Result → Shared → Prop} {h₀ : Heap}
    (hF : Finds code x.cps S) (hx : x.cps.size ≤ sizeLine) (hP : h₀.get? P = none) (hpat : PatAt h₀ pa code) {p : Nat} {l : List Str} (hl : Lays x.cps y S p l) :
    p ≤ x.cps.size → ∀ (l₀ : List (Str × Tok)) (n : Int) (s : Shared), (∀ b o, h₀.get? b = some o → s.heap.get? b = some o) → s.heap.PlainList P (strValues l₀).toArray →
      (textOf (l₀.map (·.1) ++ l)).length ≤ sizeLine → l₀.length + l.length ≤ sizeLine →
      (∀ h' tk' t', (∀ b o, h₀.get? b = some o → h'.get? b = some o) → R (.ok (.ret (.str (textOf (l₀.map (·.1) ++ l)) t'))) { s with heap := h', toks := tk' }) →
      codeAny (model prog w) A (.builtin "re.Pattern.sub.loop" ⟨[.ref pa, .str x tx, .str y ty, rawInt 0, rawInt 0, rawInt n, rawInt p, rawInt p, .bool false, .ref P, .bool false], []⟩) R s := by
  induction hl with
  | @none p hS =>
    intro hp l₀ n s hk hpl hlen hcnt hR
    refine codeAny_builtin entry_sub_loop ?_
    rw [Around.under_plainId plain_sub_loop]
    unfold Builtin.«re.Pattern.sub.loop»
    dsimp only [rawInt]
    refine wpAny_bind (wholeTarget (hpat.keeps hk) ?_)
    refine wpAny_bind (m := reLiteralCannotBeTurned (.str y ty)) (wpAny_pure ?_)
    have hf := hF p hp
    rw [hS] at hf
    obtain ⟨m', g, ho⟩ := hf
    refine wpAny_bind (runToEnd (m' := m') g (by decide) (.inr ⟨ho, ?_⟩))
    dsimp only
    have hp' : ((p : Int)).toNat = p := Int.toNat_natCast p
    rw [hp']
    by_cases hlt : p < x.cps.size
    · rw [if_pos hlt] at hlen hcnt hR ⊢
      refine wpAny_bind (slice0 hx (wpAny_bind (push_plain hpl (by simp [strValues] at hcnt ⊢; omega) fun h' hpl' hs => ?_)))
      rw [strValues_snoc] at hpl'
      have e2 : (l₀ ++ [((⟨x.cps.extract p x.cps.size⟩ : Str), s.toks)]).map (·.1) = l₀.map (·.1) ++ [⟨x.cps.extract p x.cps.size⟩] := by simp
      refine sub_tail hx hpl' (by rw [e2]; exact hlen) fun t' tk' => ?_
      rw [e2]
      exact wpAny_pure (hR _ _ _ (keep_but hk hP hs))
    · rw [if_neg hlt] at hlen hcnt hR ⊢
      rw [List.append_nil] at hlen hR
      refine sub_tail hx hpl hlen fun t' tk' => ?_
      exact wpAny_pure (hR _ _ _ hk)
  | @some p q e r hS _ ih =>
    intro hp l₀ n s hk hpl hlen hcnt hR
    have hf := hF p hp
    rw [hS] at hf
    obtain ⟨hpq, hqe, hes, m', g, ho, hst, hhd⟩ := hf
    refine codeAny_builtin entry_sub_loop ?_
    rw [Around.under_plainId plain_sub_loop]
    unfold Builtin.«re.Pattern.sub.loop»
    dsimp only [rawInt]
    refine wpAny_bind (wholeTarget (hpat.keeps hk) ?_)
    refine wpAny_bind (m := reLiteralCannotBeTurned (.str y ty)) (wpAny_pure ?_)
    refine wpAny_bind (runToEnd (m' := m') g (by decide) (.inl ⟨ho, ?_⟩))
    dsimp only
    have hp' : ((p : Int)).toNat = p := Int.toNat_natCast p
    have hne : (m'.handed == m'.start) = false := by rw [hhd, hst]; simp; omega
    rw [hp', hne, hst, hhd]
    have fin : ∀ (l₁ : List (Str × Tok)) (s₁ : Shared), (∀ b o, h₀.get? b = some o → s₁.heap.get? b = some o) → s₁.heap.PlainList P (strValues l₁).toArray →
        l₁.map (·.1) = l₀.map (·.1) ++ (if p < q then [⟨x.cps.extract p q⟩] else []) → (∃ h₁ tk₁, s₁ = { s with heap := h₁, toks := tk₁ }) →
        wpAny (model prog w) A.in1 (do
          updateSeq P fun x => x.push (.str y ty)
          again (Code.builtin "re.Pattern.sub.loop" ⟨[.ref pa, .str x tx, .str y ty, .int 0 0, .int 0 0, .int (n + 1) 0, .int (e : Nat) 0, .int (e : Nat) 0, .bool false, .ref P, .bool false], []⟩))
          (fun fin s' => match fin with | .done f => R (.ok f) s' | .again c' => c'.quiet = true ∧ codeAny (model prog w) A c' R s') (fun e s' => R (.error e) s') s₁ := by
      rintro l₁ s₁ hk₁ hpl₁ he ⟨h₁, tk₁, rfl⟩
      have hc₁ : l₁.length + (r.length + 1) ≤ sizeLine := by
        have := congrArg List.length he
        simp only [List.length_map, List.length_append] at this
        simp only [List.length_append, List.length_cons] at hcnt
        omega
      refine wpAny_bind (push_plain hpl₁ (by simp [strValues]; omega) fun h' hpl' hs => ?_)
      rw [strValues_snoc] at hpl'
      have e2 : (l₁ ++ [(y, ty)]).map (·.1) ++ r = l₀.map (·.1) ++ ((if p < q then [⟨x.cps.extract p q⟩] else []) ++ y :: r) := by simp [he]
      refine wpAny_pure ⟨plainId_quiet plain_sub_loop _, ih hes (l₁ ++ [(y, ty)]) (n + 1) _ (keep_but hk₁ hP hs) hpl' (by rw [e2]; exact hlen) (by simp; omega) fun h' tk' t' hk' => ?_⟩
      rw [e2]
      exact hR h' tk' t' hk'
    by_cases hlt : p < q
    · rw [if_pos hlt]
      refine wpAny_bind (slice0 hx (wpAny_bind (push_plain hpl (by simp [strValues] at hcnt ⊢; omega) fun h' hpl' hs => ?_)))
      rw [strValues_snoc] at hpl'
      exact wpAny_bind (wpAny_pure (fin _ _ (keep_but hk hP hs) hpl' (by simp [hlt]) ⟨_, _, rfl⟩))
    · rw [if_neg hlt]
      exact wpAny_bind (wpAny_pure (fin _ _ hk hpl (by simp [hlt]) ⟨_, _, rfl⟩))

/-- the method's call -/
theorem call_sub {prog : Program} {w : World} {A : Around} {Q E : Value → Shared → Prop} {s : Shared} {code : Array Nat} {x y : Str} {tx ty : Tok} {pa : Addr} {S : Nat → Option (Nat × Nat)} {l : List Str}
    (hpat : PatAt s.heap pa code) (hF : Finds code x.cps S) (hl : Lays x.cps y S 0 l) (hx : x.cps.size ≤ sizeLine) (hy : y.cps.contains 92 = false) (hlen : (textOf l).length ≤ sizeLine) (hcnt : l.length ≤ sizeLine)
    (hQ : ∀ h' tk' t', (∀ b o, s.heap.get? b = some o → h'.get? b = some o) → Q (.str (textOf l) t') { s with heap := h', toks := tk' }) :
    wpAny (model prog w) A (call (.builtin "re.Pattern.sub") [.ref pa, .str y ty, .str x tx]) Q E s := by
  obtain ⟨fs, its, o, oc, ca, n, h1, h2, h2', h3, h4, h5, h6, h7, h8, h9⟩ := id hpat.ex
  refine wpAny_call (codeAny_call_builtin slot_sub.plain entry_sub (slot_sub.check _ _ _ _ _ _ _ _ ⟨o, h1, h2⟩ (args_sub_3 _ _ _) ?_))
  show wpAny _ _ (reSubstitute "re.Pattern.sub" "sub" false ⟨[.ref pa, .str y ty, .str x tx], []⟩) _ _ s
  unfold reSubstitute
  dsimp only
  refine wpAny_bind (wpAny_of_eq (named_sub _ _) ?_)
  refine wpAny_bind (wpAny_pure ?_)
  refine wpAny_bind (wpAny_specialOf (typeIs_str _ _ _) lookup_str_call ?_)
  dsimp only [Option.isSome]
  refine wpAny_bind (m := asStr? (.str y ty)) (wpAny_pure ?_)
  dsimp only
  refine wpAny_bind (wpAny_pure ?_)
  rw [hy]
  refine wpAny_bind (wpAny_pure ?_)
  refine wpAny_bind (wpAny_holding (wholeTarget hpat ?_))
  refine wpAny_bind (wpAny_newList ?_ (by decide))
  have hfresh : s.heap.get? s.heap.objs.size = none := by
    cases e : s.heap.get? s.heap.objs.size with
    | none => rfl
    | some o => exact absurd (Heap.lt_size e) (Nat.lt_irrefl _)
  refine wpAny_pure ⟨plainId_quiet plain_sub_loop _, ?_⟩
  refine sub_loop (h₀ := s.heap) hF hx hfresh hpat hl (Nat.zero_le _) [] 0 _ (fun b o e => Heap.get?_push_of_some _ e) ⟨0, Heap.get?_push_size _ rfl⟩ (by simpa using hlen) (by simpa using hcnt) fun h' tk' t' hk => ?_
  exact hQ h' tk' t' hk
end Mine
end

section
open PySem PySem.Sre PySem.Builtin.Re
namespace Mine

def nextAt (f : Nat → Bool) : Nat → Nat → Option Nat
  | 0, _ => none
  | n + 1, p => if f p then some p else nextAt f n (p + 1)

theorem nextAt_some {f : Nat → Bool} : ∀ {n p q : Nat}, nextAt f n p = some q → p ≤ q ∧ q < p + n ∧ f q = true ∧ ∀ i, p ≤ i → i < q → f i = false
  | 0, _, _, h => by cases h
  | n + 1, p, q, h => by
    unfold nextAt at h
    by_cases hp : f p = true
    · rw [if_pos hp] at h
      cases h
      exact ⟨Nat.le_refl _, by omega, hp, fun i h1 h2 => by omega⟩
    · rw [if_neg hp] at h
      obtain ⟨h1, h2, h3, h4⟩ := nextAt_some h
      refine ⟨by omega, by omega, h3, fun i hi hq => ?_⟩
      rcases Nat.lt_or_eq_of_le hi with h' | rfl
      · exact h4 i h' hq
      · simpa using hp
theorem nextAt_none {f : Nat → Bool} : ∀ {n p : Nat}, nextAt f n p = none → ∀ i, p ≤ i → i < p + n → f i = false
  | 0, _, _, i, h1, h2 => by omega
  | n + 1, p, h, i, hi, hq => by
    unfold nextAt at h
    by_cases hp : f p = true
    · rw [if_pos hp] at h; cases h
    · rw [if_neg hp] at h
      rcases Nat.lt_or_eq_of_le hi with h' | rfl
      · exact nextAt_none h i h' (by omega)
      · simpa using hp

def S2 (t : Array Nat) (p : Nat) : Option (Nat × Nat) := (nextAt (fun q => isEol (t.getD q 0)) (t.size - p) p).map fun q => (q, eolEnd t q)
def hit1b (t : Array Nat) (q : Nat) : Bool := atRow t q && t.getD q 0 == 46
def S1 (t : Array Nat) (p : Nat) : Option (Nat × Nat) := (nextAt (hit1b t) (t.size - p) p).map fun q => (q, q + 1)

theorem finds2 (t : Array Nat) : Finds code2 t (S2 t) := by
  intro p hp
  unfold S2
  cases h : nextAt (fun q => isEol (t.getD q 0)) (t.size - p) p with
  | none =>
    obtain ⟨m', g, ho⟩ := search2_none hp fun i h1 h2 => nextAt_none h i h1 (by omega)
    exact ⟨m', g.le (by decide), ho⟩
  | some q =>
    obtain ⟨h1, h2, h3, h4⟩ := nextAt_some h
    obtain ⟨m', g, ho⟩ := search2_hit (t := t) h1 (by omega) h3 h4
    refine ⟨h1, ?_, ?_, m', g.le (by decide), ho⟩ <;> (unfold eolEnd; split <;> omega)

theorem finds1 (t : Array Nat) (ht : t.size ≤ sizeLine) : Finds code1 t (S1 t) := by
  have hz : sizeLine = 16777216 := rfl
  intro p hp
  unfold S1
  cases h : nextAt (hit1b t) (t.size - p) p with
  | none =>
    obtain ⟨m', g, ho⟩ := search1_none hp fun i h1 h2 hh => by
      have := nextAt_none h i h1 (by omega)
      unfold hit1b at this
      rw [hh.1, hh.2] at this
      cases this
    exact ⟨m', g.le (by omega), ho⟩
  | some q =>
    obtain ⟨h1, h2, h3, h4⟩ := nextAt_some h
    have h3' : hit1 t q := by unfold hit1b at h3; unfold hit1; simpa using h3
    obtain ⟨m', g, ho⟩ := search1_hit (t := t) h1 (by omega) h3' fun i hi hq hh => by
      have := h4 i hi hq
      unfold hit1b at this
      rw [hh.1, hh.2] at this
      cases this
    exact ⟨h1, Nat.lt_succ_self q, by omega, m', g.le (by omega), ho⟩

/-- all ends made the one end -/
def fixL : List Nat → List Nat
  | [] => []
  | 13 :: 10 :: r => 13 :: 10 :: fixL r
  | c :: r => if isEol c then 13 :: 10 :: fixL r else c :: fixL r

/-- a dot at a row's begin doubled -/
def quoteL : Bool → List Nat → List Nat
  | _, [] => []
  | b, c :: r => if b && c == 46 then 46 :: 46 :: quoteL false r else c :: quoteL (c == 10) r

theorem fixL_plain {c : Nat} {r : List Nat} (h : isEol c = false) : fixL (c :: r) = c :: fixL r := by
  rw [fixL]
  · rw [if_neg (by simp [h])]
  · rintro r' rfl _; exact absurd h (by decide)
theorem fixL_eol {c : Nat} {r : List Nat} (h : isEol c = true) (hn : ∀ r', c = 13 → r = 10 :: r' → False) : fixL (c :: r) = 13 :: 10 :: fixL r := by
  rw [fixL]
  · rw [if_pos h]
  · exact hn
theorem fixL_crlf {r : List Nat} : fixL (13 :: 10 :: r) = 13 :: 10 :: fixL r := by rw [fixL]

theorem drop_cons {t : Array Nat} {p : Nat} (h : p < t.size) : t.toList.drop p = t.getD p 0 :: t.toList.drop (p + 1) := by
  rw [List.drop_eq_getElem_cons (by simpa using h)]
  congr 1
  simp [Array.getD, h]

theorem fixL_run {t : Array Nat} : ∀ (k p : Nat), p + k ≤ t.size → (∀ i, p ≤ i → i < p + k → isEol (t.getD i 0) = false) → fixL (t.toList.drop p) = (t.extract p (p + k)).toList ++ fixL (t.toList.drop (p + k))
  | 0, p, _, _ => by simp
  | k + 1, p, h, hn => by
    have e : (t.extract p (p + (k + 1))).toList = t.getD p 0 :: (t.extract (p + 1) (p + 1 + k)).toList := by
      rw [Array.toList_extract, Array.toList_extract, List.extract_eq_take_drop, List.extract_eq_take_drop, drop_cons (by omega), show p + (k + 1) - p = k + 1 from by omega, List.take_succ_cons, show p + 1 + k - (p + 1) = k from by omega]
    rw [e, drop_cons (by omega), fixL_plain (hn p (Nat.le_refl _) (by omega)), fixL_run k (p + 1) (by omega) fun i h1 h2 => hn i (by omega) (by omega), show p + (k + 1) = p + 1 + k from by omega]
    rfl

theorem atRow_succ (t : Array Nat) (p : Nat) : atRow t (p + 1) = (t.getD p 0 == 10) := by
  unfold atRow; simp

theorem quoteL_run {t : Array Nat} : ∀ (k p : Nat), p + k ≤ t.size → (∀ i, p ≤ i → i < p + k → hit1b t i = false) → quoteL (atRow t p) (t.toList.drop p) = (t.extract p (p + k)).toList ++ quoteL (atRow t (p + k)) (t.toList.drop (p + k))
  | 0, p, _, _ => by simp
  | k + 1, p, h, hn => by
    have e : (t.extract p (p + (k + 1))).toList = t.getD p 0 :: (t.extract (p + 1) (p + 1 + k)).toList := by
      rw [Array.toList_extract, Array.toList_extract, List.extract_eq_take_drop, List.extract_eq_take_drop, drop_cons (by omega), show p + (k + 1) - p = k + 1 from by omega, List.take_succ_cons, show p + 1 + k - (p + 1) = k from by omega]
    have h0 := hn p (Nat.le_refl _) (by omega)
    unfold hit1b at h0
    rw [e, drop_cons (by omega), quoteL, if_neg (by rw [h0]; exact Bool.false_ne_true), ← atRow_succ, quoteL_run k (p + 1) (by omega) fun i h1 h2 => hn i (by omega) (by omega), show p + (k + 1) = p + 1 + k from by omega]
    rfl

theorem extract_all {t : Array Nat} {p : Nat} (hp : p ≤ t.size) : (t.extract p t.size).toList = t.toList.drop p := by
  rw [Array.toList_extract, List.extract_eq_take_drop, List.take_of_length_le (by simp)]

theorem lays2 {t : Array Nat} {y : Str} (hy : y.cps = #[13, 10]) : ∀ (k p : Nat), t.size - p ≤ k → p ≤ t.size → ∃ l, Lays t y (S2 t) p l ∧ (textOf l).cps.toList = fixL (t.toList.drop p) ∧ l.length ≤ 2 * (t.size - p) + 1 := by
  intro k
  induction k with
  | zero =>
    intro p hk hp
    have e : p = t.size := by omega
    refine ⟨_, .none (by unfold S2; rw [e, Nat.sub_self]; rfl), ?_, ?_⟩
    · rw [if_neg (by omega), e, List.drop_eq_nil_of_le (by simp)]; rfl
    · rw [if_neg (by omega)]; simp
  | succ k ih =>
    intro p hk hp
    cases h : nextAt (fun q => isEol (t.getD q 0)) (t.size - p) p with
    | none =>
      refine ⟨_, .none (by unfold S2; rw [h]; rfl), ?_, ?_⟩
      · have := fixL_run (t := t) (t.size - p) p (by omega) fun i h1 h2 => nextAt_none h i h1 h2
        rw [this, show p + (t.size - p) = t.size from by omega, List.drop_eq_nil_of_le (as := t.toList) (by simp)]
        split
        · simp [textOf, fixL]
        · rename_i hlt
          have e : p = t.size := by omega
          subst e
          simp [textOf, fixL]
      · split <;> simp
    | some q =>
      obtain ⟨h1, h2, h3, h4⟩ := nextAt_some h
      have hqe : q < eolEnd t q ∧ eolEnd t q ≤ t.size := by constructor <;> (unfold eolEnd; split <;> omega)
      obtain ⟨l, hl, htx, hlen⟩ := ih (eolEnd t q) (by omega) hqe.2
      refine ⟨_, .some (by unfold S2; rw [h]; rfl) hl, ?_, ?_⟩
      · have run := fixL_run (t := t) (q - p) p (by omega) fun i h1 h2 => h4 i h1 (by omega)
        rw [show p + (q - p) = q from by omega] at run
        have e2 : fixL (t.toList.drop q) = 13 :: 10 :: fixL (t.toList.drop (eolEnd t q)) := by
          rw [drop_cons (show q < t.size by omega)]
          unfold eolEnd
          by_cases hc : t.getD q 0 = 13 ∧ q + 1 < t.size ∧ t.getD (q + 1) 0 = 10
          · rw [if_pos hc, hc.1, drop_cons hc.2.1, hc.2.2, fixL_crlf]
          · rw [if_neg hc]
            refine fixL_eol h3 fun r' e1 e2 => hc ⟨e1, ?_⟩
            by_cases hlt : q + 1 < t.size
            · rw [drop_cons hlt] at e2
              exact ⟨hlt, (List.cons.inj e2).1⟩
            · rw [List.drop_eq_nil_of_le (by simp; omega)] at e2; cases e2
        rw [textOf_append, textOf_cons, run, e2, ← htx, hy]
        by_cases hlt : p < q
        · simp [hlt, textOf]
        · have : p = q := by omega
          subst this
          simp [textOf]
      · simp only [List.length_append, List.length_cons]
        split <;> simp <;> omega

theorem lays1 {t : Array Nat} {y : Str} (hy : y.cps = #[46, 46]) : ∀ (k p : Nat), t.size - p ≤ k → p ≤ t.size → ∃ l, Lays t y (S1 t) p l ∧ (textOf l).cps.toList = quoteL (atRow t p) (t.toList.drop p) ∧ l.length ≤ 2 * (t.size - p) + 1 := by
  intro k
  induction k with
  | zero =>
    intro p hk hp
    have e : p = t.size := by omega
    refine ⟨_, .none (by unfold S1; rw [e, Nat.sub_self]; rfl), ?_, ?_⟩
    · rw [if_neg (by omega), e, List.drop_eq_nil_of_le (by simp)]; simp [textOf, quoteL]
    · rw [if_neg (by omega)]; simp
  | succ k ih =>
    intro p hk hp
    cases h : nextAt (hit1b t) (t.size - p) p with
    | none =>
      refine ⟨_, .none (by unfold S1; rw [h]; rfl), ?_, ?_⟩
      · have := quoteL_run (t := t) (t.size - p) p (by omega) fun i h1 h2 => nextAt_none h i h1 h2
        rw [this, show p + (t.size - p) = t.size from by omega, List.drop_eq_nil_of_le (as := t.toList) (by simp)]
        split
        · simp [textOf, quoteL]
        · rename_i hlt
          have e : p = t.size := by omega
          subst e
          simp [textOf, quoteL]
      · split <;> simp
    | some q =>
      obtain ⟨h1, h2, h3, h4⟩ := nextAt_some h
      obtain ⟨l, hl, htx, hlen⟩ := ih (q + 1) (by omega) (by omega)
      refine ⟨_, .some (by unfold S1; rw [h]; rfl) hl, ?_, ?_⟩
      · have run := quoteL_run (t := t) (q - p) p (by omega) fun i h1 h2 => h4 i h1 (by omega)
        rw [show p + (q - p) = q from by omega] at run
        have h46 : t.getD q 0 = 46 := by unfold hit1b at h3; exact of_decide_eq_true (Bool.and_eq_true_iff.mp h3).2
        have e2 : quoteL (atRow t q) (t.toList.drop q) = 46 :: 46 :: quoteL (atRow t (q + 1)) (t.toList.drop (q + 1)) := by
          rw [drop_cons (show q < t.size by omega), quoteL, if_pos (show (atRow t q && t.getD q 0 == 46) = true from h3), atRow_succ, h46]; rfl
        rw [textOf_append, textOf_cons, run, e2, ← htx, hy]
        by_cases hlt : p < q
        · simp [hlt, textOf]
        · have : p = q := by omega
          subst this
          simp [textOf]
      · simp only [List.length_append, List.length_cons]
        split <;> simp <;> omega
end Mine
end

section
open PySem PySem.W PyProof.Rows
namespace Mine
open_top hd for PySem.Challenge.rw_sc0021_01
end Mine
end

section
open PySem PySem.W PySem.Calls PyProof.Rows
namespace Mine

/-- the ground: the written part of the heap, the two name tables -/
structure Gr (w : World) (h : Heap) : Prop where
  kin : (hd.heap_39 w.params).In h
  top : ∃ p loose mg mb, TopRead p loose mg mb h
theorem Gr.keeps {w : World} {h h' : Heap} (G : Gr w h) (k : ∀ b o, h.get? b = some o → h'.get? b = some o) : Gr w h' :=
  ⟨G.kin.keeps k, let ⟨p, l, mg, mb, T⟩ := G.top; ⟨p, l, mg, mb, T.keeps k⟩⟩
theorem Gr.nolimit {w : World} {h : Heap} (G : Gr w h) : h.NoLimit := let ⟨_, _, _, _, T⟩ := G.top; T.nolimit

/-- the frame at hand: its names m, what the call has made -/
structure St (s₀ : Shared) (L : Addr) (m : Str → Option Value) (nw : List (Addr × Obj)) (s : Shared) : Prop where
  same : ∃ h tk, s = { s₀ with heap := h, toks := tk }
  fr : Fr s₀.heap L s.heap m
  nw : News s₀.heap L s.heap nw

theorem kp_rfl {s : Shared} : Keeps s s := ⟨s.heap, s.toks, rfl, fun _ _ e => e⟩
theorem kp_trans {a b c : Shared} (x : Keeps a b) (y : Keeps b c) : Keeps a c := by
  obtain ⟨h, tk, rfl, k⟩ := x
  obtain ⟨h', tk', rfl, k'⟩ := y
  exact ⟨h', tk', rfl, fun b o e => k' b o (k b o e)⟩
theorem kp_at {a b : Shared} (x : Keeps a b) {l : Addr} {o : Obj} (e : a.heap.get? l = some o) : b.heap.get? l = some o := by
  obtain ⟨h, tk, rfl, k⟩ := x
  exact k _ _ e
theorem kp_mk {s : Shared} {h' : Heap} {tk : Nat} (k : ∀ b o, s.heap.get? b = some o → h'.get? b = some o) : Keeps s { s with heap := h', toks := tk } := ⟨h', tk, rfl, k⟩
theorem kp_old {a b : Shared} (x : Keeps a b) : ∀ l o, a.heap.get? l = some o → b.heap.get? l = some o := fun _ _ e => kp_at x e

section
variable {s₀ s s' : Shared} {L : Addr} {m m' : Str → Option Value} {nw nw' : List (Addr × Obj)}
theorem St.keeps (S : St s₀ L m nw s) (k : Keeps s s') : St s₀ L m nw s' := by
  obtain ⟨h', tk', rfl, k⟩ := k
  obtain ⟨⟨h, tk, rfl⟩, F, N⟩ := S
  exact ⟨⟨h', tk', rfl⟩, F.after k, fun p hp => ⟨k _ _ (N p hp).1, (N p hp).2⟩⟩
theorem St.done (S : St s₀ L m nw s) : Keeps s₀ s := by
  obtain ⟨⟨h, tk, rfl⟩, F, N⟩ := S
  exact ⟨h, tk, rfl, F.keep⟩
theorem St.mk2 (S : St s₀ L m nw s) {h' : Heap} {tk : Nat} (F : Fr s₀.heap L h' m') (N : News s₀.heap L h' nw') : St s₀ L m' nw' { s with heap := h', toks := tk } := by
  obtain ⟨⟨h, tk, rfl⟩, _, _⟩ := S
  exact ⟨⟨_, _, rfl⟩, F, N⟩
theorem St.tok (S : St s₀ L m nw s) {tk : Nat} : St s₀ L m nw { s with toks := tk } := S.mk2 S.fr S.nw
theorem St.get (S : St s₀ L m nw s) {a : Addr} {o : Obj} (h : (a, o) ∈ nw) : s.heap.get? a = some o := (S.nw _ h).1
theorem St.low (S : St s₀ L m nw s) {a : Addr} {o : Obj} (h : s₀.heap.get? a = some o) : s.heap.get? a = some o := S.fr.keep _ _ h
theorem St.less (S : St s₀ L m nw s) (h : ∀ p ∈ nw', p ∈ nw) : St s₀ L m nw' s := ⟨S.same, S.fr, fun p hp => S.nw p (h p hp)⟩
theorem St.frame (S : St s₀ L m nw s) : ∃ o, s.heap.get? L = some o := let ⟨o, _, _, h, _⟩ := S.fr.ns; ⟨o, h⟩
/-- an object that a callee made -/
theorem St.add (S : St s₀ L m nw s) (k : Keeps s s') {a : Addr} {o : Obj} (h0 : s.heap.get? a = none) (h1 : s'.heap.get? a = some o) : St s₀ L m ((a, o) :: nw) s' := by
  have S' := S.keeps k
  refine ⟨S'.same, S'.fr, fun p hp => ?_⟩
  rcases List.mem_cons.mp hp with rfl | hp
  · refine ⟨h1, ?_, ?_⟩
    · rintro rfl
      obtain ⟨o', e⟩ := S.frame
      rw [h0] at e; cases e
    · cases e : s₀.heap.get? a with
      | none => rfl
      | some o' => rw [S.low e] at h0; cases h0
  · exact S'.nw p hp
theorem Gr.st {w : World} (G : Gr w s₀.heap) (S : St s₀ L m nw s) : Gr w s.heap := G.keeps S.fr.keep
end

/-- a list of texts, as an object -/
def listS (ts : List (Str × Tok)) (n : Nat) : Obj := { cls := .type "list", data := .seq (strValues ts).toArray n }
def listV (vs : List Value) (n : Nat) : Obj := { cls := .type "list", data := .seq vs.toArray n }

/-- a plain call -/
theorem call_fn {prog : Program} {w : World} {A : Around} {Q E : Value → Shared → Prop} {s : Shared} {f : Addr} {o : Obj} {fd : FuncData} {body : List Stmt} {vals : List Value} {binds : List (Str × Value)}
    (ho : s.heap.get? f = some o) (hdata : o.data = .func fd) (hbody : fd.body = .stmts body)
    (hroom : A.depth < recursionLimit) (G : Gr w s.heap) (hcd : s.heap.CodeRec fd.code fd.qualname)
    (hbind : bindArgs fd ⟨vals, []⟩ = pure binds) (hcell : ∀ x ∈ fd.scope.names, x.2 ≠ .cell) (hloc : ∀ x ∈ binds, fd.scope.names.lookup x.1 = some .local)
    (h : ∀ s₁ L, St s L (fun x => binds.reverse.lookup x) [] s₁ →
      wpAny (model prog w) (A.deeper (callEnv fd L f)) (execs body (callEnv fd L f)) (fun fl s' => Q (match fl with | .ret v => v | _ => .none) s') (fun _ _ => False) s₁)
    (hco : fd.scope.isCoroutine = false := by rfl) (hgen : fd.scope.isGenerator = false := by rfl) (hk : fd.scope.kind = .function := by rfl) :
    wpAny (model prog w) A (call (.ref f) vals) Q E s :=
  wpAny_call (codeAny_call_straight hroom ho hdata G.nolimit hcd hbody hbind hcell hloc (fun s₁ C =>
    wpAny_mono (h s₁ _ ⟨C.same, ⟨C.ns, C.keep, C.fresh⟩, fun _ hp => nomatch hp⟩) (fun _ _ x => x) (fun _ _ x => x.elim)) hco hgen hk)

section
variable {M : Model} {A : Around} {E : Value → Shared → Prop} {s₀ s : Shared} {w : World} {L a : Addr} {m : Str → Option Value} {nw : List (Addr × Obj)} {cn : Str} {cs : Scope} {cd : Value}
  {x : Str} {pos : Pos} {v : Value} {Q : Value → Shared → Prop}
theorem lL (S : St s₀ L m nw s) (hv : m x = some v) (h : Q v s)
    (hk : cs.kind = .function := by rfl) (hx : (envOf cn cs L a cd).kindOf x = some .local := by rfl) (hd : (x == ("__debug__" : Str)) = false := by decide) :
    wpAny M A (eval (.Name x pos) (envOf cn cs L a cd)) Q E s := wpAny_Name (wpAny_loadName_local hk hx S.fr.ns hv h) hd
theorem lK (S : St s₀ L m nw s) (G : Gr w s₀.heap) (hv : nsIn (hd.heap_39 w.params) mainGlobals x = some (some v)) (h : Q v s)
    (hk : cs.kind = .function := by rfl) (hx : (envOf cn cs L a cd).kindOf x = some .globalImplicit := by rfl) (hd : (x == ("__debug__" : Str)) = false := by decide) :
    wpAny M A (eval (.Name x pos) (envOf cn cs L a cd)) Q E s := let ⟨_, _, _, _, T⟩ := G.top; name_K S.fr G.kin T hv h hk hx hd
theorem lB (S : St s₀ L m nw s) (G : Gr w s₀.heap) (e : nsIn (hd.heap_39 w.params) mainGlobals x = some none) (hv : bootBuiltins x = some v) (hn : x ≠ "__name__") (h : Q v s)
    (hk : cs.kind = .function := by rfl) (hx : (envOf cn cs L a cd).kindOf x = some .globalImplicit := by rfl) (hd : (x == ("__debug__" : Str)) = false := by decide) :
    wpAny M A (eval (.Name x pos) (envOf cn cs L a cd)) Q E s := let ⟨_, _, _, _, T⟩ := G.top; name_B S.fr G.kin T e hv hn h hk hx hd
theorem sL {Q : Unit → Shared → Prop} (S : St s₀ L m nw s) (h : ∀ s', St s₀ L (fun y => if y = x then some v else m y) nw s' → Q () s')
    (hk : cs.kind = .function := by rfl) (hx : (envOf cn cs L a cd).kindOf x = some .local := by rfl) : wpAny M A (storeName (envOf cn cs L a cd) x v) Q E s :=
  stN S.fr S.nw (fun _ F N => h _ (S.mk2 F N)) hk hx
end

end Mine
end

section
open PySem PySem.W PySem.Calls PyProof.Rows PySem.Sre PySem.Builtin.Re
namespace Mine

/-- a text from its signs' numbers -/
def T (l : List Nat) : Str := ⟨l.toArray⟩
theorem T_len (l : List Nat) : (T l).length = l.length := rfl
theorem T_of {x : Str} {l : List Nat} (h : x.cps.toList = l) : x = T l := by
  obtain ⟨⟨a⟩⟩ := x
  subst h; rfl
theorem T_append (a b : List Nat) : T a ++ T b = T (a ++ b) := T_of (by
  show ((T a).cps ++ (T b).cps).toList = a ++ b
  rw [Array.toList_append]; rfl)
theorem T_inj {a b : List Nat} : T a = T b ↔ a = b := ⟨fun h => by have := congrArg (fun s : Str => s.cps.toList) h; exact this, fun h => by rw [h]⟩

theorem fixL_len : ∀ l : List Nat, (fixL l).length ≤ 2 * l.length
  | [] => Nat.zero_le _
  | c :: r => by
    by_cases h : isEol c = true
    · by_cases h2 : ∃ r', c = 13 ∧ r = 10 :: r'
      · obtain ⟨r', rfl, rfl⟩ := h2
        have := fixL_len r'
        rw [fixL_crlf]; simp only [List.length_cons]; omega
      · have := fixL_len r
        rw [fixL_eol h (fun r' e1 e2 => h2 ⟨r', e1, e2⟩)]; simp only [List.length_cons]; omega
    · have := fixL_len r
      rw [fixL_plain (by simpa using h)]; simp only [List.length_cons]; omega
theorem quoteL_len : ∀ (b : Bool) (l : List Nat), (quoteL b l).length ≤ 2 * l.length
  | _, [] => Nat.zero_le _
  | b, c :: r => by
    rw [quoteL]
    split
    · have := quoteL_len false r
      simp only [List.length_cons]; omega
    · have := quoteL_len (c == 10) r
      simp only [List.length_cons]; omega

theorem pat1 {w : World} {h : Heap} (G : Gr w h) : PatAt h 36 code1 :=
  ⟨_, _, _, _, 35, _, G.kin 36 _ (Eq.refl (some _)), rfl, rfl, rfl, rfl, rfl, rfl, G.kin 35 _ (Eq.refl (some _)), rfl, by decide +kernel⟩
theorem pat2 {w : World} {h : Heap} (G : Gr w h) : PatAt h 41 code2 :=
  ⟨_, _, _, _, 40, _, G.kin 41 _ (Eq.refl (some _)), rfl, rfl, rfl, rfl, rfl, rfl, G.kin 40 _ (Eq.refl (some _)), rfl, by decide +kernel⟩

section
variable {prog : Program} {w : World} {A : Around} {Q E : Value → Shared → Prop} {s : Shared} {l : List Nat} {tx ty : Tok}
theorem sub2 (G : Gr w s.heap) (hl : l.length ≤ 1000000) (hQ : ∀ s' t', Keeps s s' → Q (.str (T (fixL l)) t') s') :
    wpAny (model prog w) A (call (.builtin "re.Pattern.sub") [.ref 41, .str (Str.ofString "\r\n") ty, .str (T l) tx]) Q E s := by
  have hy : (Str.ofString "\r\n").cps = #[13, 10] := by decide +kernel
  have hz : sizeLine = 16777216 := rfl
  have hsz : (T l).cps.size = l.length := rfl
  obtain ⟨r, hr, ht, hc⟩ := lays2 (t := (T l).cps) hy (T l).cps.size 0 (by omega) (Nat.zero_le _)
  have e : textOf r = T (fixL l) := T_of (by rw [ht]; rfl)
  refine call_sub (pat2 G) (finds2 _) hr (by omega) (by rw [hy]; decide +kernel) ?_ (by omega) fun h' tk' t' k => ?_
  · rw [e, T_len]; have := fixL_len l; omega
  · rw [e]; exact hQ _ _ (kp_mk k)
theorem sub1 (G : Gr w s.heap) (hl : l.length ≤ 1000000) (hQ : ∀ s' t', Keeps s s' → Q (.str (T (quoteL true l)) t') s') :
    wpAny (model prog w) A (call (.builtin "re.Pattern.sub") [.ref 36, .str (Str.ofString "..") ty, .str (T l) tx]) Q E s := by
  have hy : (Str.ofString "..").cps = #[46, 46] := by decide +kernel
  have hz : sizeLine = 16777216 := rfl
  have hsz : (T l).cps.size = l.length := rfl
  obtain ⟨r, hr, ht, hc⟩ := lays1 (t := (T l).cps) hy (T l).cps.size 0 (by omega) (Nat.zero_le _)
  have e : textOf r = T (quoteL true l) := T_of (by rw [ht]; rfl)
  refine call_sub (pat1 G) (finds1 _ (by omega)) hr (by omega) (by rw [hy]; decide +kernel) ?_ (by omega) fun h' tk' t' k => ?_
  · rw [e, T_len]; have := quoteL_len true l; omega
  · rw [e]; exact hQ _ _ (kp_mk k)

theorem meth_pat {a : Addr} {code : Array Nat} {pl : Sem Bool} {Q : Value × List Value → Shared → Prop} (P : PatAt s.heap a code) (h : Q (.builtin "re.Pattern.sub", [.ref a]) s) :
    wpAny (model prog w) A (getMethod (.ref a) "sub" pl) Q E s := by
  obtain ⟨fs, its, o, oc, ca, n, h1, h2, h2', _⟩ := P.ex
  exact getMethod_builtin ⟨o, h1, h2⟩ plainAttrs_pat slot_sub type_sub (fun a' e => by cases e; exact ⟨o, h1, h2'⟩) h

theorem fix_eols_ok (G : Gr w s.heap) (hA : A.depth < 900) (hl : l.length ≤ 1000000) (hQ : ∀ s' t', Keeps s s' → Q (.str (T (fixL l)) t') s') :
    wpAny (model prog w) A (call (.ref 55) [.str (T l) tx]) Q E s := by
  refine call_fn (G.kin 55 _ (Eq.refl (some _))) rfl rfl (Nat.lt_trans hA (by decide)) G (codeRec_of G.kin rfl) rfl (by decide) (locs rfl) fun s₁ L S => ?_
  refine wpAny_execs_cons (wpAny_Return_some (MethodCall_ (lK S G (Eq.refl (some (some _))) (meth_pat (pat2 (G.st S)) (PyProof.Rows.callWith_method1 (args_cons (lK S G (Eq.refl (some (some _))) (args_cons (lL S rfl (args_nil ?_)))))))))) 
  refine sub2 (G.st S) hl fun s' t' k => ?_
  exact hQ _ _ (kp_trans S.done k)
theorem quotedata_ok (G : Gr w s.heap) (hA : A.depth < 900) (hl : l.length ≤ 400000) (hQ : ∀ s' t', Keeps s s' → Q (.str (T (quoteL true (fixL l))) t') s') :
    wpAny (model prog w) A (call (.ref 48) [.str (T l) tx]) Q E s := by
  refine call_fn (G.kin 48 _ (Eq.refl (some _))) rfl rfl (Nat.lt_trans hA (by decide)) G (codeRec_of G.kin rfl) rfl (by decide) (locs rfl) fun s₁ L S => ?_
  refine wpAny_execs_cons (wpAny_Return_some (MethodCall_ (lK S G (Eq.refl (some (some _))) (meth_pat (pat1 (G.st S)) (PyProof.Rows.callWith_method1 (args_cons (wpAny_Constant_str (args_cons ?_))))))))
  have S2 := S.tok (tk := s₁.toks + 1)
  refine MethodCall_ (lK S2 G (Eq.refl (some (some _))) (meth_pat (pat2 (G.st S2)) (PyProof.Rows.callWith_method1 (args_cons (lK S2 G (Eq.refl (some (some _))) (args_cons (lL S2 rfl (args_nil ?_))))))))
  refine sub2 (G.st S2) (by omega) fun s' t' k => args_nil ?_
  have S3 := S2.keeps k
  refine sub1 (G.st S3) (by have := fixL_len l; omega) fun s'' t'' k' => ?_
  exact hQ _ _ (kp_trans S3.done k')
end
end Mine
end

section
open PySem PySem.W PySem.Calls PyProof.Rows
namespace Mine

/-- no entry of the kind c -/
def NoCls (c : String) (nw : List (Addr × Obj)) : Prop := ∀ p ∈ nw, p.2.cls ≠ .type c
theorem NoCls.nil {c : String} : NoCls c [] := fun _ h => nomatch h
theorem NoCls.cons {c : String} {p : Addr × Obj} {nw : List (Addr × Obj)} (h : p.2.cls ≠ .type c) (r : NoCls c nw) : NoCls c (p :: nw) := fun q hq => by
  rcases List.mem_cons.mp hq with rfl | hq
  · exact h
  · exact r q hq

section
variable {prog : Program} {w : World} {A : Around} {s s₀ : Shared} {L fa : Addr} {cn : Str} {cs : Scope} {cd : Value}

theorem for_range {Q : Flow → Shared → Prop} {x : Str} {px pos : Pos} {iter : Expr} {body : List Stmt}
    (hh : A.handled = none) (hx : (envOf cn cs L fa cd).kindOf x = some .local) (hk : cs.kind = .function)
    (h : wpAny (model prog w) A (eval iter (envOf cn cs L fa cd)) (fun xv s₁ => ∃ (r : Addr) (a b : Int) (t u v : Tok) (m : Str → Option Value) (nw : List (Addr × Obj)) (J : Nat → (Str → Option Value) → List (Addr × Obj) → Prop),
      xv = .ref r ∧ IsRange s₁.heap r a b 1 t u v ∧ a ≤ b ∧ -(2 ^ 60) ≤ a ∧ b < 2 ^ 60 ∧ St s₀ L m nw s₁ ∧ NoCls "range_iterator" nw ∧ J 0 m nw ∧
      (∀ (i : Nat) tk m₁ nw₁ own s₂, a + i < b → J i m₁ nw₁ → St s₀ L (fun y => if y = x then some (.int (a + i) tk) else m₁ y) (own ++ nw₁) s₂ →
        wpAny (model prog w) A (execs body (envOf cn cs L fa cd)) (fun f s₃ => f = .next ∧ ∃ m₂ nw₂, St s₀ L m₂ (own ++ nw₂) s₃ ∧ NoCls "range_iterator" nw₂ ∧ J (i + 1) m₂ nw₂) (fun _ _ => False) s₂) ∧
      (∀ m' nw' s', St s₀ L m' nw' s' → J (b - a).toNat m' nw' → Q .next s')) (fun _ _ => False) s)
    (hs : ∀ y, foldedSetIterable iter (envOf cn cs L fa cd) y = pure y := by intro _; rfl) :
    wpAny (model prog w) A (exec (.For (.Name x px) iter body [] pos) (envOf cn cs L fa cd)) Q (fun _ _ => False) s := by
  have hp : ((envOf cn cs L fa cd).scope.kind == .class || ((envOf cn cs L fa cd).scope.kind == .module && (envOf cn cs L fa cd).locals != (envOf cn cs L fa cd).globals)) = false := by
    show (cs.kind == .class || (cs.kind == .module && L != mainGlobals)) = false
    rw [hk]; rfl
  refine For_invV s₀.heap hx hp (wpAny_mono h (fun xv s₁ h₁ => ?_) fun _ _ e => e) hs PassesOwn.never
  obtain ⟨r, a, b, t, u, v, m, nw, J, rfl, hr, hab, ha, hb, S, hc, h0, step, hQ⟩ := h₁
  refine wpAny_pyIter_range hr (small_one (by omega) (by omega) (by omega) (by omega)) ?_
  have hn : Builtin.Range.rangeSize a b 1 = ((b - a).toNat : Int) := by rw [rangeSize_one]; split <;> omega
  have hnew : s₁.heap.get? s₁.heap.objs.size = none := by
    cases e : s₁.heap.get? s₁.heap.objs.size with
    | none => rfl
    | some o => exact absurd (Heap.lt_size e) (Nat.lt_irrefl _)
  have hnew0 : s₀.heap.get? s₁.heap.objs.size = none := by
    cases e : s₀.heap.get? s₁.heap.objs.size with
    | none => rfl
    | some o => rw [S.low e] at hnew; cases hnew
  have hL : L ≠ s₁.heap.objs.size := by
    rintro rfl
    obtain ⟨o, e⟩ := S.frame
    rw [hnew] at e; cases e
  rw [hn]
  have S' : St s₀ L m nw { s₁ with heap := s₁.heap.push { cls := .type "range_iterator", data := .fields #[rawInt a, rawInt ((b - a).toNat : Int), rawInt 1] } } :=
    S.keeps ⟨_, s₁.toks, rfl, fun _ _ e => Heap.get?_push_of_some _ e⟩
  refine ⟨s₁.heap.objs.size, [s₁.heap.objs.size], [s₁.heap.objs.size], (b - a).toNat, _, _, m, nw, (fun i m' nw' => J i m' nw' ∧ NoCls "range_iterator" nw'), rfl, Walks.range hh _ a 1 _, ?_, ?_, ?_, ?_, S'.fr, S'.nw, ⟨h0, hc⟩, ?_, ?_⟩
  · intro hm; exact hL (List.mem_singleton.mp hm)
  · intro c hcm; rw [List.mem_singleton.mp hcm]; exact hnew0
  · intro p hpm hm
    have := S.get hpm
    rw [List.mem_singleton.mp hm, hnew] at this; cases this
  · show IsRangeIter _ _ _ _ _
    have : (Heap.push s₁.heap { cls := .type "range_iterator", data := .fields #[rawInt a, rawInt ((b - a).toNat : Int), rawInt 1] }).get? s₁.heap.objs.size = some _ := Heap.get?_push_size _ rfl
    simpa [IsRangeIter] using this
  · rintro i v m₁ nw₁ s₂ own ⟨h₂, tk₂, rfl⟩ hi hP hJ hoff hown hget hall hst F N
    obtain ⟨t, rfl⟩ := hP
    rw [Int.mul_one] at F
    obtain ⟨H₁, K₁, e₁⟩ := S.same
    refine wpAny_mono (step i t m₁ nw₁ own _ (by omega) hJ.1 ⟨⟨h₂, tk₂, by rw [e₁]⟩, F, N⟩) (fun f s₃ h₃ => ?_) fun _ _ e => e
    obtain ⟨rfl, m₂, nw₂, S₃, hc₂, hJ₂⟩ := h₃
    obtain ⟨H₃, K₃, e₃⟩ := S₃.same
    have e₄ : s₃ = { ({ ({ s₁ with heap := s₁.heap.push { cls := .type "range_iterator", data := .fields #[rawInt a, rawInt ((b - a).toNat : Int), rawInt 1] } } : Shared) with heap := h₂, toks := tk₂ } : Shared) with heap := s₃.heap, toks := s₃.toks } := by rw [e₃, e₁]
    rw [e₄]
    refine LoopStepV.next (LoopStepU.intro S₃.fr S₃.nw (fun p hpm hm => ?_) ⟨hJ₂, hc₂⟩)
    have e1 := hall s₁.heap.objs.size (List.mem_singleton_self _) hnew0 _ hst
    have e2 := S₃.get (List.mem_append_left _ e1)
    have e3 := S₃.get (List.mem_append_right _ hpm)
    rw [List.mem_singleton.mp hm] at e3
    rw [e2] at e3
    have := hc₂ p hpm
    rw [← Option.some.inj e3] at this
    exact this rfl
  · intro h' tk m' nw' F N _ hJ
    obtain ⟨H₁, K₁, e₁⟩ := S.same
    exact hQ m' nw' _ ⟨⟨h', tk, by rw [e₁]⟩, F, N⟩ hJ.1

/-- range(n) and range(a, b) -/
theorem mk_range1 {A : Around} {E Q : Value → Shared → Prop} {n : Int} {t : Tok} (h : ∀ s' r t u v, Keeps s s' → IsRange s'.heap r 0 n 1 t u v → Q (.ref r) s') :
    wpAny (model prog w) A (call (.type "range") [.int n t]) Q E s :=
  call_range_1 (h _ _ _ _ _ (kp_mk fun _ _ e => Heap.get?_push_of_some _ e) (IsRange.new ..))
theorem mk_range2 {A : Around} {E Q : Value → Shared → Prop} {a b : Int} {ta tb : Tok} (h : ∀ s' r t u v, Keeps s s' → IsRange s'.heap r a b 1 t u v → Q (.ref r) s') :
    wpAny (model prog w) A (call (.type "range") [.int a ta, .int b tb]) Q E s :=
  call_range_2 (h _ _ _ _ _ (kp_mk fun _ _ e => Heap.get?_push_of_some _ e) (IsRange.new ..))
end
end Mine
end

section
open PySem PySem.W PySem.Calls PyProof.Rows
namespace Mine

def tupV (vs : List Value) (n : Nat) : Obj := { cls := .type "tuple", data := .seq vs.toArray n }

section
variable {prog : Program} {w : World} {A : Around} {E : Value → Shared → Prop} {s₀ s : Shared} {L : Addr} {m : Str → Option Value} {nw : List (Addr × Obj)} {Q : Value → Shared → Prop} {env : Env}

theorem cI {i : Int} {k pos} (S : St s₀ L m nw s) (h : ∀ t s', St s₀ L m nw s' → Q (.int i t) s') : wpAny (model prog w) A (eval (.Constant (.int i) k pos) env) Q E s := wpAny_Constant_int (h _ _ S.tok)
theorem cS {x : Str} {l : List Nat} {k pos} (S : St s₀ L m nw s) (hx : x = T l) (h : ∀ t s', St s₀ L m nw s' → Q (.str (T l) t) s') : wpAny (model prog w) A (eval (.Constant (.str x) k pos) env) Q E s :=
  wpAny_Constant_str (hx ▸ h _ _ S.tok)

theorem addI {a b : Int} {t u : Tok} (S : St s₀ L m nw s) (h : ∀ t s', St s₀ L m nw s' → Q (.int (a + b) t) s') : wpAny (model prog w) A (binaryOp .Add (.int a t) (.int b u)) Q E s := P.add_int (h _ _ S.tok)
theorem iaddI {a b : Int} {t u : Tok} (S : St s₀ L m nw s) (h : ∀ t s', St s₀ L m nw s' → Q (.int (a + b) t) s') : wpAny (model prog w) A (inplaceOp .Add (.int a t) (.int b u)) Q E s := P.iadd_int (h _ _ S.tok)
theorem subI {a b : Int} {t u : Tok} (S : St s₀ L m nw s) (h : ∀ t s', St s₀ L m nw s' → Q (.int (a - b) t) s') : wpAny (model prog w) A (binaryOp .Sub (.int a t) (.int b u)) Q E s := P.sub_int (h _ _ S.tok)
theorem mulI {a b : Int} {t u : Tok} (S : St s₀ L m nw s) (ha : Builtin.Int.intBits a ≤ 64) (h : ∀ t s', St s₀ L m nw s' → Q (.int (a * b) t) s') : wpAny (model prog w) A (binaryOp .Mult (.int a t) (.int b u)) Q E s := P.mul_int (h _ _ S.tok) (IntMulOk.of_left ha)
theorem modI {a b : Int} {t u : Tok} (S : St s₀ L m nw s) (hb : b ≠ 0) (h : ∀ t s', St s₀ L m nw s' → Q (.int (a.fmod b) t) s') : wpAny (model prog w) A (binaryOp .Mod (.int a t) (.int b u)) Q E s := mod_int hb (h _ _ S.tok)
theorem negI {a : Int} {t : Tok} (S : St s₀ L m nw s) (h : ∀ t s', St s₀ L m nw s' → Q (.int (-a) t) s') : wpAny (model prog w) A (unaryOp .USub (.int a t)) Q E s := P.neg_int (h _ _ S.tok)

theorem addS {a b : List Nat} {t u : Tok} (S : St s₀ L m nw s) (hz : a.length + b.length ≤ 10000000) (h : ∀ t s', St s₀ L m nw s' → Q (.str (T (a ++ b)) t) s') : wpAny (model prog w) A (binaryOp .Add (.str (T a) t) (.str (T b) u)) Q E s :=
  SB.add (fun t' k => by rw [T_append]; exact h _ _ S.tok) (by rw [T_len, T_len, sizeLine_eq]; omega)
theorem iaddS {a b : List Nat} {t u : Tok} (S : St s₀ L m nw s) (hz : a.length + b.length ≤ 10000000) (h : ∀ t s', St s₀ L m nw s' → Q (.str (T (a ++ b)) t) s') : wpAny (model prog w) A (inplaceOp .Add (.str (T a) t) (.str (T b) u)) Q E s :=
  SB.iadd (fun t' k => by rw [T_append]; exact h _ _ S.tok) (by rw [T_len, T_len, sizeLine_eq]; omega)

theorem foldl_one (c : Nat) : ∀ (n : Nat) (acc : Array Nat), ((List.replicate n #[c]).foldl (· ++ ·) acc).toList = acc.toList ++ List.replicate n c
  | 0, acc => by simp
  | n + 1, acc => by rw [List.replicate_succ, List.foldl_cons, foldl_one c n]; simp [List.replicate_succ]
theorem Txt_mul_one (c : Nat) (n : Int) : Txt.mul (T [c]) n = T (List.replicate n.toNat c) := by
  unfold Txt.mul
  by_cases h : n < 1
  · rw [if_pos h, show n.toNat = 0 from by omega]; rfl
  · rw [if_neg h]
    by_cases h1 : n = 1
    · subst h1; rfl
    · have : (n == 1 || (T [c]).length == 0) = false := by
        simp only [Bool.or_eq_false_iff, beq_eq_false_iff_ne, ne_eq]
        exact ⟨h1, by rw [T_len]; simp⟩
      rw [this]
      refine T_of ?_
      exact (foldl_one c n.toNat #[]).trans (by simp)
theorem mulS {c : Nat} {n : Int} {t u : Tok} (S : St s₀ L m nw s) (hn : n ≤ 10000000) (hn0 : -10000000 ≤ n) (h : ∀ t s', St s₀ L m nw s' → Q (.str (T (List.replicate n.toNat c)) t) s') : wpAny (model prog w) A (binaryOp .Mult (.str (T [c]) t) (.int n u)) Q E s := by
  refine SB.mul ⟨?_, fun h1 h2 => ?_, fun h1 h2 => ?_⟩ (fun t' k => by rw [Txt_mul_one]; exact h _ _ S.tok)
  · simp only [Bool.or_eq_false_iff, decide_eq_false_iff_not]; omega
  · rw [T_len]
    have : 1 ≤ (2 ^ 63 - 1) / n := Int.le_ediv_of_mul_le (by omega) (by omega)
    simp only [List.length_cons, List.length_nil]; omega
  · rw [T_len]
    unfold Builtin.Str.tooLong sizeLine
    simp only [List.length_cons, List.length_nil, decide_eq_false_iff_not]; omega

theorem lenS {a : List Nat} {t : Tok} (S : St s₀ L m nw s) (hz : a.length ≤ 10000000) (h : ∀ t s', St s₀ L m nw s' → Q (.int a.length t) s') : wpAny (model prog w) A (call (.builtin "len") [.str (T a) t]) Q E s :=
  P.len_str (by rw [T_len]; omega) (h _ _ S.tok)
theorem lenL {a : Addr} {vs : List Value} (S : St s₀ L m nw s) (hl : s.heap.IsList a vs.toArray) (hz : vs.length ≤ 10000000) (h : ∀ t s', St s₀ L m nw s' → Q (.int vs.length t) s') : wpAny (model prog w) A (call (.builtin "len") [.ref a]) Q E s :=
  call_len_list hl (by simp only [List.size_toArray]; omega) (by simp only [List.size_toArray]; exact h _ _ S.tok)

theorem mkTup {vs : List Value} (S : St s₀ L m nw s) (hz : vs.length ≤ 1000) (h : ∀ a s', St s₀ L m ((a, tupV vs 0) :: nw) s' → Q (.ref a) s') : wpAny (model prog w) A (newTuple vs) Q E s :=
  newTuple_N S.fr S.nw (fun _ F N => h _ _ (S.mk2 F N)) (by rw [sizeLine_eq]; omega)
theorem mkList {vs : List Value} (S : St s₀ L m nw s) (hz : vs.length ≤ 1000) (h : ∀ a s', St s₀ L m ((a, listV vs 0) :: nw) s' → Q (.ref a) s') : wpAny (model prog w) A (newList vs) Q E s :=
  newList_N S.fr S.nw (fun _ F N => h _ _ (S.mk2 F N)) (by rw [sizeLine_eq]; omega)
theorem addL {a b : Addr} {vs ws : List Value} (S : St s₀ L m nw s) (ha : s.heap.IsList a vs.toArray) (hb : s.heap.IsList b ws.toArray) (hz : vs.length + ws.length ≤ 10000000)
    (h : ∀ a s', St s₀ L m ((a, listV (vs ++ ws) 0) :: nw) s' → Q (.ref a) s') : wpAny (model prog w) A (binaryOp .Add (.ref a) (.ref b)) Q E s :=
  add_arrays S.fr S.nw ha hb (fun _ F N => h _ _ (S.mk2 F N)) (by simp only [List.size_toArray]; rw [sizeLine_eq]; omega)
theorem mulL {a : Addr} {v : Value} {n : Nat} {x : Int} {u : Tok} (S : St s₀ L m nw s) (ha : s.heap.get? a = some (listV [v] n)) (hx : -1000000 ≤ x) (hx' : x ≤ 1000000)
    (h : ∀ a s', St s₀ L m ((a, listV (List.replicate x.toNat v) 0) :: nw) s' → Q (.ref a) s') : wpAny (model prog w) A (binaryOp .Mult (.ref a) (.int x u)) Q E s :=
  mul_list S.fr S.nw ha (by omega) (by omega) (by simp; omega) fun h' F N => by
    refine h _ _ (S.mk2 F ?_)
    have e : (List.foldl (fun x1 x2 => x1 ++ x2) #[] (List.replicate (if ([v].toArray.isEmpty) = true then 0 else x.toNat) [v].toArray)) = (List.replicate x.toNat v).toArray := by
      rw [listMul_foldl]; simp
    rw [e] at N
    exact N

theorem isList_of (S : St s₀ L m nw s) {a : Addr} {vs : List Value} {n : Nat} (h : (a, listV vs n) ∈ nw) : s.heap.IsList a vs.toArray := ⟨_, S.get h, rfl, n, rfl⟩
theorem isTup_of (S : St s₀ L m nw s) {a : Addr} {vs : List Value} {n : Nat} (h : (a, tupV vs n) ∈ nw) : IsTup s.heap a vs.toArray := ⟨_, S.get h, rfl, n, rfl⟩
theorem isList_low (S : St s₀ L m nw s) {a : Addr} {vs : List Value} (h : s₀.heap.IsList a vs.toArray) : s.heap.IsList a vs.toArray := let ⟨o, ho, r⟩ := h; ⟨o, S.low ho, r⟩

theorem sumL {a : Addr} {vs : List Value} {ns : List Int} (S : St s₀ L m nw s) (hh : A.handled = none) (hl : s.heap.IsList a vs.toArray) (hi : IntsAre vs ns)
    (h : ∀ t s', St s₀ L m nw s' → Q (.int ns.sum t) s') : wpAny (model prog w) A (call (.builtin "sum") [.ref a]) Q E s := by
  obtain ⟨xs, e⟩ := hi.allInts.items
  rw [e] at hl
  refine sum_intListG hh hl fun h' tk t' hk => ?_
  have := h t' _ (S.keeps (kp_mk (tk := tk) hk))
  rw [preSum_eq, List.take_of_length_le (by simp), ← nums_intItems, ← e, show vs.toArray.toList = vs from rfl, hi.numsOf]
  exact this

theorem evI {o : Option Expr} {e : Expr} {Q : Value → Shared → Prop} (ho : o = some e) (h : wpAny (model prog w) A (eval e env) Q E s) : wpAny (model prog w) A (evalPart o env) Q E s := by subst ho; exact h
theorem evN {Q : Value → Shared → Prop} (h : Q .none s) : wpAny (model prog w) A (evalPart none env) Q E s := wpAny_pure h

/-- a list's slice, made -/
def SlicePost (o vl vu : Value) (Q : Value → Shared → Prop) (s₃ : Shared) : Prop :=
  ∃ l items lo hi, o = .ref l ∧ s₃.heap.IsList l items ∧ items.size ≤ sizeLine ∧ IsPart vl lo ∧ IsPart vu hi ∧
        Q (.ref (s₃.heap.objs.size + 1)) { s₃ with heap := (s₃.heap.push { cls := .type "slice", data := .fields #[vl, vu, .none] }).push { cls := .type "list", data := .seq (slicePick items lo hi none) } }
theorem sliceL {value : Expr} {lower upper : Option Expr} {p pos : Pos}
    (h : wpAny (model prog w) A (eval value env) (fun o s₁ => wpAny (model prog w) A (evalPart lower env) (fun vl s₂ => wpAny (model prog w) A (evalPart upper env) (fun vu s₃ => SlicePost o vl vu Q s₃) E s₂) E s₁) E s)
    (ht : ∀ o r, letTemporaryGo value o r = pure () := by intro _ _; rfl) :
    wpAny (model prog w) A (eval (.Subscript value (.Slice lower upper none p) pos) env) Q E s := wpAny_Subscript_list_slice h ht
theorem slice_fin {a : Addr} {vs : List Value} {vl vu : Value} {lo hi : Option Int} (S : St s₀ L m nw s) (hl : s.heap.IsList a vs.toArray) (hz : vs.length ≤ 10000000) (pl : IsPart vl lo) (pu : IsPart vu hi)
    (h : ∀ a s', St s₀ L m ((a, listV (slicePick vs.toArray lo hi none).toList 0) :: nw) s' → Q (.ref a) s') : SlicePost (.ref a) vl vu Q s := by
  refine ⟨a, vs.toArray, lo, hi, rfl, hl, by rw [sizeLine_eq]; simp only [List.size_toArray]; omega, pl, pu, ?_⟩
  have N1 := News.push (S.fr.push { cls := .type "slice", data := .fields #[vl, vu, .none] }) (S.nw.grown fun _ _ e => Heap.get?_push_of_some _ e) { cls := .type "list", data := .seq (slicePick vs.toArray lo hi none) }
  rw [Heap.size_push] at N1
  exact h _ _ (S.mk2 ((S.fr.push _).push _) N1)
end
end Mine
end

section
open PySem PySem.W PySem.Calls PyProof.Rows
namespace Mine

section
variable {M : Model} {A : Around} {E : Value → Shared → Prop} {s₀ s : Shared} {w : World} {L a : Addr} {m : Str → Option Value} {nw : List (Addr × Obj)} {cn : Str} {cs : Scope} {cd : Value}
  {x : Str} {v : Value} {Q : Value → Shared → Prop}
theorem lL' (S : St s₀ L m nw s) (hv : m x = some v) (h : Q v s)
    (hk : cs.kind = .function := by rfl) (hx : (envOf cn cs L a cd).kindOf x = some .local := by rfl) :
    wpAny M A (loadName (envOf cn cs L a cd) x) Q E s := wpAny_loadName_local hk hx S.fr.ns hv h
end

section
variable {prog : Program} {w : World} {A : Around} {E : Value → Shared → Prop} {s₀ s : Shared} {L : Addr} {m : Str → Option Value} {nw : List (Addr × Obj)} {Q : Value → Shared → Prop} {env : Env}
theorem getSliceStep {a : Addr} {vs : List Value} {vl vu vk : Value} {lo hi st : Option Int} (S : St s₀ L m nw s) (hl : s.heap.IsList a vs.toArray) (hz : vs.length ≤ 10000000) (pl : IsPart vl lo) (pu : IsPart vu hi) (pk : IsPart vk st) (h0 : st ≠ some 0)
    (h : ∀ a s', St s₀ L m ((a, listV (slicePick vs.toArray lo hi st).toList 0) :: nw) s' → Q (.ref a) s') :
    Shared.TypeIs { s with heap := s.heap.push { cls := .type "slice", data := .fields #[vl, vu, vk] } } (.ref a) "list" ∧
      wpAny (model prog w) A (getItem (.ref a) (.ref s.heap.objs.size)) Q E { s with heap := s.heap.push { cls := .type "slice", data := .fields #[vl, vu, vk] } } := by
  refine ⟨Heap.IsList.typeIs (s := { s with heap := s.heap.push { cls := .type "slice", data := .fields #[vl, vu, vk] } }) (hl.push _), wpAny_getItem_list_slice (hl.push _) (Heap.IsSliceOf.new ..) pl pu pk h0 ?_ (by rw [sizeLine_eq]; simp only [List.size_toArray]; omega)⟩
  have N1 := News.push (S.fr.push { cls := .type "slice", data := .fields #[vl, vu, vk] }) (S.nw.grown fun _ _ e => Heap.get?_push_of_some _ e) { cls := .type "list", data := .seq (slicePick vs.toArray lo hi st) }
  exact h _ _ (S.mk2 ((S.fr.push _).push _) N1)
end

def ownL : List Int := [0, 1, 1, 0, 1, 0]
def stepR (p : Nat × List Nat) (r : Nat) : Nat × List Nat := (p.1 + r, if 0 < p.1 + r then (p.1 + r) :: p.2 else p.2)
def rowsR (rs : List Nat) : Nat × List Nat := rs.foldl stepR (0, [])
theorem rowsR_snoc (rs : List Nat) (r : Nat) : rowsR (rs ++ [r]) = stepR (rowsR rs) r := by unfold rowsR; rw [List.foldl_append]; rfl
theorem rowsR_le : ∀ (rs : List Nat), (∀ r ∈ rs, r < 3) → (rowsR rs).1 ≤ 3 * rs.length := by
  intro rs
  have : ∀ (rs : List Nat) (p : Nat × List Nat), (∀ r ∈ rs, r < 3) → (rs.foldl stepR p).1 ≤ p.1 + 3 * rs.length := by
    intro rs
    induction rs with
    | nil => intro p _; exact Nat.le_refl _
    | cons r rs ih =>
      intro p h
      have h1 := ih (stepR p r) fun x hx => h x (.tail _ hx)
      have h2 := h r (.head _)
      rw [List.foldl_cons, List.length_cons]
      have : (stepR p r).1 = p.1 + r := rfl
      omega
  intro h
  have := this rs (0, []) h
  show (rs.foldl stepR (0, [])).1 ≤ _
  simpa using this
theorem rowsR_len : ∀ (rs : List Nat), (rowsR rs).2.length ≤ rs.length := by
  intro rs
  have : ∀ (rs : List Nat) (p : Nat × List Nat), (rs.foldl stepR p).2.length ≤ p.2.length + rs.length := by
    intro rs
    induction rs with
    | nil => intro p; exact Nat.le_refl _
    | cons r rs ih =>
      intro p
      have h1 := ih (stepR p r)
      rw [List.foldl_cons, List.length_cons]
      have : (stepR p r).2.length ≤ p.2.length + 1 := by unfold stepR; dsimp only; split <;> simp
      omega
  have := this rs (0, [])
  simpa [rowsR] using this
theorem clsNe {a b : String} (h : (a == b) = false) : Value.type a ≠ Value.type b := fun e => by
  injection e with e
  rw [e] at h
  simp at h
/-- a row's signs -/
def rowL (d : Nat) : List Nat := List.replicate d 46 ++ [11]
def rowS (d : Nat) : Str := T (rowL d)
theorem rowL_len (d : Nat) : (rowL d).length = d + 1 := by simp [rowL]

theorem StrsAre_append : ∀ {a b : List Value} {xs ys : List Str}, StrsAre a xs → StrsAre b ys → StrsAre (a ++ b) (xs ++ ys)
  | _, _, _, _, .nil, h => h
  | _, _, _, _, .cons y t r, h => .cons y t (StrsAre_append r h)

section
variable {prog : Program} {w : World} {A : Around} {Q E : Value → Shared → Prop} {s : Shared}

def RowsJ (l : Addr) (i : Nat) (m : Str → Option Value) (nw : List (Addr × Obj)) : Prop :=
  ∃ (rs : List Nat) (td : Tok) (o r : Addr) (ov ts : List Value), rs.length = i ∧ (∀ r ∈ rs, r < 3) ∧ m (Str.ofString "script") = some (.ref l) ∧ m (Str.ofString "own") = some (.ref o) ∧ (o, tupV ov 0) ∈ nw ∧ IntsAre ov ownL ∧
    m (Str.ofString "dots") = some (.int (rowsR rs).1 td) ∧ m (Str.ofString "rows") = some (.ref r) ∧ (r, listV ts 0) ∈ nw ∧ StrsAre ts ((rowsR rs).2.map rowS)

theorem law_rows_ok {l : Addr} {vs : List Value} {ns : List Int} (G : Gr w s.heap) (hA : A.depth < 900) (hh : A.handled = none) (hl : s.heap.IsList l vs.toArray) (hi : IntsAre vs ns) (hz : vs.length ≤ 1000000)
    (hQ : ∀ s' a ts rs, Keeps s s' → s.heap.get? a = none → s'.heap.get? a = some (listV ts 0) → StrsAre ts ((rowsR rs).2.map rowS) → rs.length = 6 → (∀ r ∈ rs, r < 3) → Q (.ref a) s') :
    wpAny (model prog w) A (call (.ref 69) [.ref l]) Q E s := by
  refine call_fn (binds := [(Str.ofString "script", .ref l)]) (G.kin 69 _ (Eq.refl (some _))) rfl rfl (Nat.lt_trans hA (by decide)) G (codeRec_of G.kin rfl) rfl (by decide) (locs rfl) fun s₁ L S => ?_
  refine wpAny_execs_cons (wpAny_Assign_Name (Tuple_ (args_cons (cI S fun t1 s₂ S => args_cons (cI S fun t2 s₃ S => args_cons (cI S fun t3 s₄ S => args_cons (cI S fun t4 s₅ S => args_cons (cI S fun t5 s₆ S => args_cons (cI S fun t6 s₇ S => args_nil ?_))))))))) 
  refine mkTup S (by simp) fun o s₈ S => sL S fun s₉ S => ?_
  refine wpAny_execs_cons (wpAny_Assign_Name (cI S fun td s₁₀ S => sL S fun s₁₁ S => ?_))
  refine wpAny_execs_cons (wpAny_Assign_Name (List_ (args_nil (mkList S (by simp) fun r s₁₂ S => sL S fun s₁₃ S => ?_))))
  refine wpAny_execs_cons (for_range (s₀ := s) hh rfl rfl ?_)
  refine Call_ (lB S G rfl boot_range (by decide) (PyProof.Rows.callWith_type1 (args_cons (cI S fun t6' s₁₄ S => args_nil (mk_range1 fun s₁₅ rg t u v k hr => ?_)))))
  replace S := S.keeps k
  refine ⟨rg, 0, 6, t, u, v, _, _, RowsJ l, rfl, hr, by decide, by decide, by decide, S, .cons (clsNe rfl) (.cons (clsNe rfl) .nil),
    ⟨[], td, o, r, _, _, rfl, by simp, rfl, rfl, .tail _ (.head _), .cons _ _ (.cons _ _ (.cons _ _ (.cons _ _ (.cons _ _ (.cons _ _ .nil))))), rfl, rfl, .head _, .nil⟩, ?_, ?_⟩
  · clear S hr k
    rintro i tk m₁ nw₁ own s₂ hi6 ⟨rs, td, o, r, ov, ts, hlen, hrs, hm1, hm2, ho, hov, hm3, hm4, hr, hts⟩ S
    have hi' : i < 6 := by omega
    rw [Int.zero_add] at S
    obtain ⟨c, hc⟩ : ∃ c, ownL[i]? = some c := ⟨ownL[i]'(by show i < 6; exact hi'), List.getElem?_eq_getElem _⟩
    obtain ⟨tc, hc'⟩ := hov.get i c hc
    have hov6 : ov.length = 6 := hov.length
    have hls := isList_low S hl
    refine wpAny_execs_cons (wpAny_AugAssign_Name (lL' S hm3 (wpAny_BinOp (wpAny_BinOp (Subscript_ (lL S hm2 (lL S rfl (item_tupleL (isTup_of S (List.mem_append_right _ ho)) (by omega) (by omega) (j := i) (by rw [hov6]; exact StrLaws.seqIndex_nonneg (by omega) (by omega)) hc' ?_))))))))
    refine Call_ (lB S G rfl boot_sum (by decide) (PyProof.Rows.callWith_builtin1 (args_cons (wpAny_Subscript_Slice_step list_getitem_lookup (lL S hm1 (wpAny_Slice (evI rfl (lL S rfl (evN (evI rfl (cI S fun t1 s₃ S => ?_)))))))))))
    refine getSliceStep S (isList_low S hl) (by omega) (.int _ _) .none (.int _ _) (by decide) fun b s₄ S => args_nil ?_
    have hb := (hi.pick (some (i : Int)) none (some 6))
    refine sumL S hh (isList_of S (.head _)) hb fun t2 s₅ S => ?_
    refine addI S fun t3 s₆ S => cI S fun t4 s₇ S => modI S (by decide) fun t5 s₈ S => ?_
    generalize (pickNums ns (some (i : Int)) none (some 6)).sum = z at S
    obtain ⟨q, hq, hq3⟩ : ∃ q : Nat, (c + z).fmod 3 = q ∧ q < 3 := ⟨((c + z).fmod 3).toNat, by have := Int.fmod_nonneg_of_pos (c + z) (b := 3) (by decide); omega, by have := Int.fmod_lt_of_pos (c + z) (b := 3) (by decide); omega⟩
    rw [hq]
    refine iaddI S fun t6 s₉ S => sL S fun s₁₀ S => ?_
    have hd := rowsR_le rs hrs
    have hn := rowsR_len rs
    have hn' : ts.length ≤ 6 := by
      have := hts.len_eq
      rw [List.length_map] at this; omega
    have hrs' : ∀ r ∈ rs ++ [q], r < 3 := fun r hr => by
      rcases List.mem_append.mp hr with hr | hr
      · exact hrs r hr
      · rw [List.mem_singleton.mp hr]; exact hq3
    have hlen' : (rs ++ [q]).length = i + 1 := by rw [List.length_append, hlen]; rfl
    have e1 : (rowsR (rs ++ [q])).1 = (rowsR rs).1 + q := by rw [rowsR_snoc]; rfl
    have e2 : (rowsR (rs ++ [q])).2 = if 0 < (rowsR rs).1 + q then ((rowsR rs).1 + q) :: (rowsR rs).2 else (rowsR rs).2 := by rw [rowsR_snoc]; rfl
    rw [show ((rowsR rs).1 : Int) + (q : Int) = ((rowsR (rs ++ [q])).1 : Nat) from by rw [e1]; omega] at S
    refine wpAny_execs_cons (wpAny_If (wpAny_isTrue_Compare1 (lL S rfl (cI S fun t7 s₁₁ S => P.gt_int (wpAny_truthy_bool ?_)))))
    by_cases hp : 0 < (rowsR rs).1 + q
    · rw [if_pos (by rw [e1]; simp; omega)]
      rw [if_pos hp] at e2
      refine wpAny_execs_cons (wpAny_Assign_Name (wpAny_BinOp (List_ (args_cons (wpAny_BinOp (wpAny_BinOp (cS (l := [46]) S (by decide +kernel) fun t8 s₁₂ S => lL S rfl (mulS S (by rw [e1]; omega) (by omega) fun t9 s₁₃ S =>
        cS (l := [11]) S (by decide +kernel) fun t10 s₁₄ S => addS S (by simp; rw [e1]; omega) fun t11 s₁₅ S => args_nil (mkList S (by simp) fun r' s₁₆ S => lL S hm4 (addL S (isList_of S (.head _)) (isList_of S (.tail _ (.tail _ (List.mem_append_right _ hr)))) (by simp; omega) fun r'' s₁₇ S => sL S fun s₁₈ S => ?_))))))))))
      refine wpAny_execs_nil (wpAny_execs_nil ⟨rfl, _, [(r'', listV _ 0), (o, tupV ov 0)], S.less ?_, .cons (clsNe rfl) (.cons (clsNe rfl) .nil), rs ++ [q], _, o, r'', ov, [.str (T (List.replicate (((rowsR (rs ++ [q])).1 : Nat) : Int).toNat 46 ++ [11])) t11] ++ ts, hlen', hrs', hm1, hm2, .tail _ (.head _), hov, rfl, rfl, .head _, ?_⟩)
      · intro p hp
        rcases List.mem_append.mp hp with hp | hp
        · exact .tail _ (.tail _ (.tail _ (List.mem_append_left _ hp)))
        · rcases List.mem_cons.mp hp with rfl | hp
          · exact .head _
          · rw [List.mem_singleton.mp hp]; exact .tail _ (.tail _ (.tail _ (List.mem_append_right _ ho)))
      · rw [e2, e1]
        exact .cons (rowS ((rowsR rs).1 + q)) t11 hts
    · rw [if_neg (by rw [e1]; simp; omega)]
      rw [if_neg hp] at e2
      refine wpAny_execs_nil (wpAny_execs_nil ⟨rfl, _, [(r, listV ts 0), (o, tupV ov 0)], S.less ?_, .cons (clsNe rfl) (.cons (clsNe rfl) .nil), rs ++ [q], _, o, r, ov, ts, hlen', hrs', hm1, hm2, .tail _ (.head _), hov, rfl, hm4, .head _, ?_⟩)
      · intro p hp
        rcases List.mem_append.mp hp with hp | hp
        · exact .tail _ (List.mem_append_left _ hp)
        · rcases List.mem_cons.mp hp with rfl | hp
          · exact .tail _ (List.mem_append_right _ hr)
          · rw [List.mem_singleton.mp hp]; exact .tail _ (List.mem_append_right _ ho)
      · rw [e2]; exact hts
  · rintro m' nw' s' S ⟨rs, td, o, r, ov, ts, hlen, hrs, hm1, hm2, ho, hov, hm3, hm4, hr, hts⟩
    refine wpAny_execs_cons (wpAny_Return_some (lL S hm4 ?_))
    refine hQ _ _ _ _ S.done ?_ (S.get hr) hts hlen hrs
    exact (S.nw _ hr).2.2
end
end Mine
end

section
open PySem PySem.W PySem.Calls PyProof.Rows
namespace Mine

def endsL : List (List Nat) := [[10], [13], [13, 10]]
/-- the rows with their ends -/
def typedL (xs es : List (List Nat)) : List Nat := (List.zipWith (· ++ ·) xs es).flatten
def insA (xs : List (List Nat)) (p : Nat) : List (List Nat) := xs.take p ++ [[97, 11]] ++ xs.drop p

theorem typedL_snoc {xs es : List (List Nat)} {y e : List Nat} {i : Nat} (hy : xs[i]? = some y) (he : es.length = i) : typedL (xs.take (i + 1)) (es ++ [e]) = typedL (xs.take i) es ++ (y ++ e) := by
  unfold typedL
  have h1 : i < xs.length := (List.getElem?_eq_some_iff.mp hy).1
  rw [List.take_add_one, hy, Option.toList_some, List.zipWith_append (by rw [List.length_take, he]; omega)]
  simp
theorem typedL_len : ∀ {xs es : List (List Nat)} {b : Nat}, (∀ x ∈ xs, x.length ≤ b) → (∀ e ∈ es, e.length ≤ 2) → (typedL xs es).length ≤ xs.length * (b + 2)
  | [], es, _, _, _ => by simp [typedL]
  | x :: xs, [], _, _, _ => by simp [typedL]
  | x :: xs, e :: es, b, hx, he => by
    have ih := typedL_len (xs := xs) (es := es) (b := b) (fun x h => hx x (.tail _ h)) (fun x h => he x (.tail _ h))
    have h1 := hx x (.head _)
    have h2 := he e (.head _)
    have e1 : typedL (x :: xs) (e :: es) = (x ++ e) ++ typedL xs es := by simp [typedL]
    rw [e1, List.length_append, List.length_append, List.length_cons, Nat.succ_mul]
    omega

section
variable {prog : Program} {w : World} {A : Around} {Q E : Value → Shared → Prop} {s : Shared}

def TypedJ (ins : List (List Nat)) (turn : Int) (i : Nat) (m : Str → Option Value) (nw : List (Addr × Obj)) : Prop :=
  ∃ (es : List (List Nat)) (tt tu : Tok) (ty e : Addr) (tyv ev : List Value), es.length = i ∧ (∀ x ∈ es, x ∈ endsL) ∧ m (Str.ofString "typed") = some (.ref ty) ∧ (ty, listV tyv 0) ∈ nw ∧ StrsAre tyv (ins.map T) ∧
    m (Str.ofString "ends") = some (.ref e) ∧ (e, tupV ev 0) ∈ nw ∧ StrsAre ev (endsL.map T) ∧ m (Str.ofString "turn") = some (.int turn tu) ∧ m (Str.ofString "text") = some (.str (T (typedL (ins.take i) es)) tt)

theorem law_typed_ok {l : Addr} {vs : List Value} {xs : List (List Nat)} {turn : Int} {tk : Tok} (G : Gr w s.heap) (hA : A.depth < 900) (hh : A.handled = none) (hl : s.heap.IsList l vs.toArray) (hi : StrsAre vs (xs.map T))
    (hn : xs.length ≤ 100) (hx : ∀ x ∈ xs, x.length ≤ 1000)
    (hQ : ∀ s' t p es, Keeps s s' → p ≤ xs.length → es.length = xs.length + 1 → (∀ e ∈ es, e ∈ endsL) → Q (.str (T (typedL (insA xs p) es)) t) s') :
    wpAny (model prog w) A (call (.ref 76) [.ref l, .int turn tk]) Q E s := by
  have hvn : vs.length = xs.length := by rw [hi.len_eq, List.length_map]
  refine call_fn (binds := [(Str.ofString "rows", .ref l), (Str.ofString "turn", .int turn tk)]) (G.kin 76 _ (Eq.refl (some _))) rfl rfl (Nat.lt_trans hA (by decide)) G (codeRec_of G.kin rfl) rfl (by decide) (locs rfl) fun s₁ L S => ?_
  refine wpAny_execs_cons (wpAny_Assign_Name (Tuple_ (args_cons (cS (l := [10]) S (by decide +kernel) fun t1 s₂ S => args_cons (cS (l := [13]) S (by decide +kernel) fun t2 s₃ S => args_cons (cS (l := [13, 10]) S (by decide +kernel) fun t3 s₄ S => args_nil ?_))))))
  refine mkTup S (by simp) fun e s₅ S => sL S fun s₆ S => ?_
  refine wpAny_execs_cons <| wpAny_Assign_Name <| wpAny_BinOp <| lL S rfl <| wpAny_BinOp <| Call_ <| lB S G rfl boot_len (by decide) <| PyProof.Rows.callWith_builtin1 <| args_cons <| lL S rfl <| args_nil <| lenL S (isList_low S hl) (by omega) fun t4 s₇ S =>
    cI S fun t5 s₈ S => addI S fun t6 s₉ S => modI S (by omega) fun t7 s₁₀ S => ?_
  obtain ⟨p, hp, hpn⟩ : ∃ p : Nat, turn.fmod ((vs.length : Int) + 1) = p ∧ p ≤ xs.length := by
    have h1 := Int.fmod_nonneg_of_pos turn (b := (vs.length : Int) + 1) (by omega)
    have h2 := Int.fmod_lt_of_pos turn (b := (vs.length : Int) + 1) (by omega)
    exact ⟨(turn.fmod ((vs.length : Int) + 1)).toNat, by omega, by omega⟩
  rw [hp]
  refine sL S fun s₁₁ S => ?_
  refine wpAny_execs_cons <| wpAny_Assign_Name <| wpAny_BinOp <| wpAny_BinOp <| sliceL <| lL S rfl <| evN <| evI rfl <| lL S rfl <| slice_fin S (isList_low S hl) (by omega) .none (.int _ _) fun a s₁₂ S => ?_
  rw [slicePick_upto'] at S
  refine List_ (args_cons (cS (l := [97, 11]) S (by decide +kernel) fun t8 s₁₃ S => args_nil (mkList S (by simp) fun b s₁₄ S => addL S (isList_of S (.tail _ (.head _))) (isList_of S (.head _)) (by simp; omega) fun c s₁₅ S => ?_)))
  refine sliceL (lL S rfl (evI rfl (lL S rfl (evN (slice_fin S (isList_low S hl) (by omega) (.int _ _) .none fun a' s₁₆ S => ?_)))))
  rw [slicePick_from'] at S
  refine addL S (isList_of S (.tail _ (.head _))) (isList_of S (.head _)) (by simp; omega) fun ty s₁₇ S => sL S fun s₁₈ S => ?_
  refine wpAny_execs_cons (wpAny_Assign_Name (cS (l := []) S (by decide +kernel) fun t9 s₁₉ S => sL S fun s₂₀ S => ?_))
  have htv : StrsAre (vs.take p ++ [Value.str (T [97, 11]) t8] ++ vs.drop p) ((insA xs p).map T) := by
    unfold insA
    rw [List.map_append, List.map_append, List.map_take, List.map_drop]
    exact StrsAre_append (StrsAre_append (hi.take' p) (.cons _ _ .nil)) (hi.drop' p)
  have hsz : (insA xs p).length = xs.length + 1 := by
    unfold insA; simp only [List.length_append, List.length_take, List.length_drop, List.length_cons, List.length_nil]; omega
  have hx' : ∀ x ∈ insA xs p, x.length ≤ 1000 := fun x h => by
    unfold insA at h
    rcases List.mem_append.mp h with h | h
    · rcases List.mem_append.mp h with h | h
      · exact hx x (List.mem_of_mem_take h)
      · rw [List.mem_singleton.mp h]; decide
    · exact hx x (List.mem_of_mem_drop h)
  have htl := htv.len_eq
  rw [List.length_map, hsz] at htl
  have hends : ∀ e ∈ endsL, e.length ≤ 2 := by decide
  have S' := S.less (nw' := [(ty, listV (vs.take p ++ [Value.str (T [97, 11]) t8] ++ vs.drop p) 0), (e, tupV [Value.str (T [10]) t1, Value.str (T [13]) t2, Value.str (T [13, 10]) t3] 0)]) (fun q hq => by
    rcases List.mem_cons.mp hq with rfl | hq
    · exact .head _
    · rw [List.mem_singleton.mp hq]
      exact .tail _ (.tail _ (.tail _ (.tail _ (.tail _ (.head _))))))
  refine wpAny_execs_cons (for_range (s₀ := s) hh rfl rfl ?_)
  refine Call_ <| lB S' G rfl boot_range (by decide) <| PyProof.Rows.callWith_type1 <| args_cons <| Call_ <| lB S' G rfl boot_len (by decide) <| PyProof.Rows.callWith_builtin1 <| args_cons <| lL S' rfl <| args_nil <| lenL S' (isList_of S' (.head _)) (by omega) fun t10 s₂₁ S =>
    args_nil <| mk_range1 fun s₂₂ rg t u v k hr => ?_
  replace S := S.keeps k
  rw [htl] at hr
  refine ⟨rg, 0, _, t, u, v, _, _, TypedJ (insA xs p) turn, rfl, hr, by omega, by decide, by omega, S, .cons (clsNe rfl) (.cons (clsNe rfl) .nil),
    ⟨[], t9, tk, ty, e, _, _, rfl, by simp, rfl, .head _, htv, rfl, .tail _ (.head _), .cons _ _ (.cons _ _ (.cons _ _ .nil)), rfl, rfl⟩, ?_, ?_⟩
  · clear S hr k S'
    rintro i tk m₁ nw₁ own s₂ hin ⟨es, tt, tu, ty, e, tyv, ev, hlen, hes, hm1, hty, htyv, hm2, he, hev, hm3, hm4⟩ S
    rw [Int.zero_add] at S
    have hi' : i < (insA xs p).length := by rw [hsz]; omega
    obtain ⟨y, hy⟩ : ∃ y, (insA xs p)[i]? = some y := ⟨_, List.getElem?_eq_getElem hi'⟩
    have hyl := hx' y (List.mem_of_getElem? hy)
    obtain ⟨ty', hty'⟩ := htyv.at (j := i) (y := T y) (by rw [List.getElem?_map, hy]; rfl)
    refine wpAny_execs_cons <| wpAny_AugAssign_Name <| lL' S hm4 <| wpAny_BinOp <| Subscript_ <| lL S hm1 <| lL S rfl <| item_listL (isList_of S (List.mem_append_right _ hty)) (by omega) (by omega) hty' <|
      Subscript_ <| lL S hm2 <| wpAny_BinOp <| wpAny_BinOp <| lL S hm3 <| lL S rfl <| addI S fun t3 s₃ S => cI S fun t4 s₄ S => modI S (by decide) fun t5 s₅ S => ?_
    obtain ⟨q, hq, hq3⟩ : ∃ q : Nat, (turn + i).fmod 3 = q ∧ q < 3 := ⟨((turn + i).fmod 3).toNat, by have := Int.fmod_nonneg_of_pos (turn + i) (b := 3) (by decide); omega, by have := Int.fmod_lt_of_pos (turn + i) (b := 3) (by decide); omega⟩
    rw [hq]
    obtain ⟨z, hz⟩ : ∃ z, endsL[q]? = some z := ⟨_, List.getElem?_eq_getElem (show q < 3 from hq3)⟩
    have hzl := hends z (List.mem_of_getElem? hz)
    obtain ⟨tz, hz'⟩ := hev.at (j := q) (y := T z) (by rw [List.getElem?_map, hz]; rfl)
    have hev3 : ev.length = 3 := hev.len_eq
    have hes' : ∀ e ∈ es ++ [z], e ∈ endsL := fun e h => by
      rcases List.mem_append.mp h with h | h
      · exact hes e h
      · rw [List.mem_singleton.mp h]; exact List.mem_of_getElem? hz
    have hzz := typedL_len (xs := (insA xs p).take i) (es := es) (b := 1000) (fun x h => hx' x (List.mem_of_mem_take h)) (fun x h => hends x (hes x h))
    have hzz' : ((insA xs p).take i).length * (1000 + 2) ≤ 101 * 1002 := Nat.mul_le_mul (by rw [List.length_take]; omega) (by decide)
    refine item_tupleL (isTup_of S (List.mem_append_right _ he)) (by omega) (by omega) (j := q) (by rw [hev3]; exact StrLaws.seqIndex_nonneg (by omega) (by omega)) hz' ?_
    refine addS S (by omega) fun t6 s₆ S => iaddS S (by rw [List.length_append]; omega) fun t7 s₇ S => sL S fun s₈ S => ?_
    rw [← typedL_snoc hy hlen] at S
    refine wpAny_execs_nil ⟨rfl, _, [(ty, listV tyv 0), (e, tupV ev 0)], S.less ?_, .cons (clsNe rfl) (.cons (clsNe rfl) .nil), es ++ [z], t7, tu, ty, e, tyv, ev, by rw [List.length_append, hlen]; rfl, hes', hm1, .head _, htyv, hm2, .tail _ (.head _), hev, hm3, rfl⟩
    intro p hp
    rcases List.mem_append.mp hp with hp | hp
    · exact List.mem_append_left _ hp
    · rcases List.mem_cons.mp hp with rfl | hp
      · exact List.mem_append_right _ hty
      · rw [List.mem_singleton.mp hp]; exact List.mem_append_right _ he
  · rintro m' nw' s' S ⟨es, tt, tu, ty, e, tyv, ev, hlen, hes, hm1, hty, htyv, hm2, he, hev, hm3, hm4⟩
    have hl' : es.length = xs.length + 1 := by rw [hlen]; omega
    rw [List.take_of_length_le (by rw [hsz]; omega)] at hm4
    refine wpAny_execs_cons (wpAny_Return_some (lL S hm4 ?_))
    exact hQ _ _ _ _ S.done hpn hl' hes
end
end Mine
end

section
open PySem PySem.W PySem.Calls PyProof.Rows
namespace Mine

def LObj (o : Obj) (vs : List Value) : Prop := o.cls = .type "list" ∧ ∃ n, o.data = .seq vs.toArray n

section
variable {prog : Program} {w : World} {A : Around} {s s₀ : Shared} {L fa : Addr} {cn : Str} {cs : Scope} {cd : Value}

/-- a loop over enumerate(lines) that stores into lines -/
theorem for_enum_mut {Q : Flow → Shared → Prop} {xi xc : Str} {pi pv pt pos : Pos} {x1 n : Nat} {iter : Expr} {body : List Stmt}
    (hh : A.handled = none) (hxi : (envOf cn cs L fa cd).kindOf xi = some .local) (hxc : (envOf cn cs L fa cd).kindOf xc = some .local) (hk : cs.kind = .function)
    (h : wpAny (model prog w) A (eval iter (envOf cn cs L fa cd)) (fun xv s₁ => ∃ (e it l : Addr) (o : Obj) (vs : List Value) (m : Str → Option Value) (J : Nat → (Str → Option Value) → List Value → Prop),
      xv = .ref e ∧ IsEnum s₁.heap e it 0 .none ∧ s₁.heap.IsListIter it l 0 ∧ St s₀ L m [(l, o)] s₁ ∧ LObj o vs ∧ vs.length = n ∧ J 0 m vs ∧ e ≠ it ∧ l ≠ e ∧ l ≠ it ∧ e ≠ L ∧ it ≠ L ∧ s₀.heap.get? e = none ∧ s₀.heap.get? it = none ∧
      (∀ (i : Nat) v tk m₁ o₁ vs₁ own s₂, vs₁[i]? = some v → LObj o₁ vs₁ → vs₁.length = n → J i m₁ vs₁ → (∀ p ∈ own, p.1 ≠ l) →
        St s₀ L (fun y => if y = xc then some v else if y = xi then some (.int i tk) else m₁ y) ((l, o₁) :: own) s₂ →
        wpAny (model prog w) A (execs body (envOf cn cs L fa cd)) (fun f s₃ => f = .next ∧ ∃ m₂ o₂ vs₂, St s₀ L m₂ ((l, o₂) :: own) s₃ ∧ LObj o₂ vs₂ ∧ vs₂.length = n ∧ J (i + 1) m₂ vs₂) (fun _ _ => False) s₂) ∧
      (∀ m' o' vs' s', St s₀ L m' [(l, o')] s' → LObj o' vs' → J n m' vs' → Q .next s')) (fun _ _ => False) s)
    (hs : ∀ y, foldedSetIterable iter (envOf cn cs L fa cd) y = pure y := by intro _; rfl) :
    wpAny (model prog w) A (exec (.For (.Tuple [.Name xi pi, .Name xc pv] x1 pt) iter body [] pos) (envOf cn cs L fa cd)) Q (fun _ _ => False) s := by
  have hp : ((envOf cn cs L fa cd).scope.kind == .class || ((envOf cn cs L fa cd).scope.kind == .module && (envOf cn cs L fa cd).locals != (envOf cn cs L fa cd).globals)) = false := by
    show (cs.kind == .class || (cs.kind == .module && L != mainGlobals)) = false
    rw [hk]; rfl
  refine wpAny_For (wpAny_mono h (fun xv s₁ h₁ => ?_) fun _ _ e => e) hs
  obtain ⟨e, it, l, o, vs, m, J, rfl, he, hit, S, hO, hvn, h0, hei, hle, hli, heL, hiL, hne, hni, step, hQ⟩ := h₁
  refine wpAny_pyIter_enum he ?_
  have never : ∀ {α : Type} {t : Sem α} {Q' : α → Shared → Prop} {s' : Shared}, wpAny (model prog w) A t Q' (fun _ _ => False) s' →
      wpAny (model prog w) A t Q' (notedBy (model prog w) A (envOf cn cs L fa cd) fun e' s'' => (match (Except.error e' : Result) with | .ok f => Q f s'' | .error e => cameBackBy (model prog w) A (envOf cn cs L fa cd) (fun _ _ => False) e s'')) s' :=
    fun hw => wpAny_mono hw (fun _ _ x => x) fun _ _ x => x.elim
  refine codeAny_forLoop_any
    (fun k s' => ∃ m' o' vs' i old, St s₀ L m' [(l, o')] s' ∧ LObj o' vs' ∧ vs'.length = n ∧ J i m' vs' ∧ IsEnum s'.heap e it ((i : Nat) : Int) old ∧ s'.heap.IsListIter it l i ∧ i ≤ n ∧ k = n + 1 - i) ?_ (n + 1)
    ⟨m, o, vs, 0, .none, S, hO, hvn, h0, he, hit, Nat.zero_le _, rfl⟩
  rintro k s' ⟨m', o', vs', i, old, S', hO', hvn', hJ, he', hit', hi, rfl⟩
  obtain ⟨ho1, nO, ho2⟩ := id hO'
  have hl' : s'.heap.IsList l vs'.toArray := ⟨o', S'.get (.head _), ho1, nO, ho2⟩
  have hlL : l ≠ L := (S'.nw _ (.head _)).2.1
  by_cases hlt : i < n
  · obtain ⟨v, hv⟩ : ∃ v, vs'[i]? = some v := ⟨_, List.getElem?_eq_getElem (by omega)⟩
    have heH : e < s'.heap.objs.size := Heap.lt_size he'
    have hLH : L < s'.heap.objs.size := S'.fr.ns.lt
    have hiH : it < s'.heap.objs.size := by obtain ⟨oi, hoi, _⟩ := hit'; exact Heap.lt_size hoi
    have hlH : l < s'.heap.objs.size := Heap.lt_size (S'.get (.head _))
    refine wpAny_pyNext_enum_item he' hit' hl' (x := v) (by simpa using hv) hei fun h₁ heo hit₁ ht₁ hz₁ hk₁ => ?_
    refine wpAny_letOwnedTupleGo_enum heo fun h₂ he₂ hs₂ => ?_
    replace hs₂ : Heap.SameBut e h₁ h₂ := hs₂
    have ht₂ : h₂.IsTuple s'.heap.objs.size #[.int i s'.toks, v] := ⟨_, (hs₂.2 _ (Nat.ne_of_gt heH)).trans ht₁, rfl, _, rfl⟩
    have hz₂ : h₂.objs.size = s'.heap.objs.size + 1 := hs₂.1.trans hz₁
    refine wpAny_assign_Tuple hh ht₂ rfl rfl fun h₃ hx₃ => ?_
    replace hx₃ : Heap.ExtBut h₂.objs.size h₂ h₃ := hx₃
    have old₃ : ∀ b ob, b < s'.heap.objs.size → h₂.get? b = some ob → h₃.get? b = some ob := fun b ob hb x => hx₃ b ob (by rw [hz₂]; exact Nat.ne_of_lt (Nat.lt_succ_of_lt hb)) x
    have up₃ : ∀ b ob, b ≠ e → b ≠ it → s'.heap.get? b = some ob → h₃.get? b = some ob := fun b ob hbe hbi x => old₃ b ob (Heap.lt_size x) (hs₂.extBut b ob hbe (hk₁ b ob hbe hbi x))
    have F₃ : Fr s₀.heap L h₃ m' := ⟨S'.fr.ns.at fun ob x => up₃ _ ob (Ne.symm heL) (Ne.symm hiL) x, fun b ob x => up₃ b ob (by rintro rfl; rw [hne] at x; cases x) (by rintro rfl; rw [hni] at x; cases x) (S'.low x), S'.fr.above⟩
    have hl₃ := up₃ l o' hle hli (S'.get (.head _))
    have he₃ := old₃ e _ heH he₂
    obtain ⟨oi, hoi, hci, hdi⟩ := hit₁
    have hoi₃ := old₃ it oi hiH (hs₂.extBut it oi (Ne.symm hei) hoi)
    show wpAny _ A (do holding [v] (assign (.Name xi pi) (envOf cn cs L fa cd) (.int i s'.toks)); do holding [] (assign (.Name xc pv) (envOf cn cs L fa cd) v); pure ()) _ _ _
    refine wpAny_bind (wpAny_holding (wpAny_assign_Name (wpAny_storeName_local hxi F₃.ns (fun h₄ hn₄ hs₄ => ?_) hp)))
    replace hs₄ : Heap.SameBut L h₃ h₄ := hs₄
    have F₄ := F₃.set hn₄ hs₄
    refine wpAny_bind (wpAny_holding (wpAny_assign_Name (wpAny_storeName_local hxc F₄.ns (fun h₅ hn₅ hs₅ => wpAny_pure ?_) hp)))
    replace hs₅ : Heap.SameBut L h₄ h₅ := hs₅
    have F₅ := F₄.set hn₅ hs₅
    have to₅ : ∀ b ob, b ≠ L → h₃.get? b = some ob → h₅.get? b = some ob := fun b ob hb x => hs₅.extBut b ob hb (hs₄.extBut b ob hb x)
    have N₅ : News s₀.heap L h₅ ((l, o') :: [(e, _), (it, oi)]) := fun p hpm => by
      rcases List.mem_cons.mp hpm with rfl | hpm
      · exact ⟨to₅ _ _ hlL hl₃, hlL, (S'.nw _ (.head _)).2.2⟩
      · rcases List.mem_cons.mp hpm with rfl | hpm
        · exact ⟨to₅ _ _ heL he₃, heL, hne⟩
        · rw [List.mem_singleton.mp hpm]; exact ⟨to₅ _ _ hiL hoi₃, hiL, hni⟩
    refine wpAny_mono (never (step i v s'.toks m' o' vs' [(e, _), (it, oi)] _ hv hO' hvn' hJ (fun p hpm => ?_) (S'.mk2 F₅ N₅))) (fun f s₃ h₆ => ?_) fun _ _ x => x
    · rcases List.mem_cons.mp hpm with rfl | hpm
      · exact Ne.symm hle
      · rw [List.mem_singleton.mp hpm]; exact Ne.symm hli
    · obtain ⟨rfl, m₂, o₂, vs₂, S₆, hO₂, hvn₂, hJ₂⟩ := h₆
      refine ⟨n + 1 - (i + 1), by omega, m₂, o₂, vs₂, i + 1, v, S₆.less (fun p hpm => by rw [List.mem_singleton.mp hpm]; exact .head _), hO₂, hvn₂, hJ₂, ?_, ⟨oi, S₆.get (.tail _ (.tail _ (.head _))), hci, hdi⟩, hlt, rfl⟩
      have : ((i + 1 : Nat) : Int) = (i : Int) + 1 := by push_cast; rfl
      rw [this]
      exact S₆.get (.tail _ (.head _))
  · have hin : i = n := by omega
    subst hin
    refine wpAny_pyNext_enum_end hh he' hit' hl' (by simpa using Nat.le_of_eq hvn') fun h₁ he₁ => wpAny_execs_nil ?_
    refine hQ m' o' vs' _ (S'.mk2 (tk := s'.toks) ?_ ?_) hO' hJ
    · exact ⟨S'.fr.ns.at fun ob x => he₁ _ ob (Ne.symm hiL) x, fun b ob x => he₁ b ob (by rintro rfl; rw [hni] at x; cases x) (S'.low x), S'.fr.above⟩
    · intro p hpm
      rw [List.mem_singleton.mp hpm]
      exact ⟨he₁ _ _ hli (S'.get (.head _)), (S'.nw _ (.head _)).2⟩

/-- a loop over enumerate(text), left by break -/
theorem for_enum_str {Q : Flow → Shared → Prop} {xi xc : Str} {pi pv pt pos : Pos} {x1 : Nat} {iter : Expr} {body : List Stmt}
    (hh : A.handled = none) (hxi : (envOf cn cs L fa cd).kindOf xi = some .local) (hxc : (envOf cn cs L fa cd).kindOf xc = some .local) (hk : cs.kind = .function)
    (hs : ∀ y, foldedSetIterable iter (envOf cn cs L fa cd) y = pure y) {m₀ : Str → Option Value} {nw₀ : List (Addr × Obj)} (S₀ : St s₀ L m₀ nw₀ s)
    (h : wpAny (model prog w) A (eval iter (envOf cn cs L fa cd)) (fun xv s₁ => ∃ (x : Str) (m : Str → Option Value) (nw : List (Addr × Obj)) (J : Nat → (Str → Option Value) → Prop),
      PairSrc prog w A (fun _ _ => False) s₀.heap (envOf cn cs L fa cd) ItemKind.str (signs x) xv s₁ m nw ∧ St s₀ L m nw s₁ ∧ J 0 m ∧
      (∀ (i : Nat) y t v m₁ own s₂, (signs x)[i]? = some y → ItemKind.str.is y v → J i m₁ →
        St s₀ L (fun z => if z = xc then some v else if z = xi then some (.int i t) else m₁ z) (own ++ nw) s₂ →
        wpAny (model prog w) A (execs body (envOf cn cs L fa cd)) (fun f s₃ => (f = .next ∧ ∃ m₂, St s₀ L m₂ (own ++ nw) s₃ ∧ J (i + 1) m₂) ∨ (f = .brk ∧ Q .next s₃)) (fun _ _ => False) s₂) ∧
      (∀ m' s', St s₀ L m' nw s' → J (signs x).length m' → Q .next s')) (fun _ _ => False) s) :
    wpAny (model prog w) A (exec (.For (.Tuple [.Name xi pi, .Name xc pv] x1 pt) iter body [] pos) (envOf cn cs L fa cd)) Q (fun _ _ => False) s := by
  have hp : ((envOf cn cs L fa cd).scope.kind == .class || ((envOf cn cs L fa cd).scope.kind == .module && (envOf cn cs L fa cd).locals != (envOf cn cs L fa cd).globals)) = false := by
    show (cs.kind == .class || (cs.kind == .module && L != mainGlobals)) = false
    rw [hk]; rfl
  refine For_pair3F (h₀ := s₀.heap) S₀.fr hh hxi hxc hp (wpAny_mono h (fun xv s₁ h₁ => ?_) fun _ _ e => e) hs PassesOwn.never
  obtain ⟨x, m, nw, J, P, S, h0, step, hQ⟩ := h₁
  obtain ⟨H₁, K₁, e₁⟩ := S.same
  refine P xi xc body Q (fun i m' nw' => J i m' ∧ nw' = nw) ⟨h0, rfl⟩ ?_ ?_
  · rintro i y t v m₁ nw₁ s₂ own ⟨h₂, tk₂, e₂⟩ hy hv ⟨hJ, rfl⟩ _ _ F N
    refine wpAny_mono (step i y t v m₁ own s₂ hy hv hJ ⟨⟨h₂, tk₂, by rw [e₂, e₁]⟩, F, N⟩) (fun f s₃ h₃ => ?_) fun _ _ x => x
    rcases h₃ with ⟨rfl, m₂, S₃, hJ₂⟩ | ⟨rfl, hq⟩
    · obtain ⟨H₃, K₃, e₃⟩ := S₃.same
      exact ⟨rfl, s₃.heap, s₃.toks, m₂, nw₁, by rw [e₃, e₂, e₁], S₃.fr, S₃.nw, rfl, hJ₂, rfl⟩
    · exact hq
  · rintro h' tk m' nw' F N _ ⟨hJ, rfl⟩
    exact hQ m' _ ⟨⟨h', tk, by rw [e₁]⟩, F, N⟩ hJ

theorem enum_str {E Q : Value → Shared → Prop} {x : Str} {t : Tok} {m : Str → Option Value} {nw : List (Addr × Obj)} (hh : A.handled = none) (S : St s₀ L m nw s)
    (h : ∀ e s', St s₀ L m nw s' → PairSrcL prog w A E s₀.heap L ItemKind.str (signs x) (.ref e) s' m nw → Q (.ref e) s') : wpAny (model prog w) A (call (.type "enumerate") [.str x t]) Q E s :=
  call_enum_str hh S.fr S.nw fun h' e F N P => h e _ (S.mk2 F N) P
end
end Mine
end

section
open PySem PySem.W PySem.Calls PyProof.Rows PySem.Builtin PySem.Builtin.Str PySem.StrLaws
namespace Mine

/-- pieces with a sign's text between -/
def joinL (sep : List Nat) : List (List Nat) → List Nat
  | [] => []
  | [p] => p
  | p :: q :: r => p ++ sep ++ joinL sep (q :: r)
theorem joinL_cons (sep p q : List Nat) (r) : joinL sep (p :: q :: r) = p ++ sep ++ joinL sep (q :: r) := rfl

theorem strJoin_T (sep : List Nat) : ∀ l : List (List Nat), Str.join (T sep) (l.map T) = T (joinL sep l)
  | [] => rfl
  | [p] => rfl
  | p :: q :: r => by
    have ih := strJoin_T sep (q :: r)
    show T p ++ T sep ++ Str.join (T sep) ((q :: r).map T) = _
    rw [ih, T_append, T_append]; rfl

theorem at_iff {l sep : List Nat} {i : Nat} (hs : sep ≠ []) : At (T l) (T sep) (T l).length i ↔ (l.drop i).take sep.length = sep := by
  unfold At
  rw [subAt_eq]
  have h1 : (T l).cps.toList = l := rfl
  have h2 : (T sep).cps.toList = sep := rfl
  rw [h1, h2, T_len, T_len]
  constructor
  · rintro ⟨_, h⟩; exact eq_of_beq h
  · intro h
    refine ⟨?_, by rw [h]; exact beq_self_eq_true _⟩
    have := congrArg List.length h
    rw [List.length_take, List.length_drop] at this
    have : sep.length ≠ 0 := fun e => hs (List.length_eq_zero_iff.mp e)
    omega

theorem parts_join {c : Nat} {sep' l : List Nat} : ∀ (ps : List (List Nat)) (cuts : List Nat) (a f : Nat), ps ≠ [] → (∀ p ∈ ps, c ∉ p) → l.drop a = joinL (c :: sep') ps → a ≤ l.length →
    ChainG (T l) (T (c :: sep')) (T l).length a cuts f → (∀ k, f ≤ k → ¬ At (T l) (T (c :: sep')) (T l).length k) → partsFrom (T l) (T (c :: sep')).length a cuts = ps.map T := by
  have hs : (c :: sep') ≠ [] := by simp
  intro ps
  induction ps with
  | nil => intro cuts a f h; exact absurd rfl h
  | cons p ps ih =>
    intro cuts a f _ hc hd ha hch hf
    -- no match within p
    have hno : ∀ q : List Nat, l.drop a = p ++ q → ∀ k, a ≤ k → k < a + p.length → ¬ At (T l) (T (c :: sep')) (T l).length k := by
      intro q hq k h1 h2 hk
      rw [at_iff hs] at hk
      have e1 : l.drop k = (p ++ q).drop (k - a) := by rw [← hq, List.drop_drop]; congr 1; omega
      have e2 : (l.drop k)[0]? = some c := by
        have := congrArg (fun x => x[0]?) hk
        simpa [List.getElem?_take] using this
      rw [e1, List.getElem?_drop, List.getElem?_append_left (by omega)] at e2
      exact hc p (.head _) (List.mem_of_getElem? e2)
    cases ps with
    | nil =>
      have hd' : l.drop a = p := hd
      have hlen : p.length = l.length - a := by rw [← hd', List.length_drop]
      cases cuts with
      | nil =>
        show [strSub (T l) a (T l).length] = [T p]
        refine congrArg (fun x => [x]) (T_of ?_)
        rw [strSub_toList]
        show (l.drop a).take (l.length - a) = p
        rw [hd', ← hlen, List.take_length]
      | cons i r =>
        exfalso
        have h1 := hch.1
        have h2 := (at_iff hs).mp hch.2.1
        have h3 := congrArg List.length h2
        rw [List.length_take, List.length_drop, List.length_cons] at h3
        exact hno [] (by rw [hd', List.append_nil]) i h1 (by omega) hch.2.1
    | cons q r =>
      rw [joinL_cons, List.append_assoc] at hd
      have hA : At (T l) (T (c :: sep')) (T l).length (a + p.length) := by
        rw [at_iff hs, ← List.drop_drop, hd, List.drop_append_of_le_length (Nat.le_refl _), List.drop_length, List.nil_append, List.take_append_of_le_length (Nat.le_refl _), List.take_length]
      have hlen := congrArg List.length hd
      rw [List.length_drop, List.length_append, List.length_append] at hlen
      cases cuts with
      | nil =>
        have e : f = a := hch
        subst e
        exact absurd hA (hf _ (by omega))
      | cons i cr =>
        obtain ⟨h1, h2, h3, h4⟩ := hch
        have hi : i = a + p.length := by
          rcases Nat.lt_trichotomy i (a + p.length) with h | h | h
          · exact absurd h2 (hno _ hd i h1 h)
          · exact h
          · exact absurd hA (h3 _ (by omega) h)
        subst hi
        show strSub (T l) a (a + p.length) :: partsFrom (T l) (T (c :: sep')).length (a + p.length + (T (c :: sep')).length) cr = T p :: (q :: r).map T
        refine congr (congrArg List.cons (T_of ?_)) ?_
        · rw [strSub_toList]
          show (l.drop a).take (a + p.length - a) = p
          rw [hd, Nat.add_sub_cancel_left, List.take_append_of_le_length (Nat.le_refl _), List.take_length]
        · refine ih cr _ f (by simp) (fun p' h => hc p' (.tail _ h)) ?_ ?_ h4 hf
          · rw [T_len, Nat.add_assoc, ← List.drop_drop, hd, ← List.append_assoc, ← List.length_append, List.drop_append_of_le_length (Nat.le_refl _), List.drop_length, List.nil_append]
          · rw [T_len]; omega

/-- the split's pieces -/
theorem split_joinL {c : Nat} {sep' : List Nat} {ps : List (List Nat)} (hne : ps ≠ []) (hc : ∀ p ∈ ps, c ∉ p) (hk : Str.strKind (T (c :: sep')) = 1) : Txt.split (T (joinL (c :: sep') ps)) (T (c :: sep')) = ps.map T := by
  obtain ⟨f, hch, hf⟩ := occ_tight (T (joinL (c :: sep') ps)) (T (c :: sep')) (by rw [T_len]; simp)
  have key := parts_join ps _ 0 f hne hc rfl (Nat.zero_le _) hch hf
  unfold Txt.split
  by_cases h1 : (occurrences (T (joinL (c :: sep') ps)) (T (c :: sep')) 0 (T (joinL (c :: sep') ps)).length ((T (joinL (c :: sep') ps)).length + 1)) = []
  · rw [h1] at key
    have e : partsFrom (T (joinL (c :: sep') ps)) (T (c :: sep')).length 0 [] = [T (joinL (c :: sep') ps)] := by
      show [strSub _ _ _] = _
      rw [sub_whole]
    rw [e] at key
    rw [h1]
    split
    · exact key
    · rw [if_pos (by rfl)]; exact key
  · have hkind : ¬ ((decide ((T (joinL (c :: sep') ps)).length < (T (c :: sep')).length) || decide (Str.strKind (T (joinL (c :: sep') ps)) < Str.strKind (T (c :: sep')))) = true) := by
      intro h
      rw [Bool.or_eq_true, decide_eq_true_eq, decide_eq_true_eq] at h
      rcases h with h | h
      · cases ho : occurrences (T (joinL (c :: sep') ps)) (T (c :: sep')) 0 (T (joinL (c :: sep') ps)).length ((T (joinL (c :: sep') ps)).length + 1) with
        | nil => exact h1 ho
        | cons i r =>
          rw [ho] at hch
          have := hch.2.1.1
          omega
      · rw [hk] at h
        have : 1 ≤ Str.strKind (T (joinL (c :: sep') ps)) := by
          unfold Str.strKind
          split
          · decide
          · split <;> decide
        omega
    rw [if_neg hkind, if_neg (by simpa using h1), partsBetween_eq]
    exact key

theorem replace_joinL {c : Nat} {sep' z : List Nat} {ps : List (List Nat)} (hne : ps ≠ []) (hc : ∀ p ∈ ps, c ∉ p) : Txt.replace (T (joinL (c :: sep') ps)) (T (c :: sep')) (T z) = T (joinL z ps) := by
  obtain ⟨f, hch, hf⟩ := occ_tight (T (joinL (c :: sep') ps)) (T (c :: sep')) (by rw [T_len]; simp)
  have key := parts_join ps _ 0 f hne hc rfl (Nat.zero_le _) hch hf
  unfold Txt.replace
  by_cases h1 : (occurrences (T (joinL (c :: sep') ps)) (T (c :: sep')) 0 (T (joinL (c :: sep') ps)).length ((T (joinL (c :: sep') ps)).length + 1)) = []
  · rw [h1] at key ⊢
    have e : partsFrom (T (joinL (c :: sep') ps)) (T (c :: sep')).length 0 [] = [T (joinL (c :: sep') ps)] := by
      show [strSub _ _ _] = _
      rw [sub_whole]
    rw [e] at key
    rw [if_pos (by simp)]
    cases ps with
    | nil => exact absurd rfl hne
    | cons p r =>
      cases r with
      | nil => rfl
      | cons q r => simp at key
  · have hl : ((T (c :: sep')).length == 0) = false := rfl
    rw [hl, Bool.false_and, Bool.or_false, if_neg (by simpa using h1), glued_eq_join, partsBetween_eq, key, strJoin_T]
end Mine
end

section
open PySem PySem.W PySem.Calls PyProof.Rows
namespace Mine

theorem slice_T (l : List Nat) (a : Nat) : Txt.slice (T l) (some (a : Int)) none = T (l.drop a) := by
  by_cases h : a ≤ l.length
  · rw [slice_from_eq (b := (T l).length) (by omega) (by rw [T_len]; omega) rfl, T_len]
    refine T_of ?_
    show (l.drop (a : Int).toNat).take ((l.length : Int) - (a : Int)).toNat = l.drop a
    rw [Int.toNat_natCast, List.take_of_length_le (by rw [List.length_drop]; omega)]
  · rw [slice_beyond (by rw [T_len]; omega), List.drop_eq_nil_of_le (by omega)]; rfl

section
variable {prog : Program} {w : World} {A : Around} {E : Value → Shared → Prop} {s₀ s : Shared} {L : Addr} {m : Str → Option Value} {nw : List (Addr × Obj)} {Q : Value → Shared → Prop} {env : Env}
theorem splitS {c : Nat} {sep' : List Nat} {ps : List (List Nat)} {t u : Tok} (S : St s₀ L m nw s) (hne : ps ≠ []) (hc : ∀ p ∈ ps, c ∉ p) (hk : Builtin.Str.strKind (T (c :: sep')) = 1) (hz : (joinL (c :: sep') ps).length ≤ 10000000)
    (h : ∀ a s' vs, St s₀ L m ((a, listV vs 0) :: nw) s' → StrsAre vs (ps.map T) → Q (.ref a) s') :
    wpAny (model prog w) A (call (.builtin "str.split") [.str (T (joinL (c :: sep') ps)) t, .str (T (c :: sep')) u]) Q E s :=
  splitN1A S.fr S.nw rfl (fun l h' k e hi _ _ F N => h _ _ _ (S.mk2 F N) (by rw [e, split_joinL hne hc hk] at hi; exact hi)) (by rw [T_len, sizeLine_eq]; omega)

theorem joinS {sep : List Nat} {ps : List (List Nat)} {a : Addr} {vs : List Value} {t : Tok} (S : St s₀ L m nw s) (hl : s.heap.IsList a vs.toArray) (hi : StrsAre vs (ps.map T)) (hz : ((ps.map T).map (·.length)).sum + (ps.map T).length * sep.length ≤ 16777216)
    (h : ∀ t' s', St s₀ L m nw s' → Q (.str (T (joinL sep ps)) t') s') : wpAny (model prog w) A (call (.builtin "str.join") [.str (T sep) t, .ref a]) Q E s :=
  join_list hl hi hz fun t' k => by
    have e : Txt.join (T sep) (ps.map T) = T (joinL sep ps) := by
      show Builtin.Str.glued _ _ = _
      rw [StrLaws.glued_eq_join, strJoin_T]
    rw [e]
    exact h _ _ S.tok

theorem drop_S {x : List Nat} {a : Nat} {t u : Tok} {value : Expr} {e : Expr} {p : Pos} (S : St s₀ L m nw s) (hz : x.length ≤ 10000000) (h : ∀ t' s', St s₀ L m nw s' → Q (.str (T (x.drop a)) t') s')
    (hs : subscripted (.Slice (some e) none none p) false (.str (T x) t) (.ref s.heap.objs.size) = operate [.ref s.heap.objs.size, .str (T x) t] (getItem (.str (T x) t) (.ref s.heap.objs.size)) := by with_unfolding_all rfl)
    (ht : ∀ r, letTemporaryGo value (.str (T x) t) r = pure () := by intro _; with_unfolding_all rfl) :
    wpAny (model prog w) A (subscriptTail value (.Slice (some e) none none p) (.str (T x) t) (.ref s.heap.objs.size)) Q E { s with heap := s.heap.push { cls := .type "slice", data := .fields #[.int (a : Int) u, .none, .none] } } :=
  slice_strN_sn S.fr S.nw (fun h' t' k F N => by rw [slice_T]; exact h _ _ (S.mk2 F N)) hs ht (by rw [T_len, sizeLine_eq]; omega)

theorem meth_str {x : Str} {t : Tok} {name : Str} {id : String} {pl : Sem Bool} {Q : Value × List Value → Shared → Prop} (slot : Slot "str" name id) (ty : typeOf (.builtin id) = pure (.type "method_descriptor")) (h : Q (.builtin id, [.str x t]) s) :
    wpAny (model prog w) A (getMethod (.str x t) name pl) Q E s := getMethod_builtin (typeIs_str _ _ _) F.plainAttrs_str slot ty (fun _ e => nomatch e) h
end

theorem St.upd {s₀ s : Shared} {L l : Addr} {m : Str → Option Value} {own : List (Addr × Obj)} {o₁ o₂ : Obj} {h' : Heap} (S : St s₀ L m ((l, o₁) :: own) s) (ho : ∀ p ∈ own, p.1 ≠ l) (hs : Heap.SameBut l s.heap h') (h2 : h'.get? l = some o₂) :
    St s₀ L m ((l, o₂) :: own) { s with heap := h' } := by
  have hl := S.nw _ (.head _)
  refine S.mk2 (tk := s.toks) ⟨S.fr.ns.sameBut hs (Ne.symm hl.2.1), fun b o e => hs.extBut b o (by rintro rfl; rw [hl.2.2] at e; cases e) (S.low e), S.fr.above⟩ fun p hp => ?_
  rcases List.mem_cons.mp hp with rfl | hp
  · exact ⟨h2, hl.2⟩
  · exact ⟨hs.extBut _ _ (ho p hp) (S.get (.tail _ hp)), (S.nw _ (.tail _ hp)).2⟩
theorem StrsAre_set : ∀ {vs : List Value} {xs : List Str} {i : Nat} {y : Str} {t : Tok}, StrsAre vs xs → StrsAre (vs.set i (.str y t)) (xs.set i y)
  | _, _, _, _, _, .nil => .nil
  | _, _, 0, y, t, .cons _ _ r => .cons y t r
  | _, _, i + 1, _, _, .cons z u r => .cons z u (StrsAre_set r)

/-- the first i pieces cut -/
def cutN (a i : Nat) (ps : List (List Nat)) : List (List Nat) := (ps.take i).map (·.drop a) ++ ps.drop i
theorem cutN_get {a i : Nat} {ps : List (List Nat)} : (cutN a i ps)[i]? = ps[i]? := by
  unfold cutN
  by_cases h : i < ps.length
  · rw [List.getElem?_append_right (by simp; omega)]
    simp only [List.length_map, List.length_take, Nat.min_eq_left (Nat.le_of_lt h), Nat.sub_self, List.getElem?_drop, Nat.add_zero]
  · rw [List.getElem?_eq_none (by simp; omega), List.getElem?_eq_none (by omega)]
theorem cutN_set {a i : Nat} {ps : List (List Nat)} {y : List Nat} (h : ps[i]? = some y) : (cutN a i ps).set i (y.drop a) = cutN a (i + 1) ps := by
  have hi : i < ps.length := (List.getElem?_eq_some_iff.mp h).1
  unfold cutN
  have e1 : ((ps.take i).map (·.drop a)).length = i := by simp; omega
  rw [List.set_append_right _ _ (by omega), e1, Nat.sub_self, List.drop_eq_getElem_cons hi, List.set_cons_zero, List.take_add_one, h]
  simp

section
variable {prog : Program} {w : World} {A : Around} {Q E : Value → Shared → Prop} {s : Shared}

theorem dedent_ok {y0 : List Nat} {ys : List (List Nat)} {a c : Nat} {rest : List Nat} {t : Tok} (G : Gr w s.heap) (hA : A.depth < 900) (hh : A.handled = none)
    (hy0 : y0 = List.replicate a 32 ++ c :: rest) (hc : c ≠ 32) (hf : ∀ p ∈ y0 :: ys, 10 ∉ p) (hz : (joinL [10] (y0 :: ys)).length ≤ 1000000) (hzs : (((y0 :: ys).map (·.drop a)).map (·.length)).sum + ys.length ≤ 1000000) (hzy : ∀ p ∈ y0 :: ys, p.length ≤ 1000000)
    (hQ : ∀ s' t, Keeps s s' → Q (.str (T (joinL [10] ((y0 :: ys).map (·.drop a)))) t) s') :
    wpAny (model prog w) A (call (.ref 62) [.str (T (joinL [10] (y0 :: ys))) t]) Q E s := by
  refine call_fn (binds := [(Str.ofString "text", .str (T (joinL [10] (y0 :: ys))) t)]) (G.kin 62 _ (Eq.refl (some _))) rfl rfl (Nat.lt_trans hA (by decide)) G (codeRec_of G.kin rfl) rfl (by decide) (locs rfl) fun s₁ L S => ?_
  refine wpAny_execs_cons <| wpAny_Assign_Name <| MethodCall_ <| lL S rfl <| meth_str F.slot_str_split F.type_str_split <| PyProof.Rows.callWith_method1 <| args_cons <| cS (l := [10]) S (by decide +kernel) fun t1 s₂ S => args_nil ?_
  refine splitS S (by simp) hf (by decide +kernel) (by omega) fun l s₃ vs S hvs => sL S fun s₄ S => ?_
  obtain ⟨ty, hv0⟩ := hvs.at (j := 0) (y := T y0) rfl
  refine wpAny_execs_cons (for_enum_str (s₀ := s) hh rfl rfl rfl (fun _ => rfl) S ?_)
  refine Call_ <| lB S G rfl boot_enumerate (by decide) <| PyProof.Rows.callWith_type1 <| args_cons <| Subscript_ <| lL S rfl <| cI S fun t2 s₅ S => item_listL (isList_of S (.head _)) (by omega) (by omega) hv0 <| args_nil ?_
  refine enum_str hh S fun e s₆ S P => ?_
  refine ⟨T y0, _, _, fun i m' => i ≤ a ∧ m' (Str.ofString "lines") = some (.ref l), P.at _ rfl, S, ⟨Nat.zero_le _, rfl⟩, ?_, ?_⟩
  · clear P S
    rintro i y t3 v m₁ own s₇ hy ⟨tv, rfl⟩ ⟨hi, hm⟩ S
    have hyc : ∃ k, y0[i]? = some k ∧ y = T [k] := by
      unfold signs at hy
      rw [List.getElem?_map, show (T y0).cps.toList = y0 from rfl] at hy
      cases hk : y0[i]? with
      | none => rw [hk] at hy; cases hy
      | some k => rw [hk] at hy; exact ⟨k, rfl, (Option.some.inj hy).symm⟩
    obtain ⟨k, hk, rfl⟩ := hyc
    refine wpAny_execs_cons (wpAny_If (wpAny_isTrue_Compare1 (lL S rfl (cS (l := [32]) S (by decide +kernel) fun t4 s₈ S => P.ne_str (wpAny_truthy_bool ?_)))))
    have e1 : ((T [k]).cps.toList != (T [32]).cps.toList) = (k != 32) := by
      show ([k] != [32]) = (k != 32)
      rw [Bool.eq_iff_iff, bne_iff_ne, bne_iff_ne, ne_eq, ne_eq, List.cons.injEq]
      exact not_congr (and_iff_left rfl)
    rw [e1]
    by_cases hia : i < a
    · have : k = 32 := by
        rw [hy0, List.getElem?_append_left (by simp; exact hia)] at hk
        simp [hia] at hk; exact hk.symm
      subst this
      rw [if_neg (by decide)]
      exact wpAny_execs_nil (wpAny_execs_nil (.inl ⟨rfl, _, S, by omega, hm⟩))
    · have e2 : i = a := by omega
      have : k = c := by
        rw [hy0, List.getElem?_append_right (by simp; omega)] at hk
        simp [e2] at hk; exact hk.symm
      subst this
      rw [if_pos (show (k != 32) = true from by simpa using hc)]
      refine wpAny_execs_cons (wpAny_Break (.inr ⟨rfl, ?_⟩))
      rw [e2] at S
      have S := S.less (nw' := [(l, listV vs 0)]) (fun p hp => List.mem_append_right _ hp)
      have hvn : vs.length = (y0 :: ys).length := by rw [hvs.len_eq, List.length_map]
      have hvn' : vs.length = ys.length + 1 := hvn
      refine wpAny_execs_cons (for_enum_mut (s₀ := s) (n := vs.length) hh rfl rfl rfl ?_)
      refine Call_ <| lB S G rfl boot_enumerate (by decide) <| PyProof.Rows.callWith_type1 <| args_cons <| lL S hm <| args_nil <| call_enumerate_list (isList_of S (.head _)) fun h' he hit hsz hkp => ?_
      have hfr : ∀ b, s₈.heap.objs.size ≤ b → s₈.heap.get? b = none := fun b hb => Heap.get?_none_of_le hb
      have hfr0 : ∀ b, s₈.heap.objs.size ≤ b → s.heap.get? b = none := fun b hb => by
        cases e : s.heap.get? b with
        | none => rfl
        | some o => have := S.low e; rw [hfr b hb] at this; cases this
      have hl8 : l < s₈.heap.objs.size := Heap.lt_size (S.get (.head _))
      have hL8 : L < s₈.heap.objs.size := S.fr.ns.lt
      have S := S.keeps (kp_mk (tk := s₈.toks) hkp)
      refine ⟨_, _, l, listV vs 0, vs, _, fun i m' vs' => m' (Str.ofString "lines") = some (.ref l) ∧ (∃ ti, m' (Str.ofString "i") = some (.int (a : Int) ti)) ∧ StrsAre vs' ((cutN a i (y0 :: ys)).map T), rfl, he, hit, S, ⟨rfl, 0, rfl⟩, rfl,
        ⟨hm, ⟨_, rfl⟩, hvs⟩, Nat.succ_ne_self _, Nat.ne_of_lt (Nat.lt_succ_of_lt hl8), Nat.ne_of_lt hl8, Nat.ne_of_gt (Nat.lt_succ_of_lt hL8), Nat.ne_of_gt hL8, hfr0 _ (Nat.le_succ _), hfr0 _ (Nat.le_refl _), ?_, ?_⟩
      · clear S he hit hsz hkp hm
        rintro j v tk m₂ o₁ vs₁ own' s₉ hv hO hvn₁ ⟨hm, ⟨ti, hmi⟩, hvs₁⟩ hown S
        obtain ⟨z, hz'⟩ : ∃ z, (y0 :: ys)[j]? = some z := ⟨_, List.getElem?_eq_getElem (by
          have := (List.getElem?_eq_some_iff.mp hv).1; omega)⟩
        obtain ⟨tz, hv'⟩ := hvs₁.at (j := j) (y := T z) (by rw [List.getElem?_map, cutN_get, hz']; rfl)
        rw [hv] at hv'
        cases hv'
        obtain ⟨ho1, n1, ho2⟩ := hO
        have hzl := hzy z (List.mem_of_getElem? hz')
        refine wpAny_execs_cons <| wpAny_Assign_Subscript <| Subscript_ <| lL S rfl <| wpAny_Slice <| evI rfl <| lL S hmi <| evN <| evN <| drop_S S (by omega) fun t5 s₁₀ S => lL S hm <| lL S rfl <|
          wpAny_setItem_list (items := vs₁.toArray) ⟨o₁, S.get (.head _), ho1, n1, ho2⟩ (by omega) (by have := (List.getElem?_eq_some_iff.mp hv).1; omega) (by have := (List.getElem?_eq_some_iff.mp hv).1; simp; omega) fun h' hl' hs' => ?_
        obtain ⟨o₂, hg, hc2, n2, hd2⟩ := hl'
        have S := S.upd hown hs' hg
        refine wpAny_execs_nil ⟨rfl, _, o₂, vs₁.set j (.str (T (z.drop a)) t5), S, ⟨hc2, n2, by rw [hd2]; simp⟩, by rw [List.length_set]; exact hvn₁, hm, ⟨ti, hmi⟩, ?_⟩
        rw [← cutN_set hz', List.map_set]
        exact StrsAre_set hvs₁
      · rintro m' o' vs' s' S ⟨ho1, n1, ho2⟩ ⟨hm, _, hvs'⟩
        have e2 : cutN a vs.length (y0 :: ys) = (y0 :: ys).map (·.drop a) := by
          unfold cutN
          rw [List.take_of_length_le (by omega), List.drop_eq_nil_of_le (by omega), List.append_nil]
        rw [e2] at hvs'
        refine wpAny_execs_cons <| wpAny_Return_some <| MethodCall_ <| cS (l := [10]) S (by decide +kernel) fun t6 s₁₁ S => meth_str F.slot_str_join F.type_str_join <| PyProof.Rows.callWith_method1 <| args_cons <| lL S hm <| args_nil ?_
        refine joinS S ⟨o', S.get (.head _), ho1, n1, ho2⟩ hvs' ?_ fun t7 s₁₂ S => hQ _ _ S.done
        have : (((y0 :: ys).map (·.drop a)).map T).map (·.length) = ((y0 :: ys).map (·.drop a)).map (·.length) := by rw [List.map_map]; rfl
        rw [this]
        simp only [List.length_map, List.length_cons, List.length_nil] at hzs ⊢
        omega
  · rintro m' s' S ⟨hi, hm⟩
    exfalso
    rw [signs_length, T_len, hy0] at hi
    simp at hi
    omega
end
end Mine
end

section
open PySem PySem.W PySem.Calls PyProof.Rows
namespace Mine

/-- no end in it, and not empty -/
def Clean (x : List Nat) : Prop := x ≠ [] ∧ (∀ c ∈ x, isEol c = false)

theorem fixL_clean_app {x r : List Nat} (h : ∀ c ∈ x, isEol c = false) : fixL (x ++ r) = x ++ fixL r := by
  induction x with
  | nil => rfl
  | cons c x ih =>
    rw [List.cons_append, fixL_plain (h c (.head _)), ih fun c hc => h c (.tail _ hc)]; rfl
theorem fixL_end {e r : List Nat} (he : e ∈ endsL) (hr : ∀ c r', r = c :: r' → c ≠ 10) : fixL (e ++ r) = 13 :: 10 :: fixL r := by
  unfold endsL at he
  rcases List.mem_cons.mp he with rfl | he
  · exact fixL_eol rfl (fun r' h _ => absurd h (by decide))
  · rcases List.mem_cons.mp he with rfl | he
    · exact fixL_eol rfl (fun r' _ h => hr 10 r' h rfl)
    · rw [List.mem_singleton.mp he]; exact fixL_crlf
theorem typedL_cons {x e : List Nat} {xs es : List (List Nat)} : typedL (x :: xs) (e :: es) = x ++ (e ++ typedL xs es) := by simp [typedL]
theorem clean_head {x : List Nat} (h : Clean x) : ∃ c r, x = c :: r ∧ c ≠ 10 ∧ c ≠ 13 := by
  cases x with
  | nil => exact absurd rfl h.1
  | cons c r =>
    have := h.2 c (.head _)
    unfold isEol at this
    simp at this
    exact ⟨c, r, rfl, this.1, this.2⟩
theorem joinL_snoc_nil (sep x : List Nat) (xs : List (List Nat)) : joinL sep (x :: xs ++ [[]]) = x ++ sep ++ joinL sep (xs ++ [[]]) := by
  cases xs <;> rfl

theorem fix_typed : ∀ {xs es : List (List Nat)}, (∀ x ∈ xs, Clean x) → (∀ e ∈ es, e ∈ endsL) → es.length = xs.length → fixL (typedL xs es) = joinL [13, 10] (xs ++ [[]])
  | [], [], _, _, _ => by simp [typedL, fixL, joinL]
  | x :: xs, e :: es, hx, he, hl => by
    have ih := fix_typed (xs := xs) (es := es) (fun y h => hx y (.tail _ h)) (fun y h => he y (.tail _ h)) (by simpa using hl)
    rw [typedL_cons, fixL_clean_app (hx x (.head _)).2, fixL_end (he e (.head _)), ih, joinL_snoc_nil]
    · simp
    · intro c r' h
      cases xs with
      | nil => simp [typedL] at h
      | cons y ys =>
        cases es with
        | nil => simp [typedL] at h
        | cons f fs =>
          rw [typedL_cons] at h
          obtain ⟨c', r'', rfl, h1, _⟩ := clean_head (hx y (.tail _ (.head _)))
          rw [List.cons_append] at h
          rw [← (List.cons.inj h).1]; exact h1
  | [], _ :: _, _, _, hl => by simp at hl
  | _ :: _, [], _, _, hl => by simp at hl

/-- a row sent -/
def quoteR (x : List Nat) : List Nat := if x.head? = some 46 then 46 :: x else x
theorem quoteL_clean {x r : List Nat} (h : ∀ c ∈ x, isEol c = false) : quoteL false (x ++ r) = x ++ quoteL false r := by
  induction x with
  | nil => rfl
  | cons c x ih =>
    have hc := h c (.head _)
    have h10 : (c == 10) = false := by unfold isEol at hc; simp at hc; simpa using hc.1
    rw [List.cons_append, quoteL, if_neg (by simp), h10, ih fun c hc => h c (.tail _ hc)]; rfl
theorem quoteL_row {x r : List Nat} (h : Clean x) : quoteL true (x ++ [13, 10] ++ r) = quoteR x ++ [13, 10] ++ quoteL true r := by
  obtain ⟨c, x', rfl, h1, h2⟩ := clean_head h
  have hc : ∀ k ∈ x', isEol k = false := fun k hk => h.2 k (.tail _ hk)
  have h10 : (c == 10) = false := by simpa using h1
  have e1 : quoteL false ((x' ++ [13, 10]) ++ r) = x' ++ ([13, 10] ++ quoteL true r) := by
    rw [List.append_assoc, quoteL_clean hc]
    refine congrArg (x' ++ ·) ?_
    show quoteL false (13 :: 10 :: r) = _
    rw [quoteL, if_neg (by simp), quoteL, if_neg (by simp)]; rfl
  by_cases h46 : c = 46
  · subst h46
    show quoteL true (46 :: ((x' ++ [13, 10]) ++ r)) = _
    rw [quoteL, if_pos (by simp), e1]
    simp [quoteR]
  · show quoteL true (c :: ((x' ++ [13, 10]) ++ r)) = _
    rw [quoteL, if_neg (by simpa using h46), h10, e1]
    simp [quoteR, h46]
theorem quote_join : ∀ {xs : List (List Nat)}, (∀ x ∈ xs, Clean x) → quoteL true (joinL [13, 10] (xs ++ [[]])) = joinL [13, 10] (xs.map quoteR ++ [[]])
  | [], _ => rfl
  | x :: xs, h => by
    rw [joinL_snoc_nil, quoteL_row (h x (.head _)), quote_join fun y hy => h y (.tail _ hy), List.map_cons, joinL_snoc_nil]

theorem rowL_clean (d : Nat) : Clean (rowL d) := by
  refine ⟨by simp [rowL], fun c hc => ?_⟩
  unfold rowL at hc
  rcases List.mem_append.mp hc with h | h
  · rw [(List.mem_replicate.mp h).2]; rfl
  · rw [List.mem_singleton.mp h]; rfl
theorem quoteR_row {d : Nat} (h : 0 < d) : quoteR (rowL d) = rowL (d + 1) := by
  obtain ⟨k, rfl⟩ : ∃ k, d = k + 1 := ⟨d - 1, by omega⟩
  simp [quoteR, rowL, List.replicate_succ]
theorem quoteR_a : quoteR [97, 11] = [97, 11] := rfl
theorem ins_clean {ds : List Nat} {p : Nat} : ∀ x ∈ insA (ds.map rowL) p, Clean x := fun x h => by
  have ha : Clean [97, 11] := ⟨by simp, by decide⟩
  unfold insA at h
  rcases List.mem_append.mp h with h | h
  · rcases List.mem_append.mp h with h | h
    · obtain ⟨d, _, rfl⟩ := List.mem_map.mp (List.mem_of_mem_take h); exact rowL_clean d
    · rw [List.mem_singleton.mp h]; exact ha
  · obtain ⟨d, _, rfl⟩ := List.mem_map.mp (List.mem_of_mem_drop h); exact rowL_clean d
theorem insA_map {f : List Nat → List Nat} {xs : List (List Nat)} {p : Nat} : (insA xs p).map f = (xs.map f).take p ++ [f [97, 11]] ++ (xs.map f).drop p := by
  unfold insA; simp
theorem insA_length {xs : List (List Nat)} {p : Nat} : (insA xs p).length = xs.length + 1 := by
  unfold insA; simp only [List.length_append, List.length_take, List.length_drop, List.length_cons, List.length_nil]; omega

theorem joinL_nil_length (sep : List Nat) : ∀ xs : List (List Nat), (joinL sep (xs ++ [[]])).length = (xs.map (·.length)).sum + xs.length * sep.length
  | [] => by simp [joinL]
  | x :: xs => by
    rw [joinL_snoc_nil, List.length_append, List.length_append, joinL_nil_length sep xs, List.map_cons, List.sum_cons, List.length_cons, Nat.succ_mul]
    omega
theorem sum_take_drop (l : List Nat) (p : Nat) : (l.take p).sum + (l.drop p).sum = l.sum := by
  rw [← List.sum_append_nat, List.take_append_drop]
/-- how many signs quotedata lays more -/
theorem count_rows {ds : List Nat} {p : Nat} (h : ∀ d ∈ ds, 0 < d) : (joinL [13, 10] ((insA (ds.map rowL) p).map quoteR ++ [[]])).length = (joinL [13, 10] (insA (ds.map rowL) p ++ [[]])).length + ds.length := by
  rw [joinL_nil_length, joinL_nil_length, List.length_map]
  have e1 : ((insA (ds.map rowL) p).map quoteR).map (·.length) = ((ds.map fun d => d + 2).take p) ++ [2] ++ ((ds.map fun d => d + 2).drop p) := by
    rw [insA_map, quoteR_a, List.map_append, List.map_append, List.map_take, List.map_drop]
    have : List.map (·.length) (List.map quoteR (List.map rowL ds)) = ds.map fun d => d + 2 := by
      rw [List.map_map, List.map_map]
      exact List.map_congr_left fun d hd => by
        show (quoteR (rowL d)).length = d + 2
        rw [quoteR_row (h d hd), rowL_len]
    rw [this]; rfl
  have e2 : (insA (ds.map rowL) p).map (·.length) = ((ds.map fun d => d + 1).take p) ++ [2] ++ ((ds.map fun d => d + 1).drop p) := by
    unfold insA
    rw [List.map_append, List.map_append, List.map_take, List.map_drop]
    have : List.map (·.length) (List.map rowL ds) = ds.map fun d => d + 1 := by
      rw [List.map_map]
      exact List.map_congr_left fun d hd => rowL_len d
    rw [this]; rfl
  rw [e1, e2]
  simp only [List.sum_append_nat]
  have t1 := sum_take_drop (ds.map fun d => d + 2) p
  have t2 := sum_take_drop (ds.map fun d => d + 1) p
  have s1 : ∀ (k : Nat) (l : List Nat), (l.map fun d => d + k).sum = l.sum + l.length * k := by
    intro k l
    induction l with
    | nil => simp
    | cons a l ih => simp only [List.map_cons, List.sum_cons, List.length_cons, Nat.succ_mul, ih]; omega
  rw [s1] at t1 t2
  omega
end Mine
end

section
open PySem PySem.W PySem.Calls PyProof.Rows
namespace Mine

theorem joinL_snoc_app (sep y : List Nat) : ∀ xs : List (List Nat), joinL sep (xs ++ [[]]) ++ y = joinL sep (xs ++ [y])
  | [] => rfl
  | x :: xs => by
    rw [joinL_snoc_nil, List.append_assoc, joinL_snoc_app sep y xs]
    cases xs <;> rfl

/-- the law's rows moved -/
def movedN (j : Int) (ds : List Nat) : Int × List Nat :=
  if (ds.headD 0 : Int) ≤ ds.length + 3 * j then (j - 1, (((ds.length : Int) + 3 * j - 1).toNat :: ds.map (· - 1)).filter (fun d => decide (0 < d)))
  else (j + 1, ds.tail.map (· + 1) ++ List.replicate ((ds.headD 0 : Int) - 3 * j - 2 - ds.tail.length).toNat 1)

theorem filter_rows (f : Nat → Nat) (y : List Nat) : ∀ ds : List Nat, (∀ d ∈ ds, rowL (f d) ≠ y) → (ds.map fun d => rowL (f d)).filter (fun x => decide (x ≠ y)) = ds.map fun d => rowL (f d)
  | [], _ => rfl
  | d :: ds, h => by
    rw [List.map_cons, List.filter_cons, if_pos (by simpa using h d (.head _)), filter_rows f y ds fun x hx => h x (.tail _ hx)]
theorem map_take_drop_filter {α β : Type} (f : α → β) (P : β → Bool) (y : β) (hy : P y = false) (l : List α) (p : Nat) : (((l.map f).take p ++ [y] ++ (l.map f).drop p)).filter P = (l.map f).filter P := by
  rw [List.filter_append, List.filter_append, List.filter_cons, if_neg (by rw [hy]; simp), List.filter_nil, List.append_nil, ← List.filter_append, List.take_append_drop]

/-- the second way's rows -/
theorem others_rows {ds : List Nat} {p : Nat} (h : ∀ d ∈ ds, 0 < d) :
    ((insA (ds.map rowL) p).map quoteR ++ [[97, 11]]).filter (fun x => decide (x ≠ [97, 11])) = ds.map fun d => rowL (d + 1) := by
  rw [List.filter_append, insA_map, quoteR_a, List.map_map, map_take_drop_filter _ _ _ (by simp)]
  have e : List.map (quoteR ∘ rowL) ds = ds.map fun d => rowL (d + 1) := List.map_congr_left fun d hd => quoteR_row (h d hd)
  rw [e, filter_rows (fun d => d + 1) [97, 11] ds (fun d _ e => by simp [rowL, List.replicate_succ] at e)]
  simp

theorem rowL_eq_11 {d : Nat} : rowL d = [11] ↔ d = 0 := by
  cases d with
  | zero => simp [rowL]
  | succ d => simp [rowL, List.replicate_succ]
theorem rowL_drop (d : Nat) (h : 0 < d) : (rowL d).drop 1 = rowL (d - 1) := by
  obtain ⟨k, rfl⟩ : ∃ k, d = k + 1 := ⟨d - 1, by omega⟩
  simp [rowL, List.replicate_succ]

/-- the first way's rows -/
theorem laid_rows {ds : List Nat} {p n : Nat} (h : ∀ d ∈ ds, 0 < d) :
    (rowL n :: (insA (ds.map rowL) p).map (List.drop 1) ++ [[11]]).filter (fun x => decide (x ≠ [11])) = ((n :: ds.map (· - 1)).filter (fun d => decide (0 < d))).map rowL := by
  have e1 : ∀ l : List Nat, (l.map rowL).filter (fun x => decide (x ≠ [11])) = (l.filter fun d => decide (0 < d)).map rowL := by
    intro l
    induction l with
    | nil => rfl
    | cons d l ih =>
      rw [List.map_cons, List.filter_cons, List.filter_cons, ih]
      by_cases hd : 0 < d
      · rw [if_pos (by rw [decide_eq_true_eq]; intro e; rw [rowL_eq_11] at e; omega), if_pos (by simpa using hd)]; rfl
      · rw [if_neg (by rw [decide_eq_true_eq]; intro e; exact e (rowL_eq_11.mpr (by omega))), if_neg (by simpa using hd)]
  have e2 : (ds.map rowL).map (List.drop 1) = (ds.map (· - 1)).map rowL := by
    rw [List.map_map, List.map_map]
    exact List.map_congr_left fun d hd => rowL_drop d (h d hd)
  have e3 : (rowL n :: (insA (ds.map rowL) p).map (List.drop 1) ++ [[11]]).filter (fun x => decide (x ≠ [11])) = ([rowL n] ++ ((insA (ds.map rowL) p).map (List.drop 1))).filter (fun x => decide (x ≠ [11])) := by
    rw [List.filter_append]; simp
  rw [e3, List.filter_append, insA_map, e2, map_take_drop_filter (f := rowL) _ _ (by decide), ← List.filter_append]
  exact e1 (n :: ds.map (· - 1))

/-- all but the last with t behind -/
def appT (t : List Nat) : List (List Nat) → List (List Nat)
  | [] => []
  | [x] => [x]
  | x :: y :: r => (x ++ t) :: appT t (y :: r)
theorem joinL_appT (t sep : List Nat) : ∀ l : List (List Nat), joinL (t ++ sep) l = joinL sep (appT t l)
  | [] => rfl
  | [_] => rfl
  | x :: y :: r => by
    rw [joinL_cons, joinL_appT t sep (y :: r)]
    cases r <;> simp [appT, joinL]
theorem joinL_margin (mg e : List Nat) : ∀ l : List (List Nat), l ≠ [] → mg ++ joinL (e ++ mg) l = joinL e (l.map (mg ++ ·))
  | [], h => absurd rfl h
  | [_], _ => rfl
  | x :: y :: r, _ => by
    rw [joinL_cons, List.map_cons, List.map_cons, joinL_cons, ← List.map_cons, ← joinL_margin mg e (y :: r) (by simp)]
    simp
theorem appT_snoc_nil (t x : List Nat) (xs : List (List Nat)) : appT t (x :: xs ++ [[]]) = (x ++ t) :: appT t (xs ++ [[]]) := by
  cases xs <;> rfl
/-- the margin taken off -/
theorem appT_dedent (t mg : List Nat) : ∀ xs : List (List Nat), (∀ x ∈ xs, x ≠ []) → (appT t ((xs ++ [[]]).map (mg ++ ·))).map (List.drop (mg.length + 1)) = appT t (xs.map (List.drop 1) ++ [[]])
  | [], _ => by simp [appT]
  | x :: xs, h => by
    have ih := appT_dedent t mg xs fun y hy => h y (.tail _ hy)
    have e1 : appT t ((x :: xs ++ [[]]).map (mg ++ ·)) = (mg ++ x ++ t) :: appT t ((xs ++ [[]]).map (mg ++ ·)) := by
      cases xs <;> rfl
    rw [e1, List.map_cons, ih, List.map_cons, appT_snoc_nil]
    refine congrArg (· :: _) ?_
    cases x with
    | nil => exact absurd rfl (h [] (.head _))
    | cons c x =>
      rw [List.append_assoc, ← List.drop_drop]
      rw [List.drop_append_of_le_length (Nat.le_refl _), List.drop_length]
      rfl

theorem mem_appT {t : List Nat} {c : Nat} : ∀ {l : List (List Nat)} {p : List Nat}, p ∈ appT t l → c ∈ p → c ∈ t ∨ ∃ x ∈ l, c ∈ x
  | [], p, h, _ => by cases h
  | [x], p, h, hc => by rw [List.mem_singleton.mp h] at hc; exact .inr ⟨x, .head _, hc⟩
  | x :: y :: r, p, h, hc => by
    rcases List.mem_cons.mp h with rfl | h
    · rcases List.mem_append.mp hc with hc | hc
      · exact .inr ⟨x, .head _, hc⟩
      · exact .inl hc
    · rcases mem_appT h hc with hc | ⟨z, hz, hc⟩
      · exact .inl hc
      · exact .inr ⟨z, .tail _ hz, hc⟩

theorem ins_sign {ds : List Nat} {p : Nat} {x : List Nat} {c : Nat} (hx : x ∈ insA (ds.map rowL) p) (hc : c ∈ x) : c = 46 ∨ c = 11 ∨ c = 97 := by
  have row : ∀ d, c ∈ rowL d → c = 46 ∨ c = 11 ∨ c = 97 := fun d h => by
    unfold rowL at h
    rcases List.mem_append.mp h with h | h
    · exact .inl (List.mem_replicate.mp h).2
    · exact .inr (.inl (List.mem_singleton.mp h))
  unfold insA at hx
  rcases List.mem_append.mp hx with h | h
  · rcases List.mem_append.mp h with h | h
    · obtain ⟨d, _, rfl⟩ := List.mem_map.mp (List.mem_of_mem_take h); exact row d hc
    · rw [List.mem_singleton.mp h] at hc
      rcases List.mem_cons.mp hc with h | h
      · exact .inr (.inr h)
      · exact .inr (.inl (List.mem_singleton.mp h))
  · obtain ⟨d, _, rfl⟩ := List.mem_map.mp (List.mem_of_mem_drop h); exact row d hc
end Mine
end

section
open PySem PySem.W PySem.Calls PyProof.Rows
namespace Mine

section
variable {prog : Program} {w : World} {A : Around} {E : Value → Shared → Prop} {s₀ s : Shared} {L : Addr} {Q : Value → Shared → Prop} {env : Env}

/-- a comprehension over a list -/
theorem compL {elt iter : Expr} {x : Str} {px : Pos} {ifs : List Expr} {scope : Scope} {pos : Pos} (p : Value → Bool) (F : Value → Value → Prop) (hh : A.handled = none)
    (hfree : ∀ y ∈ scope.names, y.2 ≠ .free) (hcell : ∀ y ∈ scope.names, y.2 ≠ .cell) (hkind : scope.kind = .function)
    (hnames : ∀ y ∈ scope.names, y.2 = .local → scope.names.lookup y.1 = some .local) (hx : scope.names.lookup x = some .local)
    (h : wpAny (model prog w) A (eval iter env) (fun xv s₁ => ∃ (a : Addr) (vs : List Value) (m : Str → Option Value) (nw : List (Addr × Obj)), xv = .ref a ∧ St s₀ L m nw s₁ ∧ s₁.heap.IsList a vs.toArray ∧ vs.length ≤ 1000000 ∧
      (∀ C v s₃ m₃ (E' : Value → Shared → Prop), v ∈ vs → s₃.heap.Ns C m₃ → m₃ x = some v → (∀ b o, s₁.heap.get? b = some o → s₃.heap.get? b = some o) →
        wpAny (model prog w) A (forIn ifs true fun c r => if r = true then do let ok ← isTrue c (compEnv scope C env) (eval c (compEnv scope C env)); pure (ForInStep.yield ok) else pure (ForInStep.yield r)) (fun ok s₄ => ok = p v ∧ Keeps s₃ s₄) E' s₃) ∧
      (∀ C v s₃ m₃ (E' : Value → Shared → Prop), v ∈ vs → p v = true → s₃.heap.Ns C m₃ → m₃ x = some v → (∀ b o, s₁.heap.get? b = some o → s₃.heap.get? b = some o) →
        wpAny (model prog w) A (eval elt (compEnv scope C env)) (fun y s₄ => F v y ∧ Keeps s₃ s₄) E' s₃) ∧
      (∀ D n ys s', St s₀ L m ((D, listV ys n) :: nw) s' → Paired F (vs.filter p) ys → Q (.ref D) s')) E s)
    (hs : ∀ x, foldedSetIterable iter env x = pure x := by intro _; rfl) :
    wpAny (model prog w) A (eval (.ListComp elt [⟨.Name x px, iter, ifs, 0⟩] scope pos) env) Q E s := by
  refine wpAny_ListComp_walk p F hfree hcell hkind hnames hx (wpAny_mono h (fun xv s₁ h₁ => ?_) fun _ _ e => e) hs
  obtain ⟨a, vs, m, nw, rfl, S, hl, hz, htests, helt, hQ⟩ := h₁
  refine wpAny_pyIter_list hl ?_
  have hnew : s₁.heap.get? s₁.heap.objs.size = none := Heap.get?_none_of_le (Nat.le_refl _)
  obtain ⟨ol, hol, hcl, nl, hdl⟩ := id hl
  have hla : a < s₁.heap.objs.size := Heap.lt_size hol
  have hit : (Heap.push s₁.heap { cls := .type "list_iterator", data := .fields #[.ref a, .int 0 0] }).get? s₁.heap.objs.size = some _ := Heap.get?_push_size _ rfl
  have mem : ∀ {i : Nat} {v : Value}, vs.toArray[i]? = some v → v ∈ vs := fun e => by
    rw [List.getElem?_toArray] at e; exact List.mem_of_getElem? e
  refine ⟨s₁.heap.objs.size, [s₁.heap.objs.size, a], [s₁.heap.objs.size], vs.toArray.size, _, _, rfl, Walks.list hh _ a (Nat.ne_of_lt hla) vs.toArray, ?_, ?_, ?_, ?_, ?_⟩
  · rw [sizeLine_eq]; simp only [List.size_toArray]; omega
  · exact ⟨⟨_, hit, rfl, rfl⟩, ⟨ol, Heap.get?_push_of_some _ hol, hcl, nl, hdl⟩⟩
  · intro b hb
    show b < (Heap.push s₁.heap _).objs.size
    rw [Heap.size_push]
    rcases List.mem_cons.mp hb with rfl | hb
    · exact Nat.lt_succ_self _
    · rw [List.mem_singleton.mp hb]; exact Nat.lt_succ_of_lt hla
  · have up : ∀ {h : Heap}, (∀ b o, b ∉ [s₁.heap.objs.size] → (Heap.push s₁.heap { cls := .type "list_iterator", data := .fields #[.ref a, .int 0 0] }).get? b = some o → h.get? b = some o) → ∀ b o, s₁.heap.get? b = some o → h.get? b = some o :=
      fun k b o e => k b o (fun hb => by rw [List.mem_singleton.mp hb, hnew] at e; cases e) (Heap.get?_push_of_some _ e)
    exact ⟨fun C i v s₃ m₃ E' hP hn hm hk _ => htests C v s₃ m₃ E' (mem hP) hn hm (up hk), fun C i v s₃ m₃ E' hP hp hn hm hk _ => helt C v s₃ m₃ E' (mem hP) hp hn hm (up hk)⟩
  · intro D h' tk ys vs' hD _ hpl hlen hP hF hk
    have e1 : vs' = vs := by
      refine List.ext_getElem? fun i => ?_
      cases e : vs'[i]? with
      | some v => have := hP i v e; rw [List.getElem?_toArray] at this; exact this.symm
      | none =>
        rw [List.getElem?_eq_none_iff] at e
        rw [eq_comm, List.getElem?_eq_none_iff]
        simp only [List.size_toArray] at hlen
        omega
    subst e1
    obtain ⟨n, hd⟩ := hpl
    have hDs : s₁.heap.get? D = none := by
      cases e : s₁.heap.get? D with
      | none => rfl
      | some o =>
        have : (Heap.push s₁.heap { cls := .type "list_iterator", data := .fields #[.ref a, .int 0 0] }).get? D = some o := Heap.get?_push_of_some _ e
        rw [hD] at this; cases this
    refine hQ D n ys.toList _ (S.add (kp_mk (tk := tk) fun b o e => hk b o (fun hb => ?_) (Heap.get?_push_of_some _ e)) hDs hd) hF
    rw [List.mem_singleton.mp hb, hnew] at e; cases e
end

section
variable {prog : Program} {w : World} {A : Around} {E : Value → Shared → Prop} {s : Shared} {Q : Value → Shared → Prop} {env : Env} {C : Addr} {m : Str → Option Value} {scope : Scope} {x : Str} {pos : Pos} {v : Value}
/-- names within a comprehension -/
theorem lC (hn : s.heap.Ns C m) (hv : m x = some v) (h : Q v s) (hk : scope.kind = .function := by rfl) (hx : (compEnv scope C env).kindOf x = some .local := by rfl) (hd : (x == ("__debug__" : Str)) = false := by decide) :
    wpAny (model prog w) A (eval (.Name x pos) (compEnv scope C env)) Q E s := wpAny_Name (wpAny_loadName_local hk hx hn hv h) hd
theorem lCB (G : Gr w s.heap) (e : nsIn (hd.heap_39 w.params) mainGlobals x = some none) (hv : bootBuiltins x = some v) (hn : x ≠ "__name__") (hg : env.globals = mainGlobals) (hb : env.builtins = builtinsNs) (h : Q v s)
    (hk : scope.kind = .function := by rfl) (hx : (compEnv scope C env).kindOf x = some .globalImplicit := by rfl) (hd : (x == ("__debug__" : Str)) = false := by decide) :
    wpAny (model prog w) A (eval (.Name x pos) (compEnv scope C env)) Q E s := by
  obtain ⟨p, loose, mg, mb, Tp⟩ := G.top
  refine Name_function_global hk hx (loadGlobal_builtin (env := compEnv scope C env) (mg := mg) (mb := mb) ?_ (mg_none_of G.kin Tp.g e) ?_ ((Tp.builtins x hn).trans hv) h) hd
  · show s.heap.Ns env.globals mg; rw [hg]; exact Tp.g
  · show s.heap.Ns env.builtins mb; rw [hb]; exact Tp.b
end

theorem paired_eq : ∀ {a b : List Value}, Paired (fun v y => y = v) a b → b = a
  | _, _, .nil => rfl
  | _, _, .cons h r => by rw [h, paired_eq r]
theorem paired_strs {f : List Nat → List Nat} : ∀ {a b : List Value} {xs : List (List Nat)}, Paired (fun v y => ∀ l t, v = .str (T l) t → ∃ u, y = .str (T (f l)) u) a b → StrsAre a (xs.map T) → StrsAre b ((xs.map f).map T)
  | _, _, [], .nil, _ => .nil
  | _, _, x :: xs, .cons h r, hs => by
    cases hs with
    | cons _ t hs =>
      obtain ⟨u, rfl⟩ := h x t rfl
      exact .cons _ _ (paired_strs r hs)
/-- texts sifted -/
def isnt (y : List Nat) (v : Value) : Bool := match v with | .str x _ => decide (x ≠ T y) | _ => false
theorem isnt_T {y x : List Nat} {t : Tok} : isnt y (.str (T x) t) = decide (x ≠ y) := by
  show decide (T x ≠ T y) = _
  rw [decide_eq_decide, ne_eq, ne_eq, T_inj]
theorem strs_filter {y : List Nat} : ∀ {a : List Value} {xs : List (List Nat)}, StrsAre a (xs.map T) → StrsAre (a.filter (isnt y)) ((xs.filter fun x => decide (x ≠ y)).map T)
  | _, [], .nil => .nil
  | _, x :: xs, .cons _ t r => by
    rw [List.filter_cons, List.filter_cons, isnt_T]
    by_cases h : decide (x ≠ y) = true
    · rw [if_pos h, if_pos h]; exact .cons _ _ (strs_filter r)
    · rw [if_neg h, if_neg h]; exact strs_filter r
theorem StrsAre_mem {vs : List Value} {xs : List (List Nat)} (h : StrsAre vs (xs.map T)) : ∀ v ∈ vs, ∃ x t, v = .str (T x) t ∧ x ∈ xs := by
  induction xs generalizing vs with
  | nil => cases h; intro v hv; cases hv
  | cons x xs ih =>
    cases h with
    | cons _ t r =>
      intro v hv
      rcases List.mem_cons.mp hv with rfl | hv
      · exact ⟨x, t, rfl, .head _⟩
      · obtain ⟨x', t', e, hm⟩ := ih r v hv
        exact ⟨x', t', e, .tail _ hm⟩
end Mine
end

section
open PySem PySem.W PySem.Calls PyProof.Rows
namespace Mine

/-- a name that the written part of a table lacks -/
theorem lacks {K : Frag} {h : Heap} {a : Addr} {m : Str → Option Value} {x : Str} (X : K.In h) (N : h.Ns a m) (e : nsIn K a x = some none) : m x = none := by
  obtain ⟨o, es, ep, ho, hd, _, hf⟩ := N
  rw [← hf]
  unfold nsIn at e
  cases q : K.lookup a with
  | none => rw [q] at e; cases e
  | some o' =>
    rw [q] at e
    have := X _ _ q
    rw [ho] at this
    cases this
    obtain ⟨c, d, dt, sl⟩ := o
    have hd' : dt = .dict es ep := hd
    subst hd'
    simp only at e
    unfold nsFind findBy
    rw [← Array.find?_toList]
    cases q2 : es.toList.find? (·.key.isStr x) with
    | some en => rw [q2] at e; cases e
    | none => rfl
theorem Gr.noneBooked {w : World} {h : Heap} (G : Gr w h) : NoneBooked h := by
  obtain ⟨mc, hn, _⟩ := G.nolimit
  exact ⟨mc, hn, lacks G.kin hn rfl⟩

theorem call_fnT {prog : Program} {w : World} {A : Around} {Q E : Value → Shared → Prop} {s : Shared} {f : Addr} {o : Obj} {fd : FuncData} {body : List Stmt} {vals : List Value} {binds : List (Str × Value)}
    (ho : s.heap.get? f = some o) (hdata : o.data = .func fd) (hbody : fd.body = .stmts body)
    (hroom : A.depth < recursionLimit) (G : Gr w s.heap) (hcd : s.heap.CodeRec fd.code fd.qualname)
    (hbind : bindArgs fd ⟨vals, []⟩ = pure binds) (hcell : ∀ x ∈ fd.scope.names, x.2 ≠ .cell) (hloc : ∀ x ∈ binds, fd.scope.names.lookup x.1 = some .local)
    (h : ∀ s₁ L, St s L (fun x => binds.reverse.lookup x) [] s₁ → binds.length ≤ s₁.toks →
      wpAny (model prog w) (A.deeper (callEnv fd L f)) (execs body (callEnv fd L f)) (fun fl s' => Q (match fl with | .ret v => v | _ => .none) s') (fun _ _ => False) s₁)
    (hco : fd.scope.isCoroutine = false := by rfl) (hgen : fd.scope.isGenerator = false := by rfl) (hk : fd.scope.kind = .function := by rfl) :
    wpAny (model prog w) A (call (.ref f) vals) Q E s :=
  wpAny_call (codeAny_call_plain hroom ho hdata G.nolimit hcd hbody hbind hcell hloc (fun h₀ hns keep =>
    wpAny_mono (h _ _ ⟨⟨h₀, _, rfl⟩, ⟨hns, keep, Nat.le_refl _⟩, fun _ hp => nomatch hp⟩ (Nat.le_add_left _ _)) (fun _ _ x => x) (fun _ _ x => x.elim)) hco hgen hk)

section
variable {prog : Program} {w : World} {A : Around} {E : Value → Shared → Prop} {s₀ s : Shared} {L : Addr} {m : Str → Option Value} {nw : List (Addr × Obj)} {Q : Value → Shared → Prop} {env : Env}
/-- a written text, its token told -/
theorem cST {x : Str} {l : List Nat} {k pos} (S : St s₀ L m nw s) (hx : x = T l) (h : ∀ s', St s₀ L m nw s' → s'.toks = s.toks + 1 → Q (.str (T l) s.toks) s') : wpAny (model prog w) A (eval (.Constant (.str x) k pos) env) Q E s :=
  wpAny_Constant_str (hx ▸ h _ S.tok rfl)
/-- glued, the token told: the left one's or a new one -/
theorem addST {a b : List Nat} {t : Nat} {u : Tok} (S : St s₀ L m nw s) (ha : a ≠ []) (hz : a.length + b.length ≤ 10000000) (h : ∀ (t' : Nat) s', St s₀ L m nw s' → (t' = t ∨ s.toks ≤ t') → Q (.str (T (a ++ b)) t') s') :
    wpAny (model prog w) A (binaryOp .Add (.str (T a) t) (.str (T b) u)) Q E s := by
  refine P.add_str ?_
  have hx : ((T a).length == 0) = false := by rw [T_len]; simpa using ha
  rw [hx, if_neg Bool.false_ne_true]
  by_cases hy : ((T b).length == 0) = true
  · rw [if_pos hy]
    have hb : b = [] := by rw [T_len] at hy; simpa using hy
    subst hb
    have := h t s S (.inl rfl)
    rw [List.append_nil] at this
    exact this
  · rw [if_neg hy]
    exact ⟨by rw [T_append, T_len, sizeLine_eq, List.length_append]; omega, by rw [T_append]; exact h _ _ S.tok (.inr (Nat.le_refl _))⟩
theorem replaceS {c : Nat} {sep' z : List Nat} {ps : List (List Nat)} {t : Tok} {u v : Nat} (S : St s₀ L m nw s) (G : Gr w s.heap) (hne : ps ≠ []) (hc : ∀ p ∈ ps, c ∉ p) (hu : u ≠ 0) (hv : v ≠ 0) (huv : u ≠ v)
    (hz : (joinL (c :: sep') ps).length ≤ 500000) (hz' : z.length ≤ 10) (h : ∀ t' s', St s₀ L m nw s' → Q (.str (T (joinL z ps)) t') s') :
    wpAny (model prog w) A (call (.builtin "str.replace") [.str (T (joinL (c :: sep') ps)) t, .str (T (c :: sep')) u, .str (T z) v]) Q E s :=
  SC.replaceA hu hv huv (by rw [T_len, T_len]; have : ((joinL (c :: sep') ps).length + 1) * z.length ≤ ((joinL (c :: sep') ps).length + 1) * 10 := Nat.mul_le_mul_left _ hz'; omega)
    (fun t' k => by rw [replace_joinL hne hc]; exact h _ _ S.tok) G.noneBooked
end
end Mine
end

section
open PySem PySem.W PySem.Calls PyProof.Rows
namespace Mine

theorem joinL_len {sep : List Nat} {b : Nat} : ∀ l : List (List Nat), (∀ x ∈ l, x.length ≤ b) → (joinL sep l).length ≤ l.length * (b + sep.length)
  | [], _ => by simp [joinL]
  | [x], h => by
    have := h x (.head _)
    simp only [joinL, List.length_cons, List.length_nil, Nat.zero_add, Nat.one_mul]; omega
  | x :: y :: r, h => by
    have ih := joinL_len (sep := sep) (b := b) (y :: r) fun z hz => h z (.tail _ hz)
    have := h x (.head _)
    rw [joinL_cons, List.length_append, List.length_append, List.length_cons (a := x), Nat.succ_mul]
    omega
theorem sum_len {b : Nat} : ∀ l : List (List Nat), (∀ x ∈ l, x.length ≤ b) → (l.map (·.length)).sum ≤ l.length * b
  | [], _ => by simp
  | x :: r, h => by
    have ih := sum_len (b := b) r fun z hz => h z (.tail _ hz)
    have := h x (.head _)
    rw [List.map_cons, List.sum_cons, List.length_cons, Nat.succ_mul]
    omega
theorem appT_length (t : List Nat) : ∀ l : List (List Nat), (appT t l).length = l.length
  | [] => rfl
  | [_] => rfl
  | x :: y :: r => by show (appT t (y :: r)).length + 1 = _; rw [appT_length t (y :: r)]; rfl
theorem appT_len {t : List Nat} {b : Nat} : ∀ {l : List (List Nat)}, (∀ x ∈ l, x.length ≤ b) → ∀ x ∈ appT t l, x.length ≤ b + t.length
  | [], _, x, hx => by cases hx
  | [y], h, x, hx => by rw [List.mem_singleton.mp hx]; have := h y (.head _); omega
  | y :: z :: r, h, x, hx => by
    rcases List.mem_cons.mp hx with rfl | hx
    · have := h y (.head _); rw [List.length_append]; omega
    · exact appT_len (fun w hw => h w (.tail _ hw)) x hx

theorem laid_eq (mg tl : List Nat) (n : Nat) (ins : List (List Nat)) :
    ((mg ++ [32]) ++ List.replicate n 46 ++ [11]) ++ (((tl ++ [10]) ++ mg) ++ joinL ((tl ++ [10]) ++ mg) (ins ++ [[]])) = joinL [10] ((mg ++ ([32] ++ rowL n) ++ tl) :: appT tl ((ins ++ [[]]).map (mg ++ ·))) := by
  have e1 : mg ++ joinL ((tl ++ [10]) ++ mg) (ins ++ [[]]) = joinL [10] (appT tl ((ins ++ [[]]).map (mg ++ ·))) := by
    rw [joinL_margin _ _ _ (by simp), joinL_appT]
  have ne : appT tl ((ins ++ [[]]).map (mg ++ ·)) ≠ [] := fun e => by
    have := congrArg List.length e
    rw [appT_length] at this
    simp at this
  have e2 : ∀ (y : List Nat) (l : List (List Nat)), l ≠ [] → joinL [10] (y :: l) = y ++ [10] ++ joinL [10] l := fun y l hl => by
    cases l with
    | nil => exact absurd rfl hl
    | cons z r => rfl
  rw [e2 _ _ ne, ← e1]
  unfold rowL
  simp only [List.append_assoc]
theorem dedent_eq (mg tl : List Nat) (n : Nat) (ins : List (List Nat)) (h : ∀ x ∈ ins, x ≠ []) :
    ((mg ++ ([32] ++ rowL n) ++ tl) :: appT tl ((ins ++ [[]]).map (mg ++ ·))).map (List.drop (mg.length + 1)) = appT tl (rowL n :: ins.map (List.drop 1) ++ [[]]) := by
  have := appT_dedent tl mg (([32] ++ rowL n) :: ins) (fun x hx => by
    rcases List.mem_cons.mp hx with rfl | hx
    · simp
    · exact h x hx)
  have e : appT tl ((([32] ++ rowL n) :: ins ++ [[]]).map (mg ++ ·)) = (mg ++ ([32] ++ rowL n) ++ tl) :: appT tl ((ins ++ [[]]).map (mg ++ ·)) := by
    cases ins <;> rfl
  rw [e] at this
  exact this
theorem rowL_sign {n c : Nat} (h : c ∈ rowL n) : c = 46 ∨ c = 11 := by
  unfold rowL at h
  rcases List.mem_append.mp h with h | h
  · exact .inl (List.mem_replicate.mp h).2
  · exact .inr (List.mem_singleton.mp h)
end Mine
end

section
open PySem PySem.W PySem.Calls PyProof.Rows
namespace Mine

section
variable {prog : Program} {w : World} {A : Around} {E : Value → Shared → Prop} {s₀ s : Shared} {L a : Addr} {m : Str → Option Value} {nw : List (Addr × Obj)} {Q : Value → Shared → Prop} {env : Env}
theorem callK {f : Addr} {oc : Value} {od : Option Addr} {osl : Array (Option Value)} {fd : FuncData} {pos : Pos} {e : Expr} {rest : List Expr} (hf : (hd.heap_39 w.params).lookup f = some ⟨oc, od, .func fd, osl⟩)
    (h : wpAny (model prog w) A (spliced (backTo pos (starEach (e :: rest) env))) (fun vs s₁ => Gr w s₁.heap ∧ wpAny (model prog w) A (call (.ref f) vs) Q E s₁) E s)
    (he : starEach (e :: rest) env = (false, eval e env) :: starEach rest env := by rfl) :
    wpAny (model prog w) A (callWith pos (.ref f) [] (backTo pos (starEach (e :: rest) env)) []) Q E s :=
  callWith_def (o := ⟨oc, od, .func fd, osl⟩) (fd := fd) rfl (wpAny_mono h (fun _ _ x => ⟨x.1.kin _ _ hf, x.2⟩) fun _ _ x => x) he
theorem sLT {cn : Str} {cs : Scope} {cd : Value} {x : Str} {v : Value} {Q : Unit → Shared → Prop} (S : St s₀ L m nw s) (h : ∀ s', St s₀ L (fun y => if y = x then some v else m y) nw s' → s'.toks = s.toks + 1 → Q () s')
    (hk : cs.kind = .function := by rfl) (hx : (envOf cn cs L a cd).kindOf x = some .local := by rfl) : wpAny (model prog w) A (storeName (envOf cn cs L a cd) x v) Q E s :=
  stN S.fr S.nw (fun _ F N => h _ (S.mk2 F N) rfl) hk hx
theorem sliceA {value : Expr} {lower upper : Option Expr} {p pos : Pos}
    (h : wpAny (model prog w) A (eval value env) (fun o s₁ => wpAny (model prog w) A (evalPart lower env) (fun vl s₂ => wpAny (model prog w) A (evalPart upper env) (fun vu s₃ => SlicePost o vl vu Q s₃) E s₂) E s₁) E s) :
    wpAny (model prog w) A (eval (.Subscript value (.Slice lower upper none p) pos) env) Q E s := by
  refine Subscript_ (wpAny_mono h (fun o s₁ h₁ => wpAny_Slice (wpAny_mono h₁ (fun vl s₂ h₂ => wpAny_mono h₂ (fun vu s₃ h₃ => evN ?_) fun _ _ e => e) fun _ _ e => e)) fun _ _ e => e)
  obtain ⟨l, items, lo, hi, rfl, hl, hsz, pl, pu, hQ⟩ := h₃
  refine tail_any (ops := [.ref s₃.heap.objs.size, .ref l]) (Heap.IsList.typeIs (s := { s₃ with heap := s₃.heap.push { cls := .type "slice", data := .fields #[vl, vu, .none] } }) (hl.push _)) list_getitem_lookup
    (wpAny_getItem_list_slice (hl.push _) (Heap.IsSliceOf.new ..) pl pu .none (by simp) ?_ hsz) (by with_unfolding_all rfl)
  show Q (.ref (s₃.heap.push _).objs.size) _
  rw [Heap.size_push]
  exact hQ
theorem splitE {e : List Nat} {c : Nat} {sep' : List Nat} {ps : List (List Nat)} {t u : Tok} (he : e = c :: sep') (S : St s₀ L m nw s) (hne : ps ≠ []) (hc : ∀ p ∈ ps, c ∉ p) (hk : Builtin.Str.strKind (T (c :: sep')) = 1) (hz : (joinL e ps).length ≤ 10000000)
    (h : ∀ a s' vs, St s₀ L m ((a, listV vs 0) :: nw) s' → StrsAre vs (ps.map T) → Q (.ref a) s') :
    wpAny (model prog w) A (call (.builtin "str.split") [.str (T (joinL e ps)) t, .str (T e) u]) Q E s := by
  subst he; exact splitS S hne hc hk hz h
theorem max0 {b : Int} {t u : Tok} (S : St s₀ L m nw s) (hh : A.handled = none) (h : ∀ t' s', St s₀ L m nw s' → Q (.int (max 0 b) t') s') : wpAny (model prog w) A (call (.builtin "max") [.int 0 t, .int b u]) Q E s :=
  max_two_ints hh fun h' tk k => by
    by_cases hb : b > 0
    · rw [if_pos hb]
      have := h u _ (S.keeps (kp_mk (tk := tk) k))
      rwa [show max 0 b = b from by omega] at this
    · rw [if_neg hb]
      have := h t _ (S.keeps (kp_mk (tk := tk) k))
      rwa [show max 0 b = 0 from by omega] at this
end

section
variable {prog : Program} {w : World} {A : Around} {Q E : Value → Shared → Prop} {s : Shared}

theorem law_moved_ok {l : Addr} {vs : List Value} {ds : List Nat} {j turn : Int} {tj tk : Tok} (G : Gr w s.heap) (hA : A.depth < 800) (hh : A.handled = none) (hl : s.heap.IsList l vs.toArray) (hi : StrsAre vs (ds.map rowS))
    (hd0 : ∀ d ∈ ds, 0 < d) (hd1 : ∀ d ∈ ds, d ≤ 100) (hn : ds.length ≤ 50) (hj : -10 ≤ j) (hj' : j ≤ 10)
    (hQ : ∀ s' a l' t n vs', Keeps s s' → s.heap.get? a = none → s.heap.get? l' = none → s'.heap.get? a = some (tupV [.int (movedN j ds).1 t, .ref l'] 0) → s'.heap.get? l' = some (listV vs' n) →
      StrsAre vs' ((movedN j ds).2.map rowS) → Q (.ref a) s') :
    wpAny (model prog w) A (call (.ref 81) [.int j tj, .ref l, .int turn tk]) Q E s := by
  have hvn : vs.length = ds.length := by rw [hi.len_eq, List.length_map]
  have hi' : StrsAre vs ((ds.map rowL).map T) := by rw [List.map_map]; exact hi
  refine call_fnT (binds := [(Str.ofString "j", .int j tj), (Str.ofString "rows", .ref l), (Str.ofString "turn", .int turn tk)]) (G.kin 81 _ (Eq.refl (some _))) rfl rfl (Nat.lt_trans hA (by decide)) G (codeRec_of G.kin rfl) rfl (by decide) (locs rfl) fun s₁ L S htk => ?_
  refine wpAny_execs_cons <| wpAny_Assign_Name <| Call_ <| lK S G (Eq.refl (some (some _))) <| callK (Eq.refl (some _)) <| args_cons <| lL S rfl <| args_cons <| lL S rfl <| args_nil ⟨G.st S, ?_⟩
  refine law_typed_ok (G.st S) (by show A.depth + 1 < 900; omega) hh (isList_low S hl) hi' (by rw [List.length_map]; omega) (fun x hx => by
    obtain ⟨d, hd, rfl⟩ := List.mem_map.mp hx
    rw [rowL_len]; have := hd1 d hd; omega) fun s₂ t2 p es k hp hel hes => ?_
  have S := S.keeps k
  have hclean := ins_clean (ds := ds) (p := p)
  have htx := fix_typed hclean hes (by rw [hel, insA_length])
  have htl : (typedL (insA (ds.map rowL) p) es).length ≤ 100000 := by
    have := typedL_len (xs := insA (ds.map rowL) p) (es := es) (b := 101) (fun x hx => ?_) (fun e he => ?_)
    · rw [insA_length, List.length_map] at this
      have h2 : (ds.length + 1) * (101 + 2) ≤ 51 * 103 := Nat.mul_le_mul (by omega) (by decide)
      omega
    · unfold insA at hx
      rcases List.mem_append.mp hx with h | h
      · rcases List.mem_append.mp h with h | h
        · obtain ⟨d, hd, rfl⟩ := List.mem_map.mp (List.mem_of_mem_take h); rw [rowL_len]; have := hd1 d hd; omega
        · rw [List.mem_singleton.mp h]; decide
      · obtain ⟨d, hd, rfl⟩ := List.mem_map.mp (List.mem_of_mem_drop h); rw [rowL_len]; have := hd1 d hd; omega
    · have : ∀ e ∈ endsL, e.length ≤ 2 := by decide
      exact this e (hes e he)
  refine sL S fun s₃ S => ?_
  refine wpAny_execs_cons <| wpAny_Assign_Name <| Call_ <| lK S G (Eq.refl (some (some _))) <| callK (Eq.refl (some _)) <| args_cons <| lL S rfl <| args_nil ⟨G.st S, fix_eols_ok (G.st S) (by show A.depth + 1 < 900; omega) (by omega) fun s₄ t4 k => ?_⟩
  have S := S.keeps k
  refine sL S fun s₅ S => ?_
  refine wpAny_execs_cons <| wpAny_Assign_Name <| Call_ <| lK S G (Eq.refl (some (some _))) <| callK (Eq.refl (some _)) <| args_cons <| lL S rfl <| args_nil ⟨G.st S, quotedata_ok (G.st S) (by show A.depth + 1 < 900; omega) (by omega) fun s₆ t6 k => ?_⟩
  have S := S.keeps k
  refine sL S fun s₇ S => ?_
  rw [htx, quote_join hclean] at S
  have hcnt := count_rows (p := p) hd0
  have hel1 : (joinL [13, 10] (insA (ds.map rowL) p ++ [[]])).length ≤ 200000 := by
    have := fixL_len (typedL (insA (ds.map rowL) p) es)
    rw [htx] at this; omega
  refine wpAny_execs_cons <| wpAny_Assign_Name <| wpAny_BinOp <| Call_ <| lB S G rfl boot_len (by decide) <| PyProof.Rows.callWith_builtin1 <| args_cons <| lL S rfl <| args_nil <| lenS S (by omega) fun t7 s₈ S =>
    Call_ <| lB S G rfl boot_len (by decide) <| PyProof.Rows.callWith_builtin1 <| args_cons <| lL S rfl <| args_nil <| lenS S (by omega) fun t8 s₉ S => subI S fun t9 s₁₀ S => ?_
  rw [show ((joinL [13, 10] ((insA (ds.map rowL) p).map quoteR ++ [[]])).length : Int) - ((joinL [13, 10] (insA (ds.map rowL) p ++ [[]])).length : Int) = (ds.length : Int) from by omega]
  refine sL S fun s₁₁ S => ?_
  have hs1 : (slicePick vs.toArray none (some 1) none).toList = vs.take 1 := by rw [show (some (1 : Int)) = some ((1 : Nat) : Int) from rfl, slicePick_upto']
  refine wpAny_execs_cons <| wpAny_Assign_Name <| Call_ <| lB S G rfl boot_max (by decide) <| PyProof.Rows.callWith_builtin1 <| args_cons <| cI S fun t10 s₁₂ S => args_cons <| wpAny_BinOp <| Call_ <| lB S G rfl boot_len (by decide) <| PyProof.Rows.callWith_builtin1 <| args_cons <|
    MethodCall_ <| cS (l := []) S (by decide +kernel) fun t11 s₁₃ S => meth_str F.slot_str_join F.type_str_join <| PyProof.Rows.callWith_method1 <| args_cons <| sliceL <| lL S rfl <| evN <| evI rfl <| cI S fun t12 s₁₄ S => slice_fin S (isList_low S hl) (by omega) .none (.int _ _) fun a s₁₅ S => ?_
  rw [hs1] at S
  refine args_nil <| joinS (ps := (ds.map rowL).take 1) S (isList_of S (.head _)) (by rw [List.map_take]; exact hi'.take' 1) ?_ fun t13 s₁₆ S => ?_
  · have : (((ds.map rowL).take 1).map T).map (·.length) = ((ds.map rowL).take 1).map (·.length) := by rw [List.map_map]; rfl
    rw [this]
    have h2 := sum_len (b := 101) ((ds.map rowL).take 1) (fun x hx => by
      obtain ⟨d, hd, rfl⟩ := List.mem_map.mp (List.mem_of_mem_take hx); rw [rowL_len]; have := hd1 d hd; omega)
    have h3 : ((ds.map rowL).take 1).length ≤ 1 := by rw [List.length_take]; omega
    have h4 : ((ds.map rowL).take 1).length * 101 ≤ 1 * 101 := Nat.mul_le_mul_right _ h3
    simp only [List.length_nil, Nat.mul_zero]
    omega
  have hj1 : joinL [] ((ds.map rowL).take 1) = if ds = [] then [] else rowL (ds.headD 0) := by
    cases ds with
    | nil => rfl
    | cons d r => rfl
  have hj2 : ((joinL [] ((ds.map rowL).take 1)).length : Int) - 1 = if ds = [] then -1 else (ds.headD 0 : Int) := by
    rw [hj1]
    split
    · rfl
    · rw [rowL_len]; omega
  have hj3 : max 0 (if ds = [] then (-1 : Int) else (ds.headD 0 : Int)) = (ds.headD 0 : Int) := by
    split
    · rename_i h; subst h; rfl
    · omega
  have hhd : ds.headD 0 ≤ 100 := by
    cases ds with
    | nil => decide
    | cons d r => exact hd1 d (.head _)
  have hj4 : (joinL [] ((ds.map rowL).take 1)).length ≤ 101 := by
    have : (0 : Int) ≤ (ds.headD 0 : Int) := Int.natCast_nonneg _
    have h5 : ((joinL [] ((ds.map rowL).take 1)).length : Int) - 1 ≤ 100 := by
      rw [hj2]; split <;> omega
    omega
  refine args_nil <| lenS S (by omega) fun t14 s₁₇ S => cI S fun t15 s₁₈ S => subI S fun t16 s₁₉ S => args_nil <| max0 S hh fun t17 s₂₀ S => ?_
  rw [hj2, hj3]
  refine sL S fun s₂₁ S => ?_
  refine wpAny_execs_cons <| wpAny_If <| wpAny_isTrue_Compare1 <| wpAny_BinOp <| lL S rfl <| wpAny_BinOp <| cI S fun t18 s₂₂ S => lL S rfl <| mulI S (by decide) fun t19 s₂₃ S => addI S fun t20 s₂₄ S => lL S rfl <| P.ge_int <| wpAny_truthy_bool ?_
  by_cases hc : (ds.headD 0 : Int) ≤ (ds.length : Int) + 3 * j
  · rw [if_pos (by simpa using hc)]
    have hmv : movedN j ds = (j - 1, (((ds.length : Int) + 3 * j - 1).toNat :: ds.map (· - 1)).filter (fun d => decide (0 < d))) := if_pos hc
    refine wpAny_execs_cons <| wpAny_Assign_Name <| wpAny_BinOp <| cS (l := [32]) S (by decide +kernel) fun t21 s₂₅ S => wpAny_BinOp <| lL S rfl <| cI S fun t22 s₂₆ S => modI S (by decide) fun t23 s₂₇ S => ?_
    obtain ⟨q, hq, hq3⟩ : ∃ q : Nat, turn.fmod 3 = q ∧ q < 3 := ⟨(turn.fmod 3).toNat, by have := Int.fmod_nonneg_of_pos turn (b := 3) (by decide); omega, by have := Int.fmod_lt_of_pos turn (b := 3) (by decide); omega⟩
    rw [hq]
    refine mulS S (by omega) (by omega) fun t24 s₂₈ S => sLT S fun s₂₉ S k1 => ?_
    rw [Int.toNat_natCast] at S
    refine wpAny_execs_cons <| wpAny_Assign_Name <| Subscript_ <| Tuple_ <| args_cons <| cST (l := [13, 10]) S (by decide +kernel) fun s₃₀ S k2 => args_cons <| cST (l := [10]) S (by decide +kernel) fun s₃₁ S k3 => args_nil <|
      wpAny_with_toks (n := s₃₁.toks) (Nat.le_refl _) <| mkTup S (by simp) fun c s₃₂ S k4 => wpAny_with_toks k4 <| wpAny_BinOp <| lL S rfl <| cI S fun t25 s₃₃ S => modI S (by decide) fun t26 s₃₄ S k5 => ?_
    obtain ⟨q2, hq2, hq22⟩ : ∃ q : Nat, turn.fmod 2 = q ∧ q < 2 := ⟨(turn.fmod 2).toNat, by have := Int.fmod_nonneg_of_pos turn (b := 2) (by decide); omega, by have := Int.fmod_lt_of_pos turn (b := 2) (by decide); omega⟩
    rw [hq2]
    obtain ⟨tl, te, hv, htl', hte1, hte2⟩ : ∃ (tl : List Nat) (te : Nat), [Value.str (T [13, 10]) s₂₉.toks, Value.str (T [10]) s₃₀.toks][q2]? = some (.str (T (tl ++ [10])) te) ∧ (tl = [13] ∨ tl = []) ∧ 1 ≤ te ∧ te < s₃₁.toks := by
      rcases (by omega : q2 = 0 ∨ q2 = 1) with rfl | rfl
      · exact ⟨[13], s₂₉.toks, rfl, .inl rfl, by omega, by omega⟩
      · exact ⟨[], s₃₀.toks, rfl, .inr rfl, by omega, by omega⟩
    refine item_tupleT (k := (q2 : Int)) (j := q2) (isTup_of S (.head _)) (by omega) (by omega) (StrLaws.seqIndex_nonneg (by omega) (by simp; omega)) hv ?_
    refine sLT S fun s₃₅ S k6 => ?_
    have htll : tl.length ≤ 1 := by rcases htl' with rfl | rfl <;> decide
    have hn1 : (ds.length : Int) + 3 * j - 1 ≤ 100 := by omega
    refine wpAny_execs_cons <| wpAny_with_toks (n := te + 1) (by omega) <| wpAny_Assign_Name <| wpAny_BinOp <| wpAny_BinOp <| wpAny_BinOp <| lL S rfl <| cS (l := [32]) S (by decide +kernel) fun t27 s₃₆ S => addS S (by simp; omega) fun t28 s₃₇ S =>
      wpAny_BinOp <| cS (l := [46]) S (by decide +kernel) fun t29 s₃₈ S => wpAny_BinOp <| wpAny_BinOp <| lL S rfl <| wpAny_BinOp <| cI S fun t30 s₃₉ S => lL S rfl <| mulI S (by decide) fun t31 s₄₀ S => addI S fun t32 s₄₁ S => cI S fun t33 s₄₂ S => subI S fun t34 s₄₃ S =>
      mulS S (by omega) (by omega) fun t35 s₄₄ S => addS S (by simp; omega) fun t36 s₄₅ S => cS (l := [11]) S (by decide +kernel) fun t37 s₄₆ S => addS S (by simp; omega) fun t38 s₄₇ S => sL S fun s₄₈ S k7 => ?_
    generalize hnn : ((ds.length : Int) + 3 * j - 1).toNat = n at S
    have hn' : n ≤ 100 := by omega
    have h13 : ∀ x ∈ insA (ds.map rowL) p ++ [[]], 13 ∉ x := fun x hx h => by
      rcases List.mem_append.mp hx with hx | hx
      · rcases ins_sign hx h with h | h | h <;> cases h
      · rw [List.mem_singleton.mp hx] at h; cases h
    have hil : (insA (ds.map rowL) p).length = ds.length + 1 := by rw [insA_length, List.length_map]
    have hxl : ∀ x ∈ insA (ds.map rowL) p, x.length ≤ 101 := fun x hx => by
      unfold insA at hx
      rcases List.mem_append.mp hx with h | h
      · rcases List.mem_append.mp h with h | h
        · obtain ⟨d, hd, rfl⟩ := List.mem_map.mp (List.mem_of_mem_take h); rw [rowL_len]; have := hd1 d hd; omega
        · rw [List.mem_singleton.mp h]; decide
      · obtain ⟨d, hd, rfl⟩ := List.mem_map.mp (List.mem_of_mem_drop h); rw [rowL_len]; have := hd1 d hd; omega
    have hxl' : ∀ x ∈ insA (ds.map rowL) p ++ [[]], x.length ≤ 101 := fun x hx => by
      rcases List.mem_append.mp hx with hx | hx
      · exact hxl x hx
      · rw [List.mem_singleton.mp hx]; decide
    have hrep : (joinL ((tl ++ [10]) ++ List.replicate q 32) (insA (ds.map rowL) p ++ [[]])).length ≤ 10000 := by
      have := joinL_len (sep := (tl ++ [10]) ++ List.replicate q 32) (b := 101) _ hxl'
      have h2 : (insA (ds.map rowL) p ++ [[]]).length * (101 + ((tl ++ [10]) ++ List.replicate q 32).length) ≤ 52 * 105 := Nat.mul_le_mul (by simp [hil]; omega) (by simp; omega)
      omega
    refine wpAny_execs_cons <| wpAny_AugAssign_Name <| lL' S rfl <| wpAny_BinOp <| wpAny_with_toks k7 <| wpAny_BinOp <| lL S rfl <| lL S rfl <| addS S (by simp; omega) fun t39 s₄₉ S k8 => MethodCall_ <| lL S rfl <| meth_str F.slot_str_replace F.type_str_replace <|
      PyProof.Rows.callWith_method1 <| args_cons <| cST (l := [13, 10]) S (by decide +kernel) fun s₅₀ S k9 => args_cons <| wpAny_BinOp <| lL S rfl <| lL S rfl <| addST S (by simp) (by simp; omega) fun t40 s₅₁ S k10 => args_nil ?_
    refine replaceS S (G.st S) (by simp) h13 (by omega) (by omega) (by omega) (by omega) (by simp; omega) fun t41 s₅₂ S => addS S (by simp only [List.length_append, List.length_cons, List.length_nil, List.length_replicate]; omega) fun t42 s₅₃ S => iaddS S (by simp only [List.length_append, List.length_cons, List.length_nil, List.length_replicate]; omega) fun t43 s₅₄ S => sL S fun s₅₅ S => ?_
    rw [laid_eq] at S
    obtain ⟨c0, sep', hee, hc0, hkd⟩ : ∃ c0 sep', tl ++ [10] = c0 :: sep' ∧ (c0 = 13 ∨ c0 = 10) ∧ Builtin.Str.strKind (T (c0 :: sep')) = 1 := by
      rcases htl' with rfl | rfl
      · exact ⟨13, [10], rfl, .inl rfl, by decide +kernel⟩
      · exact ⟨10, [], rfl, .inr rfl, by decide +kernel⟩
    have htl10 : 10 ∉ tl := by rcases htl' with rfl | rfl <;> decide
    obtain ⟨c1, rest, hcr, hc32⟩ : ∃ c1 rest, rowL n ++ tl = c1 :: rest ∧ c1 ≠ 32 := by
      cases n with
      | zero => exact ⟨11, tl, rfl, by decide⟩
      | succ n => exact ⟨46, rowL n ++ tl, by simp [rowL, List.replicate_succ], by decide⟩
    have hy0 : List.replicate q 32 ++ ([32] ++ rowL n) ++ tl = List.replicate (q + 1) 32 ++ c1 :: rest := by
      rw [← hcr, List.replicate_succ']; simp
    have hlines : ∀ x ∈ (List.replicate q 32 ++ ([32] ++ rowL n) ++ tl) :: appT tl ((insA (ds.map rowL) p ++ [[]]).map (List.replicate q 32 ++ ·)), 10 ∉ x := fun x hx h => by
      rcases List.mem_cons.mp hx with rfl | hx
      · rcases List.mem_append.mp h with h | h
        · rcases List.mem_append.mp h with h | h
          · cases (List.mem_replicate.mp h).2
          · rcases List.mem_append.mp h with h | h
            · cases List.mem_singleton.mp h
            · rcases rowL_sign h with h | h <;> cases h
        · exact htl10 h
      · rcases mem_appT hx h with h | ⟨y, hy, h⟩
        · exact htl10 h
        · obtain ⟨z, hz, rfl⟩ := List.mem_map.mp hy
          rcases List.mem_append.mp h with h | h
          · cases (List.mem_replicate.mp h).2
          · rcases List.mem_append.mp hz with hz | hz
            · rcases ins_sign hz h with h | h | h <;> cases h
            · rw [List.mem_singleton.mp hz] at h; cases h
    have hlen : ∀ x ∈ (List.replicate q 32 ++ ([32] ++ rowL n) ++ tl) :: appT tl ((insA (ds.map rowL) p ++ [[]]).map (List.replicate q 32 ++ ·)), x.length ≤ 200 := fun x hx => by
      rcases List.mem_cons.mp hx with rfl | hx
      · simp only [List.length_append, List.length_replicate, List.length_cons, List.length_nil, rowL_len]; omega
      · have := appT_len (t := tl) (b := 110) (fun y hy => by
          obtain ⟨z, hz, rfl⟩ := List.mem_map.mp hy
          rw [List.length_append, List.length_replicate]
          have := hxl' z hz
          omega) x hx
        omega
    have hcount : ((List.replicate q 32 ++ ([32] ++ rowL n) ++ tl) :: appT tl ((insA (ds.map rowL) p ++ [[]]).map (List.replicate q 32 ++ ·))).length ≤ 60 := by
      rw [List.length_cons, appT_length, List.length_map, List.length_append, hil]
      simp only [List.length_cons, List.length_nil]; omega
    have hcount' : (appT tl ((insA (ds.map rowL) p ++ [[]]).map (List.replicate q 32 ++ ·))).length ≤ 60 := by
      rw [List.length_cons] at hcount; omega
    have hz1 := joinL_len (sep := [10]) (b := 200) _ hlen
    have hz2 := Nat.mul_le_mul_right (200 + [10].length) hcount
    have hz3 := sum_len (b := 200) (((List.replicate q 32 ++ ([32] ++ rowL n) ++ tl) :: appT tl ((insA (ds.map rowL) p ++ [[]]).map (List.replicate q 32 ++ ·))).map (·.drop (q + 1))) (fun x hx => by
      obtain ⟨y, hy, rfl⟩ := List.mem_map.mp hx
      have := hlen y hy
      rw [List.length_drop]; omega)
    rw [List.length_map] at hz3
    have hz4 := Nat.mul_le_mul_right 200 hcount
    simp only [List.length_cons (a := 10), List.length_nil] at hz2 hz1
    have hded := dedent_eq (List.replicate q 32) tl n (insA (ds.map rowL) p) (fun x hx => (hclean x hx).1)
    rw [List.length_replicate] at hded
    have hpieces : ∀ x ∈ rowL n :: (insA (ds.map rowL) p).map (List.drop 1) ++ [[11]], c0 ∉ x := fun x hx h => by
      have hbad : c0 = 46 ∨ c0 = 11 ∨ c0 = 97 := by
        rcases List.mem_append.mp hx with hx | hx
        · rcases List.mem_cons.mp hx with rfl | hx
          · rcases rowL_sign h with h | h
            · exact .inl h
            · exact .inr (.inl h)
          · obtain ⟨y, hy, rfl⟩ := List.mem_map.mp hx
            exact ins_sign hy (List.mem_of_mem_drop h)
        · rw [List.mem_singleton.mp hx] at h
          exact .inr (.inl (List.mem_singleton.mp h))
      omega
    have hlast : (joinL (tl ++ [10]) (rowL n :: (insA (ds.map rowL) p).map (List.drop 1) ++ [[11]])).length ≤ 100000 := by
      have := joinL_len (sep := tl ++ [10]) (b := 200) (rowL n :: (insA (ds.map rowL) p).map (List.drop 1) ++ [[11]]) (fun x hx => by
        rcases List.mem_append.mp hx with hx | hx
        · rcases List.mem_cons.mp hx with rfl | hx
          · rw [rowL_len]; omega
          · obtain ⟨y, hy, rfl⟩ := List.mem_map.mp hx
            have := hxl y hy
            rw [List.length_drop]; omega
        · rw [List.mem_singleton.mp hx]; decide)
      have h2 : (rowL n :: (insA (ds.map rowL) p).map (List.drop 1) ++ [[11]]).length * (200 + (tl ++ [10]).length) ≤ 60 * 202 := Nat.mul_le_mul (by simp [hil]; omega) (by simp; omega)
      omega
    refine wpAny_execs_cons <| wpAny_Return_some <| Tuple_ <| args_cons <| wpAny_BinOp <| lL S rfl <| cI S fun t44 s₅₆ S => subI S fun t45 s₅₇ S => args_cons <| compL (s₀ := s) (L := L) (isnt [11]) (fun v y => y = v) hh (by decide) (by decide) rfl (by decide) rfl ?_
    refine MethodCall_ <| wpAny_BinOp <| Call_ <| lK S G (Eq.refl (some (some _))) <| callK (Eq.refl (some _)) <| args_cons <| lL S rfl <| args_nil ⟨G.st S, ?_⟩
    refine dedent_ok (G.st S) (by show A.depth + 1 < 900; omega) hh hy0 hc32 hlines (by omega) (by omega) (fun x hx => by have := hlen x hx; omega) fun s₅₈ t46 k => ?_
    have S := S.keeps k
    have hded' : joinL [10] (((List.replicate q 32 ++ ([32] ++ rowL n) ++ tl) :: appT tl ((insA (ds.map rowL) p ++ [[]]).map (List.replicate q 32 ++ ·))).map (·.drop (q + 1))) = joinL (tl ++ [10]) (rowL n :: (insA (ds.map rowL) p).map (List.drop 1) ++ [[]]) := by
      rw [joinL_appT]; exact congrArg (joinL [10]) hded
    rw [hded']
    have hl0 : (joinL (tl ++ [10]) (rowL n :: (insA (ds.map rowL) p).map (List.drop 1) ++ [[]])).length ≤ 100000 := by
      have := joinL_snoc_app (tl ++ [10]) [11] (rowL n :: (insA (ds.map rowL) p).map (List.drop 1))
      rw [← this, List.length_append] at hlast
      omega
    refine cS (l := [11]) S (by decide +kernel) fun t47 s₅₉ S => addS S (by simp only [List.length_cons, List.length_nil]; omega) fun t48 s₆₀ S => meth_str F.slot_str_split F.type_str_split <| PyProof.Rows.callWith_method1 <| args_cons <| lL S rfl <| args_nil ?_
    rw [joinL_snoc_app]
    refine splitE hee S (by simp) hpieces hkd (by omega) fun b s₆₁ ws S hws => ?_
    have hwl : ws.length = ds.length + 3 := by rw [hws.len_eq]; simp [hil]
    refine ⟨b, ws, _, _, rfl, S, isList_of S (.head _), by omega, ?_, ?_, ?_⟩
    · intro C v s₃ m₃ E' hv hns hm _
      obtain ⟨x, tx, rfl, _⟩ := StrsAre_mem hws v hv
      refine wpAny_tests_one <| wpAny_isTrue_Compare1 <| lC hns hm <| wpAny_Constant_str <| P.ne_str <| wpAny_truthy_bool ⟨?_, _, _, rfl, fun _ _ e => e⟩
      rw [isnt_T, show Str.ofString "\x0b" = T [11] from by decide +kernel]
      rw [Bool.eq_iff_iff, bne_iff_ne, decide_eq_true_eq]; rfl
    · intro C v s₃ m₃ E' hv hp hns hm _
      exact lC hns hm ⟨rfl, kp_rfl⟩
    · intro D nD ys s₆₂ S hF
      have hys := paired_eq hF
      refine args_nil <| mkTup S (by simp) fun g s₆₃ S => ?_
      refine hQ _ g D _ nD ys S.done (S.nw _ (.head _)).2.2 (S.nw _ (.tail _ (.head _))).2.2 (by rw [hmv]; exact S.get (.head _)) (S.get (.tail _ (.head _))) ?_
      rw [hmv, hys]
      have := strs_filter (y := [11]) hws
      rw [laid_rows hd0, List.map_map, ← hnn] at this
      exact this
  · rw [if_neg (by simpa using hc)]
    have hmv : movedN j ds = (j + 1, ds.tail.map (· + 1) ++ List.replicate ((ds.headD 0 : Int) - 3 * j - 2 - ds.tail.length).toNat 1) := if_neg hc
    have hq13 : ∀ q ∈ (insA (ds.map rowL) p).map quoteR ++ [[97, 11]], 13 ∉ q := fun q hq h13 => by
      rcases List.mem_append.mp hq with hq | hq
      · obtain ⟨x, hx, rfl⟩ := List.mem_map.mp hq
        unfold quoteR at h13
        split at h13
        · rcases List.mem_cons.mp h13 with h | h
          · cases h
          · rcases ins_sign hx h with h | h | h <;> cases h
        · rcases ins_sign hx h13 with h | h | h <;> cases h
      · rw [List.mem_singleton.mp hq] at h13
        revert h13; decide
    have hjl : (joinL [13, 10] ((insA (ds.map rowL) p).map quoteR ++ [[97, 11]])).length ≤ 300000 := by
      rw [← joinL_snoc_app, List.length_append]
      simp only [List.length_cons, List.length_nil]; omega
    refine wpAny_execs_nil ?_
    refine wpAny_execs_cons <| wpAny_Assign_Name <| sliceA <| compL (s₀ := s) (L := L) (isnt [97, 11]) (fun v y => y = v) hh (by decide) (by decide) rfl (by decide) rfl ?_ 
    refine MethodCall_ <| wpAny_BinOp <| lL S rfl <| cS (l := [97, 11]) S (by decide +kernel) fun t21 s₂₅ S => addS S (by simp; omega) fun t22 s₂₆ S => meth_str F.slot_str_split F.type_str_split <| PyProof.Rows.callWith_method1 <| args_cons <|
      cS (l := [13, 10]) S (by decide +kernel) fun t23 s₂₇ S => args_nil ?_
    rw [joinL_snoc_app]
    refine splitS S (by simp) hq13 (by decide +kernel) (by omega) fun b s₂₈ ws S hws => ?_
    have hwl : ws.length = ds.length + 2 := by rw [hws.len_eq]; simp [insA_length]
    refine ⟨b, ws, _, _, rfl, S, isList_of S (.head _), by omega, ?_, ?_, ?_⟩
    · intro C v s₃ m₃ E' hv hns hm _
      obtain ⟨x, tx, rfl, _⟩ := StrsAre_mem hws v hv
      refine wpAny_tests_one <| wpAny_isTrue_Compare1 <| lC hns hm <| wpAny_Constant_str <| P.ne_str <| wpAny_truthy_bool ⟨?_, _, _, rfl, fun _ _ e => e⟩
      rw [isnt_T, show Str.ofString "a\x0b" = T [97, 11] from by decide +kernel]
      rw [Bool.eq_iff_iff, bne_iff_ne, decide_eq_true_eq]; rfl
    · intro C v s₃ m₃ E' hv hp hns hm _
      exact lC hns hm ⟨rfl, kp_rfl⟩
    · intro D n ys s₂₉ S hF
      have hys := paired_eq hF
      have hysS : StrsAre ys ((ds.map fun d => rowL (d + 1)).map T) := by
        rw [hys, ← others_rows (p := p) hd0]; exact strs_filter hws
      have hyl : ys.length = ds.length := by rw [hysS.len_eq]; simp
      refine evI rfl <| cI S fun t24 s₃₀ S => evN <| slice_fin S (isList_of S (.head _)) (by omega) (.int _ _) .none fun c s₃₁ S => ?_
      have hs2 : (slicePick ys.toArray (some 1) none none).toList = ys.drop 1 := by rw [show (some (1 : Int)) = some ((1 : Nat) : Int) from rfl, slicePick_from']
      rw [hs2] at S
      refine sL S fun s₃₂ S => ?_
      have hn3 : -100 ≤ (ds.headD 0 : Int) - 3 * j - 2 - ds.tail.length := by rw [List.length_tail]; omega
      have hn4 : (ds.headD 0 : Int) - 3 * j - 2 - ds.tail.length ≤ 1000 := by omega
      refine wpAny_execs_cons <| wpAny_Return_some <| Tuple_ <| args_cons <| wpAny_BinOp <| lL S rfl <| cI S fun t25 s₃₃ S => addI S fun t26 s₃₄ S => args_cons <| wpAny_BinOp <| lL S rfl <| wpAny_BinOp <|
        List_ <| args_cons <| cS (l := [46, 11]) S (by decide +kernel) fun t27 s₃₅ S => args_nil <| mkList S (by simp) fun e s₃₆ S => wpAny_BinOp <| wpAny_BinOp <| wpAny_BinOp <| lL S rfl <| wpAny_BinOp <| cI S fun t28 s₃₇ S => lL S rfl <| mulI S (by decide) fun t29 s₃₈ S =>
        subI S fun t30 s₃₉ S => cI S fun t31 s₄₀ S => subI S fun t32 s₄₁ S => Call_ <| lB S G rfl boot_len (by decide) <| PyProof.Rows.callWith_builtin1 <| args_cons <| lL S rfl <| args_nil <| lenL S (isList_of S (.tail _ (.head _))) (by simp; omega) fun t33 s₄₂ S => subI S fun t34 s₄₃ S => ?_
      rw [show ((ys.drop 1).length : Int) = ds.tail.length from by rw [List.length_drop, List.length_tail, hyl]]
      refine mulL S (S.get (.head _)) (by omega) (by omega) fun f s₄₄ S => addL S (isList_of S (.tail _ (.tail _ (.head _)))) (isList_of S (.head _)) (by rw [List.length_drop, List.length_replicate]; omega) fun g s₄₅ S => args_nil <| mkTup S (by simp) fun h s₄₆ S => ?_
      refine hQ _ h g _ 0 _ S.done (S.nw _ (.head _)).2.2 (S.nw _ (.tail _ (.head _))).2.2 (by rw [hmv]; exact S.get (.head _)) (S.get (.tail _ (.head _))) ?_
      rw [hmv]
      have h1 : StrsAre (ys.drop 1) ((ds.tail.map (· + 1)).map rowS) := by
        have e : (ds.tail.map (· + 1)).map rowS = ((ds.map fun d => rowL (d + 1)).map T).drop 1 := by
          cases ds with
          | nil => rfl
          | cons a r => simp only [List.tail_cons, List.map_cons, List.drop_succ_cons, List.drop_zero, List.map_map]; rfl
        rw [e]
        exact hysS.drop' 1
      have h2 : ∀ k : Nat, StrsAre (List.replicate k (Value.str (T [46, 11]) t27)) ((List.replicate k 1).map rowS) := by
        intro k
        induction k with
        | zero => exact .nil
        | succ k ih => exact .cons (T [46, 11]) t27 ih
      show StrsAre _ (List.map rowS (ds.tail.map (· + 1) ++ List.replicate _ 1))
      rw [List.map_append]
      exact StrsAre_append h1 (h2 _)
end
end Mine
end

section
open PySem PySem.W PySem.Calls PyProof.Rows
namespace Mine

section
variable {prog : Program} {w : World} {A : Around} {E : Value → Shared → Prop} {s : Shared} {Q : Value → Shared → Prop} {env : Env}

/-- a comprehension over a range whose letter is a cell -/
theorem compCell {elt iter : Expr} {k : Str} {pk : Pos} {scope : Scope} {cl : List (Str × Addr)} {pos : Pos} (F : Nat → Value → Prop) (hh : A.handled = none)
    (hclos : closureFor scope env = pure cl) (hkind : scope.kind = .function)
    (hnames : ∀ y ∈ scope.names, y.2 = .local → scope.names.lookup y.1 = some .local)
    (hcf : ∀ n, cellsFrom n scope.names cl = (k, n) :: cl) (hpc : ∀ h, pushCells h scope.names = h.push { cls := .type "cell", data := .cell none })
    (hkc : (relabel scope env).names.lookup k = some .cell)
    (h : wpAny (model prog w) A (eval iter env) (fun xv s₁ => ∃ (r : Addr) (t u v : Tok) (n : Nat), xv = .ref r ∧ IsRange s₁.heap r 0 (n : Int) 1 t u v ∧ n ≤ 1000000 ∧
      (∀ C c i t s₃ (E' : Value → Shared → Prop), i < n → s₃.heap.IsCell c (some (.int (i : Nat) t)) → (∀ b o, s₁.heap.get? b = some o → s₃.heap.get? b = some o) →
        wpAny (model prog w) A (eval elt (compEnvC scope ((k, c) :: cl) C env)) (fun y s₄ => F i y ∧ Keeps s₃ s₄) E' s₃) ∧
      (∀ D m ys s', Keeps s₁ s' → s₁.heap.get? D = none → s'.heap.get? D = some (listV ys m) → ys.length = n → (∀ i y, ys[i]? = some y → F i y) → Q (.ref D) s')) E s)
    (hs : ∀ x, foldedSetIterable iter env x = pure x := by intro _; rfl) :
    wpAny (model prog w) A (eval (.ListComp elt [⟨.Name k pk, iter, [], 0⟩] scope pos) env) Q E s := by
  rw [eval_ListComp]
  refine wpAny_comprehension_free (use := none) rfl hs hclos hkind hnames (wpAny_mono h (fun xv s₁ h₁ => ?_) fun _ _ e => e)
  obtain ⟨r, t, u, v, n, rfl, hr, hn, helt, hQ⟩ := h₁
  have hrs : Builtin.Range.rangeSize 0 (n : Int) 1 = (n : Int) := by rw [rangeSize_nat]; omega
  refine wpAny_pyIter_range hr (small_one (by omega) (by omega) (by omega) (by omega)) ?_
  rw [hrs]
  obtain ⟨I, hI⟩ : ∃ I : Nat, s₁.heap.objs.size = I := ⟨_, rfl⟩
  rw [hI]
  generalize hH1 : s₁.heap.push { cls := .type "range_iterator", data := .fields #[rawInt 0, rawInt (n : Int), rawInt 1] } = H1
  have hit1 : IsRangeIter H1 I (0 + ((0 : Nat) : Int) * 1) ((n : Int) - ((0 : Nat) : Int)) 1 := by
    rw [← hH1, ← hI]
    simpa [IsRangeIter] using Heap.get?_push_size s₁.heap rfl
  have hz1 : H1.objs.size = I + 1 := by rw [← hH1, Heap.size_push, hI]
  have k1 : ∀ b o, s₁.heap.get? b = some o → H1.get? b = some o := fun b o e => hH1 ▸ Heap.get?_push_of_some _ e
  refine wpAny_newObj_type ?_
  dsimp only
  rw [hz1]
  generalize hH2 : H1.push { cls := .type "list", dict := none, data := .seq ([] : List Value).toArray } = H2
  have hz2 : H2.objs.size = I + 2 := by rw [← hH2, Heap.size_push, hz1]
  have k2 : ∀ b o, H1.get? b = some o → H2.get? b = some o := fun b o e => hH2 ▸ Heap.get?_push_of_some _ e
  have hl2 : H2.PlainList (I + 1) #[] := ⟨0, by rw [← hH2, ← hz1]; exact Heap.get?_push_size _ rfl⟩
  simp only [newFunctionEnv, Option.isSome_some, if_true]
  refine wpAny_bind (wpAny_alloc ?_)
  refine wpAny_bind (wpAny_layCells _ (fun name kind cells => by cases hkc : kind == NameKind.cell <;> simp [hkc]) _ _ _ _ ?_)
  dsimp only
  rw [hcf, hpc, Heap.size_push, hz2]
  generalize hH3 : (H2.push { cls := .type "dict", data := .dict #[] }).push { cls := .type "cell", data := .cell none } = H3
  have k3 : ∀ b o, H2.get? b = some o → H3.get? b = some o := fun b o e => hH3 ▸ Heap.get?_push_of_some _ (Heap.get?_push_of_some _ e)
  have hns3 : H3.Ns (I + 2) (fun _ => none) := by rw [← hz2, ← hH3]; exact (Heap.Ns.new H2 (.type "dict")).keeps fun b o e => Heap.get?_push_of_some _ e
  have hc3 : H3.IsCell (I + 3) none := by
    have := Heap.get?_push_size (o := { cls := .type "cell", data := .cell none }) (H2.push { cls := .type "dict", data := .dict #[] }) rfl
    rw [Heap.size_push, hz2, hH3] at this
    exact ⟨_, this, rfl⟩
  refine wpAny_bind ?_
  rw [List.forIn_nil]
  refine wpAny_pure (wpAny_pure ?_)
  have n0 : ∀ {b : Nat}, b < I → b ≠ I := fun h => by omega
  have n1 : ∀ {b : Nat}, b < I → b ≠ I + 1 := fun h => by omega
  have n2 : ∀ {b : Nat}, b < I → b ≠ I + 2 := fun h => by omega
  have n3 : ∀ {b : Nat}, b < I → b ≠ I + 3 := fun h => by omega
  have e01 : I ≠ I + 1 := by omega
  have e02 : I ≠ I + 2 := by omega
  have e03 : I ≠ I + 3 := by omega
  have e12 : I + 1 ≠ I + 2 := by omega
  have e13 : I + 1 ≠ I + 3 := by omega
  have e23 : I + 2 ≠ I + 3 := by omega
  have old : ∀ b o, s₁.heap.get? b = some o → b < I := fun b o e => hI ▸ Heap.lt_size e
  suffices loop : codeAny (model prog w) A (.compLoop (.ListComp elt [⟨.Name k pk, iter, [], 0⟩] scope pos) 0 (.ref I) (.ref (I + 1)) (compEnvC scope ((k, I + 3) :: cl) (I + 2) env)) (compPost (model prog w) A E none Q (.ref (I + 1)) (I + 2)) { s₁ with heap := H3 } from
    codeAny_compStart_list loop ((Walks.range hh I 0 1 n).self 0 _ _ _ (by show IsRangeIter H3 I _ _ 1; exact k3 _ _ (k2 _ _ hit1)) loop)
  have W := Walks.range (prog := prog) (w := w) hh I 0 1 n
  refine codeAny_compLoop_tests
    (fun q s' => ∃ h' tk cv, ∃ ys : List Value, s' = { s₁ with heap := h', toks := tk } ∧ IsRangeIter h' I (0 + ((ys.length : Nat) : Int) * 1) ((n : Int) - ((ys.length : Nat) : Int)) 1 ∧ h'.PlainList (I + 1) ys.toArray ∧ h'.Ns (I + 2) (fun _ => none) ∧ h'.IsCell (I + 3) cv ∧
      (∀ i y, ys[i]? = some y → F i y) ∧ ys.length ≤ n ∧ q = n + 1 - ys.length ∧ (∀ b o, s₁.heap.get? b = some o → h'.get? b = some o)) ?_ (n + 1)
    ⟨H3, s₁.toks, none, [], rfl, k3 _ _ (k2 _ _ hit1), hl2.at (k3 _), hns3, hc3, (by simp), Nat.zero_le _, rfl, fun b o e => k3 _ _ (k2 _ _ (k1 _ _ e))⟩
  rintro q s' ⟨H, tk, cv, ys, rfl, hit, hacc, hns, hcell, hF, hle, rfl, hk⟩
  by_cases hlt : ys.length < n
  · refine W.item ys.length _ _ _ hlt hit fun v h₁ tk₁ hv hit₁ hk₁ => ?_
    obtain ⟨tv, rfl⟩ := hv
    rw [show (0 : Int) + (ys.length : Nat) * 1 = (ys.length : Nat) from by omega]
    have up : ∀ {b o}, b ≠ I → H.get? b = some o → h₁.get? b = some o := fun hb e => hk₁ _ _ (by simpa using hb) e
    have hcell₁ : h₁.IsCell (I + 3) cv := let ⟨o, ho, hd⟩ := hcell; ⟨o, up e03.symm ho, hd⟩
    refine wpAny_assign_Name (wpAny_storeName_cell (by exact hkind) (by exact hkc) (c := I + 3) (by simp [compEnvC]) hcell₁ fun h₂ hc₂ hs₂ => ?_)
    have up₂ : ∀ {b o}, b ≠ I → b ≠ I + 3 → H.get? b = some o → h₂.get? b = some o := fun hb hb' e => hs₂.extBut _ _ hb' (up hb e)
    refine wpAny_tests_nil ?_
    rw [if_pos rfl]
    refine wpAny_mono (helt (I + 2) (I + 3) ys.length tv _ _ hlt hc₂ fun b o e => up₂ (n0 (old b o e)) (n3 (old b o e)) (hk b o e)) (fun y s₄ h₄ => ?_) fun _ _ e => e
    obtain ⟨hFy, h₄, tk₄, rfl, hk₄⟩ := h₄
    refine wpAny_list_append_plain (hsz := by simp only [List.size_toArray]; rw [sizeLine_eq]; omega) (items := ys.toArray) ((hacc.at fun o e => up₂ e01.symm e13 e).at fun o e => hk₄ _ o e) fun h₅ hl₅ hs₅ => ?_
    refine ⟨n + 1 - (ys.length + 1), by omega, h₅, tk₄, some (.int (ys.length : Nat) tv), ys ++ [y], rfl, ?_, by simpa using hl₅, ?_, ?_, ?_, by simp; omega, by simp, ?_⟩
    · rw [List.length_append, List.length_singleton]
      exact hs₅.extBut _ _ e01 (hk₄ _ _ (hs₂.extBut _ _ e03 hit₁))
    · exact (((hns.at' fun o e => up₂ e02.symm e23 e).keeps hk₄)).sameBut hs₅ e12.symm
    · exact (hc₂.keeps hk₄).sameBut hs₅ e13.symm
    · intro i z hz
      rcases Nat.lt_trichotomy i ys.length with hi | hi | hi
      · rw [List.getElem?_append_left hi] at hz; exact hF i z hz
      · subst hi
        rw [List.getElem?_append_right (Nat.le_refl _)] at hz
        simp at hz; subst hz; exact hFy
      · rw [List.getElem?_eq_none (by rw [List.length_append, List.length_singleton]; omega)] at hz; cases hz
    · exact fun b o e => hs₅.extBut _ _ (n1 (old b o e)) (hk₄ _ _ (up₂ (n0 (old b o e)) (n3 (old b o e)) (hk b o e)))
  · have hin : ys.length = n := by omega
    refine W.done _ _ _ (hin ▸ hit) fun h₁ tk₁ hk₁ => ?_
    have up : ∀ {b o}, b ≠ I → H.get? b = some o → h₁.get? b = some o := fun hb e => hk₁ _ _ (by simpa using hb) e
    refine ⟨_, hns.at' fun o e => up e02.symm e, fun h'' hs'' => ?_⟩
    obtain ⟨mm, hd⟩ := hacc
    refine hQ (I + 1) mm ys _ (kp_mk (tk := tk₁) (h' := h'') fun b o e => hs''.extBut _ _ (n2 (old b o e)) (up (n0 (old b o e)) (hk b o e))) (Heap.get?_none_of_le (by rw [hI]; exact Nat.le_succ _)) (hs''.extBut _ _ e12 (up e01.symm hd)) hin hF
end
end Mine
namespace Mine
def maxN : List Int → Int
  | [] => 0
  | x :: r => max x (maxN r)
theorem maxN_mem : ∀ ns : List Int, maxN ns ∈ ns ++ [0]
  | [] => by simp [maxN]
  | x :: r => by
    have := maxN_mem r
    unfold maxN
    rcases Int.le_total x (maxN r) with h | h
    · rw [Int.max_eq_right h]; exact List.mem_cons_of_mem _ this
    · rw [Int.max_eq_left h]; exact List.mem_cons_self
theorem maxN_ge : ∀ (ns : List Int) (a : Int), a ∈ ns ++ [0] → a ≤ maxN ns
  | [], a, h => by simp at h; subst h; exact Int.le_refl _
  | x :: r, a, h => by
    unfold maxN
    rcases List.mem_cons.mp h with rfl | h
    · exact Int.le_max_left _ _
    · exact Int.le_trans (maxN_ge r a h) (Int.le_max_right _ _)
theorem maxN_nonneg (ns : List Int) : 0 ≤ maxN ns := maxN_ge ns 0 (by simp)
theorem maxN_le {b : Int} (hb : 0 ≤ b) : ∀ {ns : List Int}, (∀ x ∈ ns, x ≤ b) → maxN ns ≤ b
  | [], _ => hb
  | x :: r, h => by
    unfold maxN
    have h1 := h x List.mem_cons_self
    have h2 := maxN_le hb (ns := r) fun y hy => h y (List.mem_cons_of_mem _ hy)
    omega
def turnN (ns : List Int) : List Int := (List.range (maxN ns).toNat).map fun (k : Nat) => (((ns.filter fun x => decide (x > (k : Int))).length : Nat) : Int)

section
variable {prog : Program} {w : World} {A : Around} {E : Value → Shared → Prop} {s : Shared} {Q : Value → Shared → Prop} {env : Env} {x : Str} {pos : Pos} {v : Value}
theorem nB (G : Gr w s.heap) (e : nsIn (hd.heap_39 w.params) mainGlobals x = some none) (hv : bootBuiltins x = some v) (hn : x ≠ "__name__") (h : Q v s) (hg : env.globals = mainGlobals := by rfl) (hb : env.builtins = builtinsNs := by rfl)
    (hk : env.scope.kind = .function := by rfl) (hx : env.kindOf x = some .globalImplicit := by rfl) (hd : (x == ("__debug__" : Str)) = false := by decide) :
    wpAny (model prog w) A (eval (.Name x pos) env) Q E s := by
  obtain ⟨p, loose, mg, mb, Tp⟩ := G.top
  refine Name_function_global hk hx (loadGlobal_builtin (env := env) (mg := mg) (mb := mb) ?_ (mg_none_of G.kin Tp.g e) ?_ ((Tp.builtins x hn).trans hv) h) hd
  · rw [hg]; exact Tp.g
  · rw [hb]; exact Tp.b
theorem nC {c : Addr} (hc : env.cells.lookup x = some c) (hv : s.heap.IsCell c (some v)) (h : Q v s) (hk : env.scope.kind = .function := by rfl) (hl : env.kindOf x = some .cell := by rfl) (hd : (x == ("__debug__" : Str)) = false := by decide) :
    wpAny (model prog w) A (eval (.Name x pos) env) Q E s := wpAny_Name (wpAny_loadName_cell hk hl hc hv h) hd
theorem nL {L : Addr} {m : Str → Option Value} (hn : s.heap.Ns L m) (hv : m x = some v) (h : Q v s) (hL : env.locals = L := by rfl) (hk : env.scope.kind = .function := by rfl) (hl : env.kindOf x = some .local := by rfl) (hd : (x == ("__debug__" : Str)) = false := by decide) :
    wpAny (model prog w) A (eval (.Name x pos) env) Q E s := by subst hL; exact wpAny_Name (wpAny_loadName_local hk hl hn hv h) hd

/-- a comprehension over a list, letters of the outside as cells -/
theorem compK {elt iter : Expr} {x : Str} {px : Pos} {ifs : List Expr} {scope : Scope} {cl : List (Str × Addr)} {pos : Pos} (p : Value → Bool) (F : Value → Value → Prop) (hh : A.handled = none)
    (hclos : closureFor scope env = pure cl) (hcell : ∀ y ∈ scope.names, y.2 ≠ .cell) (hkind : scope.kind = .function)
    (hnames : ∀ y ∈ scope.names, y.2 = .local → scope.names.lookup y.1 = some .local) (hx : scope.names.lookup x = some .local)
    (h : wpAny (model prog w) A (eval iter env) (fun xv s₁ => ∃ (a : Addr) (vs : List Value), xv = .ref a ∧ s₁.heap.IsList a vs.toArray ∧ vs.length ≤ 1000000 ∧
      (∀ C v s₃ m₃ (E' : Value → Shared → Prop), v ∈ vs → s₃.heap.Ns C m₃ → m₃ x = some v → (∀ b o, s₁.heap.get? b = some o → s₃.heap.get? b = some o) →
        wpAny (model prog w) A (forIn ifs true fun c r => if r = true then do let ok ← isTrue c (compEnvC scope cl C env) (eval c (compEnvC scope cl C env)); pure (ForInStep.yield ok) else pure (ForInStep.yield r)) (fun ok s₄ => ok = p v ∧ Keeps s₃ s₄) E' s₃) ∧
      (∀ C v s₃ m₃ (E' : Value → Shared → Prop), v ∈ vs → p v = true → s₃.heap.Ns C m₃ → m₃ x = some v → (∀ b o, s₁.heap.get? b = some o → s₃.heap.get? b = some o) →
        wpAny (model prog w) A (eval elt (compEnvC scope cl C env)) (fun y s₄ => F v y ∧ Keeps s₃ s₄) E' s₃) ∧
      (∀ D n ys s', Keeps s₁ s' → s₁.heap.get? D = none → s'.heap.get? D = some (listV ys n) → Paired F (vs.filter p) ys → Q (.ref D) s')) E s)
    (hs : ∀ x, foldedSetIterable iter env x = pure x := by intro _; rfl) :
    wpAny (model prog w) A (eval (.ListComp elt [⟨.Name x px, iter, ifs, 0⟩] scope pos) env) Q E s := by
  refine wpAny_ListComp_free p F hclos hcell hkind hnames hx (wpAny_mono h (fun xv s₁ h₁ => ?_) fun _ _ e => e) hs
  obtain ⟨a, vs, rfl, hl, hz, htests, helt, hQ⟩ := h₁
  refine wpAny_pyIter_list hl ?_
  have hnew : s₁.heap.get? s₁.heap.objs.size = none := Heap.get?_none_of_le (Nat.le_refl _)
  obtain ⟨ol, hol, hcl, nl, hdl⟩ := id hl
  have hla : a < s₁.heap.objs.size := Heap.lt_size hol
  have hit : (Heap.push s₁.heap { cls := .type "list_iterator", data := .fields #[.ref a, .int 0 0] }).get? s₁.heap.objs.size = some _ := Heap.get?_push_size _ rfl
  have mem : ∀ {i : Nat} {v : Value}, vs.toArray[i]? = some v → v ∈ vs := fun e => by
    rw [List.getElem?_toArray] at e; exact List.mem_of_getElem? e
  refine ⟨s₁.heap.objs.size, [s₁.heap.objs.size, a], [s₁.heap.objs.size], vs.toArray.size, _, _, rfl, Walks.list hh _ a (Nat.ne_of_lt hla) vs.toArray, ?_, ?_, ?_, ?_, ?_⟩
  · rw [sizeLine_eq]; simp only [List.size_toArray]; omega
  · exact ⟨⟨_, hit, rfl, rfl⟩, ⟨ol, Heap.get?_push_of_some _ hol, hcl, nl, hdl⟩⟩
  · intro b hb
    show b < (Heap.push s₁.heap _).objs.size
    rw [Heap.size_push]
    rcases List.mem_cons.mp hb with rfl | hb
    · exact Nat.lt_succ_self _
    · rw [List.mem_singleton.mp hb]; exact Nat.lt_succ_of_lt hla
  · have up : ∀ {h : Heap}, (∀ b o, b ∉ [s₁.heap.objs.size] → (Heap.push s₁.heap { cls := .type "list_iterator", data := .fields #[.ref a, .int 0 0] }).get? b = some o → h.get? b = some o) → ∀ b o, s₁.heap.get? b = some o → h.get? b = some o :=
      fun k b o e => k b o (fun hb => by rw [List.mem_singleton.mp hb, hnew] at e; cases e) (Heap.get?_push_of_some _ e)
    exact ⟨fun C i v s₃ m₃ E' _ hP hn hm hk _ => htests C v s₃ m₃ E' (mem hP) hn hm (up hk), fun C i v s₃ m₃ E' _ hP hp hn hm hk _ => helt C v s₃ m₃ E' (mem hP) hp hn hm (up hk)⟩
  · intro D h' tk ys vs' hD _ hpl hlen hP hF hk
    have e1 : vs' = vs := by simpa using list_of_places hlen hP
    subst e1
    obtain ⟨n, hd⟩ := hpl
    have hDs : s₁.heap.get? D = none := by
      cases e : s₁.heap.get? D with
      | none => rfl
      | some o =>
        have : (Heap.push s₁.heap { cls := .type "list_iterator", data := .fields #[.ref a, .int 0 0] }).get? D = some o := Heap.get?_push_of_some _ e
        rw [hD] at this; cases this
    refine hQ D n ys.toList _ (kp_mk (tk := tk) fun b o e => hk b o (fun hb => ?_) (Heap.get?_push_of_some _ e)) hDs hd hF
    rw [List.mem_singleton.mp hb, hnew] at e; cases e

def over (i : Nat) (v : Value) : Bool := match v with | .int x _ => decide (x > (i : Int)) | _ => false
theorem over_len {i : Nat} : ∀ {vs : List Value} {ns : List Int}, IntsAre vs ns → (vs.filter (over i)).length = (ns.filter fun x => decide (x > (i : Int))).length
  | _, _, .nil => rfl
  | _, _, .cons (vs := vs) n t r => by
    have ih := over_len (i := i) r
    rw [List.filter_cons, List.filter_cons]
    show (if decide (n > (i : Int)) = true then _ else _ : List Value).length = _
    by_cases h : decide (n > (i : Int)) = true
    · rw [if_pos h, if_pos h, List.length_cons, List.length_cons, ih]
    · rw [if_neg h, if_neg h, ih]
theorem law_turned_ok {l : Addr} {vs : List Value} {ns : List Int} (G : Gr w s.heap) (hA : A.depth < 900) (hh : A.handled = none) (hl : s.heap.IsList l vs.toArray) (hi : IntsAre vs ns) (hz : vs.length ≤ 1000) (hM : ∀ x ∈ ns, x ≤ 1000)
    (hQ : ∀ s' a us n, Keeps s s' → s.heap.get? a = none → s'.heap.get? a = some (listV us n) → IntsAre us (turnN ns) → Q (.ref a) s') :
    wpAny (model prog w) A (call (.ref 86) [.ref l]) Q E s := by
  refine wpAny_call (codeAny_call_cells (binds := [(Str.ofString "numbers", .ref l)]) (Nat.lt_trans hA (by decide)) (G.kin 86 _ (Eq.refl (some _))) rfl G.nolimit (codeRec_of G.kin rfl) rfl rfl rfl (by intro x hx; rw [List.mem_singleton.mp hx]; exact .inr ⟨rfl, rfl⟩) (fun s₁ C => ?_))
  obtain ⟨oc, hoc, hdc⟩ : s₁.heap.IsCell (s.heap.objs.size + 1) (some (.ref l)) := C.cell (Str.ofString "numbers") _ rfl
  have S : St s s.heap.objs.size _ [(s.heap.objs.size + 1, oc)] s₁ := ⟨C.toInCall.same, ⟨C.toInCall.ns, C.toInCall.keep, C.toInCall.fresh⟩, fun p hp => by
    rw [List.mem_singleton.mp hp]
    exact ⟨hoc, Nat.succ_ne_self _, Heap.get?_none_of_le (Nat.le_succ _)⟩⟩
  have hcN : s₁.heap.IsCell (s.heap.objs.size + 1) (some (.ref l)) := ⟨oc, hoc, hdc⟩
  refine wpAny_mono (Q := fun f s' => Q (match f with | .ret v => v | _ => .none) s') (E := fun _ _ => False) (wpAny_execs_cons <| wpAny_Return_some ?_) (fun _ _ x => x) (fun _ _ x => x.elim)
  have G₁ := G.st S
  have hz' := hi.length
  have h00 := maxN_nonneg ns
  have hM' := maxN_le (b := 1000) (by decide) hM
  refine compCell (cl := [(Str.ofString "numbers", s.heap.objs.size + 1)]) (fun i y => ∃ t, y = .int (((ns.filter fun x => decide (x > (i : Int))).length : Nat) : Int) t) hh rfl rfl (by decide) (fun n => rfl) (fun h => rfl) rfl <|
    Call_ <| nB G₁ rfl boot_range (by decide) <| PyProof.Rows.callWith_type1 <| args_cons <| Call_ <| nB G₁ rfl boot_max (by decide) <| PyProof.Rows.callWith_builtin1 <| args_cons <| wpAny_BinOp <| nC rfl hcN <|
    List_ <| args_cons <| cI S fun t₁ s₂ S => args_nil <| mkList S (by simp) fun b s₃ S => addL S (isList_low S hl) (isList_of S (.head _)) (by simp; omega) fun c s₄ S => args_nil ?_
  refine max_list_N (ns := ns ++ [0]) hh S.fr S.nw (isList_of S (.head _)) (hi.append (.cons 0 t₁ .nil)) (by simp) fun h' M t tk F N hm1 hm2 => ?_
  have hMe : M = maxN ns := Int.le_antisymm (maxN_ge ns M hm1) (hm2 _ (maxN_mem ns))
  subst hMe
  have S := S.mk2 (tk := tk) F N
  refine args_nil <| mk_range1 fun s₅ r t u v k hr => ?_
  have S := S.keeps k
  refine ⟨r, t, u, v, (maxN ns).toNat, rfl, by rw [Int.toNat_of_nonneg h00]; exact hr, by omega, ?_, ?_⟩
  · intro C c i t s₆ E' hi' hc hk
    have G₆ : Gr w s₆.heap := (G.st S).keeps hk
    have hcN₆ : s₆.heap.IsCell (s.heap.objs.size + 1) (some (.ref l)) := ⟨oc, hk _ _ (S.get (by simp)), hdc⟩
    have hl₆ : s₆.heap.IsList l vs.toArray := let ⟨o, ho, r⟩ := isList_low S hl; ⟨o, hk _ _ ho, r⟩
    refine Call_ <| nB G₆ rfl boot_len (by decide) <| PyProof.Rows.callWith_builtin1 <| args_cons <| compK (cl := [(Str.ofString "k", c)]) (over i) (fun v y => y = v) hh rfl (by decide) rfl (by decide) rfl <|
      nC rfl hcN₆ ⟨l, vs, rfl, hl₆, by omega, ?_, ?_, ?_⟩
    · intro C' v s₇ m₃ E'' hv hn hm hk'
      obtain ⟨x, tx, rfl⟩ := hi.all v hv
      have hc₇ : s₇.heap.IsCell c (some (.int i t)) := hc.keeps hk'
      exact wpAny_tests_one <| wpAny_isTrue_Compare1 <| nL hn hm <| nC rfl hc₇ <| P.gt_int <| wpAny_truthy_bool ⟨rfl, kp_rfl⟩
    · intro C' v s₇ m₃ E'' hv _ hn hm hk'
      exact nL hn hm ⟨rfl, kp_rfl⟩
    · intro D n ys s₇ k hD hD' hF
      have he := paired_eq hF
      subst he
      have h2 := List.length_filter_le (over i) vs
      refine args_nil <| call_len_list (items := (vs.filter (over i)).toArray) ⟨_, hD', rfl, n, rfl⟩ (by simp only [List.size_toArray]; omega) ⟨⟨_, by simp only [List.size_toArray]; rw [over_len hi]⟩, kp_trans k (kp_mk fun _ _ e => e)⟩
  · intro D m ys s₆ k hD hD' hlen hF
    have S' := S.add k hD hD'
    refine hQ _ D ys m S'.done ?_ hD' ?_
    · exact (S'.nw _ (.head _)).2.2
    · have key : ∀ (zs : List Value) (j : Nat), (∀ i y, zs[i]? = some y → ∃ t, y = Value.int (((ns.filter fun x => decide (x > (((j + i : Nat) : Nat) : Int))).length : Nat) : Int) t) →
          IntsAre zs ((List.range' j zs.length).map fun (k : Nat) => (((ns.filter fun x => decide (x > (k : Int))).length : Nat) : Int)) := by
        intro zs
        induction zs with
        | nil => intro j _; exact .nil
        | cons z zs ih =>
          intro j h
          obtain ⟨t, rfl⟩ := h 0 z rfl
          refine .cons _ t (ih (j + 1) fun i y e => ?_)
          have := h (i + 1) y e
          rwa [show j + (i + 1) = j + 1 + i from by omega] at this
      have := key ys 0 (fun i y e => by rw [Nat.zero_add]; exact hF i y e)
      rw [hlen, ← List.range_eq_range'] at this
      exact this
end
end Mine
end

section
open PySem PySem.W PySem.Calls PyProof.Rows
namespace Mine

theorem turnN_len (ns : List Int) : (turnN ns).length = (maxN ns).toNat := by unfold turnN; rw [List.length_map, List.length_range]
theorem turnN_mem {ns : List Int} {x : Int} (h : x ∈ turnN ns) : 0 ≤ x ∧ x ≤ ns.length := by
  unfold turnN at h
  obtain ⟨k, _, rfl⟩ := List.mem_map.mp h
  have := List.length_filter_le (fun x => decide (x > (k : Int))) ns
  omega
def colsN (ds : List Nat) : List Int := turnN (ds.map fun (d : Nat) => (d : Int))
def cols2N (j : Int) (ds : List Nat) : List Int :=
  if ((colsN ds).length : Int) ≤ ds.length + 3 * j then (((colsN ds).drop 1 ++ List.replicate ((ds.length : Int) + 3 * j - 1).toNat 0).take ((ds.length : Int) + 3 * j - 1).toNat).map (1 + ·)
  else (((colsN ds).length : Int) - 3 * j - 2) :: (colsN ds).map (· - 1)
/-- the law's rows by columns -/
def bycN (j : Int) (ds : List Nat) : List Nat := (turnN (cols2N j ds)).map Int.toNat

theorem paired_row_ints {ds : List Nat} : ∀ {a b : List Value}, Paired (fun v y => ∀ l t, v = .str (T l) t → ∃ u, y = .int ((l.length : Int) - 1) u) a b → StrsAre a (ds.map rowS) → IntsAre b (ds.map fun (d : Nat) => (d : Int)) := by
  induction ds with
  | nil => intro a b h hs; cases hs; cases h; exact .nil
  | cons d ds ih =>
    intro a b h hs
    cases hs with
    | cons _ t hs =>
      cases h with
      | cons h r =>
        obtain ⟨u, rfl⟩ := h (rowL d) t rfl
        have e : ((rowL d).length : Int) - 1 = (d : Int) := by rw [rowL_len]; omega
        rw [e]
        exact .cons (d : Int) u (ih r hs)
theorem paired_ints' {f : Int → Int} {ns : List Int} : ∀ {a b : List Value}, Paired (fun v y => ∀ i t, v = .int i t → ∃ u, y = .int (f i) u) a b → IntsAre a ns → IntsAre b (ns.map f) := by
  induction ns with
  | nil => intro a b h hs; cases hs; cases h; exact .nil
  | cons d ds ih =>
    intro a b h hs
    cases hs with
    | cons _ t hs =>
      cases h with
      | cons h r =>
        obtain ⟨u, rfl⟩ := h d t rfl
        exact .cons _ u (ih r hs)
theorem paired_ints_rows {ns : List Int} : ∀ {a b : List Value}, Paired (fun v y => ∀ i t, v = .int i t → ∃ u, y = .str (rowS i.toNat) u) a b → IntsAre a ns → StrsAre b ((ns.map Int.toNat).map rowS) := by
  induction ns with
  | nil => intro a b h hs; cases hs; cases h; exact .nil
  | cons d ds ih =>
    intro a b h hs
    cases hs with
    | cons _ t hs =>
      cases h with
      | cons h r =>
        obtain ⟨u, rfl⟩ := h d t rfl
        exact .cons _ u (ih r hs)
theorem filter_all {vs : List Value} : vs.filter (fun _ => true) = vs := List.filter_eq_self.mpr (by simp)

section
variable {prog : Program} {w : World} {A : Around} {Q E : Value → Shared → Prop} {s : Shared}

/-- a letter laid n times -/
theorem mulR {c : Nat} {n : Int} {t u : Tok} (hn : n ≤ 10000000) (hn0 : -10000000 ≤ n) (h : ∀ t' tk, Q (.str (T (List.replicate n.toNat c)) t') { s with toks := tk }) : wpAny (model prog w) A (binaryOp .Mult (.str (T [c]) t) (.int n u)) Q E s := by
  refine SB.mul ⟨?_, fun h1 h2 => ?_, fun h1 h2 => ?_⟩ (fun t' k => by rw [Txt_mul_one]; exact h _ _)
  · simp only [Bool.or_eq_false_iff, decide_eq_false_iff_not]; omega
  · rw [T_len]
    have : 1 ≤ (2 ^ 63 - 1) / n := Int.le_ediv_of_mul_le (by omega) (by omega)
    simp only [List.length_cons, List.length_nil]; omega
  · rw [T_len]
    unfold Builtin.Str.tooLong sizeLine
    simp only [List.length_cons, List.length_nil, decide_eq_false_iff_not]; omega

theorem addR {a b : List Nat} {t u : Tok} (hz : a.length + b.length ≤ 10000000) (h : ∀ t' tk, Q (.str (T (a ++ b)) t') { s with toks := tk }) : wpAny (model prog w) A (binaryOp .Add (.str (T a) t) (.str (T b) u)) Q E s :=
  SB.add (fun t' k => by rw [T_append]; exact h _ _) (by rw [T_len, T_len, sizeLine_eq]; omega)
/-- a comprehension over a list, given a name at once -/
theorem compLA {s₀ : Shared} {L : Addr} {Q : Flow → Shared → Prop} {env : Env} {elt iter : Expr} {x y : Str} {px py : Pos} {ifs : List Expr} {scope : Scope} {pos spos : Pos} (p : Value → Bool) (F : Value → Value → Prop) (hh : A.handled = none)
    (hfree : ∀ y ∈ scope.names, y.2 ≠ .free) (hcell : ∀ y ∈ scope.names, y.2 ≠ .cell) (hkind : scope.kind = .function)
    (hnames : ∀ y ∈ scope.names, y.2 = .local → scope.names.lookup y.1 = some .local) (hx : scope.names.lookup x = some .local)
    (hsw : swapsWith (.ListComp elt [⟨.Name x px, iter, ifs, 0⟩] scope pos) (some (.Name y py)) spos.line env = pure true) (hL : env.locals = L) (hy : env.kindOf y = some .local) (hp : (env.scope.kind == .class || (env.scope.kind == .module && env.locals != env.globals)) = false)
    (h : wpAny (model prog w) A (eval iter env) (fun xv s₁ => ∃ (a : Addr) (vs : List Value) (m : Str → Option Value) (nw : List (Addr × Obj)), xv = .ref a ∧ St s₀ L m nw s₁ ∧ s₁.heap.IsList a vs.toArray ∧ vs.length ≤ 1000000 ∧
      (∀ C v s₃ m₃ (E' : Value → Shared → Prop), v ∈ vs → s₃.heap.Ns C m₃ → m₃ x = some v → (∀ b o, s₁.heap.get? b = some o → s₃.heap.get? b = some o) →
        wpAny (model prog w) A (forIn ifs true fun c r => if r = true then do let ok ← isTrue c (compEnv scope C env) (eval c (compEnv scope C env)); pure (ForInStep.yield ok) else pure (ForInStep.yield r)) (fun ok s₄ => ok = p v ∧ Keeps s₃ s₄) E' s₃) ∧
      (∀ C v s₃ m₃ (E' : Value → Shared → Prop), v ∈ vs → p v = true → s₃.heap.Ns C m₃ → m₃ x = some v → (∀ b o, s₁.heap.get? b = some o → s₃.heap.get? b = some o) →
        wpAny (model prog w) A (eval elt (compEnv scope C env)) (fun y s₄ => F v y ∧ Keeps s₃ s₄) E' s₃) ∧
      (∀ D n ys s', St s₀ L (fun z => if z = y then some (.ref D) else m z) ((D, listV ys n) :: nw) s' → Paired F (vs.filter p) ys → Q .next s')) E s)
    (hs : ∀ x, foldedSetIterable iter env x = pure x := by intro _; rfl) :
    wpAny (model prog w) A (exec (.Assign [.Name y py] (.ListComp elt [⟨.Name x px, iter, ifs, 0⟩] scope pos) spos) env) Q E s := by
  refine wpAny_Assign_ListComp_walk p F hsw hfree hcell hkind hnames hx hy hp (wpAny_mono h (fun xv s₁ h₁ => ?_) fun _ _ e => e) hs
  obtain ⟨a, vs, m, nw, rfl, S, hl, hz, htests, helt, hQ⟩ := h₁
  subst hL
  refine wpAny_pyIter_list hl ?_
  have hnew : s₁.heap.get? s₁.heap.objs.size = none := Heap.get?_none_of_le (Nat.le_refl _)
  obtain ⟨ol, hol, hcl, nl, hdl⟩ := id hl
  have hla : a < s₁.heap.objs.size := Heap.lt_size hol
  have hit : (Heap.push s₁.heap { cls := .type "list_iterator", data := .fields #[.ref a, .int 0 0] }).get? s₁.heap.objs.size = some _ := Heap.get?_push_size _ rfl
  have mem : ∀ {i : Nat} {v : Value}, vs.toArray[i]? = some v → v ∈ vs := fun e => by
    rw [List.getElem?_toArray] at e; exact List.mem_of_getElem? e
  have old : ∀ b o, s₁.heap.get? b = some o → b ∉ [s₁.heap.objs.size] := fun b o e hb => by rw [List.mem_singleton.mp hb, hnew] at e; cases e
  refine ⟨s₁.heap.objs.size, [s₁.heap.objs.size, a], [s₁.heap.objs.size], vs.toArray.size, _, _, m, rfl, Walks.list hh _ a (Nat.ne_of_lt hla) vs.toArray, ?_, ?_, ?_, ?_, S.fr.ns.keeps fun b o e => Heap.get?_push_of_some _ e, ?_, ?_⟩
  · rw [sizeLine_eq]; simp only [List.size_toArray]; omega
  · exact ⟨⟨_, hit, rfl, rfl⟩, ⟨ol, Heap.get?_push_of_some _ hol, hcl, nl, hdl⟩⟩
  · intro b hb
    show b < (Heap.push s₁.heap _).objs.size
    rw [Heap.size_push]
    rcases List.mem_cons.mp hb with rfl | hb
    · exact Nat.lt_succ_self _
    · rw [List.mem_singleton.mp hb]; exact Nat.lt_succ_of_lt hla
  · obtain ⟨o, ho⟩ := S.frame
    exact old _ _ ho
  · have up : ∀ {h : Heap}, (∀ b o, b ∉ [s₁.heap.objs.size] → (Heap.push s₁.heap { cls := .type "list_iterator", data := .fields #[.ref a, .int 0 0] }).get? b = some o → h.get? b = some o) → ∀ b o, s₁.heap.get? b = some o → h.get? b = some o :=
      fun k b o e => k b o (old b o e) (Heap.get?_push_of_some _ e)
    exact ⟨fun C i v s₃ m₃ E' hP hn hm hk _ => htests C v s₃ m₃ E' (mem hP) hn hm (up hk), fun C i v s₃ m₃ E' hP hp hn hm hk _ => helt C v s₃ m₃ E' (mem hP) hp hn hm (up hk)⟩
  · intro D h' tk ys vs' hD _ hpl hlen hP hF hn' hk
    have e1 : vs' = vs := by simpa using list_of_places hlen hP
    subst e1
    obtain ⟨n, hd⟩ := hpl
    have keep : ∀ b o, b ≠ env.locals → s₁.heap.get? b = some o → h'.get? b = some o := fun b o hb e => hk b o hb (old b o e) (Heap.get?_push_of_some _ e)
    have hDs : s₁.heap.get? D = none := by
      cases e : s₁.heap.get? D with
      | none => rfl
      | some o =>
        have : (Heap.push s₁.heap { cls := .type "list_iterator", data := .fields #[.ref a, .int 0 0] }).get? D = some o := Heap.get?_push_of_some _ e
        rw [hD] at this; cases this
    refine hQ D n ys.toList _ (S.mk2 (tk := tk) (h' := h') ⟨hn', fun b o e => keep b o (Nat.ne_of_lt (Nat.lt_of_lt_of_le (Heap.lt_size e) S.fr.above)) (S.fr.keep b o e), S.fr.above⟩ fun q hq => ?_) hF
    rcases List.mem_cons.mp hq with rfl | hq
    · refine ⟨hd, ?_, ?_⟩
      · rintro rfl
        obtain ⟨o', e⟩ := S.frame
        rw [hDs] at e; cases e
      · cases e : s₀.heap.get? D with
        | none => rfl
        | some o' => rw [S.low e] at hDs; cases hDs
    · have := S.nw q hq
      exact ⟨keep _ _ this.2.1 this.1, this.2⟩
theorem ite_mono {α : Type} {M : Model} {p q : Sem α} {Q Q' : α → Shared → Prop} {E E' : Value → Shared → Prop} {s : Shared} {c : Prop} [Decidable c] (h : if c then wpAny M A p Q' E' s else wpAny M A q Q' E' s)
    (hQ : ∀ r s', Q' r s' → Q r s') (hE : ∀ r s', E' r s' → E r s') : if c then wpAny M A p Q E s else wpAny M A q Q E s := by
  split
  · rename_i hc; rw [if_pos hc] at h; exact wpAny_mono h hQ hE
  · rename_i hc; rw [if_neg hc] at h; exact wpAny_mono h hQ hE
theorem zeros_ints {t : Tok} : ∀ q : Nat, IntsAre (List.replicate q (Value.int 0 t)) (List.replicate q 0)
  | 0 => .nil
  | q + 1 => .cons 0 t (zeros_ints q)
theorem law_by_columns_ok {l : Addr} {vs : List Value} {ds : List Nat} {j : Int} {tj : Tok} (G : Gr w s.heap) (hA : A.depth < 800) (hh : A.handled = none) (hl : s.heap.IsList l vs.toArray) (hi : StrsAre vs (ds.map rowS))
    (hd1 : ∀ d ∈ ds, d ≤ 100) (hn : ds.length ≤ 50) (hj : -10 ≤ j) (hj' : j ≤ 10) (hw : ((colsN ds).length : Int) ≤ ds.length + 3 * j → 0 ≤ (ds.length : Int) + 3 * j - 1)
    (hQ : ∀ s' a vs' n, Keeps s s' → s.heap.get? a = none → s'.heap.get? a = some (listV vs' n) → StrsAre vs' ((bycN j ds).map rowS) → Q (.ref a) s') :
    wpAny (model prog w) A (call (.ref 91) [.int j tj, .ref l]) Q E s := by
  have hvn : vs.length = ds.length := by rw [hi.len_eq, List.length_map]
  have hi' : StrsAre vs ((ds.map rowL).map T) := by rw [List.map_map]; exact hi
  refine call_fn (binds := [(Str.ofString "j", .int j tj), (Str.ofString "rows", .ref l)]) (G.kin 91 _ (Eq.refl (some _))) rfl rfl (Nat.lt_trans hA (by decide)) G (codeRec_of G.kin rfl) rfl (by decide) (locs rfl) fun s₁ L S => ?_
  refine wpAny_execs_cons <| wpAny_Assign_Name <| Call_ <| lK S G (Eq.refl (some (some _))) <| callK (Eq.refl (some _)) <| args_cons <| compL (s₀ := s) (L := L) (fun _ => true) (fun v y => ∀ l t, v = .str (T l) t → ∃ u, y = .int ((l.length : Int) - 1) u) hh (by decide) (by decide) rfl (by decide) rfl <|
    lL S rfl ⟨l, vs, _, _, rfl, S, isList_low S hl, by omega, ?_, ?_, ?_⟩
  · intro C v s₃ m₃ E' hv hns hm _
    exact wpAny_tests_nil ⟨rfl, kp_rfl⟩
  · intro C v s₃ m₃ E' hv _ hns hm hk
    obtain ⟨x, tx, rfl, hx⟩ := StrsAre_mem hi' v hv
    obtain ⟨d, hd, rfl⟩ := List.mem_map.mp hx
    have := hd1 d hd
    refine wpAny_BinOp <| Call_ <| lCB ((G.st S).keeps hk) rfl boot_len (by decide) rfl rfl <| PyProof.Rows.callWith_builtin1 <| args_cons <| lC hns hm <| args_nil <| P.len_str (by rw [T_len, rowL_len]; omega) <| wpAny_Constant_int <| P.sub_int ⟨?_, _, _, rfl, fun _ _ e => e⟩
    intro l' t' e
    obtain ⟨e1, e2⟩ := Value.str.inj e
    rw [T_inj] at e1
    subst e1
    exact ⟨_, by rw [T_len]⟩
  · intro D n ys s₂ S hF
    rw [filter_all] at hF
    have hys := paired_row_ints hF hi
    have hyl : ys.length = ds.length := by rw [hys.length, List.length_map]
    have hcl : (colsN ds).length ≤ 100 := by
      unfold colsN
      rw [turnN_len]
      have := maxN_le (b := 100) (by decide) (ns := ds.map fun (d : Nat) => (d : Int)) (fun x hx => by obtain ⟨d, hd, rfl⟩ := List.mem_map.mp hx; have := hd1 d hd; omega)
      omega
    have hcm : ∀ x ∈ colsN ds, 0 ≤ x ∧ x ≤ 50 := fun x hx => by
      have := turnN_mem hx
      rw [List.length_map] at this
      omega
    refine args_nil ⟨G.st S, law_turned_ok (G.st S) (by show A.depth + 1 < 900; omega) hh (isList_of S (.head _)) hys (by omega) (fun x hx => by obtain ⟨d, hd, rfl⟩ := List.mem_map.mp hx; have := hd1 d hd; omega) fun s₃ a us n k ha ha' hus => ?_⟩
    have S := S.add k ha ha'
    have hul : us.length = (colsN ds).length := hus.length
    refine sL S fun s₄ S => ?_
    refine wpAny_execs_cons <| wpAny_Assign_Name <| wpAny_BinOp <| wpAny_BinOp <| Call_ <| lB S G rfl boot_len (by decide) <| PyProof.Rows.callWith_builtin1 <| args_cons <| lL S rfl <| args_nil <| lenL S (isList_low S hl) (by omega) fun t5 s₅ S =>
      wpAny_BinOp <| cI S fun t6 s₆ S => lL S rfl <| mulI S (by decide) fun t7 s₇ S => addI S fun t8 s₈ S => cI S fun t9 s₉ S => subI S fun t10 s₁₀ S => ?_
    rw [hvn]
    refine sL S fun s₁₁ S => ?_
    refine wpAny_execs_cons <| wpAny_If <| wpAny_isTrue_Compare1 <| wpAny_BinOp <| lL S rfl <| cI S fun t12 s₁₂ S => addI S fun t13 s₁₃ S => Call_ <| lB S G rfl boot_len (by decide) <| PyProof.Rows.callWith_builtin1 <| args_cons <| lL S rfl <| args_nil <|
      lenL S (isList_of S (.head _)) (by omega) fun t14 s₁₄ S => P.ge_int <| wpAny_truthy_bool ?_
    rw [hul]
    have hwe : (ds.length : Int) + 3 * j - 1 + 1 = ds.length + 3 * j := by omega
    rw [hwe]
    have hlen2 : ((cols2N j ds).length : Int) ≤ 200 := by
      unfold cols2N
      split
      · rw [List.length_map, List.length_take]; omega
      · rw [List.length_cons, List.length_map]; omega
    have hmem2 : ∀ x ∈ cols2N j ds, x ≤ 200 := by
      unfold cols2N
      split
      · intro x hx
        obtain ⟨y, hy, rfl⟩ := List.mem_map.mp hx
        rcases List.mem_append.mp (List.mem_of_mem_take hy) with h | h
        · have := hcm y (List.mem_of_mem_drop h); omega
        · rw [(List.mem_replicate.mp h).2]; decide
      · intro x hx
        rcases List.mem_cons.mp hx with rfl | hx
        · omega
        · obtain ⟨y, hy, rfl⟩ := List.mem_map.mp hx
          have := hcm y hy; omega
    refine ite_mono (Q' := fun f s' => f = Flow.next ∧ ∃ (c : Addr) (zs : List Value) (n : Nat) (nw : List (Addr × Obj)) (m : Str → Option Value), m (Str.ofString "columns") = some (.ref c) ∧ St s L m ((c, listV zs n) :: nw) s' ∧ IntsAre zs (cols2N j ds)) (E' := fun _ _ => False) ?_ ?_ (fun _ _ x => x.elim)
    · by_cases hc : ((colsN ds).length : Int) ≤ ds.length + 3 * j
      · rw [if_pos (by simpa using hc)]
        have hc2 : cols2N j ds = (((colsN ds).drop 1 ++ List.replicate ((ds.length : Int) + 3 * j - 1).toNat 0).take ((ds.length : Int) + 3 * j - 1).toNat).map (1 + ·) := if_pos hc
        have hw0 := hw hc
        refine wpAny_execs_cons <| compLA (s₀ := s) (L := L) (fun _ => true) (fun v y => ∀ i t, v = .int i t → ∃ u, y = .int (1 + i) u) hh (by decide) (by decide) rfl (by decide) rfl (Eq.refl (pure true)) rfl rfl rfl <|
          sliceA <| wpAny_BinOp <| sliceL <| lL S rfl <| evI rfl <| cI S fun t15 s₁₅ S => evN <| slice_fin S (isList_of S (.head _)) (by omega) (.int _ _) .none fun c s₁₆ S => ?_
        have hs2 : (slicePick us.toArray (some 1) none none).toList = us.drop 1 := by rw [show (some (1 : Int)) = some ((1 : Nat) : Int) from rfl, slicePick_from']
        rw [hs2] at S
        refine wpAny_BinOp <| List_ <| args_cons <| cI S fun t17 s₁₇ S => args_nil <| mkList S (by simp) fun e s₁₈ S => lL S rfl <| mulL S (S.get (.head _)) (by omega) (by omega) fun f s₁₉ S =>
          addL S (isList_of S (.tail _ (.tail _ (.head _)))) (isList_of S (.head _)) (by rw [List.length_drop, List.length_replicate]; omega) fun g s₂₀ S => evN <| evI rfl <| lL S rfl <| slice_fin S (isList_of S (.head _)) (by rw [List.length_append, List.length_drop, List.length_replicate]; omega) .none (.int _ _) fun h s₂₁ S => ?_
        obtain ⟨q, hq⟩ : ∃ q : Nat, (ds.length : Int) + 3 * j - 1 = q := ⟨_, (Int.toNat_of_nonneg hw0).symm⟩
        rw [hq, Int.toNat_natCast, slicePick_upto'] at S
        rw [hq, Int.toNat_natCast] at hc2
        have hzs : IntsAre ((us.drop 1 ++ List.replicate q (Value.int 0 t17)).take q) (((colsN ds).drop 1 ++ List.replicate q 0).take q) := by
          refine IntsAre.take (IntsAre.append (IntsAre.drop hus 1) (zeros_ints q)) q
        refine ⟨h, _, _, _, rfl, S, isList_of S (.head _), by simp only [List.length_take]; omega, ?_, ?_, ?_⟩
        · intro C v s₃ m₃ E' hv hns hm _
          exact wpAny_tests_nil ⟨rfl, kp_rfl⟩
        · intro C v s₃ m₃ E' hv _ hns hm hk
          obtain ⟨i, t, rfl⟩ := hzs.all v hv
          refine wpAny_BinOp <| wpAny_Constant_int <| lC (hns.keeps fun _ _ e => e) hm <| P.add_int ⟨?_, _, _, rfl, fun _ _ e => e⟩
          intro i' t' e
          obtain ⟨e1, e2⟩ := Value.int.inj e
          subst e1
          exact ⟨_, rfl⟩
        · intro D n zs s₂₂ S hF
          rw [filter_all] at hF
          refine wpAny_execs_nil ⟨rfl, D, zs, n, _, _, rfl, S, ?_⟩
          rw [hc2]
          exact paired_ints' hF hzs
      · rw [if_neg (by simpa using hc)]
        have hc2 : cols2N j ds = (((colsN ds).length : Int) - 3 * j - 2) :: (colsN ds).map (· - 1) := if_neg hc
        refine wpAny_execs_cons <| wpAny_Assign_Name <| wpAny_BinOp <| List_ <| args_cons <| wpAny_BinOp <| wpAny_BinOp <| Call_ <| lB S G rfl boot_len (by decide) <| PyProof.Rows.callWith_builtin1 <| args_cons <| lL S rfl <| args_nil <|
          lenL S (isList_of S (.head _)) (by omega) fun t15 s₁₅ S => wpAny_BinOp <| cI S fun t16 s₁₆ S => lL S rfl <| mulI S (by decide) fun t17 s₁₇ S => subI S fun t18 s₁₈ S => cI S fun t19 s₁₉ S => subI S fun t20 s₂₀ S => args_nil <| mkList S (by simp) fun e s₂₁ S => ?_
        refine compL (s₀ := s) (L := L) (fun _ => true) (fun v y => ∀ i t, v = .int i t → ∃ u, y = .int (i - 1) u) hh (by decide) (by decide) rfl (by decide) rfl <|
          lL S rfl ⟨a, us, _, _, rfl, S, isList_of S (.tail _ (.head _)), by omega, ?_, ?_, ?_⟩
        · intro C v s₃ m₃ E' hv hns hm _
          exact wpAny_tests_nil ⟨rfl, kp_rfl⟩
        · intro C v s₃ m₃ E' hv _ hns hm hk
          obtain ⟨i, t, rfl⟩ := hus.all v hv
          refine wpAny_BinOp <| lC hns hm <| wpAny_Constant_int <| P.sub_int ⟨?_, _, _, rfl, fun _ _ e => e⟩
          intro i' t' e
          obtain ⟨e1, e2⟩ := Value.int.inj e
          subst e1
          exact ⟨_, rfl⟩
        · intro D n zs s₂₂ S hF
          rw [filter_all] at hF
          have hzs := paired_ints' hF hus
          have hzl : zs.length ≤ 100 := by rw [hzs.length, List.length_map]; exact hcl
          refine addL S (isList_of S (.tail _ (.head _))) (isList_of S (.head _)) (by simp; omega) fun f s₂₃ S => sL S fun s₂₄ S => wpAny_execs_nil ⟨rfl, f, _, _, _, _, rfl, S, ?_⟩
          rw [hc2, ← hul]
          exact .cons _ _ hzs
    · rintro f s₂₀ ⟨rfl, c, zs, n, nw, m, hm, S, hzs⟩
      have hzl : zs.length = (cols2N j ds).length := hzs.length
      refine wpAny_execs_cons <| wpAny_Return_some <| compL (s₀ := s) (L := L) (fun _ => true) (fun v y => ∀ i t, v = .int i t → ∃ u, y = .str (rowS i.toNat) u) hh (by decide) (by decide) rfl (by decide) rfl <|
        Call_ <| lK S G (Eq.refl (some (some _))) <| callK (Eq.refl (some _)) <| args_cons <| lL S hm <| args_nil ⟨G.st S, law_turned_ok (G.st S) (by show A.depth + 1 < 900; omega) hh (isList_of S (.head _)) hzs (by omega) (fun x hx => by have := hmem2 x hx; omega) fun s₃ b ws n k hb hb' hws => ?_⟩
      have S := S.add k hb hb'
      have hwl : ws.length = (maxN (cols2N j ds)).toNat := by rw [hws.length, turnN_len]
      have hmx := maxN_le (b := 200) (by decide) hmem2
      have hwm : ∀ x ∈ turnN (cols2N j ds), 0 ≤ x ∧ x ≤ 200 := fun x hx => by
        have := turnN_mem hx; omega
      refine ⟨b, ws, _, _, rfl, S, isList_of S (.head _), by omega, ?_, ?_, ?_⟩
      · intro C v s₃ m₃ E' hv hns hm _
        exact wpAny_tests_nil ⟨rfl, kp_rfl⟩
      · intro C v s₃ m₃ E' hv _ hns hm hk
        obtain ⟨i, t, rfl⟩ := hws.all v hv
        have hib : 0 ≤ i ∧ i ≤ 200 := hwm i (by have := hws.nums; rw [← this]; exact List.mem_map.mpr ⟨_, hv, rfl⟩)
        refine wpAny_BinOp <| wpAny_BinOp <| wpAny_Constant_str ?_
        rw [show Str.ofString "." = T [46] from by decide +kernel]
        refine lC (hns.keeps fun _ _ e => e) hm <| mulR (by omega) (by omega) fun t1 k1 => wpAny_Constant_str ?_
        rw [show Str.ofString "\x0b" = T [11] from by decide +kernel]
        refine addR (by simp; omega) fun t2 k2 => ⟨?_, _, _, rfl, fun _ _ e => e⟩
        intro i' t' e
        obtain ⟨e1, e2⟩ := Value.int.inj e
        subst e1
        exact ⟨_, rfl⟩
      · intro D n xs s₂₂ S hF
        rw [filter_all] at hF
        have := paired_ints_rows hF hws
        exact hQ _ D xs n S.done (S.nw _ (.head _)).2.2 (S.get (.head _)) this
end
end Mine
end

section
open PySem PySem.W PySem.Calls PyProof.Rows
namespace Mine
/-- all lists of n numbers under three -/
def rs6 : Nat → List (List Nat)
  | 0 => [[]]
  | n + 1 => (rs6 n).flatMap fun r => [0 :: r, 1 :: r, 2 :: r]
theorem rs6_all : ∀ (n : Nat) (rs : List Nat), rs.length = n → (∀ r ∈ rs, r < 3) → rs ∈ rs6 n
  | 0, [], _, _ => by simp [rs6]
  | n + 1, r :: rs, hl, h => by
    have h1 := rs6_all n rs (by simpa using hl) fun x hx => h x (.tail _ hx)
    have h2 := h r (.head _)
    unfold rs6
    refine List.mem_flatMap.mpr ⟨rs, h1, ?_⟩
    rcases (by omega : r = 0 ∨ r = 1 ∨ r = 2) with rfl | rfl | rfl <;> simp

/-- the turned numbers, over naturals -/
def maxM : List Nat → Nat
  | [] => 0
  | x :: r => if x ≤ maxM r then maxM r else x
def cntM (k : Nat) : List Nat → Nat
  | [] => 0
  | x :: r => bif Nat.blt k x then cntM k r + 1 else cntM k r
def turnM (ns : List Nat) : List Nat := (List.range (maxM ns)).map fun k => cntM k ns
theorem maxM_eq : ∀ ns : List Int, maxM (ns.map Int.toNat) = (maxN ns).toNat
  | [] => rfl
  | x :: r => by
    have ih := maxM_eq r
    have h0 := maxN_nonneg r
    rw [List.map_cons]
    unfold maxM maxN
    rw [ih]
    split <;> omega
theorem cntM_eq (k : Nat) : ∀ ns : List Int, cntM k (ns.map Int.toNat) = (ns.filter fun x => decide (x > (k : Int))).length
  | [] => rfl
  | x :: r => by
    have ih := cntM_eq k r
    rw [List.map_cons, List.filter_cons]
    unfold cntM
    rw [ih]
    by_cases h : x > (k : Int)
    · rw [if_pos (by simpa using h), (by rw [Nat.blt_eq]; omega : Nat.blt k x.toNat = true)]; rfl
    · rw [if_neg (by simpa using h)]
      have : Nat.blt k x.toNat = false := by
        rw [Bool.eq_false_iff]; intro e; rw [Nat.blt_eq] at e; omega
      rw [this]; rfl
theorem turnM_eq (ns : List Int) : turnN ns = (turnM (ns.map Int.toNat)).map fun (k : Nat) => (k : Int) := by
  unfold turnN turnM
  rw [maxM_eq, List.map_map]
  exact List.map_congr_left fun k _ => by rw [Function.comp_apply, cntM_eq]
theorem toNat_cast (ds : List Nat) : (ds.map fun (d : Nat) => (d : Int)).map Int.toNat = ds := by
  rw [List.map_map]
  exact (List.map_congr_left fun d _ => by simp).trans (List.map_id' ds)
theorem colsM_eq (ds : List Nat) : colsN ds = (turnM ds).map fun (k : Nat) => (k : Int) := by
  unfold colsN; rw [turnM_eq, toNat_cast]
/-- the law's rows by columns, over naturals: b rows and a more than needed -/
def cols2M (j : Int) (ds : List Nat) : List Nat :=
  if ((turnM ds).length : Int) ≤ ds.length + 3 * j then (((turnM ds).drop 1 ++ List.replicate ((ds.length : Int) + 3 * j - 1).toNat 0).take ((ds.length : Int) + 3 * j - 1).toNat).map (1 + ·)
  else (((turnM ds).length : Int) - 3 * j - 2).toNat :: (turnM ds).map (· - 1)
theorem cols2M_eq (j : Int) (ds : List Nat) : (cols2N j ds).map Int.toNat = cols2M j ds := by
  unfold cols2N cols2M
  rw [colsM_eq, List.length_map]
  split
  · rw [List.map_map, ← List.map_drop, show List.replicate ((ds.length : Int) + 3 * j - 1).toNat (0 : Int) = (List.replicate ((ds.length : Int) + 3 * j - 1).toNat 0).map (fun (k : Nat) => (k : Int)) from by simp, ← List.map_append, ← List.map_take, List.map_map]
    exact List.map_congr_left fun k _ => by simp only [Function.comp_apply]; omega
  · rw [List.map_cons, List.map_map, List.map_map]
    congr 1
    exact List.map_congr_left fun k _ => by simp only [Function.comp_apply]; omega
theorem bycM_eq (j : Int) (ds : List Nat) : bycN j ds = turnM (cols2M j ds) := by
  unfold bycN
  rw [turnM_eq, toNat_cast, cols2M_eq]

/-- all of it above nought, not over a hundred, not over fifty of them -/
def fitM : List Nat → Bool
  | [] => true
  | d :: r => Nat.ble 1 d && Nat.ble d 100 && fitM r
def eqM : List Nat → List Nat → Bool
  | [], [] => true
  | a :: r, b :: t => Nat.beq a b && eqM r t
  | _, _ => false
theorem fitM_mem : ∀ {l : List Nat}, fitM l = true → ∀ d ∈ l, 0 < d ∧ d ≤ 100
  | x :: r, h, d, hd => by
    unfold fitM at h
    rw [Bool.and_eq_true, Bool.and_eq_true] at h
    rcases List.mem_cons.mp hd with rfl | hd
    · exact ⟨Nat.le_of_ble_eq_true h.1.1, Nat.le_of_ble_eq_true h.1.2⟩
    · exact fitM_mem h.2 d hd
theorem eqM_eq : ∀ {a b : List Nat}, eqM a b = true → a = b
  | [], [], _ => rfl
  | [], _ :: _, h => by cases h
  | _ :: _, [], h => by cases h
  | x :: r, y :: t, h => by
    unfold eqM at h
    rw [Bool.and_eq_true] at h
    rw [Nat.eq_of_beq_eq_true h.1, eqM_eq h.2]
/-- f at n, n reckoned first -/
def force {α : Type} (n : Nat) (f : Nat → α) : α := match n with | 0 => f 0 | k + 1 => f (k + 1)
def forceL {α : Type} : List Nat → (List Nat → α) → α
  | [], f => f []
  | x :: r, f => force x fun x => forceL r fun r => f (x :: r)
theorem force_eq {α : Type} (n : Nat) (f : Nat → α) : force n f = f n := by cases n <;> rfl
theorem forceL_eq {α : Type} : ∀ (l : List Nat) (f : List Nat → α), forceL l f = f l
  | [], _ => rfl
  | x :: r, f => by unfold forceL; rw [force_eq, forceL_eq r]
/-- what the law asks of the rows ds at one j; n: how many columns; c: the columns changed; mj, m: the rows moved -/
def okC (ds : List Nat) (n : Nat) (c : List Nat) (j : Int) (mj : Int) (m : List Nat) : Bool :=
  eqM (turnM c) m && fitM m && Nat.ble m.length 50 && decide (-10 ≤ mj) && decide (mj ≤ 10) && decide ((movedN mj m).1 = j) && eqM (movedN mj m).2 ds && (decide (0 ≤ (ds.length : Int) + 3 * j - 1) || decide (¬ (n : Int) ≤ ds.length + 3 * j))
def cols3M (j : Int) (ds tm : List Nat) : List Nat :=
  if (tm.length : Int) ≤ ds.length + 3 * j then ((tm.drop 1 ++ List.replicate ((ds.length : Int) + 3 * j - 1).toNat 0).take ((ds.length : Int) + 3 * j - 1).toNat).map (1 + ·)
  else ((tm.length : Int) - 3 * j - 2).toNat :: tm.map (· - 1)
def okB (ds tm : List Nat) (j : Int) : Bool := forceL (cols3M j ds tm) fun c => forceL (movedN j ds).2 (okC ds tm.length c j (movedN j ds).1)
def ok5D (ds tm : List Nat) : Bool := fitM ds && Nat.ble ds.length 50 && okB ds tm (-2) && okB ds tm (-1) && (okB ds tm 0 || ds.isEmpty) && okB ds tm 1 && okB ds tm 2
def ok5 (r : List Nat) : Bool := forceL (rowsR r).2 fun ds => forceL (turnM ds) (ok5D ds)
theorem plain0 : ((rs6 5).all fun r => ok5 (0 :: r)) = true := by decide +kernel
theorem plain1 : ((rs6 5).all fun r => ok5 (1 :: r)) = true := by decide +kernel
theorem plain2 : ((rs6 5).all fun r => ok5 (2 :: r)) = true := by decide +kernel
theorem plain (rs : List Nat) (hl : rs.length = 6) (h : ∀ r ∈ rs, r < 3) : ok5 rs = true := by
  cases rs with
  | nil => cases hl
  | cons r rs =>
    have hm := rs6_all 5 rs (by simpa using hl) fun x hx => h x (.tail _ hx)
    have h2 := h r (.head _)
    rcases (by omega : r = 0 ∨ r = 1 ∨ r = 2) with rfl | rfl | rfl
    · exact List.all_eq_true.mp plain0 rs hm
    · exact List.all_eq_true.mp plain1 rs hm
    · exact List.all_eq_true.mp plain2 rs hm

structure Ok (ds : List Nat) (j : Int) : Prop where
  pos : ∀ d ∈ ds, 0 < d
  le : ∀ d ∈ ds, d ≤ 100
  len : ds.length ≤ 50
  byc : bycN j ds = (movedN j ds).2
  pos' : ∀ d ∈ (movedN j ds).2, 0 < d
  le' : ∀ d ∈ (movedN j ds).2, d ≤ 100
  len' : (movedN j ds).2.length ≤ 50
  lo : -10 ≤ (movedN j ds).1
  hi : (movedN j ds).1 ≤ 10
  b1 : (movedN (movedN j ds).1 (movedN j ds).2).1 = j
  b2 : (movedN (movedN j ds).1 (movedN j ds).2).2 = ds
  wide : ((colsN ds).length : Int) ≤ ds.length + 3 * j → 0 ≤ (ds.length : Int) + 3 * j - 1
theorem Ok.of {ds : List Nat} {j : Int} (h1 : fitM ds = true) (h2 : Nat.ble ds.length 50 = true) (h : okB ds (turnM ds) j = true) : Ok ds j := by
  unfold okB okC at h
  rw [forceL_eq, forceL_eq] at h
  simp only [Bool.and_eq_true, decide_eq_true_eq, Bool.or_eq_true] at h
  obtain ⟨⟨⟨⟨⟨⟨⟨h3, h4⟩, h5⟩, h6⟩, h7⟩, h8⟩, h9⟩, h10⟩ := h
  refine ⟨fun d hd => (fitM_mem h1 d hd).1, fun d hd => (fitM_mem h1 d hd).2, Nat.le_of_ble_eq_true h2, ?_, fun d hd => (fitM_mem h4 d hd).1, fun d hd => (fitM_mem h4 d hd).2, Nat.le_of_ble_eq_true h5, h6, h7, h8, eqM_eq h9, fun q => ?_⟩
  · rw [bycM_eq]; exact eqM_eq h3
  · rw [colsM_eq, List.length_map] at q
    exact h10.elim id fun n => absurd q n
theorem plain_ok (rs : List Nat) (hl : rs.length = 6) (h : ∀ r ∈ rs, r < 3) (j : Int) (h1 : -2 ≤ j) (h2 : j ≤ 2) (h0 : j ≠ 0 ∨ (rowsR rs).2 ≠ []) : Ok (rowsR rs).2 j := by
  have := plain rs hl h
  unfold ok5 at this
  rw [forceL_eq, forceL_eq] at this
  unfold ok5D at this
  simp only [Bool.and_eq_true, Bool.or_eq_true] at this
  obtain ⟨⟨⟨⟨⟨⟨f1, f2⟩, a⟩, b⟩, c⟩, d⟩, e⟩ := this
  rcases (by omega : j = -2 ∨ j = -1 ∨ j = 0 ∨ j = 1 ∨ j = 2) with rfl | rfl | rfl | rfl | rfl
  · exact .of f1 f2 a
  · exact .of f1 f2 b
  · rcases h0 with h0 | h0
    · exact absurd rfl h0
    · rcases c with c | c
      · exact .of f1 f2 c
      · exact absurd (List.isEmpty_iff.mp c) h0
  · exact .of f1 f2 d
  · exact .of f1 f2 e
end Mine
end

section
open PySem PySem.W PySem.Calls PyProof.Rows
namespace Mine
noncomputable def lawBody (p : Params) : List Stmt := match (hd.heap_39 p).lookup 98 with | some ⟨_, _, .func fd, _⟩ => (match fd.body with | .stmts b => b | _ => []) | _ => []
noncomputable def lawScope (p : Params) : Scope := match (hd.heap_39 p).lookup 98 with | some ⟨_, _, .func fd, _⟩ => fd.scope | _ => default

section
variable {prog : Program} {w : World} {A : Around} {Q E : Value → Shared → Prop} {s : Shared}
open SeqAt
theorem strOk_row (d : Nat) : PyData.strOk (rowS d) = true := by
  unfold PyData.strOk rowS rowL T
  simp
theorem rows_canLay (ds : List Nat) : PyData.canLayAll0 ((ds.map rowS).map .str) = true := by
  rw [canLayAll_strs', List.all_eq_true]
  intro x hx
  obtain ⟨d, _, rfl⟩ := List.mem_map.mp hx
  exact strOk_row d
theorem rows_shaped (ds : List Nat) : shaped (.list ((ds.map rowS).map .str)) = true := by
  unfold shaped
  rw [PyData.canLay0, rows_canLay, PyData.depth, depthAll_strs']; rfl
theorem pair_shaped (i : Int) (ds : List Nat) : shaped (.tuple [.int i, .list ((ds.map rowS).map .str)]) = true := by
  unfold shaped
  simp only [PyData.canLay0, PyData.canLayAll0, rows_canLay, PyData.depth, PyData.depthAll, depthAll_strs']; rfl
/-- two lists of rows, told apart -/
theorem ne_rows {a b : Addr} {vs ws : List Value} {n n' : Nat} {xs ys : List Nat} (hu : A.units + 64 < cLine) (ha : s.heap.get? a = some (listV vs n)) (hb : s.heap.get? b = some (listV ws n')) (hx : StrsAre vs (xs.map rowS)) (hy : StrsAre ws (ys.map rowS))
    (h : Q (.bool (!PyData.eqv (.list ((xs.map rowS).map .str)) (.list ((ys.map rowS).map .str)))) s) : wpAny (model prog w) A (compareOp .NotEq (.ref a) (.ref b)) Q E s :=
  ne_dataH (.list ha rfl rfl (by simpa using hx.reads s.heap)) (.list hb rfl rfl (by simpa using hy.reads s.heap)) (rows_shaped _) (rows_shaped _) hu h
theorem ne_pairs {a b c d : Addr} {vs ws : List Value} {n n' : Nat} {xs ys : List Nat} {i j : Int} {t u : Tok} (hu : A.units + 64 < cLine) (ha : s.heap.get? a = some (listV vs n)) (hb : s.heap.get? b = some (listV ws n')) (hx : StrsAre vs (xs.map rowS)) (hy : StrsAre ws (ys.map rowS))
    (hc : s.heap.get? c = some (tupV [.int i t, .ref a] 0)) (hd : s.heap.get? d = some (tupV [.int j u, .ref b] 0))
    (h : Q (.bool (!PyData.eqv (.tuple [.int i, .list ((xs.map rowS).map .str)]) (.tuple [.int j, .list ((ys.map rowS).map .str)]))) s) : wpAny (model prog w) A (compareOp .NotEq (.ref c) (.ref d)) Q E s :=
  ne_dataH (.tuple hc rfl rfl (.cons (.int _ _) (.cons (.list ha rfl rfl (by simpa using hx.reads s.heap)) .nil))) (.tuple hd rfl rfl (.cons (.int _ _) (.cons (.list hb rfl rfl (by simpa using hy.reads s.heap)) .nil))) (pair_shaped _ _) (pair_shaped _ _) hu h
theorem St.add2 {s₀ s s' : Shared} {L : Addr} {m : Str → Option Value} {nw : List (Addr × Obj)} (S : St s₀ L m nw s) (k : Keeps s s') {a b : Addr} {o o' : Obj} (h0 : s.heap.get? a = none) (h1 : s'.heap.get? a = some o) (g0 : s.heap.get? b = none) (g1 : s'.heap.get? b = some o') :
    St s₀ L m ((a, o) :: (b, o') :: nw) s' := by
  have S1 := S.add k h0 h1
  have S2 := S.add k g0 g1
  refine ⟨S1.same, S1.fr, fun p hp => ?_⟩
  rcases List.mem_cons.mp hp with rfl | hp
  · exact S1.nw _ (.head _)
  · exact S2.nw p hp

theorem law_body {s₀ s₁ : Shared} {L fa l : Addr} {cd : Value} {m : Str → Option Value} {vs : List Value} {ns : List Int} {Q : Flow → Shared → Prop} (G : Gr w s₀.heap) (hA : A.depth < 700) (hu : A.units + 64 < cLine) (hh : A.handled = none)
    (hl : s₀.heap.IsList l vs.toArray) (hi : IntsAre vs ns) (hz : vs.length ≤ 1000000) (S : St s₀ L m [] s₁) (hm : m (Str.ofString "script") = some (.ref l)) (hQ : ∀ s' m' nw', St s₀ L m' nw' s' → Q (.ret (.bool true)) s') :
    wpAny (model prog w) A (execs (lawBody w.params) (envOf (Str.ofString "law") (lawScope w.params) L fa cd)) Q (fun _ _ => False) s₁ := by
  refine wpAny_execs_cons <| wpAny_Assign_Name <| Call_ <| lK S G (Eq.refl (some (some _))) <| callK (Eq.refl (some _)) <| args_cons <| lL S hm <| args_nil ⟨G.st S, law_rows_ok (G.st S) (by omega) hh (isList_low S hl) hi hz fun s₂ a ts rs k ha ha' hts hrl hr3 => ?_⟩
  have S := S.add k ha ha'
  refine sL S fun s₃ S => ?_
  refine wpAny_execs_cons <| wpAny_Assign_Name <| Call_ <| lB S G rfl boot_sum (by decide) <| PyProof.Rows.callWith_builtin1 <| args_cons <| lL S hm <| args_nil <| sumL S hh (isList_low S hl) hi fun t4 s₄ S => sL S fun s₅ S => ?_
  have htl : ts.length = (rowsR rs).2.length := by rw [hts.len_eq, List.length_map]
  have ht0 : ts.length ≤ 6 := by have := rowsR_len rs; omega
  refine wpAny_execs_cons <| for_range (s₀ := s₀) hh rfl rfl ?_
  refine Call_ <| lB S G rfl boot_range (by decide) <| PyProof.Rows.callWith_type1 <| args_cons <| wpAny_UnaryOp <| cI S fun t6 s₆ S => negI S fun t7 s₇ S => args_cons <| cI S fun t8 s₈ S => args_nil <| mk_range2 fun s₉ r t u v k hr => ?_
  have S := S.keeps k
  refine ⟨r, -2, 3, t, u, v, _, _, fun i m nw => m (Str.ofString "rows") = some (.ref a) ∧ (∃ k t, m (Str.ofString "turn") = some (.int k t)) ∧ nw = [(a, listV ts 0)], rfl, hr, by decide, by decide, by decide, S, NoCls.cons (clsNe (by decide)) .nil, ⟨rfl, ⟨_, _, rfl⟩, rfl⟩, ?_, ?_⟩
  · rintro i tk m₁ nw₁ own s₁₀ hi3 ⟨hr1, ⟨tn, tt, ht1⟩, rfl⟩ S
    have hj1 : -2 ≤ -2 + (i : Int) := by omega
    have hj2 : -2 + (i : Int) ≤ 2 := by omega
    generalize hj : -2 + (i : Int) = j at S hj1 hj2
    have hin : (a, listV ts 0) ∈ own ++ [(a, listV ts 0)] := by simp
    refine wpAny_execs_cons <| wpAny_If <| wpAny_mono (Q := fun b s' => (b = true → j ≠ 0 ∨ (rowsR rs).2 ≠ []) ∧ St s₀ L (fun y => if y = Str.ofString "j" then some (.int j tk) else m₁ y) (own ++ [(a, listV ts 0)]) s') (E := fun _ _ => False) ?_ ?_ (fun _ _ x => x)
    · refine wpAny_isTrue_BoolOp <| wpAny_allTrue_Or_cons <| wpAny_isTrue_Compare1 <| lL S rfl <| cI S fun t11 s₁₁ S => P.ne_int <| wpAny_truthy_bool ?_
      by_cases h0 : j = 0
      · rw [if_neg (by simp [h0])]
        refine wpAny_allTrue_Or_cons <| wpAny_isTrue_Compare1 <| lL S hr1 <| List_ <| args_nil <| mkList S (by simp) fun b s₁₂ S => ne_rows hu (S.get (.tail _ hin)) (S.get (.head _)) hts (ys := []) .nil <| wpAny_truthy_bool ?_
        have S := S.less (nw' := own ++ [(a, listV ts 0)]) fun p hp => .tail _ hp
        by_cases hd : (rowsR rs).2 = []
        · rw [hd, if_neg (by decide)]
          exact wpAny_allTrue_Or_nil ⟨(fun e => nomatch e), S⟩
        · rw [if_pos]
          · exact ⟨fun _ => .inr hd, S⟩
          · cases e : (rowsR rs).2 with
            | nil => exact absurd e hd
            | cons d ds => rfl
      · rw [if_pos (by simp [h0])]
        exact ⟨fun _ => .inl h0, S⟩
    · rintro b s₂₀ ⟨hb, S⟩
      cases b with
      | false =>
        rw [if_neg (by decide)]
        exact wpAny_execs_nil <| wpAny_execs_nil ⟨rfl, _, [(a, listV ts 0)], S, NoCls.cons (clsNe (by decide)) .nil, hr1, ⟨tn, tt, ht1⟩, rfl⟩
      | true =>
        rw [if_pos rfl]
        have O := plain_ok rs hrl hr3 j hj1 hj2 (hb rfl)
        generalize (rowsR rs).2 = ds at O hts htl
        refine wpAny_execs_cons <| wpAny_AugAssign_Name <| lL' S ht1 <| cI S fun t21 s₂₁ S => iaddI S fun t22 s₂₂ S => sL S fun s₂₃ S => ?_
        refine wpAny_execs_cons <| Assign_Tuple <| Call_ <| lK S G (Eq.refl (some (some _))) <| callK (Eq.refl (some _)) <| args_cons <| lL S rfl <| args_cons <| lL S hr1 <| args_cons <| lL S rfl <| args_nil ⟨G.st S, ?_⟩
        refine law_moved_ok (G.st S) (by omega) hh (isList_of S hin) hts O.pos O.le O.len (by omega) (by omega) fun s₂₄ c d t24 n24 vs' k hc hd hc' hd' hvs' => ?_
        have S := S.add2 k hc hc' hd hd'
        refine assign_Tuple_tuple hh (isTup_of S (.head _)) rfl rfl fun h' he => ?_
        have S := S.keeps (kp_mk (tk := s₂₄.toks) fun b o e => he b o (Nat.ne_of_lt (Heap.lt_size e)) e)
        refine assignInOrder_cons <| assign_Name <| sL S fun s₂₅ S => assignInOrder_cons <| assign_Name <| sL S fun s₂₆ S => assignInOrder_nil ?_
        have hin2 : (d, listV vs' n24) ∈ (c, tupV [.int (movedN j ds).1 t24, .ref d] 0) :: (d, listV vs' n24) :: (own ++ [(a, listV ts 0)]) := .tail _ (.head _)
        refine wpAny_execs_cons <| wpAny_If <| wpAny_isTrue_Compare1 <| lL S rfl <| Call_ <| lK S G (Eq.refl (some (some _))) <| callK (Eq.refl (some _)) <| args_cons <| lL S rfl <| args_cons <| lL S hr1 <| args_nil ⟨G.st S, ?_⟩
        refine law_by_columns_ok (G.st S) (by omega) hh (isList_of S (.tail _ (.tail _ hin))) hts O.le O.len (by omega) (by omega) O.wide fun s₂₇ e ws n27 k he he' hws => ?_
        have S := S.add k he he'
        rw [O.byc] at hws
        refine ne_rows hu (S.get (.tail _ hin2)) (S.get (.head _)) hvs' hws <| wpAny_truthy_bool ?_
        rw [SeqAt.eqv_refl _ (SeqAt.canLay_of_shaped (rows_shaped _)), if_neg (by decide)]
        refine wpAny_execs_nil ?_
        refine wpAny_execs_cons <| wpAny_If <| wpAny_isTrue_Compare1 <| Call_ <| lK S G (Eq.refl (some (some _))) <| callK (Eq.refl (some _)) <| args_cons <| lL S rfl <| args_cons <| lL S rfl <| args_cons <| wpAny_BinOp <| lL S rfl <| cI S fun t28 s₂₈ S => addI S fun t29 s₂₉ S => args_nil ⟨G.st S, ?_⟩
        refine law_moved_ok (G.st S) (by omega) hh (isList_of S (.tail _ hin2)) hvs' O.pos' O.le' O.len' O.lo O.hi fun s₃₀ f g t30 n30 ws' k hf hg hf' hg' hws' => ?_
        have S := S.add2 k hf hf' hg hg'
        rw [O.b1] at S
        rw [O.b2] at hws'
        refine Tuple_ <| args_cons <| lL S rfl <| args_cons <| lL S hr1 <| args_nil <| mkTup S (by simp) fun q s₃₁ S => ?_
        refine ne_pairs hu (S.get (.tail _ (.tail _ (.head _)))) (S.get (.tail _ (.tail _ (.tail _ (.tail _ (.tail _ (.tail _ hin))))))) hws' hts (S.get (.tail _ (.head _))) (S.get (.head _)) <| wpAny_truthy_bool ?_
        rw [SeqAt.eqv_refl _ (SeqAt.canLay_of_shaped (pair_shaped _ _)), if_neg (by decide)]
        have S := S.less (nw' := own ++ [(a, listV ts 0)]) fun p hp => .tail _ (.tail _ (.tail _ (.tail _ (.tail _ (.tail _ hp)))))
        exact wpAny_execs_nil <| wpAny_execs_nil <| wpAny_execs_nil ⟨rfl, _, [(a, listV ts 0)], S, NoCls.cons (clsNe (by decide)) .nil, hr1, ⟨_, _, rfl⟩, rfl⟩
  · rintro m' nw' s' S -
    exact wpAny_execs_cons <| wpAny_Return_some <| wpAny_Constant_bool (hQ _ _ _ S)
end
end Mine
end

open PySem PySem.W PyProof.Rows
theorem PySem.Challenge.cw_sc0021_01_holds : PySem.Challenge.rw_sc0021_01.Holds := by
  refine Mine.hd (by
    k_go0
    refine wpAny_mono (Mine.law_body (Q := fun f s' => f = .ret (.bool true) ∧ ∃ m nw, Mine.St _ _ m nw s') (m := _) ⟨by assumption, _, _, _, _, topRead_of (by assumption)⟩ ?hA ?hu rfl (by assumption) (by assumption) ?hz ⟨⟨_, _, rfl⟩, by assumption, by assumption⟩ rfl (fun _ m nw S => ⟨rfl, m, nw, S⟩)) ?_ (fun _ _ x => x.elim)
    case hA => exact (by decide : callerA.depth + 1 < 700)
    case hu => units_room
    case hz =>
      rename IntsAre _ _ => hI
      rw [IntsAre.length hI]; omega
    rintro f s ⟨rfl, m, nw, ⟨h, tk, rfl⟩, F, N⟩
    wrow_close)
