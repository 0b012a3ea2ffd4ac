import PyProof.Rows.All
import Wide.All
import OpenK.AllK
import Wide.FinOn
import PySem.Challenge.RW_ti0047_01
set_option Elab.async false

section
open PySem hiding Frame Outcome
open PySem.Sre
set_option Elab.async false
set_option maxRecDepth 100000
namespace Mine
/-! the runs of the matcher: what a search ends with -/
theorem runFor_done {m : M} (h : m.outcome.isSome = true) : ∀ n, M.runFor n m = m := by
  intro n; cases n with
  | zero => rfl
  | succ n => unfold M.runFor; rw [if_pos h]
theorem runFor_succ {m : M} (n : Nat) (h : m.outcome.isSome = false) : M.runFor (n + 1) m = M.runFor n m.step := by
  rw [M.runFor, if_neg (by rw [h]; exact Bool.false_ne_true)]
theorem runFor_add : ∀ (n k : Nat) (m : M), M.runFor (n + k) m = M.runFor k (M.runFor n m) := by
  intro n
  induction n with
  | zero => intro k m; rw [Nat.zero_add]; rfl
  | succ n ih =>
    intro k m
    cases h : m.outcome.isSome with
    | true => rw [runFor_done h, runFor_done h, runFor_done h]
    | false => rw [show n + 1 + k = (n + k) + 1 by omega, runFor_succ _ h, runFor_succ _ h, ih]
/-- the machine ends, within n steps, in r -/
noncomputable def Ends (n : Nat) (m r : M) : Prop := M.runFor n m = r ∧ r.outcome.isSome = true
theorem Ends.more {n k : Nat} {m r : M} (h : Ends n m r) (hk : n ≤ k) : Ends k m r := by
  obtain ⟨j, rfl⟩ := Nat.exists_eq_add_of_le hk
  exact ⟨by rw [runFor_add, h.1, runFor_done h.2], h.2⟩
theorem Ends.step {n : Nat} {m r : M} (ho : m.outcome.isSome = false) (h : Ends n m.step r) : Ends (n + 1) m r := ⟨by rw [runFor_succ _ ho]; exact h.1, h.2⟩
theorem Ends.now {m : M} (h : m.outcome.isSome = true) : Ends 0 m m := ⟨rfl, h⟩
-- the three codes
noncomputable def c1 : Array Nat := #[14, 4, 0, 1, 1, 6, 1, 16, 46, 1]
noncomputable def c3 : Array Nat := #[14, 9, 4, 1, 2, 16, 10, 16, 13, 0, 7, 7, 16, 13, 16, 10, 15, 18, 5, 16, 10, 15, 13, 11, 16, 13, 5, 5, 0, 16, 10, 1, 15, 2, 0, 1]
end Mine
end
section
open PySem hiding Frame Outcome
open PySem.Sre
set_option Elab.async false
set_option maxRecDepth 100000
namespace Mine
noncomputable def ms (code text : Array Nat) (lim start last : Nat) (must : Bool) (pc pos handed : Nat) (om : Bool) (fr : List Frame) (wt : Nat) (ans : Option Bool) (seen : Seen) (out : Option Outcome) : M :=
  { code, text, lim, start, lastStart := last, wholeText := false, mustAdvance := must, pc, pos, handed, outermost := om, marks := #[], lastmark := -1, lastindex := -1, loops := #[], inner := none, frames := fr, weight := wt, answer := ans, seen, outcome := out }
/-- the answer is there and no frame waits: the end -/
theorem ms_end {code text : Array Nat} {lim start last : Nat} {must : Bool} {pc pos handed : Nat} {om : Bool} {wt : Nat} {b : Bool} {seen : Seen} :
    ∃ r, Ends 1 (ms code text lim start last must pc pos handed om [] wt (some b) seen none) r ∧ r.outcome = some (if b then .matched else .failed) ∧ r.start = start ∧ r.handed = handed ∧ r.lastmark = -1 ∧ r.marks = #[] :=
  ⟨_, .step rfl (.now rfl), rfl, rfl, rfl, rfl, rfl⟩
noncomputable def fr0 (pc s : Nat) (om : Bool) : Frame := { wait := .nextStart, pc := pc, pos := s, outermost := om }
section p1
variable {text : Array Nat} {lim start last s : Nat} {must om : Bool} {seen : Seen} {hd : Nat}
noncomputable def seenAt (seen : Seen) : Seen := (seen.add 6).add 44
theorem p1_at : (ms c1 text lim s last must 5 s s om [fr0 5 s om] 1 none seen none).step =
    if (s == 0 || text.getD (s - 1) 0 == 10) = true then ms c1 text lim s last must 7 s s om [fr0 5 s om] 1 none (seenAt seen) none
    else ms c1 text lim s last must 5 s s om [fr0 5 s om] 1 (some false) (seenAt seen) none := rfl
theorem p1_lit : (ms c1 text lim s last must 7 s s om [fr0 5 s om] 1 none seen none).step =
    if s ≥ lim then ms c1 text lim s last must 7 s s om [fr0 5 s om] 1 (some false) (seen.add 16) none
    else if (text.getD s 0 == 46) = true then ms c1 text lim s last must 9 (s + 1) s om [fr0 5 s om] 1 none (seen.add 16) none
    else ms c1 text lim s last must 7 s s om [fr0 5 s om] 1 (some false) (seen.add 16) none := by
  show (if s ≥ lim then _ else match (Except.ok (text.getD s 0 == 46, seen.add 16) : Except String (Bool × Seen)) with
    | .error why => _
    | .ok (false, seen) => _
    | .ok (true, seen) => _) = _
  cases h : (text.getD s 0 == 46) <;> rfl
theorem p1_ok : (ms c1 text lim s last false 9 (s + 1) s om [fr0 5 s om] 1 none seen none).step = ms c1 text lim s last false 9 (s + 1) (s + 1) om [fr0 5 s om] 1 (some true) (seen.add 1) none := by
  cases om <;> rfl
theorem p1_yes {h pc pos : Nat} : (ms c1 text lim s last must pc pos h om [fr0 5 s om] 1 (some true) seen none).step = ms c1 text lim s last must 5 s h om [] 0 (some true) seen none := rfl
theorem p1_no {pc pos h : Nat} : (ms c1 text lim s last must pc pos h om [fr0 5 s om] 1 (some false) seen none).step =
    if s < last then ms c1 text lim (s + 1) last false 5 (s + 1) (s + 1) false [fr0 5 (s + 1) false] 1 none seen none else ms c1 text lim s last must 5 s h om [] 0 (some false) seen none := rfl
end p1
noncomputable def atL (text : Array Nat) (s : Nat) : Bool := s == 0 || text.getD (s - 1) 0 == 10
/-- the next dot at a row's beginning -/
noncomputable def find1 (text : Array Nat) : Nat → Nat → Option Nat
  | 0, _ => none
  | k + 1, s => if atL text s && text.getD s 0 == 46 then some s else find1 text k (s + 1)
/-- what a search's end says -/
noncomputable def Says (r : M) : Option (Nat × Nat) → Prop
  | some (b, e) => r.outcome = some .matched ∧ r.start = b ∧ r.handed = e
  | none => r.outcome = some .failed
theorem Ends.two {n : Nat} {m m' r : M} (ho : m.outcome.isSome = false) (e : m.step = m') (h : Ends n m' r) : Ends (n + 1) m r := .step ho (e ▸ h)
section
variable {text : Array Nat} {lim start last s : Nat} {must om : Bool} {seen : Seen} {pc pos h : Nat}
theorem p1_at_yes (h : atL text s = true) : (ms c1 text lim s last must 5 s s om [fr0 5 s om] 1 none seen none).step = ms c1 text lim s last must 7 s s om [fr0 5 s om] 1 none (seenAt seen) none := by
  rw [p1_at]; exact if_pos h
theorem p1_at_no (h : atL text s = false) : (ms c1 text lim s last must 5 s s om [fr0 5 s om] 1 none seen none).step = ms c1 text lim s last must 5 s s om [fr0 5 s om] 1 (some false) (seenAt seen) none := by
  rw [p1_at]; exact if_neg (by rw [show (s == 0 || text.getD (s - 1) 0 == 10) = false from h]; decide)
theorem p1_lit_out (h : s ≥ lim) : (ms c1 text lim s last must 7 s s om [fr0 5 s om] 1 none seen none).step = ms c1 text lim s last must 7 s s om [fr0 5 s om] 1 (some false) (seen.add 16) none := by rw [p1_lit, if_pos h]
theorem p1_lit_yes (h : ¬ s ≥ lim) (q : (text.getD s 0 == 46) = true) : (ms c1 text lim s last must 7 s s om [fr0 5 s om] 1 none seen none).step = ms c1 text lim s last must 9 (s + 1) s om [fr0 5 s om] 1 none (seen.add 16) none := by rw [p1_lit, if_neg h, if_pos q]
theorem p1_lit_no (h : ¬ s ≥ lim) (q : (text.getD s 0 == 46) = false) : (ms c1 text lim s last must 7 s s om [fr0 5 s om] 1 none seen none).step = ms c1 text lim s last must 7 s s om [fr0 5 s om] 1 (some false) (seen.add 16) none := by rw [p1_lit, if_neg h, if_neg (by rw [q]; exact Bool.false_ne_true)]
theorem p1_no_more (q : s < last) : (ms c1 text lim s last must pc pos h om [fr0 5 s om] 1 (some false) seen none).step = ms c1 text lim (s + 1) last false 5 (s + 1) (s + 1) false [fr0 5 (s + 1) false] 1 none seen none := by rw [p1_no, if_pos q]
theorem p1_no_end (q : ¬ s < last) : (ms c1 text lim s last must pc pos h om [fr0 5 s om] 1 (some false) seen none).step = ms c1 text lim s last must 5 s h om [] 0 (some false) seen none := by rw [p1_no, if_neg q]
end
theorem p1_run (text : Array Nat) (lim : Nat) : ∀ (k s : Nat) (om : Bool) (seen : Seen), s + k = lim →
    ∃ n r, n ≤ 5 * k + 6 ∧ Ends n (ms c1 text lim s lim false 5 s s om [fr0 5 s om] 1 none seen none) r ∧ Says r ((find1 text k s).map fun i => (i, i + 1)) := by
  intro k
  induction k with
  | zero =>
    intro s om seen hs
    obtain rfl : s = lim := by omega
    have fin : ∀ pc sn, ∃ n r, n ≤ 2 ∧ Ends n (ms c1 text s s s false pc s s om [fr0 5 s om] 1 (some false) sn none) r ∧ Says r none := fun pc sn => by
      obtain ⟨r, h1, h2, _⟩ := @ms_end c1 text s s s false 5 s s om 0 false sn
      exact ⟨2, r, Nat.le_refl _, .two rfl (p1_no_end (Nat.lt_irrefl _)) h1, h2⟩
    cases h : atL text s with
    | false =>
      obtain ⟨n, r, hn, h1, h2⟩ := fin 5 (seenAt seen)
      exact ⟨n + 1, r, by omega, .two rfl (p1_at_no h) h1, h2⟩
    | true =>
      obtain ⟨n, r, hn, h1, h2⟩ := fin 7 ((seenAt seen).add 16)
      exact ⟨n + 2, r, by omega, .two rfl (p1_at_yes h) (.two rfl (p1_lit_out (Nat.le_refl _)) h1), h2⟩
  | succ k ih =>
    intro s om seen hs
    have hl : ¬ s ≥ lim := by omega
    have go : ∀ pc sn, ∃ n r, n ≤ 5 * k + 7 ∧ Ends n (ms c1 text lim s lim false pc s s om [fr0 5 s om] 1 (some false) sn none) r ∧ Says r ((find1 text k (s + 1)).map fun i => (i, i + 1)) := fun pc sn => by
      obtain ⟨n, r, hn, h1, h2⟩ := ih (s + 1) false sn (by omega)
      exact ⟨n + 1, r, by omega, .two rfl (p1_no_more (by omega)) h1, h2⟩
    unfold find1
    cases h : atL text s with
    | false =>
      obtain ⟨n, r, hn, h1, h2⟩ := go 5 (seenAt seen)
      refine ⟨n + 1, r, by omega, .two rfl (p1_at_no h) h1, ?_⟩
      rw [Bool.false_and, if_neg Bool.false_ne_true]; exact h2
    | true =>
      cases q : (text.getD s 0 == 46) with
      | false =>
        obtain ⟨n, r, hn, h1, h2⟩ := go 7 ((seenAt seen).add 16)
        refine ⟨n + 2, r, by omega, .two rfl (p1_at_yes h) (.two rfl (p1_lit_no hl q) h1), ?_⟩
        rw [Bool.and_false, if_neg Bool.false_ne_true]; exact h2
      | true =>
        obtain ⟨r, h1, h2, h3, h4, _⟩ := @ms_end c1 text lim s lim false 5 s (s + 1) om 0 true (((seenAt seen).add 16).add 1)
        refine ⟨5, r, by omega, .two rfl (p1_at_yes h) (.two rfl (p1_lit_yes hl q) (.two rfl p1_ok (.two rfl p1_yes h1))), ?_⟩
        rw [Bool.and_true, if_pos rfl]
        exact ⟨h2, h3, h4⟩
theorem search1 (text : Array Nat) (s : Nat) (hs : s ≤ text.size) :
    ∃ n r, n ≤ 5 * text.size + 20 ∧ Ends n (forSearch c1 text 0 s text.size false) r ∧ Says r ((find1 text (text.size - s) s).map fun i => (i, i + 1)) := by
  by_cases h : s = text.size
  · subst h
    rw [Nat.sub_self]
    have e : forSearch c1 text 0 text.size text.size false = ms c1 text text.size text.size 0 false 5 text.size text.size true [] 0 (some false) (({} : Seen).add 14) none := by
      show (if (decide (text.size > text.size) || decide (text.size - text.size < 1)) = true then _ else _) = _
      rw [if_pos (by simp)]; rfl
    obtain ⟨r, h1, h2, _⟩ := @ms_end c1 text text.size text.size 0 false 5 text.size text.size true 0 false (({} : Seen).add 14)
    exact ⟨1, r, by omega, e ▸ h1, h2⟩
  · obtain ⟨n, r, hn, h1, h2⟩ := p1_run text text.size (text.size - s) s true (({} : Seen).add 14) (by omega)
    refine ⟨n, r, by omega, ?_, h2⟩
    have e : forSearch c1 text 0 s text.size false = ms c1 text text.size s text.size false 5 s s true [fr0 5 s true] 1 none (({} : Seen).add 14) none := by
      show (if (decide (s > text.size) || decide (text.size - s < 1)) = true then _ else _) = _
      rw [if_neg (by rw [decide_eq_false (by omega), decide_eq_false (by omega)]; decide)]; rfl
    exact e ▸ h1
end Mine
end
section
open PySem hiding Frame Outcome
open PySem.Sre
set_option Elab.async false
set_option maxRecDepth 100000
namespace Mine
section p3
variable {text : Array Nat} {lim start last s s' : Nat} {must om : Bool} {seen : Seen} {hd pc h : Nat} {w : Nat}
noncomputable def isNl (c : Nat) : Bool := c == 10 || c == 13
/-- the next sign that ends a row -/
noncomputable def nextNl (text : Array Nat) : Nat → Nat → Option Nat
  | 0, _ => none
  | k + 1, s => if isNl (text.getD s 0) then some s else nextNl text k (s + 1)
theorem set3 (c : Nat) (seen : Seen) : ∃ sn, inSet c3 c c3.size 5 true seen = .ok (isNl c, sn) := by
  have e : inSet c3 c c3.size 5 true seen = if (c == 10) = true then .ok (true, seen.add 16) else if (c == 13) = true then .ok (true, (seen.add 16).add 16) else .ok (!true, ((seen.add 16).add 16).add 0) := rfl
  unfold isNl
  rw [e]
  cases h1 : (c == 10) <;> cases h2 : (c == 13) <;> exact ⟨_, rfl⟩
theorem adm3 (m : M) (hc : m.code = c3) : ∀ (k s : Nat) (seen : Seen), s + k = m.lim → ∃ sn, M.admitted m (k + 1) s seen = .ok (nextNl m.text k s, sn) := by
  intro k
  induction k with
  | zero =>
    intro s seen hs
    refine ⟨seen, ?_⟩
    unfold M.admitted
    rw [if_pos (by omega)]; rfl
  | succ k ih =>
    intro s seen hs
    unfold M.admitted nextNl
    rw [if_neg (by omega), hc]
    obtain ⟨sn, e⟩ := set3 (m.text.getD s 0) seen
    rw [e]
    cases h : isNl (m.text.getD s 0) with
    | true => exact ⟨_, rfl⟩
    | false => exact ih (s + 1) sn (by omega)
noncomputable def frB (pc s : Nat) (om : Bool) : Frame := { wait := .nextBranch, pc := pc, pos := s, outermost := om, kept := { lastmark := -1, lastindex := -1, whole := false, marks := #[] } }
noncomputable def frN (s : Nat) (om : Bool) : Frame := { wait := .lookNot, pc := 26, pos := s, outermost := om, kept := { lastmark := -1, lastindex := -1, whole := false, marks := #[] } }
noncomputable abbrev m3 (text : Array Nat) (lim s : Nat) (pc pos handed : Nat) (om : Bool) (fr : List Frame) (wt : Nat) (ans : Option Bool) (seen : Seen) : M := ms c3 text lim s lim false pc pos handed om fr wt ans seen none
variable {fr : List Frame} {pos : Nat}
theorem p3_branch : (m3 text lim s 10 s s true fr 1 none seen).step = m3 text lim s 12 s s true (frB 11 s true :: fr) 2 none (seen.add 7) := rfl
theorem p3_b1 : (m3 text lim s pc pos h om (frB 11 s true :: fr) 2 (some false) seen).step = m3 text lim s 19 s s true (frB 18 s true :: fr) 2 none seen := rfl
theorem p3_b2 : (m3 text lim s pc pos h om (frB 18 s true :: fr) 2 (some false) seen).step = m3 text lim s 24 s s true (frB 23 s true :: fr) 2 none seen := rfl
theorem p3_byes {b : Nat} : (m3 text lim s pc pos h om (frB b s true :: fr) 2 (some true) seen).step = m3 text lim s b s h true fr 1 (some true) seen := rfl
theorem p3_yes {b : Nat} : (m3 text lim s pc pos h om [fr0 b s om'] 1 (some true) seen).step = m3 text lim s b s h om' [] 0 (some true) seen := rfl
theorem p3_l12 : (m3 text lim s 12 pos h om fr w none seen).step = if pos ≥ lim then m3 text lim s 12 pos h om fr w (some false) (seen.add 16)
    else if (text.getD pos 0 == 13) = true then m3 text lim s 14 (pos + 1) h om fr w none (seen.add 16) else m3 text lim s 12 pos h om fr w (some false) (seen.add 16) := by
  show (if pos ≥ lim then _ else match (Except.ok (text.getD pos 0 == 13, seen.add 16) : Except String (Bool × Seen)) with
    | .error why => _
    | .ok (false, seen) => _
    | .ok (true, seen) => _) = _
  cases h : (text.getD pos 0 == 13) <;> rfl
theorem p3_l12_yes (hp : pos < lim) (q : text.getD pos 0 = 13) : (m3 text lim s 12 pos h om fr w none seen).step = m3 text lim s 14 (pos + 1) h om fr w none (seen.add 16) := by
  rw [p3_l12, if_neg (by omega), if_pos (by rw [q]; rfl)]
theorem p3_l12_no (q : pos ≥ lim ∨ text.getD pos 0 ≠ 13) : (m3 text lim s 12 pos h om fr w none seen).step = m3 text lim s 12 pos h om fr w (some false) (seen.add 16) := by
  rw [p3_l12]
  by_cases hp : pos ≥ lim
  · rw [if_pos hp]
  · rw [if_neg hp, if_neg (by rw [beq_iff_eq]; exact q.resolve_left hp)]
theorem p3_l14 : (m3 text lim s 14 pos h om fr w none seen).step = if pos ≥ lim then m3 text lim s 14 pos h om fr w (some false) (seen.add 16)
    else if (text.getD pos 0 == 10) = true then m3 text lim s 16 (pos + 1) h om fr w none (seen.add 16) else m3 text lim s 14 pos h om fr w (some false) (seen.add 16) := by
  show (if pos ≥ lim then _ else match (Except.ok (text.getD pos 0 == 10, seen.add 16) : Except String (Bool × Seen)) with
    | .error why => _
    | .ok (false, seen) => _
    | .ok (true, seen) => _) = _
  cases h : (text.getD pos 0 == 10) <;> rfl
theorem p3_l14_yes (hp : pos < lim) (q : text.getD pos 0 = 10) : (m3 text lim s 14 pos h om fr w none seen).step = m3 text lim s 16 (pos + 1) h om fr w none (seen.add 16) := by
  rw [p3_l14, if_neg (by omega), if_pos (by rw [q]; rfl)]
theorem p3_l14_no (q : pos ≥ lim ∨ text.getD pos 0 ≠ 10) : (m3 text lim s 14 pos h om fr w none seen).step = m3 text lim s 14 pos h om fr w (some false) (seen.add 16) := by
  rw [p3_l14]
  by_cases hp : pos ≥ lim
  · rw [if_pos hp]
  · rw [if_neg hp, if_neg (by rw [beq_iff_eq]; exact q.resolve_left hp)]
theorem p3_l19 : (m3 text lim s 19 pos h om fr w none seen).step = if pos ≥ lim then m3 text lim s 19 pos h om fr w (some false) (seen.add 16)
    else if (text.getD pos 0 == 10) = true then m3 text lim s 21 (pos + 1) h om fr w none (seen.add 16) else m3 text lim s 19 pos h om fr w (some false) (seen.add 16) := by
  show (if pos ≥ lim then _ else match (Except.ok (text.getD pos 0 == 10, seen.add 16) : Except String (Bool × Seen)) with
    | .error why => _
    | .ok (false, seen) => _
    | .ok (true, seen) => _) = _
  cases h : (text.getD pos 0 == 10) <;> rfl
theorem p3_l19_yes (hp : pos < lim) (q : text.getD pos 0 = 10) : (m3 text lim s 19 pos h om fr w none seen).step = m3 text lim s 21 (pos + 1) h om fr w none (seen.add 16) := by
  rw [p3_l19, if_neg (by omega), if_pos (by rw [q]; rfl)]
theorem p3_l19_no (q : pos ≥ lim ∨ text.getD pos 0 ≠ 10) : (m3 text lim s 19 pos h om fr w none seen).step = m3 text lim s 19 pos h om fr w (some false) (seen.add 16) := by
  rw [p3_l19]
  by_cases hp : pos ≥ lim
  · rw [if_pos hp]
  · rw [if_neg hp, if_neg (by rw [beq_iff_eq]; exact q.resolve_left hp)]
theorem p3_l24 : (m3 text lim s 24 pos h om fr w none seen).step = if pos ≥ lim then m3 text lim s 24 pos h om fr w (some false) (seen.add 16)
    else if (text.getD pos 0 == 13) = true then m3 text lim s 26 (pos + 1) h om fr w none (seen.add 16) else m3 text lim s 24 pos h om fr w (some false) (seen.add 16) := by
  show (if pos ≥ lim then _ else match (Except.ok (text.getD pos 0 == 13, seen.add 16) : Except String (Bool × Seen)) with
    | .error why => _
    | .ok (false, seen) => _
    | .ok (true, seen) => _) = _
  cases h : (text.getD pos 0 == 13) <;> rfl
theorem p3_l24_yes (hp : pos < lim) (q : text.getD pos 0 = 13) : (m3 text lim s 24 pos h om fr w none seen).step = m3 text lim s 26 (pos + 1) h om fr w none (seen.add 16) := by
  rw [p3_l24, if_neg (by omega), if_pos (by rw [q]; rfl)]
theorem p3_l29 : (m3 text lim s 29 pos h om fr w none seen).step = if pos ≥ lim then m3 text lim s 29 pos h om fr w (some false) (seen.add 16)
    else if (text.getD pos 0 == 10) = true then m3 text lim s 31 (pos + 1) h om fr w none (seen.add 16) else m3 text lim s 29 pos h om fr w (some false) (seen.add 16) := by
  show (if pos ≥ lim then _ else match (Except.ok (text.getD pos 0 == 10, seen.add 16) : Except String (Bool × Seen)) with
    | .error why => _
    | .ok (false, seen) => _
    | .ok (true, seen) => _) = _
  cases h : (text.getD pos 0 == 10) <;> rfl
theorem p3_l29_no (q : pos ≥ lim ∨ text.getD pos 0 ≠ 10) : (m3 text lim s 29 pos h om fr w none seen).step = m3 text lim s 29 pos h om fr w (some false) (seen.add 16) := by
  rw [p3_l29]
  by_cases hp : pos ≥ lim
  · rw [if_pos hp]
  · rw [if_neg hp, if_neg (by rw [beq_iff_eq]; exact q.resolve_left hp)]
theorem p3_j16 : (m3 text lim s 16 pos h om fr w none seen).step = m3 text lim s 35 pos h om fr w none (seen.add 15) := rfl
theorem p3_j21 : (m3 text lim s 21 pos h om fr w none seen).step = m3 text lim s 35 pos h om fr w none (seen.add 15) := rfl
theorem p3_j32 : (m3 text lim s 32 pos h om fr w none seen).step = m3 text lim s 35 pos h om fr w none (seen.add 15) := rfl
theorem p3_ok : (m3 text lim s 35 pos h om fr w none seen).step = m3 text lim s 35 pos pos om fr w (some true) (seen.add 1) := by cases om <;> rfl
theorem p3_not : (m3 text lim s 26 (pos + 1) h true fr 2 none seen).step = m3 text lim s 29 (pos + 1) (pos + 1) false (frN (pos + 1) true :: fr) 3 none (seen.add 5) := rfl
theorem p3_notno {pc pos h om} : (m3 text lim s pc pos h om (frN s' true :: fr) 3 (some false) seen).step = m3 text lim s 32 s' h true fr 2 none seen := rfl
/-- where the match that begins at a row's end ends -/
noncomputable def nlEnd (text : Array Nat) (lim s : Nat) : Nat := if text.getD s 0 = 13 ∧ s + 1 < lim ∧ text.getD (s + 1) 0 = 10 then s + 2 else s + 1
theorem p3_at (hs : s < lim) (hn : isNl (text.getD s 0) = true) (seen : Seen) : ∃ n r, n ≤ 20 ∧ Ends n (m3 text lim s 10 s s true [fr0 10 s true] 1 none seen) r ∧ Says r (some (s, nlEnd text lim s)) := by
  have fin : ∀ b e sn, ∃ n r, n ≤ 5 ∧ Ends n (m3 text lim s 35 e s true [frB b s true, fr0 10 s true] 2 none sn) r ∧ Says r (some (s, e)) := fun b e sn => by
    obtain ⟨r, h1, h2, h3, h4, _⟩ := @ms_end c3 text lim s lim false 10 s e true 0 true (sn.add 1)
    exact ⟨4, r, by omega, .two rfl p3_ok (.two rfl p3_byes (.two rfl p3_yes h1)), h2, h3, h4⟩
  have fin' : ∀ b e h sn, ∃ n r, n ≤ 5 ∧ Ends n (m3 text lim s 35 e h true [frB b s true, fr0 10 s true] 2 none sn) r ∧ Says r (some (s, e)) := fun b e h sn => by
    obtain ⟨r, h1, h2, h3, h4, _⟩ := @ms_end c3 text lim s lim false 10 s e true 0 true (sn.add 1)
    exact ⟨4, r, by omega, .two rfl p3_ok (.two rfl p3_byes (.two rfl p3_yes h1)), h2, h3, h4⟩
  unfold nlEnd
  by_cases h13 : text.getD s 0 = 13
  · by_cases h10 : s + 1 < lim ∧ text.getD (s + 1) 0 = 10
    · rw [if_pos ⟨h13, h10⟩]
      obtain ⟨n, r, hn, h1, h2⟩ := fin 11 (s + 2) (((((seen.add 7).add 16).add 16).add 15))
      exact ⟨n + 4, r, by omega, .two rfl p3_branch (.two rfl (p3_l12_yes hs h13) (.two rfl (p3_l14_yes h10.1 h10.2) (.two rfl p3_j16 h1))), h2⟩
    · rw [if_neg (by rintro ⟨_, q⟩; exact h10 q)]
      have no : s + 1 ≥ lim ∨ text.getD (s + 1) 0 ≠ 10 := by
        by_cases q : s + 1 < lim
        · exact .inr fun e => h10 ⟨q, e⟩
        · exact .inl (by omega)
      obtain ⟨n, r, hn, h1, h2⟩ := fin' 23 (s + 1) (s + 1) ((((((((seen.add 7).add 16).add 16).add 16).add 16).add 5).add 16).add 15)
      exact ⟨n + 11, r, by omega, .two rfl p3_branch (.two rfl (p3_l12_yes hs h13) (.two rfl (p3_l14_no no) (.two rfl p3_b1 (.two rfl (p3_l19_no (.inr (by rw [h13]; decide))) (.two rfl p3_b2
        (.two rfl (p3_l24_yes hs h13) (.two rfl p3_not (.two rfl (p3_l29_no no) (.two rfl p3_notno (.two rfl p3_j32 h1)))))))))), h2⟩
  · rw [if_neg (by rintro ⟨q, _⟩; exact h13 q)]
    have h10 : text.getD s 0 = 10 := by
      unfold isNl at hn
      rcases Bool.or_eq_true_iff.mp hn with q | q
      · exact beq_iff_eq.mp q
      · exact absurd (beq_iff_eq.mp q) h13
    obtain ⟨n, r, hn, h1, h2⟩ := fin 18 (s + 1) ((((seen.add 7).add 16).add 16).add 15)
    exact ⟨n + 5, r, by omega, .two rfl p3_branch (.two rfl (p3_l12_no (.inr h13)) (.two rfl p3_b1 (.two rfl (p3_l19_yes hs h10) (.two rfl p3_j21 h1)))), h2⟩
end p3
theorem nextNl_spec {text : Array Nat} : ∀ {k s i : Nat}, nextNl text k s = some i → s ≤ i ∧ i < s + k ∧ isNl (text.getD i 0) = true := by
  intro k
  induction k with
  | zero => intro s i h; cases h
  | succ k ih =>
    intro s i h
    unfold nextNl at h
    split at h
    · cases h; exact ⟨Nat.le_refl _, by omega, by assumption⟩
    · obtain ⟨a, b, c⟩ := ih h; exact ⟨by omega, by omega, c⟩
theorem search3 (text : Array Nat) (s : Nat) (hs : s ≤ text.size) :
    ∃ n r, n ≤ 100 ∧ Ends n (forSearch c3 text 0 s text.size false) r ∧ Says r ((nextNl text (text.size - s) s).map fun i => (i, nlEnd text text.size i)) := by
  by_cases h : s = text.size
  · subst h
    rw [Nat.sub_self]
    have e : forSearch c3 text 0 text.size text.size false = ms c3 text text.size text.size 0 false 10 text.size text.size true [] 0 (some false) (({} : Seen).add 14) none := by
      show (if (decide (text.size > text.size) || decide (text.size - text.size < 1)) = true then _ else _) = _
      rw [if_pos (by simp)]; rfl
    obtain ⟨r, h1, h2, _⟩ := @ms_end c3 text text.size text.size 0 false 10 text.size text.size true 0 false (({} : Seen).add 14)
    exact ⟨1, r, by omega, e ▸ h1, h2⟩
  · let m0 : M := ms c3 text text.size s text.size false 10 s s true [] 0 none (({} : Seen).add 14) none
    obtain ⟨sn, ha⟩ := adm3 m0 rfl (text.size - s) s (({} : Seen).add 14) (by show s + (text.size - s) = text.size; omega)
    have e : forSearch c3 text 0 s text.size false = match M.admitted m0 (text.size + 1 - s) s (({} : Seen).add 14) with
        | .ok (some i, sn) => m3 text text.size i 10 i i true [fr0 10 i true] 1 none sn
        | .ok (none, sn) => ms c3 text text.size s text.size false 10 s s true [] 0 (some false) sn none
        | .error why => m0.stick why := by
      show (if (decide (s > text.size) || decide (text.size - s < 1)) = true then _ else _) = _
      rw [if_neg (by rw [decide_eq_false (by omega), decide_eq_false (by omega)]; decide)]
      rfl
    rw [show text.size + 1 - s = (text.size - s) + 1 by omega, ha] at e
    have em : m0.text = text := rfl
    rw [em] at e
    cases hq : nextNl text (text.size - s) s with
    | none =>
      rw [hq] at e
      obtain ⟨r, h1, h2, _⟩ := @ms_end c3 text text.size s text.size false 10 s s true 0 false sn
      exact ⟨1, r, by omega, e ▸ h1, h2⟩
    | some i =>
      rw [hq] at e
      obtain ⟨a, b, c⟩ := nextNl_spec hq
      obtain ⟨n, r, hn, h1, h2⟩ := p3_at (text := text) (lim := text.size) (s := i) (by omega) c sn
      exact ⟨n, r, by omega, e ▸ h1, h2⟩
end Mine
end
section
open PySem hiding Frame Outcome
open PySem.Sre
set_option Elab.async false
set_option maxRecDepth 100000
namespace Mine
noncomputable def cN : Array Nat := #[14, 10, 4, 1, 1, 22, 0, 31, 16, 127, 0, 13, 7, 22, 0, 31, 16, 127, 0, 1]
noncomputable def cV : Array Nat := #[14, 14, 4, 1, 1, 9, 4294966783, 0, 0, 2147483648, 0, 0, 0, 0, 0, 13, 11, 9, 4294966783, 0, 0, 2147483648, 0, 0, 0, 0, 0, 1]
/-- a text of signs that print -/
noncomputable def Prints (l : List Nat) : Prop := ∀ c ∈ l, 32 ≤ c ∧ c ≤ 126
theorem setN (c : Nat) (seen : Seen) (h : 32 ≤ c ∧ c ≤ 126) : ∃ sn, inSet cN c cN.size 5 true seen = .ok (false, sn) := by
  have e : inSet cN c cN.size 5 true seen = if (decide (0 ≤ c) && decide (c ≤ 31)) = true then .ok (true, seen.add 22) else if (c == 127) = true then .ok (true, (seen.add 22).add 16) else .ok (!true, ((seen.add 22).add 16).add 0) := rfl
  rw [e, if_neg (by rw [decide_eq_false (show ¬ c ≤ 31 by omega), Bool.and_false]; exact Bool.false_ne_true), if_neg (by rw [beq_iff_eq]; omega)]
  exact ⟨_, rfl⟩
theorem bitV : ∀ c < 127, 32 ≤ c → (decide (c < 256) && (cV.getD (5 + (1 + c / 32)) 0).testBit (c % 32)) = false := by decide +kernel
theorem setV (c : Nat) (seen : Seen) (h : 32 ≤ c ∧ c ≤ 126) : ∃ sn, inSet cV c cV.size 5 true seen = .ok (false, sn) := by
  have e : inSet cV c cV.size 5 true seen = if (decide (c < 256) && (cV.getD (5 + (1 + c / 32)) 0).testBit (c % 32)) = true then .ok (true, seen.add 9) else .ok (!true, (seen.add 9).add 0) := rfl
  rw [e, bitV c (by omega) h.1]
  exact ⟨_, rfl⟩
theorem admNone (m : M) (hs : ∀ c seen, 32 ≤ c ∧ c ≤ 126 → ∃ sn, inSet m.code c m.code.size 5 true seen = .ok (false, sn)) (hp : Prints m.text.toList) (hl : m.lim = m.text.size) :
    ∀ (k s : Nat) (seen : Seen), s + k = m.lim → ∃ sn, M.admitted m (k + 1) s seen = .ok (none, sn) := by
  intro k
  induction k with
  | zero =>
    intro s seen h
    refine ⟨seen, ?_⟩
    unfold M.admitted
    rw [if_pos (by omega)]
  | succ k ih =>
    intro s seen h
    unfold M.admitted
    have hlt : s < m.text.size := by omega
    have hc : 32 ≤ m.text.getD s 0 ∧ m.text.getD s 0 ≤ 126 := hp _ (by rw [Array.getD_eq_getD_getElem?, Array.getElem?_eq_getElem hlt, Option.getD_some]; exact Array.mem_toList_iff.mpr (Array.getElem_mem hlt))
    obtain ⟨sn, e⟩ := hs (m.text.getD s 0) seen hc
    rw [if_neg (by omega), e]
    exact ih (s + 1) sn (by omega)
theorem searchN (text : Array Nat) (hp : Prints text.toList) : ∃ n r, n ≤ 100 ∧ Ends n (forSearch cN text 0 0 text.size false) r ∧ Says r none := by
  by_cases h : 0 = text.size
  · have e : forSearch cN text 0 0 text.size false = ms cN text text.size 0 0 false 11 0 0 true [] 0 (some false) (({} : Seen).add 14) none := by
      show (if (decide (0 > text.size) || decide (text.size - 0 < 1)) = true then _ else _) = _
      rw [if_pos (by rw [← h]; decide)]; rfl
    obtain ⟨r, h1, h2, _⟩ := @ms_end cN text text.size 0 0 false 11 0 0 true 0 false (({} : Seen).add 14)
    exact ⟨1, r, by omega, e ▸ h1, h2⟩
  · let m0 : M := ms cN text text.size 0 text.size false 11 0 0 true [] 0 none (({} : Seen).add 14) none
    obtain ⟨sn, ha⟩ := admNone m0 setN hp rfl text.size 0 (({} : Seen).add 14) (Nat.zero_add _)
    have e : forSearch cN text 0 0 text.size false = match M.admitted m0 (text.size + 1 - 0) 0 (({} : Seen).add 14) with
        | .ok (some i, sn) => { m0 with mustAdvance := false, seen := sn }.attemptAt i true
        | .ok (none, sn) => ms cN text text.size 0 text.size false 11 0 0 true [] 0 (some false) sn none
        | .error why => m0.stick why := by
      show (if (decide (0 > text.size) || decide (text.size - 0 < 1)) = true then _ else _) = _
      rw [if_neg (by rw [decide_eq_false (by omega), decide_eq_false (by omega)]; decide)]
      rfl
    rw [show text.size + 1 - 0 = text.size + 1 from rfl, ha] at e
    obtain ⟨r, h1, h2, _⟩ := @ms_end cN text text.size 0 text.size false 11 0 0 true 0 false sn
    exact ⟨1, r, by omega, e ▸ h1, h2⟩
theorem searchV (text : Array Nat) (hp : Prints text.toList) : ∃ n r, n ≤ 100 ∧ Ends n (forSearch cV text 0 0 text.size false) r ∧ Says r none := by
  by_cases h : 0 = text.size
  · have e : forSearch cV text 0 0 text.size false = ms cV text text.size 0 0 false 15 0 0 true [] 0 (some false) (({} : Seen).add 14) none := by
      show (if (decide (0 > text.size) || decide (text.size - 0 < 1)) = true then _ else _) = _
      rw [if_pos (by rw [← h]; decide)]; rfl
    obtain ⟨r, h1, h2, _⟩ := @ms_end cV text text.size 0 0 false 15 0 0 true 0 false (({} : Seen).add 14)
    exact ⟨1, r, by omega, e ▸ h1, h2⟩
  · let m0 : M := ms cV text text.size 0 text.size false 15 0 0 true [] 0 none (({} : Seen).add 14) none
    obtain ⟨sn, ha⟩ := admNone m0 setV hp rfl text.size 0 (({} : Seen).add 14) (Nat.zero_add _)
    have e : forSearch cV text 0 0 text.size false = match M.admitted m0 (text.size + 1 - 0) 0 (({} : Seen).add 14) with
        | .ok (some i, sn) => { m0 with mustAdvance := false, seen := sn }.attemptAt i true
        | .ok (none, sn) => ms cV text text.size 0 text.size false 15 0 0 true [] 0 (some false) sn none
        | .error why => m0.stick why := by
      show (if (decide (0 > text.size) || decide (text.size - 0 < 1)) = true then _ else _) = _
      rw [if_neg (by rw [decide_eq_false (by omega), decide_eq_false (by omega)]; decide)]
      rfl
    rw [show text.size + 1 - 0 = text.size + 1 from rfl, ha] at e
    obtain ⟨r, h1, h2, _⟩ := @ms_end cV text text.size 0 text.size false 15 0 0 true 0 false sn
    exact ⟨1, r, by omega, e ▸ h1, h2⟩
/-! what is put in: over lists of signs -/
noncomputable def fixL : List Nat → List Nat
  | [] => []
  | 13 :: 10 :: r => 13 :: 10 :: fixL r
  | c :: r => if isNl c then 13 :: 10 :: fixL r else c :: fixL r
noncomputable def quoteL : Bool → List Nat → List Nat
  | _, [] => []
  | b, c :: r => if b && c == 46 then 46 :: 46 :: quoteL false r else c :: quoteL (c == 10) r
theorem fixL_ne {c : Nat} {r : List Nat} (h : isNl c = false) : fixL (c :: r) = c :: fixL r := by
  rw [fixL.eq_3]
  · rw [if_neg (by rw [h]; exact Bool.false_ne_true)]
  · intro r' hc _; subst hc; cases h
theorem getD_drop {l : List Nat} {s : Nat} (h : s < l.length) : l.drop s = l.getD s 0 :: l.drop (s + 1) := by
  rw [List.drop_eq_getElem_cons h, List.getD_eq_getElem?_getD, List.getElem?_eq_getElem h, Option.getD_some]
theorem aget (text : Array Nat) (s : Nat) : text.getD s 0 = text.toList.getD s 0 := by
  rw [Array.getD_eq_getD_getElem?, List.getD_eq_getElem?_getD, Array.getElem?_toList]
theorem fix_none (text : Array Nat) : ∀ (k s : Nat), s + k = text.size → nextNl text k s = none → fixL (text.toList.drop s) = text.toList.drop s := by
  intro k
  induction k with
  | zero => intro s hs _; rw [List.drop_eq_nil_of_le (by rw [Array.length_toList]; omega)]; rfl
  | succ k ih =>
    intro s hs h
    unfold nextNl at h
    split at h
    · cases h
    · rename_i q
      rw [getD_drop (by rw [Array.length_toList]; omega), ← aget, fixL_ne (by simpa using q), ih (s + 1) (by omega) h]
theorem fix_some (text : Array Nat) : ∀ (k s i : Nat), s + k = text.size → nextNl text k s = some i →
    fixL (text.toList.drop s) = (text.toList.drop s).take (i - s) ++ 13 :: 10 :: fixL (text.toList.drop (nlEnd text text.size i)) := by
  intro k
  induction k with
  | zero => intro s i hs h; cases h
  | succ k ih =>
    intro s i hs h
    have hl : s < text.toList.length := by rw [Array.length_toList]; omega
    unfold nextNl at h
    split at h
    · rename_i q
      cases h
      rw [Nat.sub_self, List.take_zero, List.nil_append, getD_drop hl, ← aget]
      unfold nlEnd
      by_cases c : text.getD s 0 = 13 ∧ s + 1 < text.size ∧ text.getD (s + 1) 0 = 10
      · rw [if_pos c, getD_drop (s := s + 1) (by rw [Array.length_toList]; exact c.2.1), ← aget, c.1, c.2.2, fixL.eq_2]
      · rw [if_neg c, fixL.eq_3, if_pos q]
        intro r' hc hr
        apply c
        refine ⟨hc, ?_, ?_⟩
        · by_cases z : s + 1 < text.size
          · exact z
          · rw [List.drop_eq_nil_of_le (by rw [Array.length_toList]; omega)] at hr; cases hr
        · by_cases z : s + 1 < text.size
          · rw [getD_drop (by rw [Array.length_toList]; exact z), ← aget] at hr; injection hr
          · rw [List.drop_eq_nil_of_le (by rw [Array.length_toList]; omega)] at hr; cases hr
    · rename_i q
      obtain ⟨a, b, _⟩ := nextNl_spec h
      rw [getD_drop hl, ← aget, fixL_ne (by simpa using q), ih (s + 1) i (by omega) h, show i - s = (i - (s + 1)) + 1 by omega, List.take_succ_cons, List.cons_append]
theorem nlEnd_le {text : Array Nat} {i : Nat} (h : i < text.size) : i < nlEnd text text.size i ∧ nlEnd text text.size i ≤ text.size := by
  unfold nlEnd
  by_cases c : text.getD i 0 = 13 ∧ i + 1 < text.size ∧ text.getD (i + 1) 0 = 10
  · rw [if_pos c]; have := c.2.1; omega
  · rw [if_neg c]; omega
theorem find1_spec {text : Array Nat} : ∀ {k s i : Nat}, find1 text k s = some i → s ≤ i ∧ i < s + k ∧ atL text i = true ∧ text.getD i 0 = 46 := by
  intro k
  induction k with
  | zero => intro s i h; cases h
  | succ k ih =>
    intro s i h
    unfold find1 at h
    split at h
    · rename_i q
      cases h
      obtain ⟨a, b⟩ := Bool.and_eq_true_iff.mp q
      exact ⟨Nat.le_refl _, by omega, a, beq_iff_eq.mp b⟩
    · obtain ⟨a, b, c⟩ := ih h; exact ⟨by omega, by omega, c⟩
theorem atL_succ (text : Array Nat) (s : Nat) : atL text (s + 1) = (text.getD s 0 == 10) := by
  unfold atL; rw [Nat.add_sub_cancel]; simp
theorem quote_none (text : Array Nat) : ∀ (k s : Nat), s + k = text.size → find1 text k s = none → quoteL (atL text s) (text.toList.drop s) = text.toList.drop s := by
  intro k
  induction k with
  | zero => intro s hs _; rw [List.drop_eq_nil_of_le (by rw [Array.length_toList]; omega)]; rfl
  | succ k ih =>
    intro s hs h
    unfold find1 at h
    split at h
    · cases h
    · rename_i q
      rw [getD_drop (by rw [Array.length_toList]; omega), ← aget]
      unfold quoteL
      rw [if_neg q, ← atL_succ, ih (s + 1) (by omega) h]
theorem quote_some (text : Array Nat) : ∀ (k s i : Nat), s + k = text.size → find1 text k s = some i →
    quoteL (atL text s) (text.toList.drop s) = (text.toList.drop s).take (i - s) ++ 46 :: 46 :: quoteL (atL text (i + 1)) (text.toList.drop (i + 1)) := by
  intro k
  induction k with
  | zero => intro s i hs h; cases h
  | succ k ih =>
    intro s i hs h
    have hl : s < text.toList.length := by rw [Array.length_toList]; omega
    unfold find1 at h
    split at h
    · rename_i q
      cases h
      rw [Nat.sub_self, List.take_zero, List.nil_append, getD_drop hl, ← aget]
      unfold quoteL
      obtain ⟨_, b⟩ := Bool.and_eq_true_iff.mp q
      rw [if_pos q, atL_succ, beq_iff_eq.mp b]
      cases text.toList.drop (s + 1) <;> rfl
    · rename_i q
      obtain ⟨a, b, _⟩ := find1_spec h
      rw [getD_drop hl, ← aget]
      conv => lhs; unfold quoteL
      rw [if_neg q, ← atL_succ, ih (s + 1) i (by omega) h, show i - s = (i - (s + 1)) + 1 by omega, List.take_succ_cons, List.cons_append]
end Mine
end
section
open PySem PySem.W PyProof.Rows PySem.Calls PySem.Spec
set_option Elab.async false
set_option maxRecDepth 100000
namespace Mine
/-! the objects of the top that the law reaches: the defs by places in the given program -/
noncomputable abbrev pw : Program := PySem.Challenge.pw_ti0047_01
noncomputable def top (i : Nat) : Stmt := pw.main.body.getD i (.Pass ⟨0, 0, 0, 0⟩)
noncomputable def meth (i : Nat) : Stmt := match top 25 with | .ClassDef _ _ _ b _ _ _ _ _ _ _ => b.getD i (.Pass ⟨0, 0, 0, 0⟩) | _ => .Pass ⟨0, 0, 0, 0⟩
noncomputable def nameD : Stmt → Str | .FunctionDef n _ _ _ _ _ _ _ _ _ => n | _ => Str.empty
noncomputable def parsD : Stmt → Arguments | .FunctionDef _ a _ _ _ _ _ _ _ _ => a | _ => ⟨[], [], none, [], [], none, []⟩
noncomputable def bodyD : Stmt → List Stmt | .FunctionDef _ _ b _ _ _ _ _ _ _ => b | _ => []
noncomputable def scopeD : Stmt → Scope | .FunctionDef _ _ _ _ _ _ s _ _ _ => s | _ => { kind := .function, names := [], isGenerator := false, isCoroutine := false, more := [] }
noncomputable def fnD (st : Stmt) (qual : Str) (dV kV pm cd : Value) : FuncData :=
  { name := nameD st, qualname := qual, params := parsD st, body := .stmts (bodyD st), scope := scopeD st, globals := mainGlobals, closure := [], defaults := dV, kwdefaults := kV, doc := .none, pyModule := pm, annotations := none, code := cd, closureTuple := .none, builtins := builtinsNs }
noncomputable def o42 (_P : Params) : Obj := ⟨(.type "tuple"), none, (.seq #[(.int (14) 0), (.int (4) 0), (.int (0) 0), (.int (1) 0), (.int (1) 0), (.int (6) 0), (.int (1) 0), (.int (16) 0), (.int (46) 0), (.int (1) 0)] 0), #[]⟩
noncomputable def o43 (_P : Params) : Obj := ⟨(.type "re.Pattern"), none, (.fields #[(.str (Str.mk #[40, 63, 109, 41, 94, 92, 46]) 292), (.int (40) 305), (.int (0) 0), .none, .none, (.ref 42), (.int (0) 0)]), #[]⟩
noncomputable def o47 (_P : Params) : Obj := ⟨(.type "tuple"), none, (.seq #[(.int (14) 0), (.int (4) 0), (.int (0) 0), (.int (1) 0), (.int (1) 0), (.int (6) 0), (.int (1) 0), (.int (16) 0), (.int (46) 0), (.int (1) 0)] 0), #[]⟩
noncomputable def o48 (_P : Params) : Obj := ⟨(.type "re.Pattern"), none, (.fields #[(.bytes #[40, 63, 109, 41, 94, 92, 46] 308), (.int (8) 321), (.int (0) 0), .none, .none, (.ref 47), (.int (1) 0)]), #[]⟩
noncomputable def o52 (_P : Params) : Obj := ⟨(.type "tuple"), none, (.seq #[(.int (14) 0), (.int (9) 0), (.int (4) 0), (.int (1) 0), (.int (2) 0), (.int (16) 0), (.int (10) 0), (.int (16) 0), (.int (13) 0), (.int (0) 0), (.int (7) 0), (.int (7) 0), (.int (16) 0), (.int (13) 0), (.int (16) 0), (.int (10) 0), (.int (15) 0), (.int (18) 0), (.int (5) 0), (.int (16) 0), (.int (10) 0), (.int (15) 0), (.int (13) 0), (.int (11) 0), (.int (16) 0), (.int (13) 0), (.int (5) 0), (.int (5) 0), (.int (0) 0), (.int (16) 0), (.int (10) 0), (.int (1) 0), (.int (15) 0), (.int (2) 0), (.int (0) 0), (.int (1) 0)] 0), #[]⟩
noncomputable def o53 (_P : Params) : Obj := ⟨(.type "re.Pattern"), none, (.fields #[(.str (Str.mk #[40, 63, 58, 92, 114, 92, 110, 124, 92, 110, 124, 92, 114, 40, 63, 33, 92, 110, 41, 41]) 324), (.int (32) 363), (.int (0) 0), .none, .none, (.ref 52), (.int (0) 0)]), #[]⟩
noncomputable def fd60 : FuncData := fnD (top 7) (Str.ofString "quotedata") .none .none (.str (Str.ofString "cpy313.smtplib") 289) (.ref 59)
noncomputable def o60 (_P : Params) : Obj := ⟨(.type "function"), none, (.func fd60), #[]⟩
noncomputable def fd67 : FuncData := fnD (top 8) (Str.ofString "_quote_periods") .none .none (.str (Str.ofString "cpy313.smtplib") 289) (.ref 66)
noncomputable def o67 (_P : Params) : Obj := ⟨(.type "function"), none, (.func fd67), #[]⟩
noncomputable def fd74 : FuncData := fnD (top 9) (Str.ofString "_fix_eols") .none .none (.str (Str.ofString "cpy313.smtplib") 289) (.ref 73)
noncomputable def o74 (_P : Params) : Obj := ⟨(.type "function"), none, (.func fd74), #[]⟩
noncomputable def fd81 : FuncData := fnD (top 11) (Str.ofString "add") .none .none (.str (Str.ofString "cpy313.operator") 388) (.ref 80)
noncomputable def o81 (_P : Params) : Obj := ⟨(.type "function"), none, (.func fd81), #[]⟩
noncomputable def fd88 : FuncData := fnD (top 12) (Str.ofString "mul") .none .none (.str (Str.ofString "cpy313.operator") 388) (.ref 87)
noncomputable def o88 (_P : Params) : Obj := ⟨(.type "function"), none, (.func fd88), #[]⟩
noncomputable def fd95 : FuncData := fnD (top 13) (Str.ofString "sub") .none .none (.str (Str.ofString "cpy313.operator") 388) (.ref 94)
noncomputable def o95 (_P : Params) : Obj := ⟨(.type "function"), none, (.func fd95), #[]⟩
noncomputable def fd102 : FuncData := fnD (top 14) (Str.ofString "xor") .none .none (.str (Str.ofString "cpy313.operator") 388) (.ref 101)
noncomputable def o102 (_P : Params) : Obj := ⟨(.type "function"), none, (.func fd102), #[]⟩
noncomputable def fd109 : FuncData := fnD (top 15) (Str.ofString "concat") .none .none (.str (Str.ofString "cpy313.operator") 388) (.ref 108)
noncomputable def o109 (_P : Params) : Obj := ⟨(.type "function"), none, (.func fd109), #[]⟩
noncomputable def fd116 : FuncData := fnD (top 16) (Str.ofString "delitem") .none .none (.str (Str.ofString "cpy313.operator") 388) (.ref 115)
noncomputable def o116 (_P : Params) : Obj := ⟨(.type "function"), none, (.func fd116), #[]⟩
noncomputable def fd123 : FuncData := fnD (top 17) (Str.ofString "getitem") .none .none (.str (Str.ofString "cpy313.operator") 388) (.ref 122)
noncomputable def o123 (_P : Params) : Obj := ⟨(.type "function"), none, (.func fd123), #[]⟩
noncomputable def fd130 : FuncData := fnD (top 18) (Str.ofString "setitem") .none .none (.str (Str.ofString "cpy313.operator") 388) (.ref 129)
noncomputable def o130 (_P : Params) : Obj := ⟨(.type "function"), none, (.func fd130), #[]⟩
noncomputable def o131 (_P : Params) : Obj := ⟨(.type "tuple"), none, (.seq #[(.int (0) 456)] 0), #[]⟩
noncomputable def fd138 : FuncData := fnD (top 19) (Str.ofString "length_hint") (.ref 131) .none (.str (Str.ofString "cpy313.operator") 388) (.ref 137)
noncomputable def o138 (_P : Params) : Obj := ⟨(.type "function"), none, (.func fd138), #[]⟩
noncomputable def o147 (_P : Params) : Obj := ⟨(.type "tuple"), none, (.seq #[(.int (14) 0), (.int (10) 0), (.int (4) 0), (.int (1) 0), (.int (1) 0), (.int (22) 0), (.int (0) 0), (.int (31) 0), (.int (16) 0), (.int (127) 0), (.int (0) 0), (.int (13) 0), (.int (7) 0), (.int (22) 0), (.int (0) 0), (.int (31) 0), (.int (16) 0), (.int (127) 0), (.int (0) 0), (.int (1) 0)] 0), #[]⟩
noncomputable def o148 (_P : Params) : Obj := ⟨(.type "re.Pattern"), none, (.fields #[(.str (Str.mk #[91, 92, 120, 48, 48, 45, 92, 120, 49, 70, 92, 120, 55, 70, 93]) 505), (.int (32) 528), (.int (0) 0), .none, .none, (.ref 147), (.int (0) 0)]), #[]⟩
noncomputable def o152 (_P : Params) : Obj := ⟨(.type "tuple"), none, (.seq #[(.int (14) 0), (.int (14) 0), (.int (4) 0), (.int (1) 0), (.int (1) 0), (.int (9) 0), (.int (4294966783) 0), (.int (0) 0), (.int (0) 0), (.int (2147483648) 0), (.int (0) 0), (.int (0) 0), (.int (0) 0), (.int (0) 0), (.int (0) 0), (.int (13) 0), (.int (11) 0), (.int (9) 0), (.int (4294966783) 0), (.int (0) 0), (.int (0) 0), (.int (2147483648) 0), (.int (0) 0), (.int (0) 0), (.int (0) 0), (.int (0) 0), (.int (0) 0), (.int (1) 0)] 0), #[]⟩
noncomputable def o153 (_P : Params) : Obj := ⟨(.type "re.Pattern"), none, (.fields #[(.str (Str.mk #[91, 92, 120, 48, 48, 45, 92, 120, 48, 56, 92, 120, 48, 65, 45, 92, 120, 49, 70, 92, 120, 55, 70, 93]) 531), (.int (32) 562), (.int (0) 0), .none, .none, (.ref 152), (.int (0) 0)]), #[]⟩
noncomputable def o169 (_P : Params) : Obj := ⟨(.type "tuple"), none, (.seq #[.none] 0), #[]⟩
noncomputable def fd176 : FuncData := fnD (meth 0) (Str.ofString "Headers.__init__") (.ref 169) .none (.str (Str.ofString "cpy313.wsgiref.headers") 468) (.ref 175)
noncomputable def o176 (_P : Params) : Obj := ⟨(.type "function"), none, (.func fd176), #[]⟩
noncomputable def fd183 : FuncData := fnD (meth 1) (Str.ofString "Headers._convert_string_type") .none .none (.str (Str.ofString "cpy313.wsgiref.headers") 468) (.ref 182)
noncomputable def o183 (_P : Params) : Obj := ⟨(.type "function"), none, (.func fd183), #[]⟩
noncomputable def fd190 : FuncData := fnD (meth 2) (Str.ofString "Headers.__len__") .none .none (.str (Str.ofString "cpy313.wsgiref.headers") 468) (.ref 189)
noncomputable def o190 (_P : Params) : Obj := ⟨(.type "function"), none, (.func fd190), #[]⟩
noncomputable def fd197 : FuncData := fnD (meth 3) (Str.ofString "Headers.__setitem__") .none .none (.str (Str.ofString "cpy313.wsgiref.headers") 468) (.ref 196)
noncomputable def o197 (_P : Params) : Obj := ⟨(.type "function"), none, (.func fd197), #[]⟩
noncomputable def fd202 : FuncData := fnD (meth 4) (Str.ofString "Headers.__delitem__") .none .none (.str (Str.ofString "cpy313.wsgiref.headers") 468) (.ref 201)
noncomputable def o202 (_P : Params) : Obj := ⟨(.type "function"), none, (.func fd202), #[]⟩
noncomputable def fd209 : FuncData := fnD (meth 5) (Str.ofString "Headers.__getitem__") .none .none (.str (Str.ofString "cpy313.wsgiref.headers") 468) (.ref 208)
noncomputable def o209 (_P : Params) : Obj := ⟨(.type "function"), none, (.func fd209), #[]⟩
noncomputable def o224 (_P : Params) : Obj := ⟨(.type "tuple"), none, (.seq #[.none] 0), #[]⟩
noncomputable def fd231 : FuncData := fnD (meth 8) (Str.ofString "Headers.get") (.ref 224) .none (.str (Str.ofString "cpy313.wsgiref.headers") 468) (.ref 230)
noncomputable def o231 (_P : Params) : Obj := ⟨(.type "function"), none, (.func fd231), #[]⟩
noncomputable def fd248 : FuncData := fnD (meth 11) (Str.ofString "Headers.items") .none .none (.str (Str.ofString "cpy313.wsgiref.headers") 468) (.ref 247)
noncomputable def o248 (_P : Params) : Obj := ⟨(.type "function"), none, (.func fd248), #[]⟩
noncomputable def fd260 : FuncData := fnD (meth 13) (Str.ofString "Headers.__str__") .none .none (.str (Str.ofString "cpy313.wsgiref.headers") 468) (.ref 259)
noncomputable def o260 (_P : Params) : Obj := ⟨(.type "function"), none, (.func fd260), #[]⟩
noncomputable def fd281 : FuncData := fnD (meth 16) (Str.ofString "Headers.add_header") .none .none (.str (Str.ofString "cpy313.wsgiref.headers") 468) (.ref 280)
noncomputable def o281 (_P : Params) : Obj := ⟨(.type "function"), none, (.func fd281), #[]⟩
noncomputable def o283 (_P : Params) : Obj := ⟨(.type "dict"), none, (.dict #[⟨PyData.keyHash _P (Str.ofString "__module__"), (.str (Str.ofString "__module__") 581), (.str (Str.ofString "cpy313.wsgiref.headers") 468)⟩, ⟨PyData.keyHash _P (Str.ofString "__firstlineno__"), (.str (Str.ofString "__firstlineno__") 585), (.int (74) 584)⟩, ⟨PyData.keyHash _P (Str.ofString "__init__"), (.str (Str.ofString "__init__") 595), (.ref 176)⟩, ⟨PyData.keyHash _P (Str.ofString "_convert_string_type"), (.str (Str.ofString "_convert_string_type") 605), (.ref 183)⟩, ⟨PyData.keyHash _P (Str.ofString "__len__"), (.str (Str.ofString "__len__") 612), (.ref 190)⟩, ⟨PyData.keyHash _P (Str.ofString "__setitem__"), (.str (Str.ofString "__setitem__") 621), (.ref 197)⟩, ⟨PyData.keyHash _P (Str.ofString "__delitem__"), (.str (Str.ofString "__delitem__") 627), (.ref 202)⟩, ⟨PyData.keyHash _P (Str.ofString "__getitem__"), (.str (Str.ofString "__getitem__") 635), (.ref 209)⟩, ⟨PyData.keyHash _P (Str.ofString "__contains__"), (.str (Str.ofString "__contains__") 643), (.ref 216)⟩, ⟨PyData.keyHash _P (Str.ofString "get_all"), (.str (Str.ofString "get_all") 651), (.ref 223)⟩, ⟨PyData.keyHash _P (Str.ofString "get"), (.str (Str.ofString "get") 662), (.ref 231)⟩, ⟨PyData.keyHash _P (Str.ofString "keys"), (.str (Str.ofString "keys") 668), (.ref 236)⟩, ⟨PyData.keyHash _P (Str.ofString "values"), (.str (Str.ofString "values") 674), (.ref 241)⟩, ⟨PyData.keyHash _P (Str.ofString "items"), (.str (Str.ofString "items") 681), (.ref 248)⟩, ⟨PyData.keyHash _P (Str.ofString "__repr__"), (.str (Str.ofString "__repr__") 688), (.ref 255)⟩, ⟨PyData.keyHash _P (Str.ofString "__str__"), (.str (Str.ofString "__str__") 694), (.ref 260)⟩, ⟨PyData.keyHash _P (Str.ofString "__bytes__"), (.str (Str.ofString "__bytes__") 701), (.ref 267)⟩, ⟨PyData.keyHash _P (Str.ofString "setdefault"), (.str (Str.ofString "setdefault") 710), (.ref 274)⟩, ⟨PyData.keyHash _P (Str.ofString "add_header"), (.str (Str.ofString "add_header") 723), (.ref 281)⟩, ⟨PyData.keyHash _P (Str.ofString "__static_attributes__"), (.str (Str.ofString "__static_attributes__") 725), (.ref 282)⟩, ⟨PyData.keyHash _P (Str.ofString "__dict__"), (.str (Str.ofString "__dict__") 727), (.ref 285)⟩, ⟨PyData.keyHash _P (Str.ofString "__weakref__"), (.str (Str.ofString "__weakref__") 729), (.ref 286)⟩, ⟨PyData.keyHash _P (Str.ofString "__doc__"), (.str (Str.ofString "__doc__") 730), .none⟩] 4), #[]⟩
noncomputable def o284 (_P : Params) : Obj := ⟨(.type "type"), none, (.cls (ClassData.mk (Str.ofString "Headers") [(.type "object")] [(.ref 284), (.type "object")] 283 (Str.ofString "Headers") true [] [] false none false)), #[none, none, (some (.str (Str.ofString "Headers") 574)), (some (.str (Str.ofString "Headers") 582)), (some (.builtin "object.__new__")), (some (.bool true))]⟩
noncomputable def fd293 : FuncData := fnD (top 27) (Str.ofString "_law_tree") .none .none (.str (Str.ofString "law_ti0047_01") 733) (.ref 292)
noncomputable def o293 (_P : Params) : Obj := ⟨(.type "function"), none, (.func fd293), #[]⟩
noncomputable def fd300 : FuncData := fnD (top 28) (Str.ofString "_law_need") .none .none (.str (Str.ofString "law_ti0047_01") 733) (.ref 299)
noncomputable def o300 (_P : Params) : Obj := ⟨(.type "function"), none, (.func fd300), #[]⟩
noncomputable def fd307 : FuncData := fnD (top 29) (Str.ofString "_law_hands") .none .none (.str (Str.ofString "law_ti0047_01") 733) (.ref 306)
noncomputable def o307 (_P : Params) : Obj := ⟨(.type "function"), none, (.func fd307), #[]⟩
noncomputable def fd312 : FuncData := fnD (top 30) (Str.ofString "_law_sent") .none .none (.str (Str.ofString "law_ti0047_01") 733) (.ref 311)
noncomputable def o312 (_P : Params) : Obj := ⟨(.type "function"), none, (.func fd312), #[]⟩
noncomputable def fd319 : FuncData := fnD (top 31) (Str.ofString "_law_program") .none .none (.str (Str.ofString "law_ti0047_01") 733) (.ref 318)
noncomputable def o319 (_P : Params) : Obj := ⟨(.type "function"), none, (.func fd319), #[]⟩
noncomputable def fd326 : FuncData := fnD (top 32) (Str.ofString "_law_rows") .none .none (.str (Str.ofString "law_ti0047_01") 733) (.ref 325)
noncomputable def o326 (_P : Params) : Obj := ⟨(.type "function"), none, (.func fd326), #[]⟩
noncomputable def fd333 : FuncData := fnD (top 33) (Str.ofString "_law_done") .none .none (.str (Str.ofString "law_ti0047_01") 733) (.ref 332)
noncomputable def o333 (_P : Params) : Obj := ⟨(.type "function"), none, (.func fd333), #[]⟩
noncomputable def fd340 : FuncData := fnD (top 34) (Str.ofString "_law_run") .none .none (.str (Str.ofString "law_ti0047_01") 733) (.ref 339)
noncomputable def o340 (_P : Params) : Obj := ⟨(.type "function"), none, (.func fd340), #[]⟩
noncomputable def fd345 : FuncData := fnD (top 35) (Str.ofString "_law_of_many") .none .none (.str (Str.ofString "law_ti0047_01") 733) (.ref 344)
noncomputable def o345 (_P : Params) : Obj := ⟨(.type "function"), none, (.func fd345), #[]⟩
noncomputable def fd352 : FuncData := fnD (top 36) (Str.ofString "_law_worth") .none .none (.str (Str.ofString "law_ti0047_01") 733) (.ref 351)
noncomputable def o352 (_P : Params) : Obj := ⟨(.type "function"), none, (.func fd352), #[]⟩
noncomputable def fd359 : FuncData := fnD (top 37) (Str.ofString "_law_masks") .none .none (.str (Str.ofString "law_ti0047_01") 733) (.ref 358)
noncomputable def o359 (_P : Params) : Obj := ⟨(.type "function"), none, (.func fd359), #[]⟩
noncomputable def fd364 : FuncData := fnD (top 38) (Str.ofString "_law_fewest") .none .none (.str (Str.ofString "law_ti0047_01") 733) (.ref 363)
noncomputable def o364 (_P : Params) : Obj := ⟨(.type "function"), none, (.func fd364), #[]⟩
noncomputable def fd369 : FuncData := fnD (top 39) (Str.ofString "law") .none .none (.str (Str.ofString "law_ti0047_01") 733) (.ref 368)
noncomputable def o369 (_P : Params) : Obj := ⟨(.type "function"), none, (.func fd369), #[]⟩
noncomputable def KF (P : Params) : Frag := [(42, o42 P), (43, o43 P), (47, o47 P), (48, o48 P), (52, o52 P), (53, o53 P), (60, o60 P), (67, o67 P), (74, o74 P), (81, o81 P), (88, o88 P), (95, o95 P), (102, o102 P), (109, o109 P), (116, o116 P), (123, o123 P), (130, o130 P), (131, o131 P), (138, o138 P), (147, o147 P), (148, o148 P), (152, o152 P), (153, o153 P), (169, o169 P), (176, o176 P), (183, o183 P), (190, o190 P), (197, o197 P), (202, o202 P), (209, o209 P), (224, o224 P), (231, o231 P), (248, o248 P), (260, o260 P), (281, o281 P), (283, o283 P), (284, o284 P), (293, o293 P), (300, o300 P), (307, o307 P), (312, o312 P), (319, o319 P), (326, o326 P), (333, o333 P), (340, o340 P), (345, o345 P), (352, o352 P), (359, o359 P), (364, o364 P), (369, o369 P)]
noncomputable def KA : List Addr := [42, 43, 47, 48, 52, 53, 60, 67, 74, 81, 88, 95, 102, 109, 116, 123, 130, 131, 138, 147, 148, 152, 153, 169, 176, 183, 190, 197, 202, 209, 224, 231, 248, 260, 281, 283, 284, 293, 300, 307, 312, 319, 326, 333, 340, 345, 352, 359, 364, 369]
noncomputable def KC : List (Addr × Str) := [(59, (Str.ofString "quotedata")), (66, (Str.ofString "_quote_periods")), (73, (Str.ofString "_fix_eols")), (80, (Str.ofString "add")), (87, (Str.ofString "mul")), (94, (Str.ofString "sub")), (101, (Str.ofString "xor")), (108, (Str.ofString "concat")), (115, (Str.ofString "delitem")), (122, (Str.ofString "getitem")), (129, (Str.ofString "setitem")), (137, (Str.ofString "length_hint")), (175, (Str.ofString "Headers.__init__")), (182, (Str.ofString "Headers._convert_string_type")), (189, (Str.ofString "Headers.__len__")), (196, (Str.ofString "Headers.__setitem__")), (201, (Str.ofString "Headers.__delitem__")), (208, (Str.ofString "Headers.__getitem__")), (230, (Str.ofString "Headers.get")), (247, (Str.ofString "Headers.items")), (259, (Str.ofString "Headers.__str__")), (280, (Str.ofString "Headers.add_header")), (292, (Str.ofString "_law_tree")), (299, (Str.ofString "_law_need")), (306, (Str.ofString "_law_hands")), (311, (Str.ofString "_law_sent")), (318, (Str.ofString "_law_program")), (325, (Str.ofString "_law_rows")), (332, (Str.ofString "_law_done")), (339, (Str.ofString "_law_run")), (344, (Str.ofString "_law_of_many")), (351, (Str.ofString "_law_worth")), (358, (Str.ofString "_law_masks")), (363, (Str.ofString "_law_fewest")), (368, (Str.ofString "law"))]
noncomputable def KG : List (Str × Value) := [(Str.ofString "quotedata", (.ref 60)), (Str.ofString "_quote_periods", (.ref 67)), (Str.ofString "_fix_eols", (.ref 74)), (Str.ofString "add", (.ref 81)), (Str.ofString "mul", (.ref 88)), (Str.ofString "sub", (.ref 95)), (Str.ofString "xor", (.ref 102)), (Str.ofString "concat", (.ref 109)), (Str.ofString "delitem", (.ref 116)), (Str.ofString "getitem", (.ref 123)), (Str.ofString "setitem", (.ref 130)), (Str.ofString "length_hint", (.ref 138)), (Str.ofString "_law_tree", (.ref 293)), (Str.ofString "_law_need", (.ref 300)), (Str.ofString "_law_hands", (.ref 307)), (Str.ofString "_law_sent", (.ref 312)), (Str.ofString "_law_program", (.ref 319)), (Str.ofString "_law_rows", (.ref 326)), (Str.ofString "_law_done", (.ref 333)), (Str.ofString "_law_run", (.ref 340)), (Str.ofString "_law_of_many", (.ref 345)), (Str.ofString "_law_worth", (.ref 352)), (Str.ofString "_law_masks", (.ref 359)), (Str.ofString "_law_fewest", (.ref 364)), (Str.ofString "law", (.ref 369)), (Str.ofString "CRLF", (.str (Str.mk #[13, 10]) 365)), (Str.ofString "Headers", (.ref 284)), (Str.ofString "_twin_re_1", (.ref 43)), (Str.ofString "_twin_re_2", (.ref 48)), (Str.ofString "_twin_re_3", (.ref 53)), (Str.ofString "_name_disallowed_re", (.ref 148)), (Str.ofString "_value_disallowed_re", (.ref 153))]
noncomputable def KB : List Str := [Str.ofString "len", Str.ofString "str", Str.ofString "range", Str.ofString "min", Str.ofString "max", Str.ofString "type", Str.ofString "tuple", Str.ofString "int", Str.ofString "isinstance", Str.ofString "hasattr", Str.ofString "list", Str.ofString "TypeError", Str.ofString "sum", Str.ofString "AttributeError", Str.ofString "NotImplemented"]
noncomputable def codeOk (h : Heap) (p : Addr × Str) : Bool := match h.get? p.1 with
  | some ⟨_, _, .fields vs, _⟩ => (match vs.toList with | _ :: .str n _ :: _ => n == p.2 | _ => false)
  | _ => false
theorem codeRec_ok {h : Heap} {p : Addr × Str} (e : codeOk h p = true) : h.CodeRec (.ref p.1) p.2 := by
  unfold codeOk at e
  split at e
  · rename_i vs _ ho
    split at e
    · rename_i a n t r hv
      exact ⟨_, _, vs, t, rfl, ho, rfl, by rw [← Array.getElem?_toList, hv, ← beq_iff_eq.mp e]; rfl⟩
    · cases e
  · cases e
structure GdK (P : Params) (h : Heap) : Prop where
  X : (KF P).In h
  codes : ∀ p ∈ KC, h.CodeRec (.ref p.1) p.2
  mg : ∃ mg, h.Ns mainGlobals mg ∧ (∀ p ∈ KG, mg p.1 = some p.2) ∧ ∀ b ∈ KB, mg b = none
theorem GdK.keeps {P : Params} {h h' : Heap} (x : GdK P h) (hk : ∀ b o, h.get? b = some o → h'.get? b = some o) : GdK P h' :=
  ⟨x.X.keeps hk, fun p hp => (x.codes p hp).keeps hk, let ⟨mg, a, b⟩ := x.mg; ⟨mg, a.keeps hk, b⟩⟩
noncomputable def hookA := List (Option Obj) × List Bool × Bool × List (Option Value)
noncomputable def hook : Hook where
  α := hookA
  obs s := (KA.map s.heap.get?, KC.map (codeOk s.heap), s.heap.isNs mainGlobals, (KG.map (·.1) ++ KB).map (s.heap.nsMap mainGlobals))
  val w := ((KF w.params).map fun p => some p.2, KC.map fun _ => true, true, (KG.map fun p => some p.2) ++ KB.map fun _ => none)
  says w h := GdK w.params h
  of w s e := by
    obtain ⟨e1, e2⟩ := Prod.mk.inj e
    obtain ⟨e2, e3⟩ := Prod.mk.inj e2
    obtain ⟨e3, e4⟩ := Prod.mk.inj e3
    refine ⟨Frag.in_of rfl e1, fun p hp => codeRec_ok ?_, s.heap.nsMap mainGlobals, .of_isNs e3, fun p hp => ?_, fun b hb => ?_⟩
    · obtain ⟨i, hi, rfl⟩ := List.getElem_of_mem hp
      have := congrArg (fun l => l[i]?) e2
      simpa [hi] using this
    · rw [List.map_append, List.map_map] at e4
      have := List.append_inj_left e4 (by simp)
      obtain ⟨i, hi, rfl⟩ := List.getElem_of_mem hp
      have := congrArg (fun l => l[i]?) this
      simpa [hi] using this
    · rw [List.map_append, List.map_map] at e4
      have := List.append_inj_right e4 (by simp)
      obtain ⟨i, hi, rfl⟩ := List.getElem_of_mem hb
      have := congrArg (fun l => l[i]?) this
      simpa [hi] using this
  keeps w h h' x k := x.keeps k
structure Gd (P : Params) (h : Heap) : Prop extends GdK P h where
  mb : ∃ mb, h.Ns builtinsNs mb ∧ ∀ x : Str, x ≠ "__name__" → mb x = bootBuiltins x
  nolimit : h.NoLimit
  nodigits : ∃ mc, h.Ns cStatics mc ∧ mc "sys.int_max_str_digits" = none
theorem Gd.keeps {P : Params} {h h' : Heap} (x : Gd P h) (hk : ∀ b o, h.get? b = some o → h'.get? b = some o) : Gd P h' :=
  ⟨x.toGdK.keeps hk, let ⟨mb, a, b⟩ := x.mb; ⟨mb, a.keeps hk, b⟩, x.nolimit.keeps hk, let ⟨mc, a, b⟩ := x.nodigits; ⟨mc, a.keeps hk, b⟩⟩
noncomputable def qv : Program := { pw with main := { pw.main with body := pw.main.body.drop 39 } }
noncomputable def looseN : List Str := ["_wall", "_twin_re_1", "_twin_re_2", "_twin_re_3", "CRLF", "quotedata", "_quote_periods", "_fix_eols", "add", "mul", "sub", "xor", "concat", "delitem", "getitem", "setitem", "length_hint", "tspecials", "_name_disallowed_re", "_value_disallowed_re", "_formatparam", "Headers", "_law_tree", "_law_need", "_law_hands", "_law_sent", "_law_program", "_law_rows", "_law_done", "_law_run", "_law_of_many", "_law_worth", "_law_masks", "_law_fewest", "_sre", "__name__"].map Str.ofString
theorem topLeft : LeftO PySem.Challenge.rw_ti0047_01.row.prog qv looseN (fun s => xlAt qv [] s && recOk (RowW.records PySem.Challenge.rw_ti0047_01.row.toRowW) s) hook.obs hook.val 4200 := by
  intro w
  kernel_rfl
end Mine
end
section
open PySem PySem.W PyProof.Rows PySem.Calls PySem.Spec
set_option Elab.async false
set_option maxRecDepth 100000
namespace Mine
theorem good_end {s₀ s₁ s' : Shared} {ns : List Int} {v : Value} (h : v = .bool true ∧ (∀ b o, s₁.heap.get? b = some o → s'.heap.get? b = some o) ∧ s'.gens = #[] ∧ s'.os = s₁.os)
  (hr : ∀ cls, PySem.Challenge.rw_ti0047_01.row.toRowW.claim.raises [ofPy (.list (ns.map .int))] cls = false)
  (hp : PySem.Challenge.rw_ti0047_01.row.toRowW.claim.post [ofPy (.list (ns.map .int))] (.bool true) [ofPy (.list (ns.map .int))] = true) :
    GoodWG PySem.Challenge.rw_ti0047_01.row.toRowW.claim (classAt s₀.heap) (ExcName.means s₀.heap) [ofPy (.list (ns.map .int))] s₁ (.ok (.ret v)) s' := by
  obtain ⟨rfl, k, g, o⟩ := h
  exact ⟨.inl ⟨_, _, [], rfl, hr, ReadsW.bool true, hp, fun _ => ⟨List.nodup_nil, fun _ hm => (nomatch hm)⟩⟩, OldK.of_keep k, o, g ▸ AllBare.empty⟩
noncomputable def LawRuns : Prop := ∀ (w : World) (s₁ : Shared), Gd w.params s₁.heap → s₁.gens = #[] → ∀ (l : Addr) (vs : List Value) (ns : List Int), s₁.heap.IsList l vs.toArray → IntsAre vs ns → ns.length ≤ 63 →
  (PyData.list (ns.map PyData.int)).layable0 = true →
  wpAny (model pw w) callerA (call (.ref 369) [.ref l]) (fun v s' => v = .bool true ∧ (∀ b o, s₁.heap.get? b = some o → s'.heap.get? b = some o) ∧ s'.gens = #[] ∧ s'.os = s₁.os) (fun _ _ => False) s₁
set_option maxHeartbeats 0 in
theorem holds_row (H : LawRuns) (k1 : PySem.Challenge.rw_ti0047_01.row.wellSaid = true) : PySem.Challenge.rw_ti0047_01.row.Holds := by
  refine holds_open (q := qv) (loose := looseN) (Xt := fun s => xlAt qv [] s && recOk (RowW.records PySem.Challenge.rw_ti0047_01.row.toRowW) s) (XP := XL qv []) (Yf := hook.obs) (Ya := hook.val) (YP := hook.says) (N := 4200) topLeft hook.of hook.keeps
    (fun s e => xl_of s (Bool.and_eq_true_iff.mp e).1) XL.keeps (by rfl) (by rfl) (by rfl) (fun s e => recFacts_of (Bool.and_eq_true_iff.mp e).2) (by rfl) k1 (by decide +kernel) ⟨rfl, rfl, rfl, rfl, rfl, by decide +kernel⟩ ?hw ?hc
  case hw => w_witness2
  case hc =>
    intro w s₀ s₁ mg mb G Y a o pm cd doc dV kV ho hd hcd hD hmg hg args vals as hpre hlay hrd hwl hlo
    refine Ground.open G ?_
    intro T B D TE TW
    wrow_args hpre hlay hrd hwl hlo
    have Y' : GdK w.params s₁.heap := Y
    obtain ⟨mg', hmn, hmk, hmb⟩ := Y'.mg
    have hme : mg' = mg := by
      funext x
      obtain ⟨o1, es1, ep1, h1, d1, _, e1⟩ := hmn
      obtain ⟨o2, es2, ep2, h2, d2, _, e2⟩ := T.g
      rw [h1] at h2; cases h2; rw [d1] at d2; cases d2
      rw [← e1, ← e2]
    subst hme
    have e369 : mg' (Str.ofString "law") = some (.ref 369) := hmk (Str.ofString "law", .ref 369) (by decide +kernel)
    have ea : (Value.ref a) = .ref 369 := Option.some.inj ((show mg' (Str.ofString "law") = some (.ref a) from hmg).symm.trans e369)
    cases ea
    have Gk : Gd w.params s₁.heap := ⟨Y', ⟨mb, T.b, T.builtins⟩, T.nolimit, T.nodigits⟩
    refine wpAny_mono (H w s₁ Gk hg _ _ _ (by assumption) (by assumption) (by omega) (by assumption)) (fun v s' h => ?_) fun _ _ h => h.elim
    exact good_end h (fun _ => rfl) (postW_of rfl (w_eq_bool (w_res rfl) w_lit) rfl)
set_option maxHeartbeats 0 in
theorem law_holds (H : LawRuns) : PySem.Challenge.rw_ti0047_01.Holds := by
  w_on
  o_law
  exact holds_row H (by assumption)
end Mine
end
section
open PySem PySem.W PyProof.Rows PySem.Calls PySem.Spec
set_option Elab.async false
set_option maxRecDepth 100000
namespace Mine
noncomputable abbrev Led := List (Addr × Obj)
noncomputable abbrev Mp := Str → Option Value
noncomputable def lk (l : List (Str × Value)) : Mp := fun x => l.lookup x
noncomputable def up (m : Mp) (x : Str) (v : Value) : Mp := fun y => if y = x then some v else m y
theorem up_lk (l : List (Str × Value)) (x : Str) (v : Value) : up (lk l) x v = lk ((x, v) :: l) := by
  funext y
  unfold up lk
  rw [List.lookup_cons]
  by_cases h : y = x
  · subst h; simp
  · have h2 : (y == x) = false := beq_eq_false_iff_ne.mpr h
    rw [if_neg h, h2]
/-- what a frame knows: S the state whose generators and streams stay, h₀ what stands as it was, L the locals' place, m the locals, N the ledger -/
structure Fm (S : Shared) (h₀ : Heap) (L : Addr) (m : Mp) (N : Led) (s : Shared) : Prop where
  fr : Fr h₀ L s.heap m
  nw : News h₀ L s.heap N
  ge : s.gens = S.gens
  os : s.os = S.os
structure Rm (A : Around) (n : Nat) : Prop where
  dp : A.depth + n < 990
  un : A.units + 40 * n < 9800
  hd : A.handled = none
structure EnvOk (env : Env) (L : Addr) : Prop where
  kind : env.scope.kind = .function
  locals : env.locals = L
  globals : env.globals = mainGlobals
  builtins : env.builtins = builtinsNs
theorem Rm.le {A : Around} {n k : Nat} (r : Rm A n) (h : k ≤ n) : Rm A k := ⟨by have := r.dp; omega, by have := r.un; omega, r.hd⟩
theorem Rm.deeper {A : Around} {n : Nat} (r : Rm A (n + 1)) (env : Env) : Rm (A.deeper env) n := ⟨by show A.depth + 1 + n < _; have := r.dp; omega, by show A.units + 3 + 40 * n < _; have := r.un; omega, r.hd⟩
theorem Rm.in1 {A : Around} {n : Nat} (r : Rm A (n + 1)) : Rm A.in1 n := ⟨by show A.depth + n < _; have := r.dp; omega, by show A.units + 1 + 40 * n < _; have := r.un; omega, r.hd⟩
theorem Rm.lim {A : Around} {n : Nat} (r : Rm A n) : A.depth < recursionLimit := by have := r.dp; show A.depth < 1000; omega
theorem Rm.line {A : Around} {n : Nat} (r : Rm A n) : A.units < cLine := by have := r.un; show A.units < 9900; omega
section
variable {S : Shared} {h₀ : Heap} {L : Addr} {m : Mp} {N : Led} {s : Shared}
theorem Fm.tk (F : Fm S h₀ L m N s) (t : Nat) : Fm S h₀ L m N { s with toks := t } := ⟨F.fr, F.nw, F.ge, F.os⟩
theorem Fm.push (F : Fm S h₀ L m N s) (o : Obj) (hf : o.isFreed = false := by rfl) : Fm S h₀ L m ((s.heap.objs.size, o) :: N) { s with heap := s.heap.push o } := ⟨F.fr.push _, F.nw.push F.fr _ hf, F.ge, F.os⟩
theorem Fm.ext (F : Fm S h₀ L m N s) {s' : Shared} (hk : ∀ b o, s.heap.get? b = some o → s'.heap.get? b = some o) (hg : s'.gens = s.gens) (ho : s'.os = s.os) : Fm S h₀ L m N s' :=
  ⟨F.fr.keeps hk, fun p hp => ⟨hk _ _ (F.nw p hp).1, (F.nw p hp).2⟩, hg.trans F.ge, ho.trans F.os⟩
theorem Fm.sub {N' : Led} (F : Fm S h₀ L m N s) (h : ∀ p ∈ N', p ∈ N) : Fm S h₀ L m N' s := ⟨F.fr, fun p hp => F.nw p (h p hp), F.ge, F.os⟩
theorem Fm.get (F : Fm S h₀ L m N s) {a : Addr} {o : Obj} (h : (a, o) ∈ N) : s.heap.get? a = some o := (F.nw _ h).1
theorem Fm.old (F : Fm S h₀ L m N s) {a : Addr} {o : Obj} (h : h₀.get? a = some o) : s.heap.get? a = some o := F.fr.keep _ _ h
end
section
variable {w : World} {A : Around} {E : Value → Shared → Prop} {S : Shared} {h₀ : Heap} {L : Addr} {m : Mp} {N : Led} {s : Shared} {env : Env} {P : Params}
theorem nL {x : Str} {pos : Pos} {v : Value} {Q : Value → Shared → Prop} {M : Model} (hE : EnvOk env L) (F : Fm S h₀ L m N s) (hk : env.kindOf x = some .local) (hv : m x = some v) (h : Q v s)
    (hd : (x == ("__debug__" : Str)) = false := by kernel_rfl) : wpAny M A (eval (.Name x pos) env) Q E s :=
  wpAny_Name (wpAny_loadName_local hE.kind hk (hE.locals ▸ F.fr.ns) hv h) hd
theorem nG {x : Str} {pos : Pos} {v : Value} {Q : Value → Shared → Prop} {M : Model} (hE : EnvOk env L) (G : Gd P h₀) (F : Fm S h₀ L m N s) (hk : env.kindOf x = some .globalImplicit) (hv : (x, v) ∈ KG) (h : Q v s)
    (hd : (x == ("__debug__" : Str)) = false := by kernel_rfl) : wpAny M A (eval (.Name x pos) env) Q E s := by
  obtain ⟨mg, a, b, _⟩ := G.mg
  exact Name_function_global hE.kind hk (loadGlobal_global (hE.globals ▸ a.keeps F.fr.keep) (b _ hv) h) hd
theorem nB {x : Str} {pos : Pos} {v : Value} {Q : Value → Shared → Prop} {M : Model} (hE : EnvOk env L) (G : Gd P h₀) (F : Fm S h₀ L m N s) (hk : env.kindOf x = some .globalImplicit) (hm : x ∈ KB) (hb : bootBuiltins x = some v) (h : Q v s)
    (hx : x ≠ "__name__" := by decide +kernel) (hd : (x == ("__debug__" : Str)) = false := by kernel_rfl) : wpAny M A (eval (.Name x pos) env) Q E s := by
  obtain ⟨mg, a, _, b⟩ := G.mg
  obtain ⟨mb, c, d⟩ := G.mb
  exact Name_function_global hE.kind hk (loadGlobal_builtin (hE.globals ▸ a.keeps F.fr.keep) (b _ hm) (hE.builtins ▸ c.keeps F.fr.keep) ((d _ hx).trans hb) h) hd
theorem cI {i : Int} {kk} {pos : Pos} {Q : Value → Shared → Prop} {M : Model} (F : Fm S h₀ L m N s) (h : ∀ t s', Fm S h₀ L m N s' → Q (.int i t) s') : wpAny M A (eval (.Constant (.int i) kk pos) env) Q E s :=
  wpAny_Constant_int (h _ _ (F.tk _))
theorem cS {x : Str} {kk} {pos : Pos} {Q : Value → Shared → Prop} {M : Model} (F : Fm S h₀ L m N s) (h : ∀ t s', Fm S h₀ L m N s' → Q (.str x t) s') : wpAny M A (eval (.Constant (.str x) kk pos) env) Q E s :=
  wpAny_Constant_str (h _ _ (F.tk _))
theorem st {x : Str} {v : Value} {Q : Unit → Shared → Prop} {M : Model} (hE : EnvOk env L) (F : Fm S h₀ L m N s) (hk : env.kindOf x = some .local) (h : ∀ s', Fm S h₀ L (up m x v) N s' → Q () s') : wpAny M A (storeName env x v) Q E s := by
  have F' := hE.locals ▸ F.fr
  refine wpAny_storeName_local hk F'.ns (fun h' hn hs => h _ ?_) ?_
  · have e := hE.locals
    subst e
    exact ⟨F.fr.set hn hs, F.nw.set hs, F.ge, F.os⟩
  · rw [hE.kind]; rfl
theorem args1 {e : Expr} {pos : Pos} {Q : List Value → Shared → Prop} {M : Model} (h : wpAny M A (eval e env) (fun v s₁ => Q [v] s₁) E s) (he : starEach [e] env = [(false, eval e env)] := by rfl) :
    wpAny M A (spliced (backTo pos (starEach [e] env))) Q E s := by
  rw [he]; exact spliced_cons (wpAny_mono h (fun v s₁ h₁ => spliced_nil h₁) fun _ _ x => x)
theorem args2 {e e' : Expr} {pos : Pos} {Q : List Value → Shared → Prop} {M : Model} (h : wpAny M A (eval e env) (fun v s₁ => wpAny M A (eval e' env) (fun v' s₂ => Q [v, v'] s₂) E s₁) E s)
    (he : starEach [e, e'] env = [(false, eval e env), (false, eval e' env)] := by rfl) : wpAny M A (spliced (backTo pos (starEach [e, e'] env))) Q E s := by
  rw [he]; exact spliced_cons (wpAny_mono h (fun v s₁ h₁ => spliced_cons (wpAny_mono h₁ (fun v' s₂ h₂ => spliced_nil h₂) fun _ _ x => x)) fun _ _ x => x)
theorem args3 {e e' e'' : Expr} {pos : Pos} {Q : List Value → Shared → Prop} {M : Model} (h : wpAny M A (eval e env) (fun v s₁ => wpAny M A (eval e' env) (fun v' s₂ => wpAny M A (eval e'' env) (fun v'' s₃ => Q [v, v', v''] s₃) E s₂) E s₁) E s)
    (he : starEach [e, e', e''] env = [(false, eval e env), (false, eval e' env), (false, eval e'' env)] := by rfl) : wpAny M A (spliced (backTo pos (starEach [e, e', e''] env))) Q E s := by
  rw [he]; exact spliced_cons (wpAny_mono h (fun v s₁ h₁ => spliced_cons (wpAny_mono h₁ (fun v' s₂ h₂ => spliced_cons (wpAny_mono h₂ (fun v'' s₃ h₃ => spliced_nil h₃) fun _ _ x => x)) fun _ _ x => x)) fun _ _ x => x)
/-- a call by name of a def of the top; the argument list is not empty -/
theorem callG {x : Str} {p pos : Pos} {f : Addr} {fd : FuncData} {oc od osl} {e : Expr} {rest : List Expr} {Q : Value → Shared → Prop} {M : Model} (hE : EnvOk env L) (G : Gd P h₀) (F : Fm S h₀ L m N s) (hk : env.kindOf x = some .globalImplicit) (hv : (x, .ref f) ∈ KG)
    (ho : (KF P).lookup f = some ⟨oc, od, .func fd, osl⟩)
    (h : wpAny M A (spliced (backTo pos (starEach (e :: rest) env))) (fun vs s₁ => (∀ b o, h₀.get? b = some o → s₁.heap.get? b = some o) ∧ wpAny M A (call (.ref f) vs) Q E s₁) E s)
    (he : starEach (e :: rest) env = (false, eval e env) :: starEach rest env := by rfl) (hd : (x == ("__debug__" : Str)) = false := by kernel_rfl) :
    wpAny M A (eval (.Call (.Name x p) (e :: rest) [] pos) env) Q E s := by
  show wpAny M A (eval (.Name x p) env >>= fun f => callWith pos f [] (backTo pos (starEach (e :: rest) env)) []) Q E s
  refine wpAny_bind (nG hE G F hk hv ?_ hd)
  refine callWith_function (o := ⟨oc, od, .func fd, osl⟩) (fd := fd) ?_
  rw [he] at h ⊢
  refine evalArgs_plain (wpAny_mono h (fun vs s₁ h₁ => ⟨⟨h₁.1 _ _ (G.X _ _ ho), rfl⟩, h₁.2⟩) fun _ _ x => x)
theorem callGt {x : Str} {p pos : Pos} {T : String} {e : Expr} {rest : List Expr} {Q : Value → Shared → Prop} {M : Model} (hE : EnvOk env L) (G : Gd P h₀) (F : Fm S h₀ L m N s) (hk : env.kindOf x = some .globalImplicit) (hm : x ∈ KB) (hb : bootBuiltins x = some (.type T))
    (h : wpAny M A (spliced (backTo pos (starEach (e :: rest) env))) (fun vs s₁ => wpAny M A (call (.type T) vs) Q E s₁) E s)
    (he : starEach (e :: rest) env = (false, eval e env) :: starEach rest env := by rfl) (hplain : (backTo pos (starEach rest env)).any (·.1) = false := by rfl)
    (hx : x ≠ "__name__" := by decide +kernel) (hd : (x == ("__debug__" : Str)) = false := by kernel_rfl) :
    wpAny M A (eval (.Call (.Name x p) (e :: rest) [] pos) env) Q E s := by
  show wpAny M A (eval (.Name x p) env >>= fun f => callWith pos f [] (backTo pos (starEach (e :: rest) env)) []) Q E s
  exact wpAny_bind (nB hE G F hk hm hb (PyProof.Rows.callWith_type1 h he hplain) hx hd)
theorem callGb {x : Str} {p pos : Pos} {T : String} {e : Expr} {rest : List Expr} {Q : Value → Shared → Prop} {M : Model} (hE : EnvOk env L) (G : Gd P h₀) (F : Fm S h₀ L m N s) (hk : env.kindOf x = some .globalImplicit) (hm : x ∈ KB) (hb : bootBuiltins x = some (.builtin T))
    (h : wpAny M A (spliced (backTo pos (starEach (e :: rest) env))) (fun vs s₁ => wpAny M A (call (.builtin T) vs) Q E s₁) E s)
    (he : starEach (e :: rest) env = (false, eval e env) :: starEach rest env := by rfl) (hplain : (backTo pos (starEach rest env)).any (·.1) = false := by rfl)
    (hx : x ≠ "__name__" := by decide +kernel) (hd : (x == ("__debug__" : Str)) = false := by kernel_rfl) :
    wpAny M A (eval (.Call (.Name x p) (e :: rest) [] pos) env) Q E s := by
  show wpAny M A (eval (.Name x p) env >>= fun f => callWith pos f [] (backTo pos (starEach (e :: rest) env)) []) Q E s
  exact wpAny_bind (nB hE G F hk hm hb (PyProof.Rows.callWith_builtin1 h he hplain) hx hd)
noncomputable def retv (fl : Flow) : Value := match fl with | .ret v => v | _ => .none
theorem callEnvOk (fd : FuncData) (L f : Addr) (hg : fd.globals = mainGlobals) (hb : fd.builtins = builtinsNs) (hk : fd.scope.kind = .function) : EnvOk (callEnv fd L f) L := ⟨hk, rfl, hg, hb⟩
/-- the entry into a def of the top: its frame, and the road back -/
theorem r_code {f c : Addr} {fd : FuncData} {oc od osl} {body : List Stmt} {args : Args} {binds : List (Str × Value)} {Rr : Result → Shared → Prop} {n : Nat}
    (G : Gd P h₀) (F : Fm S h₀ L m N s) (R : Rm A n) (ho : (KF P).lookup f = some ⟨oc, od, .func fd, osl⟩) (hc : (c, fd.qualname) ∈ KC) (hcd : fd.code = .ref c) (hb : fd.body = .stmts body)
    (hbind : ∀ s : Shared, (KF P).In s.heap → BindsTo s fd args binds) (hcell : ∀ x ∈ fd.scope.names, x.2 ≠ .cell) (hloc : ∀ x ∈ binds, fd.scope.names.lookup x.1 = some .local)
    (k : ∀ g L' s₁, Gd P g → Fm S g L' (lk binds.reverse) N s₁ → (∀ b o, h₀.get? b = some o → g.get? b = some o) → (∀ s' N' m', Fm S g L' m' N' s' → Fm S h₀ L m N' s') →
      wpAny (model pw w) (A.deeper (callEnv fd L' f)) (execs body (callEnv fd L' f)) (fun fl s' => Rr (.ok (.ret (retv fl))) s') (fun _ _ => False) s₁)
    (hco : fd.scope.isCoroutine = false := by kernel_rfl) (hgen : fd.scope.isGenerator = false := by kernel_rfl) (hk : fd.scope.kind = .function := by kernel_rfl) :
    codeAny (model pw w) A (.call (.ref f) args) Rr s := by
  have kp := F.fr.keep
  refine codeAny_call_def (fd := fd) (body := body) (binds := binds) R.lim (kp _ _ (G.X _ _ ho)) rfl (G.nolimit.keeps kp) (hcd ▸ (G.codes _ hc).keeps kp) hb (hbind s (G.X.keeps kp)) hcell hloc (fun h₁ hns hk₁ => ?_) hco hgen hk
  have nm : ∀ b o, h₀.get? b = some o → b ∉ N.map (·.1) := fun b o e q => by
    obtain ⟨p, hp, rfl⟩ := List.mem_map.mp q
    rw [(F.nw p hp).2.2] at e; cases e
  have stays : ∀ b o, h₀.get? b = some o → (hideAll s.heap (N.map (·.1))).get? b = some o := fun b o e => hideAll_get _ (kp b o e) (nm b o e)
  obtain ⟨oL, es, ep, hL, hLd, hLk, hLf⟩ := F.fr.ns
  have nL : L ∉ N.map (·.1) := fun q => by
    obtain ⟨p, hp, e⟩ := List.mem_map.mp q
    exact (F.nw p hp).2.1 e
  have hLg := hideAll_get (N.map (·.1)) hL nL
  refine wpAny_mono (k _ s.heap.objs.size _ (G.keeps stays) ⟨⟨hns, fun b o e => hk₁ b o (of_hideAll _ e), Nat.le_of_eq (hideAll_size _ _)⟩,
    fun p hp => ⟨hk₁ _ _ (F.nw p hp).1, Nat.ne_of_lt (Heap.lt_size (F.nw p hp).1), hideAll_none _ (List.mem_map_of_mem hp)⟩, F.ge, F.os⟩ stays fun s' N' m' F' => ?_) (fun fl s' q => ?_) fun _ _ y => y.elim
  · refine ⟨⟨⟨oL, es, ep, F'.fr.keep L oL hLg, hLd, hLk, hLf⟩, fun b o e => F'.fr.keep b o (stays b o e), F.fr.above⟩, fun p hp => ⟨(F'.nw p hp).1, fun q => ?_, ?_⟩, F'.ge, F'.os⟩
    · have := (F'.nw p hp).2.2; rw [q, hLg] at this; cases this
    · cases q : h₀.get? p.1 with
      | none => rfl
      | some o => have := (F'.nw p hp).2.2; rw [stays _ _ q] at this; cases this
  · unfold retv at q; exact q
theorem r_call {f c : Addr} {fd : FuncData} {oc od osl} {body : List Stmt} {args : Args} {binds : List (Str × Value)} {Q : Value → Shared → Prop} {n : Nat}
    (G : Gd P h₀) (F : Fm S h₀ L m N s) (R : Rm A n) (ho : (KF P).lookup f = some ⟨oc, od, .func fd, osl⟩) (hc : (c, fd.qualname) ∈ KC) (hcd : fd.code = .ref c) (hb : fd.body = .stmts body)
    (hbind : ∀ s : Shared, (KF P).In s.heap → BindsTo s fd args binds) (hcell : ∀ x ∈ fd.scope.names, x.2 ≠ .cell) (hloc : ∀ x ∈ binds, fd.scope.names.lookup x.1 = some .local)
    (k : ∀ g L' s₁, Gd P g → Fm S g L' (lk binds.reverse) N s₁ → (∀ b o, h₀.get? b = some o → g.get? b = some o) → (∀ s' N' m', Fm S g L' m' N' s' → Fm S h₀ L m N' s') →
      wpAny (model pw w) (A.deeper (callEnv fd L' f)) (execs body (callEnv fd L' f)) (fun fl s' => Q (retv fl) s') (fun _ _ => False) s₁)
    (hco : fd.scope.isCoroutine = false := by kernel_rfl) (hgen : fd.scope.isGenerator = false := by kernel_rfl) (hk : fd.scope.kind = .function := by kernel_rfl) :
    wpAny (model pw w) A (call (.ref f) args.pos args.kw) Q E s :=
  wpAny_call (r_code (Rr := fun r s' => match r with | .ok (.ret v) => Q v s' | .ok _ => False | .error e => E e s') G F R ho hc hcd hb hbind hcell hloc k hco hgen hk)
end
end Mine
end
section
open PySem PySem.W PyProof.Rows PySem.Calls PySem.Spec
set_option Elab.async false
set_option maxRecDepth 100000
namespace Mine
theorem keepBut {h h' : Heap} (k : Heap.ExtBut h.objs.size h h') : ∀ b o, h.get? b = some o → h'.get? b = some o := fun b o e => k b o (Nat.ne_of_lt (Heap.lt_size e)) e
noncomputable abbrev tupO (vs : List Value) : Obj := { cls := .type "tuple", data := .seq vs.toArray }
noncomputable abbrev lstO (vs : List Value) (n : Nat := 0) : Obj := { cls := .type "list", data := .seq vs.toArray n }
section
variable {w : World} {A : Around} {E : Value → Shared → Prop} {S : Shared} {h₀ : Heap} {L : Addr} {m : Mp} {N : Led} {s : Shared} {env : Env} {P : Params} {prog : Program}
theorem isTup (F : Fm S h₀ L m N s) {a : Addr} {vs : List Value} (h : (a, tupO vs) ∈ N) : IsTup s.heap a vs.toArray := ⟨_, F.get h, rfl, _, rfl⟩
theorem lenTup {a : Addr} {vs : List Value} {Q : Value → Shared → Prop} (F : Fm S h₀ L m N s) (h : (a, tupO vs) ∈ N) (k : ∀ t s', Fm S h₀ L m N s' → Q (.int vs.length t) s') (hs : vs.length < 2 ^ 62 := by exact Nat.le_of_ble_eq_true rfl) :
    wpAny (model prog w) A (call (.builtin "len") [.ref a]) Q E s :=
  PyProof.Rows.len_tuple (isTup F h) (by rw [List.size_toArray]; omega) (by rw [List.size_toArray]; exact k _ _ ((F.tk _).tk _))
theorem itTup {a : Addr} {vs : List Value} {k : Int} {u : Tok} {v : Value} {value : Expr} {kk} {p : Pos} {Q : Value → Shared → Prop} (F : Fm S h₀ L m N s) (h : (a, tupO vs) ∈ N) (hv : vs[k.toNat]? = some v) (q : Q v s) (h0 : 0 ≤ k := by decide) (h1 : k < 1000 := by decide) :
    wpAny (model prog w) A (subscriptTail value (.Constant (.int k) kk p) (.ref a) (.int k u)) Q E s := by
  have hl : k.toNat < vs.length := (List.getElem?_eq_some_iff.mp hv).1
  refine item_tupleT (j := k.toNat) (isTup F h) (by omega) (by omega) ?_ hv q rfl
  unfold seqIndex?
  first
  | (rw [if_neg (by omega)]; simp; omega)
  | (simp; omega)
/-- names loaded from a tuple's place -/
theorem subC {value : Expr} {i : Int} {kk} {p pos : Pos} {Q : Value → Shared → Prop} {M : Model} (h : wpAny M A (eval value env) (fun o s₁ => ∀ t, wpAny M A (subscriptTail value (.Constant (.int i) kk p) o (.int i t)) Q E { s₁ with toks := s₁.toks + 1 }) E s) :
    wpAny M A (eval (.Subscript value (.Constant (.int i) kk p) pos) env) Q E s :=
  Subscript_ (wpAny_mono h (fun o s₁ h₁ => wpAny_Constant_int (h₁ _)) fun _ _ x => x)
theorem unpk {a : Addr} {vs : List Value} {n : Nat} {Q : List Value → Shared → Prop} (R : A.handled = none) (F : Fm S h₀ L m N s) (h : (a, tupO vs) ∈ N) (hn : n = vs.length) (k : ∀ s', Fm S h₀ L m N s' → Q vs s') : wpAny (model prog w) A (unpackItems (.ref a) n none) Q E s := by
  subst hn
  have e : vs.length = vs.toArray.size := (List.size_toArray ..).symm
  rw [e]
  refine wpAny_unpackItems_tuple R ⟨_, F.get h, rfl, _, rfl⟩ (fun h' he => ?_)
  exact k _ (F.ext (keepBut he) rfl rfl)
theorem bn {x : Str} {v : Value} {Q : Unit → Shared → Prop} {M : Model} (hE : EnvOk env L) (F : Fm S h₀ L m N s) (hk : env.kindOf x = some .local) (h : ∀ s', Fm S h₀ L (up m x v) N s' → Q () s') : wpAny M A (bindName env x v) Q E s :=
  wpAny_bindName (st hE F hk h)
theorem tupN {vs : List Value} {Q : Value → Shared → Prop} {M : Model} (F : Fm S h₀ L m N s) (k : ∀ a s', Fm S h₀ L m ((a, tupO vs) :: N) s' → Q (.ref a) s') (hs : vs.length ≤ sizeLine := by exact Nat.le_of_ble_eq_true rfl) : wpAny M A (newTuple vs) Q E s :=
  wpAny_newTuple (k _ _ (F.push _)) hs
theorem lstN {vs : List Value} {Q : Value → Shared → Prop} {M : Model} (F : Fm S h₀ L m N s) (k : ∀ a s', Fm S h₀ L m ((a, lstO vs) :: N) s' → Q (.ref a) s') (hs : vs.length ≤ sizeLine := by exact Nat.le_of_ble_eq_true rfl) : wpAny M A (newList vs) Q E s :=
  wpAny_newList (k _ _ (F.push _)) hs
/-- one, two = (e, e') : the stores exchanged -/
theorem asg2 {e e' : Expr} {k k' : Nat} {x y : Str} {p p' tp vp pos : Pos} {Q : Flow → Shared → Prop} (R : A.handled = none) (hE : EnvOk env L) (hx : env.kindOf x = some .local) (hy : env.kindOf y = some .local)
    (h : wpAny (model prog w) A (eval e env) (fun v s₁ => wpAny (model prog w) A (eval e' env) (fun v' s₂ => ∃ S h₀ N m, Fm S h₀ L m N s₂ ∧ ∀ a s', Fm S h₀ L (up (up m y v') x v) ((a, tupO [v, v']) :: N) s' → Q .next s') E s₁) E s)
    (hs : swapsWithSole [.Tuple [.Name x p, .Name y p'] k tp] (.Tuple [e, e'] k' vp) pos.line env = pure false := by kernel_rfl)
    (hw : swappedStores [.Tuple [.Name x p, .Name y p'] k tp] (.Tuple [e, e'] k' vp) env = pure (some [x, y]) := by kernel_rfl) (he : starEach [e, e'] env = [(false, eval e env), (false, eval e' env)] := by rfl) :
    wpAny (model prog w) A (exec (.Assign [.Tuple [.Name x p, .Name y p'] k tp] (.Tuple [e, e'] k' vp) pos) env) Q E s := by
  refine Assign_Tuple_swapped (names := [x, y]) ?_ hs hw
  refine Tuple_ (args2 (wpAny_mono h (fun v s₁ h₁ => wpAny_mono h₁ (fun v' s₂ h₂ => ?_) fun _ _ x => x) fun _ _ x => x) he)
  obtain ⟨S, h₀, N, m, F, q⟩ := h₂
  refine tupN F (fun a s' F => unpk R F (.head _) rfl fun s' F => ?_)
  refine wpAny_assignInOrder_more (bn hE F hy fun s' F => wpAny_assignInOrder_more (bn hE F hx fun s' F => ?_))
  exact wpAny_pure (q a s' F)
end
end Mine
end
section
open PySem PySem.W PyProof.Rows PySem.Calls PySem.Spec
set_option Elab.async false
set_option maxRecDepth 100000
namespace Mine
-- printed by gen4.py: for each def its record, its place, the kinds of its names
theorem g_quotedata : (Str.ofString "quotedata", ((.ref 60) : Value)) ∈ KG := by decide +kernel
theorem g_quote_periods : (Str.ofString "_quote_periods", ((.ref 67) : Value)) ∈ KG := by decide +kernel
theorem g_fix_eols : (Str.ofString "_fix_eols", ((.ref 74) : Value)) ∈ KG := by decide +kernel
theorem g_add : (Str.ofString "add", ((.ref 81) : Value)) ∈ KG := by decide +kernel
theorem g_mul : (Str.ofString "mul", ((.ref 88) : Value)) ∈ KG := by decide +kernel
theorem g_sub : (Str.ofString "sub", ((.ref 95) : Value)) ∈ KG := by decide +kernel
theorem g_xor : (Str.ofString "xor", ((.ref 102) : Value)) ∈ KG := by decide +kernel
theorem g_concat : (Str.ofString "concat", ((.ref 109) : Value)) ∈ KG := by decide +kernel
theorem g_delitem : (Str.ofString "delitem", ((.ref 116) : Value)) ∈ KG := by decide +kernel
theorem g_getitem : (Str.ofString "getitem", ((.ref 123) : Value)) ∈ KG := by decide +kernel
theorem g_setitem : (Str.ofString "setitem", ((.ref 130) : Value)) ∈ KG := by decide +kernel
theorem g_length_hint : (Str.ofString "length_hint", ((.ref 138) : Value)) ∈ KG := by decide +kernel
theorem g_law_tree : (Str.ofString "_law_tree", ((.ref 293) : Value)) ∈ KG := by decide +kernel
theorem g_law_need : (Str.ofString "_law_need", ((.ref 300) : Value)) ∈ KG := by decide +kernel
theorem g_law_hands : (Str.ofString "_law_hands", ((.ref 307) : Value)) ∈ KG := by decide +kernel
theorem g_law_sent : (Str.ofString "_law_sent", ((.ref 312) : Value)) ∈ KG := by decide +kernel
theorem g_law_program : (Str.ofString "_law_program", ((.ref 319) : Value)) ∈ KG := by decide +kernel
theorem g_law_rows : (Str.ofString "_law_rows", ((.ref 326) : Value)) ∈ KG := by decide +kernel
theorem g_law_done : (Str.ofString "_law_done", ((.ref 333) : Value)) ∈ KG := by decide +kernel
theorem g_law_run : (Str.ofString "_law_run", ((.ref 340) : Value)) ∈ KG := by decide +kernel
theorem g_law_of_many : (Str.ofString "_law_of_many", ((.ref 345) : Value)) ∈ KG := by decide +kernel
theorem g_law_worth : (Str.ofString "_law_worth", ((.ref 352) : Value)) ∈ KG := by decide +kernel
theorem g_law_masks : (Str.ofString "_law_masks", ((.ref 359) : Value)) ∈ KG := by decide +kernel
theorem g_law_fewest : (Str.ofString "_law_fewest", ((.ref 364) : Value)) ∈ KG := by decide +kernel
theorem g_law : (Str.ofString "law", ((.ref 369) : Value)) ∈ KG := by decide +kernel
theorem g_CRLF : (Str.ofString "CRLF", ((.str (Str.mk #[13, 10]) 365) : Value)) ∈ KG := by decide +kernel
theorem g_Headers : (Str.ofString "Headers", ((.ref 284) : Value)) ∈ KG := by decide +kernel
theorem g_twin_re_1 : (Str.ofString "_twin_re_1", ((.ref 43) : Value)) ∈ KG := by decide +kernel
theorem g_twin_re_2 : (Str.ofString "_twin_re_2", ((.ref 48) : Value)) ∈ KG := by decide +kernel
theorem g_twin_re_3 : (Str.ofString "_twin_re_3", ((.ref 53) : Value)) ∈ KG := by decide +kernel
theorem g_name_disallowed_re : (Str.ofString "_name_disallowed_re", ((.ref 148) : Value)) ∈ KG := by decide +kernel
theorem g_value_disallowed_re : (Str.ofString "_value_disallowed_re", ((.ref 153) : Value)) ∈ KG := by decide +kernel
theorem b_len : Str.ofString "len" ∈ KB := by decide +kernel
theorem bb_len : bootBuiltins (Str.ofString "len") = some (.builtin "len") := by decide +kernel
theorem b_str : Str.ofString "str" ∈ KB := by decide +kernel
theorem bb_str : bootBuiltins (Str.ofString "str") = some (.type "str") := by decide +kernel
theorem b_range : Str.ofString "range" ∈ KB := by decide +kernel
theorem bb_range : bootBuiltins (Str.ofString "range") = some (.type "range") := by decide +kernel
theorem b_min : Str.ofString "min" ∈ KB := by decide +kernel
theorem bb_min : bootBuiltins (Str.ofString "min") = some (.builtin "min") := by decide +kernel
theorem b_max : Str.ofString "max" ∈ KB := by decide +kernel
theorem bb_max : bootBuiltins (Str.ofString "max") = some (.builtin "max") := by decide +kernel
theorem b_type : Str.ofString "type" ∈ KB := by decide +kernel
theorem bb_type : bootBuiltins (Str.ofString "type") = some (.type "type") := by decide +kernel
theorem b_tuple : Str.ofString "tuple" ∈ KB := by decide +kernel
theorem bb_tuple : bootBuiltins (Str.ofString "tuple") = some (.type "tuple") := by decide +kernel
theorem b_int : Str.ofString "int" ∈ KB := by decide +kernel
theorem bb_int : bootBuiltins (Str.ofString "int") = some (.type "int") := by decide +kernel
theorem b_isinstance : Str.ofString "isinstance" ∈ KB := by decide +kernel
theorem bb_isinstance : bootBuiltins (Str.ofString "isinstance") = some (.builtin "isinstance") := by decide +kernel
theorem b_hasattr : Str.ofString "hasattr" ∈ KB := by decide +kernel
theorem bb_hasattr : bootBuiltins (Str.ofString "hasattr") = some (.builtin "hasattr") := by decide +kernel
theorem b_list : Str.ofString "list" ∈ KB := by decide +kernel
theorem bb_list : bootBuiltins (Str.ofString "list") = some (.type "list") := by decide +kernel
theorem b_TypeError : Str.ofString "TypeError" ∈ KB := by decide +kernel
theorem bb_TypeError : bootBuiltins (Str.ofString "TypeError") = some (.type "TypeError") := by decide +kernel
theorem b_sum : Str.ofString "sum" ∈ KB := by decide +kernel
theorem bb_sum : bootBuiltins (Str.ofString "sum") = some (.builtin "sum") := by decide +kernel
noncomputable abbrev E60 (L : Addr) : Env := callEnv fd60 L 60
theorem ho60 (P : Params) : (KF P).lookup 60 = some ⟨.type "function", none, .func fd60, #[]⟩ := by kernel_rfl
theorem hc60 : (59, fd60.qualname) ∈ KC := by decide +kernel
theorem ek60 (L : Addr) : EnvOk (E60 L) L := ⟨by kernel_rfl, rfl, rfl, rfl⟩
theorem k60_data (L : Addr) : (E60 L).kindOf (Str.ofString "data") = some .local := by kernel_rfl
theorem k60_twin_re_1 (L : Addr) : (E60 L).kindOf (Str.ofString "_twin_re_1") = some .globalImplicit := by kernel_rfl
theorem k60_twin_re_3 (L : Addr) : (E60 L).kindOf (Str.ofString "_twin_re_3") = some .globalImplicit := by kernel_rfl
theorem k60_CRLF (L : Addr) : (E60 L).kindOf (Str.ofString "CRLF") = some .globalImplicit := by kernel_rfl
theorem hl60 : ∀ x ∈ fd60.scope.names, x.2 ≠ .cell := by decide +kernel
theorem in60 {w : World} {A : Around} {E : Value → Shared → Prop} {S : Shared} {h₀ : Heap} {L : Addr} {m : Mp} {N : Led} {s : Shared} {P : Params} {Q : Value → Shared → Prop} {n : Nat} {v0 : Value} (G : Gd P h₀) (F : Fm S h₀ L m N s) (R : Rm A (n + 1))
    (k : ∀ g L' s₁, Gd P g → Rm (A.deeper (E60 L')) n → Fm S g L' (lk [(Str.ofString "data", v0)]) N s₁ → (∀ b o, h₀.get? b = some o → g.get? b = some o) → (∀ s' N' m', Fm S g L' m' N' s' → Fm S h₀ L m N' s') →
      wpAny (model pw w) (A.deeper (E60 L')) (execs (bodyD (top 7)) (E60 L')) (fun fl s' => Q (retv fl) s') (fun _ _ => False) s₁) :
    wpAny (model pw w) A (call (.ref 60) [v0]) Q E s :=
  r_call (args := ⟨[v0], []⟩) (binds := [(Str.ofString "data", v0)]) G F R (ho60 P) hc60 rfl rfl (fun _ _ => BindsTo.of_eq (by kernel_rfl)) hl60 (locs (by kernel_rfl)) (fun g L' s₁ G' F' kp bk => k g L' s₁ G' (R.deeper _) F' kp bk)
noncomputable abbrev E67 (L : Addr) : Env := callEnv fd67 L 67
theorem ho67 (P : Params) : (KF P).lookup 67 = some ⟨.type "function", none, .func fd67, #[]⟩ := by kernel_rfl
theorem hc67 : (66, fd67.qualname) ∈ KC := by decide +kernel
theorem ek67 (L : Addr) : EnvOk (E67 L) L := ⟨by kernel_rfl, rfl, rfl, rfl⟩
theorem k67_bindata (L : Addr) : (E67 L).kindOf (Str.ofString "bindata") = some .local := by kernel_rfl
theorem k67_twin_re_2 (L : Addr) : (E67 L).kindOf (Str.ofString "_twin_re_2") = some .globalImplicit := by kernel_rfl
theorem hl67 : ∀ x ∈ fd67.scope.names, x.2 ≠ .cell := by decide +kernel
theorem in67 {w : World} {A : Around} {E : Value → Shared → Prop} {S : Shared} {h₀ : Heap} {L : Addr} {m : Mp} {N : Led} {s : Shared} {P : Params} {Q : Value → Shared → Prop} {n : Nat} {v0 : Value} (G : Gd P h₀) (F : Fm S h₀ L m N s) (R : Rm A (n + 1))
    (k : ∀ g L' s₁, Gd P g → Rm (A.deeper (E67 L')) n → Fm S g L' (lk [(Str.ofString "bindata", v0)]) N s₁ → (∀ b o, h₀.get? b = some o → g.get? b = some o) → (∀ s' N' m', Fm S g L' m' N' s' → Fm S h₀ L m N' s') →
      wpAny (model pw w) (A.deeper (E67 L')) (execs (bodyD (top 8)) (E67 L')) (fun fl s' => Q (retv fl) s') (fun _ _ => False) s₁) :
    wpAny (model pw w) A (call (.ref 67) [v0]) Q E s :=
  r_call (args := ⟨[v0], []⟩) (binds := [(Str.ofString "bindata", v0)]) G F R (ho67 P) hc67 rfl rfl (fun _ _ => BindsTo.of_eq (by kernel_rfl)) hl67 (locs (by kernel_rfl)) (fun g L' s₁ G' F' kp bk => k g L' s₁ G' (R.deeper _) F' kp bk)
noncomputable abbrev E74 (L : Addr) : Env := callEnv fd74 L 74
theorem ho74 (P : Params) : (KF P).lookup 74 = some ⟨.type "function", none, .func fd74, #[]⟩ := by kernel_rfl
theorem hc74 : (73, fd74.qualname) ∈ KC := by decide +kernel
theorem ek74 (L : Addr) : EnvOk (E74 L) L := ⟨by kernel_rfl, rfl, rfl, rfl⟩
theorem k74_data (L : Addr) : (E74 L).kindOf (Str.ofString "data") = some .local := by kernel_rfl
theorem k74_twin_re_3 (L : Addr) : (E74 L).kindOf (Str.ofString "_twin_re_3") = some .globalImplicit := by kernel_rfl
theorem k74_CRLF (L : Addr) : (E74 L).kindOf (Str.ofString "CRLF") = some .globalImplicit := by kernel_rfl
theorem hl74 : ∀ x ∈ fd74.scope.names, x.2 ≠ .cell := by decide +kernel
theorem in74 {w : World} {A : Around} {E : Value → Shared → Prop} {S : Shared} {h₀ : Heap} {L : Addr} {m : Mp} {N : Led} {s : Shared} {P : Params} {Q : Value → Shared → Prop} {n : Nat} {v0 : Value} (G : Gd P h₀) (F : Fm S h₀ L m N s) (R : Rm A (n + 1))
    (k : ∀ g L' s₁, Gd P g → Rm (A.deeper (E74 L')) n → Fm S g L' (lk [(Str.ofString "data", v0)]) N s₁ → (∀ b o, h₀.get? b = some o → g.get? b = some o) → (∀ s' N' m', Fm S g L' m' N' s' → Fm S h₀ L m N' s') →
      wpAny (model pw w) (A.deeper (E74 L')) (execs (bodyD (top 9)) (E74 L')) (fun fl s' => Q (retv fl) s') (fun _ _ => False) s₁) :
    wpAny (model pw w) A (call (.ref 74) [v0]) Q E s :=
  r_call (args := ⟨[v0], []⟩) (binds := [(Str.ofString "data", v0)]) G F R (ho74 P) hc74 rfl rfl (fun _ _ => BindsTo.of_eq (by kernel_rfl)) hl74 (locs (by kernel_rfl)) (fun g L' s₁ G' F' kp bk => k g L' s₁ G' (R.deeper _) F' kp bk)
noncomputable abbrev E81 (L : Addr) : Env := callEnv fd81 L 81
theorem ho81 (P : Params) : (KF P).lookup 81 = some ⟨.type "function", none, .func fd81, #[]⟩ := by kernel_rfl
theorem hc81 : (80, fd81.qualname) ∈ KC := by decide +kernel
theorem ek81 (L : Addr) : EnvOk (E81 L) L := ⟨by kernel_rfl, rfl, rfl, rfl⟩
theorem k81_a (L : Addr) : (E81 L).kindOf (Str.ofString "a") = some .local := by kernel_rfl
theorem k81_b (L : Addr) : (E81 L).kindOf (Str.ofString "b") = some .local := by kernel_rfl
theorem hl81 : ∀ x ∈ fd81.scope.names, x.2 ≠ .cell := by decide +kernel
theorem in81 {w : World} {A : Around} {E : Value → Shared → Prop} {S : Shared} {h₀ : Heap} {L : Addr} {m : Mp} {N : Led} {s : Shared} {P : Params} {Q : Value → Shared → Prop} {n : Nat} {v0 v1 : Value} (G : Gd P h₀) (F : Fm S h₀ L m N s) (R : Rm A (n + 1))
    (k : ∀ g L' s₁, Gd P g → Rm (A.deeper (E81 L')) n → Fm S g L' (lk [(Str.ofString "b", v1), (Str.ofString "a", v0)]) N s₁ → (∀ b o, h₀.get? b = some o → g.get? b = some o) → (∀ s' N' m', Fm S g L' m' N' s' → Fm S h₀ L m N' s') →
      wpAny (model pw w) (A.deeper (E81 L')) (execs (bodyD (top 11)) (E81 L')) (fun fl s' => Q (retv fl) s') (fun _ _ => False) s₁) :
    wpAny (model pw w) A (call (.ref 81) [v0, v1]) Q E s :=
  r_call (args := ⟨[v0, v1], []⟩) (binds := [(Str.ofString "a", v0), (Str.ofString "b", v1)]) G F R (ho81 P) hc81 rfl rfl (fun _ _ => BindsTo.of_eq (by kernel_rfl)) hl81 (locs (by kernel_rfl)) (fun g L' s₁ G' F' kp bk => k g L' s₁ G' (R.deeper _) F' kp bk)
noncomputable abbrev E88 (L : Addr) : Env := callEnv fd88 L 88
theorem ho88 (P : Params) : (KF P).lookup 88 = some ⟨.type "function", none, .func fd88, #[]⟩ := by kernel_rfl
theorem hc88 : (87, fd88.qualname) ∈ KC := by decide +kernel
theorem ek88 (L : Addr) : EnvOk (E88 L) L := ⟨by kernel_rfl, rfl, rfl, rfl⟩
theorem k88_a (L : Addr) : (E88 L).kindOf (Str.ofString "a") = some .local := by kernel_rfl
theorem k88_b (L : Addr) : (E88 L).kindOf (Str.ofString "b") = some .local := by kernel_rfl
theorem hl88 : ∀ x ∈ fd88.scope.names, x.2 ≠ .cell := by decide +kernel
theorem in88 {w : World} {A : Around} {E : Value → Shared → Prop} {S : Shared} {h₀ : Heap} {L : Addr} {m : Mp} {N : Led} {s : Shared} {P : Params} {Q : Value → Shared → Prop} {n : Nat} {v0 v1 : Value} (G : Gd P h₀) (F : Fm S h₀ L m N s) (R : Rm A (n + 1))
    (k : ∀ g L' s₁, Gd P g → Rm (A.deeper (E88 L')) n → Fm S g L' (lk [(Str.ofString "b", v1), (Str.ofString "a", v0)]) N s₁ → (∀ b o, h₀.get? b = some o → g.get? b = some o) → (∀ s' N' m', Fm S g L' m' N' s' → Fm S h₀ L m N' s') →
      wpAny (model pw w) (A.deeper (E88 L')) (execs (bodyD (top 12)) (E88 L')) (fun fl s' => Q (retv fl) s') (fun _ _ => False) s₁) :
    wpAny (model pw w) A (call (.ref 88) [v0, v1]) Q E s :=
  r_call (args := ⟨[v0, v1], []⟩) (binds := [(Str.ofString "a", v0), (Str.ofString "b", v1)]) G F R (ho88 P) hc88 rfl rfl (fun _ _ => BindsTo.of_eq (by kernel_rfl)) hl88 (locs (by kernel_rfl)) (fun g L' s₁ G' F' kp bk => k g L' s₁ G' (R.deeper _) F' kp bk)
noncomputable abbrev E95 (L : Addr) : Env := callEnv fd95 L 95
theorem ho95 (P : Params) : (KF P).lookup 95 = some ⟨.type "function", none, .func fd95, #[]⟩ := by kernel_rfl
theorem hc95 : (94, fd95.qualname) ∈ KC := by decide +kernel
theorem ek95 (L : Addr) : EnvOk (E95 L) L := ⟨by kernel_rfl, rfl, rfl, rfl⟩
theorem k95_a (L : Addr) : (E95 L).kindOf (Str.ofString "a") = some .local := by kernel_rfl
theorem k95_b (L : Addr) : (E95 L).kindOf (Str.ofString "b") = some .local := by kernel_rfl
theorem hl95 : ∀ x ∈ fd95.scope.names, x.2 ≠ .cell := by decide +kernel
theorem in95 {w : World} {A : Around} {E : Value → Shared → Prop} {S : Shared} {h₀ : Heap} {L : Addr} {m : Mp} {N : Led} {s : Shared} {P : Params} {Q : Value → Shared → Prop} {n : Nat} {v0 v1 : Value} (G : Gd P h₀) (F : Fm S h₀ L m N s) (R : Rm A (n + 1))
    (k : ∀ g L' s₁, Gd P g → Rm (A.deeper (E95 L')) n → Fm S g L' (lk [(Str.ofString "b", v1), (Str.ofString "a", v0)]) N s₁ → (∀ b o, h₀.get? b = some o → g.get? b = some o) → (∀ s' N' m', Fm S g L' m' N' s' → Fm S h₀ L m N' s') →
      wpAny (model pw w) (A.deeper (E95 L')) (execs (bodyD (top 13)) (E95 L')) (fun fl s' => Q (retv fl) s') (fun _ _ => False) s₁) :
    wpAny (model pw w) A (call (.ref 95) [v0, v1]) Q E s :=
  r_call (args := ⟨[v0, v1], []⟩) (binds := [(Str.ofString "a", v0), (Str.ofString "b", v1)]) G F R (ho95 P) hc95 rfl rfl (fun _ _ => BindsTo.of_eq (by kernel_rfl)) hl95 (locs (by kernel_rfl)) (fun g L' s₁ G' F' kp bk => k g L' s₁ G' (R.deeper _) F' kp bk)
noncomputable abbrev E102 (L : Addr) : Env := callEnv fd102 L 102
theorem ho102 (P : Params) : (KF P).lookup 102 = some ⟨.type "function", none, .func fd102, #[]⟩ := by kernel_rfl
theorem hc102 : (101, fd102.qualname) ∈ KC := by decide +kernel
theorem ek102 (L : Addr) : EnvOk (E102 L) L := ⟨by kernel_rfl, rfl, rfl, rfl⟩
theorem k102_a (L : Addr) : (E102 L).kindOf (Str.ofString "a") = some .local := by kernel_rfl
theorem k102_b (L : Addr) : (E102 L).kindOf (Str.ofString "b") = some .local := by kernel_rfl
theorem hl102 : ∀ x ∈ fd102.scope.names, x.2 ≠ .cell := by decide +kernel
theorem in102 {w : World} {A : Around} {E : Value → Shared → Prop} {S : Shared} {h₀ : Heap} {L : Addr} {m : Mp} {N : Led} {s : Shared} {P : Params} {Q : Value → Shared → Prop} {n : Nat} {v0 v1 : Value} (G : Gd P h₀) (F : Fm S h₀ L m N s) (R : Rm A (n + 1))
    (k : ∀ g L' s₁, Gd P g → Rm (A.deeper (E102 L')) n → Fm S g L' (lk [(Str.ofString "b", v1), (Str.ofString "a", v0)]) N s₁ → (∀ b o, h₀.get? b = some o → g.get? b = some o) → (∀ s' N' m', Fm S g L' m' N' s' → Fm S h₀ L m N' s') →
      wpAny (model pw w) (A.deeper (E102 L')) (execs (bodyD (top 14)) (E102 L')) (fun fl s' => Q (retv fl) s') (fun _ _ => False) s₁) :
    wpAny (model pw w) A (call (.ref 102) [v0, v1]) Q E s :=
  r_call (args := ⟨[v0, v1], []⟩) (binds := [(Str.ofString "a", v0), (Str.ofString "b", v1)]) G F R (ho102 P) hc102 rfl rfl (fun _ _ => BindsTo.of_eq (by kernel_rfl)) hl102 (locs (by kernel_rfl)) (fun g L' s₁ G' F' kp bk => k g L' s₁ G' (R.deeper _) F' kp bk)
noncomputable abbrev E109 (L : Addr) : Env := callEnv fd109 L 109
theorem ho109 (P : Params) : (KF P).lookup 109 = some ⟨.type "function", none, .func fd109, #[]⟩ := by kernel_rfl
theorem hc109 : (108, fd109.qualname) ∈ KC := by decide +kernel
theorem ek109 (L : Addr) : EnvOk (E109 L) L := ⟨by kernel_rfl, rfl, rfl, rfl⟩
theorem k109_a (L : Addr) : (E109 L).kindOf (Str.ofString "a") = some .local := by kernel_rfl
theorem k109_b (L : Addr) : (E109 L).kindOf (Str.ofString "b") = some .local := by kernel_rfl
theorem k109_msg (L : Addr) : (E109 L).kindOf (Str.ofString "msg") = some .local := by kernel_rfl
theorem k109_hasattr (L : Addr) : (E109 L).kindOf (Str.ofString "hasattr") = some .globalImplicit := by kernel_rfl
theorem k109_type (L : Addr) : (E109 L).kindOf (Str.ofString "type") = some .globalImplicit := by kernel_rfl
theorem k109_TypeError (L : Addr) : (E109 L).kindOf (Str.ofString "TypeError") = some .globalImplicit := by kernel_rfl
theorem hl109 : ∀ x ∈ fd109.scope.names, x.2 ≠ .cell := by decide +kernel
theorem in109 {w : World} {A : Around} {E : Value → Shared → Prop} {S : Shared} {h₀ : Heap} {L : Addr} {m : Mp} {N : Led} {s : Shared} {P : Params} {Q : Value → Shared → Prop} {n : Nat} {v0 v1 : Value} (G : Gd P h₀) (F : Fm S h₀ L m N s) (R : Rm A (n + 1))
    (k : ∀ g L' s₁, Gd P g → Rm (A.deeper (E109 L')) n → Fm S g L' (lk [(Str.ofString "b", v1), (Str.ofString "a", v0)]) N s₁ → (∀ b o, h₀.get? b = some o → g.get? b = some o) → (∀ s' N' m', Fm S g L' m' N' s' → Fm S h₀ L m N' s') →
      wpAny (model pw w) (A.deeper (E109 L')) (execs (bodyD (top 15)) (E109 L')) (fun fl s' => Q (retv fl) s') (fun _ _ => False) s₁) :
    wpAny (model pw w) A (call (.ref 109) [v0, v1]) Q E s :=
  r_call (args := ⟨[v0, v1], []⟩) (binds := [(Str.ofString "a", v0), (Str.ofString "b", v1)]) G F R (ho109 P) hc109 rfl rfl (fun _ _ => BindsTo.of_eq (by kernel_rfl)) hl109 (locs (by kernel_rfl)) (fun g L' s₁ G' F' kp bk => k g L' s₁ G' (R.deeper _) F' kp bk)
noncomputable abbrev E116 (L : Addr) : Env := callEnv fd116 L 116
theorem ho116 (P : Params) : (KF P).lookup 116 = some ⟨.type "function", none, .func fd116, #[]⟩ := by kernel_rfl
theorem hc116 : (115, fd116.qualname) ∈ KC := by decide +kernel
theorem ek116 (L : Addr) : EnvOk (E116 L) L := ⟨by kernel_rfl, rfl, rfl, rfl⟩
theorem k116_a (L : Addr) : (E116 L).kindOf (Str.ofString "a") = some .local := by kernel_rfl
theorem k116_b (L : Addr) : (E116 L).kindOf (Str.ofString "b") = some .local := by kernel_rfl
theorem hl116 : ∀ x ∈ fd116.scope.names, x.2 ≠ .cell := by decide +kernel
theorem in116 {w : World} {A : Around} {E : Value → Shared → Prop} {S : Shared} {h₀ : Heap} {L : Addr} {m : Mp} {N : Led} {s : Shared} {P : Params} {Q : Value → Shared → Prop} {n : Nat} {v0 v1 : Value} (G : Gd P h₀) (F : Fm S h₀ L m N s) (R : Rm A (n + 1))
    (k : ∀ g L' s₁, Gd P g → Rm (A.deeper (E116 L')) n → Fm S g L' (lk [(Str.ofString "b", v1), (Str.ofString "a", v0)]) N s₁ → (∀ b o, h₀.get? b = some o → g.get? b = some o) → (∀ s' N' m', Fm S g L' m' N' s' → Fm S h₀ L m N' s') →
      wpAny (model pw w) (A.deeper (E116 L')) (execs (bodyD (top 16)) (E116 L')) (fun fl s' => Q (retv fl) s') (fun _ _ => False) s₁) :
    wpAny (model pw w) A (call (.ref 116) [v0, v1]) Q E s :=
  r_call (args := ⟨[v0, v1], []⟩) (binds := [(Str.ofString "a", v0), (Str.ofString "b", v1)]) G F R (ho116 P) hc116 rfl rfl (fun _ _ => BindsTo.of_eq (by kernel_rfl)) hl116 (locs (by kernel_rfl)) (fun g L' s₁ G' F' kp bk => k g L' s₁ G' (R.deeper _) F' kp bk)
noncomputable abbrev E123 (L : Addr) : Env := callEnv fd123 L 123
theorem ho123 (P : Params) : (KF P).lookup 123 = some ⟨.type "function", none, .func fd123, #[]⟩ := by kernel_rfl
theorem hc123 : (122, fd123.qualname) ∈ KC := by decide +kernel
theorem ek123 (L : Addr) : EnvOk (E123 L) L := ⟨by kernel_rfl, rfl, rfl, rfl⟩
theorem k123_a (L : Addr) : (E123 L).kindOf (Str.ofString "a") = some .local := by kernel_rfl
theorem k123_b (L : Addr) : (E123 L).kindOf (Str.ofString "b") = some .local := by kernel_rfl
theorem hl123 : ∀ x ∈ fd123.scope.names, x.2 ≠ .cell := by decide +kernel
theorem in123 {w : World} {A : Around} {E : Value → Shared → Prop} {S : Shared} {h₀ : Heap} {L : Addr} {m : Mp} {N : Led} {s : Shared} {P : Params} {Q : Value → Shared → Prop} {n : Nat} {v0 v1 : Value} (G : Gd P h₀) (F : Fm S h₀ L m N s) (R : Rm A (n + 1))
    (k : ∀ g L' s₁, Gd P g → Rm (A.deeper (E123 L')) n → Fm S g L' (lk [(Str.ofString "b", v1), (Str.ofString "a", v0)]) N s₁ → (∀ b o, h₀.get? b = some o → g.get? b = some o) → (∀ s' N' m', Fm S g L' m' N' s' → Fm S h₀ L m N' s') →
      wpAny (model pw w) (A.deeper (E123 L')) (execs (bodyD (top 17)) (E123 L')) (fun fl s' => Q (retv fl) s') (fun _ _ => False) s₁) :
    wpAny (model pw w) A (call (.ref 123) [v0, v1]) Q E s :=
  r_call (args := ⟨[v0, v1], []⟩) (binds := [(Str.ofString "a", v0), (Str.ofString "b", v1)]) G F R (ho123 P) hc123 rfl rfl (fun _ _ => BindsTo.of_eq (by kernel_rfl)) hl123 (locs (by kernel_rfl)) (fun g L' s₁ G' F' kp bk => k g L' s₁ G' (R.deeper _) F' kp bk)
noncomputable abbrev E130 (L : Addr) : Env := callEnv fd130 L 130
theorem ho130 (P : Params) : (KF P).lookup 130 = some ⟨.type "function", none, .func fd130, #[]⟩ := by kernel_rfl
theorem hc130 : (129, fd130.qualname) ∈ KC := by decide +kernel
theorem ek130 (L : Addr) : EnvOk (E130 L) L := ⟨by kernel_rfl, rfl, rfl, rfl⟩
theorem k130_a (L : Addr) : (E130 L).kindOf (Str.ofString "a") = some .local := by kernel_rfl
theorem k130_b (L : Addr) : (E130 L).kindOf (Str.ofString "b") = some .local := by kernel_rfl
theorem k130_c (L : Addr) : (E130 L).kindOf (Str.ofString "c") = some .local := by kernel_rfl
theorem hl130 : ∀ x ∈ fd130.scope.names, x.2 ≠ .cell := by decide +kernel
theorem in130 {w : World} {A : Around} {E : Value → Shared → Prop} {S : Shared} {h₀ : Heap} {L : Addr} {m : Mp} {N : Led} {s : Shared} {P : Params} {Q : Value → Shared → Prop} {n : Nat} {v0 v1 v2 : Value} (G : Gd P h₀) (F : Fm S h₀ L m N s) (R : Rm A (n + 1))
    (k : ∀ g L' s₁, Gd P g → Rm (A.deeper (E130 L')) n → Fm S g L' (lk [(Str.ofString "c", v2), (Str.ofString "b", v1), (Str.ofString "a", v0)]) N s₁ → (∀ b o, h₀.get? b = some o → g.get? b = some o) → (∀ s' N' m', Fm S g L' m' N' s' → Fm S h₀ L m N' s') →
      wpAny (model pw w) (A.deeper (E130 L')) (execs (bodyD (top 18)) (E130 L')) (fun fl s' => Q (retv fl) s') (fun _ _ => False) s₁) :
    wpAny (model pw w) A (call (.ref 130) [v0, v1, v2]) Q E s :=
  r_call (args := ⟨[v0, v1, v2], []⟩) (binds := [(Str.ofString "a", v0), (Str.ofString "b", v1), (Str.ofString "c", v2)]) G F R (ho130 P) hc130 rfl rfl (fun _ _ => BindsTo.of_eq (by kernel_rfl)) hl130 (locs (by kernel_rfl)) (fun g L' s₁ G' F' kp bk => k g L' s₁ G' (R.deeper _) F' kp bk)
noncomputable abbrev E138 (L : Addr) : Env := callEnv fd138 L 138
theorem ho138 (P : Params) : (KF P).lookup 138 = some ⟨.type "function", none, .func fd138, #[]⟩ := by kernel_rfl
theorem hc138 : (137, fd138.qualname) ∈ KC := by decide +kernel
theorem ek138 (L : Addr) : EnvOk (E138 L) L := ⟨by kernel_rfl, rfl, rfl, rfl⟩
theorem k138_obj (L : Addr) : (E138 L).kindOf (Str.ofString "obj") = some .local := by kernel_rfl
theorem k138_default (L : Addr) : (E138 L).kindOf (Str.ofString "default") = some .local := by kernel_rfl
theorem k138_msg (L : Addr) : (E138 L).kindOf (Str.ofString "msg") = some .local := by kernel_rfl
theorem k138_hint (L : Addr) : (E138 L).kindOf (Str.ofString "hint") = some .local := by kernel_rfl
theorem k138_val (L : Addr) : (E138 L).kindOf (Str.ofString "val") = some .local := by kernel_rfl
theorem k138_isinstance (L : Addr) : (E138 L).kindOf (Str.ofString "isinstance") = some .globalImplicit := by kernel_rfl
theorem k138_int (L : Addr) : (E138 L).kindOf (Str.ofString "int") = some .globalImplicit := by kernel_rfl
theorem k138_type (L : Addr) : (E138 L).kindOf (Str.ofString "type") = some .globalImplicit := by kernel_rfl
theorem k138_TypeError (L : Addr) : (E138 L).kindOf (Str.ofString "TypeError") = some .globalImplicit := by kernel_rfl
theorem k138_len (L : Addr) : (E138 L).kindOf (Str.ofString "len") = some .globalImplicit := by kernel_rfl
theorem k138_AttributeError (L : Addr) : (E138 L).kindOf (Str.ofString "AttributeError") = some .globalImplicit := by kernel_rfl
theorem k138_NotImplemented (L : Addr) : (E138 L).kindOf (Str.ofString "NotImplemented") = some .globalImplicit := by kernel_rfl
theorem k138_ValueError (L : Addr) : (E138 L).kindOf (Str.ofString "ValueError") = some .globalImplicit := by kernel_rfl
theorem hl138 : ∀ x ∈ fd138.scope.names, x.2 ≠ .cell := by decide +kernel
noncomputable abbrev E176 (L : Addr) : Env := callEnv fd176 L 176
theorem ho176 (P : Params) : (KF P).lookup 176 = some ⟨.type "function", none, .func fd176, #[]⟩ := by kernel_rfl
theorem hc176 : (175, fd176.qualname) ∈ KC := by decide +kernel
theorem ek176 (L : Addr) : EnvOk (E176 L) L := ⟨by kernel_rfl, rfl, rfl, rfl⟩
theorem k176_self (L : Addr) : (E176 L).kindOf (Str.ofString "self") = some .local := by kernel_rfl
theorem k176_headers (L : Addr) : (E176 L).kindOf (Str.ofString "headers") = some .local := by kernel_rfl
theorem k176_k (L : Addr) : (E176 L).kindOf (Str.ofString "k") = some .local := by kernel_rfl
theorem k176_v (L : Addr) : (E176 L).kindOf (Str.ofString "v") = some .local := by kernel_rfl
theorem k176_type (L : Addr) : (E176 L).kindOf (Str.ofString "type") = some .globalImplicit := by kernel_rfl
theorem k176_list (L : Addr) : (E176 L).kindOf (Str.ofString "list") = some .globalImplicit := by kernel_rfl
theorem k176_TypeError (L : Addr) : (E176 L).kindOf (Str.ofString "TypeError") = some .globalImplicit := by kernel_rfl
theorem k176_debug (L : Addr) : (E176 L).kindOf (Str.ofString "__debug__") = some .globalImplicit := by kernel_rfl
theorem hl176 : ∀ x ∈ fd176.scope.names, x.2 ≠ .cell := by decide +kernel
noncomputable abbrev E183 (L : Addr) : Env := callEnv fd183 L 183
theorem ho183 (P : Params) : (KF P).lookup 183 = some ⟨.type "function", none, .func fd183, #[]⟩ := by kernel_rfl
theorem hc183 : (182, fd183.qualname) ∈ KC := by decide +kernel
theorem ek183 (L : Addr) : EnvOk (E183 L) L := ⟨by kernel_rfl, rfl, rfl, rfl⟩
theorem k183_self (L : Addr) : (E183 L).kindOf (Str.ofString "self") = some .local := by kernel_rfl
theorem k183_value (L : Addr) : (E183 L).kindOf (Str.ofString "value") = some .local := by kernel_rfl
theorem k183_name (L : Addr) : (E183 L).kindOf (Str.ofString "name") = some .local := by kernel_rfl
theorem k183_regex (L : Addr) : (E183 L).kindOf (Str.ofString "regex") = some .local := by kernel_rfl
theorem k183_type (L : Addr) : (E183 L).kindOf (Str.ofString "type") = some .globalImplicit := by kernel_rfl
theorem k183_str (L : Addr) : (E183 L).kindOf (Str.ofString "str") = some .globalImplicit := by kernel_rfl
theorem k183_name_disallowed_re (L : Addr) : (E183 L).kindOf (Str.ofString "_name_disallowed_re") = some .globalImplicit := by kernel_rfl
theorem k183_value_disallowed_re (L : Addr) : (E183 L).kindOf (Str.ofString "_value_disallowed_re") = some .globalImplicit := by kernel_rfl
theorem k183_ValueError (L : Addr) : (E183 L).kindOf (Str.ofString "ValueError") = some .globalImplicit := by kernel_rfl
theorem k183_AssertionError (L : Addr) : (E183 L).kindOf (Str.ofString "AssertionError") = some .globalImplicit := by kernel_rfl
theorem k183_repr (L : Addr) : (E183 L).kindOf (Str.ofString "repr") = some .globalImplicit := by kernel_rfl
theorem hl183 : ∀ x ∈ fd183.scope.names, x.2 ≠ .cell := by decide +kernel
noncomputable abbrev E190 (L : Addr) : Env := callEnv fd190 L 190
theorem ho190 (P : Params) : (KF P).lookup 190 = some ⟨.type "function", none, .func fd190, #[]⟩ := by kernel_rfl
theorem hc190 : (189, fd190.qualname) ∈ KC := by decide +kernel
theorem ek190 (L : Addr) : EnvOk (E190 L) L := ⟨by kernel_rfl, rfl, rfl, rfl⟩
theorem k190_self (L : Addr) : (E190 L).kindOf (Str.ofString "self") = some .local := by kernel_rfl
theorem k190_len (L : Addr) : (E190 L).kindOf (Str.ofString "len") = some .globalImplicit := by kernel_rfl
theorem hl190 : ∀ x ∈ fd190.scope.names, x.2 ≠ .cell := by decide +kernel
theorem in190 {w : World} {A : Around} {E : Value → Shared → Prop} {S : Shared} {h₀ : Heap} {L : Addr} {m : Mp} {N : Led} {s : Shared} {P : Params} {Q : Value → Shared → Prop} {n : Nat} {v0 : Value} (G : Gd P h₀) (F : Fm S h₀ L m N s) (R : Rm A (n + 1))
    (k : ∀ g L' s₁, Gd P g → Rm (A.deeper (E190 L')) n → Fm S g L' (lk [(Str.ofString "self", v0)]) N s₁ → (∀ b o, h₀.get? b = some o → g.get? b = some o) → (∀ s' N' m', Fm S g L' m' N' s' → Fm S h₀ L m N' s') →
      wpAny (model pw w) (A.deeper (E190 L')) (execs (bodyD (meth 2)) (E190 L')) (fun fl s' => Q (retv fl) s') (fun _ _ => False) s₁) :
    wpAny (model pw w) A (call (.ref 190) [v0]) Q E s :=
  r_call (args := ⟨[v0], []⟩) (binds := [(Str.ofString "self", v0)]) G F R (ho190 P) hc190 rfl rfl (fun _ _ => BindsTo.of_eq (by kernel_rfl)) hl190 (locs (by kernel_rfl)) (fun g L' s₁ G' F' kp bk => k g L' s₁ G' (R.deeper _) F' kp bk)
noncomputable abbrev E197 (L : Addr) : Env := callEnv fd197 L 197
theorem ho197 (P : Params) : (KF P).lookup 197 = some ⟨.type "function", none, .func fd197, #[]⟩ := by kernel_rfl
theorem hc197 : (196, fd197.qualname) ∈ KC := by decide +kernel
theorem ek197 (L : Addr) : EnvOk (E197 L) L := ⟨by kernel_rfl, rfl, rfl, rfl⟩
theorem k197_self (L : Addr) : (E197 L).kindOf (Str.ofString "self") = some .local := by kernel_rfl
theorem k197_name (L : Addr) : (E197 L).kindOf (Str.ofString "name") = some .local := by kernel_rfl
theorem k197_val (L : Addr) : (E197 L).kindOf (Str.ofString "val") = some .local := by kernel_rfl
theorem hl197 : ∀ x ∈ fd197.scope.names, x.2 ≠ .cell := by decide +kernel
theorem in197 {w : World} {A : Around} {E : Value → Shared → Prop} {S : Shared} {h₀ : Heap} {L : Addr} {m : Mp} {N : Led} {s : Shared} {P : Params} {Q : Value → Shared → Prop} {n : Nat} {v0 v1 v2 : Value} (G : Gd P h₀) (F : Fm S h₀ L m N s) (R : Rm A (n + 1))
    (k : ∀ g L' s₁, Gd P g → Rm (A.deeper (E197 L')) n → Fm S g L' (lk [(Str.ofString "val", v2), (Str.ofString "name", v1), (Str.ofString "self", v0)]) N s₁ → (∀ b o, h₀.get? b = some o → g.get? b = some o) → (∀ s' N' m', Fm S g L' m' N' s' → Fm S h₀ L m N' s') →
      wpAny (model pw w) (A.deeper (E197 L')) (execs (bodyD (meth 3)) (E197 L')) (fun fl s' => Q (retv fl) s') (fun _ _ => False) s₁) :
    wpAny (model pw w) A (call (.ref 197) [v0, v1, v2]) Q E s :=
  r_call (args := ⟨[v0, v1, v2], []⟩) (binds := [(Str.ofString "self", v0), (Str.ofString "name", v1), (Str.ofString "val", v2)]) G F R (ho197 P) hc197 rfl rfl (fun _ _ => BindsTo.of_eq (by kernel_rfl)) hl197 (locs (by kernel_rfl)) (fun g L' s₁ G' F' kp bk => k g L' s₁ G' (R.deeper _) F' kp bk)
noncomputable abbrev E202 (L : Addr) : Env := callEnv fd202 L 202
theorem ho202 (P : Params) : (KF P).lookup 202 = some ⟨.type "function", none, .func fd202, #[]⟩ := by kernel_rfl
theorem hc202 : (201, fd202.qualname) ∈ KC := by decide +kernel
theorem ek202 (L : Addr) : EnvOk (E202 L) L := ⟨by kernel_rfl, rfl, rfl, rfl⟩
theorem k202_self (L : Addr) : (E202 L).kindOf (Str.ofString "self") = some .local := by kernel_rfl
theorem k202_name (L : Addr) : (E202 L).kindOf (Str.ofString "name") = some .cell := by kernel_rfl
noncomputable abbrev E209 (L : Addr) : Env := callEnv fd209 L 209
theorem ho209 (P : Params) : (KF P).lookup 209 = some ⟨.type "function", none, .func fd209, #[]⟩ := by kernel_rfl
theorem hc209 : (208, fd209.qualname) ∈ KC := by decide +kernel
theorem ek209 (L : Addr) : EnvOk (E209 L) L := ⟨by kernel_rfl, rfl, rfl, rfl⟩
theorem k209_self (L : Addr) : (E209 L).kindOf (Str.ofString "self") = some .local := by kernel_rfl
theorem k209_name (L : Addr) : (E209 L).kindOf (Str.ofString "name") = some .local := by kernel_rfl
theorem hl209 : ∀ x ∈ fd209.scope.names, x.2 ≠ .cell := by decide +kernel
theorem in209 {w : World} {A : Around} {E : Value → Shared → Prop} {S : Shared} {h₀ : Heap} {L : Addr} {m : Mp} {N : Led} {s : Shared} {P : Params} {Q : Value → Shared → Prop} {n : Nat} {v0 v1 : Value} (G : Gd P h₀) (F : Fm S h₀ L m N s) (R : Rm A (n + 1))
    (k : ∀ g L' s₁, Gd P g → Rm (A.deeper (E209 L')) n → Fm S g L' (lk [(Str.ofString "name", v1), (Str.ofString "self", v0)]) N s₁ → (∀ b o, h₀.get? b = some o → g.get? b = some o) → (∀ s' N' m', Fm S g L' m' N' s' → Fm S h₀ L m N' s') →
      wpAny (model pw w) (A.deeper (E209 L')) (execs (bodyD (meth 5)) (E209 L')) (fun fl s' => Q (retv fl) s') (fun _ _ => False) s₁) :
    wpAny (model pw w) A (call (.ref 209) [v0, v1]) Q E s :=
  r_call (args := ⟨[v0, v1], []⟩) (binds := [(Str.ofString "self", v0), (Str.ofString "name", v1)]) G F R (ho209 P) hc209 rfl rfl (fun _ _ => BindsTo.of_eq (by kernel_rfl)) hl209 (locs (by kernel_rfl)) (fun g L' s₁ G' F' kp bk => k g L' s₁ G' (R.deeper _) F' kp bk)
noncomputable abbrev E231 (L : Addr) : Env := callEnv fd231 L 231
theorem ho231 (P : Params) : (KF P).lookup 231 = some ⟨.type "function", none, .func fd231, #[]⟩ := by kernel_rfl
theorem hc231 : (230, fd231.qualname) ∈ KC := by decide +kernel
theorem ek231 (L : Addr) : EnvOk (E231 L) L := ⟨by kernel_rfl, rfl, rfl, rfl⟩
theorem k231_self (L : Addr) : (E231 L).kindOf (Str.ofString "self") = some .local := by kernel_rfl
theorem k231_name (L : Addr) : (E231 L).kindOf (Str.ofString "name") = some .local := by kernel_rfl
theorem k231_default (L : Addr) : (E231 L).kindOf (Str.ofString "default") = some .local := by kernel_rfl
theorem k231_k (L : Addr) : (E231 L).kindOf (Str.ofString "k") = some .local := by kernel_rfl
theorem k231_v (L : Addr) : (E231 L).kindOf (Str.ofString "v") = some .local := by kernel_rfl
theorem hl231 : ∀ x ∈ fd231.scope.names, x.2 ≠ .cell := by decide +kernel
noncomputable abbrev E248 (L : Addr) : Env := callEnv fd248 L 248
theorem ho248 (P : Params) : (KF P).lookup 248 = some ⟨.type "function", none, .func fd248, #[]⟩ := by kernel_rfl
theorem hc248 : (247, fd248.qualname) ∈ KC := by decide +kernel
theorem ek248 (L : Addr) : EnvOk (E248 L) L := ⟨by kernel_rfl, rfl, rfl, rfl⟩
theorem k248_self (L : Addr) : (E248 L).kindOf (Str.ofString "self") = some .local := by kernel_rfl
theorem hl248 : ∀ x ∈ fd248.scope.names, x.2 ≠ .cell := by decide +kernel
theorem in248 {w : World} {A : Around} {E : Value → Shared → Prop} {S : Shared} {h₀ : Heap} {L : Addr} {m : Mp} {N : Led} {s : Shared} {P : Params} {Q : Value → Shared → Prop} {n : Nat} {v0 : Value} (G : Gd P h₀) (F : Fm S h₀ L m N s) (R : Rm A (n + 1))
    (k : ∀ g L' s₁, Gd P g → Rm (A.deeper (E248 L')) n → Fm S g L' (lk [(Str.ofString "self", v0)]) N s₁ → (∀ b o, h₀.get? b = some o → g.get? b = some o) → (∀ s' N' m', Fm S g L' m' N' s' → Fm S h₀ L m N' s') →
      wpAny (model pw w) (A.deeper (E248 L')) (execs (bodyD (meth 11)) (E248 L')) (fun fl s' => Q (retv fl) s') (fun _ _ => False) s₁) :
    wpAny (model pw w) A (call (.ref 248) [v0]) Q E s :=
  r_call (args := ⟨[v0], []⟩) (binds := [(Str.ofString "self", v0)]) G F R (ho248 P) hc248 rfl rfl (fun _ _ => BindsTo.of_eq (by kernel_rfl)) hl248 (locs (by kernel_rfl)) (fun g L' s₁ G' F' kp bk => k g L' s₁ G' (R.deeper _) F' kp bk)
noncomputable abbrev E260 (L : Addr) : Env := callEnv fd260 L 260
theorem ho260 (P : Params) : (KF P).lookup 260 = some ⟨.type "function", none, .func fd260, #[]⟩ := by kernel_rfl
theorem hc260 : (259, fd260.qualname) ∈ KC := by decide +kernel
theorem ek260 (L : Addr) : EnvOk (E260 L) L := ⟨by kernel_rfl, rfl, rfl, rfl⟩
theorem k260_self (L : Addr) : (E260 L).kindOf (Str.ofString "self") = some .local := by kernel_rfl
theorem hl260 : ∀ x ∈ fd260.scope.names, x.2 ≠ .cell := by decide +kernel
theorem in260 {w : World} {A : Around} {E : Value → Shared → Prop} {S : Shared} {h₀ : Heap} {L : Addr} {m : Mp} {N : Led} {s : Shared} {P : Params} {Q : Value → Shared → Prop} {n : Nat} {v0 : Value} (G : Gd P h₀) (F : Fm S h₀ L m N s) (R : Rm A (n + 1))
    (k : ∀ g L' s₁, Gd P g → Rm (A.deeper (E260 L')) n → Fm S g L' (lk [(Str.ofString "self", v0)]) N s₁ → (∀ b o, h₀.get? b = some o → g.get? b = some o) → (∀ s' N' m', Fm S g L' m' N' s' → Fm S h₀ L m N' s') →
      wpAny (model pw w) (A.deeper (E260 L')) (execs (bodyD (meth 13)) (E260 L')) (fun fl s' => Q (retv fl) s') (fun _ _ => False) s₁) :
    wpAny (model pw w) A (call (.ref 260) [v0]) Q E s :=
  r_call (args := ⟨[v0], []⟩) (binds := [(Str.ofString "self", v0)]) G F R (ho260 P) hc260 rfl rfl (fun _ _ => BindsTo.of_eq (by kernel_rfl)) hl260 (locs (by kernel_rfl)) (fun g L' s₁ G' F' kp bk => k g L' s₁ G' (R.deeper _) F' kp bk)
noncomputable abbrev E281 (L : Addr) : Env := callEnv fd281 L 281
theorem ho281 (P : Params) : (KF P).lookup 281 = some ⟨.type "function", none, .func fd281, #[]⟩ := by kernel_rfl
theorem hc281 : (280, fd281.qualname) ∈ KC := by decide +kernel
theorem ek281 (L : Addr) : EnvOk (E281 L) L := ⟨by kernel_rfl, rfl, rfl, rfl⟩
theorem k281_self (L : Addr) : (E281 L).kindOf (Str.ofString "self") = some .local := by kernel_rfl
theorem k281_p_name (L : Addr) : (E281 L).kindOf (Str.ofString "_name") = some .local := by kernel_rfl
theorem k281_p_value (L : Addr) : (E281 L).kindOf (Str.ofString "_value") = some .local := by kernel_rfl
theorem k281_p_params (L : Addr) : (E281 L).kindOf (Str.ofString "_params") = some .local := by kernel_rfl
theorem k281_parts (L : Addr) : (E281 L).kindOf (Str.ofString "parts") = some .local := by kernel_rfl
theorem k281_k (L : Addr) : (E281 L).kindOf (Str.ofString "k") = some .local := by kernel_rfl
theorem k281_v (L : Addr) : (E281 L).kindOf (Str.ofString "v") = some .local := by kernel_rfl
theorem k281_formatparam (L : Addr) : (E281 L).kindOf (Str.ofString "_formatparam") = some .globalImplicit := by kernel_rfl
theorem hl281 : ∀ x ∈ fd281.scope.names, x.2 ≠ .cell := by decide +kernel
noncomputable abbrev E293 (L : Addr) : Env := callEnv fd293 L 293
theorem ho293 (P : Params) : (KF P).lookup 293 = some ⟨.type "function", none, .func fd293, #[]⟩ := by kernel_rfl
theorem hc293 : (292, fd293.qualname) ∈ KC := by decide +kernel
theorem ek293 (L : Addr) : EnvOk (E293 L) L := ⟨by kernel_rfl, rfl, rfl, rfl⟩
theorem k293_cells (L : Addr) : (E293 L).kindOf (Str.ofString "cells") = some .local := by kernel_rfl
theorem k293_cell (L : Addr) : (E293 L).kindOf (Str.ofString "cell") = some .local := by kernel_rfl
theorem k293_row (L : Addr) : (E293 L).kindOf (Str.ofString "row") = some .local := by kernel_rfl
theorem k293_place (L : Addr) : (E293 L).kindOf (Str.ofString "place") = some .local := by kernel_rfl
theorem k293_rest (L : Addr) : (E293 L).kindOf (Str.ofString "rest") = some .local := by kernel_rfl
theorem k293_joined (L : Addr) : (E293 L).kindOf (Str.ofString "joined") = some .local := by kernel_rfl
theorem k293_len (L : Addr) : (E293 L).kindOf (Str.ofString "len") = some .globalImplicit := by kernel_rfl
theorem hl293 : ∀ x ∈ fd293.scope.names, x.2 ≠ .cell := by decide +kernel
theorem in293 {w : World} {A : Around} {E : Value → Shared → Prop} {S : Shared} {h₀ : Heap} {L : Addr} {m : Mp} {N : Led} {s : Shared} {P : Params} {Q : Value → Shared → Prop} {n : Nat} {v0 : Value} (G : Gd P h₀) (F : Fm S h₀ L m N s) (R : Rm A (n + 1))
    (k : ∀ g L' s₁, Gd P g → Rm (A.deeper (E293 L')) n → Fm S g L' (lk [(Str.ofString "cells", v0)]) N s₁ → (∀ b o, h₀.get? b = some o → g.get? b = some o) → (∀ s' N' m', Fm S g L' m' N' s' → Fm S h₀ L m N' s') →
      wpAny (model pw w) (A.deeper (E293 L')) (execs (bodyD (top 27)) (E293 L')) (fun fl s' => Q (retv fl) s') (fun _ _ => False) s₁) :
    wpAny (model pw w) A (call (.ref 293) [v0]) Q E s :=
  r_call (args := ⟨[v0], []⟩) (binds := [(Str.ofString "cells", v0)]) G F R (ho293 P) hc293 rfl rfl (fun _ _ => BindsTo.of_eq (by kernel_rfl)) hl293 (locs (by kernel_rfl)) (fun g L' s₁ G' F' kp bk => k g L' s₁ G' (R.deeper _) F' kp bk)
noncomputable abbrev E300 (L : Addr) : Env := callEnv fd300 L 300
theorem ho300 (P : Params) : (KF P).lookup 300 = some ⟨.type "function", none, .func fd300, #[]⟩ := by kernel_rfl
theorem hc300 : (299, fd300.qualname) ∈ KC := by decide +kernel
theorem ek300 (L : Addr) : EnvOk (E300 L) L := ⟨by kernel_rfl, rfl, rfl, rfl⟩
theorem k300_tree (L : Addr) : (E300 L).kindOf (Str.ofString "tree") = some .local := by kernel_rfl
theorem k300_one (L : Addr) : (E300 L).kindOf (Str.ofString "one") = some .local := by kernel_rfl
theorem k300_two (L : Addr) : (E300 L).kindOf (Str.ofString "two") = some .local := by kernel_rfl
theorem k300_len (L : Addr) : (E300 L).kindOf (Str.ofString "len") = some .globalImplicit := by kernel_rfl
theorem k300_law_need (L : Addr) : (E300 L).kindOf (Str.ofString "_law_need") = some .globalImplicit := by kernel_rfl
theorem k300_max (L : Addr) : (E300 L).kindOf (Str.ofString "max") = some .globalImplicit := by kernel_rfl
theorem hl300 : ∀ x ∈ fd300.scope.names, x.2 ≠ .cell := by decide +kernel
theorem in300 {w : World} {A : Around} {E : Value → Shared → Prop} {S : Shared} {h₀ : Heap} {L : Addr} {m : Mp} {N : Led} {s : Shared} {P : Params} {Q : Value → Shared → Prop} {n : Nat} {v0 : Value} (G : Gd P h₀) (F : Fm S h₀ L m N s) (R : Rm A (n + 1))
    (k : ∀ g L' s₁, Gd P g → Rm (A.deeper (E300 L')) n → Fm S g L' (lk [(Str.ofString "tree", v0)]) N s₁ → (∀ b o, h₀.get? b = some o → g.get? b = some o) → (∀ s' N' m', Fm S g L' m' N' s' → Fm S h₀ L m N' s') →
      wpAny (model pw w) (A.deeper (E300 L')) (execs (bodyD (top 28)) (E300 L')) (fun fl s' => Q (retv fl) s') (fun _ _ => False) s₁) :
    wpAny (model pw w) A (call (.ref 300) [v0]) Q E s :=
  r_call (args := ⟨[v0], []⟩) (binds := [(Str.ofString "tree", v0)]) G F R (ho300 P) hc300 rfl rfl (fun _ _ => BindsTo.of_eq (by kernel_rfl)) hl300 (locs (by kernel_rfl)) (fun g L' s₁ G' F' kp bk => k g L' s₁ G' (R.deeper _) F' kp bk)
noncomputable abbrev E307 (L : Addr) : Env := callEnv fd307 L 307
theorem ho307 (P : Params) : (KF P).lookup 307 = some ⟨.type "function", none, .func fd307, #[]⟩ := by kernel_rfl
theorem hc307 : (306, fd307.qualname) ∈ KC := by decide +kernel
theorem ek307 (L : Addr) : EnvOk (E307 L) L := ⟨by kernel_rfl, rfl, rfl, rfl⟩
theorem k307_tree (L : Addr) : (E307 L).kindOf (Str.ofString "tree") = some .local := by kernel_rfl
theorem k307_law_need (L : Addr) : (E307 L).kindOf (Str.ofString "_law_need") = some .globalImplicit := by kernel_rfl
theorem hl307 : ∀ x ∈ fd307.scope.names, x.2 ≠ .cell := by decide +kernel
theorem in307 {w : World} {A : Around} {E : Value → Shared → Prop} {S : Shared} {h₀ : Heap} {L : Addr} {m : Mp} {N : Led} {s : Shared} {P : Params} {Q : Value → Shared → Prop} {n : Nat} {v0 : Value} (G : Gd P h₀) (F : Fm S h₀ L m N s) (R : Rm A (n + 1))
    (k : ∀ g L' s₁, Gd P g → Rm (A.deeper (E307 L')) n → Fm S g L' (lk [(Str.ofString "tree", v0)]) N s₁ → (∀ b o, h₀.get? b = some o → g.get? b = some o) → (∀ s' N' m', Fm S g L' m' N' s' → Fm S h₀ L m N' s') →
      wpAny (model pw w) (A.deeper (E307 L')) (execs (bodyD (top 29)) (E307 L')) (fun fl s' => Q (retv fl) s') (fun _ _ => False) s₁) :
    wpAny (model pw w) A (call (.ref 307) [v0]) Q E s :=
  r_call (args := ⟨[v0], []⟩) (binds := [(Str.ofString "tree", v0)]) G F R (ho307 P) hc307 rfl rfl (fun _ _ => BindsTo.of_eq (by kernel_rfl)) hl307 (locs (by kernel_rfl)) (fun g L' s₁ G' F' kp bk => k g L' s₁ G' (R.deeper _) F' kp bk)
noncomputable abbrev E312 (L : Addr) : Env := callEnv fd312 L 312
theorem ho312 (P : Params) : (KF P).lookup 312 = some ⟨.type "function", none, .func fd312, #[]⟩ := by kernel_rfl
theorem hc312 : (311, fd312.qualname) ∈ KC := by decide +kernel
theorem ek312 (L : Addr) : EnvOk (E312 L) L := ⟨by kernel_rfl, rfl, rfl, rfl⟩
theorem k312_program (L : Addr) : (E312 L).kindOf (Str.ofString "program") = some .local := by kernel_rfl
theorem k312_way (L : Addr) : (E312 L).kindOf (Str.ofString "way") = some .local := by kernel_rfl
theorem k312_lines (L : Addr) : (E312 L).kindOf (Str.ofString "lines") = some .local := by kernel_rfl
theorem k312_typed (L : Addr) : (E312 L).kindOf (Str.ofString "typed") = some .local := by kernel_rfl
theorem k312_sent (L : Addr) : (E312 L).kindOf (Str.ofString "sent") = some .local := by kernel_rfl
theorem k312_rows (L : Addr) : (E312 L).kindOf (Str.ofString "rows") = some .local := by kernel_rfl
theorem k312_str (L : Addr) : (E312 L).kindOf (Str.ofString "str") = some .globalImplicit := by kernel_rfl
theorem k312_Headers (L : Addr) : (E312 L).kindOf (Str.ofString "Headers") = some .globalImplicit := by kernel_rfl
theorem k312_quotedata (L : Addr) : (E312 L).kindOf (Str.ofString "quotedata") = some .globalImplicit := by kernel_rfl
theorem k312_quote_periods (L : Addr) : (E312 L).kindOf (Str.ofString "_quote_periods") = some .globalImplicit := by kernel_rfl
theorem k312_fix_eols (L : Addr) : (E312 L).kindOf (Str.ofString "_fix_eols") = some .globalImplicit := by kernel_rfl
theorem k312_len (L : Addr) : (E312 L).kindOf (Str.ofString "len") = some .globalImplicit := by kernel_rfl
theorem hl312 : ∀ x ∈ fd312.scope.names, x.2 ≠ .cell := by decide +kernel
theorem in312 {w : World} {A : Around} {E : Value → Shared → Prop} {S : Shared} {h₀ : Heap} {L : Addr} {m : Mp} {N : Led} {s : Shared} {P : Params} {Q : Value → Shared → Prop} {n : Nat} {v0 v1 : Value} (G : Gd P h₀) (F : Fm S h₀ L m N s) (R : Rm A (n + 1))
    (k : ∀ g L' s₁, Gd P g → Rm (A.deeper (E312 L')) n → Fm S g L' (lk [(Str.ofString "way", v1), (Str.ofString "program", v0)]) N s₁ → (∀ b o, h₀.get? b = some o → g.get? b = some o) → (∀ s' N' m', Fm S g L' m' N' s' → Fm S h₀ L m N' s') →
      wpAny (model pw w) (A.deeper (E312 L')) (execs (bodyD (top 30)) (E312 L')) (fun fl s' => Q (retv fl) s') (fun _ _ => False) s₁) :
    wpAny (model pw w) A (call (.ref 312) [v0, v1]) Q E s :=
  r_call (args := ⟨[v0, v1], []⟩) (binds := [(Str.ofString "program", v0), (Str.ofString "way", v1)]) G F R (ho312 P) hc312 rfl rfl (fun _ _ => BindsTo.of_eq (by kernel_rfl)) hl312 (locs (by kernel_rfl)) (fun g L' s₁ G' F' kp bk => k g L' s₁ G' (R.deeper _) F' kp bk)
noncomputable abbrev E319 (L : Addr) : Env := callEnv fd319 L 319
theorem ho319 (P : Params) : (KF P).lookup 319 = some ⟨.type "function", none, .func fd319, #[]⟩ := by kernel_rfl
theorem hc319 : (318, fd319.qualname) ∈ KC := by decide +kernel
theorem ek319 (L : Addr) : EnvOk (E319 L) L := ⟨by kernel_rfl, rfl, rfl, rfl⟩
theorem k319_tree (L : Addr) : (E319 L).kindOf (Str.ofString "tree") = some .local := by kernel_rfl
theorem k319_program (L : Addr) : (E319 L).kindOf (Str.ofString "program") = some .local := by kernel_rfl
theorem k319_answer (L : Addr) : (E319 L).kindOf (Str.ofString "answer") = some .local := by kernel_rfl
theorem k319_first (L : Addr) : (E319 L).kindOf (Str.ofString "first") = some .local := by kernel_rfl
theorem k319_second (L : Addr) : (E319 L).kindOf (Str.ofString "second") = some .local := by kernel_rfl
theorem k319_word (L : Addr) : (E319 L).kindOf (Str.ofString "word") = some .local := by kernel_rfl
theorem k319_rows (L : Addr) : (E319 L).kindOf (Str.ofString "rows") = some .local := by kernel_rfl
theorem k319_more (L : Addr) : (E319 L).kindOf (Str.ofString "more") = some .local := by kernel_rfl
theorem k319_len (L : Addr) : (E319 L).kindOf (Str.ofString "len") = some .globalImplicit := by kernel_rfl
theorem k319_Headers (L : Addr) : (E319 L).kindOf (Str.ofString "Headers") = some .globalImplicit := by kernel_rfl
theorem k319_str (L : Addr) : (E319 L).kindOf (Str.ofString "str") = some .globalImplicit := by kernel_rfl
theorem k319_law_hands (L : Addr) : (E319 L).kindOf (Str.ofString "_law_hands") = some .globalImplicit := by kernel_rfl
theorem k319_law_program (L : Addr) : (E319 L).kindOf (Str.ofString "_law_program") = some .globalImplicit := by kernel_rfl
theorem k319_law_sent (L : Addr) : (E319 L).kindOf (Str.ofString "_law_sent") = some .globalImplicit := by kernel_rfl
theorem k319_concat (L : Addr) : (E319 L).kindOf (Str.ofString "concat") = some .globalImplicit := by kernel_rfl
theorem hl319 : ∀ x ∈ fd319.scope.names, x.2 ≠ .cell := by decide +kernel
theorem in319 {w : World} {A : Around} {E : Value → Shared → Prop} {S : Shared} {h₀ : Heap} {L : Addr} {m : Mp} {N : Led} {s : Shared} {P : Params} {Q : Value → Shared → Prop} {n : Nat} {v0 : Value} (G : Gd P h₀) (F : Fm S h₀ L m N s) (R : Rm A (n + 1))
    (k : ∀ g L' s₁, Gd P g → Rm (A.deeper (E319 L')) n → Fm S g L' (lk [(Str.ofString "tree", v0)]) N s₁ → (∀ b o, h₀.get? b = some o → g.get? b = some o) → (∀ s' N' m', Fm S g L' m' N' s' → Fm S h₀ L m N' s') →
      wpAny (model pw w) (A.deeper (E319 L')) (execs (bodyD (top 31)) (E319 L')) (fun fl s' => Q (retv fl) s') (fun _ _ => False) s₁) :
    wpAny (model pw w) A (call (.ref 319) [v0]) Q E s :=
  r_call (args := ⟨[v0], []⟩) (binds := [(Str.ofString "tree", v0)]) G F R (ho319 P) hc319 rfl rfl (fun _ _ => BindsTo.of_eq (by kernel_rfl)) hl319 (locs (by kernel_rfl)) (fun g L' s₁ G' F' kp bk => k g L' s₁ G' (R.deeper _) F' kp bk)
noncomputable abbrev E326 (L : Addr) : Env := callEnv fd326 L 326
theorem ho326 (P : Params) : (KF P).lookup 326 = some ⟨.type "function", none, .func fd326, #[]⟩ := by kernel_rfl
theorem hc326 : (325, fd326.qualname) ∈ KC := by decide +kernel
theorem ek326 (L : Addr) : EnvOk (E326 L) L := ⟨by kernel_rfl, rfl, rfl, rfl⟩
theorem k326_tree (L : Addr) : (E326 L).kindOf (Str.ofString "tree") = some .local := by kernel_rfl
theorem k326_deep (L : Addr) : (E326 L).kindOf (Str.ofString "deep") = some .local := by kernel_rfl
theorem k326_first (L : Addr) : (E326 L).kindOf (Str.ofString "first") = some .local := by kernel_rfl
theorem k326_second (L : Addr) : (E326 L).kindOf (Str.ofString "second") = some .local := by kernel_rfl
theorem k326_word (L : Addr) : (E326 L).kindOf (Str.ofString "word") = some .local := by kernel_rfl
theorem k326_len (L : Addr) : (E326 L).kindOf (Str.ofString "len") = some .globalImplicit := by kernel_rfl
theorem k326_str (L : Addr) : (E326 L).kindOf (Str.ofString "str") = some .globalImplicit := by kernel_rfl
theorem k326_law_hands (L : Addr) : (E326 L).kindOf (Str.ofString "_law_hands") = some .globalImplicit := by kernel_rfl
theorem k326_law_rows (L : Addr) : (E326 L).kindOf (Str.ofString "_law_rows") = some .globalImplicit := by kernel_rfl
theorem hl326 : ∀ x ∈ fd326.scope.names, x.2 ≠ .cell := by decide +kernel
theorem in326 {w : World} {A : Around} {E : Value → Shared → Prop} {S : Shared} {h₀ : Heap} {L : Addr} {m : Mp} {N : Led} {s : Shared} {P : Params} {Q : Value → Shared → Prop} {n : Nat} {v0 v1 : Value} (G : Gd P h₀) (F : Fm S h₀ L m N s) (R : Rm A (n + 1))
    (k : ∀ g L' s₁, Gd P g → Rm (A.deeper (E326 L')) n → Fm S g L' (lk [(Str.ofString "deep", v1), (Str.ofString "tree", v0)]) N s₁ → (∀ b o, h₀.get? b = some o → g.get? b = some o) → (∀ s' N' m', Fm S g L' m' N' s' → Fm S h₀ L m N' s') →
      wpAny (model pw w) (A.deeper (E326 L')) (execs (bodyD (top 32)) (E326 L')) (fun fl s' => Q (retv fl) s') (fun _ _ => False) s₁) :
    wpAny (model pw w) A (call (.ref 326) [v0, v1]) Q E s :=
  r_call (args := ⟨[v0, v1], []⟩) (binds := [(Str.ofString "tree", v0), (Str.ofString "deep", v1)]) G F R (ho326 P) hc326 rfl rfl (fun _ _ => BindsTo.of_eq (by kernel_rfl)) hl326 (locs (by kernel_rfl)) (fun g L' s₁ G' F' kp bk => k g L' s₁ G' (R.deeper _) F' kp bk)
noncomputable abbrev E333 (L : Addr) : Env := callEnv fd333 L 333
theorem ho333 (P : Params) : (KF P).lookup 333 = some ⟨.type "function", none, .func fd333, #[]⟩ := by kernel_rfl
theorem hc333 : (332, fd333.qualname) ∈ KC := by decide +kernel
theorem ek333 (L : Addr) : EnvOk (E333 L) L := ⟨by kernel_rfl, rfl, rfl, rfl⟩
theorem k333_word (L : Addr) : (E333 L).kindOf (Str.ofString "word") = some .local := by kernel_rfl
theorem k333_one (L : Addr) : (E333 L).kindOf (Str.ofString "one") = some .local := by kernel_rfl
theorem k333_two (L : Addr) : (E333 L).kindOf (Str.ofString "two") = some .local := by kernel_rfl
theorem k333_add (L : Addr) : (E333 L).kindOf (Str.ofString "add") = some .globalImplicit := by kernel_rfl
theorem k333_sub (L : Addr) : (E333 L).kindOf (Str.ofString "sub") = some .globalImplicit := by kernel_rfl
theorem k333_mul (L : Addr) : (E333 L).kindOf (Str.ofString "mul") = some .globalImplicit := by kernel_rfl
theorem k333_xor (L : Addr) : (E333 L).kindOf (Str.ofString "xor") = some .globalImplicit := by kernel_rfl
theorem hl333 : ∀ x ∈ fd333.scope.names, x.2 ≠ .cell := by decide +kernel
theorem in333 {w : World} {A : Around} {E : Value → Shared → Prop} {S : Shared} {h₀ : Heap} {L : Addr} {m : Mp} {N : Led} {s : Shared} {P : Params} {Q : Value → Shared → Prop} {n : Nat} {v0 v1 v2 : Value} (G : Gd P h₀) (F : Fm S h₀ L m N s) (R : Rm A (n + 1))
    (k : ∀ g L' s₁, Gd P g → Rm (A.deeper (E333 L')) n → Fm S g L' (lk [(Str.ofString "two", v2), (Str.ofString "one", v1), (Str.ofString "word", v0)]) N s₁ → (∀ b o, h₀.get? b = some o → g.get? b = some o) → (∀ s' N' m', Fm S g L' m' N' s' → Fm S h₀ L m N' s') →
      wpAny (model pw w) (A.deeper (E333 L')) (execs (bodyD (top 33)) (E333 L')) (fun fl s' => Q (retv fl) s') (fun _ _ => False) s₁) :
    wpAny (model pw w) A (call (.ref 333) [v0, v1, v2]) Q E s :=
  r_call (args := ⟨[v0, v1, v2], []⟩) (binds := [(Str.ofString "word", v0), (Str.ofString "one", v1), (Str.ofString "two", v2)]) G F R (ho333 P) hc333 rfl rfl (fun _ _ => BindsTo.of_eq (by kernel_rfl)) hl333 (locs (by kernel_rfl)) (fun g L' s₁ G' F' kp bk => k g L' s₁ G' (R.deeper _) F' kp bk)
noncomputable abbrev E340 (L : Addr) : Env := callEnv fd340 L 340
theorem ho340 (P : Params) : (KF P).lookup 340 = some ⟨.type "function", none, .func fd340, #[]⟩ := by kernel_rfl
theorem hc340 : (339, fd340.qualname) ∈ KC := by decide +kernel
theorem ek340 (L : Addr) : EnvOk (E340 L) L := ⟨by kernel_rfl, rfl, rfl, rfl⟩
theorem k340_program (L : Addr) : (E340 L).kindOf (Str.ofString "program") = some .local := by kernel_rfl
theorem k340_held (L : Addr) : (E340 L).kindOf (Str.ofString "held") = some .local := by kernel_rfl
theorem k340_most (L : Addr) : (E340 L).kindOf (Str.ofString "most") = some .local := by kernel_rfl
theorem k340_name (L : Addr) : (E340 L).kindOf (Str.ofString "name") = some .local := by kernel_rfl
theorem k340_value (L : Addr) : (E340 L).kindOf (Str.ofString "value") = some .local := by kernel_rfl
theorem k340_Headers (L : Addr) : (E340 L).kindOf (Str.ofString "Headers") = some .globalImplicit := by kernel_rfl
theorem k340_str (L : Addr) : (E340 L).kindOf (Str.ofString "str") = some .globalImplicit := by kernel_rfl
theorem k340_law_done (L : Addr) : (E340 L).kindOf (Str.ofString "_law_done") = some .globalImplicit := by kernel_rfl
theorem k340_int (L : Addr) : (E340 L).kindOf (Str.ofString "int") = some .globalImplicit := by kernel_rfl
theorem k340_getitem (L : Addr) : (E340 L).kindOf (Str.ofString "getitem") = some .globalImplicit := by kernel_rfl
theorem k340_delitem (L : Addr) : (E340 L).kindOf (Str.ofString "delitem") = some .globalImplicit := by kernel_rfl
theorem k340_setitem (L : Addr) : (E340 L).kindOf (Str.ofString "setitem") = some .globalImplicit := by kernel_rfl
theorem k340_max (L : Addr) : (E340 L).kindOf (Str.ofString "max") = some .globalImplicit := by kernel_rfl
theorem k340_length_hint (L : Addr) : (E340 L).kindOf (Str.ofString "length_hint") = some .globalImplicit := by kernel_rfl
theorem hl340 : ∀ x ∈ fd340.scope.names, x.2 ≠ .cell := by decide +kernel
theorem in340 {w : World} {A : Around} {E : Value → Shared → Prop} {S : Shared} {h₀ : Heap} {L : Addr} {m : Mp} {N : Led} {s : Shared} {P : Params} {Q : Value → Shared → Prop} {n : Nat} {v0 : Value} (G : Gd P h₀) (F : Fm S h₀ L m N s) (R : Rm A (n + 1))
    (k : ∀ g L' s₁, Gd P g → Rm (A.deeper (E340 L')) n → Fm S g L' (lk [(Str.ofString "program", v0)]) N s₁ → (∀ b o, h₀.get? b = some o → g.get? b = some o) → (∀ s' N' m', Fm S g L' m' N' s' → Fm S h₀ L m N' s') →
      wpAny (model pw w) (A.deeper (E340 L')) (execs (bodyD (top 34)) (E340 L')) (fun fl s' => Q (retv fl) s') (fun _ _ => False) s₁) :
    wpAny (model pw w) A (call (.ref 340) [v0]) Q E s :=
  r_call (args := ⟨[v0], []⟩) (binds := [(Str.ofString "program", v0)]) G F R (ho340 P) hc340 rfl rfl (fun _ _ => BindsTo.of_eq (by kernel_rfl)) hl340 (locs (by kernel_rfl)) (fun g L' s₁ G' F' kp bk => k g L' s₁ G' (R.deeper _) F' kp bk)
noncomputable abbrev E345 (L : Addr) : Env := callEnv fd345 L 345
theorem ho345 (P : Params) : (KF P).lookup 345 = some ⟨.type "function", none, .func fd345, #[]⟩ := by kernel_rfl
theorem hc345 : (344, fd345.qualname) ∈ KC := by decide +kernel
theorem ek345 (L : Addr) : EnvOk (E345 L) L := ⟨by kernel_rfl, rfl, rfl, rfl⟩
theorem k345_due (L : Addr) : (E345 L).kindOf (Str.ofString "due") = some .local := by kernel_rfl
theorem k345_rows (L : Addr) : (E345 L).kindOf (Str.ofString "rows") = some .local := by kernel_rfl
theorem k345_deeper (L : Addr) : (E345 L).kindOf (Str.ofString "deeper") = some .local := by kernel_rfl
theorem k345_table (L : Addr) : (E345 L).kindOf (Str.ofString "table") = some .local := by kernel_rfl
theorem k345_taken (L : Addr) : (E345 L).kindOf (Str.ofString "taken") = some .local := by kernel_rfl
theorem k345_told (L : Addr) : (E345 L).kindOf (Str.ofString "told") = some .local := by kernel_rfl
theorem k345_answer (L : Addr) : (E345 L).kindOf (Str.ofString "answer") = some .local := by kernel_rfl
theorem k345_Headers (L : Addr) : (E345 L).kindOf (Str.ofString "Headers") = some .globalImplicit := by kernel_rfl
theorem k345_getitem (L : Addr) : (E345 L).kindOf (Str.ofString "getitem") = some .globalImplicit := by kernel_rfl
theorem k345_setitem (L : Addr) : (E345 L).kindOf (Str.ofString "setitem") = some .globalImplicit := by kernel_rfl
theorem hl345 : ∀ x ∈ fd345.scope.names, x.2 ≠ .cell := by decide +kernel
theorem in345 {w : World} {A : Around} {E : Value → Shared → Prop} {S : Shared} {h₀ : Heap} {L : Addr} {m : Mp} {N : Led} {s : Shared} {P : Params} {Q : Value → Shared → Prop} {n : Nat} {v0 : Value} (G : Gd P h₀) (F : Fm S h₀ L m N s) (R : Rm A (n + 1))
    (k : ∀ g L' s₁, Gd P g → Rm (A.deeper (E345 L')) n → Fm S g L' (lk [(Str.ofString "due", v0)]) N s₁ → (∀ b o, h₀.get? b = some o → g.get? b = some o) → (∀ s' N' m', Fm S g L' m' N' s' → Fm S h₀ L m N' s') →
      wpAny (model pw w) (A.deeper (E345 L')) (execs (bodyD (top 35)) (E345 L')) (fun fl s' => Q (retv fl) s') (fun _ _ => False) s₁) :
    wpAny (model pw w) A (call (.ref 345) [v0]) Q E s :=
  r_call (args := ⟨[v0], []⟩) (binds := [(Str.ofString "due", v0)]) G F R (ho345 P) hc345 rfl rfl (fun _ _ => BindsTo.of_eq (by kernel_rfl)) hl345 (locs (by kernel_rfl)) (fun g L' s₁ G' F' kp bk => k g L' s₁ G' (R.deeper _) F' kp bk)
noncomputable abbrev E352 (L : Addr) : Env := callEnv fd352 L 352
theorem ho352 (P : Params) : (KF P).lookup 352 = some ⟨.type "function", none, .func fd352, #[]⟩ := by kernel_rfl
theorem hc352 : (351, fd352.qualname) ∈ KC := by decide +kernel
theorem ek352 (L : Addr) : EnvOk (E352 L) L := ⟨by kernel_rfl, rfl, rfl, rfl⟩
theorem k352_tree (L : Addr) : (E352 L).kindOf (Str.ofString "tree") = some .local := by kernel_rfl
theorem k352_one (L : Addr) : (E352 L).kindOf (Str.ofString "one") = some .local := by kernel_rfl
theorem k352_two (L : Addr) : (E352 L).kindOf (Str.ofString "two") = some .local := by kernel_rfl
theorem k352_len (L : Addr) : (E352 L).kindOf (Str.ofString "len") = some .globalImplicit := by kernel_rfl
theorem k352_law_worth (L : Addr) : (E352 L).kindOf (Str.ofString "_law_worth") = some .globalImplicit := by kernel_rfl
theorem hl352 : ∀ x ∈ fd352.scope.names, x.2 ≠ .cell := by decide +kernel
theorem in352 {w : World} {A : Around} {E : Value → Shared → Prop} {S : Shared} {h₀ : Heap} {L : Addr} {m : Mp} {N : Led} {s : Shared} {P : Params} {Q : Value → Shared → Prop} {n : Nat} {v0 : Value} (G : Gd P h₀) (F : Fm S h₀ L m N s) (R : Rm A (n + 1))
    (k : ∀ g L' s₁, Gd P g → Rm (A.deeper (E352 L')) n → Fm S g L' (lk [(Str.ofString "tree", v0)]) N s₁ → (∀ b o, h₀.get? b = some o → g.get? b = some o) → (∀ s' N' m', Fm S g L' m' N' s' → Fm S h₀ L m N' s') →
      wpAny (model pw w) (A.deeper (E352 L')) (execs (bodyD (top 36)) (E352 L')) (fun fl s' => Q (retv fl) s') (fun _ _ => False) s₁) :
    wpAny (model pw w) A (call (.ref 352) [v0]) Q E s :=
  r_call (args := ⟨[v0], []⟩) (binds := [(Str.ofString "tree", v0)]) G F R (ho352 P) hc352 rfl rfl (fun _ _ => BindsTo.of_eq (by kernel_rfl)) hl352 (locs (by kernel_rfl)) (fun g L' s₁ G' F' kp bk => k g L' s₁ G' (R.deeper _) F' kp bk)
noncomputable abbrev E359 (L : Addr) : Env := callEnv fd359 L 359
theorem ho359 (P : Params) : (KF P).lookup 359 = some ⟨.type "function", none, .func fd359, #[]⟩ := by kernel_rfl
theorem hc359 : (358, fd359.qualname) ∈ KC := by decide +kernel
theorem ek359 (L : Addr) : EnvOk (E359 L) L := ⟨by kernel_rfl, rfl, rfl, rfl⟩
theorem k359_tree (L : Addr) : (E359 L).kindOf (Str.ofString "tree") = some .local := by kernel_rfl
theorem k359_start (L : Addr) : (E359 L).kindOf (Str.ofString "start") = some .local := by kernel_rfl
theorem k359_left (L : Addr) : (E359 L).kindOf (Str.ofString "left") = some .local := by kernel_rfl
theorem k359_some (L : Addr) : (E359 L).kindOf (Str.ofString "some") = some .local := by kernel_rfl
theorem k359_right (L : Addr) : (E359 L).kindOf (Str.ofString "right") = some .local := by kernel_rfl
theorem k359_others (L : Addr) : (E359 L).kindOf (Str.ofString "others") = some .local := by kernel_rfl
theorem k359_len (L : Addr) : (E359 L).kindOf (Str.ofString "len") = some .globalImplicit := by kernel_rfl
theorem k359_law_masks (L : Addr) : (E359 L).kindOf (Str.ofString "_law_masks") = some .globalImplicit := by kernel_rfl
theorem hl359 : ∀ x ∈ fd359.scope.names, x.2 ≠ .cell := by decide +kernel
theorem in359 {w : World} {A : Around} {E : Value → Shared → Prop} {S : Shared} {h₀ : Heap} {L : Addr} {m : Mp} {N : Led} {s : Shared} {P : Params} {Q : Value → Shared → Prop} {n : Nat} {v0 v1 : Value} (G : Gd P h₀) (F : Fm S h₀ L m N s) (R : Rm A (n + 1))
    (k : ∀ g L' s₁, Gd P g → Rm (A.deeper (E359 L')) n → Fm S g L' (lk [(Str.ofString "start", v1), (Str.ofString "tree", v0)]) N s₁ → (∀ b o, h₀.get? b = some o → g.get? b = some o) → (∀ s' N' m', Fm S g L' m' N' s' → Fm S h₀ L m N' s') →
      wpAny (model pw w) (A.deeper (E359 L')) (execs (bodyD (top 37)) (E359 L')) (fun fl s' => Q (retv fl) s') (fun _ _ => False) s₁) :
    wpAny (model pw w) A (call (.ref 359) [v0, v1]) Q E s :=
  r_call (args := ⟨[v0, v1], []⟩) (binds := [(Str.ofString "tree", v0), (Str.ofString "start", v1)]) G F R (ho359 P) hc359 rfl rfl (fun _ _ => BindsTo.of_eq (by kernel_rfl)) hl359 (locs (by kernel_rfl)) (fun g L' s₁ G' F' kp bk => k g L' s₁ G' (R.deeper _) F' kp bk)
noncomputable abbrev E364 (L : Addr) : Env := callEnv fd364 L 364
theorem ho364 (P : Params) : (KF P).lookup 364 = some ⟨.type "function", none, .func fd364, #[]⟩ := by kernel_rfl
theorem hc364 : (363, fd364.qualname) ∈ KC := by decide +kernel
theorem ek364 (L : Addr) : EnvOk (E364 L) L := ⟨by kernel_rfl, rfl, rfl, rfl⟩
theorem k364_tree (L : Addr) : (E364 L).kindOf (Str.ofString "tree") = some .local := by kernel_rfl
theorem k364_masks (L : Addr) : (E364 L).kindOf (Str.ofString "masks") = some .local := by kernel_rfl
theorem k364_held (L : Addr) : (E364 L).kindOf (Str.ofString "held") = some .cell := by kernel_rfl
theorem k364_fewest (L : Addr) : (E364 L).kindOf (Str.ofString "fewest") = some .cell := by kernel_rfl
theorem k364_taken (L : Addr) : (E364 L).kindOf (Str.ofString "taken") = some .cell := by kernel_rfl
theorem k364_lasts (L : Addr) : (E364 L).kindOf (Str.ofString "lasts") = some .local := by kernel_rfl
theorem k364_law_masks (L : Addr) : (E364 L).kindOf (Str.ofString "_law_masks") = some .globalImplicit := by kernel_rfl
theorem k364_range (L : Addr) : (E364 L).kindOf (Str.ofString "range") = some .globalImplicit := by kernel_rfl
theorem k364_len (L : Addr) : (E364 L).kindOf (Str.ofString "len") = some .globalImplicit := by kernel_rfl
theorem k364_min (L : Addr) : (E364 L).kindOf (Str.ofString "min") = some .globalImplicit := by kernel_rfl
noncomputable abbrev E369 (L : Addr) : Env := callEnv fd369 L 369
theorem ho369 (P : Params) : (KF P).lookup 369 = some ⟨.type "function", none, .func fd369, #[]⟩ := by kernel_rfl
theorem hc369 : (368, fd369.qualname) ∈ KC := by decide +kernel
theorem ek369 (L : Addr) : EnvOk (E369 L) L := ⟨by kernel_rfl, rfl, rfl, rfl⟩
theorem k369_script (L : Addr) : (E369 L).kindOf (Str.ofString "script") = some .cell := by kernel_rfl
theorem k369_base (L : Addr) : (E369 L).kindOf (Str.ofString "base") = some .cell := by kernel_rfl
theorem k369_tree (L : Addr) : (E369 L).kindOf (Str.ofString "tree") = some .local := by kernel_rfl
theorem k369_higher (L : Addr) : (E369 L).kindOf (Str.ofString "higher") = some .local := by kernel_rfl
theorem k369_due (L : Addr) : (E369 L).kindOf (Str.ofString "due") = some .local := by kernel_rfl
theorem k369_held (L : Addr) : (E369 L).kindOf (Str.ofString "held") = some .local := by kernel_rfl
theorem k369_most (L : Addr) : (E369 L).kindOf (Str.ofString "most") = some .local := by kernel_rfl
theorem k369_law_tree (L : Addr) : (E369 L).kindOf (Str.ofString "_law_tree") = some .globalImplicit := by kernel_rfl
theorem k369_range (L : Addr) : (E369 L).kindOf (Str.ofString "range") = some .globalImplicit := by kernel_rfl
theorem k369_law_sent (L : Addr) : (E369 L).kindOf (Str.ofString "_law_sent") = some .globalImplicit := by kernel_rfl
theorem k369_law_program (L : Addr) : (E369 L).kindOf (Str.ofString "_law_program") = some .globalImplicit := by kernel_rfl
theorem k369_law_rows (L : Addr) : (E369 L).kindOf (Str.ofString "_law_rows") = some .globalImplicit := by kernel_rfl
theorem k369_law_of_many (L : Addr) : (E369 L).kindOf (Str.ofString "_law_of_many") = some .globalImplicit := by kernel_rfl
theorem k369_law_run (L : Addr) : (E369 L).kindOf (Str.ofString "_law_run") = some .globalImplicit := by kernel_rfl
theorem k369_Headers (L : Addr) : (E369 L).kindOf (Str.ofString "Headers") = some .globalImplicit := by kernel_rfl
theorem k369_str (L : Addr) : (E369 L).kindOf (Str.ofString "str") = some .globalImplicit := by kernel_rfl
theorem k369_law_worth (L : Addr) : (E369 L).kindOf (Str.ofString "_law_worth") = some .globalImplicit := by kernel_rfl
theorem k369_law_fewest (L : Addr) : (E369 L).kindOf (Str.ofString "_law_fewest") = some .globalImplicit := by kernel_rfl
end Mine
end
section
open PySem PySem.W PyProof.Rows PySem.Calls PySem.Spec
set_option Elab.async false
set_option maxRecDepth 100000
namespace Mine
/-- the formula: a number and its letter, or a sign, two hands, a letter, a way of sending -/
inductive Tr where
  | leaf (v : Int) (c : Str)
  | node (op : Nat) (l r : Tr) (c : Str) (way : Nat)
namespace Tr
noncomputable def need : Tr → Nat
  | .leaf _ _ => 1
  | .node _ l r _ _ => if l.need = r.need then l.need + 1 else max l.need r.need
noncomputable def high : Tr → Nat
  | .leaf _ _ => 1
  | .node _ l r _ _ => max l.high r.high + 1
end Tr
inductive TreeIn (N : Led) : Value → Tr → Prop
  | leaf {a : Addr} {v : Int} {c : Str} {t u : Tok} : (a, tupO [.int v t, .str c u]) ∈ N → TreeIn N (.ref a) (.leaf v c)
  | node {a : Addr} {op : Nat} {x y : Value} {l r : Tr} {c : Str} {way : Nat} {t u k : Tok} : (a, tupO [.int op t, x, y, .str c u, .int way k]) ∈ N → TreeIn N x l → TreeIn N y r → TreeIn N (.ref a) (.node op l r c way)
theorem TreeIn.mono {N N' : Led} {v : Value} {t : Tr} (h : TreeIn N v t) (hs : ∀ p ∈ N, p ∈ N') : TreeIn N' v t := by
  induction h with
  | leaf h => exact .leaf (hs _ h)
  | node h _ _ ih1 ih2 => exact .node (hs _ h) ih1 ih2
theorem TreeIn.cons {N : Led} {v : Value} {t : Tr} {p : Addr × Obj} (h : TreeIn N v t) : TreeIn (p :: N) v t := h.mono fun _ q => .tail _ q
section
variable {w : World} {P : Params}
theorem need_spec : ∀ (t : Tr) {A : Around} {E : Value → Shared → Prop} {S : Shared} {h₀ : Heap} {L : Addr} {m : Mp} {N : Led} {s : Shared} {Q : Value → Shared → Prop} {v : Value},
    Gd P h₀ → Fm S h₀ L m N s → Rm A (t.high + 1) → TreeIn N v t → (∀ k s', Fm S h₀ L m N s' → Q (.int t.need k) s') → wpAny (model pw w) A (call (.ref 300) [v]) Q E s := by
  intro t
  induction t with
  | leaf x c =>
    intro A E S h₀ L m N s Q v G F R hT k
    cases hT with
    | leaf hm =>
    refine in300 G F R fun g L' s₁ G R' F kp bk => ?_
    have hE := ek300 L'
    refine wpAny_execs_cons ?_
    refine wpAny_If ?_
    refine wpAny_isTrue_Compare1 ?_
    refine callGb hE G F (k300_len _) b_len bb_len ?_
    refine args1 ?_
    refine nL hE F (k300_tree _) rfl ?_
    refine lenTup F hm fun _ _ F => ?_
    refine cI F fun _ _ F => ?_
    refine eq_int ?_
    refine wpAny_truthy_bool ?_
    refine wpAny_execs_cons ?_
    refine wpAny_Return_some ?_
    refine cI F fun _ _ F => ?_
    exact k _ _ (bk _ _ _ F)
  | node op l r c way ihl ihr =>
    intro A E S h₀ L m N s Q v G F R hT k
    cases hT with
    | node hm hl hr =>
    refine in300 G F R fun g L' s₁ G R' F kp bk => ?_
    have hE := ek300 L'
    have Rl : Rm (A.deeper (E300 L')) (l.high + 1) := R'.le (by simp only [Tr.high]; omega)
    have Rr : Rm (A.deeper (E300 L')) (r.high + 1) := R'.le (by simp only [Tr.high]; omega)
    refine wpAny_execs_cons ?_
    refine wpAny_If ?_
    refine wpAny_isTrue_Compare1 ?_
    refine callGb hE G F (k300_len _) b_len bb_len ?_
    refine args1 ?_
    refine nL hE F (k300_tree _) rfl ?_
    refine lenTup F hm fun _ _ F => ?_
    refine cI F fun _ _ F => ?_
    refine eq_int ?_
    refine wpAny_truthy_bool ?_
    refine wpAny_execs_nil ?_
    refine wpAny_execs_cons ?_
    refine asg2 R'.hd hE (k300_one _) (k300_two _) ?_
    refine callG hE G F (k300_law_need _) g_law_need (ho300 P) ?_
    refine args1 ?_
    refine subC (nL hE F (k300_tree _) rfl fun t => ?_)
    refine itTup (F.tk _) hm rfl ?_
    refine ⟨F.fr.keep, ?_⟩
    refine ihl G (F.tk _) Rl hl fun t1 _ F => ?_
    refine callG hE G F (k300_law_need _) g_law_need (ho300 P) ?_
    refine args1 ?_
    refine subC (nL hE F (k300_tree _) rfl fun t => ?_)
    refine itTup (F.tk _) hm rfl ?_
    refine ⟨F.fr.keep, ?_⟩
    refine ihr G (F.tk _) Rr hr fun t2 _ F => ?_
    refine ⟨_, _, _, _, F, fun a s' F => ?_⟩
    rw [up_lk, up_lk] at F
    refine wpAny_execs_cons ?_
    refine wpAny_Return_some ?_
    refine wpAny_IfExp ?_
    refine wpAny_isTrue_Compare1 ?_
    refine nL hE F (k300_one _) rfl ?_
    refine nL hE F (k300_two _) rfl ?_
    refine eq_int ?_
    refine wpAny_truthy_bool ?_
    by_cases hc : l.need = r.need
    · rw [show ((l.need : Int) == (r.need : Int)) = true by rw [hc]; simp]
      refine wpAny_BinOp ?_
      refine nL hE F (k300_one _) rfl ?_
      refine cI F fun _ _ F => ?_
      refine add_int ?_
      rw [show ((l.need : Int) + 1) = ((Tr.need (.node op l r c way) : Nat) : Int) by simp [Tr.need, hc]]
      exact k _ _ ((bk _ _ _ (F.tk _)).sub fun _ h => .tail _ h)
    · rw [show ((l.need : Int) == (r.need : Int)) = false from beq_eq_false_iff_ne.mpr (by omega)]
      refine callGb hE G F (k300_max _) b_max bb_max ?_
      refine args2 ?_
      refine nL hE F (k300_one _) rfl ?_
      refine nL hE F (k300_two _) rfl ?_
      refine max_two_N R'.hd F.fr F.nw fun h' tk Fr' N' => ?_
      have F : Fm S g L' _ _ { s' with heap := h', toks := tk } := ⟨Fr', N', F.ge, F.os⟩
      have e : (if (r.need : Int) > l.need then (r.need : Int) else l.need) = ((Tr.need (.node op l r c way) : Nat) : Int) := by simp only [Tr.need, if_neg hc]; split <;> omega
      rw [e]
      exact k _ _ ((bk _ _ _ F).sub fun _ h => .tail _ h)
end
end Mine
end
section
open PySem PySem.W PyProof.Rows PySem.Calls PySem.Spec
set_option Elab.async false
set_option maxRecDepth 100000
namespace Mine
theorem pa_rx : PlainAttrs "re.Pattern" := ⟨⟨"object.__getattribute__", by rw [typeLookup_type, builtinLookup_eq_fast]; kernel_rfl, by decide +kernel⟩, by rw [typeLookup_type, builtinLookup_eq_fast]; kernel_rfl⟩
theorem slot_rx_sub : Slot "re.Pattern" "sub" "re.Pattern.sub" :=
  .of (owner := "re.Pattern") (n := "sub") (by rw [typeLookup_type, builtinLookup_eq_fast]; kernel_rfl) (by decide +kernel) (by decide +kernel) (by decide +kernel)
    (by first | exact .inl (by decide +kernel) | exact .inr (by decide +kernel)) (by rw [isSubtype_type]; kernel_rfl)
theorem slot_rx_search : Slot "re.Pattern" "search" "re.Pattern.search" :=
  .of (owner := "re.Pattern") (n := "search") (by rw [typeLookup_type, builtinLookup_eq_fast]; kernel_rfl) (by decide +kernel) (by decide +kernel) (by decide +kernel)
    (by first | exact .inl (by decide +kernel) | exact .inr (by decide +kernel)) (by rw [isSubtype_type]; kernel_rfl)
theorem type_rx_sub : typeOf (.builtin "re.Pattern.sub") = pure (.type "method_descriptor") := by show builtinType _ = _; rw [builtinType_eq_fast]; kernel_rfl
theorem type_rx_search : typeOf (.builtin "re.Pattern.search") = pure (.type "method_descriptor") := by show builtinType _ = _; rw [builtinType_eq_fast]; kernel_rfl
theorem entry_rx_sub : entryFor table "re.Pattern.sub" = some Builtin.«re.Pattern.sub» := entryFor_of_tree (by kernel_rfl)
theorem entry_rx_search : entryFor table "re.Pattern.search" = some Builtin.«re.Pattern.search» := entryFor_of_tree (by kernel_rfl)
theorem entry_rx_loop : entryFor table "re.Pattern.sub.loop" = some Builtin.«re.Pattern.sub.loop» := entryFor_of_tree (by kernel_rfl)
theorem args_rx_sub (a b c : Value) : argsOk "re.Pattern.sub" ⟨[a, b, c], []⟩ := by
  unfold argsOk; kernel_rfl
theorem args_rx_search (a b : Value) : argsOk "re.Pattern.search" ⟨[a, b], []⟩ := by
  unfold argsOk; kernel_rfl
end Mine
end
section
open PySem PySem.W PyProof.Rows PySem.Calls PySem.Spec PySem.Builtin PySem.Builtin.Re
set_option Elab.async false
set_option maxRecDepth 100000
namespace Mine
section
variable {M : Model} {A : Around} {E : Value → Shared → Prop} {s : Shared}
theorem drive_ends {r : Sre.M} : ∀ (turns n : Nat) (m : Sre.M) {Q : Sre.M → Shared → Prop}, Ends n m r → n ≤ 4 * turns → 0 < turns → Q r s → wpAny M A (reDrive turns m) Q E s := by
  intro turns
  induction turns with
  | zero => intro n m Q _ _ h; exact absurd h (Nat.lt_irrefl _)
  | succ t ih =>
    intro n m Q he hn _ hq
    show wpAny M A (if (m.runFor reTurnSteps).outcome.isSome then pure (m.runFor reTurnSteps) else do rule "sre.turn"; reDrive t (m.runFor reTurnSteps)) Q E s
    by_cases c : (m.runFor reTurnSteps).outcome.isSome = true
    · rw [if_pos c]
      have e : m.runFor reTurnSteps = r := by
        have h1 := runFor_add reTurnSteps n m
        rw [runFor_done c] at h1
        have h2 := runFor_add n reTurnSteps m
        rw [he.1, runFor_done he.2, Nat.add_comm, h1] at h2
        exact h2
      rw [e]; exact wpAny_pure hq
    · rw [if_neg c]
      have c' : (m.runFor 4).outcome.isSome = false := Bool.eq_false_iff.mpr c
      have hlt : 4 < n := by
        apply Classical.byContradiction
        intro hh
        have := (he.more (show n ≤ 4 by omega)).1
        rw [this, he.2] at c'; cases c'
      refine wpAny_bind (wpAny_rule (ih (n - 4) _ ?_ (by omega) (by omega) hq))
      refine ⟨?_, he.2⟩
      show Sre.M.runFor (n - 4) (m.runFor 4) = r
      rw [← runFor_add, show 4 + (n - 4) = n by omega]; exact he.1
theorem runToEnd_says {n : Nat} {m r : Sre.M} {o : Option (Nat × Nat)} {Q : Option Sre.M → Shared → Prop} (he : Ends n m r) (hn : n ≤ 2 ^ 60) (hs : Says r o)
    (h : ∀ x, (match o with | some (b, e) => ∃ r, x = some r ∧ r.start = b ∧ r.handed = e | none => x = none) → Q x s) : wpAny M A (reRunToEnd m) Q E s := by
  unfold reRunToEnd
  refine wpAny_bind (drive_ends (2 ^ 64) n m he (by omega) (by decide) ?_)
  refine wpAny_bind (wpAny_forIn_list _ (fun _ _ s' => s' = s) _ ?_ ?_ _ _ rfl)
  · rintro i rest b s' rfl
    by_cases c : r.seen.has i = true
    · simp only [c, if_true]; exact wpAny_bind (wpAny_rule (wpAny_pure rfl))
    · simp only [c]; exact wpAny_pure rfl
  · rintro b s' rfl
    cases o with
    | none =>
      have : r.outcome = some .failed := hs
      rw [this]; exact wpAny_pure (h _ rfl)
    | some p =>
      obtain ⟨b', e'⟩ := p
      obtain ⟨a, c, d⟩ := hs
      rw [a]; exact wpAny_pure (h _ ⟨r, rfl, c, d⟩)
end
/-- a pattern of the top, over texts (kind 0) or octets (kind 1), without groups -/
noncomputable def rxO (p f : Value) (c : Addr) (k : Int) : Obj := ⟨.type "re.Pattern", none, .fields #[p, f, .int 0 0, .none, .none, .ref c, .int k 0], #[]⟩
noncomputable def codeO (c : Array Nat) : Obj := ⟨.type "tuple", none, .seq (c.map fun (n : Nat) => Value.int n 0) 0, #[]⟩
theorem o147_is (P : Params) : o147 P = codeO cN := by kernel_rfl
theorem o152_is (P : Params) : o152 P = codeO cV := by kernel_rfl
theorem o42_is (P : Params) : o42 P = codeO c1 := by kernel_rfl
theorem o47_is (P : Params) : o47 P = codeO c1 := by kernel_rfl
theorem o52_is (P : Params) : o52 P = codeO c3 := by kernel_rfl
theorem code_back (c : Array Nat) : ((c.map fun (n : Nat) => Value.int n 0).map reRawOf).map (·.toNat) = c := by
  rw [Array.map_map, Array.map_map]
  apply Array.ext
  · simp
  · intro i h1 h2; simp [reRawOf]
section
variable {w : World} {A : Around} {E : Value → Shared → Prop} {S : Shared} {h₀ : Heap} {L : Addr} {m : Mp} {N : Led} {s : Shared} {P : Params} {prog : Program}
theorem rxSearch {a c : Addr} {p f : Value} {x : Str} {t : Tok} {code : Array Nat} {Q : Value → Shared → Prop} (F : Fm S h₀ L m N s) (ho : h₀.get? a = some (rxO p f c 0)) (hc : h₀.get? c = some (codeO code)) (hx : x.length ≤ sizeLine)
    (hs : ∃ n r, n ≤ 100 ∧ Ends n (Sre.forSearch code x.cps 0 0 x.cps.size false) r ∧ Says r none) (k : Q .none s) : wpAny (model prog w) A (call (.builtin "re.Pattern.search") [.ref a, .str x t]) Q E s := by
  refine wpAny_call_entry slot_rx_search ⟨_, F.old ho, rfl⟩ entry_rx_search ?_ (args_rx_search _ _)
  unfold «re.Pattern.search» reTarget
  have hof := F.old ho
  have hof2 := F.old hc
  refine wpAny_bind ?_
  refine wpAny_bind (m := reNamed "re.Pattern.search" "search" ["string", "pos", "endpos"] 1 [.str x t] []) (wpAny_of_eq (a := [some (.str x t), none, none]) rfl ?_)
  dsimp only
  refine wpAny_bind (wpAny_pure ?_)
  refine wpAny_bind (wpAny_pure ?_)
  refine wpAny_bind (wpAny_fieldsOf hof rfl ?_)
  refine wpAny_bind (wpAny_of_eq (a := (x.cps, 0)) rfl ?_)
  show wpAny _ _ (reNoCollectionInside (Value.str x t) 0 >>= _) _ _ _
  refine wpAny_bind (wpAny_of_eq (a := ()) rfl ?_)
  show wpAny _ _ (reRawItems (.ref c) >>= _) _ _ _
  unfold reRawItems
  refine wpAny_bind (wpAny_bind (wpAny_seqItems hof2 rfl (wpAny_pure (wpAny_pure ?_))))
  dsimp only [Option.getD]
  rw [code_back]
  have hx' : x.cps.size ≤ 2 ^ 24 := hx
  obtain ⟨n, r, hn, he, hs⟩ := hs
  unfold reAnswer
  dsimp only
  rw [show Min.min (Int.toNat 0) x.cps.size = 0 by simp, show Min.min ((2 ^ 63 - 1 : Int)).toNat x.cps.size = x.cps.size by omega]
  refine wpAny_bind (runToEnd_says he (by omega) hs fun o ho => ?_)
  subst ho
  exact wpAny_pure ⟨_, rfl, k⟩
end
end Mine
end
section
open PySem PySem.W PyProof.Rows PySem.Calls PySem.Spec PySem.Builtin PySem.Builtin.Re
set_option Elab.async false
set_option maxRecDepth 100000
namespace Mine
section
variable {S : Shared} {h₀ : Heap} {L : Addr} {m : Mp} {N : Led} {s : Shared}
/-- an object of the ledger is changed: it alone -/
theorem Fm.upd {l : Addr} {o : Obj} (F : Fm S h₀ L m N s) (hl : (l, o) ∈ N) (f : Obj → Obj) (hf : (f o).isFreed = false) : Fm S h₀ L m ((l, f o) :: N.filter (fun p => p.1 ≠ l)) { s with heap := s.heap.update l f } := by
  have D := F.nw _ hl
  have sb : Heap.SameBut l s.heap (s.heap.update l f) := .update ..
  obtain ⟨oL, es, ep, hL, r⟩ := F.fr.ns
  refine ⟨⟨⟨oL, es, ep, (sb.2 _ (Ne.symm D.2.1)).trans hL, r⟩, fun b x q => (sb.2 _ fun z => ?_).trans (F.fr.keep b x q), F.fr.above⟩, fun p hp => ?_, F.ge, F.os⟩
  · have := D.2.2; rw [← z, q] at this; cases this
  · rcases List.mem_cons.mp hp with rfl | hp
    · exact ⟨Heap.get?_update_self _ D.1 hf, D.2⟩
    · obtain ⟨h1, h2⟩ := List.mem_filter.mp hp
      have P := F.nw p h1
      exact ⟨(sb.2 _ (by simpa using h2)).trans P.1, P.2⟩
theorem Fm.updH {l : Addr} {o : Obj} (F : Fm S h₀ L m ((l, o) :: N) s) (hN : ∀ p ∈ N, p.1 ≠ l) (f : Obj → Obj) (hf : (f o).isFreed = false) : Fm S h₀ L m ((l, f o) :: N) { s with heap := s.heap.update l f } :=
  (F.upd (.head _) f hf).sub fun p hp => by
    rcases List.mem_cons.mp hp with rfl | hp
    · exact .head _
    · exact .tail _ (List.mem_filter.mpr ⟨.tail _ hp, by simpa using hN p hp⟩)
theorem Fm.lt (F : Fm S h₀ L m N s) : ∀ p ∈ N, p.1 < s.heap.objs.size := fun p hp => Heap.lt_size (F.nw p hp).1
theorem Fm.ne (F : Fm S h₀ L m N s) : ∀ p ∈ N, p.1 ≠ s.heap.objs.size := fun p hp => Nat.ne_of_lt (F.lt p hp)
end
noncomputable def txs (l : List (Str × Tok)) : List Nat := l.flatMap fun p => p.1.cps.toList
theorem txs_append (a b : List (Str × Tok)) : txs (a ++ b) = txs a ++ txs b := by simp [txs]
theorem cps_append (a b : Str) : (a ++ b).cps.toList = a.cps.toList ++ b.cps.toList := by
  show (a.cps ++ b.cps).toList = _; simp
theorem join_empty : ∀ ts : List Str, (Str.join Str.empty ts).cps.toList = ts.flatMap fun x => x.cps.toList
  | [] => rfl
  | [x] => by simp [Str.join]
  | x :: y :: r => by
    rw [Str.join]
    · rw [cps_append, cps_append, join_empty (y :: r)]; simp [Str.empty]
    · intro h; cases h
theorem str_ext {a b : Str} (h : a.cps.toList = b.cps.toList) : a = b := by
  cases a; cases b; simp only [Str.mk.injEq]; exact Array.toList_inj.mp h
noncomputable def strOf (l : List Nat) : Str := ⟨l.toArray⟩
theorem strOf_cps (l : List Nat) : (strOf l).cps.toList = l := by simp [strOf]
theorem txs_len (l : List (Str × Tok)) : (l.map (·.1.length)).sum = (txs l).length := by
  induction l with
  | nil => rfl
  | cons p r ih => simp only [List.map_cons, List.sum_cons, ih, txs, List.flatMap_cons, List.length_append, Array.length_toList]; rfl
section
variable {w : World} {A : Around} {E : Value → Shared → Prop} {S : Shared} {h₀ : Heap} {L : Addr} {m : Mp} {N : Led} {s : Shared} {P : Params} {prog : Program}
theorem slice0 {text : Array Nat} {b e : Nat} {Q : Value → Shared → Prop} {M : Model} (F : Fm S h₀ L m N s) (hx : text.size ≤ 2 ^ 22) (k : ∀ t s', Fm S h₀ L m N s' → Q (.str ⟨text.extract b e⟩ t) s') : wpAny M A (reSlice text 0 b e) Q E s := by
  show wpAny M A (mkStr ⟨text.extract b e⟩) Q E s
  refine wpAny_mkStr (k _ _ (F.tk _)) ?_
  show (text.extract b e).size ≤ 2 ^ 24
  rw [Array.size_extract]; omega
theorem whole0 {a c : Addr} {p f : Value} {x : Str} {t : Tok} {code : Array Nat} {Q : ReTarget → Shared → Prop} {M : Model} (F : Fm S h₀ L m N s) (ho : h₀.get? a = some (rxO p f c 0)) (hc : h₀.get? c = some (codeO code))
    (k : Q { pattern := .ref a, string := .str x t, code := code, text := x.cps, kind := 0, groups := 0, pos := 0, lim := x.cps.size } s) : wpAny M A (reWholeTarget (.ref a) (.str x t)) Q E s := by
  have hof := F.old ho
  have hof2 := F.old hc
  unfold reWholeTarget
  refine wpAny_bind (wpAny_fieldsOf hof rfl ?_)
  refine wpAny_bind (wpAny_of_eq (a := (x.cps, 0)) rfl ?_)
  show wpAny _ _ (reNoCollectionInside (Value.str x t) 0 >>= _) _ _ _
  refine wpAny_bind (wpAny_of_eq (a := ()) rfl ?_)
  show wpAny _ _ (reRawItems (.ref c) >>= _) _ _ _
  unfold reRawItems
  refine wpAny_bind (wpAny_bind (wpAny_seqItems hof2 rfl (wpAny_pure (wpAny_pure ?_))))
  dsimp only [Option.getD]
  rw [code_back]
  exact k
theorem pushSeq {l : Addr} {vs : List Value} {n : Nat} {v : Value} {Q : Unit → Shared → Prop} {M : Model} (F : Fm S h₀ L m ((l, lstO vs n) :: N) s) (hN : ∀ p ∈ N, p.1 ≠ l) (hsz : vs.length ≤ 2 ^ 23) (k : ∀ s', Fm S h₀ L m ((l, lstO (vs ++ [v]) (n + 1)) :: N) s' → Q () s') :
    wpAny M A (updateSeq l (·.push v)) Q E s := by
  refine wpAny_updateSeq (F.get (.head _)) rfl (k _ ?_) (by rw [List.size_toArray]; show _ ≤ 2 ^ 24; omega) (by rw [Array.size_push, List.size_toArray]; show _ ≤ 2 ^ 24 + 1; omega)
  have e : Obj.mapSeq (·.push v) (lstO vs n) = lstO (vs ++ [v]) (n + 1) := by
    show (⟨_, _, .seq (vs.toArray.push v) (if (vs.toArray.push v).size == vs.toArray.size then n else n + 1), _⟩ : Obj) = _
    rw [if_neg (by rw [Array.size_push, beq_iff_eq]; omega)]
    simp [lstO]
  exact e ▸ F.updH hN (·.mapSeq (·.push v)) (by rw [e]; rfl)
/-- the loop that puts in, over a text -/
theorem subLoop0 {a c : Addr} {p f : Value} {x : Str} {t : Tok} {code : Array Nat} {rep : Str} {tr : Tok} {find : Nat → Option (Nat × Nat)} {fin : Nat → List Nat} {B : Nat} (ho : h₀.get? a = some (rxO p f c 0)) (hc : h₀.get? c = some (codeO code)) (hx : x.cps.size ≤ 2 ^ 20) (hB : B ≤ 2 ^ 60)
    (hf : ∀ d, d ≤ x.cps.size → ∃ n r, n ≤ B ∧ Ends n (Sre.forSearch code x.cps 0 d x.cps.size false) r ∧ Says r (find d))
    (h1 : ∀ d b e, d ≤ x.cps.size → find d = some (b, e) → d ≤ b ∧ b < e ∧ e ≤ x.cps.size ∧ fin d = (x.cps.toList.drop d).take (b - d) ++ rep.cps.toList ++ fin e) (h2 : ∀ d, d ≤ x.cps.size → find d = none → fin d = x.cps.toList.drop d) (hfin : (fin 0).length ≤ 2 ^ 22) :
    ∀ (k : Nat) {A : Around} {R : Result → Shared → Prop} {s : Shared} (d n : Nat) (j : Nat) (l : Addr) (ps : List (Str × Tok)), x.cps.size - d < k → d ≤ x.cps.size → ps.length ≤ 2 * d → txs ps ++ fin d = fin 0 → Fm S h₀ L m ((l, lstO (strValues ps) n) :: N) s → (∀ p ∈ N, p.1 ≠ l) →
      (∀ t' s', Fm S h₀ L m N s' → R (.ok (.ret (.str (strOf (fin 0)) t'))) s') →
      codeAny (model prog w) A (.builtin "re.Pattern.sub.loop" ⟨[.ref a, .str x t, .str rep tr, rawInt 0, rawInt 0, rawInt j, rawInt d, rawInt d, .bool false, .ref l, .bool false], []⟩) R s := by
  intro k
  induction k with
  | zero => intro A R s d n j l ps h; exact absurd h (Nat.not_lt_zero _)
  | succ k ih =>
    intro A R s d n j l ps hk hd hps htx F hN kq
    refine codeAny_builtin entry_rx_loop ?_
    rw [Around.under_plainId (by decide +kernel)]
    unfold «re.Pattern.sub.loop»
    show wpAny _ _ (reWholeTarget (.ref a) (.str x t) >>= _) _ _ _
    refine wpAny_bind (whole0 F ho hc ?_)
    show wpAny _ _ (reLiteralCannotBeTurned (.str rep tr) >>= _) _ _ _
    refine wpAny_bind (wpAny_of_eq (a := ()) rfl ?_)
    show wpAny _ _ (reNextFound _ (Int.toNat (d : Int)) false >>= _) _ _ _
    unfold reNextFound
    dsimp only
    rw [Int.toNat_natCast]
    obtain ⟨n1, r1, hn1, he1, hs1⟩ := hf d hd
    refine wpAny_bind (runToEnd_says he1 (by omega) hs1 fun o hoo => ?_)
    have hx2 : x.cps.size ≤ 2 ^ 22 := by omega
    have hpl : ps.length ≤ 2 ^ 22 := by omega
    cases hq : find d with
    | none =>
      rw [hq] at hoo
      subst hoo
      dsimp only
      have hfd := h2 d hd hq
      by_cases c : d < x.cps.size
      · rw [if_pos c]
        refine wpAny_bind (slice0 F hx2 fun ts s1 F => ?_)
        refine wpAny_bind (pushSeq F hN (by simp [strValues]; omega) fun s1 F => ?_)
        obtain ⟨qs, hqv, hqs⟩ : ∃ qs : List (Str × Tok), strValues ps ++ [.str ⟨x.cps.extract d x.cps.size⟩ ts] = strValues qs ∧ txs qs = fin 0 := by
          refine ⟨ps ++ [(⟨x.cps.extract d x.cps.size⟩, ts)], by simp [strValues], ?_⟩
          rw [txs_append, ← htx, hfd]
          congr 1
          simp [txs, List.take_of_length_le]
        rw [hqv] at F
        refine wpAny_bind (slice0 F hx2 fun tj s2 F => ?_)
        refine wpAny_bind (wpAny_seqItems (F.get (.head _)) rfl ?_)
        dsimp only [Option.getD]
        have e0 : x.cps.extract 0 0 = #[] := by simp
        cases qs with
        | nil =>
          show wpAny _ _ (ret (.str ⟨x.cps.extract 0 0⟩ tj)) _ _ _
          refine wpAny_pure ?_
          have e : (⟨x.cps.extract 0 0⟩ : Str) = strOf (fin 0) := str_ext (by rw [strOf_cps, ← hqs, e0]; rfl)
          show R (.ok (.ret (.str ⟨x.cps.extract 0 0⟩ tj))) _
          rw [e]
          exact kq _ _ (F.sub fun _ h => .tail _ h)
        | cons q0 qs =>
          show wpAny _ _ (call (.builtin "str.join") [.str ⟨x.cps.extract 0 0⟩ tj, .ref l] >>= _) _ _ _
          rw [e0]
          refine wpAny_bind (SC.join (x := Str.empty) (texts := (q0 :: qs).map (·.1)) ⟨_, F.get (.head _), rfl, _, rfl⟩ rfl ?_ fun t' k' => ?_)
          · unfold JoinOk
            rw [StrLaws.joinTotal, List.map_map]
            show (!decide (((q0 :: qs).map fun p => p.1.length).sum + _ * 0 > 2 ^ 24)) = true
            rw [txs_len, hqs, decide_eq_false (by omega)]; rfl
          · show wpAny _ _ (ret _) _ _ _
            refine wpAny_pure ?_
            have e : Txt.join Str.empty ((q0 :: qs).map (·.1)) = strOf (fin 0) := str_ext (by
              rw [strOf_cps, ← hqs]
              show (Builtin.Str.glued Str.empty ((q0 :: qs).map (·.1))).cps.toList = txs (q0 :: qs)
              rw [StrLaws.glued_eq_join, join_empty, List.flatMap_map]; rfl)
            show R (.ok (.ret (.str (Txt.join Str.empty ((q0 :: qs).map (·.1))) t'))) _
            rw [e]
            exact kq _ _ ((F.tk _).sub fun _ h => .tail _ h)
      · rw [if_neg c]
        obtain ⟨qs, hqv, hqs⟩ : ∃ qs : List (Str × Tok), strValues ps = strValues qs ∧ txs qs = fin 0 := by
          refine ⟨ps, rfl, ?_⟩
          rw [← htx, hfd, List.drop_eq_nil_of_le (by rw [Array.length_toList]; omega), List.append_nil]
        rw [hqv] at F
        refine wpAny_bind (slice0 F hx2 fun tj s2 F => ?_)
        refine wpAny_bind (wpAny_seqItems (F.get (.head _)) rfl ?_)
        dsimp only [Option.getD]
        have e0 : x.cps.extract 0 0 = #[] := by simp
        cases qs with
        | nil =>
          show wpAny _ _ (ret (.str ⟨x.cps.extract 0 0⟩ tj)) _ _ _
          refine wpAny_pure ?_
          have e : (⟨x.cps.extract 0 0⟩ : Str) = strOf (fin 0) := str_ext (by rw [strOf_cps, ← hqs, e0]; rfl)
          show R (.ok (.ret (.str ⟨x.cps.extract 0 0⟩ tj))) _
          rw [e]
          exact kq _ _ (F.sub fun _ h => .tail _ h)
        | cons q0 qs =>
          show wpAny _ _ (call (.builtin "str.join") [.str ⟨x.cps.extract 0 0⟩ tj, .ref l] >>= _) _ _ _
          rw [e0]
          refine wpAny_bind (SC.join (x := Str.empty) (texts := (q0 :: qs).map (·.1)) ⟨_, F.get (.head _), rfl, _, rfl⟩ rfl ?_ fun t' k' => ?_)
          · unfold JoinOk
            rw [StrLaws.joinTotal, List.map_map]
            show (!decide (((q0 :: qs).map fun p => p.1.length).sum + _ * 0 > 2 ^ 24)) = true
            rw [txs_len, hqs, decide_eq_false (by omega)]; rfl
          · show wpAny _ _ (ret _) _ _ _
            refine wpAny_pure ?_
            have e : Txt.join Str.empty ((q0 :: qs).map (·.1)) = strOf (fin 0) := str_ext (by
              rw [strOf_cps, ← hqs]
              show (Builtin.Str.glued Str.empty ((q0 :: qs).map (·.1))).cps.toList = txs (q0 :: qs)
              rw [StrLaws.glued_eq_join, join_empty, List.flatMap_map]; rfl)
            show R (.ok (.ret (.str (Txt.join Str.empty ((q0 :: qs).map (·.1))) t'))) _
            rw [e]
            exact kq _ _ ((F.tk _).sub fun _ h => .tail _ h)
    | some be =>
      obtain ⟨b, e⟩ := be
      rw [hq] at hoo
      obtain ⟨r, rfl, rfl, rfl⟩ := hoo
      dsimp only
      obtain ⟨g1, g2, g3, g4⟩ := h1 d _ _ hd hq
      by_cases c : d < r.start
      · rw [if_pos c]
        refine wpAny_bind (slice0 F hx2 fun ts s1 F => ?_)
        refine wpAny_bind (pushSeq F hN (by simp [strValues]; omega) fun s1 F => ?_)
        obtain ⟨qs, hqv, hqs, hql⟩ : ∃ qs : List (Str × Tok), strValues ps ++ [.str ⟨x.cps.extract d r.start⟩ ts] = strValues qs ∧ txs qs = txs ps ++ (x.cps.toList.drop d).take (r.start - d) ∧ qs.length ≤ 2 * d + 1 := by
          refine ⟨ps ++ [(⟨x.cps.extract d r.start⟩, ts)], by simp [strValues], ?_, by rw [List.length_append]; simp only [List.length_singleton]; omega⟩
          rw [txs_append]
          congr 1
          simp [txs, List.drop_take]
        show wpAny _ _ (updateSeq l (fun x => x.push (Value.str rep tr)) >>= _) _ _ _
        refine wpAny_bind (pushSeq F hN (by rw [hqv]; simp [strValues]; omega) fun s1 F => ?_)
        rw [hqv] at F
        show wpAny _ _ (again _) _ _ _
        refine wpAny_pure ⟨plainId_quiet (by decide +kernel) _, ?_⟩
        have eb : (r.handed == r.start) = false := beq_eq_false_iff_ne.mpr (by omega)
        rw [eb]
        rw [show strValues qs ++ [Value.str rep tr] = strValues (qs ++ [(rep, tr)]) by simp [strValues]] at F
        exact ih r.handed _ (j + 1) l (qs ++ [(rep, tr)]) (by omega) g3 (by rw [List.length_append]; simp only [List.length_singleton]; omega) (by rw [txs_append, ← htx, g4, ← List.append_assoc, ← List.append_assoc, ← hqs]; simp [txs]) F hN kq
      · rw [if_neg c]
        obtain ⟨qs, hqv, hqs, hql⟩ : ∃ qs : List (Str × Tok), strValues ps = strValues qs ∧ txs qs = txs ps ++ (x.cps.toList.drop d).take (r.start - d) ∧ qs.length ≤ 2 * d + 1 := by
          refine ⟨ps, rfl, ?_, by omega⟩
          rw [show r.start - d = 0 by omega, List.take_zero, List.append_nil]
        show wpAny _ _ (updateSeq l (fun x => x.push (Value.str rep tr)) >>= _) _ _ _
        refine wpAny_bind (pushSeq F hN (by rw [hqv]; simp [strValues]; omega) fun s1 F => ?_)
        rw [hqv] at F
        show wpAny _ _ (again _) _ _ _
        refine wpAny_pure ⟨plainId_quiet (by decide +kernel) _, ?_⟩
        have eb : (r.handed == r.start) = false := beq_eq_false_iff_ne.mpr (by omega)
        rw [eb]
        rw [show strValues qs ++ [Value.str rep tr] = strValues (qs ++ [(rep, tr)]) by simp [strValues]] at F
        exact ih r.handed _ (j + 1) l (qs ++ [(rep, tr)]) (by omega) g3 (by rw [List.length_append]; simp only [List.length_singleton]; omega) (by rw [txs_append, ← htx, g4, ← List.append_assoc, ← List.append_assoc, ← hqs]; simp [txs]) F hN kq
end
end Mine
end
section
open PySem PySem.W PyProof.Rows PySem.Calls PySem.Spec PySem.Builtin PySem.Builtin.Re
set_option Elab.async false
set_option maxRecDepth 100000
namespace Mine
theorem fixL_len : ∀ l : List Nat, (fixL l).length ≤ 2 * l.length := by
  intro l
  induction l using fixL.induct with
  | case1 => simp [fixL]
  | case2 r ih => rw [fixL.eq_2]; simp only [List.length_cons]; omega
  | case3 c r h1 h2 ih => rw [fixL.eq_3 _ _ h1, if_pos h2]; simp only [List.length_cons]; omega
  | case4 c r h1 h2 ih => rw [fixL.eq_3 _ _ h1, if_neg h2]; simp only [List.length_cons]; omega
theorem quoteL_len : ∀ (l : List Nat) (b : Bool), (quoteL b l).length ≤ 2 * l.length
  | [], b => by simp [quoteL]
  | c :: r, b => by
    unfold quoteL
    split
    · have := quoteL_len r false; simp only [List.length_cons]; omega
    · have := quoteL_len r (c == 10); simp only [List.length_cons]; omega
theorem call_str_none : typeLookup (.type "str") (Str.ofString "__call__") = pure none := by rw [typeLookup_type, builtinLookup_eq_fast]; kernel_rfl
theorem call_bytes_none : typeLookup (.type "bytes") (Str.ofString "__call__") = pure none := by rw [typeLookup_type, builtinLookup_eq_fast]; kernel_rfl
section
variable {w : World} {A : Around} {E : Value → Shared → Prop} {S : Shared} {h₀ : Heap} {L : Addr} {m : Mp} {N : Led} {s : Shared} {P : Params} {prog : Program}
theorem rxSub0 {a c : Addr} {p f : Value} {x : Str} {t : Tok} {code : Array Nat} {rep : Str} {tr : Tok} {find : Nat → Option (Nat × Nat)} {fin : Nat → List Nat} {B : Nat} {Q : Value → Shared → Prop} (F : Fm S h₀ L m N s) (ho : h₀.get? a = some (rxO p f c 0)) (hc : h₀.get? c = some (codeO code)) (hx : x.cps.size ≤ 2 ^ 20) (hB : B ≤ 2 ^ 60) (hrep : rep.cps.contains 92 = false)
    (hf : ∀ d, d ≤ x.cps.size → ∃ n r, n ≤ B ∧ Ends n (Sre.forSearch code x.cps 0 d x.cps.size false) r ∧ Says r (find d))
    (h1 : ∀ d b e, d ≤ x.cps.size → find d = some (b, e) → d ≤ b ∧ b < e ∧ e ≤ x.cps.size ∧ fin d = (x.cps.toList.drop d).take (b - d) ++ rep.cps.toList ++ fin e) (h2 : ∀ d, d ≤ x.cps.size → find d = none → fin d = x.cps.toList.drop d) (hfin : (fin 0).length ≤ 2 ^ 22)
    (k : ∀ t' s', Fm S h₀ L m N s' → Q (.str (strOf (fin 0)) t') s') : wpAny (model prog w) A (call (.builtin "re.Pattern.sub") [.ref a, .str rep tr, .str x t]) Q E s := by
  refine wpAny_call (codeAny_call_builtin slot_rx_sub.plain entry_rx_sub (slot_rx_sub.check _ _ _ _ _ _ _ _ ⟨_, F.old ho, rfl⟩ (args_rx_sub _ _ _) ?_))
  unfold «re.Pattern.sub» reSubstitute
  show wpAny _ _ (reNamed "re.Pattern.sub" "sub" ["repl", "string", "count"] 2 [.str rep tr, .str x t] [] >>= _) _ _ _
  refine wpAny_bind (wpAny_of_eq (a := [some (.str rep tr), some (.str x t), none]) rfl ?_)
  show wpAny _ _ (pure 0 >>= _) _ _ _
  refine wpAny_bind (wpAny_pure ?_)
  refine wpAny_bind (wpAny_specialOf (typeIs_str _ _ _) call_str_none ?_)
  show wpAny _ _ (asStr? (.str rep tr) >>= _) _ _ _
  refine wpAny_bind (wpAny_of_eq (a := some rep) rfl ?_)
  show wpAny _ _ (pure (!rep.cps.contains 92) >>= _) _ _ _
  refine wpAny_bind (wpAny_pure ?_)
  rw [hrep]
  show wpAny _ _ (pure (Value.str rep tr, 0) >>= _) _ _ _
  refine wpAny_bind (wpAny_pure ?_)
  refine wpAny_bind (wpAny_holding (whole0 F ho hc ?_))
  show wpAny _ _ (newList [] >>= _) _ _ _
  refine wpAny_bind (wpAny_newList ?_)
  show wpAny _ _ (again _) _ _ _
  have F' := F.push (lstO [] 0)
  refine wpAny_pure ⟨plainId_quiet (by decide +kernel) _, ?_⟩
  refine subLoop0 ho hc hx hB hf h1 h2 hfin (x.cps.size + 1) 0 0 0 _ [] (by omega) (Nat.zero_le _) (Nat.zero_le _) (by rfl) F' F.ne fun t' s' F => ?_
  exact k t' s' F
theorem at53 (G : Gd P h₀) : (∃ p f, h₀.get? 53 = some (rxO p f 52 0)) ∧ h₀.get? 52 = some (codeO c3) := ⟨⟨_, _, G.X 53 (o53 P) (by kernel_rfl)⟩, o52_is P ▸ G.X 52 (o52 P) (by kernel_rfl)⟩
theorem at43 (G : Gd P h₀) : (∃ p f, h₀.get? 43 = some (rxO p f 42 0)) ∧ h₀.get? 42 = some (codeO c1) := ⟨⟨_, _, G.X 43 (o43 P) (by kernel_rfl)⟩, o42_is P ▸ G.X 42 (o42 P) (by kernel_rfl)⟩
theorem at48 (G : Gd P h₀) : (∃ p f, h₀.get? 48 = some (rxO p f 47 1)) ∧ h₀.get? 47 = some (codeO c1) := ⟨⟨_, _, G.X 48 (o48 P) (by kernel_rfl)⟩, o47_is P ▸ G.X 47 (o47 P) (by kernel_rfl)⟩
theorem at148 (G : Gd P h₀) : (∃ p f, h₀.get? 148 = some (rxO p f 147 0)) ∧ h₀.get? 147 = some (codeO cN) := ⟨⟨_, _, G.X 148 (o148 P) (by kernel_rfl)⟩, o147_is P ▸ G.X 147 (o147 P) (by kernel_rfl)⟩
theorem at153 (G : Gd P h₀) : (∃ p f, h₀.get? 153 = some (rxO p f 152 0)) ∧ h₀.get? 152 = some (codeO cV) := ⟨⟨_, _, G.X 153 (o153 P) (by kernel_rfl)⟩, o152_is P ▸ G.X 152 (o152 P) (by kernel_rfl)⟩
noncomputable def crlf : Str := Str.mk #[13, 10]
noncomputable def dots2 : Str := Str.ofString ".."
theorem dots2_is : dots2.cps = #[46, 46] := by decide +kernel
/-- the text with every row's end turned, and with the dots at the rows' beginnings doubled -/
noncomputable def fixS (x : Str) : Str := strOf (fixL x.cps.toList)
noncomputable def quoS (x : Str) : Str := strOf (quoteL true x.cps.toList)
theorem sub3 {x : Str} {t : Tok} {tr : Tok} {Q : Value → Shared → Prop} (G : Gd P h₀) (F : Fm S h₀ L m N s) (hx : x.cps.size ≤ 2 ^ 20) (k : ∀ t' s', Fm S h₀ L m N s' → Q (.str (fixS x) t') s') :
    wpAny (model prog w) A (call (.builtin "re.Pattern.sub") [.ref 53, .str crlf tr, .str x t]) Q E s := by
  have hl := fixL_len x.cps.toList
  have hz : x.cps.toList.length = x.cps.size := Array.length_toList
  obtain ⟨⟨p, f, hp⟩, hcc⟩ := at53 G
  refine rxSub0 (rep := crlf) (code := c3) (c := 52) (find := fun d => (nextNl x.cps (x.cps.size - d) d).map fun i => (i, nlEnd x.cps x.cps.size i)) (fin := fun d => fixL (x.cps.toList.drop d)) (B := 100) F hp hcc hx (by decide) (by decide +kernel)
    (fun d hd => search3 x.cps d hd) ?_ ?_ ?_ ?_
  · intro d b e hd h
    obtain ⟨i, hi, h⟩ := Option.map_eq_some_iff.mp h
    cases h
    obtain ⟨g1, g2, g3⟩ := nextNl_spec hi
    have g4 := nlEnd_le (text := x.cps) (i := b) (by omega)
    exact ⟨g1, g4.1, g4.2, by rw [fix_some x.cps _ d b (by omega) hi, List.append_assoc]; rfl⟩
  · intro d hd h
    exact fix_none x.cps _ d (by omega) (Option.map_eq_none_iff.mp h)
  · rw [List.drop_zero]; omega
  · intro t' s' F
    have := k t' s' F
    rwa [fixS] at this
theorem sub1 {x : Str} {t : Tok} {tr : Tok} {Q : Value → Shared → Prop} (G : Gd P h₀) (F : Fm S h₀ L m N s) (hx : x.cps.size ≤ 2 ^ 20) (k : ∀ t' s', Fm S h₀ L m N s' → Q (.str (quoS x) t') s') :
    wpAny (model prog w) A (call (.builtin "re.Pattern.sub") [.ref 43, .str dots2 tr, .str x t]) Q E s := by
  have hl := quoteL_len x.cps.toList true
  have hz : x.cps.toList.length = x.cps.size := Array.length_toList
  obtain ⟨⟨p, f, hp⟩, hcc⟩ := at43 G
  refine rxSub0 (rep := dots2) (code := c1) (c := 42) (find := fun d => (find1 x.cps (x.cps.size - d) d).map fun i => (i, i + 1)) (fin := fun d => quoteL (atL x.cps d) (x.cps.toList.drop d)) (B := 5 * x.cps.size + 20) F hp hcc hx (by omega) (by decide +kernel)
    (fun d hd => search1 x.cps d hd) ?_ ?_ ?_ ?_
  · intro d b e hd h
    obtain ⟨i, hi, h⟩ := Option.map_eq_some_iff.mp h
    cases h
    obtain ⟨g1, g2, g3, g4⟩ := find1_spec hi
    exact ⟨g1, by omega, by omega, by rw [quote_some x.cps _ d b (by omega) hi, List.append_assoc, dots2_is]; rfl⟩
  · intro d hd h
    exact quote_none x.cps _ d (by omega) (Option.map_eq_none_iff.mp h)
  · rw [List.drop_zero]; have : atL x.cps 0 = true := rfl; rw [this]; omega
  · intro t' s' F
    have := k t' s' F
    rwa [quoS] at this
end
end Mine
end
section
open PySem PySem.W PyProof.Rows PySem.Calls PySem.Spec
set_option Elab.async false
set_option maxRecDepth 100000
namespace Mine
section
variable {w : World} {A : Around} {E : Value → Shared → Prop} {S : Shared} {h₀ : Heap} {L : Addr} {m : Mp} {N : Led} {s : Shared} {env : Env} {P : Params} {prog : Program}
/-- o.name(..) : the object, its method, the call -/
theorem evM {o : Expr} {name : Str} {apos pos : Pos} {args : List Expr} {kws : List Keyword} {Q : Value → Shared → Prop} {M : Model}
    (h : wpAny M A (eval o env) (fun ov s₁ => ∀ pl, wpAny M A (getMethod ov name pl) (fun fm s₂ => wpAny M A (callWith pos fm.1 fm.2 (backTo pos (starEach args env)) (backToKw pos (keywordEach kws env))) Q E s₂) E s₁) E s)
    (hb : attributeBase o name env (eval o env) = eval o env := by rfl)
    (hf : methodCallForm (args.length + kws.length) (backTo pos (starEach args env)) (backToKw pos (keywordEach kws env)) = true := by rfl) (hl : (apos.endLine == pos.line) = true := by rfl) :
    wpAny M A (eval (.Call (.Attribute o name apos) args kws pos) env) Q E s := by
  rw [arm_eval_Call, hb]
  refine wpAny_bind (wpAny_mono h (fun ov s₁ h₁ => wpAny_bind (wpAny_standAt ?_)) fun _ _ x => x)
  have hpos : methodCallPos true o env apos pos = pure pos := by unfold methodCallPos; simp [hl]
  unfold methodCall
  rw [hf]
  refine wpAny_bind (wpAny_holding (wpAny_mono (h₁ _) (fun fm s₂ h₂ => ?_) fun _ _ x => x))
  exact wpAny_bind (wpAny_of_eq hpos h₂)
theorem gmRx {a c : Addr} {p f : Value} {k : Int} {name : Str} {id : String} {pl : Sem Bool} {Q : Value × List Value → Shared → Prop} {M : Model} (F : Fm S h₀ L m N s) (ho : h₀.get? a = some (rxO p f c k)) (sl : Slot "re.Pattern" name id) (ht : typeOf (.builtin id) = pure (.type "method_descriptor"))
    (h : Q (.builtin id, [.ref a]) s) : wpAny M A (getMethod (.ref a) name pl) Q E s :=
  getMethod_builtin ⟨_, F.old ho, rfl⟩ pa_rx sl ht (fun b e => by cases e; exact ⟨_, F.old ho, rfl⟩) h
theorem callM1 {pos : Pos} {id : String} {first : List Value} {e : Expr} {Q : Value → Shared → Prop} {M : Model}
    (h : wpAny M A (eval e env) (fun v s₁ => wpAny M A (call (.builtin id) (first ++ [v])) Q E s₁) E s) (he : starEach [e] env = [(false, eval e env)] := by rfl) :
    wpAny M A (callWith pos (.builtin id) first (backTo pos (starEach [e] env)) (backToKw pos (keywordEach [] env))) Q E s :=
  callWith_method1 (args1 h he) he rfl
theorem callM2 {pos : Pos} {id : String} {first : List Value} {e e' : Expr} {Q : Value → Shared → Prop} {M : Model}
    (h : wpAny M A (eval e env) (fun v s₁ => wpAny M A (eval e' env) (fun v' s₂ => wpAny M A (call (.builtin id) (first ++ [v, v'])) Q E s₂) E s₁) E s) (he : starEach [e, e'] env = (false, eval e env) :: starEach [e'] env := by rfl) (he' : starEach [e'] env = [(false, eval e' env)] := by rfl) :
    wpAny M A (callWith pos (.builtin id) first (backTo pos (starEach [e, e'] env)) (backToKw pos (keywordEach [] env))) Q E s :=
  callWith_method1 (args2 h (by rw [he, he'])) he (by rw [he']; rfl)
theorem callM0 {pos : Pos} {id : String} {first : List Value} {Q : Value → Shared → Prop} {M : Model} (h : wpAny M A (call (.builtin id) first) Q E s) :
    wpAny M A (callWith pos (.builtin id) first (backTo pos (starEach [] env)) (backToKw pos (keywordEach [] env))) Q E s := callWith_method0 h
theorem bind183 (v0 v1 v2 : Value) : bindArgs fd183 ⟨[v0, v1], [(Str.ofString "name", v2)]⟩ = pure [(Str.ofString "self", v0), (Str.ofString "value", v1), (Str.ofString "name", v2)] := by kernel_rfl
/-- the check of a header's name or value lets it through -/
theorem conv_spec {x : Str} {t : Tok} {b : Bool} {v0 : Value} {Q : Value → Shared → Prop} {n : Nat} (G : Gd P h₀) (F : Fm S h₀ L m N s) (R : Rm A (n + 2)) (hp : Prints x.cps.toList) (hx : x.length ≤ sizeLine) (k : ∀ s', Fm S h₀ L m N s' → Q (.str x t) s') :
    wpAny (model pw w) A (call (.ref 183) [v0, .str x t] [(Str.ofString "name", .bool b)]) Q E s := by
  refine r_call (args := ⟨[v0, .str x t], [(Str.ofString "name", .bool b)]⟩) (binds := [(Str.ofString "self", v0), (Str.ofString "value", .str x t), (Str.ofString "name", .bool b)]) G F R (ho183 P) hc183 rfl rfl (fun _ _ => BindsTo.of_eq (bind183 _ _ _)) hl183 (locs (by kernel_rfl)) fun g L' s₁ G F kp bk => ?_
  have hE := ek183 L'
  refine wpAny_execs_cons ?_
  refine wpAny_If ?_
  refine wpAny_isTrue_Compare1 ?_
  refine callGt hE G F (k183_type _) b_type bb_type ?_
  refine args1 ?_
  refine nL hE F (k183_value _) rfl ?_
  refine call_type_of (Tx := "str") rfl (by decide +kernel) ?_
  refine nB hE G F (k183_str _) b_str bb_str ?_
  refine wpAny_is_self (by decide +kernel) ?_
  refine wpAny_truthy_bool ?_
  refine wpAny_execs_cons ?_
  refine wpAny_Assign_Name ?_
  refine wpAny_IfExp ?_
  refine wpAny_isTrue_value ?_
  refine nL hE F (k183_name _) rfl ?_
  refine wpAny_truthy_bool ?_
  cases b with
  | true =>
    refine nG hE G F (k183_name_disallowed_re _) g_name_disallowed_re ?_
    refine st hE F (k183_regex _) fun _ F => ?_
    rw [up_lk] at F
    refine wpAny_execs_cons ?_
    refine wpAny_If ?_
    refine wpAny_isTrue_value ?_
    obtain ⟨⟨p, f, hpt⟩, hcc⟩ := at148 G
    refine evM (nL hE F (k183_regex _) rfl fun pl => gmRx F hpt slot_rx_search type_rx_search ?_)
    refine callM1 (nL hE F (k183_value _) rfl ?_)
    refine rxSearch F hpt hcc hx (searchN _ hp) ?_
    refine wpAny_of_eq (a := false) rfl ?_
    refine wpAny_execs_nil ?_
    refine wpAny_execs_cons ?_
    refine wpAny_Return_some ?_
    refine nL hE F (k183_value _) rfl ?_
    exact k _ (bk _ _ _ F)
  | false =>
    refine nG hE G F (k183_value_disallowed_re _) g_value_disallowed_re ?_
    refine st hE F (k183_regex _) fun _ F => ?_
    rw [up_lk] at F
    refine wpAny_execs_cons ?_
    refine wpAny_If ?_
    refine wpAny_isTrue_value ?_
    obtain ⟨⟨p, f, hpt⟩, hcc⟩ := at153 G
    refine evM (nL hE F (k183_regex _) rfl fun pl => gmRx F hpt slot_rx_search type_rx_search ?_)
    refine callM1 (nL hE F (k183_value _) rfl ?_)
    refine rxSearch F hpt hcc hx (searchV _ hp) ?_
    refine wpAny_of_eq (a := false) rfl ?_
    refine wpAny_execs_nil ?_
    refine wpAny_execs_cons ?_
    refine wpAny_Return_some ?_
    refine nL hE F (k183_value _) rfl ?_
    exact k _ (bk _ _ _ F)
end
end Mine
end
section
open PySem PySem.W PyProof.Rows PySem.Calls PySem.Spec
set_option Elab.async false
set_option maxRecDepth 100000
namespace Mine
noncomputable abbrev nH : Str := Str.ofString "_headers"
section
variable (P : Params)
theorem pg284 (name : Str) : plainGet (KF P) 284 name = true := by show (findIn (KF P) (.ref 284) "__getattribute__" == some (some (.builtin "object.__getattribute__")) && findIn (KF P) (.ref 284) "__getattr__" == some none) = true; kernel_rfl
theorem hd284 : hasDictIn (KF P) 284 = true := by kernel_rfl
theorem fi_headers : findIn (KF P) (.ref 284) nH = some none := by kernel_rfl
theorem ns284 : noSeq (KF P) 284 = true := by kernel_rfl
theorem mk284 : makesIn (KF P) 284 = true := by kernel_rfl
theorem po284 : plainOver (KF P) 284 = true := by kernel_rfl
theorem tk284 : takerIn (KF P) 284 nH = some none := by kernel_rfl
theorem sa284 : findIn (KF P) (.ref 284) "__setattr__" = some (some (.builtin "object.__setattr__")) := by kernel_rfl
theorem kp284 : keepIn (KF P) (.ref 284) = true := by kernel_rfl
theorem fi_init : findIn (KF P) (.ref 284) (Str.ofString "__init__") = some (some (.ref 176)) := by kernel_rfl
theorem fn176 : isFn (KF P) (.ref 176) = true := by kernel_rfl
theorem kp176 : keepIn (KF P) (.ref 176) = true := by kernel_rfl
theorem ne_init : (Str.ofString "_headers" == Str.ofString "__init__") = false := by kernel_rfl
theorem fi_convert_string_type : findIn (KF P) (.ref 284) (Str.ofString "_convert_string_type") = some (some (.ref 183)) := by kernel_rfl
theorem fn183 : isFn (KF P) (.ref 183) = true := by kernel_rfl
theorem kp183 : keepIn (KF P) (.ref 183) = true := by kernel_rfl
theorem ne_convert_string_type : (Str.ofString "_headers" == Str.ofString "_convert_string_type") = false := by kernel_rfl
theorem fi_len : findIn (KF P) (.ref 284) (Str.ofString "__len__") = some (some (.ref 190)) := by kernel_rfl
theorem fn190 : isFn (KF P) (.ref 190) = true := by kernel_rfl
theorem kp190 : keepIn (KF P) (.ref 190) = true := by kernel_rfl
theorem ne_len : (Str.ofString "_headers" == Str.ofString "__len__") = false := by kernel_rfl
theorem fi_setitem : findIn (KF P) (.ref 284) (Str.ofString "__setitem__") = some (some (.ref 197)) := by kernel_rfl
theorem fn197 : isFn (KF P) (.ref 197) = true := by kernel_rfl
theorem kp197 : keepIn (KF P) (.ref 197) = true := by kernel_rfl
theorem ne_setitem : (Str.ofString "_headers" == Str.ofString "__setitem__") = false := by kernel_rfl
theorem fi_delitem : findIn (KF P) (.ref 284) (Str.ofString "__delitem__") = some (some (.ref 202)) := by kernel_rfl
theorem fn202 : isFn (KF P) (.ref 202) = true := by kernel_rfl
theorem kp202 : keepIn (KF P) (.ref 202) = true := by kernel_rfl
theorem ne_delitem : (Str.ofString "_headers" == Str.ofString "__delitem__") = false := by kernel_rfl
theorem fi_getitem : findIn (KF P) (.ref 284) (Str.ofString "__getitem__") = some (some (.ref 209)) := by kernel_rfl
theorem fn209 : isFn (KF P) (.ref 209) = true := by kernel_rfl
theorem kp209 : keepIn (KF P) (.ref 209) = true := by kernel_rfl
theorem ne_getitem : (Str.ofString "_headers" == Str.ofString "__getitem__") = false := by kernel_rfl
theorem fi_get : findIn (KF P) (.ref 284) (Str.ofString "get") = some (some (.ref 231)) := by kernel_rfl
theorem fn231 : isFn (KF P) (.ref 231) = true := by kernel_rfl
theorem kp231 : keepIn (KF P) (.ref 231) = true := by kernel_rfl
theorem ne_get : (Str.ofString "_headers" == Str.ofString "get") = false := by kernel_rfl
theorem fi_items : findIn (KF P) (.ref 284) (Str.ofString "items") = some (some (.ref 248)) := by kernel_rfl
theorem fn248 : isFn (KF P) (.ref 248) = true := by kernel_rfl
theorem kp248 : keepIn (KF P) (.ref 248) = true := by kernel_rfl
theorem ne_items : (Str.ofString "_headers" == Str.ofString "items") = false := by kernel_rfl
theorem fi_str : findIn (KF P) (.ref 284) (Str.ofString "__str__") = some (some (.ref 260)) := by kernel_rfl
theorem fn260 : isFn (KF P) (.ref 260) = true := by kernel_rfl
theorem kp260 : keepIn (KF P) (.ref 260) = true := by kernel_rfl
theorem ne_str : (Str.ofString "_headers" == Str.ofString "__str__") = false := by kernel_rfl
theorem fi_add_header : findIn (KF P) (.ref 284) (Str.ofString "add_header") = some (some (.ref 281)) := by kernel_rfl
theorem fn281 : isFn (KF P) (.ref 281) = true := by kernel_rfl
theorem kp281 : keepIn (KF P) (.ref 281) = true := by kernel_rfl
theorem ne_add_header : (Str.ofString "_headers" == Str.ofString "add_header") = false := by kernel_rfl
end
/-- a Headers of the text: its list lies at l -/
noncomputable def HdAt (N : Led) (x l : Addr) : Prop := ∃ dx hs tk n, (x, instObj 284 dx) ∈ N ∧ (dx, dictOf [⟨hs, .str nH tk, .ref l⟩] n) ∈ N
theorem HdAt.mono {N N' : Led} {x l : Addr} (h : HdAt N x l) (hs : ∀ p ∈ N, p ∈ N') : HdAt N' x l := let ⟨dx, a, b, n, h1, h2⟩ := h; ⟨dx, a, b, n, hs _ h1, hs _ h2⟩
section
variable {w : World} {A : Around} {E : Value → Shared → Prop} {S : Shared} {h₀ : Heap} {L : Addr} {m : Mp} {N : Led} {s : Shared} {env : Env} {prog : Program} {x l : Addr}
theorem hdInst (F : Fm S h₀ L m N s) {dx : Addr} {od : Obj} (h1 : (x, instObj 284 dx) ∈ N) (h2 : (dx, od) ∈ N) : PySem.W.InstAt s.heap x (instObj 284 dx) 284 (some od) := InstAt.of_news F.nw h1 h2
/-- x._headers -/
theorem hdGet {b : Bool} {Q : Value → Shared → Prop} (G : Gd w.params h₀) (F : Fm S h₀ L m N s) (H : HdAt N x l) (k : ∀ s', Fm S h₀ L m N s' → Q (.ref l) s') : wpAny (model prog w) A (getAttr (.ref x) nH b) Q E s := by
  obtain ⟨dx, hs, tk, n, h1, h2⟩ := H
  refine get_own (attr := none) (v := .ref l) F.fr G.X (hdInst F h1 h2) (pg284 _ _) (hd284 _) (fi_headers _) rfl ?_ rfl (k _ (F.tk _))
  show getL nH [⟨hs, .str nH tk, .ref l⟩] = _
  unfold getL
  rw [List.find?_cons_of_pos (by show (nH == nH) = true; exact beq_self_eq_true _)]
theorem evA {o : Expr} {attr : Str} {pos : Pos} {Q : Value → Shared → Prop} (h : wpAny (model prog w) A (eval o env) (fun v s₁ => wpAny (model prog w) A (getAttr v attr true) Q E s₁) E s)
    (hb : attributeBase o attr env (eval o env) = eval o env := by rfl) : wpAny (model prog w) A (eval (.Attribute o attr pos) env) Q E s := by
  refine Attribute_any_ h ?_
  show (do let o' ← attributeBase o attr env (eval o env); standAt pos.atName; let r ← holding [o'] (getAttr o' attr true); letTemporaryGo o o' r; pure r) = _
  rw [hb]
/-- x.name : a method of the class -/
theorem hdMeth {name : Str} {f : Addr} {pl : Sem Bool} {Q : Value × List Value → Shared → Prop} (G : Gd w.params h₀) (F : Fm S h₀ L m N s) (H : HdAt N x l) (hf : findIn (KF w.params) (.ref 284) name = some (some (.ref f))) (ht : isFn (KF w.params) (.ref f) = true) (hn : (nH == name) = false)
    (k : Q (.ref f, [.ref x]) s) : wpAny (model prog w) A (getMethod (.ref x) name pl) Q E s := by
  obtain ⟨dx, hs, tk, n, h1, h2⟩ := H
  refine method_inst F.fr G.X (hdInst F h1 h2) (pg284 _ _) hf ht ?_ k
  unfold getL
  rw [List.find?_cons_of_neg (by show ¬ (nH == name) = true; rw [hn]; exact Bool.false_ne_true)]
  rfl
theorem callH1 {pos : Pos} {f : Addr} {first : List Value} {e : Expr} {Q : Value → Shared → Prop} (G : Gd w.params h₀) (hk : keepIn (KF w.params) (.ref f) = true)
    (h : wpAny (model prog w) A (eval e env) (fun v s₁ => (∀ b o, h₀.get? b = some o → s₁.heap.get? b = some o) ∧ wpAny (model prog w) A (call (.ref f) (first ++ [v])) Q E s₁) E s) (he : starEach [e] env = [(false, eval e env)] := by rfl) :
    wpAny (model prog w) A (callWith pos (.ref f) first (backTo pos (starEach [e] env)) (backToKw pos (keywordEach [] env))) Q E s :=
  callWith_K G.X hk (args1 (wpAny_mono h (fun v s₁ h₁ => ⟨G.X.keeps h₁.1, h₁.2⟩) fun _ _ x => x) he) he rfl
theorem callH2 {pos : Pos} {f : Addr} {first : List Value} {e e' : Expr} {Q : Value → Shared → Prop} (G : Gd w.params h₀) (hk : keepIn (KF w.params) (.ref f) = true)
    (h : wpAny (model prog w) A (eval e env) (fun v s₁ => wpAny (model prog w) A (eval e' env) (fun v' s₂ => (∀ b o, h₀.get? b = some o → s₂.heap.get? b = some o) ∧ wpAny (model prog w) A (call (.ref f) (first ++ [v, v'])) Q E s₂) E s₁) E s)
    (he : starEach [e, e'] env = (false, eval e env) :: starEach [e'] env := by rfl) (he' : starEach [e'] env = [(false, eval e' env)] := by rfl) :
    wpAny (model prog w) A (callWith pos (.ref f) first (backTo pos (starEach [e, e'] env)) (backToKw pos (keywordEach [] env))) Q E s :=
  callWith_K G.X hk (args2 (wpAny_mono h (fun v s₁ h₁ => wpAny_mono h₁ (fun v' s₂ h₂ => ⟨G.X.keeps h₂.1, h₂.2⟩) fun _ _ x => x) fun _ _ x => x) (by rw [he, he'])) he (by rw [he']; rfl)
theorem callH0 {pos : Pos} {f : Addr} {first : List Value} {Q : Value → Shared → Prop} (G : Gd w.params h₀) (F : Fm S h₀ L m N s) (hk : keepIn (KF w.params) (.ref f) = true) (h : wpAny (model prog w) A (call (.ref f) (first ++ [])) Q E s) :
    wpAny (model prog w) A (callWith pos (.ref f) first (backTo pos (starEach [] env)) (backToKw pos (keywordEach [] env))) Q E s := callWith_K0 (G.X.keeps F.fr.keep) hk h
/-- self._convert_string_type(value, name=b) -/
theorem callConv {pos : Pos} {first : List Value} {e : Expr} {b : Bool} {kk kp kpp} {Q : Value → Shared → Prop} (G : Gd w.params h₀)
    (h : wpAny (model prog w) A (eval e env) (fun v s₁ => ∃ S L m N, Fm S h₀ L m N s₁ ∧ ∀ s', Fm S h₀ L m N s' → wpAny (model prog w) A (call (.ref 183) (first ++ [v]) [(Str.ofString "name", .bool b)]) Q E s') E s) (he : starEach [e] env = [(false, eval e env)] := by rfl) :
    wpAny (model prog w) A (callWith pos (.ref 183) first (backTo pos (starEach [e] env)) (backToKw pos (keywordEach [⟨some (Str.ofString "name"), .Constant (.bool b) kk kp, kpp⟩] env))) Q E s := by
  refine callWith_KW G.X (kp183 _) rfl (args1 (wpAny_mono h (fun v s₁ h₁ => ?_) fun _ _ x => x) he) (by rw [he]; rfl) he
  obtain ⟨S, L, m, N, F, q⟩ := h₁
  refine wpAny_evalAll_cons ?_
  refine wpAny_bind (wpAny_Constant_bool ?_)
  refine wpAny_bind (wpAny_standAt (wpAny_pure ?_))
  exact wpAny_evalAll_nil ⟨G.X.keeps F.fr.keep, q _ F⟩
end
end Mine
end
section
open PySem PySem.W PyProof.Rows PySem.Calls PySem.Spec
set_option Elab.async false
set_option maxRecDepth 100000
namespace Mine
noncomputable abbrev noE : Value → Shared → Prop := fun _ _ => False
noncomputable def But (N : Led) (a : Addr) : Led := N.filter (fun p => p.1 ≠ a)
theorem mem_but {N : Led} {a : Addr} {p : Addr × Obj} (h : p ∈ N) (hn : p.1 ≠ a) : p ∈ But N a := List.mem_filter.mpr ⟨h, by simpa using hn⟩
theorem of_but {N : Led} {a : Addr} {p : Addr × Obj} (h : p ∈ But N a) : p ∈ N ∧ p.1 ≠ a := let ⟨x, y⟩ := List.mem_filter.mp h; ⟨x, by simpa using y⟩
noncomputable def IsIt (o : Obj) (l : Addr) (i : Nat) : Prop := o.cls = .type "list_iterator" ∧ o.data = .fields #[.ref l, .int i 0]
section
variable {S : Shared} {h₀ : Heap} {L : Addr} {m : Mp} {N : Led} {s : Shared}
theorem Fm.same {a : Addr} {o o' : Obj} (F : Fm S h₀ L m N s) (h : (a, o) ∈ N) (h' : (a, o') ∈ N) : o = o' := Option.some.inj ((F.get h).symm.trans (F.get h'))
theorem Fm.apart {a b : Addr} {o o' : Obj} (F : Fm S h₀ L m N s) (h : (a, o) ∈ N) (h' : (b, o') ∈ N) (hc : o.cls ≠ o'.cls) : a ≠ b := fun e => by subst e; exact hc (congrArg Obj.cls (F.same h h'))
/-- an entry whose object turns alone -/
theorem Fm.swap {a : Addr} {o o' : Obj} {h' : Heap} (F : Fm S h₀ L m ((a, o) :: N) s) (hN : ∀ p ∈ N, p.1 ≠ a) (sb : Heap.ExtBut a s.heap h') (g : h'.get? a = some o') : Fm S h₀ L m ((a, o') :: N) { s with heap := h' } := by
  have D := F.nw _ (.head _)
  obtain ⟨oL, es, ep, hL, r⟩ := F.fr.ns
  refine ⟨⟨⟨oL, es, ep, sb _ _ (Ne.symm D.2.1) hL, r⟩, fun b x q => sb _ _ (fun z => ?_) (F.fr.keep b x q), F.fr.above⟩, fun p hp => ?_, F.ge, F.os⟩
  · have := D.2.2; rw [← z, q] at this; cases this
  · rcases List.mem_cons.mp hp with rfl | hp
    · exact ⟨g, D.2⟩
    · have P := F.nw p (.tail _ hp)
      exact ⟨sb _ _ (hN p hp) P.1, P.2⟩
theorem Fm.drop {a : Addr} {o : Obj} {h' : Heap} (F : Fm S h₀ L m ((a, o) :: N) s) (hN : ∀ p ∈ N, p.1 ≠ a) (sb : Heap.ExtBut a s.heap h') : Fm S h₀ L m N { s with heap := h' } := by
  have D := F.nw _ (.head _)
  obtain ⟨oL, es, ep, hL, r⟩ := F.fr.ns
  refine ⟨⟨⟨oL, es, ep, sb _ _ (Ne.symm D.2.1) hL, r⟩, fun b x q => sb _ _ (fun z => ?_) (F.fr.keep b x q), F.fr.above⟩, fun p hp => ?_, F.ge, F.os⟩
  · have := D.2.2; rw [← z, q] at this; cases this
  · have P := F.nw p (.tail _ hp)
    exact ⟨sb _ _ (hN p hp) P.1, P.2⟩
end
section
variable {w : World} {A : Around} {S : Shared} {h₀ : Heap} {L : Addr} {N : Led} {s : Shared} {env : Env} {prog : Program}
/-- what the body of a turn leaves -/
noncomputable def TurnTo (S : Shared) (h₀ : Heap) (L : Addr) (l : Addr) (lo : Obj) (I : Addr) (o : Obj) (J : Mp → Led → Prop) (Q : Flow → Shared → Prop) (f : Flow) (s' : Shared) : Prop := match f with
  | .next => ∃ m' N', Fm S h₀ L m' N' s' ∧ (I, o) ∈ N' ∧ (l, lo) ∈ N' ∧ J m' (But N' I)
  | .cont => ∃ m' N', Fm S h₀ L m' N' s' ∧ (I, o) ∈ N' ∧ (l, lo) ∈ N' ∧ J m' (But N' I)
  | .brk => Q .next s'
  | .ret v => Q (.ret v) s'
theorem forTurns {target : Expr} {body : List Stmt} {l I : Addr} {vs : List Value} {ln : Nat} {J : Nat → Mp → Led → Prop} {Q : Flow → Shared → Prop} (hh : A.handled = none)
    (hlo : ∀ v, v ∈ vs → (letOwnedTupleGo target (.ref I) v = pure ()) ∨ (∃ T elts x1 pos, v = .ref T ∧ target = .Tuple elts x1 pos))
    (turn : ∀ i v m N s o, vs[i]? = some v → J i m N → (l, lstO vs ln) ∈ N → (∀ p ∈ N, p.1 ≠ I) → o.cls = .type "list_iterator" → Fm S h₀ L m ((I, o) :: N) s →
      wpAny (model prog w) A (assign target env v) (fun _ s₁ => wpAny (model prog w) A (execs body env) (TurnTo S h₀ L l (lstO vs ln) I o (J (i + 1)) Q) noE s₁) noE s)
    (done : ∀ m N s, J vs.length m N → Fm S h₀ L m N s → Q .next s) :
    ∀ (k i : Nat) (m : Mp) (N : Led) (s : Shared) (o : Obj), vs.length - i < k → i ≤ vs.length → J i m N → (l, lstO vs ln) ∈ N → (∀ p ∈ N, p.1 ≠ I) → IsIt o l i → Fm S h₀ L m ((I, o) :: N) s →
      codeAny (model prog w) A (.forLoop target (.ref I) body [] env) (fun r s' => match r with | .ok f => Q f s' | .error _ => False) s := by
  intro k
  induction k with
  | zero => intro i m N s o h; exact absurd h (Nat.not_lt_zero _)
  | succ k ih =>
    intro i m N s o hk hi hj hl hN ho F
    refine codeAny_of_tree ?_
    rw [Around.under_of_weight rfl rfl]
    show wpAny _ _ ((forTurn target (.ref I) body [] env).onRaise _) _ _ _
    refine wpAny_onRaise (wpAny_mono (Q := fun fin s' => match fin with | .done f => Q f s' | .again c' => c'.quiet = true ∧ codeAny (model prog w) A c' (fun r s' => match r with | .ok f => Q f s' | .error _ => False) s') (E := noE) ?_ (fun fin s' h => h) fun _ _ h => h.elim)
    unfold forTurn
    refine wpAny_bind (wpAny_standAt (wpAny_bind (wpAny_onRaise (wpAny_mono (E := noE) ?_ (fun _ _ h => h) fun _ _ h => h.elim))))
    have hit : s.heap.IsListIter I l i := ⟨o, F.get (.head _), ho.1, ho.2⟩
    have hls : s.heap.IsList l vs.toArray := ⟨_, F.get (.tail _ hl), rfl, _, rfl⟩
    cases hv : vs[i]? with
    | none =>
      refine wpAny_pyNext_list_end hh hit hls (by simpa using hv) fun h' eb => ?_
      have hi' : i = vs.length := by have := List.getElem?_eq_none_iff.mp hv; omega
      subst hi'
      have F' := F.drop hN eb
      refine wpAny_pure ⟨rfl, codeAny_of_tree ?_⟩
      rw [Around.under_of_weight rfl rfl]
      show wpAny _ _ ((execs [] env).onRaise _ >>= _) _ _ _
      refine wpAny_bind (wpAny_onRaise (wpAny_execs_nil ?_))
      exact wpAny_pure (done _ _ _ hj F')
    | some v =>
      refine wpAny_pyNext_list_item hit hls (by simpa using hv) fun h' hit' sb => ?_
      obtain ⟨o', g1, g2, g3⟩ := hit'
      have F' := F.swap hN sb.extBut g1
      have hlt : i < vs.length := (List.getElem?_eq_some_iff.mp hv).1
      have go : wpAny (model prog w) A (letOwnedTupleGo target (.ref I) v) (fun _ s₁ => s₁ = { s with heap := h' }) noE { s with heap := h' } := by
        rcases hlo v (List.mem_of_getElem? hv) with e | ⟨T, elts, x1, pos, rfl, rfl⟩
        · rw [e]; exact wpAny_pure rfl
        · exact wpAny_letOwnedTupleGo_listiter (i := i + 1) ⟨o', g1, g2, g3⟩ rfl
      refine wpAny_bind (wpAny_mono go (fun _ s₁ e => ?_) fun _ _ h => h)
      subst e
      refine wpAny_bind (wpAny_mono (turn i v m N _ o' hv hj hl hN g2 F') (fun _ s₁ h₁ => wpAny_bind (wpAny_mono h₁ (fun f s₂ h₂ => ?_) fun _ _ h => h)) fun _ _ h => h)
      have next : ∀ {s₂ : Shared}, (∃ m' N', Fm S h₀ L m' N' s₂ ∧ (I, o') ∈ N' ∧ (l, lstO vs ln) ∈ N' ∧ J (i + 1) m' (But N' I)) →
          codeAny (model prog w) A (.forLoop target (.ref I) body [] env) (fun r s' => match r with | .ok f => Q f s' | .error _ => False) s₂ := fun {s₂} h => by
        obtain ⟨m', N', F2, hI, hl2, hj2⟩ := h
        refine ih (i + 1) m' (But N' I) s₂ o' (by omega) (by omega) hj2 (mem_but hl2 (F2.apart hl2 hI (by rw [g2]; show Value.type "list" ≠ Value.type "list_iterator"; decide +kernel))) (fun p hp => (of_but hp).2) ⟨g2, g3⟩ (F2.sub fun p hp => ?_)
        rcases List.mem_cons.mp hp with rfl | hp
        · exact hI
        · exact (of_but hp).1
      cases f with
      | ret v => exact wpAny_pure h₂
      | brk => exact wpAny_pure h₂
      | next => exact wpAny_pure ⟨rfl, next h₂⟩
      | cont => exact wpAny_pure ⟨rfl, next h₂⟩
noncomputable def ForTurn (prog : Program) (w : World) (A : Around) (env : Env) (S : Shared) (h₀ : Heap) (L : Addr) (target : Expr) (body : List Stmt) (J : Nat → Mp → Led → Prop) (vs : List Value) (Q : Flow → Shared → Prop) (l : Addr) (ln : Nat) : Prop :=
  ∀ I i v m N s o, vs[i]? = some v → J i m N → (l, lstO vs ln) ∈ N → (∀ p ∈ N, p.1 ≠ I) → o.cls = .type "list_iterator" → Fm S h₀ L m ((I, o) :: N) s →
        wpAny (model prog w) A (assign target env v) (fun _ s₁ => wpAny (model prog w) A (execs body env) (TurnTo S h₀ L l (lstO vs ln) I o (J (i + 1)) Q) noE s₁) noE s
inductive ForReq (prog : Program) (w : World) (A : Around) (env : Env) (S : Shared) (h₀ : Heap) (L : Addr) (target : Expr) (body : List Stmt) (J : Nat → Mp → Led → Prop) (vs : List Value) (Q : Flow → Shared → Prop) (x : Value) (s₁ : Shared) : Prop
  | mk (l : Addr) (ln : Nat) (m : Mp) (N : Led) : x = .ref l → Fm S h₀ L m N s₁ → (l, lstO vs ln) ∈ N → J 0 m N →
      (∀ v, v ∈ vs → (∀ I, letOwnedTupleGo target (.ref I) v = pure ()) ∨ (∃ T elts x1 pos, v = .ref T ∧ target = .Tuple elts x1 pos)) →
      ForTurn prog w A env S h₀ L target body J vs Q l ln → (∀ m N s, J vs.length m N → Fm S h₀ L m N s → Q .next s) → ForReq prog w A env S h₀ L target body J vs Q x s₁
/-- for target in (a list): an invariant J over the items taken, the locals and the ledger -/
theorem forL {target iter : Expr} {body : List Stmt} {pos : Pos} {Q : Flow → Shared → Prop} (hh : A.handled = none) (J : Nat → Mp → Led → Prop) (vs : List Value)
    (h : wpAny (model prog w) A (eval iter env) (fun x s₁ => ForReq prog w A env S h₀ L target body J vs Q x s₁) noE s) (hs : ∀ x, foldedSetIterable iter env x = pure x := by intro _; rfl) :
    wpAny (model prog w) A (exec (.For target iter body [] pos) env) Q noE s := by
  refine wpAny_For (wpAny_mono h (fun x s₁ h₁ => ?_) fun _ _ h => h) hs
  obtain ⟨l, ln, m, N, rfl, F, hl, hj, hlo, turn, done⟩ := h₁
  refine wpAny_pyIter_list ⟨_, F.get hl, rfl, _, rfl⟩ ?_
  have F' := F.push { cls := .type "list_iterator", data := .fields #[.ref l, .int 0 0] }
  refine codeAny_mono (forTurns (l := l) (ln := ln) (J := J) hh (fun v hv => (hlo v hv).imp (fun z => z _) id) (turn _) done (vs.length + 1) 0 m N _ _ (by omega) (Nat.zero_le _) hj hl F.ne ⟨rfl, rfl⟩ F') fun r s' q => ?_
  cases r with
  | ok f => exact q
  | error e => exact q.elim
end
end Mine
end
section
open PySem PySem.W PyProof.Rows PySem.Calls PySem.Spec
set_option Elab.async false
set_option maxRecDepth 100000
namespace Mine
inductive RowsIn (N : Led) : List Value → List (Str × Str) → Prop
  | nil : RowsIn N [] []
  | cons {b : Addr} {n x : Str} {t u : Tok} {vs : List Value} {rs : List (Str × Str)} : (b, tupO [.str n t, .str x u]) ∈ N → RowsIn N vs rs → RowsIn N (.ref b :: vs) ((n, x) :: rs)
theorem RowsIn.mono {N N' : Led} {vs : List Value} {rs : List (Str × Str)} (h : RowsIn N vs rs) (hs : ∀ p ∈ N, p ∈ N') : RowsIn N' vs rs := by
  induction h with
  | nil => exact .nil
  | cons h _ ih => exact .cons (hs _ h) ih
theorem RowsIn.append {N : Led} {vs vs' : List Value} {rs rs' : List (Str × Str)} (h : RowsIn N vs rs) (h' : RowsIn N vs' rs') : RowsIn N (vs ++ vs') (rs ++ rs') := by
  induction h with
  | nil => exact h'
  | cons h _ ih => exact .cons h ih
theorem RowsIn.length {N : Led} {vs : List Value} {rs : List (Str × Str)} (h : RowsIn N vs rs) : vs.length = rs.length := by
  induction h with
  | nil => rfl
  | cons h _ ih => simp [ih]
theorem RowsIn.get {N : Led} {vs : List Value} {rs : List (Str × Str)} (h : RowsIn N vs rs) {i : Nat} {v : Value} (hv : vs[i]? = some v) : ∃ b n x t u, v = .ref b ∧ rs[i]? = some (n, x) ∧ (b, tupO [.str n t, .str x u]) ∈ N := by
  induction h generalizing i with
  | nil => simp at hv
  | cons h _ ih =>
    cases i with
    | zero => simp at hv; subst hv; exact ⟨_, _, _, _, _, rfl, rfl, h⟩
    | succ i => simp at hv; obtain ⟨b, n, x, t, u, e1, e2, e3⟩ := ih hv; exact ⟨b, n, x, t, u, e1, by simpa using e2, e3⟩
theorem RowsIn.but {N : Led} {vs : List Value} {rs : List (Str × Str)} (h : RowsIn N vs rs) {a : Addr} (hs : ∀ b vs, (b, tupO vs) ∈ N → b ≠ a) : RowsIn (But N a) vs rs := by
  induction h with
  | nil => exact .nil
  | cons h _ ih => exact .cons (mem_but h (hs _ _ h)) ih
noncomputable def OkT (x : Str) : Prop := Prints x.cps.toList ∧ x.length ≤ 2 ^ 14
noncomputable def OkRows (rs : List (Str × Str)) : Prop := ∀ r ∈ rs, OkT r.1 ∧ OkT r.2
section
variable {w : World} {A : Around} {E : Value → Shared → Prop} {S : Shared} {h₀ : Heap} {L : Addr} {m : Mp} {N : Led} {s : Shared} {env : Env} {prog : Program} {x l : Addr}
theorem notTup (F : Fm S h₀ L m N s) {a : Addr} {o : Obj} (h : (a, o) ∈ N) (hc : o.cls ≠ .type "tuple") : ∀ b vs, (b, tupO vs) ∈ N → b ≠ a := fun b vs hb => F.apart hb h (fun e => hc e.symm)
/-- x, y = a pair -/
theorem asgT2 {a b : Str} {p q pos : Pos} {k : Nat} {c : Addr} {v v' : Value} {Q : Unit → Shared → Prop} (hh : A.handled = none) (hE : EnvOk env L) (F : Fm S h₀ L m N s) (ha : env.kindOf a = some .local) (hb : env.kindOf b = some .local) (h : (c, tupO [v, v']) ∈ N)
    (kq : ∀ s', Fm S h₀ L (up (up m a v) b v') N s' → Q () s') : wpAny (model prog w) A (assign (.Tuple [.Name a p, .Name b q] k pos) env (.ref c)) Q E s := by
  show wpAny _ _ (do standAt pos; unpack (.ref c) (assignEach [.Name a p, .Name b q] env)) _ _ _
  refine wpAny_bind (wpAny_standAt ?_)
  unfold unpack
  refine wpAny_bind (wpAny_holding (unpk (vs := [v, v']) hh F h rfl fun s' F => ?_))
  refine wpAny_assignInOrder_more (wpAny_bind (wpAny_standAt (bn hE F ha fun s' F => ?_)))
  refine wpAny_assignInOrder_more (wpAny_bind (wpAny_standAt (bn hE F hb fun s' F => ?_)))
  exact wpAny_pure (kq _ F)
theorem typeOfRef {a : Addr} {o : Obj} {T : String} {Q : Value → Shared → Prop} (F : Fm S h₀ L m N s) (h : (a, o) ∈ N) (hc : o.cls = .type T) (hn : (Value.type T == Value.type "builtin_function_or_method") = false) (q : Q (.type T) s) : wpAny (model prog w) A (call (.type "type") [.ref a]) Q E s :=
  kto_cont (by first | exact ⟨_, F.get h, hc⟩ | exact ⟨_, F.get h, hc, rfl⟩) hn q
end
end Mine
end
section
open PySem PySem.W PyProof.Rows PySem.Calls PySem.Spec
set_option Elab.async false
set_option maxRecDepth 100000
namespace Mine
theorem but_self {N : Led} {a : Addr} (h : ∀ p ∈ N, p.1 ≠ a) : But N a = N := List.filter_eq_self.mpr fun p hp => by simpa using h p hp
theorem but_cons {N : Led} {a : Addr} {o : Obj} (h : ∀ p ∈ N, p.1 ≠ a) : But ((a, o) :: N) a = N := by
  unfold But
  rw [List.filter_cons_of_neg (by simp)]
  exact but_self h
section
variable {w : World} {A : Around} {E : Value → Shared → Prop} {S : Shared} {h₀ : Heap} {L : Addr} {m : Mp} {N : Led} {s : Shared} {env : Env} {prog : Program} {x l : Addr} {P : Params}
theorem turnNext {lo o : Obj} {I : Addr} {J : Mp → Led → Prop} {Q : Flow → Shared → Prop} {m' : Mp} {s' : Shared} (F : Fm S h₀ L m' ((I, o) :: N) s') (hl : (l, lo) ∈ N) (hN : ∀ p ∈ N, p.1 ≠ I) (hJ : J m' N) : TurnTo S h₀ L l lo I o J Q .next s' :=
  ⟨m', _, F, .head _, .tail _ hl, by rw [but_cons hN]; exact hJ⟩
theorem OkT.line {x : Str} (h : OkT x) : x.length ≤ sizeLine := Nat.le_trans h.2 (by decide +kernel)
theorem init_binds (x : Addr) (v : Option Value) (s : Shared) (h : (KF P).In s.heap) : BindsTo s fd176 ⟨.ref x :: v.toList, []⟩ [(Str.ofString "self", .ref x), (Str.ofString "headers", v.getD .none)] := by
  cases v with
  | some v => exact BindsTo.of_defaults (T := 169) rfl (h _ _ (show (KF P).lookup 169 = some (o169 P) by kernel_rfl)) rfl rfl (by kernel_rfl)
  | none => exact BindsTo.of_defaults (T := 169) rfl (h _ _ (show (KF P).lookup 169 = some (o169 P) by kernel_rfl)) rfl rfl (by kernel_rfl)
theorem callW (f : Addr) (p : List Value) (k : List (Str × Value)) : (Code.builtin "type.__call__" ⟨.ref f :: p, k⟩).weight = 1 := by kernel_rfl
theorem callU (a : Args) : (Code.builtin "type.__call__" a).cUnits = 1 := by kernel_rfl
theorem Rm.callee {n : Nat} (f : Addr) (p : List Value) (k : List (Str × Value)) (R : Rm A (n + 1)) : Rm (A.under (.builtin "type.__call__" ⟨.ref f :: p, k⟩)) n := by
  refine ⟨?_, ?_, R.hd⟩
  · show A.depth + (Code.builtin "type.__call__" ⟨.ref f :: p, k⟩).weight + n < _
    rw [callW]
    have := R.dp
    omega
  · show A.units + (Code.builtin "type.__call__" ⟨.ref f :: p, k⟩).cUnits + 40 * n < _
    rw [callU]
    have := R.un
    omega
/-- Headers(rows) or Headers() -/
theorem init_spec {v : Option Value} {vs : List Value} {rs : List (Str × Str)} {ln : Nat} {Q : Value → Shared → Prop} {n : Nat} (hP : P = w.params) (G : Gd P h₀) (F : Fm S h₀ L m N s) (R : Rm A (n + 5))
    (hv : (v = none ∧ rs = []) ∨ (v = some (.ref l) ∧ (l, lstO vs ln) ∈ N ∧ RowsIn N vs rs)) (hr : OkRows rs)
    (k : ∀ x l' N' s', Fm S h₀ L m N' s' → (∀ p ∈ N, p ∈ N') → HdAt N' x l' → (v = none → (l', lstO []) ∈ N') → (∀ l, v = some (.ref l) → l' = l) → (∀ p ∈ N, p.1 ≠ x) → (v = none → ∀ p ∈ N, p.1 ≠ l') → Q (.ref x) s') :
    wpAny (model pw w) A (call (.ref 284) v.toList) Q E s := by
  subst hP
  refine call_cls F.fr G.X F.nw (mk284 _) (fi_init _) (fn176 _) fun x dx h' Fr' N' hlt hx => ?_
  have F1 : Fm S h₀ L m ((x, instObj 284 dx) :: (dx, dictOf [] 0) :: N) { s with heap := h' } := ⟨Fr', N', F.ge, F.os⟩
  refine r_code (body := bodyD (meth 0)) G F1 (n := n + 4) (R.callee _ _ _) (ho176 _) hc176 rfl rfl (fun s h => init_binds x v s h) hl176 (locs (by kernel_rfl)) fun g L' s₁ G F kp bk => ?_
  have hE := ek176 L'
  have R := (R.callee 284 v.toList []).deeper (E176 L')
  refine wpAny_execs_cons ?_
  refine wpAny_Assign_Name ?_
  refine wpAny_mono (Q := fun vv s₂ => ∃ l' N₂, vv = .ref l' ∧ Fm S g L' (lk [(Str.ofString "headers", v.getD .none), (Str.ofString "self", .ref x)]) ((x, instObj 284 dx) :: (dx, dictOf [] 0) :: N₂) s₂ ∧ (∀ p ∈ N, p ∈ N₂) ∧ (∀ p ∈ N₂, p.1 ≠ dx) ∧
    (∃ vs ln, (l', lstO vs ln) ∈ N₂ ∧ RowsIn N₂ vs rs) ∧ (v = none → (l', lstO []) ∈ N₂) ∧ (∀ l, v = some (.ref l) → l' = l) ∧ (v = none → ∀ p ∈ N, p.1 ≠ l')) (E := noE) ?_ (fun vv s₂ h₂ => ?_) fun _ _ z => z
  · refine wpAny_IfExp ?_
    refine wpAny_isTrue_Compare1 ?_
    refine nL hE F (k176_headers _) rfl ?_
    refine wpAny_Constant_none ?_
    rcases hv with ⟨rfl, rfl⟩ | ⟨rfl, hl, hrows⟩
    · refine wpAny_isNot_self (by decide +kernel) ?_
      refine wpAny_truthy_bool ?_
      refine List_ (spliced_nil ?_)
      refine wpAny_newList ?_ (by exact Nat.le_of_ble_eq_true rfl)
      have hfr := F.ne
      have F := F.push (lstO [])
      exact ⟨_, (_, lstO []) :: N, rfl, F.sub fun p hp => by
          rcases hp with _ | ⟨_, _ | ⟨_, _ | ⟨_, hp⟩⟩⟩
          · exact .tail _ (.head _)
          · exact .tail _ (.tail _ (.head _))
          · exact .head _
          · exact .tail _ (.tail _ (.tail _ hp)), fun p hp => .tail _ hp, fun p hp => by
        rcases List.mem_cons.mp hp with rfl | hp
        · exact F.apart (.head _) (.tail _ (.tail _ (.head _))) (by show Value.type "list" ≠ Value.type "dict"; decide +kernel)
        · exact Nat.ne_of_lt (hlt p hp), ⟨_, _, .head _, .nil⟩, fun _ => .head _, fun l e => (by cases e), fun _ p hp => hfr p (.tail _ (.tail _ hp))⟩
    · refine wpAny_isNot_other rfl (fun e => by cases e) ?_
      refine wpAny_truthy_bool ?_
      refine nL hE F (k176_headers _) rfl ?_
      exact ⟨l, N, rfl, F, fun p hp => hp, fun p hp => Nat.ne_of_lt (hlt p hp), ⟨vs, ln, hl, hrows⟩, (fun e => by cases e), fun l e => Value.ref.inj (Option.some.inj e), fun e => by cases e⟩
  obtain ⟨l', N₂, rfl, F, hsub, hne, ⟨vs', ln', hl', hrows'⟩, hnone, hsome, hfre⟩ := h₂
  refine st hE F (k176_headers _) fun s₃ F => ?_
  rw [up_lk] at F
  refine wpAny_execs_cons ?_
  refine wpAny_If ?_
  refine wpAny_isTrue_Compare1 ?_
  refine callGt hE G F (k176_type _) b_type bb_type ?_
  refine args1 ?_
  refine nL hE F (k176_headers _) rfl ?_
  refine typeOfRef F (.tail _ (.tail _ hl')) rfl (by decide +kernel) ?_
  refine nB hE G F (k176_list _) b_list bb_list ?_
  refine wpAny_isNot_self (by decide +kernel) ?_
  refine wpAny_truthy_bool ?_
  refine wpAny_execs_nil ?_
  refine wpAny_execs_cons ?_
  refine plainObj_wpAny_Assign_Attribute ?_
  refine nL hE F (k176_headers _) rfl ?_
  refine nL hE F (k176_self _) rfl ?_
  have hx2 : x ≠ dx := Nat.ne_of_gt hx
  refine set_dict (name := nH) (es := []) (n := 0) (es' := [⟨PyData.keyHash w.params nH, .str nH (s₃.toks + 1), .ref l'⟩]) (n' := 1) F.fr G.X F.nw (hdInst F (.head _) (.tail _ (.head _))) rfl (sa284 _) (po284 _) (tk284 _) (hd284 _) rfl rfl (.tail hx2 (.head hne)) (by show (1:Nat) ≤ 1000; omega) fun h₃ Fr₃ N₃ => ?_
  have F : Fm S g L' (lk [(Str.ofString "headers", .ref l'), (Str.ofString "headers", v.getD .none), (Str.ofString "self", .ref x)]) ((x, instObj 284 dx) :: (dx, dictOf [⟨PyData.keyHash w.params nH, .str nH (s₃.toks + 1), .ref l'⟩] 1) :: N₂) { s₃ with heap := h₃, toks := s₃.toks + 2 } := ⟨Fr₃, N₃, F.ge, F.os⟩
  generalize hN₄ : (x, instObj 284 dx) :: (dx, dictOf [⟨PyData.keyHash w.params nH, .str nH (s₃.toks + 1), .ref l'⟩] 1) :: N₂ = N₄ at F
  have H : HdAt N₄ x l' := ⟨dx, _, _, _, by rw [← hN₄]; exact .head _, by rw [← hN₄]; exact .tail _ (.head _)⟩
  have s24 : ∀ p ∈ N₂, p ∈ N₄ := fun p hp => by rw [← hN₄]; exact .tail _ (.tail _ hp)
  refine wpAny_execs_cons ?_
  refine wpAny_If ?_
  refine wpAny_isTrue_value ?_
  refine wpAny_Constant_bool ?_
  refine wpAny_truthy_bool ?_
  refine wpAny_execs_cons ?_
  refine forL (S := S) (h₀ := g) (L := L') R.hd (fun i m N => N = N₄ ∧ m (Str.ofString "self") = some (.ref x)) vs' ?_
  refine nL hE F (k176_headers _) rfl ?_
  refine ⟨l', ln', _, _, rfl, F, s24 _ hl', ⟨rfl, rfl⟩, fun v hv => ?_, fun I i v m N s o hvi hJ hl hNI ho Fi => ?_, fun m N s hJ Fi => ?_⟩
  · obtain ⟨i, hi⟩ := List.getElem?_of_mem hv
    obtain ⟨b, n, x, t, u, e1, e2, e3⟩ := hrows'.get hi
    exact .inr ⟨b, _, _, _, e1, rfl⟩
  · obtain ⟨rfl, hself⟩ := hJ
    obtain ⟨b, nm, vl, t, u, rfl, e2, e3⟩ := hrows'.get hvi
    have ok := hr _ (List.mem_of_getElem? e2)
    refine asgT2 R.hd hE Fi (k176_k _) (k176_v _) (.tail _ (s24 _ e3)) fun s F => ?_
    refine wpAny_execs_cons ?_
    refine wpAny_Expr_any ?_
    have ms : ∀ (v v' : Value), up (up m (Str.ofString "k") v) (Str.ofString "v") v' (Str.ofString "self") = some (.ref x) := fun v v' => by
      unfold up; rw [if_neg (by decide +kernel), if_neg (by decide +kernel)]; exact hself
    refine evM (nL hE F (k176_self _) (ms _ _) fun pl => hdMeth G F (H.mono fun _ h => .tail _ h) (fi_convert_string_type _) (fn183 _) ne_convert_string_type ?_)
    refine callConv G ?_
    refine nL hE F (k176_k _) (show up (up m (Str.ofString "k") _) (Str.ofString "v") _ (Str.ofString "k") = _ by unfold up; rw [if_neg (by decide +kernel), if_pos rfl]) ?_
    refine ⟨_, _, _, _, F, fun s F => ?_⟩
    refine conv_spec G F (n := n + 1) R ok.1.1 ok.1.line fun s F => ?_
    refine wpAny_execs_cons ?_
    refine wpAny_Expr_any ?_
    refine evM (nL hE F (k176_self _) (ms _ _) fun pl => hdMeth G F (H.mono fun _ h => .tail _ h) (fi_convert_string_type _) (fn183 _) ne_convert_string_type ?_)
    refine callConv G ?_
    refine nL hE F (k176_v _) (show up (up m (Str.ofString "k") _) (Str.ofString "v") _ (Str.ofString "v") = _ by unfold up; rw [if_pos rfl]) ?_
    refine ⟨_, _, _, _, F, fun s F => ?_⟩
    refine conv_spec G F (n := n + 1) R ok.2.1 ok.2.line fun s F => ?_
    refine wpAny_execs_nil ?_
    exact turnNext F hl hNI ⟨rfl, ms _ _⟩
  · obtain ⟨rfl, hself⟩ := hJ
    refine wpAny_execs_nil ?_
    refine wpAny_execs_nil ?_
    refine ⟨rfl, ?_⟩
    have F := bk _ _ _ Fi
    exact k x l' _ _ F (fun p hp => s24 _ (hsub p hp)) H (fun e => s24 _ (hnone e)) hsome (fun p hp e => Nat.ne_of_lt (Nat.lt_trans (hlt p hp) hx) e) hfre
end
end Mine
end
section
open PySem PySem.W PyProof.Rows PySem.Calls PySem.Spec
set_option Elab.async false
set_option maxRecDepth 100000
namespace Mine
section
variable {w : World} {A : Around} {E : Value → Shared → Prop} {S : Shared} {h₀ : Heap} {L : Addr} {m : Mp} {N : Led} {s : Shared} {env : Env} {prog : Program} {x l : Addr} {P : Params}
theorem Fm.chg {a : Addr} {o o' : Obj} {h' : Heap} (F : Fm S h₀ L m N s) (ha : (a, o) ∈ N) (sb : Heap.ExtBut a s.heap h') (g : h'.get? a = some o') : Fm S h₀ L m ((a, o') :: But N a) { s with heap := h' } := by
  have F2 : Fm S h₀ L m ((a, o) :: But N a) s := F.sub fun p hp => by
    rcases List.mem_cons.mp hp with rfl | hp
    · exact ha
    · exact (of_but hp).1
  exact F2.swap (fun p hp => (of_but hp).2) sb g
theorem isLst (F : Fm S h₀ L m N s) {vs : List Value} {ln : Nat} (h : (l, lstO vs ln) ∈ N) : s.heap.IsList l vs.toArray := ⟨_, F.get h, rfl, _, rfl⟩
theorem lenLst {vs : List Value} {ln : Nat} {Q : Value → Shared → Prop} (F : Fm S h₀ L m N s) (h : (l, lstO vs ln) ∈ N) (hs : vs.length ≤ 2 ^ 60) (k : ∀ t s', Fm S h₀ L m N s' → Q (.int vs.length t) s') :
    wpAny (model prog w) A (call (.builtin "len") [.ref l]) Q E s := by
  refine call_len_list (isLst F h) (by rw [List.size_toArray]; omega) ?_
  rw [List.size_toArray]
  exact k _ _ ((F.tk _).tk _)
theorem itLst {vs : List Value} {ln : Nat} {k : Int} {u : Tok} {v : Value} {value slice : Expr} {Q : Value → Shared → Prop} (F : Fm S h₀ L m N s) (h : (l, lstO vs ln) ∈ N) (hv : vs[k.toNat]? = some v) (h0 : 0 ≤ k) (h1 : k < 2 ^ 62) (q : Q v s)
    (hs : subscripted slice false (.ref l) (.int k u) = operate [.ref l, .int k u] (getItem (.ref l) (.int k u)) := by with_unfolding_all rfl) :
    wpAny (model prog w) A (subscriptTail value slice (.ref l) (.int k u)) Q E s :=
  tail_any (isLst F h).typeIs PySem.list_getitem_lookup (wpAny_getItem_list (isLst F h) h0 (by omega) (by simpa using hv) q) hs
theorem catLst {b : Addr} {vs ws : List Value} {ln ln' : Nat} {Q : Value → Shared → Prop} (F : Fm S h₀ L m N s) (h : (l, lstO vs ln) ∈ N) (h' : (b, lstO ws ln') ∈ N) (hs : vs.length + ws.length ≤ sizeLine)
    (k : ∀ a s', Fm S h₀ L m ((a, lstO (vs ++ ws)) :: N) s' → Q (.ref a) s') : wpAny (model prog w) A (binaryOp .Add (.ref l) (.ref b)) Q E s :=
  add_lists F.fr F.nw (isLst F h) (isLst F h') (fun h' F' N' => k _ _ ⟨F', N', F.ge, F.os⟩) hs
inductive CutReq (Q : Value → Shared → Prop) (o vl vu : Value) (s₃ : Shared) : Prop
  | mk (S : Shared) (h₀ : Heap) (L : Addr) (m : Mp) (N : Led) (l : Addr) (vs : List Value) (ln : Nat) (lo hi : Option Int) : o = .ref l → Fm S h₀ L m N s₃ → (l, lstO vs ln) ∈ N → IsPart vl lo → IsPart vu hi → vs.length ≤ sizeLine →
      (∀ a s', (∀ p ∈ N, p.1 ≠ a) → Fm S h₀ L m ((a, lstO (slicePick vs.toArray lo hi none).toList) :: N) s' → Q (.ref a) s') → CutReq Q o vl vu s₃
theorem cutL {value : Expr} {lower upper : Option Expr} {p pos : Pos} {Q : Value → Shared → Prop}
    (h : wpAny (model prog w) A (eval value env) (fun o s₁ => wpAny (model prog w) A (evalPart lower env) (fun vl s₂ => wpAny (model prog w) A (evalPart upper env) (fun vu s₃ => CutReq Q o vl vu s₃) E s₂) E s₁) E s)
    (hs : ∀ l b, subscripted (.Slice lower upper none p) false (.ref l) (.ref b) = operate [.ref b, .ref l] (getItem (.ref l) (.ref b)) := by intro _ _; with_unfolding_all rfl) :
    wpAny (model prog w) A (eval (.Subscript value (.Slice lower upper none p) pos) env) Q E s := by
  refine Subscript_ (wpAny_mono h (fun o s₁ h₁ => wpAny_Slice (wpAny_mono h₁ (fun vl s₂ h₂ => wpAny_mono h₂ (fun vu s₃ h₃ => ?_) fun _ _ z => z) fun _ _ z => z)) fun _ _ z => z)
  obtain ⟨S, h₀, L, m, N, l, vs, ln, lo, hi, rfl, F, hl, pl, pu, hz, q⟩ := h₃
  rw [evalPart_none]
  refine wpAny_pure ?_
  have F2 := F.push { cls := .type "slice", data := .fields #[vl, vu, .none] }
  refine tail_any (isLst F2 (.tail _ hl)).typeIs PySem.list_getitem_lookup (wpAny_getItem_list_slice (isLst F2 (.tail _ hl)) (Heap.IsSliceOf.new ..) pl pu .none (by simp) ?_ (by rw [List.size_toArray]; exact hz)) (hs _ _)
  have F3 := F2.push { cls := .type "list", data := .seq (slicePick vs.toArray lo hi none) }
  refine q _ _ (fun p hp => F2.ne p (.tail _ hp)) (F3.sub fun p hp => ?_)
  rcases List.mem_cons.mp hp with rfl | hp
  · show (_, (⟨Value.type "list", none, PySem.Data.seq (slicePick vs.toArray lo hi none).toList.toArray 0, #[]⟩ : Obj)) ∈ _
    rw [Array.toArray_toList]
    exact .head _
  · exact .tail _ (.tail _ hp)
theorem pAll (env : Env) {Q : Value → Shared → Prop} {M : Model} (h : Q .none s) : wpAny M A (evalPart none env) Q E s := wpAny_pure h
theorem pSome (env : Env) {e : Expr} {Q : Value → Shared → Prop} {M : Model} (h : wpAny M A (eval e env) Q E s) : wpAny M A (evalPart (some e) env) Q E s := h
theorem gmApp {o : Obj} {pl : Sem Bool} {Q : Value × List Value → Shared → Prop} {M : Model} (F : Fm S h₀ L m N s) (h : (l, o) ∈ N) (hc : o.cls = .type "list") (hd : o.dict = none) (k : Q (.builtin "list.append", [.ref l]) s) : wpAny M A (getMethod (.ref l) (Str.ofString "append") pl) Q E s :=
  getMethod_builtin ⟨_, F.get h, hc⟩ PySem.F.plainAttrs_list PySem.F.slot_list_append PySem.F.type_list_append (fun b e => by cases e; exact ⟨_, F.get h, hd⟩) k
theorem appLst {vs : List Value} {ln : Nat} {v : Value} {Q : Value → Shared → Prop} (F : Fm S h₀ L m N s) (h : (l, lstO vs ln) ∈ N) (hs : vs.length ≤ sizeLine) (k : ∀ s', Fm S h₀ L m ((l, lstO (vs ++ [v]) (ln + 1)) :: But N l) s' → Q .none s') :
    wpAny (model prog w) A (call (.builtin "list.append") [.ref l, v]) Q E s := by
  refine append_at (hsz := by rw [List.size_toArray]; exact hs) (F.get h) fun h' sb g => k _ ?_
  refine F.chg h sb.extBut ?_
  rw [g]
  show _ = some (⟨Value.type "list", none, PySem.Data.seq (vs ++ [v]).toArray (ln + 1), #[]⟩ : Obj)
  simp
end
end Mine
end
section
open PySem PySem.W PyProof.Rows PySem.Calls PySem.Spec
set_option Elab.async false
set_option maxRecDepth 100000
namespace Mine
noncomputable def low (x : Str) : Str := ⟨x.cps.map lo1⟩
theorem low_eq {x : Str} (h : OkT x) : Txt.lower x = low x := lower_ascii fun c hc => by have := h.1 c hc; omega
theorem low_len (x : Str) : (low x).length = x.length := by show (x.cps.map lo1).size = x.cps.size; simp
theorem low_ok {x : Str} (h : OkT x) : OkT (low x) := by
  refine ⟨fun c hc => ?_, by rw [low_len]; exact h.2⟩
  have hc' : c ∈ x.cps.toList.map lo1 := by simpa [low] using hc
  obtain ⟨d, hd, rfl⟩ := List.mem_map.mp hc'
  have := h.1 d hd
  unfold lo1
  split <;> omega
noncomputable def lookRow (rs : List (Str × Str)) (y : Str) : Option Str := (rs.find? fun r => low r.1 == y).map (·.2)
/-- a text of the program's rows, met at a value -/
noncomputable def IsTx (v : Value) (x : Str) : Prop := ∃ t, v = .str x t
section
variable {w : World} {A : Around} {E : Value → Shared → Prop} {S : Shared} {h₀ : Heap} {L : Addr} {m : Mp} {N : Led} {s : Shared} {env : Env} {prog : Program} {x l : Addr} {P : Params}
inductive LowReq (Q : Value → Shared → Prop) (v : Value) (s₁ : Shared) : Prop
  | mk (S : Shared) (h₀ : Heap) (L : Addr) (m : Mp) (N : Led) (y : Str) (t : Tok) : v = .str y t → OkT y → Fm S h₀ L m N s₁ → (∀ t s', Fm S h₀ L m N s' → Q (.str (low y) t) s') → LowReq Q v s₁
theorem evLower {e : Expr} {p pos : Pos} {Q : Value → Shared → Prop} (h : wpAny (model prog w) A (eval e env) (fun v s₁ => LowReq Q v s₁) E s)
    (hb : attributeBase e (Str.ofString "lower") env (eval e env) = eval e env := by rfl) (hl : (p.endLine == pos.line) = true := by rfl) :
    wpAny (model prog w) A (eval (.Call (.Attribute e (Str.ofString "lower") p) [] [] pos) env) Q E s := by
  refine evM (wpAny_mono h (fun v s₁ h₁ pl => ?_) fun _ _ z => z) hb rfl hl
  obtain ⟨S, h₀, L, m, N, y, t, rfl, ok, F, q⟩ := h₁
  refine GM.lower (callM0 ?_)
  have hlen : (low y).length ≤ 2 ^ 14 := by rw [low_len]; exact ok.2
  refine SC.lower (by rw [low_eq ok]; exact decide_eq_false (Nat.not_lt.mpr (Nat.le_trans hlen (by decide +kernel)))) ?_
  rw [low_eq ok]
  exact q _ _ (F.tk _)
/-- __len__ -/
theorem len_spec {vs : List Value} {ln : Nat} {Q : Value → Shared → Prop} {n : Nat} (hP : P = w.params) (G : Gd P h₀) (F : Fm S h₀ L m N s) (R : Rm A (n + 1)) (H : HdAt N x l) (hl : (l, lstO vs ln) ∈ N) (hs : vs.length ≤ 2 ^ 60)
    (k : ∀ t s', Fm S h₀ L m N s' → Q (.int vs.length t) s') : wpAny (model pw w) A (call (.ref 190) [.ref x]) Q E s := by
  subst hP
  refine in190 G F R fun g L' s₁ G R F kp bk => ?_
  have hE := ek190 L'
  refine wpAny_execs_cons ?_
  refine wpAny_Return_some ?_
  refine callGb hE G F (k190_len _) b_len bb_len ?_
  refine args1 ?_
  refine evA (nL hE F (k190_self _) rfl ?_)
  refine hdGet G F H fun s F => ?_
  refine lenLst F hl hs fun t s F => ?_
  exact k _ _ (bk _ _ _ F)
/-- len(a Headers) -/
theorem lenH {vs : List Value} {ln : Nat} {Q : Value → Shared → Prop} {n : Nat} (hP : P = w.params) (G : Gd P h₀) (F : Fm S h₀ L m N s) (R : Rm A (n + 2)) (H : HdAt N x l) (hl : (l, lstO vs ln) ∈ N) (hs : vs.length ≤ 2 ^ 60)
    (k : ∀ t s', Fm S h₀ L m N s' → Q (.int vs.length t) s') : wpAny (model pw w) A (call (.builtin "len") [.ref x]) Q E s := by
  subst hP
  obtain ⟨dx, hs', tk, n', h1, h2⟩ := H
  refine W.len_K F.fr G.X (hdInst F h1 h2) (fi_len _) (fn190 _) ?_
  refine len_spec (n := n) rfl G F R.in1 ⟨dx, hs', tk, n', h1, h2⟩ hl hs fun t s F => ?_
  exact ⟨⟨by omega, by omega⟩, k _ _ (F.tk _)⟩
/-- items -/
theorem items_spec {vs : List Value} {ln : Nat} {Q : Value → Shared → Prop} {n : Nat} (hP : P = w.params) (G : Gd P h₀) (F : Fm S h₀ L m N s) (R : Rm A (n + 1)) (H : HdAt N x l) (hl : (l, lstO vs ln) ∈ N) (hs : vs.length ≤ sizeLine)
    (k : ∀ a s', (∀ p ∈ N, p.1 ≠ a) → Fm S h₀ L m ((a, lstO vs) :: N) s' → Q (.ref a) s') : wpAny (model pw w) A (call (.ref 248) [.ref x]) Q E s := by
  subst hP
  refine in248 G F R fun g L' s₁ G R F kp bk => ?_
  have hE := ek248 L'
  refine wpAny_execs_cons ?_
  refine wpAny_Return_some ?_
  refine cutL ?_
  refine evA (nL hE F (k248_self _) rfl ?_)
  refine hdGet G F H fun s F => ?_
  refine pAll _ (pAll _ ?_)
  refine ⟨_, _, _, _, _, _, _, _, _, _, rfl, F, hl, .none, .none, hs, fun a s hf F => ?_⟩
  rw [slicePick_all] at F
  exact k _ _ hf (bk _ _ _ F)
inductive ItemsReq (S : Shared) (h₀ : Heap) (L : Addr) (Q : Value → Shared → Prop) (v : Value) (s₁ : Shared) : Prop
  | mk (m : Mp) (N : Led) (x l : Addr) (vs : List Value) (ln : Nat) : v = .ref x → Fm S h₀ L m N s₁ → HdAt N x l → (l, lstO vs ln) ∈ N → vs.length ≤ sizeLine → (∀ a s', (∀ p ∈ N, p.1 ≠ a) → Fm S h₀ L m ((a, lstO vs) :: N) s' → Q (.ref a) s') → ItemsReq S h₀ L Q v s₁
theorem evItems {e : Expr} {p pos : Pos} {Q : Value → Shared → Prop} {n : Nat} (hP : P = w.params) (G : Gd P h₀) (R : Rm A (n + 1)) (h : wpAny (model pw w) A (eval e env) (fun v s₁ => ItemsReq S h₀ L Q v s₁) E s) (hb : attributeBase e (Str.ofString "items") env (eval e env) = eval e env := by rfl) (hl : (p.endLine == pos.line) = true := by rfl) :
    wpAny (model pw w) A (eval (.Call (.Attribute e (Str.ofString "items") p) [] [] pos) env) Q E s := by
  subst hP
  refine evM (wpAny_mono h (fun v s₁ h₁ pl => ?_) fun _ _ z => z) hb rfl hl
  obtain ⟨m, N, x, l, vs, ln, rfl, F, H, hl, hs, q⟩ := h₁
  refine hdMeth G F H (fi_items _) (fn248 _) ne_items ?_
  refine callH0 G F (kp248 _) ?_
  exact items_spec rfl G F R H hl hs q
/-- get -/
theorem get_binds (x nm : Value) (s : Shared) (h : (KF P).In s.heap) : BindsTo s fd231 ⟨[x, nm], []⟩ [(Str.ofString "self", x), (Str.ofString "name", nm), (Str.ofString "default", .none)] :=
  BindsTo.of_defaults (T := 224) rfl (h _ _ (show (KF P).lookup 224 = some (o224 P) by kernel_rfl)) rfl rfl (by kernel_rfl)
theorem lookRow_step {rs : List (Str × Str)} {i : Nat} {r : Str × Str} {y : Str} (h : rs[i]? = some r) : lookRow (rs.drop i) y = if low r.1 == y then some r.2 else lookRow (rs.drop (i + 1)) y := by
  obtain ⟨hi, rfl⟩ := List.getElem?_eq_some_iff.mp h
  rw [List.drop_eq_getElem_cons hi]
  unfold lookRow
  rw [List.find?_cons]
  cases (low rs[i].1 == y) <;> rfl
theorem get_spec {vs : List Value} {ln : Nat} {rs : List (Str × Str)} {nm : Str} {t : Tok} {Q : Value → Shared → Prop} {n : Nat} (hP : P = w.params) (G : Gd P h₀) (F : Fm S h₀ L m N s) (R : Rm A (n + 3)) (H : HdAt N x l) (hl : (l, lstO vs ln) ∈ N) (hr : RowsIn N vs rs) (hok : OkRows rs) (hn : OkT nm)
    (k : ∀ v s', Fm S h₀ L m N s' → (match lookRow rs (low nm) with | some y => IsTx v y | none => v = .none) → Q v s') : wpAny (model pw w) A (call (.ref 231) [.ref x, .str nm t]) Q E s := by
  subst hP
  refine r_call (args := ⟨[.ref x, .str nm t], []⟩) (body := bodyD (meth 8)) G F R (ho231 _) hc231 rfl rfl (fun s h => get_binds _ _ s h) hl231 (locs (by kernel_rfl)) fun g L' s₁ G F kp bk => ?_
  have hE := ek231 L'
  have R := R.deeper (E231 L')
  refine wpAny_execs_cons ?_
  refine wpAny_Assign_Name ?_
  refine evM (nL hE F (k231_self _) rfl fun pl => hdMeth G F H (fi_convert_string_type _) (fn183 _) ne_convert_string_type ?_)
  refine callConv G ?_
  refine evLower (nL hE F (k231_name _) rfl ?_)
  refine ⟨_, _, _, _, _, _, _, rfl, hn, F, fun t s F => ?_⟩
  refine ⟨_, _, _, _, F, fun s F => ?_⟩
  refine conv_spec G F (n := n) R (low_ok hn).1 (low_ok hn).line fun s F => ?_
  refine st hE F (k231_name _) fun s F => ?_
  rw [up_lk] at F
  refine wpAny_execs_cons ?_
  refine forL (S := S) (h₀ := g) (L := L') R.hd (fun i m N' => N' = N ∧ m (Str.ofString "name") = some (.str (low nm) t) ∧ m (Str.ofString "default") = some .none ∧ lookRow rs (low nm) = lookRow (rs.drop i) (low nm)) vs ?_
  refine evA (nL hE F (k231_self _) rfl ?_)
  refine hdGet G F H fun s F => ?_
  refine ⟨l, ln, _, _, rfl, F, hl, ⟨rfl, rfl, rfl, rfl⟩, fun v hv => ?_, fun I i v m N s o hvi hJ hl hNI ho Fi => ?_, fun m N s hJ Fi => ?_⟩
  · obtain ⟨i, hi⟩ := List.getElem?_of_mem hv
    obtain ⟨b, n, x, t, u, e1, e2, e3⟩ := hr.get hi
    exact .inr ⟨b, _, _, _, e1, rfl⟩
  · obtain ⟨rfl, h1, h2, h3⟩ := hJ
    obtain ⟨b, key, vl, t₁, u₁, rfl, e2, e3⟩ := hr.get hvi
    have ok := hok _ (List.mem_of_getElem? e2)
    refine asgT2 R.hd hE Fi (k231_k _) (k231_v _) (.tail _ e3) fun s F => ?_
    refine wpAny_execs_cons ?_
    refine wpAny_If ?_
    refine wpAny_isTrue_Compare1 ?_
    refine evLower (nL hE F (k231_k _) (show up (up m (Str.ofString "k") _) (Str.ofString "v") _ (Str.ofString "k") = _ by unfold up; rw [if_neg (by decide +kernel), if_pos rfl]) ?_)
    refine ⟨_, _, _, _, _, _, _, rfl, ok.1, F, fun t s F => ?_⟩
    refine nL hE F (k231_name _) (show up (up m (Str.ofString "k") _) (Str.ofString "v") _ (Str.ofString "name") = _ by unfold up; rw [if_neg (by decide +kernel), if_neg (by decide +kernel)]; exact h1) ?_
    refine PyProof.Rows.eq_str ?_
    refine wpAny_truthy_bool ?_
    rw [lookRow_step e2] at h3
    cases hc : (low key == low nm) with
    | true =>
      rw [hc] at h3
      refine wpAny_execs_cons ?_
      refine wpAny_Return_some ?_
      refine nL hE F (k231_v _) (show up (up m (Str.ofString "k") _) (Str.ofString "v") _ (Str.ofString "v") = _ by unfold up; rw [if_pos rfl]) ?_
      refine k _ _ ((bk _ _ _ F).sub fun p hp => .tail _ hp) ?_
      rw [h3]
      exact ⟨_, rfl⟩
    | false =>
      rw [hc] at h3
      refine wpAny_execs_nil ?_
      refine wpAny_execs_nil ?_
      refine turnNext F hl hNI ⟨rfl, ?_, ?_, h3⟩
      · unfold up; rw [if_neg (by decide +kernel), if_neg (by decide +kernel)]; exact h1
      · unfold up; rw [if_neg (by decide +kernel), if_neg (by decide +kernel)]; exact h2
  · obtain ⟨rfl, h1, h2, h3⟩ := hJ
    refine wpAny_execs_cons ?_
    refine wpAny_Return_some ?_
    refine nL hE Fi (k231_default _) h2 ?_
    refine k _ _ (bk _ _ _ Fi) ?_
    rw [h3, hr.length, List.drop_length]
    rfl
theorem getitem_spec {vs : List Value} {ln : Nat} {rs : List (Str × Str)} {nm : Str} {t : Tok} {Q : Value → Shared → Prop} {n : Nat} (hP : P = w.params) (G : Gd P h₀) (F : Fm S h₀ L m N s) (R : Rm A (n + 4)) (H : HdAt N x l) (hl : (l, lstO vs ln) ∈ N) (hr : RowsIn N vs rs) (hok : OkRows rs) (hn : OkT nm)
    (k : ∀ v s', Fm S h₀ L m N s' → (match lookRow rs (low nm) with | some y => IsTx v y | none => v = .none) → Q v s') : wpAny (model pw w) A (call (.ref 209) [.ref x, .str nm t]) Q E s := by
  subst hP
  refine in209 G F R fun g L' s₁ G R F kp bk => ?_
  have hE := ek209 L'
  refine wpAny_execs_cons ?_
  refine wpAny_Return_some ?_
  refine evM (nL hE F (k209_self _) rfl fun pl => hdMeth G F H (fi_get _) (fn231 _) ne_get ?_)
  refine callH1 G (kp231 _) ?_
  refine nL hE F (k209_name _) rfl ?_
  refine ⟨F.fr.keep, ?_⟩
  exact get_spec rfl G F R H hl hr hok hn fun v s F q => k v s (bk _ _ _ F) q
end
end Mine
end
section
open PySem PySem.W PyProof.Rows PySem.Calls PySem.Spec
set_option Elab.async false
set_option maxRecDepth 100000
namespace Mine
section
variable {w : World} {A : Around} {E : Value → Shared → Prop} {S : Shared} {h₀ : Heap} {L : Addr} {m : Mp} {N : Led} {s : Shared} {env : Env} {prog : Program} {P : Params}
/-- a change at a place that no record speaks of -/
theorem Fm.aside {C : Addr} {h' : Heap} (F : Fm S h₀ L m N s) (hs : Heap.SameBut C s.heap h') (hL : L ≠ C) (h0 : h₀.get? C = none) (hN : ∀ p ∈ N, p.1 ≠ C) : Fm S h₀ L m N { s with heap := h' } := by
  obtain ⟨oL, es, ep, hL', r⟩ := F.fr.ns
  refine ⟨⟨⟨oL, es, ep, (hs.2 _ hL).trans hL', r⟩, fun b x q => (hs.2 _ fun z => ?_).trans (F.fr.keep b x q), F.fr.above⟩, fun p hp => ⟨(hs.2 _ (hN p hp)).trans (F.nw p hp).1, (F.nw p hp).2⟩, F.ge, F.os⟩
  rw [z, h0] at q; cases q
/-- a new frame C within the frame L, and the road back -/
theorem Fm.enter {C : Addr} {h₁ : Heap} {mC : Mp} {t : Nat} (F : Fm S h₀ L m N s) (hC : s.heap.objs.size ≤ C) (hns : h₁.Ns C mC) (hk : ∀ b o, s.heap.get? b = some o → h₁.get? b = some o) :
    ∃ g, Fm S g C mC N { s with heap := h₁, toks := t } ∧ (∀ b o, h₀.get? b = some o → g.get? b = some o) ∧
      (∀ s' N' m', Fm S g C m' N' s' → Fm S h₀ L m N' s' ∧ L ≠ C ∧ h₀.get? C = none ∧ (∀ p ∈ N', p.1 ≠ C) ∧ s'.heap.Ns C m') ∧ (∀ b o, g.get? b = some o → s.heap.get? b = some o) := by
  have kp := F.fr.keep
  have nm : ∀ b o, h₀.get? b = some o → b ∉ N.map (·.1) := fun b o e q => by
    obtain ⟨p, hp, rfl⟩ := List.mem_map.mp q
    rw [(F.nw p hp).2.2] at e; cases e
  have stays : ∀ b o, h₀.get? b = some o → (hideAll s.heap (N.map (·.1))).get? b = some o := fun b o e => hideAll_get _ (kp b o e) (nm b o e)
  obtain ⟨oL, es, ep, hL, hLd, hLk, hLf⟩ := F.fr.ns
  have nL : L ∉ N.map (·.1) := fun q => by
    obtain ⟨p, hp, e⟩ := List.mem_map.mp q
    exact (F.nw p hp).2.1 e
  have hLg := hideAll_get (N.map (·.1)) hL nL
  have lC : ∀ b o, s.heap.get? b = some o → b ≠ C := fun b o e => Nat.ne_of_lt (Nat.lt_of_lt_of_le (Heap.lt_size e) hC)
  refine ⟨hideAll s.heap (N.map (·.1)), ⟨⟨hns, fun b o e => hk b o (of_hideAll _ e), by rw [hideAll_size]; exact hC⟩, fun p hp => ⟨hk _ _ (F.nw p hp).1, lC _ _ (F.nw p hp).1, hideAll_none _ (List.mem_map_of_mem hp)⟩, F.ge, F.os⟩, stays, fun s' N' m' F' => ?_, fun b o e => of_hideAll _ e⟩
  refine ⟨⟨⟨⟨oL, es, ep, F'.fr.keep L oL hLg, hLd, hLk, hLf⟩, fun b o e => F'.fr.keep b o (stays b o e), F.fr.above⟩, fun p hp => ⟨(F'.nw p hp).1, fun q => ?_, ?_⟩, F'.ge, F'.os⟩, lC _ _ hL, ?_, fun p hp => (F'.nw p hp).2.1, F'.fr.ns⟩
  · have := (F'.nw p hp).2.2; rw [q, hLg] at this; cases this
  · cases q : h₀.get? p.1 with
    | none => rfl
    | some o => have := (F'.nw p hp).2.2; rw [stays _ _ q] at this; cases this
  · cases q : h₀.get? C with
    | none => rfl
    | some o => exact absurd rfl (lC _ _ (kp _ _ q))
theorem but_again {N : Led} {I D : Addr} {o : Obj} (h : D ≠ I) : But (But ((D, o) :: But N D) I) D = But (But N I) D := by
  unfold But
  rw [List.filter_cons_of_pos (by simpa using h), List.filter_cons_of_neg (by simp)]
  simp only [List.filter_filter]
  congr 1
  funext p
  by_cases h1 : p.1 = D <;> by_cases h2 : p.1 = I <;> simp [h1, h2]
/-- what a turn of a list's making leaves -/
noncomputable def Made (S : Shared) (g : Heap) (C : Addr) (l : Addr) (lo : Obj) (I : Addr) (o : Obj) (D : Addr) (dO : Obj) (J : Led → Prop) (s : Shared) : Prop :=
  ∃ m N, Fm S g C m N s ∧ (I, o) ∈ N ∧ (D, dO) ∈ N ∧ (l, lo) ∈ N ∧ J (But (But N I) D)
theorem made {g : Heap} {C l I D : Addr} {lo o dO : Obj} {J : Led → Prop} (F : Fm S g C m ((I, o) :: (D, dO) :: N) s) (hl : (l, lo) ∈ N) (hI : ∀ p ∈ N, p.1 ≠ I) (hD : ∀ p ∈ N, p.1 ≠ D) (hID : D ≠ I) (hJ : J N) : Made S g C l lo I o D dO J s := by
  refine ⟨m, _, F, .head _, .tail _ (.head _), .tail _ (.tail _ hl), ?_⟩
  rw [but_cons (fun p hp => by rcases List.mem_cons.mp hp with rfl | hp; exact hID; exact hI p hp), but_cons hD]
  exact hJ
inductive CompInv (S : Shared) (g : Heap) (C l I D : Addr) (vs : List Value) (ln : Nat) (J : Nat → Led → List Value → Prop) (n : Nat) (s : Shared) : Prop
  | mk (i : Nat) (m : Mp) (N : Led) (o : Obj) (ys : List Value) (dn : Nat) : n = vs.length - i → i ≤ vs.length → J i N ys → ys.length ≤ i → (l, lstO vs ln) ∈ N → (∀ p ∈ N, p.1 ≠ I) → (∀ p ∈ N, p.1 ≠ D) → D ≠ I → IsIt o l i → Fm S g C m ((I, o) :: (D, lstO ys dn) :: N) s → CompInv S g C l I D vs ln J n s
theorem compTurns {elt iter : Expr} {x : Str} {px : Pos} {ifs : List Expr} {scope : Scope} {pos : Pos} {cenv : Env} {g : Heap} {C l I D : Addr} {vs : List Value} {ln : Nat} {J : Nat → Led → List Value → Prop} {R : Result → Shared → Prop} (hh : A.handled = none) (hsz : vs.length ≤ sizeLine)
    (turn : ∀ i v m N s o ys dn, vs[i]? = some v → J i N ys → ys.length ≤ i → (l, lstO vs ln) ∈ N → (∀ p ∈ N, p.1 ≠ I) → (∀ p ∈ N, p.1 ≠ D) → D ≠ I → o.cls = .type "list_iterator" → Fm S g C m ((I, o) :: (D, lstO ys dn) :: N) s →
      wpAny (model prog w) A (assign (.Name x px) cenv v) (fun _ s₁ => wpAny (model prog w) A (forIn ifs true fun c r => if r = true then do let ok ← isTrue c cenv (eval c cenv); pure (ForInStep.yield ok) else pure (ForInStep.yield r)) (fun ok s₂ =>
        if ok = true then wpAny (model prog w) A (eval elt cenv) (fun y s₃ => Made S g C l (lstO vs ln) I o D (lstO ys dn) (fun N => J (i + 1) N (ys ++ [y])) s₃) noE s₂
        else Made S g C l (lstO vs ln) I o D (lstO ys dn) (fun N => J (i + 1) N ys) s₂) noE s₁) noE s)
    (done : ∀ m N s ys dn, J vs.length N ys → (∀ p ∈ N, p.1 ≠ D) → Fm S g C m ((D, lstO ys dn) :: N) s → R (.ok .next) s)
    {i : Nat} {ys : List Value} {dn : Nat} {o : Obj} (hi : i = 0) (hy : ys = []) (hJ : J 0 N []) (hl : (l, lstO vs ln) ∈ N) (hNI : ∀ p ∈ N, p.1 ≠ I) (hND : ∀ p ∈ N, p.1 ≠ D) (hDI : D ≠ I) (ho : IsIt o l 0) (F : Fm S g C m ((I, o) :: (D, lstO [] dn) :: N) s) :
    codeAny (model prog w) A (.compLoop (.ListComp elt [⟨.Name x px, iter, ifs, 0⟩] scope pos) 0 (.ref I) (.ref D) cenv) R s := by
  refine codeAny_compLoop_tests (CompInv S g C l I D vs ln J) ?_ (vs.length - 0) ⟨0, m, N, o, [], dn, rfl, Nat.zero_le _, hJ, Nat.le_refl _, hl, hNI, hND, hDI, ho, F⟩
  rintro n s ⟨i, m, N, o, ys, dn, rfl, hi, hj, hyl, hl, hNI, hND, hDI, ho, F⟩
  have hit : s.heap.IsListIter I l i := ⟨o, F.get (.head _), ho.1, ho.2⟩
  have hls : s.heap.IsList l vs.toArray := ⟨_, F.get (.tail _ (.tail _ hl)), rfl, _, rfl⟩
  have hNI' : ∀ p ∈ (D, lstO ys dn) :: N, p.1 ≠ I := fun p hp => by rcases List.mem_cons.mp hp with rfl | hp; exact hDI; exact hNI p hp
  cases hv : vs[i]? with
  | none =>
    refine wpAny_pyNext_list_end hh hit hls (by simpa using hv) fun h' eb => ?_
    have hi' : i = vs.length := by have := List.getElem?_eq_none_iff.mp hv; omega
    subst hi'
    exact done _ _ _ _ _ hj hND (F.drop hNI' eb)
  | some v =>
    refine wpAny_pyNext_list_item hit hls (by simpa using hv) fun h' hit' sb => ?_
    obtain ⟨o', g1, g2, g3⟩ := hit'
    have F' := F.swap hNI' sb.extBut g1
    have hlt : i < vs.length := (List.getElem?_eq_some_iff.mp hv).1
    have fin : ∀ (ys' : List Value) (dn' : Nat) (N' : Led) (m' : Mp) (s' : Shared), Fm S g C m' N' s' → (I, o') ∈ N' → (D, lstO ys' dn') ∈ N' → (l, lstO vs ln) ∈ N' → ys'.length ≤ i + 1 → J (i + 1) (But (But N' I) D) ys' →
        ∃ n', n' < vs.length - i ∧ CompInv S g C l I D vs ln J n' s' := by
      intro ys' dn' N' m' s' F2 hI hD hl2 hle hj2
      have hlI : l ≠ I := F2.apart hl2 hI (by rw [g2]; show Value.type "list" ≠ Value.type "list_iterator"; decide +kernel)
      refine ⟨_, by omega, i + 1, m', But (But N' I) D, o', ys', dn', rfl, hlt, hj2, hle, mem_but (mem_but hl2 hlI) (hND _ hl), fun p hp => (of_but (of_but hp).1).2, fun p hp => (of_but hp).2, hDI, ⟨g2, g3⟩, F2.sub fun p hp => ?_⟩
      rcases List.mem_cons.mp hp with rfl | hp
      · exact hI
      · rcases List.mem_cons.mp hp with rfl | hp
        · exact hD
        · exact (of_but (of_but hp).1).1
    refine wpAny_mono (turn i v m N _ o' ys dn hv hj hyl hl hNI hND hDI g2 F') (fun _ s₁ h₁ => wpAny_mono h₁ (fun ok s₂ h₂ => ?_) fun _ _ z => z.elim) fun _ _ z => z.elim
    cases ok with
    | false =>
      obtain ⟨m', N', F2, hI, hD, hl2, hj2⟩ := h₂
      exact fin _ _ _ _ _ F2 hI hD hl2 (by omega) hj2
    | true =>
      refine wpAny_mono h₂ (fun y s₃ h₃ => ?_) fun _ _ z => z.elim
      obtain ⟨m', N', F2, hI, hD, hl2, hj2⟩ := h₃
      refine appLst F2 hD (by omega) fun s₄ F4 => ?_
      refine fin _ _ _ _ _ F4 (.tail _ (mem_but hI (Ne.symm hDI))) (.head _) (.tail _ (mem_but hl2 (hND _ hl))) (by simp; omega) ?_
      rw [but_again hDI]
      exact hj2
theorem tests0 {cenv : Env} {Q : Bool → Shared → Prop} (h : Q true s) : wpAny (model prog w) A (forIn ([] : List Expr) true fun c r => if r = true then do let ok ← isTrue c cenv (eval c cenv); pure (ForInStep.yield ok) else pure (ForInStep.yield r)) Q E s := wpAny_tests_nil h
theorem tests1 {cenv : Env} {c : Expr} {Q : Bool → Shared → Prop} (h : wpAny (model prog w) A (isTrue c cenv (eval c cenv)) Q E s) :
    wpAny (model prog w) A (forIn [c] true fun c r => if r = true then do let ok ← isTrue c cenv (eval c cenv); pure (ForInStep.yield ok) else pure (ForInStep.yield r)) Q E s := wpAny_tests_one h
/-- [elt for x in a list if ..]: the list of its values -/
theorem compCore {elt iter : Expr} {x : Str} {px : Pos} {ifs : List Expr} {scope : Scope} {cl : List (Str × Addr)} {pos pos' : Pos} {use : Option (Value → Sem Unit)} {Q : Value → Shared → Prop} (hh : A.handled = none) (J : Nat → Led → List Value → Prop) (vs : List Value)
    (hclos : closureFor scope env = pure cl) (hcell : ∀ y ∈ scope.names, y.2 ≠ .cell) (hkind : scope.kind = .function) (hnames : ∀ y ∈ scope.names, y.2 = .local → scope.names.lookup y.1 = some .local)
    (h : wpAny (model prog w) A (eval iter env) (fun it s₁ => ∃ l ln m N, it = .ref l ∧ Fm S h₀ L m N s₁ ∧ (l, lstO vs ln) ∈ N ∧ vs.length ≤ sizeLine ∧ J 0 N [] ∧
      (∀ g C I D i v m N s o ys dn, (∀ b o, h₀.get? b = some o → g.get? b = some o) → vs[i]? = some v → J i N ys → ys.length ≤ i → (l, lstO vs ln) ∈ N → (∀ p ∈ N, p.1 ≠ I) → (∀ p ∈ N, p.1 ≠ D) → D ≠ I → o.cls = .type "list_iterator" → Fm S g C m ((I, o) :: (D, lstO ys dn) :: N) s →
        wpAny (model prog w) A (assign (.Name x px) (compEnvC scope cl C env) v) (fun _ s₁ => wpAny (model prog w) A (forIn ifs true fun c r => if r = true then do let ok ← isTrue c (compEnvC scope cl C env) (eval c (compEnvC scope cl C env)); pure (ForInStep.yield ok) else pure (ForInStep.yield r)) (fun ok s₂ =>
          if ok = true then wpAny (model prog w) A (eval elt (compEnvC scope cl C env)) (fun y s₃ => Made S g C l (lstO vs ln) I o D (lstO ys dn) (fun N => J (i + 1) N (ys ++ [y])) s₃) noE s₂
          else Made S g C l (lstO vs ln) I o D (lstO ys dn) (fun N => J (i + 1) N ys) s₂) noE s₁) noE s) ∧
      (∀ D N s ys dn C mC, J vs.length N ys → (∀ p ∈ N, p.1 ≠ D) → Fm S h₀ L m ((D, lstO ys dn) :: N) s → s.heap.Ns C mC → (∀ s' m' N', Fm S h₀ L m' N' s' → s'.heap.Ns C mC → (∀ p ∈ N', p.1 ≠ C) → ∀ h', Heap.SameBut C s'.heap h' → Fm S h₀ L m' N' { s' with heap := h' }) → L ≠ C → (∀ p ∈ (D, lstO ys dn) :: N, p.1 ≠ C) →
        match use with
        | none => ∀ s', Fm S h₀ L m ((D, lstO ys dn) :: N) s' → Q (.ref D) s'
        | some u => wpAny (model prog w) A (u (.ref D)) (fun _ s'' => ∃ m, s''.heap.Ns C m ∧ ∀ h', Heap.SameBut C s''.heap h' → Q .none { s'' with heap := h' }) E s)) E s)
    (hs : ∀ x, foldedSetIterable iter env x = pure x := by intro _; rfl) :
    wpAny (model prog w) A (comprehension (.ListComp elt [⟨.Name x px, iter, ifs, 0⟩] scope pos) scope env pos' (newList []) false (eval iter env) use) Q E s := by
  refine wpAny_comprehension_free rfl hs hclos hkind hnames (wpAny_mono h (fun it s₁ h₁ => ?_) fun _ _ e => e)
  obtain ⟨l, ln, m, N, rfl, F, hl, hsz, hj, turn, done⟩ := h₁
  refine wpAny_pyIter_list ⟨_, F.get hl, rfl, _, rfl⟩ ?_
  have hNI := F.ne
  have F1 := F.push { cls := .type "list_iterator", data := .fields #[.ref l, .int 0 0] }
  generalize hI : s₁.heap.objs.size = I at F1 hNI
  refine wpAny_newList ?_ (by exact Nat.le_of_ble_eq_true rfl)
  have hND := F1.ne
  have F3 := F1.push (lstO [])
  generalize hD : (s₁.heap.push { cls := .type "list_iterator", data := .fields #[.ref l, .int 0 0] }).objs.size = D at F3 hND ⊢
  generalize ({ s₁ with heap := (s₁.heap.push { cls := .type "list_iterator", data := .fields #[.ref l, .int 0 0] }).push (lstO []) } : Shared) = s₃ at F3 ⊢
  refine wpAny_newFunctionEnv hcell (by intro y hy; simp at hy) (fun h₁ hns hsb => ?_) hkind
  have hk : ∀ b o, s₃.heap.get? b = some o → h₁.get? b = some o := fun b o e => hsb.extBut b o (Nat.ne_of_lt (Heap.lt_size e)) (Heap.get?_push_of_some _ e)
  obtain ⟨g, FC, stays, back, _⟩ := F3.enter (t := s₃.toks + ([] : List (Str × Value)).length) (Nat.le_refl _) hns hk
  generalize hC : s₃.heap.objs.size = C at FC back hns ⊢
  have hDI : D ≠ I := fun e => hND _ (.head _) e.symm
  have FC2 : Fm S g C _ ((I, { cls := .type "list_iterator", data := .fields #[.ref l, .int 0 0] }) :: (D, lstO [] 0) :: N) _ := FC.sub fun p hp => by
    rcases hp with _ | ⟨_, _ | ⟨_, hp⟩⟩
    · exact .tail _ (.head _)
    · exact .head _
    · exact .tail _ (.tail _ hp)
  have loop : codeAny (model prog w) A (.compLoop (.ListComp elt [⟨.Name x px, iter, ifs, 0⟩] scope pos) 0 (.ref I) (.ref D) (compEnvC scope cl C env)) (compPost (model prog w) A E use Q (.ref D) C) { s₃ with heap := h₁, toks := s₃.toks + ([] : List (Str × Value)).length } := by
    refine compTurns (vs := vs) (ln := ln) (J := J) hh hsz (fun i v m N s o ys dn a1 a2 a3 a4 a5 a6 a7 a8 a9 => turn g C I D i v m N s o ys dn stays a1 a2 a3 a4 a5 a6 a7 a8 a9) (fun mC N s ys dn hj hN F => ?_) rfl rfl hj hl hNI (fun p hp => hND p (.tail _ hp)) hDI ⟨rfl, rfl⟩ FC2
    obtain ⟨F', hLC, h0C, hNC, hns'⟩ := back _ _ _ F
    have d := done D N s ys dn C mC hj hN F' hns' (fun s' m' N' F' hns' hN' h' hs => F'.aside hs hLC h0C hN') hLC hNC
    cases use with
    | none => exact ⟨mC, hns', fun h' hs => d _ (F'.aside hs hLC h0C hNC)⟩
    | some u => exact d
  exact codeAny_compStart_list loop (wpAny_pyIter_listiter (i := 0) ⟨_, FC2.get (.head _), rfl, rfl⟩ loop)
noncomputable def Turns (prog : Program) (w : World) (A : Around) (S : Shared) (h₀ : Heap) (L : Addr) (x : Str) (px : Pos) (ifs : List Expr) (elt : Expr) (cenv : Addr → Env) (J : Nat → Led → List Value → Prop) (vs : List Value) (l : Addr) (ln : Nat) : Prop :=
  ∀ g C I D i v m N s o ys dn, (∀ b o, h₀.get? b = some o → g.get? b = some o) → vs[i]? = some v → J i N ys → ys.length ≤ i → (l, lstO vs ln) ∈ N → (∀ p ∈ N, p.1 ≠ I) → (∀ p ∈ N, p.1 ≠ D) → D ≠ I → o.cls = .type "list_iterator" → Fm S g C m ((I, o) :: (D, lstO ys dn) :: N) s →
        wpAny (model prog w) A (assign (.Name x px) (cenv C) v) (fun _ s₁ => wpAny (model prog w) A (forIn ifs true fun c r => if r = true then do let ok ← isTrue c (cenv C) (eval c (cenv C)); pure (ForInStep.yield ok) else pure (ForInStep.yield r)) (fun ok s₂ =>
          if ok = true then wpAny (model prog w) A (eval elt (cenv C)) (fun y s₃ => Made S g C l (lstO vs ln) I o D (lstO ys dn) (fun N => J (i + 1) N (ys ++ [y])) s₃) noE s₂
          else Made S g C l (lstO vs ln) I o D (lstO ys dn) (fun N => J (i + 1) N ys) s₂) noE s₁) noE s
inductive CompReq (prog : Program) (w : World) (A : Around) (S : Shared) (h₀ : Heap) (L : Addr) (x : Str) (px : Pos) (ifs : List Expr) (elt : Expr) (cenv : Addr → Env) (J : Nat → Led → List Value → Prop) (vs : List Value) (Q : Value → Shared → Prop) (it : Value) (s₁ : Shared) : Prop
  | mk (l : Addr) (ln : Nat) (m : Mp) (N : Led) : it = .ref l → Fm S h₀ L m N s₁ → (l, lstO vs ln) ∈ N → vs.length ≤ sizeLine → J 0 N [] → Turns prog w A S h₀ L x px ifs elt cenv J vs l ln →
      (∀ D N s ys dn, J vs.length N ys → (∀ p ∈ N, p.1 ≠ D) → Fm S h₀ L m ((D, lstO ys dn) :: N) s → Q (.ref D) s) → CompReq prog w A S h₀ L x px ifs elt cenv J vs Q it s₁
inductive CompReqA (prog : Program) (w : World) (A : Around) (S : Shared) (h₀ : Heap) (L : Addr) (x : Str) (px : Pos) (ifs : List Expr) (elt : Expr) (cenv : Addr → Env) (J : Nat → Led → List Value → Prop) (vs : List Value) (y : Str) (Q : Flow → Shared → Prop) (it : Value) (s₁ : Shared) : Prop
  | mk (l : Addr) (ln : Nat) (m : Mp) (N : Led) : it = .ref l → Fm S h₀ L m N s₁ → (l, lstO vs ln) ∈ N → vs.length ≤ sizeLine → J 0 N [] → Turns prog w A S h₀ L x px ifs elt cenv J vs l ln →
      (∀ D N s ys dn, J vs.length N ys → (∀ p ∈ N, p.1 ≠ D) → Fm S h₀ L (up m y (.ref D)) ((D, lstO ys dn) :: N) s → Q .next s) → CompReqA prog w A S h₀ L x px ifs elt cenv J vs y Q it s₁
/-- the list as a value -/
theorem compL {elt iter : Expr} {x : Str} {px : Pos} {ifs : List Expr} {scope : Scope} {pos : Pos} {Q : Value → Shared → Prop} (hh : A.handled = none) (J : Nat → Led → List Value → Prop) (vs : List Value) {cl : List (Str × Addr)}
    (h : wpAny (model prog w) A (eval iter env) (fun it s₁ => CompReq prog w A S h₀ L x px ifs elt (fun C => compEnvC scope cl C env) J vs Q it s₁) E s)
    (hclos : closureFor scope env = pure cl := by rfl) (hcell : ∀ y ∈ scope.names, y.2 ≠ .cell := by decide +kernel) (hkind : scope.kind = .function := by rfl) (hnames : ∀ y ∈ scope.names, y.2 = .local → scope.names.lookup y.1 = some .local := by decide +kernel)
    (hs : ∀ x, foldedSetIterable iter env x = pure x := by intro _; rfl) :
    wpAny (model prog w) A (eval (.ListComp elt [⟨.Name x px, iter, ifs, 0⟩] scope pos) env) Q E s := by
  rw [eval_ListComp]
  refine compCore (S := S) (h₀ := h₀) (L := L) (use := none) hh J vs hclos hcell hkind hnames (wpAny_mono h (fun it s₁ h₁ => ?_) fun _ _ z => z) hs
  obtain ⟨l, ln, m, N, rfl, F, hl, hsz, hj, turn, done⟩ := h₁
  exact ⟨l, ln, m, N, rfl, F, hl, hsz, hj, turn, fun D N s ys dn C mC a b _ _ _ _ _ s' F => done D N s' ys dn a b F⟩
/-- y = the list -/
theorem compAsg {elt iter : Expr} {x y : Str} {px py : Pos} {ifs : List Expr} {scope : Scope} {pos spos : Pos} {Q : Flow → Shared → Prop} (hh : A.handled = none) (hE : EnvOk env L) (hy : env.kindOf y = some .local) (J : Nat → Led → List Value → Prop) (vs : List Value) {cl : List (Str × Addr)}
    (hsw : swapsWith (.ListComp elt [⟨.Name x px, iter, ifs, 0⟩] scope pos) (some (.Name y py)) spos.line env = pure true)
    (h : wpAny (model prog w) A (eval iter env) (fun it s₁ => CompReqA prog w A S h₀ L x px ifs elt (fun C => compEnvC scope cl C env) J vs y Q it s₁) E s)
    (hclos : closureFor scope env = pure cl := by rfl) (hcell : ∀ y ∈ scope.names, y.2 ≠ .cell := by decide +kernel) (hkind : scope.kind = .function := by rfl) (hnames : ∀ y ∈ scope.names, y.2 = .local → scope.names.lookup y.1 = some .local := by decide +kernel)
    (hs : ∀ x, foldedSetIterable iter env x = pure x := by intro _; rfl) :
    wpAny (model prog w) A (exec (.Assign [.Name y py] (.ListComp elt [⟨.Name x px, iter, ifs, 0⟩] scope pos) spos) env) Q E s := by
  rw [exec_Assign_Name_used _ _ _ _ hsw]
  refine wpAny_bind (wpAny_standAt (wpAny_bind ?_))
  show wpAny _ A (do let _ ← comprehension (.ListComp elt [⟨.Name x px, iter, ifs, 0⟩] scope pos) scope env _ (newList []) false (eval iter env) (some (assign (.Name y py) env))) _ _ s
  refine wpAny_bind (wpAny_mono (compCore (S := S) (h₀ := h₀) (L := L) (use := some (assign (.Name y py) env)) (Q := fun _ s' => Q .next s') hh J vs hclos hcell hkind hnames (wpAny_mono h (fun it s₁ h₁ => ?_) fun _ _ z => z) hs) (fun _ s' hq => wpAny_pure (wpAny_pure hq)) fun _ _ e => e)
  obtain ⟨l, ln, m, N, rfl, F, hl, hsz, hj, turn, done⟩ := h₁
  refine ⟨l, ln, m, N, rfl, F, hl, hsz, hj, turn, fun D N s ys dn C mC a b F hns asd hLC hNC => ?_⟩
  have F' := hE.locals ▸ F.fr
  refine wpAny_assign_Name (wpAny_storeName_local hy F'.ns (fun h' hn hs' => ?_) (by rw [hE.kind]; rfl))
  have e := hE.locals
  subst e
  have F2 : Fm S h₀ env.locals (up m y (.ref D)) ((D, lstO ys dn) :: N) { s with heap := h' } := ⟨F.fr.set hn hs', F.nw.set hs', F.ge, F.os⟩
  have hnC : Heap.Ns h' C mC := hns.sameBut hs' (Ne.symm hLC)
  exact ⟨mC, hnC, fun h'' hs'' => done D N _ ys dn a b ((asd _ _ _ F2 hnC hNC h'' hs'').tk _)⟩
end
end Mine
end
section
open PySem PySem.W PyProof.Rows PySem.Calls PySem.Spec
set_option Elab.async false
set_option maxRecDepth 100000
namespace Mine
section
variable {w : World} {A : Around} {E : Value → Shared → Prop} {S : Shared} {h₀ : Heap} {L : Addr} {m : Mp} {N : Led} {s : Shared} {env : Env} {prog : Program} {P : Params}
theorem allItems_list {l : Addr} {o : Obj} {xs : Array Value} {n : Nat} {msg : String} {Q : Array Value → Shared → Prop} (ho : s.heap.get? l = some o) (hc : o.cls = .type "list") (hd : o.data = .seq xs n) (h : Q xs s) :
    wpAny (model prog w) A (Builtin.List.listAllItems (.ref l) msg) Q E s := by
  unfold Builtin.List.listAllItems Builtin.List.listItems
  refine wpAny_bind (wpAny_typeOf (T := "list") ⟨o, ho, hc⟩ ?_)
  rw [if_pos (by decide)]
  first
    | exact wpAny_bind (wpAny_seqItems ho hd (wpAny_pure h))
    | exact wpAny_bind (wpAny_bind (wpAny_seqItems ho hd (wpAny_pure (wpAny_pure h))))
/-- l[:] = d -/
theorem setAll {l d sl : Addr} {vs ws : List Value} {ln dn : Nat} {Q : Unit → Shared → Prop} (F : Fm S h₀ L m N s) (hl : (l, lstO vs ln) ∈ N) (hd : (d, lstO ws dn) ∈ N) (hne : l ≠ d)
    (hsl : s.heap.IsSliceOf sl .none .none .none) (hv : vs.length ≤ 1000) (hw : ws.length ≤ 1000) (k : ∀ n s', Fm S h₀ L m ((l, lstO ws n) :: But N l) s' → Q () s') :
    wpAny (model prog w) A (setItem (.ref l) (.ref sl) (.ref d)) Q E s := by
  have hL := isLst F hl
  have ho := F.get hl
  have hod := F.get hd
  obtain ⟨os, hos, hcs, hds⟩ := id hsl
  have hTs : s.TypeIs (.ref sl) "slice" := ⟨os, hos, hcs⟩
  unfold setItem
  refine wpAny_holding ?_
  refine wpAny_bind (wpAny_sequenceKey hL.typeIs (by decide) ?_)
  refine wpAny_bind (wpAny_callSpecial?_slot (name := Str.ofString "__setitem__") hL.typeIs PySem.F.slot_list_setitem
    (wpAny_call_entry PySem.F.slot_list_setitem hL.typeIs PySem.F.entry_list_setitem ?_ (PySem.F.args_list_setitem_3 _ _ _)))
  show wpAny _ _ (Builtin.List.listSubscript? (.ref sl) >>= _) _ _ s
  refine wpAny_bind ?_
  unfold Builtin.List.listSubscript?
  refine wpAny_bind (wpAny_specialOf hTs slice_no_index ?_)
  simp only [Option.isNone_none, if_true]
  refine wpAny_pure ?_
  show wpAny _ _ (typeOf (.ref sl) >>= _) _ _ s
  refine wpAny_bind (wpAny_typeOf hTs ?_)
  rw [if_neg (by decide)]
  rw [listSliceParts_eq]
  refine wpAny_bind (wpAny_bind (wpAny_field hos hds (x := .none) rfl (wpAny_bind (wpAny_listPart .none ?_))))
  rw [if_neg (by decide)]
  refine wpAny_bind (wpAny_field hos hds (x := .none) rfl (wpAny_bind (wpAny_listPart .none ?_)))
  refine wpAny_bind (wpAny_field hos hds (x := .none) rfl (wpAny_bind (wpAny_listPart .none (wpAny_pure ?_))))
  have hsame : Builtin.List.listSameRef (.ref l) (.ref d) = false := by show (l == d) = false; exact beq_eq_false_iff_ne.mpr hne
  simp only [hsame, Bool.false_eq_true, if_false]
  refine wpAny_bind (allItems_list hod rfl rfl ?_)
  unfold Builtin.List.listItems
  refine wpAny_bind (wpAny_bind (wpAny_seqItems ho rfl (wpAny_pure ?_)))
  refine wpAny_bind (wpAny_of_eq (sliceIndices_raw none none none _ (by simp)) ?_)
  have e : sliceBounds none none none vs.toArray.size = (0, (vs.length : Int), 1) := by simp [sliceBounds]
  rw [e]
  dsimp only
  rw [if_pos (by decide)]
  refine wpAny_bind (wpAny_rule ?_)
  have hlong : Builtin.List.listTooLong (vs.toArray.size + ws.toArray.size) = false := decide_eq_false (by rw [List.size_toArray, List.size_toArray]; show ¬ (_ > 16777216); omega)
  rw [hlong]
  simp only [Bool.false_eq_true, if_false]
  have hf : (vs.toArray.extract 0 (Int.toNat 0) ++ ws.toArray ++ vs.toArray.extract (max 0 (vs.length : Int)).toNat : Array Value) = ws.toArray := by
    have : (max 0 (vs.length : Int)).toNat = vs.length := by omega
    rw [this]
    apply Array.toList_inj.mp
    simp
  refine wpAny_bind (wpAny_updateSeq ho rfl ?_ (by rw [List.size_toArray]; show _ ≤ 16777216; omega) (by rw [hf, List.size_toArray]; show _ ≤ 16777216 + 1; omega))
  refine wpAny_bind (wpAny_letGo (wpAny_pure ⟨.none, rfl, wpAny_pure (k (if ws.toArray.size == vs.toArray.size then ln else ln + 1) _ (F.chg hl (Heap.SameBut.update ..).extBut ?_))⟩))
  refine (Heap.get?_update_self _ ho rfl).trans ?_
  unfold Obj.mapSeq
  dsimp only
  rw [hf]
/-- what a cell of the ledger holds -/
noncomputable def CellIn (N : Led) (c : Addr) (v : Option Value) : Prop := ∃ o, (c, o) ∈ N ∧ o.data = .cell v
theorem CellIn.mono {N N' : Led} {c : Addr} {v : Option Value} (h : CellIn N c v) (hs : ∀ p ∈ N, p ∈ N') : CellIn N' c v := let ⟨o, a, b⟩ := h; ⟨o, hs _ a, b⟩
theorem Fm.apartD {a b : Addr} {o o' : Obj} (F : Fm S h₀ L m N s) (h : (a, o) ∈ N) (h' : (b, o') ∈ N) (hc : o.data ≠ o'.data) : a ≠ b := fun e => by subst e; exact hc (congrArg Obj.data (F.same h h'))
theorem isCell {c : Addr} {v : Option Value} (F : Fm S h₀ L m N s) (h : CellIn N c v) : s.heap.IsCell c v := let ⟨o, a, b⟩ := h; ⟨o, F.get a, b⟩
theorem nC {x : Str} {pos : Pos} {v : Value} {c : Addr} {Q : Value → Shared → Prop} {M : Model} (hE : EnvOk env L) (F : Fm S h₀ L m N s) (hk : env.kindOf x = some .cell) (hc : env.cells.lookup x = some c) (hv : CellIn N c (some v)) (h : Q v s)
    (hd : (x == ("__debug__" : Str)) = false := by kernel_rfl) : wpAny M A (eval (.Name x pos) env) Q E s :=
  wpAny_Name (wpAny_loadName_cell hE.kind hk hc (isCell F hv) h) hd
theorem stC {x : Str} {v : Value} {v₀ : Option Value} {c : Addr} {Q : Unit → Shared → Prop} {M : Model} (hE : EnvOk env L) (F : Fm S h₀ L m N s) (hk : env.kindOf x = some .cell) (hc : env.cells.lookup x = some c) (hv : CellIn N c v₀)
    (h : ∀ o s', o.data = .cell (some v) → Fm S h₀ L m ((c, o) :: But N c) s' → Q () s') : wpAny M A (storeName env x v) Q E s := by
  obtain ⟨o, ho, hd⟩ := hv
  exact wpAny_storeName_cell hE.kind hk hc ⟨o, F.get ho, hd⟩ fun h' ⟨o', g, hd'⟩ sb => h o' _ hd' (F.chg ho sb.extBut g)
noncomputable def callEnvC (fd : FuncData) (L f : Addr) : Env := newEnv fd.scope L fd.globals (cellsFrom (L + 1) fd.scope.names []) (fd.qualname ++ ".<locals>.") (some f) fd.code none fd.builtins
/-- the entry into a def with cells -/
theorem r_callC {f c : Addr} {fd : FuncData} {oc od osl} {body : List Stmt} {args : Args} {binds : List (Str × Value)} {Q : Value → Shared → Prop} {n : Nat}
    (G : Gd P h₀) (F : Fm S h₀ L m N s) (R : Rm A n) (ho : (KF P).lookup f = some ⟨oc, od, .func fd, osl⟩) (hc : (c, fd.qualname) ∈ KC) (hcd : fd.code = .ref c) (hb : fd.body = .stmts body) (hcl : fd.closure = [])
    (hbind : ∀ s : Shared, (KF P).In s.heap → BindsTo s fd args binds)
    (hkind : ∀ n, ∀ x ∈ binds, fd.scope.names.lookup x.1 = some .local ∨ (fd.scope.names.lookup x.1 = some .cell ∧ ((cellsFrom n fd.scope.names []).lookup x.1).isSome = true))
    (hnd : ((cellsFrom 0 fd.scope.names []).map (·.1)).Nodup)
    (k : ∀ g L' s₁ cells, Gd P g → Fm S g L' (bindL (callEnvC fd L' f).kindOf binds fun _ => none) (cells ++ N) s₁ → CellsAre (bindC (callEnvC fd L' f).kindOf binds fun _ => none) (cellsFrom (L' + 1) fd.scope.names []) cells →
      (∀ p ∈ N, p.1 < L') → (∀ b o, h₀.get? b = some o → g.get? b = some o) → (∀ s' N' m', Fm S g L' m' N' s' → Fm S h₀ L m N' s') →
      wpAny (model pw w) (A.deeper (callEnvC fd L' f)) (execs body (callEnvC fd L' f)) (fun fl s' => Q (retv fl) s') (fun _ _ => False) s₁)
    (hco : fd.scope.isCoroutine = false := by kernel_rfl) (hgen : fd.scope.isGenerator = false := by kernel_rfl) (hk : fd.scope.kind = .function := by kernel_rfl) :
    wpAny (model pw w) A (call (.ref f) args.pos args.kw) Q E s := by
  have kp := F.fr.keep
  refine wpAny_call (codeAny_call_function R.lim (kp _ _ (G.X _ _ ho)) rfl hco hgen hb (hcd ▸ (G.codes _ hc).keeps kp) (hbind s (G.X.keeps kp) _ _ _ _ ?_))
  rw [hcl]
  refine wpAny_newFunctionEnv_cells hk (hkind _) fun env' he s' x => ?_
  subst he
  refine ⟨(G.nolimit.keeps kp).keeps x.toInCall.keep, codeAny_func ?_⟩
  obtain ⟨h₁, tk, rfl⟩ := x.toInCall.same
  have hk₁ := x.toInCall.keep
  obtain ⟨cells, NC, Y⟩ := Cl.news (h₀ := s.heap) (Nat.le_refl _) fun n c hm => ⟨x.cell n c (lookup_of_mem_nodup (cellsFrom_names fd.scope.names 0 (s.heap.objs.size + 1) [] [] rfl ▸ hnd) hm), x.above n c hm⟩
  obtain ⟨g, FC, stays, back, un⟩ := F.enter (t := tk) (Nat.le_refl _) x.toInCall.ns hk₁
  refine wpAny_mono (k g s.heap.objs.size _ cells (G.keeps stays) ⟨FC.fr, fun p hp => ?_, FC.ge, FC.os⟩ Y F.lt stays fun s' N' m' F' => (back s' N' m' F').1) (fun fl s' q => ?_) fun _ _ y => y.elim
  · rcases List.mem_append.mp hp with hp | hp
    · refine ⟨(NC p hp).1, (NC p hp).2.1, ?_⟩
      cases q : g.get? p.1 with
      | none => rfl
      | some o => have := un _ _ q; rw [(NC p hp).2.2] at this; cases this
    · exact FC.nw p hp
  · unfold retv at q; exact q
theorem cellsAt1 {cm : Mp} {n : Str} {c : Addr} {cells : Led} (h : CellsAre cm [(n, c)] cells) : CellIn cells c (cm n) ∧ cells.length = 1 := by
  cases h with
  | cons hd h => cases h; exact ⟨⟨_, .head _, hd⟩, rfl⟩
/-- del x[v] on an object of a class -/
theorem delItemK {K : Frag} {x C f : Addr} {ox : Obj} {od : Option Obj} {i : Value} {Q : Unit → Shared → Prop} {M : Model} (Fr' : Fr h₀ L s.heap m) (X₀ : K.In h₀) (I : PySem.W.InstAt s.heap x ox C od) (hq : noSeq K C = true) (hs : findIn K (.ref C) "__delitem__" = some (some (.ref f))) (hf : isFn K (.ref f) = true)
    (h : wpAny M A (call (.ref f) [.ref x, i]) (fun _ s' => Q () s') E s) : wpAny M A (delItem (.ref x) i) Q E s := by
  have X := X₀.keeps Fr'.keep
  unfold delItem sequenceKey
  refine wpAny_holding (wpAny_bind (wpAny_bind (I.type.here ?_)))
  refine wpAny_bind ((anyM_none X hq).here ?_)
  rw [if_pos (show (!false) = true from rfl)]
  exact wpAny_pure (wpAny_bind (special_fn X I hs (beq_iff_eq.mp hf) (wpAny_mono h (fun _ _ z => wpAny_pure z) fun _ _ z => z)))
theorem delSub {o i : Expr} {pos' pos : Pos} {Q : Flow → Shared → Prop} {M : Model} (h : wpAny M A (eval o env) (fun ov s₁ => wpAny M A (eval i env) (fun iv s₂ => wpAny M A (delItem ov iv) (fun _ => Q .next) E s₂) E s₁) E s) : wpAny M A (exec (.Delete [.Subscript o i pos'] pos) env) Q E s := by
  refine wpAny_Delete (wpAny_deleteEach_cons ?_)
  rw [arm_delete_Subscript]
  refine wpAny_bind (wpAny_mono h (fun ov s₁ h₁ => wpAny_bind (wpAny_holding (wpAny_mono h₁ (fun iv s₂ h₂ => wpAny_bind (wpAny_standAt (wpAny_bind (wpAny_holding (wpAny_mono h₂ (fun _ s₃ h₃ => ?_) fun _ _ z => z))))) fun _ _ z => z))) fun _ _ z => z)
  exact wpAny_release (wpAny_deleteEach_nil h₃)
end
end Mine
end
section
open PySem PySem.W PyProof.Rows PySem.Calls PySem.Spec
set_option Elab.async false
set_option maxRecDepth 100000
namespace Mine
theorem HdAt.but {N : Led} {x l a : Addr} (H : HdAt N x l) (hs : ∀ b o, (b, o) ∈ N → (o.cls = .ref 284 ∨ o.cls = .type "dict") → b ≠ a) : HdAt (But N a) x l := by
  obtain ⟨dx, hs', tk, n, h1, h2⟩ := H
  exact ⟨dx, hs', tk, n, mem_but h1 (hs _ _ h1 (.inl rfl)), mem_but h2 (hs _ _ h2 (.inr rfl))⟩
section
variable {w : World} {A : Around} {E : Value → Shared → Prop} {S : Shared} {h₀ : Heap} {L : Addr} {m : Mp} {N : Led} {s : Shared} {env : Env} {prog : Program} {x l : Addr} {P : Params}
theorem HdAt.butL (F : Fm S h₀ L m N s) {b : Addr} {o : Obj} (H : HdAt N x l) (hb : (b, o) ∈ N) (hc : o.cls = .type "list") : HdAt (But N b) x l :=
  H.but fun c o' hc' hk => F.apart hc' hb fun e => by
    rcases hk with hk | hk <;> rw [hk, hc] at e
    · cases e
    · exact absurd e (by decide +kernel)
theorem RowsIn.butL (F : Fm S h₀ L m N s) {b : Addr} {o : Obj} {vs : List Value} {rs : List (Str × Str)} (H : RowsIn N vs rs) (hb : (b, o) ∈ N) (hc : o.cls = .type "list") : RowsIn (But N b) vs rs :=
  H.but (notTup F hb (by rw [hc]; decide +kernel))
theorem bind202 (v0 v1 : Value) : bindArgs fd202 ⟨[v0, v1], []⟩ = pure [(Str.ofString "self", v0), (Str.ofString "name", v1)] := by kernel_rfl
theorem kinds202 (v0 v1 : Value) : ∀ n, ∀ x ∈ [(Str.ofString "self", v0), (Str.ofString "name", v1)], fd202.scope.names.lookup x.1 = some .local ∨ (fd202.scope.names.lookup x.1 = some .cell ∧ ((cellsFrom n fd202.scope.names []).lookup x.1).isSome = true) := by
  intro n x hx
  rcases hx with _ | ⟨_, _ | ⟨_, hx⟩⟩
  · exact .inl (by show fd202.scope.names.lookup (Str.ofString "self") = _; kernel_rfl)
  · exact .inr ⟨by show fd202.scope.names.lookup (Str.ofString "name") = _; kernel_rfl, by show ((cellsFrom n fd202.scope.names []).lookup (Str.ofString "name")).isSome = true; kernel_rfl⟩
  · cases hx
noncomputable abbrev EC202 (L : Addr) : Env := callEnvC fd202 L 202
theorem ecOk202 (L : Addr) : EnvOk (EC202 L) L := ⟨by kernel_rfl, rfl, rfl, rfl⟩
theorem cells202 (n : Nat) : cellsFrom n fd202.scope.names [] = [(Str.ofString "name", n)] := by kernel_rfl
theorem RowsIn.filterStep {ys : List Value} {rs : List (Str × Str)} {i : Nat} {b : Addr} {r : Str × Str} {t u : Tok} {p : Str × Str → Bool} (h : rs[i]? = some r) (hm : (b, tupO [.str r.1 t, .str r.2 u]) ∈ N) (hy : RowsIn N ys ((rs.take i).filter p)) :
    (p r = true → RowsIn N (ys ++ [.ref b]) ((rs.take (i + 1)).filter p)) ∧ (p r = false → RowsIn N ys ((rs.take (i + 1)).filter p)) := by
  have e : (rs.take (i + 1)).filter p = (rs.take i).filter p ++ (if p r then [r] else []) := by
    rw [List.take_add_one, h, List.filter_append]
    cases hp : p r <;> simp [hp]
  rw [e]
  refine ⟨fun hp => ?_, fun hp => ?_⟩
  · rw [hp]; exact hy.append (.cons hm .nil)
  · rw [hp]; simpa using hy
theorem RowsIn.restrict {N₁ : Led} {vs : List Value} {rs : List (Str × Str)} (h : RowsIn N₁ vs rs) (hs : ∀ b ws, (b, tupO ws) ∈ N₁ → (b, tupO ws) ∈ N) : RowsIn N vs rs := by
  induction h with
  | nil => exact .nil
  | cons h _ ih => exact .cons (hs _ _ h) ih
theorem cellsAll1 {cm : Mp} {n : Str} {c : Addr} {cells : Led} (h : CellsAre cm [(n, c)] cells) : ∀ p ∈ cells, p.1 = c := by
  cases h with
  | cons hd h =>
    cases h
    intro p hp
    rcases List.mem_cons.mp hp with rfl | hp
    · rfl
    · cases hp
/-- __delitem__ -/
theorem del_spec {vs : List Value} {ln : Nat} {rs : List (Str × Str)} {nm : Str} {t : Tok} {Q : Value → Shared → Prop} {n : Nat} (hP : P = w.params) (G : Gd P h₀) (F : Fm S h₀ L m N s) (R : Rm A (n + 3)) (H : HdAt N x l) (hl : (l, lstO vs ln) ∈ N) (hr : RowsIn N vs rs) (hok : OkRows rs) (hn : OkT nm) (hsz : vs.length ≤ 1000)
    (k : ∀ vs' n' s', RowsIn N vs' (rs.filter fun r => low r.1 != low nm) → Fm S h₀ L m ((l, lstO vs' n') :: But N l) s' → Q .none s') : wpAny (model pw w) A (call (.ref 202) [.ref x, .str nm t]) Q E s := by
  subst hP
  refine r_callC (args := ⟨[.ref x, .str nm t], []⟩) (body := bodyD (meth 4)) G F R (ho202 _) hc202 rfl rfl rfl (fun s h => BindsTo.of_eq (bind202 _ _)) (kinds202 _ _) (by decide +kernel) fun g L' s₁ cells G F Y hlt kp bk => ?_
  have hE := ecOk202 L'
  have R := R.deeper (EC202 L')
  rw [cells202] at Y
  obtain ⟨C0, _⟩ := cellsAt1 Y
  have hself : bindL (EC202 L').kindOf [(Str.ofString "self", .ref x), (Str.ofString "name", .str nm t)] (fun _ => none) (Str.ofString "self") = some (.ref x) := by kernel_rfl
  have hname : bindC (EC202 L').kindOf [(Str.ofString "self", .ref x), (Str.ofString "name", .str nm t)] (fun _ => none) (Str.ofString "name") = some (.str nm t) := by kernel_rfl
  rw [hname] at C0
  change wpAny _ (A.deeper (EC202 L')) (execs _ (EC202 L')) _ _ _
  generalize bindL (EC202 L').kindOf [(Str.ofString "self", Value.ref x), (Str.ofString "name", .str nm t)] (fun _ => none) = mL at F hself
  refine wpAny_execs_cons ?_
  refine wpAny_Assign_Name ?_
  refine evM (nL hE F (k202_self L') hself fun pl => hdMeth G F (H.mono fun _ h => List.mem_append.mpr (.inr h)) (fi_convert_string_type _) (fn183 _) ne_convert_string_type ?_)
  refine callConv G ?_
  refine evLower (nC hE F (k202_name L') (by show List.lookup (Str.ofString "name") (cellsFrom (L' + 1) fd202.scope.names []) = some (L' + 1); rw [cells202]; rfl) (C0.mono fun _ h => List.mem_append.mpr (.inl h)) ?_)
  refine ⟨_, _, _, _, _, _, _, rfl, hn, F, fun t s F => ?_⟩
  refine ⟨_, _, _, _, F, fun s F => ?_⟩
  refine conv_spec G F (n := n) R (low_ok hn).1 (low_ok hn).line fun s F => ?_
  refine stC hE F (k202_name L') (by show List.lookup (Str.ofString "name") (cellsFrom (L' + 1) fd202.scope.names []) = some (L' + 1); rw [cells202]; rfl) (C0.mono fun _ h => List.mem_append.mpr (.inl h)) fun o s₂ hod F => ?_
  have FX : Fm S g L' mL (cells ++ N) s := by assumption
  have hcell := C0
  obtain ⟨oc, hoc, hocd⟩ := C0
  have hoc' : (L' + 1, oc) ∈ cells ++ N := List.mem_append.mpr (.inl hoc)
  have old : ∀ p ∈ N, p ∈ But (cells ++ N) (L' + 1) := fun p hp => mem_but (List.mem_append.mpr (.inr hp)) (Nat.ne_of_lt (Nat.lt_succ_of_lt (hlt p hp)))
  generalize hN1 : (L' + 1, o) :: But (cells ++ N) (L' + 1) = N₁ at F
  have sub1 : ∀ p ∈ N, p ∈ N₁ := fun p hp => by rw [← hN1]; exact .tail _ (old p hp)
  have C1 : CellIn N₁ (L' + 1) (some (.str (low nm) t)) := ⟨o, by rw [← hN1]; exact .head _, hod⟩
  have H1 := H.mono sub1
  have hl1 := sub1 _ hl
  have hr1 := hr.mono sub1
  refine wpAny_execs_cons ?_
  refine wpAny_Assign_Subscript ?_
  refine compL (S := S) (h₀ := g) (L := L') R.hd (cl := [(Str.ofString "name", L' + 1)]) (fun i N' ys => N' = N₁ ∧ RowsIn N₁ ys ((rs.take i).filter fun r => low r.1 != low nm)) vs ?_ (by kernel_rfl)
  refine evA (nL hE F (k202_self L') hself ?_)
  refine hdGet G F H1 fun s F => ?_
  refine ⟨l, ln, _, _, rfl, F, hl1, Nat.le_trans hsz (by decide +kernel), ⟨rfl, .nil⟩, ?_, ?_⟩
  · rintro g' C I D i v m N' s o ys dn stay hv ⟨rfl, hys⟩ hle hl' hNI hND hDI ho Fi
    obtain ⟨b, key, vl, t₁, u₁, rfl, e2, e3⟩ := hr1.get hv
    have ok := hok _ (List.mem_of_getElem? e2)
    refine wpAny_assign_Name (st ⟨by kernel_rfl, rfl, rfl, rfl⟩ Fi (by kernel_rfl) fun s F => ?_)
    refine tests1 ?_
    refine wpAny_isTrue_Compare1 ?_
    refine evLower (subC (nL ⟨by kernel_rfl, rfl, rfl, rfl⟩ F (by kernel_rfl) (show up m (Str.ofString "kv") _ (Str.ofString "kv") = _ by unfold up; rw [if_pos rfl]) fun t => ?_))
    have F := F.tk (s.toks + 1)
    refine itTup F (.tail _ (.tail _ e3)) rfl ?_
    refine ⟨_, _, _, _, _, _, _, rfl, ok.1, F, fun t s F => ?_⟩
    refine nC ⟨by kernel_rfl, rfl, rfl, rfl⟩ F (by kernel_rfl) (show List.lookup (Str.ofString "name") [(Str.ofString "name", L' + 1)] = some (L' + 1) from rfl) (C1.mono fun _ h => .tail _ (.tail _ h)) ?_
    refine PyProof.Rows.ne_str ?_
    refine wpAny_truthy_bool ?_
    obtain ⟨f1, f2⟩ := RowsIn.filterStep (p := fun r => low r.1 != low nm) e2 e3 hys
    cases hc : (low key != low nm) with
    | true =>
      rw [if_pos rfl]
      refine nL ⟨by kernel_rfl, rfl, rfl, rfl⟩ F (by kernel_rfl) (show up m (Str.ofString "kv") _ (Str.ofString "kv") = _ by unfold up; rw [if_pos rfl]) ?_
      exact made F hl' hNI hND hDI ⟨rfl, f1 hc⟩
    | false =>
      rw [if_neg Bool.false_ne_true]
      exact made F hl' hNI hND hDI ⟨rfl, f2 hc⟩
  · rintro D N' s ys dn ⟨rfl, hys⟩ hND Fi
    have hlD : l ≠ D := hND _ hl1
    refine evA (nL hE Fi (k202_self L') hself ?_)
    refine hdGet G Fi (H1.mono fun _ h => .tail _ h) fun s F => ?_
    refine wpAny_Slice ?_
    refine pAll _ (pAll _ (pAll _ ?_))
    have F2 := F.push { cls := .type "slice", data := .fields #[.none, .none, .none] }
    have hysl : ys.length ≤ 1000 := by
      rw [hys.length]
      have := List.length_filter_le (fun r => low r.1 != low nm) (rs.take vs.length)
      rw [List.length_take] at this
      omega
    refine setAll F2 (.tail _ (.tail _ hl1)) (.tail _ (.head _)) hlD (Heap.IsSliceOf.new ..) hsz hysl fun n' s F => ?_
    refine wpAny_execs_nil ?_
    have F := bk _ _ _ F
    rw [hr1.length, List.take_length] at hys
    refine k ys n' s ?_ (F.sub fun p hp => ?_)
    · refine hys.restrict fun b ws hb => ?_
      rw [← hN1] at hb
      rcases List.mem_cons.mp hb with e | hb
      · have := (Prod.mk.inj e).2
        rw [← this] at hod
        cases hod
      · obtain ⟨hb, hne⟩ := of_but hb
        rcases List.mem_append.mp hb with hb | hb
        · exact absurd (cellsAll1 Y _ hb) hne
        · exact hb
    · rcases List.mem_cons.mp hp with rfl | hp
      · exact .head _
      · exact .tail _ (mem_but (.tail _ (.tail _ (sub1 _ (of_but hp).1))) (of_but hp).2)
end
end Mine
end
section
open PySem PySem.W PyProof.Rows PySem.Calls PySem.Spec
set_option Elab.async false
set_option maxRecDepth 100000
namespace Mine
set_option maxHeartbeats 8000000 in
theorem pctMeets (n v : Str) (hn : n.length ≤ 16384) (hv : v.length ≤ 16384) (t t₁ t₂ : Tok) (b : Addr) : ∃ T : Str, T = n ++ Str.ofString ": " ++ v ∧
    Meets (Builtin.«str.__mod__» ⟨[.str (Str.mk #[37, 115, 58, 32, 37, 115]) t, .ref b], []⟩) (fun _ R s => IsTup s.heap b #[.str n t₁, .str v t₂] ∧ ∀ t' k, R (.ok (.ret (.str T t'))) { s with toks := k }) := by
  refine Exists.intro ?T (And.intro ?eq ?meets)
  case meets => kpt_run
  case eq => rfl
end Mine
end
section
open PySem PySem.W PyProof.Rows PySem.Calls PySem.Spec
set_option Elab.async false
set_option maxRecDepth 100000
namespace Mine
noncomputable def rowText (r : Str × Str) : Str := r.1 ++ Str.ofString ": " ++ r.2
theorem rowText_len (r : Str × Str) : (rowText r).length = r.1.length + 2 + r.2.length := by
  show ((r.1.cps ++ (Str.ofString ": ").cps) ++ r.2.cps).size = _
  rw [Array.size_append, Array.size_append]
  rfl
noncomputable def crlfT : Str := Str.mk #[13, 10]
section
variable {w : World} {A : Around} {E : Value → Shared → Prop} {S : Shared} {h₀ : Heap} {L : Addr} {m : Mp} {N : Led} {s : Shared} {env : Env} {prog : Program} {x l : Addr} {P : Params}
/-- '%s: %s' % kv -/
theorem pctE {p pos : Pos} {c : _} {Q : Value → Shared → Prop} {e : Expr} (he : wpAny (model prog w) A (eval e env) (fun y s₁ => ∃ S h₀ L m N b n v t₁ t₂, y = .ref b ∧ Fm S h₀ L m N s₁ ∧ (b, tupO [.str n t₁, .str v t₂]) ∈ N ∧ n.length ≤ 16384 ∧ v.length ≤ 16384 ∧ ∀ t s', Fm S h₀ L m N s' → Q (.str (rowText (n, v)) t) s') E { s with toks := s.toks + 1 })  :
    wpAny (model prog w) A (eval (.BinOp (.Constant (.str (Str.mk #[37, 115, 58, 32, 37, 115])) c p) .Mod e pos) env) Q E s := by
  refine wpAny_BinOp (wpAny_Constant_str (wpAny_mono he (fun y s₁ h₁ => ?_) fun _ _ z => z))
  obtain ⟨S, h₀, L, m, N, b, n, v, t₁, t₂, rfl, F, hb, hn, hv, q⟩ := h₁
  obtain ⟨T, rfl, hm⟩ := pctMeets n v hn hv s.toks t₁ t₂ b
  exact KPt.mod_tuple F.nw hb rfl hm fun t' k => q _ _ (F.tk k)
theorem joinOk {sep : Str} {ts : List Str} {B : Nat} (hB : ∀ y ∈ ts, y.length ≤ B) (h : ts.length * B + ts.length * sep.length ≤ 16777216) : JoinOk sep ts = true := by
  unfold JoinOk
  rw [Bool.not_eq_true']
  exact StrLaws.joinFits hB h
/-- sep.join(a list of texts) -/
theorem joinL {sep : Str} {t : Tok} {ln : Nat} {lt : List (Str × Tok)} {B : Nat} {Q : Value → Shared → Prop} (F : Fm S h₀ L m N s) (hl : (l, lstO (strValues lt) ln) ∈ N) (hB : ∀ y ∈ lt.map (·.1), y.length ≤ B) (h : lt.length * B + lt.length * sep.length ≤ 16777216)
    (k : ∀ t s', Fm S h₀ L m N s' → Q (.str (Str.join sep (lt.map (·.1))) t) s') : wpAny (model prog w) A (call (.builtin "str.join") [.str sep t, .ref l]) Q E s := by
  refine SC.join (isLst F hl) rfl (joinOk hB (by rw [List.length_map]; exact h)) fun t' kk => ?_
  have e : Txt.join sep (lt.map (·.1)) = Str.join sep (lt.map (·.1)) := StrLaws.glued_eq_join _ _
  rw [e]
  exact k _ _ (F.tk kk)
noncomputable def setRow (rs : List (Str × Str)) (nm v : Str) : List (Str × Str) := (rs.filter fun r => low r.1 != low nm) ++ [(nm, v)]
/-- __setitem__ -/
theorem set_spec {vs : List Value} {ln : Nat} {rs : List (Str × Str)} {nm vl : Str} {t u : Tok} {Q : Value → Shared → Prop} {n : Nat} (hP : P = w.params) (G : Gd P h₀) (F : Fm S h₀ L m N s) (R : Rm A (n + 4)) (H : HdAt N x l) (hl : (l, lstO vs ln) ∈ N) (hr : RowsIn N vs rs) (hok : OkRows rs) (hn : OkT nm) (hv : OkT vl) (hsz : vs.length ≤ 900)
    (k : ∀ vs' n' N' s', Fm S h₀ L m N' s' → (∀ p ∈ But N l, p ∈ N') → (l, lstO vs' n') ∈ N' → RowsIn N' vs' (setRow rs nm vl) → Q .none s') : wpAny (model pw w) A (call (.ref 197) [.ref x, .str nm t, .str vl u]) Q E s := by
  subst hP
  refine in197 G F R fun g L' s₁ G R F kp bk => ?_
  have hE := ek197 L'
  refine wpAny_execs_cons ?_
  refine delSub ?_
  refine nL hE F (k197_self _) rfl ?_
  refine nL hE F (k197_name _) rfl ?_
  obtain ⟨dx, hs', tk, n', h1, h2⟩ := id H
  refine delItemK F.fr G.X (hdInst F h1 h2) (ns284 _) (fi_delitem _) (fn202 _) ?_
  refine del_spec (n := n) rfl G F R H hl hr hok hn (by omega) fun vs₁ n₁ s₁ hr₁ F₁ => ?_
  have H₁ : HdAt ((l, lstO vs₁ n₁) :: But N l) x l := (H.butL F hl rfl).mono fun p hp => .tail _ hp
  have hr₁' : RowsIn (But N l) vs₁ (rs.filter fun r => low r.1 != low nm) := hr₁.butL F hl rfl
  have hlen : vs₁.length ≤ 900 := by
    rw [hr₁.length]
    refine Nat.le_trans (List.length_filter_le _ _) ?_
    rw [← hr.length]; exact hsz
  refine wpAny_execs_cons ?_
  refine wpAny_Expr_any ?_
  refine evM (evA (nL hE F₁ (k197_self _) rfl (hdGet G F₁ H₁ fun s F => fun pl => gmApp F (.head _) rfl rfl ?_)))
  refine callM1 ?_
  refine Tuple_ (args2 ?_)
  refine evM (nL hE F (k197_self _) rfl fun pl => hdMeth G F H₁ (fi_convert_string_type _) (fn183 _) ne_convert_string_type ?_)
  refine callConv G ?_
  refine nL hE F (k197_name _) rfl ?_
  refine ⟨_, _, _, _, F, fun s F => ?_⟩
  refine conv_spec (n := n) G F (R.le (by omega)) hn.1 hn.line fun s F => ?_
  refine evM (nL hE F (k197_self _) rfl fun pl => hdMeth G F H₁ (fi_convert_string_type _) (fn183 _) ne_convert_string_type ?_)
  refine callConv G ?_
  refine nL hE F (k197_val _) rfl ?_
  refine ⟨_, _, _, _, F, fun s F => ?_⟩
  refine conv_spec (n := n) G F (R.le (by omega)) hv.1 hv.line fun s F => ?_
  refine tupN F fun b s F => ?_
  refine appLst F (.tail _ (.head _)) (Nat.le_trans hlen (by decide +kernel)) fun s F' => ?_
  refine wpAny_execs_nil ?_
  have hbl : b ≠ l := F.apart (.head _) (.tail _ (.head _)) (by show Value.type "tuple" ≠ Value.type "list"; decide +kernel)
  refine k _ _ _ s (bk _ _ _ F') (fun p hp => .tail _ (mem_but (.tail _ (.tail _ hp)) (of_but hp).2)) (.head _) ?_
  unfold setRow
  refine RowsIn.append (hr₁'.mono fun p hp => .tail _ (mem_but (.tail _ (.tail _ hp)) (of_but hp).2)) (.cons (.tail _ (mem_but (.head _) hbl)) .nil)
theorem RowsIn.takeStep {ys : List (Str × Tok)} {rs : List (Str × Str)} {i : Nat} {r : Str × Str} {t : Tok} (h : rs[i]? = some r) (hy : ys.map (·.1) = (rs.take i).map rowText) : (ys ++ [(rowText r, t)]).map (·.1) = (rs.take (i + 1)).map rowText := by
  rw [List.take_add_one, h, List.map_append, List.map_append, hy]; rfl
theorem strValues_app (a b : List (Str × Tok)) : strValues (a ++ b) = strValues a ++ strValues b := by simp [strValues]
/-- __str__ -/
theorem str_spec {vs : List Value} {ln : Nat} {rs : List (Str × Str)} {Q : Value → Shared → Prop} {n : Nat} (hP : P = w.params) (G : Gd P h₀) (F : Fm S h₀ L m N s) (R : Rm A (n + 1)) (H : HdAt N x l) (hl : (l, lstO vs ln) ∈ N) (hr : RowsIn N vs rs) (hok : ∀ r ∈ rs, r.1.length ≤ 1000 ∧ r.2.length ≤ 1000) (hsz : vs.length ≤ 900)
    (k : ∀ t s', Fm S h₀ L m N s' → Q (.str (Str.join crlfT (rs.map rowText ++ [Str.empty, Str.empty])) t) s') : wpAny (model pw w) A (call (.ref 260) [.ref x]) Q E s := by
  subst hP
  refine in260 G F R fun g L' s₁ G R F kp bk => ?_
  have hE := ek260 L'
  refine wpAny_execs_cons ?_
  refine wpAny_Return_some ?_
  refine evM (cS F fun t s F => fun pl => GM.join ?_)
  refine callM1 ?_
  refine wpAny_BinOp ?_
  refine compL (S := S) (h₀ := g) (L := L') R.hd (cl := []) (fun i N' ys => N' = N ∧ ∃ lt, ys = strValues lt ∧ lt.map (·.1) = (rs.take i).map rowText) vs ?_
  refine evA (nL hE F (k260_self _) rfl ?_)
  refine hdGet G F H fun s F => ?_
  refine ⟨l, ln, _, _, rfl, F, hl, Nat.le_trans hsz (by decide +kernel), ⟨rfl, [], rfl, rfl⟩, ?_, ?_⟩
  · rintro g' C I D i v m N' s o ys dn stay hv ⟨rfl, lt, rfl, hlt⟩ hle hl' hNI hND hDI ho Fi
    obtain ⟨b, key, vl, t₁, u₁, rfl, e2, e3⟩ := hr.get hv
    have ok := hok _ (List.mem_of_getElem? e2)
    refine wpAny_assign_Name (st ⟨by kernel_rfl, rfl, rfl, rfl⟩ Fi (by kernel_rfl) fun s F => ?_)
    refine tests0 ?_
    rw [if_pos rfl]
    refine pctE ?_
    have F := F.tk (s.toks + 1)
    refine nL ⟨by kernel_rfl, rfl, rfl, rfl⟩ F (by kernel_rfl) (show up m (Str.ofString "kv") _ (Str.ofString "kv") = _ by unfold up; rw [if_pos rfl]) ?_
    refine ⟨_, _, _, _, _, _, _, _, _, _, rfl, F, .tail _ (.tail _ e3), Nat.le_trans ok.1 (by omega), Nat.le_trans ok.2 (by omega), fun t s F => ?_⟩
    exact made F hl' hNI hND hDI ⟨rfl, lt ++ [(rowText (key, vl), t)], by rw [strValues_app]; rfl, RowsIn.takeStep e2 hlt⟩
  · rintro D N' s ys dn ⟨rfl, lt, rfl, hlt⟩ hND Fi
    rw [hr.length, List.take_length] at hlt
    refine List_ (args2 ?_)
    refine cS Fi fun t₁ s F => ?_
    refine cS F fun t₂ s F => ?_
    refine lstN F fun d s F => ?_
    have hll : lt.length = rs.length := by have := congrArg List.length hlt; simpa using this
    have hrl := hr.length
    refine catLst (ws := strValues [(Str.empty, t₁), (Str.empty, t₂)]) F (.tail _ (.head _)) (.head _) (by simp [strValues, sizeLine]; omega) fun a s F => ?_
    rw [← strValues_app] at F
    refine joinL (B := 2002) (lt := lt ++ [(Str.empty, t₁), (Str.empty, t₂)]) F (.head _) (fun y hy => ?_) ?_ fun t s F => ?_
    · rw [List.map_append, hlt] at hy
      rcases List.mem_append.mp hy with hy | hy
      · obtain ⟨r, hr', rfl⟩ := List.mem_map.mp hy
        have := hok r hr'
        rw [rowText_len]; omega
      · have : y = Str.empty := by
          rcases hy with _ | ⟨_, _ | ⟨_, hy⟩⟩
          · rfl
          · rfl
          · cases hy
        rw [this]; exact Nat.zero_le _
    · show (lt ++ [(Str.empty, t₁), (Str.empty, t₂)]).length * 2002 + (lt ++ [(Str.empty, t₁), (Str.empty, t₂)]).length * 2 ≤ 16777216
      rw [List.length_append, hll]
      show (rs.length + 2) * 2002 + (rs.length + 2) * 2 ≤ 16777216
      omega
    · rw [List.map_append, hlt]
      exact k _ _ ((bk _ _ _ F).sub fun p hp => .tail _ (.tail _ (.tail _ hp)))
/-- str(a Headers) -/
theorem strH {vs : List Value} {ln : Nat} {rs : List (Str × Str)} {Q : Value → Shared → Prop} {n : Nat} (hP : P = w.params) (G : Gd P h₀) (F : Fm S h₀ L m N s) (R : Rm A (n + 2)) (H : HdAt N x l) (hl : (l, lstO vs ln) ∈ N) (hr : RowsIn N vs rs) (hok : ∀ r ∈ rs, r.1.length ≤ 1000 ∧ r.2.length ≤ 1000) (hsz : vs.length ≤ 900)
    (k : ∀ t s', Fm S h₀ L m N s' → Q (.str (Str.join crlfT (rs.map rowText ++ [Str.empty, Str.empty])) t) s') : wpAny (model pw w) A (call (.type "str") [.ref x]) Q E s := by
  subst hP
  obtain ⟨dx, hs', tk, n', h1, h2⟩ := id H
  have R2 : Rm A.in1.in1 (n + 1) := ⟨by show A.depth + (n + 1) < _; have := R.dp; omega, by show A.units + 1 + 1 + 40 * (n + 1) < _; have := R.un; omega, R.hd⟩
  refine kso_call R2.line (G.X.keeps F.fr.keep) (hdInst F h1 h2) (fi_str _) (fn260 _) ?_
  exact str_spec (n := n) rfl G F R2 H hl hr hok hsz fun t s F => k t s F
end
end Mine
end
section
open PySem PySem.W PyProof.Rows PySem.Calls PySem.Spec
set_option Elab.async false
set_option maxRecDepth 100000
namespace Mine
theorem bind281 (v0 v1 v2 : Value) : bindArgs fd281 ⟨[v0, v1, v2], []⟩ = (alloc { cls := .type "dict", data := .dict #[] } >>= fun d => pure [(Str.ofString "self", v0), (Str.ofString "_name", v1), (Str.ofString "_value", v2), (Str.ofString "_params", .ref d)]) := by kernel_rfl
section
variable {w : World} {A : Around} {E : Value → Shared → Prop} {S : Shared} {h₀ : Heap} {L : Addr} {m : Mp} {N : Led} {s : Shared} {env : Env} {prog : Program} {x l : Addr} {P : Params}
theorem in281 {Q : Value → Shared → Prop} {n : Nat} {v0 v1 v2 : Value} (G : Gd P h₀) (F : Fm S h₀ L m N s) (R : Rm A (n + 1))
    (k : ∀ d g L' s₁, Gd P g → Rm (A.deeper (E281 L')) n → Fm S g L' (lk [(Str.ofString "_params", .ref d), (Str.ofString "_value", v2), (Str.ofString "_name", v1), (Str.ofString "self", v0)]) ((d, dictOf [] 0) :: N) s₁ → (∀ p ∈ N, p.1 ≠ d) → (d == sysModules) = false → (∀ s' N' m', Fm S g L' m' N' s' → Fm S h₀ L m N' s') →
      wpAny (model pw w) (A.deeper (E281 L')) (execs (bodyD (meth 16)) (E281 L')) (fun fl s' => Q (retv fl) s') (fun _ _ => False) s₁) :
    wpAny (model pw w) A (call (.ref 281) [v0, v1, v2]) Q E s := by
  have kp := F.fr.keep
  refine wpAny_call (codeAny_call_function R.lim (kp _ _ (G.X _ _ (ho281 P))) rfl (by kernel_rfl) (by kernel_rfl) rfl ((G.codes _ hc281).keeps kp) ?_)
  rw [bind281]
  refine wpAny_bind (wpAny_alloc (wpAny_pure ?_))
  have F1 := F.push (dictOf [] 0)
  have hne := F.ne
  refine wpAny_newFunctionEnv hl281 (locs (by kernel_rfl)) (fun h₁ hns hsb => ⟨((G.nolimit.keeps F1.fr.keep).fresh _ hsb), codeAny_func ?_⟩) (by kernel_rfl)
  have hk : ∀ b o, (s.heap.push (dictOf [] 0)).get? b = some o → h₁.get? b = some o := fun b o e => hsb.extBut b o (Nat.ne_of_lt (Heap.lt_size e)) (Heap.get?_push_of_some _ e)
  obtain ⟨g, FC, stays, back, _⟩ := F1.enter (t := s.toks + 4) (Nat.le_refl _) hns hk
  have hbig : 42 < s.heap.objs.size := Heap.lt_size (kp _ _ (G.X _ _ (show (KF P).lookup 42 = some (o42 P) by kernel_rfl)))
  have hsm : (s.heap.objs.size == sysModules) = false := beq_eq_false_iff_ne.mpr (fun e => by have : s.heap.objs.size = 1 := e; omega)
  refine wpAny_mono (k s.heap.objs.size g _ _ (G.keeps stays) (R.deeper _) FC hne hsm fun s' N' m' F' => (back s' N' m' F').1) (fun fl s' q => ?_) fun _ _ y => y.elim
  unfold retv at q; exact q
/-- for .. in an empty dict's items: nothing -/
theorem forNone {target : Expr} {e : Expr} {p cp pos : Pos} {body : List Stmt} {d : Addr} {Q : Flow → Shared → Prop} (hh : A.handled = none) (F : Fm S h₀ L m N s) (hd : (d, dictOf [] 0) ∈ N) (hsm : (d == sysModules) = false)
    (he : ∀ Q' : Value → Shared → Prop, (∀ s', Fm S h₀ L m N s' → Q' (.ref d) s') → wpAny (model prog w) A (eval e env) Q' E s) (k : ∀ s', Fm S h₀ L m N s' → Q .next s')
    (hb : attributeBase e (Str.ofString "items") env (eval e env) = eval e env := by rfl) (hl : (p.endLine == cp.line) = true := by rfl) (hs : ∀ x, foldedSetIterable (.Call (.Attribute e (Str.ofString "items") p) [] [] cp) env x = pure x := by intro _; rfl) :
    wpAny (model prog w) A (exec (.For target (.Call (.Attribute e (Str.ofString "items") p) [] [] cp) body [] pos) env) Q E s := by
  refine wpAny_For ?_ hs
  refine evM (he _ fun s F => fun pl => ?_) hb rfl hl
  refine getMethod_builtin ⟨_, F.get hd, rfl⟩ PySem.F.plainAttrs_dict PySem.F.slot_dict_items PySem.F.type_dict_items (fun b e => by cases e; exact ⟨_, F.get hd, rfl⟩) ?_
  refine callM0 ?_
  have D0 : ∀ {s' : Shared}, Fm S h₀ L m N s' → s'.heap.DictAt (PySem.strKind prog w) d [] 0 := fun F' => ⟨_, _, F'.get hd, ⟨rfl, rfl, rfl⟩, rfl, fun e he => by simp at he, .nil, List.nodup_nil⟩
  refine call_meetsIn PySem.F.slot_dict_items ⟨_, F.get hd, rfl⟩ PySem.F.entry_dict_items (PySem.F.args_dict_items_1 _) (meets_dict_items (PySem.strKind prog w) d hsm) ⟨⟨[], let ⟨o, es, a, b, c, x, y, z⟩ := D0 F; ⟨o, es, 0, a, b, c, x, y, z⟩⟩, ?_⟩
  have F1 := F.push { cls := .type "dict_items", data := .fields #[.ref d] }
  refine wpAny_pyIter_items (knd := PySem.strKind prog w) (d := d) (kvs := []) (ep := 0) ⟨_, F1.get (.head _), rfl, rfl⟩ (D0 (F1.sub fun p hp => .tail _ hp)) ?_
  have F2 := F1.push { cls := .type "dict_itemiterator", data := .fields #[.none, .bool false, .ref d, .int 0 0, .int (0 : Nat) 0, .int (0 : Nat) 0, .none, .none] }
  have hne := F1.ne
  refine codeAny_of_tree ?_
  rw [Around.under_of_weight rfl rfl]
  show wpAny _ _ ((forTurn target (.ref _) body [] env).onRaise _) _ _ _
  refine wpAny_onRaise (wpAny_mono (E := noE) ?_ (fun fin s' h => h) fun _ _ h => h.elim)
  unfold forTurn
  refine wpAny_bind (wpAny_standAt (wpAny_bind (wpAny_onRaise (wpAny_mono (E := noE) ?_ (fun _ _ h => h) fun _ _ h => h.elim))))
  refine wpAny_pyNext_items_end (knd := PySem.strKind prog w) (i := 0) (kvs := []) hh (F2.get (.head _)) (D0 (F2.sub fun p hp => .tail _ (.tail _ hp))) rfl fun h' eb => ?_
  have F3 := F2.drop (fun p hp => hne p hp) eb
  refine wpAny_pure ⟨rfl, codeAny_of_tree ?_⟩
  rw [Around.under_of_weight rfl rfl]
  show wpAny _ _ ((execs [] env).onRaise _ >>= _) _ _ _
  refine wpAny_bind (wpAny_onRaise (wpAny_execs_nil ?_))
  exact wpAny_pure (k _ (F3.sub fun p hp => .tail _ hp))
theorem lstNf {vs : List Value} {Q : Value → Shared → Prop} {M : Model} (F : Fm S h₀ L m N s) (k : ∀ a s', (∀ p ∈ N, p.1 ≠ a) → Fm S h₀ L m ((a, lstO vs) :: N) s' → Q (.ref a) s') (hs : vs.length ≤ sizeLine := by exact Nat.le_of_ble_eq_true rfl) : wpAny M A (newList vs) Q E s :=
  wpAny_newList (k _ _ F.ne (F.push _)) hs
theorem tupNf {vs : List Value} {Q : Value → Shared → Prop} {M : Model} (F : Fm S h₀ L m N s) (k : ∀ a s', (∀ p ∈ N, p.1 ≠ a) → Fm S h₀ L m ((a, tupO vs) :: N) s' → Q (.ref a) s') (hs : vs.length ≤ sizeLine := by exact Nat.le_of_ble_eq_true rfl) : wpAny M A (newTuple vs) Q E s :=
  wpAny_newTuple (k _ _ F.ne (F.push _)) hs
/-- add_header -/
theorem add_spec {vs : List Value} {ln : Nat} {nm vl : Str} {t u : Tok} {Q : Value → Shared → Prop} {n : Nat} (hP : P = w.params) (G : Gd P h₀) (F : Fm S h₀ L m N s) (R : Rm A (n + 3)) (H : HdAt N x l) (hl : (l, lstO vs ln) ∈ N) (hn : OkT nm) (hv : OkT vl) (hsz : vs.length ≤ 900)
    (k : ∀ b n' N' s' u', Fm S h₀ L m N' s' → (∀ p ∈ But N l, p ∈ N') → (l, lstO (vs ++ [.ref b]) n') ∈ N' → (b, tupO [.str nm t, .str vl u']) ∈ N' → (∀ p ∈ N, p.1 ≠ b) → Q .none s') : wpAny (model pw w) A (call (.ref 281) [.ref x, .str nm t, .str vl u]) Q E s := by
  subst hP
  refine in281 G F R fun d g L' s₁ G R F hdN hsm bk => ?_
  have hE := ek281 L'
  have H1 := H.mono fun p hp => List.mem_cons_of_mem (d, dictOf [] 0) hp
  refine wpAny_execs_cons ?_
  refine wpAny_Assign_Name ?_
  refine List_ (spliced_nil ?_)
  refine lstNf F fun pl' s hpl F => ?_
  refine st hE F (k281_parts _) fun s F => ?_
  rw [up_lk] at F
  refine wpAny_execs_cons ?_
  refine wpAny_If ?_
  refine wpAny_isTrue_Compare1 ?_
  refine nL hE F (k281_p_value _) rfl ?_
  refine wpAny_Constant_none ?_
  refine wpAny_isNot_other rfl (fun e => by cases e) ?_
  refine wpAny_truthy_bool ?_
  refine wpAny_execs_cons ?_
  refine wpAny_Assign_Name ?_
  refine evM (nL hE F (k281_self _) rfl fun pl => hdMeth G F (H1.mono fun _ h => .tail _ h) (fi_convert_string_type _) (fn183 _) ne_convert_string_type ?_)
  refine callConv G ?_
  refine nL hE F (k281_p_value _) rfl ?_
  refine ⟨_, _, _, _, F, fun s F => ?_⟩
  refine conv_spec (n := n) G F (R.le (by omega)) hv.1 hv.line fun s F => ?_
  refine st hE F (k281_p_value _) fun s F => ?_
  rw [up_lk] at F
  refine wpAny_execs_cons ?_
  refine wpAny_Expr_any ?_
  refine evM (nL hE F (k281_parts _) rfl fun pl => gmApp F (.head _) rfl rfl ?_)
  refine callM1 ?_
  refine nL hE F (k281_p_value _) rfl ?_
  refine appLst F (.head _) (Nat.zero_le _) fun s F => ?_
  have e1 : But ((pl', lstO []) :: (d, dictOf [] 0) :: N) pl' = (d, dictOf [] 0) :: N := but_cons fun p hp => hpl p hp
  rw [e1] at F
  have sub : ∀ p ∈ N, p ∈ (pl', lstO [.str vl u] 1) :: (d, dictOf [] 0) :: N := fun p hp => .tail _ (.tail _ hp)
  change Fm _ _ _ _ ((pl', lstO [.str vl u] 1) :: (d, dictOf [] 0) :: N) _ at F
  refine wpAny_execs_nil ?_
  refine wpAny_execs_cons ?_
  refine forNone R.hd F (.tail _ (.head _)) hsm (fun Q' q => nL hE F (k281_p_params _) rfl (q _ F)) fun s F => ?_
  refine wpAny_execs_cons ?_
  refine wpAny_Expr_any ?_
  refine evM (evA (nL hE F (k281_self _) rfl (hdGet G F (H.mono sub) fun s F => fun pl => gmApp F (sub _ hl) rfl rfl ?_)))
  refine callM1 ?_
  refine Tuple_ (args2 ?_)
  refine evM (nL hE F (k281_self _) rfl fun pl => hdMeth G F (H.mono sub) (fi_convert_string_type _) (fn183 _) ne_convert_string_type ?_)
  refine callConv G ?_
  refine nL hE F (k281_p_name _) rfl ?_
  refine ⟨_, _, _, _, F, fun s F => ?_⟩
  refine conv_spec (n := n) G F (R.le (by omega)) hn.1 hn.line fun s F => ?_
  refine evM (cS F fun t s F => fun pl => GM.join ?_)
  refine callM1 ?_
  refine nL hE F (k281_parts _) rfl ?_
  refine joinL (lt := [(vl, u)]) (B := 16384) F (.head _) (fun y hy => ?_) (by show 1 * 16384 + 1 * 2 ≤ 16777216; omega) fun u' s F => ?_
  · rcases hy with _ | ⟨_, hy⟩
    · exact hv.2
    · cases hy
  refine tupNf F fun b s hb F => ?_
  refine appLst F (.tail _ (sub _ hl)) (Nat.le_trans hsz (by decide +kernel)) fun s F' => ?_
  refine wpAny_execs_nil ?_
  have hbl : b ≠ l := fun e => hb _ (sub _ hl) e.symm
  refine k b _ _ s u' (bk _ _ _ F') (fun p hp => .tail _ (mem_but (.tail _ (sub _ (of_but hp).1)) (of_but hp).2)) (.head _) (.tail _ (mem_but (.head _) hbl)) fun p hp => hb _ (sub _ hp)
end
end Mine
end
section
open PySem PySem.W PyProof.Rows PySem.Calls PySem.Spec
set_option Elab.async false
set_option maxRecDepth 100000
namespace Mine
theorem entry_ha : entryFor table "hasattr" = some Builtin.«hasattr» := entryFor_of_tree (by kernel_rfl)
theorem kind_ha : builtinKind "hasattr" = none := by decide +kernel
theorem plain_ha : plainId "hasattr" = true := by decide +kernel
theorem args_ha (a b : Value) : argsOk "hasattr" ⟨[a, b], []⟩ := by unfold argsOk; kernel_rfl
theorem lk_gi : typeLookup (.type "list") "__getitem__" = pure (some (.builtin "list.__getitem__")) := by rw [typeLookup_type, builtinLookup_eq_fast]; kernel_rfl
theorem lk_ga : typeLookup (.type "list") "__getattribute__" = pure (some (.builtin "list.__getattribute__")) := by rw [typeLookup_type, builtinLookup_eq_fast]; kernel_rfl
section
variable {w : World} {A : Around} {E : Value → Shared → Prop} {S : Shared} {h₀ : Heap} {L : Addr} {m : Mp} {N : Led} {s : Shared} {env : Env} {prog : Program} {x l : Addr} {P : Params}
theorem slot_md_get : Slot "method_descriptor" "__get__" "method_descriptor.__get__" :=
  .of (owner := "method_descriptor") (n := "__get__") (by rw [typeLookup_type, builtinLookup_eq_fast]; kernel_rfl) (by decide +kernel) (by decide +kernel) (by decide +kernel)
    (by first | exact .inl (by decide +kernel) | exact .inr (by decide +kernel)) (by rw [isSubtype_type]; kernel_rfl)
theorem lk_md_set : typeLookup (.type "method_descriptor") "__set__" = pure none := by rw [typeLookup_type, builtinLookup_eq_fast]; kernel_rfl
theorem lk_md_del : typeLookup (.type "method_descriptor") "__delete__" = pure none := by rw [typeLookup_type, builtinLookup_eq_fast]; kernel_rfl
theorem entry_md_get : entryFor table "method_descriptor.__get__" = some Builtin.«method_descriptor.__get__» := entryFor_of_tree (by kernel_rfl)
theorem args_md_get (a b c : Value) : argsOk "method_descriptor.__get__" ⟨[a, b, c], []⟩ := by unfold argsOk; kernel_rfl
theorem type_gi : typeOf (.builtin "list.__getitem__") = pure (.type "method_descriptor") := by show builtinType _ = _; rw [builtinType_eq_fast]; kernel_rfl
theorem mdGet {vs : List Value} {ln : Nat} {Q : Fin → Shared → Prop} (hx : s.heap.get? l = some (lstO vs ln)) (k : ∀ v s', (∀ b o, s.heap.get? b = some o → s'.heap.get? b = some o) → s'.gens = s.gens → s'.os = s.os → Q (.done (.ret (.ref v))) s') :
    wpAny (model prog w) A (Builtin.«method_descriptor.__get__» ⟨[.builtin "list.__getitem__", .ref l, .type "list"], []⟩) Q E s := by
  have hT : s.TypeIs (.ref l) "list" := ⟨_, hx, rfl⟩
  unfold Builtin.«method_descriptor.__get__»
  refine wpAny_bind (wpAny_of_eq (a := (.builtin "list.__getitem__", some (.ref l), some (.type "list"))) (by first | rfl | kernel_rfl) ?_)
  have f9 : Manifest.toldItsClass.contains "list.__getitem__" = false := by decide +kernel
  have f8 : isSubtype (.type "list") (.type "list") = pure true := by rw [isSubtype_type]; kernel_rfl
  dsimp only
  rw [f9]
  simp only [Bool.false_eq_true, if_false]
  refine wpAny_bind ?_
  refine wpAny_bind (wpAny_of_eq (a := (Str.ofString "__getitem__", .type "list")) (by first | rfl | kernel_rfl) ?_)
  refine wpAny_bind (wpAny_isInstance hT f8 ?_)
  refine wpAny_pure ?_
  exact wpAny_bind (wpAny_newObj_type (wpAny_pure (k _ _ (fun b o e => Heap.get?_push_of_some _ e) rfl rfl)))
theorem giEntry {tk : Tok} {vs : List Value} {ln : Nat} {Q : Fin → Shared → Prop} (hx : s.heap.get? l = some (lstO vs ln)) (k : ∀ v s', (∀ b o, s.heap.get? b = some o → s'.heap.get? b = some o) → s'.gens = s.gens → s'.os = s.os → Q (.done (.ret (.ref v))) s') :
    wpAny (model prog w) A (Builtin.«object.__getattribute__» ⟨[.ref l, .str (Str.ofString "__getitem__") tk], []⟩) Q E s := by
  have hT : s.TypeIs (.ref l) "list" := ⟨_, hx, rfl⟩
  have hT5 : s.TypeIs (.builtin "list.__getitem__") "method_descriptor" := type_gi
  have f1 := lk_gi
  have f4 := type_gi
  have f5 := slot_md_get.lookup
  have f6 := lk_md_set
  have f7 := lk_md_del
  repeat (any_goals (first | assumption | wp_step))
  refine codeAny_call_builtin slot_md_get.plain entry_md_get (slot_md_get.check _ _ _ _ _ _ _ _ hT5 (args_md_get _ _ _) ?_)
  refine mdGet hx fun v s' a b c => ?_
  exact wpAny_pure (k v s' a b c)
theorem hasGi {tk : Tok} {vs : List Value} {ln : Nat} {Q : Value → Shared → Prop} (hx : s.heap.get? l = some (lstO vs ln)) (k : ∀ s', (∀ b o, s.heap.get? b = some o → s'.heap.get? b = some o) → s'.gens = s.gens → s'.os = s.os → Q (.bool true) s') :
    wpAny (model prog w) A (call (.builtin "hasattr") [.ref l, .str (Str.ofString "__getitem__") tk]) Q E s := by
  have hT : s.TypeIs (.ref l) "list" := ⟨_, hx, rfl⟩
  refine Calls.call_function_entry kind_ha plain_ha entry_ha (args_ha _ _) ?_
  have f1 := lk_gi
  have f2 := lk_ga
  have f3 : typeOf (.builtin "list.__getitem__") = pure (.type "method_descriptor") := by show builtinType _ = _; rw [builtinType_eq_fast]; kernel_rfl
  have f4 : isSubtype (.type "list") (.type "module") = pure false := by rw [isSubtype_type]; kernel_rfl
  have f5 := PySem.F.slot_list_getattribute.lookup
  have f6 := PySem.F.slot_list_getattribute.bind (.ref l)
  repeat (any_goals (first | assumption | wp_step))
  refine codeAny_call_builtin PySem.F.slot_list_getattribute.plain PySem.F.entry_list_ga (PySem.F.slot_list_getattribute.check _ _ _ _ _ _ _ _ hT (PySem.F.args_list_getattribute_2 _ _) ?_)
  refine giEntry hx fun v s' a b c => ?_
  have kk := k s' a b c
  repeat (any_goals (first | assumption | wp_step))
  exact ⟨_, rfl, kk⟩
end
end Mine
end
section
open PySem PySem.W PyProof.Rows PySem.Calls PySem.Spec
set_option Elab.async false
set_option maxRecDepth 100000
namespace Mine
section
variable {w : World} {A : Around} {E : Value → Shared → Prop} {S : Shared} {h₀ : Heap} {L : Addr} {m : Mp} {N : Led} {s : Shared} {env : Env} {prog : Program} {x l : Addr} {P : Params}
theorem opAdd {a b : Int} {t u : Tok} {Q : Value → Shared → Prop} {n : Nat} (G : Gd P h₀) (F : Fm S h₀ L m N s) (R : Rm A (n + 1)) (k : ∀ t s', Fm S h₀ L m N s' → Q (.int (a + b) t) s') : wpAny (model pw w) A (call (.ref 81) [.int a t, .int b u]) Q E s := by
  refine in81 G F R fun g L' s₁ G R F kp bk => ?_
  have hE := ek81 L'
  refine wpAny_execs_cons ?_
  refine wpAny_Return_some ?_
  refine wpAny_BinOp ?_
  refine nL hE F (k81_a _) rfl ?_
  refine nL hE F (k81_b _) rfl ?_
  exact PyProof.Rows.add_int (k _ _ ((bk _ _ _ F).tk _))
theorem opSub {a b : Int} {t u : Tok} {Q : Value → Shared → Prop} {n : Nat} (G : Gd P h₀) (F : Fm S h₀ L m N s) (R : Rm A (n + 1)) (k : ∀ t s', Fm S h₀ L m N s' → Q (.int (a - b) t) s') : wpAny (model pw w) A (call (.ref 95) [.int a t, .int b u]) Q E s := by
  refine in95 G F R fun g L' s₁ G R F kp bk => ?_
  have hE := ek95 L'
  refine wpAny_execs_cons ?_
  refine wpAny_Return_some ?_
  refine wpAny_BinOp ?_
  refine nL hE F (k95_a _) rfl ?_
  refine nL hE F (k95_b _) rfl ?_
  exact PyProof.Rows.sub_int (k _ _ ((bk _ _ _ F).tk _))
theorem opMul {a b : Int} {t u : Tok} {Q : Value → Shared → Prop} {n : Nat} (G : Gd P h₀) (F : Fm S h₀ L m N s) (R : Rm A (n + 1)) (hm : IntMulOk a b) (k : ∀ t s', Fm S h₀ L m N s' → Q (.int (a * b) t) s') : wpAny (model pw w) A (call (.ref 88) [.int a t, .int b u]) Q E s := by
  refine in88 G F R fun g L' s₁ G R F kp bk => ?_
  have hE := ek88 L'
  refine wpAny_execs_cons ?_
  refine wpAny_Return_some ?_
  refine wpAny_BinOp ?_
  refine nL hE F (k88_a _) rfl ?_
  refine nL hE F (k88_b _) rfl ?_
  exact PyProof.Rows.mul_int (k _ _ ((bk _ _ _ F).tk _)) hm
theorem opXor {a b : Int} {t u : Tok} {Q : Value → Shared → Prop} {n : Nat} (G : Gd P h₀) (F : Fm S h₀ L m N s) (R : Rm A (n + 1)) (k : ∀ t s', Fm S h₀ L m N s' → Q (.int (Builtin.bitXor a b) t) s') : wpAny (model pw w) A (call (.ref 102) [.int a t, .int b u]) Q E s := by
  refine in102 G F R fun g L' s₁ G R F kp bk => ?_
  have hE := ek102 L'
  refine wpAny_execs_cons ?_
  refine wpAny_Return_some ?_
  refine wpAny_BinOp ?_
  refine nL hE F (k102_a _) rfl ?_
  refine nL hE F (k102_b _) rfl ?_
  exact PyProof.Rows.xor_int (k _ _ ((bk _ _ _ F).tk _))
theorem opGet {vs : List Value} {ln : Nat} {rs : List (Str × Str)} {nm : Str} {t : Tok} {Q : Value → Shared → Prop} {n : Nat} (hP : P = w.params) (G : Gd P h₀) (F : Fm S h₀ L m N s) (R : Rm A (n + 6)) (H : HdAt N x l) (hl : (l, lstO vs ln) ∈ N) (hr : RowsIn N vs rs) (hok : OkRows rs) (hn : OkT nm)
    (k : ∀ v s', Fm S h₀ L m N s' → (match lookRow rs (low nm) with | some y => IsTx v y | none => v = .none) → Q v s') : wpAny (model pw w) A (call (.ref 123) [.ref x, .str nm t]) Q E s := by
  subst hP
  refine in123 G F R fun g L' s₁ G R F kp bk => ?_
  have hE := ek123 L'
  obtain ⟨dx, hs', tk, n', h1, h2⟩ := id H
  refine wpAny_execs_cons ?_
  refine wpAny_Return_some ?_
  refine Subscript_ ?_
  refine nL hE F (k123_a _) rfl ?_
  refine nL hE F (k123_b _) rfl ?_
  refine sub_K F.fr G.X (hdInst F h1 h2) (fi_getitem _) (by kernel_rfl) (fn209 _) ?_
  exact getitem_spec (n := n) rfl G F R.in1 H hl hr hok hn fun v s F q => k v s (bk _ _ _ F) q
theorem opSet {vs : List Value} {ln : Nat} {rs : List (Str × Str)} {nm vl : Str} {t u : Tok} {Q : Value → Shared → Prop} {n : Nat} (hP : P = w.params) (G : Gd P h₀) (F : Fm S h₀ L m N s) (R : Rm A (n + 5)) (H : HdAt N x l) (hl : (l, lstO vs ln) ∈ N) (hr : RowsIn N vs rs) (hok : OkRows rs) (hn : OkT nm) (hv : OkT vl) (hsz : vs.length ≤ 900)
    (k : ∀ vs' n' N' s', Fm S h₀ L m N' s' → (∀ p ∈ But N l, p ∈ N') → (l, lstO vs' n') ∈ N' → RowsIn N' vs' (setRow rs nm vl) → Q .none s') : wpAny (model pw w) A (call (.ref 130) [.ref x, .str nm t, .str vl u]) Q E s := by
  subst hP
  refine in130 G F R fun g L' s₁ G R F kp bk => ?_
  have hE := ek130 L'
  obtain ⟨dx, hs', tk, n', h1, h2⟩ := id H
  refine wpAny_execs_cons ?_
  refine wpAny_Assign_Subscript ?_
  refine nL hE F (k130_c _) rfl ?_
  refine nL hE F (k130_a _) rfl ?_
  refine nL hE F (k130_b _) rfl ?_
  refine ksp_setItem F.fr G.X (hdInst F h1 h2) (ns284 _) (fi_setitem _) (fn197 _) ?_
  refine set_spec (n := n) rfl G F R H hl hr hok hn hv hsz fun vs' n' N' s' F h1 h2 h3 => ?_
  refine wpAny_execs_nil ?_
  exact k vs' n' N' s' (bk _ _ _ F) h1 h2 h3
theorem opDel {vs : List Value} {ln : Nat} {rs : List (Str × Str)} {nm : Str} {t : Tok} {Q : Value → Shared → Prop} {n : Nat} (hP : P = w.params) (G : Gd P h₀) (F : Fm S h₀ L m N s) (R : Rm A (n + 4)) (H : HdAt N x l) (hl : (l, lstO vs ln) ∈ N) (hr : RowsIn N vs rs) (hok : OkRows rs) (hn : OkT nm) (hsz : vs.length ≤ 1000)
    (k : ∀ vs' n' s', RowsIn N vs' (rs.filter fun r => low r.1 != low nm) → Fm S h₀ L m ((l, lstO vs' n') :: But N l) s' → Q .none s') : wpAny (model pw w) A (call (.ref 116) [.ref x, .str nm t]) Q E s := by
  subst hP
  refine in116 G F R fun g L' s₁ G R F kp bk => ?_
  have hE := ek116 L'
  obtain ⟨dx, hs', tk, n', h1, h2⟩ := id H
  refine wpAny_execs_cons ?_
  refine delSub ?_
  refine nL hE F (k116_a _) rfl ?_
  refine nL hE F (k116_b _) rfl ?_
  refine delItemK F.fr G.X (hdInst F h1 h2) (ns284 _) (fi_delitem _) (fn202 _) ?_
  refine del_spec (n := n) rfl G F R H hl hr hok hn hsz fun vs' n' s' h F => ?_
  refine wpAny_execs_nil ?_
  exact k vs' n' s' h (bk _ _ _ F)
theorem bind138 (x : Value) (s : Shared) (h : (KF P).In s.heap) : BindsTo s fd138 ⟨[x], []⟩ [(Str.ofString "obj", x), (Str.ofString "default", .int 0 456)] :=
  BindsTo.of_defaults (T := 131) rfl (h _ _ (show (KF P).lookup 131 = some (o131 P) by kernel_rfl)) rfl rfl (by kernel_rfl)
theorem opHint {vs : List Value} {ln : Nat} {Q : Value → Shared → Prop} {n : Nat} (hP : P = w.params) (G : Gd P h₀) (F : Fm S h₀ L m N s) (R : Rm A (n + 3)) (H : HdAt N x l) (hl : (l, lstO vs ln) ∈ N) (hs : vs.length ≤ 2 ^ 60)
    (k : ∀ t s', Fm S h₀ L m N s' → Q (.int vs.length t) s') : wpAny (model pw w) A (call (.ref 138) [.ref x]) Q E s := by
  subst hP
  refine r_call (args := ⟨[.ref x], []⟩) (body := bodyD (top 19)) G F R (ho138 _) hc138 rfl rfl (fun s h => bind138 _ s h) hl138 (locs (by kernel_rfl)) fun g L' s₁ G F kp bk => ?_
  have hE := ek138 L'
  have R := R.deeper (E138 L')
  refine wpAny_execs_cons ?_
  refine wpAny_If ?_
  refine wpAny_isTrue_Not ?_
  refine wpAny_isTrue_value ?_
  refine callGb hE G F (k138_isinstance _) b_isinstance bb_isinstance ?_
  refine args2 ?_
  refine nL hE F (k138_default _) rfl ?_
  refine nB hE G F (k138_int _) b_int bb_int ?_
  refine call_isinstance (isinstance_true (Tx := "int") (T := "int") rfl (by rw [isSubtype_type]; kernel_rfl)) ⟨typeIs_int _ _ _, ?_⟩
  refine wpAny_truthy_bool ?_
  refine wpAny_execs_nil ?_
  refine wpAny_execs_cons ?_
  refine wpAny_Try_except ?_
  refine wpAny_execs_cons ?_
  refine wpAny_Return_some ?_
  refine callGb hE G F (k138_len _) b_len bb_len ?_
  refine args1 ?_
  refine nL hE F (k138_obj _) rfl ?_
  refine lenH (n := n) rfl G F R H hl hs fun t s F => ?_
  exact k _ _ (bk _ _ _ F)
end
end Mine
end
section
open PySem PySem.W PyProof.Rows PySem.Calls PySem.Spec
set_option Elab.async false
set_option maxRecDepth 100000
namespace Mine
theorem lenOf (l : List Nat) : (strOf l).cps.size = l.length := by show (l.toArray).size = _; simp
section
variable {w : World} {A : Around} {E : Value → Shared → Prop} {S : Shared} {h₀ : Heap} {L : Addr} {m : Mp} {N : Led} {s : Shared} {env : Env} {prog : Program} {x l : Addr} {P : Params}
theorem fixSize (x : Str) : (fixS x).cps.size ≤ 2 * x.cps.size := by
  unfold fixS
  rw [lenOf]
  have := fixL_len x.cps.toList
  rw [Array.length_toList] at this
  exact this
/-- _fix_eols -/
theorem fix_spec {x : Str} {t : Tok} {Q : Value → Shared → Prop} {n : Nat} (G : Gd P h₀) (F : Fm S h₀ L m N s) (R : Rm A (n + 1)) (hx : x.cps.size ≤ 2 ^ 20) (k : ∀ t' s', Fm S h₀ L m N s' → Q (.str (fixS x) t') s') :
    wpAny (model pw w) A (call (.ref 74) [.str x t]) Q E s := by
  refine in74 G F R fun g L' s₁ G R F kp bk => ?_
  have hE := ek74 L'
  obtain ⟨⟨p, f, hpt⟩, hcc⟩ := at53 G
  refine wpAny_execs_cons ?_
  refine wpAny_Return_some ?_
  refine evM (nG hE G F (k74_twin_re_3 _) g_twin_re_3 fun pl => gmRx F hpt slot_rx_sub type_rx_sub ?_)
  refine callM2 ?_
  refine nG hE G F (k74_CRLF _) g_CRLF ?_
  refine nL hE F (k74_data _) rfl ?_
  refine sub3 G F hx fun t' s F => ?_
  exact k _ _ (bk _ _ _ F)
/-- quotedata -/
theorem quote_spec {x : Str} {t : Tok} {Q : Value → Shared → Prop} {n : Nat} (G : Gd P h₀) (F : Fm S h₀ L m N s) (R : Rm A (n + 1)) (hx : x.cps.size ≤ 2 ^ 19) (k : ∀ t' s', Fm S h₀ L m N s' → Q (.str (quoS (fixS x)) t') s') :
    wpAny (model pw w) A (call (.ref 60) [.str x t]) Q E s := by
  refine in60 G F R fun g L' s₁ G R F kp bk => ?_
  have hE := ek60 L'
  obtain ⟨⟨p, f, hpt⟩, hcc⟩ := at43 G
  obtain ⟨⟨p', f', hpt'⟩, hcc'⟩ := at53 G
  refine wpAny_execs_cons ?_
  refine wpAny_Return_some ?_
  refine evM (nG hE G F (k60_twin_re_1 _) g_twin_re_1 fun pl => gmRx F hpt slot_rx_sub type_rx_sub ?_)
  refine callM2 ?_
  refine cS F fun t s F => ?_
  refine evM (nG hE G F (k60_twin_re_3 _) g_twin_re_3 fun pl => gmRx F hpt' slot_rx_sub type_rx_sub ?_)
  refine callM2 ?_
  refine nG hE G F (k60_CRLF _) g_CRLF ?_
  refine nL hE F (k60_data _) rfl ?_
  refine sub3 G F (by omega) fun t' s F => ?_
  have := fixSize x
  refine sub1 G F (by omega) fun t' s F => ?_
  exact k _ _ (bk _ _ _ F)
end
end Mine
end
section
open PySem PySem.W PyProof.Rows PySem.Calls PySem.Spec PySem.Builtin PySem.Builtin.Re
set_option Elab.async false
set_option maxRecDepth 100000
namespace Mine
theorem lk_buf : typeLookup (.type "bytes") "__buffer__" = pure (some (.builtin "bytes.__buffer__")) := by rw [typeLookup_type, builtinLookup_eq_fast]; kernel_rfl
theorem lk_rel : typeLookup (.type "bytes") "__release_buffer__" = pure none := by rw [typeLookup_type, builtinLookup_eq_fast]; kernel_rfl
section
variable {w : World} {A : Around} {E : Value → Shared → Prop} {S : Shared} {h₀ : Heap} {L : Addr} {m : Mp} {N : Led} {s : Shared} {env : Env} {prog : Program} {x l : Addr} {P : Params}
theorem typeIs_by (s : Shared) (b : Array UInt8) (t : Tok) : s.TypeIs (.bytes b t) "bytes" := by first | exact typeIs_bytes s b t | rfl
theorem slotOwn {b : Array UInt8} {t : Tok} {Q : Bool → Shared → Prop} (k : Q true s) : wpAny (model prog w) A (Bytes.slotIsOwn (.bytes b t) "__buffer__") Q E s := by
  unfold Bytes.slotIsOwn
  refine wpAny_bind (wpAny_specialOf (typeIs_by s b t) lk_buf ?_)
  dsimp only
  rw [if_neg (show ¬ ((!("bytes.__buffer__".endsWith ("." ++ "__buffer__"))) = true) by decide +kernel)]
  rw [show "bytes.__buffer__".dropRight ("__buffer__".length + 1) = "bytes" by decide +kernel]
  exact wpAny_isInstance (typeIs_by s b t) (by rw [isSubtype_type]; kernel_rfl) k
theorem relOwn {b : Array UInt8} {t : Tok} {Q : Bool → Shared → Prop} (k : Q false s) : wpAny (model prog w) A (Bytes.ownRelease (.bytes b t)) Q E s := by
  unfold Bytes.ownRelease Bytes.slotIsOwn
  exact wpAny_bind (wpAny_bind (wpAny_specialOf (typeIs_by s b t) lk_rel (wpAny_pure (wpAny_pure k))))
theorem bufQ {id : String} {b : Array UInt8} {t : Tok} {full : Bool} {Q : Option (Array UInt8) → Shared → Prop} (k : Q (some b) s) : wpAny (model prog w) A (Bytes.buffer? id (.bytes b t) full) Q E s := by
  unfold Bytes.buffer?
  refine wpAny_bind (wpAny_specialOf (typeIs_by s b t) lk_buf ?_)
  refine wpAny_bind (slotOwn ?_)
  simp only [Bool.not_true, Bool.false_eq_true, if_false]
  refine wpAny_bind (wpAny_specialOf (typeIs_by s b t) lk_buf ?_)
  refine wpAny_bind (relOwn ?_)
  simp only [Bool.false_eq_true, if_false]
  exact wpAny_bind (wpAny_of_eq (a := b) rfl (wpAny_pure k))
theorem bufQuiet {id : String} {b : Array UInt8} {t : Tok} {Q : Option (Array UInt8) → Shared → Prop} (k : Q (some b) s) : wpAny (model prog w) A (Bytes.bufferQuiet? id (.bytes b t)) Q E s := by
  unfold Bytes.bufferQuiet?
  exact wpAny_bind (wpAny_attempt (wpAny_mono (bufQ (E := noE) (wpAny_pure k)) (fun _ _ z => z) fun _ _ z => z.elim))
theorem takeQuiet {id : String} {b : Array UInt8} {t : Tok} {Q : Option (Array UInt8 × Option Value) → Shared → Prop} (k : Q (some (b, none)) s) : wpAny (model prog w) A (Bytes.takeBufferQuiet? id (.bytes b t) 0) Q E s := by
  unfold Bytes.takeBufferQuiet?
  refine wpAny_bind (wpAny_attempt (wpAny_mono (E := noE) (Q := fun r s' => r = some (b, none) ∧ s' = s) ?_ (fun r s' h => ?_) fun _ _ z => z.elim))
  · unfold Bytes.takeBuffer?
    refine wpAny_bind (wpAny_specialOf (typeIs_by s b t) lk_buf ?_)
    refine wpAny_bind (slotOwn ?_)
    simp only [Bool.not_true, Bool.false_eq_true, if_false]
    refine wpAny_bind (wpAny_specialOf (typeIs_by s b t) lk_buf ?_)
    exact wpAny_bind (bufQ (wpAny_pure ⟨rfl, rfl⟩))
  · obtain ⟨rfl, rfl⟩ := h
    exact wpAny_pure k
theorem textOf {b : Array UInt8} {t : Tok} {Q : Array Nat × Nat → Shared → Prop} (k : Q (b.map (·.toNat), 1) s) : wpAny (model prog w) A (reTextOf (.bytes b t)) Q E s := by
  unfold reTextOf
  refine wpAny_bind (wpAny_of_eq (a := none) rfl ?_)
  exact wpAny_bind (bufQuiet (wpAny_pure k))
noncomputable def byS (l : List Nat) : Array UInt8 := (l.map (·.toUInt8)).toArray
noncomputable def byV (l : List (Array UInt8 × Tok)) : List Value := l.map fun p => .bytes p.1 p.2
theorem lk_call_by : typeLookup (.type "bytes") (Str.ofString "__call__") = pure none := call_bytes_none
theorem nohold {b : Array UInt8} {t : Tok} {Q : Unit → Shared → Prop} (k : Q () s) : wpAny (model prog w) A (reNoCollectionInside (.bytes b t) 1) Q E s := by
  unfold reNoCollectionInside
  rw [if_pos (by decide)]
  refine wpAny_bind (wpAny_isInstance (b := true) (typeIs_by s b t) (by rw [isSubtype_type]; kernel_rfl) ?_)
  exact wpAny_pure k
theorem whole1 {a c : Addr} {p f : Value} {b : Array UInt8} {t : Tok} {code : Array Nat} {Q : ReTarget → Shared → Prop} (F : Fm S h₀ L m N s) (ho : h₀.get? a = some (rxO p f c 1)) (hc : h₀.get? c = some (codeO code))
    (k : Q { pattern := .ref a, string := .bytes b t, code := code, text := b.map (·.toNat), kind := 1, groups := 0, pos := 0, lim := (b.map (·.toNat)).size } s) : wpAny (model prog w) A (reWholeTarget (.ref a) (.bytes b t)) Q E s := by
  have hof := F.old ho
  have hof2 := F.old hc
  unfold reWholeTarget
  refine wpAny_bind (wpAny_fieldsOf hof rfl ?_)
  refine wpAny_bind (textOf ?_)
  show wpAny _ _ (reNoCollectionInside (Value.bytes b t) 1 >>= _) _ _ _
  refine wpAny_bind (nohold ?_)
  show wpAny _ _ (reRawItems (.ref c) >>= _) _ _ _
  unfold reRawItems
  refine wpAny_bind (wpAny_bind (wpAny_seqItems hof2 rfl (wpAny_pure (wpAny_pure ?_))))
  dsimp only [Option.getD]
  rw [code_back]
  exact k
theorem slice1 {text : Array Nat} {b e : Nat} {Q : Value → Shared → Prop} (F : Fm S h₀ L m N s) (hx : text.size ≤ 2 ^ 22) (k : ∀ t s', Fm S h₀ L m N s' → Q (.bytes ((text.extract b e).map (·.toUInt8)) t) s') : wpAny (model prog w) A (reSlice text 1 b e) Q E s := by
  show wpAny _ A (mkBytes ((text.extract b e).map (·.toUInt8))) Q E s
  refine wpAny_mkBytes (k _ _ (F.tk _)) ?_
  show ((text.extract b e).map (·.toUInt8)).size ≤ 2 ^ 24
  rw [Array.size_map, Array.size_extract]; omega
end
end Mine
end
section
open PySem PySem.W PyProof.Rows PySem.Calls PySem.Spec PySem.Builtin PySem.Builtin.Re
set_option Elab.async false
set_option maxRecDepth 100000
namespace Mine
theorem slot_by_join : Slot "bytes" "join" "bytes.join" :=
  .of (owner := "bytes") (n := "join") (by rw [typeLookup_type, builtinLookup_eq_fast]; kernel_rfl) (by decide +kernel) (by decide +kernel) (by decide +kernel)
    (by first | exact .inl (by decide +kernel) | exact .inr (by decide +kernel)) (by rw [isSubtype_type]; kernel_rfl)
theorem entry_by_join : entryFor table "bytes.join" = some Builtin.«bytes.join» := entryFor_of_tree (by kernel_rfl)
theorem args_by_join (a b : Value) : argsOk "bytes.join" ⟨[a, b], []⟩ := by unfold argsOk; kernel_rfl
noncomputable def cat (ps : List (Array UInt8)) : List UInt8 := ps.flatMap fun b => b.toList
theorem joined_nil (ps : List (Array UInt8)) : (Bytes.joined #[] ps).toList = cat ps := by
  have key : ∀ (l : List (Array UInt8 × Nat)) (acc : Array UInt8), (l.foldl (fun out (x : Array UInt8 × Nat) => (if x.2 > 0 then out ++ (#[] : Array UInt8) else out) ++ x.1) acc).toList = acc.toList ++ l.flatMap fun p => p.1.toList := by
    intro l
    induction l with
    | nil => intro acc; simp
    | cons p r ih =>
      intro acc
      rw [List.foldl_cons, ih]
      split <;> simp
  show (ps.zipIdx.foldl (fun out (x : Array UInt8 × Nat) => (if x.2 > 0 then out ++ (#[] : Array UInt8) else out) ++ x.1) #[]).toList = _
  rw [key]
  simp only [List.nil_append]
  unfold cat
  have e : ∀ (l : List (Array UInt8)) (n : Nat), (l.zipIdx n).flatMap (fun p => p.1.toList) = l.flatMap fun b => b.toList := by
    intro l
    induction l with
    | nil => intro n; rfl
    | cons a r ih => intro n; rw [List.zipIdx_cons, List.flatMap_cons, List.flatMap_cons, ih]
  exact e ps 0
section
variable {w : World} {A : Around} {E : Value → Shared → Prop} {S : Shared} {h₀ : Heap} {L : Addr} {m : Mp} {N : Led} {s : Shared} {env : Env} {prog : Program} {x l : Addr} {P : Params}
theorem letGoAll {taken : List (Value × Option Value)} {keep : List Value} {Q : Unit → Shared → Prop} (hn : ∀ p ∈ taken, p.2 = none) (h : Q () s) : wpAny (model prog w) A (Bytes.joinLetGo taken keep) Q E s := by
  induction taken with
  | nil => exact wpAny_pure h
  | cons p r ih =>
    obtain ⟨v, u⟩ := p
    have : u = none := hn _ (.head _)
    subst this
    show wpAny _ _ (letGo [v] _ >>= fun _ => Bytes.joinLetGo r keep) _ _ _
    exact wpAny_bind (wpAny_letGo (ih fun p hp => hn p (.tail _ hp)))
theorem joinB {tj : Tok} {ps : List (Array UInt8 × Tok)} {ln : Nat} {Q : Value → Shared → Prop} (F : Fm S h₀ L m N s) (hl : (l, lstO (byV ps) ln) ∈ N) (h0 : ps ≠ []) (hsz : (cat (ps.map (·.1))).length ≤ 2 ^ 23)
    (k : ∀ b t s', b.toList = cat (ps.map (·.1)) → Fm S h₀ L m N s' → Q (.bytes b t) s') : wpAny (model prog w) A (call (.builtin "bytes.join") [.bytes #[] tj, .ref l]) Q E s := by
  refine wpAny_call_entry slot_by_join (typeIs_by s _ _) entry_by_join ?_ (args_by_join _ _)
  unfold «bytes.join» Bytes.joinM
  refine wpAny_bind (wpAny_of_eq (a := (.bytes #[] tj, .ref l)) rfl ?_)
  have hT : s.TypeIs (.ref l) "list" := ⟨_, F.get hl, rfl⟩
  dsimp only
  rw [if_pos (by decide)]
  refine wpAny_bind ?_
  unfold Bytes.joinItems
  refine wpAny_bind (wpAny_typeOf hT ?_)
  rw [if_pos (by decide)]
  refine wpAny_pure ?_
  refine wpAny_bind (wpAny_seqItems (F.get hl) rfl ?_)
  dsimp only
  rw [if_pos (by decide)]
  rcases ps with _ | ⟨p, _ | ⟨q, r⟩⟩
  · exact absurd rfl h0
  · show wpAny _ _ (typeOf (.bytes p.1 p.2) >>= _) _ _ _
    refine wpAny_bind (wpAny_typeOf (typeIs_by s _ _) ?_)
    rw [if_pos (by decide)]
    refine wpAny_bind (wpAny_rule (wpAny_pure ⟨_, rfl, k _ _ _ ?_ F⟩))
    simp [cat]
  · have hgo := F.get hl
    refine wpAny_bind (m := forIn [:(byV (p :: q :: r)).toArray.size] _ _) ?_
    generalize p :: q :: r = ps at *
    rw [KPc.range_list]
    refine wpAny_forIn_list _ (fun rest st s' => s' = s ∧ ∃ i, rest = List.range' i (ps.length - i) 1 ∧ i ≤ ps.length ∧ st.1 = ((ps.map (·.1)).take i).toArray ∧ (∀ p ∈ st.2, p.2 = none ∧ p.1.onHeap = false)) _ ?_ ?_ _ _ ⟨rfl, 0, by simp [byV], Nat.zero_le _, rfl, fun p hp => by cases hp⟩
    · rintro j rest st s' ⟨rfl, i, hr, hi, h1, h2⟩
      have hil : i < ps.length := by
        rcases Nat.lt_or_ge i ps.length with c | c
        · exact c
        · rw [show ps.length - i = 0 by omega] at hr; cases hr
      have hr' : j = i ∧ rest = List.range' (i + 1) (ps.length - (i + 1)) 1 := by
        rw [show ps.length - i = (ps.length - (i + 1)) + 1 by omega, List.range'_succ] at hr
        exact ⟨(List.cons.inj hr).1, (List.cons.inj hr).2⟩
      obtain ⟨rfl, rfl⟩ := hr'
      refine wpAny_bind (wpAny_seqItems hgo rfl ?_)
      dsimp only
      have hany : (st.2.any fun x => x.1.onHeap) = false := by
        rw [List.any_eq_false]
        intro p hp
        rw [(h2 p hp).2]; exact Bool.false_ne_true
      have hb : (Bytes.Kind.bytes == Bytes.Kind.bytearray) = false := by decide
      rw [if_neg (by rw [hany, hb]; decide)]
      have hd : (byV ps).toArray.getD j .none = .bytes ps[j].1 ps[j].2 := by
        simp [byV, hil]
      rw [hd]
      refine wpAny_bind (wpAny_holding (takeQuiet ?_))
      dsimp only
      refine wpAny_bind (wpAny_seqItems hgo rfl ?_)
      dsimp only
      rw [if_neg (by simp)]
      refine wpAny_pure ⟨rfl, j + 1, rfl, hil, ?_, ?_⟩
      · rw [h1, List.take_add_one]
        simp [hil]
      · intro p hp
        rcases List.mem_append.mp hp with hp | hp
        · exact h2 p hp
        · rcases List.mem_cons.mp hp with rfl | hp
          · exact ⟨rfl, rfl⟩
          · cases hp
    · rintro st s' ⟨rfl, i, hr, hi, h1, h2⟩
      have hi' : i = ps.length := by
        rcases Nat.lt_or_ge i ps.length with c | c
        · rw [show ps.length - i = (ps.length - (i + 1)) + 1 by omega, List.range'_succ] at hr; cases hr
        · omega
      subst hi'
      have h1' : st.1.toList = ps.map (·.1) := by
        rw [h1]
        exact List.take_of_length_le (by simp)
      refine wpAny_bind (wpAny_of_eq (a := #[]) rfl ?_)
      have hj : (Bytes.joined #[] st.1.toList).toList = cat (ps.map (·.1)) := by rw [joined_nil, h1']
      have hjs : (Bytes.joined #[] st.1.toList).size ≤ 2 ^ 23 := by rw [← Array.length_toList, hj]; exact hsz
      have hsum : st.1.foldl (fun a b => a + b.size) ((#[] : Array UInt8).size * (st.1.size - 1)) = (cat (ps.map (·.1))).length := by
        rw [← Array.foldl_toList, h1']
        have key : ∀ (l : List (Array UInt8)) (n : Nat), l.foldl (fun a b => a + b.size) n = n + (cat l).length := by
          intro l
          induction l with
          | nil => intro n; rfl
          | cons a r ih => intro n; rw [List.foldl_cons, ih]; simp [cat]; omega
        rw [key]; simp
      rw [if_neg (by rw [hsum]; show ¬ (decide (_ > 2 ^ 24) = true); simp; omega)]
      refine wpAny_bind (wpAny_mkBytes ?_ (by show _ ≤ 2 ^ 24; omega))
      refine wpAny_bind (wpAny_holding (wpAny_point ?_))
      refine wpAny_bind (letGoAll (fun p hp => (h2 p hp).1) ?_)
      exact wpAny_pure ⟨_, rfl, k _ _ _ hj (F.tk _)⟩
end
end Mine
end
section
open PySem PySem.W PyProof.Rows PySem.Calls PySem.Spec PySem.Builtin PySem.Builtin.Re
set_option Elab.async false
set_option maxRecDepth 100000
namespace Mine
noncomputable def natsOf (b : Array UInt8) : Array Nat := b.map (·.toNat)
noncomputable def txB (ps : List (Array UInt8 × Tok)) : List Nat := (cat (ps.map (·.1))).map (·.toNat)
theorem txB_append (a b : List (Array UInt8 × Tok)) : txB (a ++ b) = txB a ++ txB b := by simp [txB, cat]
theorem natsOf_size (b : Array UInt8) : (natsOf b).size = b.size := by simp [natsOf]
theorem back8 (b : Array UInt8) (i j : Nat) : ((((natsOf b).extract i j).map (·.toUInt8)).toList.map (·.toNat)) = ((natsOf b).toList.drop i).take (j - i) := by
  have key : ∀ l : List UInt8, ((l.map (·.toNat)).map (·.toUInt8)).map (·.toNat) = l.map (·.toNat) := by
    intro l
    rw [List.map_map, List.map_map]
    apply List.map_congr_left
    intro c _
    simp
  have e : ((natsOf b).extract i j).toList = ((b.toList.drop i).take (j - i)).map (·.toNat) := by
    simp [natsOf, List.extract_eq_take_drop, List.map_take, List.map_drop]
  rw [Array.toList_map, e, key]
  simp [natsOf, List.map_take, List.map_drop]
section
variable {w : World} {A : Around} {E : Value → Shared → Prop} {S : Shared} {h₀ : Heap} {L : Addr} {m : Mp} {N : Led} {s : Shared} {env : Env} {prog : Program} {P : Params}
theorem whole1n {a c : Addr} {p f : Value} {b : Array UInt8} {t : Tok} {code : Array Nat} {Q : ReTarget → Shared → Prop} (F : Fm S h₀ L m N s) (ho : h₀.get? a = some (rxO p f c 1)) (hc : h₀.get? c = some (codeO code))
    (k : Q { pattern := .ref a, string := .bytes b t, code := code, text := natsOf b, kind := 1, groups := 0, pos := 0, lim := (natsOf b).size } s) : wpAny (model prog w) A (reWholeTarget (.ref a) (.bytes b t)) Q E s := whole1 F ho hc k
theorem subLoop1 {a c : Addr} {p f : Value} {x : Array UInt8} {t : Tok} {code : Array Nat} {rep : Array UInt8} {tr : Tok} {find : Nat → Option (Nat × Nat)} {fin : Nat → List Nat} {B : Nat} (ho : h₀.get? a = some (rxO p f c 1)) (hc : h₀.get? c = some (codeO code)) (hx : (natsOf x).size ≤ 2 ^ 20) (hB : B ≤ 2 ^ 60)
    (hf : ∀ d, d ≤ (natsOf x).size → ∃ n r, n ≤ B ∧ Ends n (Sre.forSearch code (natsOf x) 0 d (natsOf x).size false) r ∧ Says r (find d))
    (h1 : ∀ d b e, d ≤ (natsOf x).size → find d = some (b, e) → d ≤ b ∧ b < e ∧ e ≤ (natsOf x).size ∧ fin d = ((natsOf x).toList.drop d).take (b - d) ++ (natsOf rep).toList ++ fin e) (h2 : ∀ d, d ≤ (natsOf x).size → find d = none → fin d = (natsOf x).toList.drop d) (hfin : (fin 0).length ≤ 2 ^ 22) :
    ∀ (k : Nat) {A : Around} {R : Result → Shared → Prop} {s : Shared} (d n : Nat) (j : Nat) (l : Addr) (ps : List (Array UInt8 × Tok)), (natsOf x).size - d < k → d ≤ (natsOf x).size → ps.length ≤ 2 * d → txB ps ++ fin d = fin 0 → Fm S h₀ L m ((l, lstO (byV ps) n) :: N) s → (∀ p ∈ N, p.1 ≠ l) →
      (∀ b t' s', b.toList.map (·.toNat) = fin 0 → Fm S h₀ L m N s' → R (.ok (.ret (.bytes b t'))) s') →
      codeAny (model prog w) A (.builtin "re.Pattern.sub.loop" ⟨[.ref a, .bytes x t, .bytes rep tr, rawInt 0, rawInt 0, rawInt j, rawInt d, rawInt d, .bool false, .ref l, .bool false], []⟩) R s := by
  intro k
  induction k with
  | zero => intro A R s d n j l ps h; exact absurd h (Nat.not_lt_zero _)
  | succ k ih =>
    intro A R s d n j l ps hk hd hps htx F hN kq
    refine codeAny_builtin entry_rx_loop ?_
    rw [Around.under_plainId (by decide +kernel)]
    unfold «re.Pattern.sub.loop»
    show wpAny _ _ (reWholeTarget (.ref a) (.bytes x t) >>= _) _ _ _
    refine wpAny_bind (whole1n F ho hc ?_)
    show wpAny _ _ (reLiteralCannotBeTurned (.bytes rep tr) >>= _) _ _ _
    refine wpAny_bind ?_
    refine wpAny_bind (wpAny_of_eq (a := none) rfl ?_)
    refine wpAny_bind (wpAny_isInstance (b := true) (typeIs_by _ _ _) (by rw [isSubtype_type]; kernel_rfl) ?_)
    refine wpAny_pure ?_
    show wpAny _ _ (reNextFound _ (Int.toNat (d : Int)) false >>= _) _ _ _
    unfold reNextFound
    dsimp only
    rw [Int.toNat_natCast]
    obtain ⟨n1, r1, hn1, he1, hs1⟩ := hf d hd
    refine wpAny_bind (runToEnd_says he1 (by omega) hs1 fun o hoo => ?_)
    have hx2 : (natsOf x).size ≤ 2 ^ 22 := by omega
    have hpl : ps.length ≤ 2 ^ 22 := by omega
    cases hq : find d with
    | none =>
      rw [hq] at hoo
      subst hoo
      dsimp only
      have hfd := h2 d hd hq
      by_cases c : d < (natsOf x).size
      · rw [if_pos c]
        refine wpAny_bind (slice1 F hx2 fun ts s1 F => ?_)
        refine wpAny_bind (pushSeq F hN (by simp [byV]; omega) fun s1 F => ?_)
        have e : byV ps ++ [.bytes (((natsOf x).extract d (natsOf x).size).map (·.toUInt8)) ts] = byV (ps ++ [((((natsOf x).extract d (natsOf x).size).map (·.toUInt8)), ts)]) := by simp [byV]
        rw [e] at F
        have hqs : txB (ps ++ [((((natsOf x).extract d (natsOf x).size).map (·.toUInt8)), ts)]) = fin 0 := by
          rw [txB_append, ← htx, hfd]
          congr 1
          have := back8 x d (natsOf x).size
          simp only [txB, cat, List.map_cons, List.map_nil, List.flatMap_cons, List.flatMap_nil, List.append_nil]
          rw [this]
          exact List.take_of_length_le (by simp)
        generalize ps ++ [((((natsOf x).extract d (natsOf x).size).map (·.toUInt8)), ts)] = qs at F hqs
        refine wpAny_bind (slice1 F hx2 fun tj s2 F => ?_)
        refine wpAny_bind (wpAny_seqItems (F.get (.head _)) rfl ?_)
        dsimp only [Option.getD]
        have e0 : ((natsOf x).extract 0 0).map (·.toUInt8) = #[] := by simp
        rw [e0]
        cases qs with
        | nil =>
          show wpAny _ _ (ret (.bytes #[] tj)) _ _ _
          exact wpAny_pure (kq _ _ _ hqs (F.sub fun _ h => .tail _ h))
        | cons q0 qs =>
          show wpAny _ _ (call (.builtin "bytes.join") [.bytes #[] tj, .ref l] >>= _) _ _ _
          have hz : (cat ((q0 :: qs).map (·.1))).length ≤ 2 ^ 23 := by
            have : (txB (q0 :: qs)).length = (cat ((q0 :: qs).map (·.1))).length := by simp [txB]
            rw [← this, hqs]; omega
          refine wpAny_bind (joinB F (.head _) (by simp) hz fun b t' s' hb F => ?_)
          show wpAny _ _ (ret _) _ _ _
          exact wpAny_pure (kq _ _ _ (by rw [hb]; exact hqs) (F.sub fun _ h => .tail _ h))
      · rw [if_neg c]
        have hqs : txB ps = fin 0 := by rw [← htx, hfd, List.drop_eq_nil_of_le (by rw [Array.length_toList]; omega), List.append_nil]
        clear htx hps hpl
        generalize ps = qs at F hqs
        refine wpAny_bind (slice1 F hx2 fun tj s2 F => ?_)
        refine wpAny_bind (wpAny_seqItems (F.get (.head _)) rfl ?_)
        dsimp only [Option.getD]
        have e0 : ((natsOf x).extract 0 0).map (·.toUInt8) = #[] := by simp
        rw [e0]
        cases qs with
        | nil =>
          show wpAny _ _ (ret (.bytes #[] tj)) _ _ _
          exact wpAny_pure (kq _ _ _ hqs (F.sub fun _ h => .tail _ h))
        | cons q0 qs =>
          show wpAny _ _ (call (.builtin "bytes.join") [.bytes #[] tj, .ref l] >>= _) _ _ _
          have hz : (cat ((q0 :: qs).map (·.1))).length ≤ 2 ^ 23 := by
            have : (txB (q0 :: qs)).length = (cat ((q0 :: qs).map (·.1))).length := by simp [txB]
            rw [← this, hqs]; omega
          refine wpAny_bind (joinB F (.head _) (by simp) hz fun b t' s' hb F => ?_)
          show wpAny _ _ (ret _) _ _ _
          exact wpAny_pure (kq _ _ _ (by rw [hb]; exact hqs) (F.sub fun _ h => .tail _ h))
    | some be =>
      obtain ⟨b, e⟩ := be
      rw [hq] at hoo
      obtain ⟨r, rfl, rfl, rfl⟩ := hoo
      dsimp only
      obtain ⟨g1, g2, g3, g4⟩ := h1 d _ _ hd hq
      have rest : ∀ (qs : List (Array UInt8 × Tok)) (n : Nat) (s : Shared), txB qs = txB ps ++ ((natsOf x).toList.drop d).take (r.start - d) → qs.length ≤ 2 * d + 1 → Fm S h₀ L m ((l, lstO (byV qs) n) :: N) s →
          wpAny (model prog w) A.in1 (updateSeq l (fun x => x.push (Value.bytes rep tr)) >>= fun _ => again (.builtin "re.Pattern.sub.loop" ⟨[.ref a, .bytes x t, .bytes rep tr, rawInt 0, rawInt 0, rawInt ((j : Int) + 1), rawInt r.handed, rawInt r.handed, .bool (r.handed == r.start), .ref l, .bool false], []⟩))
            (fun fin s' => match fin with | .done f => R (.ok f) s' | .again c' => c'.quiet = true ∧ codeAny (model prog w) A c' R s') (fun e s' => R (.error e) s') s := by
        intro qs n s hqs hql F
        refine wpAny_bind (pushSeq F hN (by simp [byV]; omega) fun s1 F => ?_)
        show wpAny _ _ (again _) _ _ _
        refine wpAny_pure ⟨plainId_quiet (by decide +kernel) _, ?_⟩
        have eb : (r.handed == r.start) = false := beq_eq_false_iff_ne.mpr (by omega)
        rw [eb]
        rw [show byV qs ++ [Value.bytes rep tr] = byV (qs ++ [(rep, tr)]) by simp [byV]] at F
        exact ih r.handed _ (j + 1) l (qs ++ [(rep, tr)]) (by omega) g3 (by rw [List.length_append]; simp only [List.length_singleton]; omega) (by rw [txB_append, ← htx, g4, ← List.append_assoc, ← List.append_assoc, ← hqs]; simp [txB, cat, natsOf]) F hN kq
      by_cases c : d < r.start
      · rw [if_pos c]
        refine wpAny_bind (slice1 F hx2 fun ts s1 F => ?_)
        refine wpAny_bind (pushSeq F hN (by simp [byV]; omega) fun s1 F => ?_)
        have e : byV ps ++ [.bytes (((natsOf x).extract d r.start).map (·.toUInt8)) ts] = byV (ps ++ [((((natsOf x).extract d r.start).map (·.toUInt8)), ts)]) := by simp [byV]
        rw [e] at F
        refine rest _ _ _ ?_ (by rw [List.length_append]; simp only [List.length_singleton]; omega) F
        rw [txB_append]
        congr 1
        have := back8 x d r.start
        simp only [txB, cat, List.map_cons, List.map_nil, List.flatMap_cons, List.flatMap_nil, List.append_nil]
        exact this
      · rw [if_neg c]
        refine rest _ _ _ ?_ (by omega) F
        rw [show r.start - d = 0 by omega, List.take_zero, List.append_nil]
end
end Mine
end
section
open PySem PySem.W PyProof.Rows PySem.Calls PySem.Spec PySem.Builtin PySem.Builtin.Re
set_option Elab.async false
set_option maxRecDepth 100000
namespace Mine
noncomputable def by2 : Array UInt8 := #[46, 46]
section
variable {w : World} {A : Around} {E : Value → Shared → Prop} {S : Shared} {h₀ : Heap} {L : Addr} {m : Mp} {N : Led} {s : Shared} {env : Env} {prog : Program} {P : Params}
theorem rxSub1 {a c : Addr} {p f : Value} {x : Array UInt8} {t : Tok} {code : Array Nat} {rep : Array UInt8} {tr : Tok} {find : Nat → Option (Nat × Nat)} {fin : Nat → List Nat} {B : Nat} {Q : Value → Shared → Prop} (F : Fm S h₀ L m N s) (ho : h₀.get? a = some (rxO p f c 1)) (hc : h₀.get? c = some (codeO code)) (hx : (natsOf x).size ≤ 2 ^ 20) (hB : B ≤ 2 ^ 60) (hrep : (!rep.contains 92) = true)
    (hf : ∀ d, d ≤ (natsOf x).size → ∃ n r, n ≤ B ∧ Ends n (Sre.forSearch code (natsOf x) 0 d (natsOf x).size false) r ∧ Says r (find d))
    (h1 : ∀ d b e, d ≤ (natsOf x).size → find d = some (b, e) → d ≤ b ∧ b < e ∧ e ≤ (natsOf x).size ∧ fin d = ((natsOf x).toList.drop d).take (b - d) ++ (natsOf rep).toList ++ fin e) (h2 : ∀ d, d ≤ (natsOf x).size → find d = none → fin d = (natsOf x).toList.drop d) (hfin : (fin 0).length ≤ 2 ^ 22)
    (k : ∀ b t' s', b.toList.map (·.toNat) = fin 0 → Fm S h₀ L m N s' → Q (.bytes b t') s') : wpAny (model prog w) A (call (.builtin "re.Pattern.sub") [.ref a, .bytes rep tr, .bytes x t]) Q E s := by
  refine wpAny_call (codeAny_call_builtin slot_rx_sub.plain entry_rx_sub (slot_rx_sub.check _ _ _ _ _ _ _ _ ⟨_, F.old ho, rfl⟩ (args_rx_sub _ _ _) ?_))
  unfold «re.Pattern.sub» reSubstitute
  show wpAny _ _ (reNamed "re.Pattern.sub" "sub" ["repl", "string", "count"] 2 [.bytes rep tr, .bytes x t] [] >>= _) _ _ _
  refine wpAny_bind (wpAny_of_eq (a := [some (.bytes rep tr), some (.bytes x t), none]) rfl ?_)
  show wpAny _ _ (pure 0 >>= _) _ _ _
  refine wpAny_bind (wpAny_pure ?_)
  refine wpAny_bind (wpAny_specialOf (typeIs_by _ _ _) call_bytes_none ?_)
  show wpAny _ _ (asStr? (.bytes rep tr) >>= _) _ _ _
  refine wpAny_bind (wpAny_of_eq (a := none) rfl ?_)
  refine wpAny_bind (bufQuiet ?_)
  show wpAny _ _ (pure (!rep.contains 92) >>= _) _ _ _
  refine wpAny_bind (wpAny_pure ?_)
  rw [hrep]
  show wpAny _ _ (pure (Value.bytes rep tr, 0) >>= _) _ _ _
  refine wpAny_bind (wpAny_pure ?_)
  refine wpAny_bind (wpAny_holding (whole1n F ho hc ?_))
  show wpAny _ _ (newList [] >>= _) _ _ _
  refine wpAny_bind (wpAny_newList ?_)
  show wpAny _ _ (again _) _ _ _
  have F' := F.push (lstO [] 0)
  refine wpAny_pure ⟨plainId_quiet (by decide +kernel) _, ?_⟩
  refine subLoop1 ho hc hx hB hf h1 h2 hfin ((natsOf x).size + 1) 0 0 0 _ [] (by omega) (Nat.zero_le _) (Nat.zero_le _) (by rfl) F' F.ne fun b t' s' hb F => ?_
  exact k b t' s' hb F
theorem sub2 {x : Array UInt8} {t : Tok} {tr : Tok} {Q : Value → Shared → Prop} (G : Gd P h₀) (F : Fm S h₀ L m N s) (hx : x.size ≤ 2 ^ 20) (k : ∀ b t' s', b.toList.map (·.toNat) = quoteL true (natsOf x).toList → Fm S h₀ L m N s' → Q (.bytes b t') s') :
    wpAny (model prog w) A (call (.builtin "re.Pattern.sub") [.ref 48, .bytes by2 tr, .bytes x t]) Q E s := by
  have hx : (natsOf x).size ≤ 2 ^ 20 := by rw [natsOf_size]; exact hx
  have hl := quoteL_len (natsOf x).toList true
  have hz : (natsOf x).toList.length = (natsOf x).size := Array.length_toList
  obtain ⟨⟨p, f, hp⟩, hcc⟩ := at48 G
  refine rxSub1 (rep := by2) (code := c1) (c := 47) (find := fun d => (find1 (natsOf x) ((natsOf x).size - d) d).map fun i => (i, i + 1)) (fin := fun d => quoteL (atL (natsOf x) d) ((natsOf x).toList.drop d)) (B := 5 * (natsOf x).size + 20) F hp hcc hx (by omega) (by decide +kernel)
    (fun d hd => search1 (natsOf x) d hd) ?_ ?_ ?_ ?_
  · intro d b e hd h
    obtain ⟨i, hi, h⟩ := Option.map_eq_some_iff.mp h
    cases h
    obtain ⟨g1, g2, g3, g4⟩ := find1_spec hi
    exact ⟨g1, by omega, by omega, by rw [quote_some (natsOf x) _ d b (by omega) hi, List.append_assoc, show (natsOf by2).toList = [46, 46] by decide +kernel]; rfl⟩
  · intro d hd h
    exact quote_none (natsOf x) _ d (by omega) (Option.map_eq_none_iff.mp h)
  · rw [List.drop_zero]; have : atL (natsOf x) 0 = true := rfl; rw [this]; omega
  · intro b t' s' hb F
    exact k b t' s' hb F
/-- _quote_periods -/
theorem periods_spec {x : Array UInt8} {t : Tok} {Q : Value → Shared → Prop} {n : Nat} (G : Gd P h₀) (F : Fm S h₀ L m N s) (R : Rm A (n + 1)) (hx : x.size ≤ 2 ^ 20) (k : ∀ b t' s', b.toList.map (·.toNat) = quoteL true (natsOf x).toList → Fm S h₀ L m N s' → Q (.bytes b t') s') :
    wpAny (model pw w) A (call (.ref 67) [.bytes x t]) Q E s := by
  refine in67 G F R fun g L' s₁ G R F kp bk => ?_
  have hE := ek67 L'
  obtain ⟨⟨p, f, hpt⟩, hcc⟩ := at48 G
  refine wpAny_execs_cons ?_
  refine wpAny_Return_some ?_
  refine evM (nG hE G F (k67_twin_re_2 _) g_twin_re_2 fun pl => gmRx F hpt slot_rx_sub type_rx_sub ?_)
  refine callM2 ?_
  refine PySem.W.Constant_bytes ?_
  have F := F.tk (s₁.toks + 1)
  refine nL hE F (k67_bindata _) rfl ?_
  refine sub2 G F hx fun b t' s' hb F => ?_
  exact k b _ _ hb (bk _ _ _ F)
end
end Mine
end
section
open PySem PySem.W PyProof.Rows PySem.Calls PySem.Spec PySem.Builtin PySem.Builtin.Re
set_option Elab.async false
set_option maxRecDepth 100000
namespace Mine
noncomputable def asciiT : Str := Str.ofString "ascii"
theorem args_enc (a b : Value) : argsOk "str.encode" ⟨[a, b], []⟩ := by unfold argsOk; kernel_rfl
theorem args_dec (a b : Value) : argsOk "bytes.decode" ⟨[a, b], []⟩ := by unfold argsOk; kernel_rfl
theorem enc_eq (x : Str) (t u : Tok) : «str.encode» ⟨[.str x t, .str asciiT u], []⟩ = (_codecs.encodeRoad "str.encode" (.str x t) x asciiT none >>= fun v => ret v) := by kernel_rfl
theorem enc_road (x : Str) (t : Tok) : _codecs.encodeRoad "str.encode" (.str x t) x asciiT none = (_codecs.encodeNarrow "str.encode" _codecs.asciiCodec none (.str x t) x >>= fun b => mkBytes b) := by kernel_rfl
section
variable {w : World} {A : Around} {E : Value → Shared → Prop} {S : Shared} {h₀ : Heap} {L : Addr} {m : Mp} {N : Led} {s : Shared} {env : Env} {prog : Program} {P : Params}
theorem narrow {x : Str} {v : Value} {Q : Array UInt8 → Shared → Prop} (ha : ∀ c ∈ x.cps.toList, c < 128) (hx : x.cps.size ≤ 2 ^ 22) (k : Q (x.cps.map (·.toUInt8)) s) : wpAny (model prog w) A (_codecs.encodeNarrow "str.encode" _codecs.asciiCodec none v x) Q E s := by
  unfold _codecs.encodeNarrow
  dsimp only
  rw [KPc.range_list]
  refine wpAny_bind ?_
  have hbad : ∀ c ∈ x.cps.toList, _codecs.asciiCodec.bad c = false := fun c hc => decide_eq_false (by have := ha c hc; omega)
  have hfind : Array.findIdx? _codecs.asciiCodec.bad x.cps = none := by
    rw [Array.findIdx?_eq_none_iff]
    intro c hc
    exact hbad c (Array.mem_toList_iff.mpr hc)
  have hex : x.cps.extract 0 = x.cps := by simp
  have hfold : Array.foldl (fun acc y => acc ++ (_codecs.asciiCodec.bytesOf y).toArray) #[] x.cps = x.cps.map (·.toUInt8) := by
    have key : ∀ (l : List Nat) (acc : Array UInt8), l.foldl (fun acc y => acc ++ (_codecs.asciiCodec.bytesOf y).toArray) acc = acc ++ (l.map (·.toUInt8)).toArray := by
      intro l
      induction l with
      | nil => intro acc; simp
      | cons a r ih => intro acc; rw [List.foldl_cons, ih]; show acc ++ #[a.toUInt8] ++ _ = _; simp
    rw [← Array.foldl_toList, key]
    apply Array.toList_inj.mp
    simp
  refine wpAny_forIn_list _ (fun rest st s' => s' = s ∧ ((st.1 = 0 ∧ st.2.1 = #[] ∧ rest.length = x.cps.size) ∨ (st.1 = x.cps.size ∧ st.2.1 = x.cps.map (·.toUInt8)))) _ ?_ ?_ _ _ ⟨rfl, .inl ⟨rfl, rfl, by simp [Str.length]⟩⟩
  · rintro j rest ⟨i, out, st⟩ s' ⟨rfl, h⟩
    rcases h with ⟨h1, h2, h3⟩ | ⟨h1, h2⟩
    · simp only at h1 h2
      subst h1 h2
      have h0 : 0 < x.cps.size := by rw [← h3]; simp
      have hget : x.cps[0]? = some x.cps[0] := Array.getElem?_eq_getElem h0
      dsimp only
      rw [if_neg (by simp), hget]
      dsimp only
      rw [hbad _ (by simp)]
      simp only [Bool.not_false, if_true]
      rw [hex, hfind]
      refine wpAny_pure ⟨rfl, .inr ⟨by simp, ?_⟩⟩
      simp only [Option.getD_none]
      rw [show x.cps.extract 0 x.cps.size = x.cps by simp]
      exact hfold
    · simp only at h1 h2
      subst h1 h2
      dsimp only
      rw [if_neg (by simp [sizeLine]; omega), Array.getElem?_eq_none (Nat.le_refl _)]
      exact wpAny_pure (wpAny_pure k)
  · rintro ⟨i, out, st⟩ s' ⟨rfl, h⟩
    rcases h with ⟨h1, h2, h3⟩ | ⟨h1, h2⟩
    · simp only at h1 h2
      subst h1 h2
      have h0 : x.cps = #[] := Array.eq_empty_of_size_eq_zero (by rw [← h3]; rfl)
      rw [h0] at k
      have e : (#[] : Array Nat).map (·.toUInt8) = (#[] : Array UInt8) := by simp
      rw [e] at k
      exact wpAny_pure k
    · simp only at h1 h2
      subst h1 h2
      exact wpAny_pure k
theorem encA {x : Str} {t u : Tok} {Q : Value → Shared → Prop} (F : Fm S h₀ L m N s) (ha : ∀ c ∈ x.cps.toList, c < 128) (hx : x.cps.size ≤ 2 ^ 22) (k : ∀ t s', Fm S h₀ L m N s' → Q (.bytes (x.cps.map (·.toUInt8)) t) s') :
    wpAny (model prog w) A (call (.builtin "str.encode") [.str x t, .str asciiT u]) Q E s := by
  refine wpAny_call (codeAny_call_builtin PySem.F.slot_str_encode.plain PySem.F.entry_str_encode (PySem.F.slot_str_encode.check _ _ _ _ _ _ _ _ (typeIs_str _ _ _) (args_enc _ _) ?_))
  rw [enc_eq, enc_road]
  refine wpAny_bind (wpAny_bind (narrow ha hx ?_))
  refine wpAny_mkBytes ?_ (by rw [Array.size_map]; show _ ≤ 2 ^ 24; omega)
  exact wpAny_pure (k _ _ (F.tk _))
theorem dec_road {id : String} (b : Array UInt8) : _codecs.decodeRoad id b asciiT none [] = (_codecs.runDecoder id _codecs.asciiDecoder none true b 0 [] >>= fun r => mkStr ⟨r.1⟩) := by kernel_rfl
theorem dec_eq (c : UInt8) (cs : List UInt8) (t u : Tok) : «bytes.decode» ⟨[.bytes (c :: cs).toArray t, .str asciiT u], []⟩ = (mkStr (Str.ofString "utf-8") >>= fun _ => mkStr asciiT >>= fun e => mkStr (Str.ofString "bytes.decode") >>= fun d =>
    call (.builtin "_codecs.decode.text") [.bytes (c :: cs).toArray t, e, .none, d] >>= fun v => ret v) := by kernel_rfl
theorem runAscii {id : String} {b : Array UInt8} {Q : Array Nat × Nat → Shared → Prop} (ha : ∀ c ∈ b.toList, c.toNat < 128) (hx : b.size ≤ 2 ^ 22) (k : ∀ n, Q (natsOf b, n) s) : wpAny (model prog w) A (_codecs.runDecoder id _codecs.asciiDecoder none true b 0 []) Q E s := by
  unfold _codecs.runDecoder
  dsimp only
  rw [KPc.range_list]
  refine wpAny_bind ?_
  refine wpAny_forIn_list _ (fun rest st s' => s' = s ∧ rest.length = b.size - st.1 ∧ st.1 ≤ b.size ∧ st.2.1 = (natsOf b).extract 0 st.1) _ ?_ ?_ _ _ ⟨rfl, by simp, Nat.zero_le _, by simp⟩
  · rintro j rest ⟨i, out, st⟩ s' ⟨rfl, h1, h2, h3⟩
    simp only at h1 h2 h3
    subst h3
    have hi : i < b.size := by
      have : 0 < (j :: rest).length := by simp
      omega
    dsimp only
    rw [if_neg (by rw [Array.size_extract, natsOf_size]; show ¬ (_ > 2 ^ 24); omega), if_neg (by omega)]
    have hc : (b.getD i 0).toNat < 128 := by
      have e : b.getD i 0 = b[i] := by simp [Array.getD, hi]
      rw [e]
      exact ha _ (by simp)
    have hf : _codecs.asciiDecoder.find true b i = _codecs.Found.text [(b.getD i 0).toNat] (i + 1) := by
      show (if (b.getD i 0).toNat < 128 then _ else _) = _
      rw [if_pos hc]; rfl
    rw [hf]
    refine wpAny_pure ⟨rfl, ?_, hi, ?_⟩
    · simp only [List.length_cons] at h1; show rest.length = b.size - (i + 1); omega
    · show (natsOf b).extract 0 i ++ [(b.getD i 0).toNat].toArray = (natsOf b).extract 0 (i + 1)
      apply Array.toList_inj.mp
      have e : b.getD i 0 = b[i] := by simp [Array.getD, hi]
      rw [e]
      simp [natsOf, List.extract_eq_take_drop, List.take_add_one, hi]
  · rintro ⟨i, out, st⟩ s' ⟨rfl, h1, h2, h3⟩
    simp only at h1 h2 h3
    have hi : i = b.size := by simp at h1; omega
    subst h3 hi
    have e : (natsOf b).extract 0 b.size = natsOf b := by rw [← natsOf_size b]; simp
    rw [← e] at k
    exact wpAny_pure (k _)
theorem decA {b : Array UInt8} {t u : Tok} {Q : Value → Shared → Prop} (F : Fm S h₀ L m N s) (h0 : b.toList ≠ []) (ha : ∀ c ∈ b.toList, c.toNat < 128) (hx : b.size ≤ 2 ^ 22) (k : ∀ t s', Fm S h₀ L m N s' → Q (.str ⟨natsOf b⟩ t) s') :
    wpAny (model prog w) A (call (.builtin "bytes.decode") [.bytes b t, .str asciiT u]) Q E s := by
  obtain ⟨c, cs, hb⟩ : ∃ c cs, b.toList = c :: cs := by
    cases hh : b.toList with
    | nil => exact absurd hh h0
    | cons c cs => exact ⟨c, cs, rfl⟩
  have hb' : b = (c :: cs).toArray := by rw [← hb]
  subst hb'
  refine wpAny_call (codeAny_call_builtin PySem.W.FB.slot_bytes_decode.plain PySem.W.FB.entry_bytes_decode (PySem.W.FB.slot_bytes_decode.check _ _ _ _ _ _ _ _ (typeIs_by _ _ _) (args_dec _ _) ?_))
  rw [dec_eq]
  refine wpAny_bind (wpAny_mkStr ?_ (by decide))
  refine wpAny_bind (wpAny_mkStr ?_ (by decide))
  refine wpAny_bind (wpAny_mkStr ?_ (by decide))
  refine wpAny_bind (call_function_entry KBd.kind_text KBd.plain_text KBd.entry_text (KBd.args_text _ _ _ _) ?_)
  show wpAny _ _ (Bytes.bytesLike _ (.bytes (c :: cs).toArray t) >>= fun r => _) _ _ _
  refine wpAny_bind (wpAny_of_eq KBd.like_eq ?_)
  refine wpAny_bind (wpAny_of_eq KBd.held_eq ?_)
  show wpAny _ _ (_codecs.decodeRoad _ (c :: cs).toArray asciiT none [] >>= fun v => _) _ _ _
  rw [dec_road]
  refine wpAny_bind (wpAny_bind (runAscii ha hx fun n => ?_))
  refine wpAny_mkStr (wpAny_pure ⟨_, rfl, ?_⟩) (by show (natsOf _).size ≤ 2 ^ 24; rw [natsOf_size]; omega)
  exact wpAny_pure (k _ _ ((((F.tk _).tk _).tk _).tk _))
end
end Mine
end
section
open PySem PySem.W PyProof.Rows PySem.Calls PySem.Spec
set_option Elab.async false
set_option maxRecDepth 100000
namespace Mine
noncomputable def opW : Nat → Str
  | 0 => Str.ofString "add"
  | 1 => Str.ofString "sub"
  | 2 => Str.ofString "mul"
  | _ => Str.ofString "xor"
noncomputable def backW : Str := Str.ofString " back"
noncomputable def Tr.turned : Tr → Bool
  | .leaf _ _ => false
  | .node _ l r _ _ => decide (l.need < r.need)
noncomputable def Tr.fst : Tr → Tr
  | .leaf v c => .leaf v c
  | .node op l r c way => if l.need < r.need then r else l
noncomputable def Tr.snd : Tr → Tr
  | .leaf v c => .leaf v c
  | .node op l r c way => if l.need < r.need then l else r
noncomputable def Tr.word : Tr → Str
  | .leaf _ _ => Str.empty
  | .node op l r _ _ => if l.need < r.need then opW op ++ backW else opW op
/-- every op of the tree is one of the four -/
noncomputable def Tr.ok : Tr → Prop
  | .leaf _ _ => True
  | .node op l r _ _ => op < 4 ∧ l.ok ∧ r.ok
section
variable {w : World} {A : Around} {E : Value → Shared → Prop} {S : Shared} {h₀ : Heap} {L : Addr} {m : Mp} {N : Led} {s : Shared} {env : Env} {prog : Program} {P : Params}
theorem catS {x y : Str} {t u : Tok} {Q : Value → Shared → Prop} (F : Fm S h₀ L m N s) (hs : x.length + y.length ≤ 2 ^ 20) (k : ∀ t s', Fm S h₀ L m N s' → Q (.str (x ++ y) t) s') : wpAny (model prog w) A (binaryOp .Add (.str x t) (.str y u)) Q E s :=
  PyProof.Rows.add_str (fun t' tk => k _ _ (F.tk tk)) (by show _ ≤ 2 ^ 24; omega)
/-- ['add', 'sub', 'mul', 'xor'][op] -/
theorem opE {e : Expr} {p : Pos} {c1 c2 c3 c4 : _} {p1 p2 p3 p4 p5 : Pos} {op : Nat} {Q : Value → Shared → Prop} (hop : op < 4) (F : Fm S h₀ L m N s)
    (he : ∀ N' s, (∀ p ∈ N, p ∈ N') → Fm S h₀ L m N' s → ∀ Q' : Value → Shared → Prop, (∀ t s', Fm S h₀ L m N' s' → Q' (.int op t) s') → wpAny (model prog w) A (eval e env) Q' E s)
    (k : ∀ t N' s', (∀ p ∈ N, p ∈ N') → Fm S h₀ L m N' s' → Q (.str (opW op) t) s')
    (hs : ∀ l i u, subscripted e false (.ref l) (.int i u) = operate [.ref l, .int i u] (getItem (.ref l) (.int i u)) := by intro _ _ _; with_unfolding_all rfl) :
    wpAny (model prog w) A (eval (.Subscript (.List [.Constant (.str (Str.ofString "add")) c1 p1, .Constant (.str (Str.ofString "sub")) c2 p2, .Constant (.str (Str.ofString "mul")) c3 p3, .Constant (.str (Str.ofString "xor")) c4 p4] p5) e p) env) Q E s := by
  refine Subscript_ ?_
  refine List_ ?_
  have e4 : backTo p5 (starEach [.Constant (.str (Str.ofString "add")) c1 p1, .Constant (.str (Str.ofString "sub")) c2 p2, .Constant (.str (Str.ofString "mul")) c3 p3, .Constant (.str (Str.ofString "xor")) c4 p4] env) = [(false, eval (.Constant (.str (Str.ofString "add")) c1 p1) env), (false, eval (.Constant (.str (Str.ofString "sub")) c2 p2) env), (false, eval (.Constant (.str (Str.ofString "mul")) c3 p3) env), (false, eval (.Constant (.str (Str.ofString "xor")) c4 p4) env)] := rfl
  rw [e4]
  refine spliced_cons (cS F fun t1 s F => ?_)
  refine spliced_cons (cS F fun t2 s F => ?_)
  refine spliced_cons (cS F fun t3 s F => ?_)
  refine spliced_cons (cS F fun t4 s F => ?_)
  refine spliced_nil ?_
  refine lstN F fun l s F => ?_
  refine he _ _ (fun p hp => .tail _ hp) F _ fun t s F => ?_
  obtain ⟨tk, hk⟩ : ∃ tk, [Value.str (Str.ofString "add") t1, .str (Str.ofString "sub") t2, .str (Str.ofString "mul") t3, .str (Str.ofString "xor") t4][op]? = some (.str (opW op) tk) := by
    match op, hop with
    | 0, _ => exact ⟨t1, rfl⟩
    | 1, _ => exact ⟨t2, rfl⟩
    | 2, _ => exact ⟨t3, rfl⟩
    | 3, _ => exact ⟨t4, rfl⟩
  exact itLst F (.head _) (by rw [Int.toNat_natCast]; exact hk) (by omega) (by omega) (k _ _ _ (fun p hp => .tail _ hp) F) (hs _ _ _)
theorem opW_len (op : Nat) : (opW op).length = 3 := by
  match op with
  | 0 => rfl
  | 1 => rfl
  | 2 => rfl
  | n + 3 => rfl
/-- _law_hands -/
theorem hands_spec {op : Nat} {l r : Tr} {c : Str} {way : Nat} {v : Value} {Q : Value → Shared → Prop} (G : Gd P h₀) (F : Fm S h₀ L m N s) (R : Rm A ((Tr.node op l r c way).high + 1)) (hT : TreeIn N v (.node op l r c way)) (hop : op < 4)
    (k : ∀ a vf vs t N' s', (∀ p ∈ N, p ∈ N') → Fm S h₀ L m N' s' → (a, tupO [vf, vs, .str (Tr.node op l r c way).word t]) ∈ N' → TreeIn N' vf (Tr.node op l r c way).fst → TreeIn N' vs (Tr.node op l r c way).snd → Q (.ref a) s') :
    wpAny (model pw w) A (call (.ref 307) [v]) Q E s := by
  cases hT with
  | node hm hl hr =>
  refine in307 G F R fun g L' s₁ G R F kp bk => ?_
  have hE := ek307 L'
  have Rl : Rm (A.deeper (E307 L')) (l.high + 1) := R.le (by simp only [Tr.high]; omega)
  have Rr : Rm (A.deeper (E307 L')) (r.high + 1) := R.le (by simp only [Tr.high]; omega)
  refine wpAny_execs_cons ?_
  refine wpAny_If ?_
  refine wpAny_isTrue_Compare1 ?_
  refine callG hE G F (k307_law_need _) g_law_need (ho300 P) ?_
  refine args1 (subC (nL hE F (k307_tree _) rfl fun t => ?_))
  have F := F.tk (s₁.toks + 1)
  refine itTup F hm rfl ?_
  refine ⟨F.fr.keep, need_spec l G F Rl hl fun t s F => ?_⟩
  refine callG hE G F (k307_law_need _) g_law_need (ho300 P) ?_
  refine args1 (subC (nL hE F (k307_tree _) rfl fun t => ?_))
  have F := F.tk (s.toks + 1)
  refine itTup F hm rfl ?_
  refine ⟨F.fr.keep, need_spec r G F Rr hr fun t s F => ?_⟩
  refine PyProof.Rows.lt_int ?_
  refine wpAny_truthy_bool ?_
  by_cases hc : l.need < r.need
  · rw [if_pos (show decide ((l.need : Int) < (r.need : Int)) = true by rw [decide_eq_true_eq]; omega)]
    refine wpAny_execs_cons ?_
    refine wpAny_Return_some ?_
    refine Tuple_ (args3 ?_)
    refine subC (nL hE F (k307_tree _) rfl fun t => ?_)
    have F := F.tk (s.toks + 1)
    refine itTup F hm rfl ?_
    refine subC (nL hE F (k307_tree _) rfl fun t => ?_)
    have F := F.tk (s.toks + 1 + 1)
    refine itTup F hm rfl ?_
    refine wpAny_BinOp ?_
    refine opE hop F (fun N' s' hsub F' Q' q => ?_) fun t N' s' hsub F => ?_
    · refine subC (nL hE F' (k307_tree _) rfl fun t => ?_)
      have F := F'.tk (s'.toks + 1)
      exact itTup F (hsub _ hm) rfl (q _ _ F)
    · refine cS F fun t s F => ?_
      refine catS F (by rw [opW_len]; decide +kernel) fun t s F => ?_
      refine tupN F fun a s F => ?_
      have sb : ∀ (o : Addr × Obj), ∀ p ∈ N, p ∈ o :: N' := fun o p hp => .tail _ (hsub p hp)
      simp only [Tr.fst, Tr.snd, Tr.word, if_pos hc] at k
      exact k a _ _ t _ _ (sb _) (bk _ _ _ F) (.head _) (hr.mono (sb _)) (hl.mono (sb _))
  · rw [if_neg (show ¬ (decide ((l.need : Int) < (r.need : Int)) = true) by rw [decide_eq_true_eq]; omega)]
    refine wpAny_execs_nil ?_
    refine wpAny_execs_cons ?_
    refine wpAny_Return_some ?_
    refine Tuple_ (args3 ?_)
    refine subC (nL hE F (k307_tree _) rfl fun t => ?_)
    have F := F.tk (s.toks + 1)
    refine itTup F hm rfl ?_
    refine subC (nL hE F (k307_tree _) rfl fun t => ?_)
    have F := F.tk (s.toks + 1 + 1)
    refine itTup F hm rfl ?_
    refine opE hop F (fun N' s' hsub F' Q' q => ?_) fun t N' s' hsub F => ?_
    · refine subC (nL hE F' (k307_tree _) rfl fun t => ?_)
      have F := F'.tk (s'.toks + 1)
      exact itTup F (hsub _ hm) rfl (q _ _ F)
    · refine tupN F fun a s F => ?_
      have sb : ∀ (o : Addr × Obj), ∀ p ∈ N, p ∈ o :: N' := fun o p hp => .tail _ (hsub p hp)
      simp only [Tr.fst, Tr.snd, Tr.word, if_neg hc] at k
      exact k a _ _ t _ _ (sb _) (bk _ _ _ F) (.head _) (hl.mono (sb _)) (hr.mono (sb _))
end
end Mine
end
section
open PySem PySem.W PyProof.Rows PySem.Calls PySem.Spec
set_option Elab.async false
set_option maxRecDepth 100000
namespace Mine
noncomputable def take3 (x : Str) : Str := strOf (x.cps.toList.take 3)
noncomputable def drop3 (x : Str) : Str := strOf (x.cps.toList.drop 3)
theorem take3_is (x : Str) : Txt.slice x none (some 3) = take3 x := by
  have hz : x.cps.toList.length = x.length := by rw [Array.length_toList]; rfl
  rcases Nat.lt_or_ge x.length 3 with h | h
  · have e : Txt.slice x none (some 3) = Txt.slice x none (some (x.length : Int)) := by
      have e1 : Builtin.Str.strSliceIndices none (some 3) 1 x.length = Builtin.Str.strSliceIndices none (some (x.length : Int)) 1 x.length := by
        have h0 : ¬ ((3 : Int) < 0) := by omega
        have h1 : ¬ ((x.length : Int) < 0) := by omega
        have h2 : (1 : Int) > 0 := by decide
        simp only [Builtin.Str.strSliceIndices, h0, h1, h2, if_false, if_true, Int.min_eq_right (show (x.length : Int) ≤ 3 by omega), Int.min_self]
      unfold Txt.slice
      rw [e1]
    rw [e, beq_iff_eq.mp (slice_closes_to (x := x) (j := x.length) ⟨by omega, by rw [hz]; omega⟩)]
    unfold take3 strOf
    congr 2
    simp only [Int.toNat_zero, List.drop_zero, Int.sub_zero, Int.toNat_natCast]
    rw [List.take_of_length_le (by omega), List.take_of_length_le (by omega)]
  · rw [beq_iff_eq.mp (slice_closes_to (x := x) (j := 3) ⟨by omega, by rw [hz]; omega⟩)]
    rfl
theorem drop3_is (x : Str) (h : 3 ≤ x.length) : Txt.slice x (some 3) none = drop3 x := by
  have hz : x.cps.toList.length = x.length := by rw [Array.length_toList]; rfl
  rw [slice_from_eq (b := x.length) (by omega) (by omega) rfl]
  unfold drop3 strOf
  congr 2
  exact List.take_of_length_le (by rw [List.length_drop]; show x.cps.toList.length - 3 ≤ _; omega)
section
variable {w : World} {A : Around} {E : Value → Shared → Prop} {S : Shared} {h₀ : Heap} {L : Addr} {m : Mp} {N : Led} {s : Shared} {env : Env} {prog : Program} {P : Params}
theorem evTake3 {v : Str} {kk p q r pos} {x : Str} {t : Tok} {Q : Value → Shared → Prop} (F : Fm S h₀ L m N s) (hv : ∀ Q' : Value → Shared → Prop, Q' (.str x t) s → wpAny (model prog w) A (eval (.Name v p) env) Q' E s) (hx : x.length ≤ 2 ^ 20) (k : ∀ t s', Fm S h₀ L m N s' → Q (.str (take3 x) t) s') :
    wpAny (model prog w) A (eval (.Subscript (.Name v p) (.Slice none (some (.Constant (.int 3) kk q)) none r) pos) env) Q E s := by
  refine Subscript_ (hv _ (wpAny_Slice (pAll _ (pSome _ (cI F fun u s F => ?_)))))
  refine pAll _ ?_
  refine slice_strN_ns_len F.fr F.nw (fun h' t' kk Fr' N' _ => ?_) (hsz := by show _ ≤ 2 ^ 24; omega)
  rw [take3_is]
  exact k _ _ ⟨Fr', N', F.ge, F.os⟩
theorem evDrop3 {v : Str} {kk p q r pos} {x : Str} {t : Tok} {Q : Value → Shared → Prop} (F : Fm S h₀ L m N s) (hv : ∀ Q' : Value → Shared → Prop, Q' (.str x t) s → wpAny (model prog w) A (eval (.Name v p) env) Q' E s) (hx : x.length ≤ 2 ^ 20) (h3 : 3 ≤ x.length) (k : ∀ t s', Fm S h₀ L m N s' → Q (.str (drop3 x) t) s') :
    wpAny (model prog w) A (eval (.Subscript (.Name v p) (.Slice (some (.Constant (.int 3) kk q)) none none r) pos) env) Q E s := by
  refine Subscript_ (hv _ (wpAny_Slice (pSome _ (cI F fun u s F => pAll _ ?_))))
  refine pAll _ ?_
  refine slice_strN_sn_len F.fr F.nw (fun h' t' kk Fr' N' _ => ?_) (hsz := by show _ ≤ 2 ^ 24; omega)
  rw [drop3_is _ h3]
  exact k _ _ ⟨Fr', N', F.ge, F.os⟩
noncomputable def wordOf (op : Nat) (b : Bool) : Str := if b then opW op ++ backW else opW op
theorem word_take (op : Nat) (b : Bool) : take3 (wordOf op b) = opW op := by
  match op with
  | 0 => cases b <;> decide +kernel
  | 1 => cases b <;> decide +kernel
  | 2 => cases b <;> decide +kernel
  | n + 3 => cases b <;> (show _ = opW 3) <;> (show take3 (wordOf 3 _) = _) <;> decide +kernel
theorem word_drop (op : Nat) (b : Bool) : (drop3 (wordOf op b) == backW) = b := by
  match op with
  | 0 => cases b <;> decide +kernel
  | 1 => cases b <;> decide +kernel
  | 2 => cases b <;> decide +kernel
  | n + 3 => cases b <;> (show (drop3 (wordOf 3 _) == backW) = _) <;> decide +kernel
theorem word_len (op : Nat) (b : Bool) : 3 ≤ (wordOf op b).length ∧ (wordOf op b).length ≤ 10 := by
  match op with
  | 0 => cases b <;> decide +kernel
  | 1 => cases b <;> decide +kernel
  | 2 => cases b <;> decide +kernel
  | n + 3 => cases b <;> (show 3 ≤ (wordOf 3 _).length ∧ (wordOf 3 _).length ≤ 10) <;> decide +kernel
/-- what the four ops give -/
noncomputable def opV (op : Nat) (a b : Int) : Int := match op with
  | 0 => a + b
  | 1 => a - b
  | 2 => a * b
  | _ => Builtin.bitXor a b
/-- _law_done -/
theorem done_spec {op : Nat} {b : Bool} {x y : Int} {t u v : Tok} {Q : Value → Shared → Prop} {n : Nat} (G : Gd P h₀) (F : Fm S h₀ L m N s) (R : Rm A (n + 2)) (hop : op < 4) (hm : IntMulOk (if b then y else x) (if b then x else y))
    (k : ∀ t s', Fm S h₀ L m N s' → Q (.int (opV op (if b then y else x) (if b then x else y)) t) s') : wpAny (model pw w) A (call (.ref 333) [.str (wordOf op b) t, .int x u, .int y v]) Q E s := by
  refine in333 G F R fun g L' s₁ G R F kp bk => ?_
  have hE := ek333 L'
  obtain ⟨h3, h10⟩ := word_len op b
  refine wpAny_execs_cons ?_
  refine wpAny_mono (E := noE) (Q := fun f s => f = .next ∧ ∃ m' N' t' u' v', Fm S g L' m' N' s ∧ (∀ p ∈ N, p ∈ N') ∧ m' (Str.ofString "word") = some (.str (wordOf op b) t') ∧ m' (Str.ofString "one") = some (.int (if b then y else x) u') ∧ m' (Str.ofString "two") = some (.int (if b then x else y) v')) ?_ (fun f s hs => ?_) fun _ _ z => z.elim
  · refine wpAny_If ?_
    refine wpAny_isTrue_Compare1 ?_
    refine evDrop3 F (fun Q' q => nL hE F (k333_word _) rfl q) (by omega) h3 fun t s F => ?_
    refine cS F fun t s F => ?_
    refine PyProof.Rows.eq_str ?_
    refine wpAny_truthy_bool ?_
    rw [show (drop3 (wordOf op b) == Str.ofString " back") = b from word_drop op b]
    cases b with
    | true =>
      rw [if_pos rfl]
      refine wpAny_execs_cons ?_
      refine asg2 R.hd hE (k333_one _) (k333_two _) ?_
      refine nL hE F (k333_two _) rfl ?_
      refine nL hE F (k333_one _) rfl ?_
      refine ⟨_, _, _, _, F, fun a s F => ?_⟩
      refine wpAny_execs_nil ?_
      exact ⟨rfl, _, _, _, _, _, F, fun p hp => .tail _ hp, rfl, rfl, rfl⟩
    | false =>
      rw [if_neg Bool.false_ne_true]
      refine wpAny_execs_nil ?_
      exact ⟨rfl, _, _, _, _, _, F, fun p hp => hp, rfl, rfl, rfl⟩
  clear F
  obtain ⟨rfl, m', N', t', u', v', F, hsub, hw, h1, h2⟩ := hs
  generalize (if b then y else x) = a at *
  generalize (if b then x else y) = c at *
  have hx : (wordOf op b).length ≤ 2 ^ 20 := by omega
  have e3 := word_take op b
  have fin : ∀ t s', Fm S g L' m' N' s' → Q (.int (opV op a c) t) s' := fun t s' F => k _ _ ((bk _ _ _ F).sub hsub)
  refine wpAny_execs_cons ?_
  refine wpAny_If ?_
  refine wpAny_isTrue_Compare1 ?_
  refine evTake3 F (fun Q' q => nL hE F (k333_word _) hw q) hx fun t s F => ?_
  refine cS F fun t s F => ?_
  refine PyProof.Rows.eq_str ?_
  refine wpAny_truthy_bool ?_
  rw [e3]
  have hops : op = 0 ∨ op = 1 ∨ op = 2 ∨ op = 3 := by omega
  rcases hops with rfl | rfl | rfl | rfl
  · rw [show (opW 0 == Str.ofString "add") = true by decide +kernel, if_pos rfl]
    refine wpAny_execs_cons ?_
    refine wpAny_Return_some ?_
    refine callG hE G F (k333_add _) g_add (ho81 P) ?_
    refine args2 (nL hE F (k333_one _) h1 (nL hE F (k333_two _) h2 ?_))
    exact ⟨F.fr.keep, opAdd (n := n) G F R fun t s F => fin _ _ F⟩
  · rw [show (opW 1 == Str.ofString "add") = false by decide +kernel, if_neg Bool.false_ne_true]
    refine wpAny_execs_nil ?_
    refine wpAny_execs_cons ?_
    refine wpAny_If ?_
    refine wpAny_isTrue_Compare1 ?_
    refine evTake3 F (fun Q' q => nL hE F (k333_word _) hw q) hx fun t s F => ?_
    refine cS F fun t s F => ?_
    refine PyProof.Rows.eq_str ?_
    refine wpAny_truthy_bool ?_
    rw [e3, show (opW 1 == Str.ofString "sub") = true by decide +kernel, if_pos rfl]
    refine wpAny_execs_cons ?_
    refine wpAny_Return_some ?_
    refine callG hE G F (k333_sub _) g_sub (ho95 P) ?_
    refine args2 (nL hE F (k333_one _) h1 (nL hE F (k333_two _) h2 ?_))
    exact ⟨F.fr.keep, opSub (n := n) G F R fun t s F => fin _ _ F⟩
  · rw [show (opW 2 == Str.ofString "add") = false by decide +kernel, if_neg Bool.false_ne_true]
    refine wpAny_execs_nil ?_
    refine wpAny_execs_cons ?_
    refine wpAny_If ?_
    refine wpAny_isTrue_Compare1 ?_
    refine evTake3 F (fun Q' q => nL hE F (k333_word _) hw q) hx fun t s F => ?_
    refine cS F fun t s F => ?_
    refine PyProof.Rows.eq_str ?_
    refine wpAny_truthy_bool ?_
    rw [e3, show (opW 2 == Str.ofString "sub") = false by decide +kernel, if_neg Bool.false_ne_true]
    refine wpAny_execs_nil ?_
    refine wpAny_execs_cons ?_
    refine wpAny_Return_some ?_
    refine wpAny_IfExp ?_
    refine wpAny_isTrue_Compare1 ?_
    refine evTake3 F (fun Q' q => nL hE F (k333_word _) hw q) hx fun t s F => ?_
    refine cS F fun t s F => ?_
    refine PyProof.Rows.eq_str ?_
    refine wpAny_truthy_bool ?_
    rw [e3, show (opW 2 == Str.ofString "mul") = true by decide +kernel, if_pos rfl]
    refine callG hE G F (k333_mul _) g_mul (ho88 P) ?_
    refine args2 (nL hE F (k333_one _) h1 (nL hE F (k333_two _) h2 ?_))
    exact ⟨F.fr.keep, opMul (n := n) G F R hm fun t s F => fin _ _ F⟩
  · rw [show (opW 3 == Str.ofString "add") = false by decide +kernel, if_neg Bool.false_ne_true]
    refine wpAny_execs_nil ?_
    refine wpAny_execs_cons ?_
    refine wpAny_If ?_
    refine wpAny_isTrue_Compare1 ?_
    refine evTake3 F (fun Q' q => nL hE F (k333_word _) hw q) hx fun t s F => ?_
    refine cS F fun t s F => ?_
    refine PyProof.Rows.eq_str ?_
    refine wpAny_truthy_bool ?_
    rw [e3, show (opW 3 == Str.ofString "sub") = false by decide +kernel, if_neg Bool.false_ne_true]
    refine wpAny_execs_nil ?_
    refine wpAny_execs_cons ?_
    refine wpAny_Return_some ?_
    refine wpAny_IfExp ?_
    refine wpAny_isTrue_Compare1 ?_
    refine evTake3 F (fun Q' q => nL hE F (k333_word _) hw q) hx fun t s F => ?_
    refine cS F fun t s F => ?_
    refine PyProof.Rows.eq_str ?_
    refine wpAny_truthy_bool ?_
    rw [e3, show (opW 3 == Str.ofString "mul") = false by decide +kernel, if_neg Bool.false_ne_true]
    refine callG hE G F (k333_xor _) g_xor (ho102 P) ?_
    refine args2 (nL hE F (k333_one _) h1 (nL hE F (k333_two _) h2 ?_))
    exact ⟨F.fr.keep, opXor (n := n) G F R fun t s F => fin _ _ F⟩
end
end Mine
end
section
open PySem PySem.W PyProof.Rows PySem.Calls PySem.Spec
set_option Elab.async false
set_option maxRecDepth 100000
namespace Mine
noncomputable def Tr.worth : Tr → Int
  | .leaf v _ => v
  | .node op l r _ _ => opV op l.worth r.worth
noncomputable def Tr.fine : Tr → Prop
  | .leaf _ _ => True
  | .node op l r _ _ => op < 4 ∧ IntMulOk l.worth r.worth ∧ l.fine ∧ r.fine
section
variable {w : World} {P : Params}
theorem args4 {M : Model} {A : Around} {E : Value → Shared → Prop} {s : Shared} {env : Env} {e e' e'' e4 : Expr} {pos : Pos} {Q : List Value → Shared → Prop} (h : wpAny M A (eval e env) (fun v s₁ => wpAny M A (eval e' env) (fun v' s₂ => wpAny M A (eval e'' env) (fun v'' s₃ => wpAny M A (eval e4 env) (fun v4 s₄ => Q [v, v', v'', v4] s₄) E s₃) E s₂) E s₁) E s)
    (he : starEach [e, e', e'', e4] env = [(false, eval e env), (false, eval e' env), (false, eval e'' env), (false, eval e4 env)] := by rfl) : wpAny M A (spliced (backTo pos (starEach [e, e', e'', e4] env))) Q E s := by
  rw [he]; exact spliced_cons (wpAny_mono h (fun v s₁ h₁ => spliced_cons (wpAny_mono h₁ (fun v' s₂ h₂ => spliced_cons (wpAny_mono h₂ (fun v'' s₃ h₃ => spliced_cons (wpAny_mono h₃ (fun v4 s₄ h₄ => spliced_nil h₄) fun _ _ x => x)) fun _ _ x => x)) fun _ _ x => x)) fun _ _ x => x)
theorem worth_spec : ∀ (t : Tr) {A : Around} {E : Value → Shared → Prop} {S : Shared} {h₀ : Heap} {L : Addr} {m : Mp} {N : Led} {s : Shared} {Q : Value → Shared → Prop} {v : Value},
    Gd P h₀ → Fm S h₀ L m N s → Rm A (t.high + 2) → TreeIn N v t → t.fine → (∀ k s', Fm S h₀ L m N s' → Q (.int t.worth k) s') → wpAny (model pw w) A (call (.ref 352) [v]) Q E s := by
  intro t
  induction t with
  | leaf x c =>
    intro A E S h₀ L m N s Q v G F R hT hf k
    cases hT with
    | leaf hm =>
    refine in352 G F R fun g L' s₁ G R' F kp bk => ?_
    have hE := ek352 L'
    refine wpAny_execs_cons ?_
    refine wpAny_If ?_
    refine wpAny_isTrue_Compare1 ?_
    refine callGb hE G F (k352_len _) b_len bb_len ?_
    refine args1 ?_
    refine nL hE F (k352_tree _) rfl ?_
    refine lenTup F hm fun _ _ F => ?_
    refine cI F fun _ _ F => ?_
    refine eq_int ?_
    refine wpAny_truthy_bool ?_
    refine wpAny_execs_cons ?_
    refine wpAny_Return_some ?_
    refine subC (nL hE F (k352_tree _) rfl fun t => ?_)
    refine itTup (F.tk _) hm rfl ?_
    exact k _ _ (bk _ _ _ (F.tk _))
  | node op l r c way ihl ihr =>
    intro A E S h₀ L m N s Q v G F R hT hf k
    obtain ⟨hop, hmul, hfl, hfr⟩ := hf
    cases hT with
    | node hm hl hr =>
    refine in352 G F R fun g L' s₁ G R' F kp bk => ?_
    have hE := ek352 L'
    have Rl : Rm (A.deeper (E352 L')) (l.high + 2) := R'.le (by simp only [Tr.high]; omega)
    have Rr : Rm (A.deeper (E352 L')) (r.high + 2) := R'.le (by simp only [Tr.high]; omega)
    refine wpAny_execs_cons ?_
    refine wpAny_If ?_
    refine wpAny_isTrue_Compare1 ?_
    refine callGb hE G F (k352_len _) b_len bb_len ?_
    refine args1 ?_
    refine nL hE F (k352_tree _) rfl ?_
    refine lenTup F hm fun _ _ F => ?_
    refine cI F fun _ _ F => ?_
    refine eq_int ?_
    refine wpAny_truthy_bool ?_
    refine wpAny_execs_nil ?_
    refine wpAny_execs_cons ?_
    refine asg2 R'.hd hE (k352_one _) (k352_two _) ?_
    refine callG hE G F (k352_law_worth _) g_law_worth (ho352 P) ?_
    refine args1 (subC (nL hE F (k352_tree _) rfl fun t => ?_))
    refine itTup (F.tk _) hm rfl ?_
    refine ⟨F.fr.keep, ihl G (F.tk _) Rl hl hfl fun t s F => ?_⟩
    refine callG hE G F (k352_law_worth _) g_law_worth (ho352 P) ?_
    refine args1 (subC (nL hE F (k352_tree _) rfl fun t => ?_))
    refine itTup (F.tk _) hm rfl ?_
    refine ⟨F.fr.keep, ihr G (F.tk _) Rr hr hfr fun t s F => ?_⟩
    refine ⟨_, _, _, _, F, fun a s F => ?_⟩
    rw [up_lk, up_lk] at F
    refine wpAny_execs_cons ?_
    refine wpAny_Return_some ?_
    refine Subscript_ ?_
    refine List_ (args4 ?_)
    refine wpAny_BinOp (nL hE F (k352_one _) rfl (nL hE F (k352_two _) rfl (PyProof.Rows.add_int ?_)))
    have F := F.tk (s.toks + 1)
    refine wpAny_BinOp (nL hE F (k352_one _) rfl (nL hE F (k352_two _) rfl (PyProof.Rows.sub_int ?_)))
    have F := F.tk (s.toks + 1 + 1)
    refine wpAny_BinOp (nL hE F (k352_one _) rfl (nL hE F (k352_two _) rfl (PyProof.Rows.mul_int ?_ hmul)))
    have F := F.tk (s.toks + 1 + 1 + 1)
    refine wpAny_BinOp (nL hE F (k352_one _) rfl (nL hE F (k352_two _) rfl (PyProof.Rows.xor_int ?_)))
    have F := F.tk (s.toks + 1 + 1 + 1 + 1)
    refine lstN F fun d s F => ?_
    refine subC (nL hE F (k352_tree _) rfl fun t => ?_)
    refine itTup (F.tk _) (.tail _ (.tail _ hm)) rfl ?_
    have fin : ∀ (m' : Mp) (l' : Led) (t : Tok) (s' : Shared), (∀ p ∈ N, p ∈ l') → Fm S g L' m' l' s' → Q (.int (Tr.node op l r c way).worth t) s' := fun m' l' t s' hs F => k _ _ ((bk _ _ _ F).sub hs)
    have hops : op = 0 ∨ op = 1 ∨ op = 2 ∨ op = 3 := by omega
    rcases hops with rfl | rfl | rfl | rfl
    · exact itLst (F.tk _) (.head _) rfl (by omega) (by omega) (fin _ _ _ _ (fun p hp => .tail _ (.tail _ hp)) (F.tk _))
    · exact itLst (F.tk _) (.head _) rfl (by omega) (by omega) (fin _ _ _ _ (fun p hp => .tail _ (.tail _ hp)) (F.tk _))
    · exact itLst (F.tk _) (.head _) rfl (by omega) (by omega) (fin _ _ _ _ (fun p hp => .tail _ (.tail _ hp)) (F.tk _))
    · exact itLst (F.tk _) (.head _) rfl (by omega) (by omega) (fin _ _ _ _ (fun p hp => .tail _ (.tail _ hp)) (F.tk _))
end
end Mine
end
section
open PySem PySem.W PyProof.Rows PySem.Calls PySem.Spec
set_option Elab.async false
set_option maxRecDepth 100000
namespace Mine
noncomputable def dots (k : Nat) : Str := strOf (List.replicate k 46)
noncomputable def intS (v : Int) : Str := Str.ofString (toString v)
theorem dots_len (k : Nat) : (dots k).length = k := by show (List.replicate k 46).toArray.size = k; simp
theorem dotMul (k : Nat) (h : 2 ≤ k) : (⟨(List.replicate k (Str.ofString ".").cps).foldl (· ++ ·) #[]⟩ : Str) = dots k := by
  unfold dots strOf
  congr 1
  have key : ∀ (n : Nat) (acc : Array Nat), (List.replicate n (Str.ofString ".").cps).foldl (· ++ ·) acc = acc ++ (List.replicate n 46).toArray := by
    intro n
    induction n with
    | zero => intro acc; simp
    | succ n ih =>
      intro acc
      rw [List.replicate_succ, List.foldl_cons, ih, List.replicate_succ, show (Str.ofString ".").cps = #[46] by decide +kernel]
      apply Array.toList_inj.mp
      simp
  rw [key]; simp
/-- the rows that the tree stands for -/
noncomputable def Tr.rows : Tr → Nat → List (Str × Str)
  | .leaf v c, d => [(dots d ++ c, intS v)]
  | .node op l r c _, d => (if l.need < r.need then r.rows d ++ l.rows (d + 1) else l.rows d ++ r.rows (d + 1)) ++ [(dots d ++ c, (Tr.node op l r c 0).word)]
noncomputable def Tr.small : Tr → Prop
  | .leaf v c => v.natAbs ≤ 1000 ∧ c.length ≤ 10
  | .node op l r c _ => op < 4 ∧ l.small ∧ r.small ∧ c.length ≤ 10
noncomputable def Tr.nodes : Tr → Nat
  | .leaf _ _ => 1
  | .node _ l r _ _ => l.nodes + r.nodes + 1
theorem rows_len : ∀ (t : Tr) (d : Nat), (t.rows d).length = t.nodes := by
  intro t
  induction t with
  | leaf v c => intro d; rfl
  | node op l r c way ihl ihr =>
    intro d
    unfold Tr.rows Tr.nodes
    split <;> simp [ihl, ihr] <;> omega
section
variable {w : World} {A : Around} {E : Value → Shared → Prop} {S : Shared} {h₀ : Heap} {L : Addr} {m : Mp} {N : Led} {s : Shared} {env : Env} {prog : Program} {P : Params}
theorem mulDots {k : Nat} {t u : Tok} {Q : Value → Shared → Prop} (F : Fm S h₀ L m N s) (hk : k ≤ 1000) (q : ∀ t s', Fm S h₀ L m N s' → Q (.str (dots k) t) s') : wpAny (model prog w) A (binaryOp .Mult (.str (Str.ofString ".") t) (.int k u)) Q E s := by
  have h1 : (Str.ofString ".").length = 1 := by decide +kernel
  refine PySem.P.mul_str (by simp; omega) (fun a b => ?_) (fun a b => ?_) ?_
  · rw [h1]
    have : (1 : Int) ≤ (2 ^ 63 - 1) / (k : Int) := by
      apply (Int.le_ediv_iff_mul_le (by omega)).mpr
      omega
    omega
  · rw [h1]; exact decide_eq_false (by show ¬ (_ > 2 ^ 24); simp; omega)
  · rcases Nat.lt_or_ge k 1 with c | c
    · rw [if_pos (by omega)]
      have : k = 0 := by omega
      subst this
      exact ⟨by decide +kernel, q _ _ (F.tk _)⟩
    · rw [if_neg (by omega)]
      rcases Nat.lt_or_ge k 2 with c2 | c2
      · have : k = 1 := by omega
        subst this
        rw [if_pos (by decide +kernel)]
        have e : dots 1 = Str.ofString "." := by decide +kernel
        rw [e] at q
        exact q _ _ F
      · rw [if_neg (by rw [h1]; simp; omega)]
        rw [Int.toNat_natCast, dotMul k c2]
        refine ⟨?_, q _ _ (F.tk _)⟩
        show (dots k).length ≤ _
        rw [dots_len]; show _ ≤ 2 ^ 24; omega
theorem log2_small {v : Int} (h : v.natAbs ≤ 10 ^ 30) : v.natAbs.log2 < 1920 := by
  rcases Nat.eq_zero_or_pos v.natAbs with h0 | h0
  · rw [h0]; decide
  · exact Nat.lt_of_lt_of_le ((Nat.log2_lt (by omega)).mpr (Nat.lt_of_le_of_lt h (show 10 ^ 30 < 2 ^ 100 by decide))) (by decide)
theorem strInt {v : Int} {t : Tok} {Q : Value → Shared → Prop} (F : Fm S h₀ L m N s) (hv : v.natAbs ≤ 10 ^ 30) (q : ∀ t s', Fm S h₀ L m N s' → Q (.str (intS v) t) s') : wpAny (model prog w) A (call (.type "str") [.int v t]) Q E s :=
  PySem.P.str_of_int (log2_small hv) (q _ _ (F.tk _))
inductive Asg3Req (L : Addr) (a b c : Str) (Q : Flow → Shared → Prop) (x : Value) (s₁ : Shared) : Prop
  | mk (S : Shared) (h₀ : Heap) (m : Mp) (N : Led) (d : Addr) (v v' v'' : Value) : x = .ref d → Fm S h₀ L m N s₁ → (d, tupO [v, v', v'']) ∈ N → (∀ s', Fm S h₀ L (up (up (up m a v) b v') c v'') N s' → Q .next s') → Asg3Req L a b c Q x s₁
theorem asgT3 {a b c : Str} {p q r pos tp : Pos} {k : Nat} {e : Expr} {Q : Flow → Shared → Prop} (hh : A.handled = none) (hE : EnvOk env L) (ha : env.kindOf a = some .local) (hb : env.kindOf b = some .local) (hc : env.kindOf c = some .local)
    (h : wpAny (model prog w) A (eval e env) (fun x s₁ => Asg3Req L a b c Q x s₁) E s)
    (hs : swapsWithSole [.Tuple [.Name a p, .Name b q, .Name c r] k tp] e pos.line env = pure false := by rfl) (hw : swappedStores [.Tuple [.Name a p, .Name b q, .Name c r] k tp] e env = pure none := by rfl) :
    wpAny (model prog w) A (exec (.Assign [.Tuple [.Name a p, .Name b q, .Name c r] k tp] e pos) env) Q E s := by
  refine Assign_Tuple (wpAny_mono h (fun x s₁ h₁ => ?_) fun _ _ z => z) hs hw
  obtain ⟨S, h₀, m, N, d, v, v', v'', rfl, F, hd, qq⟩ := h₁
  show wpAny _ _ (do standAt tp; unpack (.ref d) (assignEach [.Name a p, .Name b q, .Name c r] env)) _ _ _
  refine wpAny_bind (wpAny_standAt ?_)
  unfold unpack
  refine wpAny_bind (wpAny_holding (unpk (vs := [v, v', v'']) hh F hd rfl fun s' F => ?_))
  refine wpAny_assignInOrder_more (wpAny_bind (wpAny_standAt (bn hE F ha fun s' F => ?_)))
  refine wpAny_assignInOrder_more (wpAny_bind (wpAny_standAt (bn hE F hb fun s' F => ?_)))
  refine wpAny_assignInOrder_more (wpAny_bind (wpAny_standAt (bn hE F hc fun s' F => ?_)))
  exact wpAny_pure (qq _ F)
end
end Mine
end
section
open PySem PySem.W PyProof.Rows PySem.Calls PySem.Spec
set_option Elab.async false
set_option maxRecDepth 100000
namespace Mine
theorem app_len (a b : Str) : (a ++ b).length = a.length + b.length := by show (a.cps ++ b.cps).size = _; rw [Array.size_append]; rfl
section
variable {w : World} {P : Params}
theorem rows_spec : ∀ (t : Tr) (d : Nat) {A : Around} {E : Value → Shared → Prop} {S : Shared} {h₀ : Heap} {L : Addr} {m : Mp} {N : Led} {s : Shared} {Q : Value → Shared → Prop} {v : Value} {u : Tok},
    Gd P h₀ → Fm S h₀ L m N s → Rm A (t.high + 3) → TreeIn N v t → t.small → d + t.high ≤ 100 → t.nodes ≤ 100 →
    (∀ a vs N' s', Fm S h₀ L m N' s' → (∀ p ∈ N, p ∈ N') → (a, lstO vs) ∈ N' → RowsIn N' vs (t.rows d) → Q (.ref a) s') → wpAny (model pw w) A (call (.ref 326) [v, .int d u]) Q E s := by
  intro t
  induction t with
  | leaf x c =>
    intro d A E S h₀ L m N s Q v u G F R hT hf hd hn k
    cases hT with
    | leaf hm =>
    refine in326 G F R fun g L' s₁ G R' F kp bk => ?_
    have hE := ek326 L'
    refine wpAny_execs_cons ?_
    refine wpAny_If ?_
    refine wpAny_isTrue_Compare1 ?_
    refine callGb hE G F (k326_len _) b_len bb_len ?_
    refine args1 ?_
    refine nL hE F (k326_tree _) rfl ?_
    refine lenTup F hm fun _ _ F => ?_
    refine cI F fun _ _ F => ?_
    refine eq_int ?_
    refine wpAny_truthy_bool ?_
    refine wpAny_execs_cons ?_
    refine wpAny_Return_some ?_
    refine List_ (args1 (Tuple_ (args2 ?_)))
    refine wpAny_BinOp (wpAny_BinOp (cS F fun t s F => nL hE F (k326_deep _) rfl (mulDots F (by omega) fun t s F => ?_)))
    refine subC (nL hE F (k326_tree _) rfl fun t => ?_)
    refine itTup (F.tk _) hm rfl ?_
    refine catS (F.tk _) (by rw [dots_len]; have := hf.2; omega) fun t s F => ?_
    refine callGt hE G F (k326_str _) b_str bb_str ?_
    refine args1 (subC (nL hE F (k326_tree _) rfl fun t => ?_))
    refine itTup (F.tk _) hm rfl ?_
    refine strInt (F.tk _) (by have := hf.1; omega) fun t s F => ?_
    refine tupN F fun b s F => ?_
    refine lstN F fun a s F => ?_
    exact k a _ _ _ (bk _ _ _ F) (fun p hp => .tail _ (.tail _ hp)) (.head _) (.cons (.tail _ (.head _)) .nil)
  | node op l r c way ihl ihr =>
    intro d A E S h₀ L m N s Q v u G F R hT hf hd hn k
    obtain ⟨hop, hfl, hfr, hc⟩ := id hf
    have hT0 := hT
    cases hT with
    | @node ta _ _ _ _ _ _ _ _ _ _ hm hl hr =>
    refine in326 G F R fun g L' s₁ G R' F kp bk => ?_
    have hE := ek326 L'
    have Rl : Rm (A.deeper (E326 L')) (l.high + 3) := R'.le (by simp only [Tr.high]; omega)
    have Rr : Rm (A.deeper (E326 L')) (r.high + 3) := R'.le (by simp only [Tr.high]; omega)
    have Rh : Rm (A.deeper (E326 L')) ((Tr.node op l r c way).high + 1) := R'.le (by omega)
    have hdl : d + 1 + l.high ≤ 100 := by simp only [Tr.high] at hd; omega
    have hdr : d + 1 + r.high ≤ 100 := by simp only [Tr.high] at hd; omega
    have hnl : l.nodes + r.nodes + 1 ≤ 100 := hn
    refine wpAny_execs_cons ?_
    refine wpAny_If ?_
    refine wpAny_isTrue_Compare1 ?_
    refine callGb hE G F (k326_len _) b_len bb_len ?_
    refine args1 ?_
    refine nL hE F (k326_tree _) rfl ?_
    refine lenTup F hm fun _ _ F => ?_
    refine cI F fun _ _ F => ?_
    refine eq_int ?_
    refine wpAny_truthy_bool ?_
    refine wpAny_execs_nil ?_
    refine wpAny_execs_cons ?_
    refine asgT3 R'.hd hE (k326_first _) (k326_second _) (k326_word _) ?_
    refine callG hE G F (k326_law_hands _) g_law_hands (ho307 P) ?_
    refine args1 (nL hE F (k326_tree _) rfl ?_)
    refine ⟨F.fr.keep, hands_spec G F Rh hT0 hop fun h vf vs t N₁ s hs₁ F hh hf1 hf2 => ?_⟩
    refine ⟨_, _, _, _, _, _, _, _, rfl, F, hh, fun s F => ?_⟩
    rw [up_lk, up_lk, up_lk] at F
    refine wpAny_execs_cons ?_
    refine wpAny_Return_some ?_
    refine wpAny_BinOp ?_
    refine wpAny_mono (E := noE) (Q := fun y s => ∃ a ws N₂ M t', y = .ref a ∧ Fm S g L' M N₂ s ∧ M (Str.ofString "tree") = some (.ref ta) ∧ M (Str.ofString "deep") = some (.int d u) ∧ M (Str.ofString "word") = some (.str (Tr.node op l r c way).word t') ∧ (∀ p ∈ N₁, p ∈ N₂) ∧ (a, lstO ws) ∈ N₂ ∧
      RowsIn N₂ ws (if l.need < r.need then r.rows d ++ l.rows (d + 1) else l.rows d ++ r.rows (d + 1))) ?_ (fun y s hy => ?_) fun _ _ z => z.elim
    · refine wpAny_BinOp ?_
      by_cases hc' : l.need < r.need
      · simp only [Tr.fst, Tr.snd, if_pos hc'] at hf1 hf2
        simp only [if_pos hc']
        refine callG hE G F (k326_law_rows _) g_law_rows (ho326 P) ?_
        refine args2 (nL hE F (k326_first _) rfl (nL hE F (k326_deep _) rfl ?_))
        refine ⟨F.fr.keep, ihr d G F Rr hf1 hfr (by omega) (by omega) fun a1 ws1 N₂ s F hs2 ha1 hr1 => ?_⟩
        refine callG hE G F (k326_law_rows _) g_law_rows (ho326 P) ?_
        refine args2 (nL hE F (k326_second _) rfl (wpAny_BinOp (nL hE F (k326_deep _) rfl (cI F fun t s F => PyProof.Rows.add_int ?_))))
        rw [show ((d : Int) + 1) = ((d + 1 : Nat) : Int) by omega]
        refine ⟨(F.tk (s.toks + 1)).fr.keep, ihl (d + 1) G (F.tk _) Rl (hf2.mono hs2) hfl hdl (by omega) fun a2 ws2 N₃ s F hs3 ha2 hr2 => ?_⟩
        have l1 := hr1.length; have l2 := hr2.length
        rw [rows_len] at l1 l2
        refine catLst F (hs3 _ ha1) ha2 (by show _ ≤ 2 ^ 24; omega) fun a3 s F => ?_
        exact ⟨_, _, _, _, _, rfl, F, rfl, rfl, rfl, fun p hp => .tail _ (hs3 _ (hs2 _ hp)), .head _, RowsIn.append (hr1.mono fun p hp => .tail _ (hs3 _ hp)) (hr2.mono fun p hp => .tail _ hp)⟩
      · simp only [Tr.fst, Tr.snd, if_neg hc'] at hf1 hf2
        simp only [if_neg hc']
        refine callG hE G F (k326_law_rows _) g_law_rows (ho326 P) ?_
        refine args2 (nL hE F (k326_first _) rfl (nL hE F (k326_deep _) rfl ?_))
        refine ⟨F.fr.keep, ihl d G F Rl hf1 hfl (by omega) (by omega) fun a1 ws1 N₂ s F hs2 ha1 hr1 => ?_⟩
        refine callG hE G F (k326_law_rows _) g_law_rows (ho326 P) ?_
        refine args2 (nL hE F (k326_second _) rfl (wpAny_BinOp (nL hE F (k326_deep _) rfl (cI F fun t s F => PyProof.Rows.add_int ?_))))
        rw [show ((d : Int) + 1) = ((d + 1 : Nat) : Int) by omega]
        refine ⟨(F.tk (s.toks + 1)).fr.keep, ihr (d + 1) G (F.tk _) Rr (hf2.mono hs2) hfr hdr (by omega) fun a2 ws2 N₃ s F hs3 ha2 hr2 => ?_⟩
        have l1 := hr1.length; have l2 := hr2.length
        rw [rows_len] at l1 l2
        refine catLst F (hs3 _ ha1) ha2 (by show _ ≤ 2 ^ 24; omega) fun a3 s F => ?_
        exact ⟨_, _, _, _, _, rfl, F, rfl, rfl, rfl, fun p hp => .tail _ (hs3 _ (hs2 _ hp)), .head _, RowsIn.append (hr1.mono fun p hp => .tail _ (hs3 _ hp)) (hr2.mono fun p hp => .tail _ hp)⟩
    · obtain ⟨a, ws, N₂, M, t', rfl, F, m1, m2, m3, hs2, ha, hrw⟩ := hy
      refine List_ (args1 (Tuple_ (args2 ?_)))
      refine wpAny_BinOp (wpAny_BinOp (cS F fun t s F => nL hE F (k326_deep _) m2 (mulDots F (by omega) fun t s F => ?_)))
      refine subC (nL hE F (k326_tree _) m1 fun t => ?_)
      refine itTup (F.tk _) (hs2 _ (hs₁ _ hm)) rfl ?_
      refine catS (F.tk _) (by rw [dots_len]; omega) fun t s F => ?_
      refine nL hE F (k326_word _) m3 ?_
      refine tupN F fun b s F => ?_
      refine lstN F fun e s F => ?_
      have lw := hrw.length
      have hlen : ws.length ≤ 100 := by
        rw [lw]; split <;> rw [List.length_append, rows_len, rows_len] <;> omega
      refine catLst F (.tail _ (.tail _ ha)) (.head _) (by show _ + 1 ≤ 2 ^ 24; omega) fun z s F => ?_
      refine k z _ _ _ (bk _ _ _ F) (fun p hp => .tail _ (.tail _ (.tail _ (hs2 _ (hs₁ _ hp))))) (.head _) ?_
      refine RowsIn.append (hrw.mono fun p hp => .tail _ (.tail _ (.tail _ hp))) (.cons (.tail _ (.tail _ (.head _))) .nil)
end
end Mine
end
section
open PySem PySem.W PyProof.Rows PySem.Calls PySem.Spec PySem.StrLaws PySem.Builtin PySem.Builtin.Str
set_option Elab.async false
set_option maxRecDepth 100000
namespace Mine
noncomputable def sep2 (a b : Nat) : Str := ⟨#[a, b]⟩
noncomputable def joinN (a b : Nat) : List (List Nat) → List Nat
  | [] => []
  | [l] => l
  | l :: r => l ++ a :: b :: joinN a b r
theorem at_head {x : Str} {a b k : Nat} (h : At x (sep2 a b) x.length k) : (x.cps.toList.drop k).take 2 = [a, b] := by
  have := h.2
  rw [subAt_eq] at this
  exact eq_of_beq this
theorem no_at {x : Str} {a b A k : Nat} {l : List Nat} (hx : x.cps.toList.drop A = l) (ha : a ∉ l) (hk : A ≤ k) : ¬ At x (sep2 a b) x.length k := fun h => by
  have h2 := at_head h
  have e : x.cps.toList.drop k = l.drop (k - A) := by rw [← hx, List.drop_drop]; congr 1; omega
  rw [e] at h2
  have : a ∈ (l.drop (k - A)).take 2 := by rw [h2]; exact .head _
  exact ha (List.mem_of_mem_drop (List.mem_of_mem_take this))
theorem uniq {x : Str} {a b : Nat} : ∀ (ls : List (List Nat)) (A : Nat) (cuts : List Nat) (f : Nat), ls ≠ [] → (∀ l ∈ ls, a ∉ l) → x.cps.toList.drop A = joinN a b ls → A ≤ x.length → ChainG x (sep2 a b) x.length A cuts f → (∀ k, f ≤ k → ¬ At x (sep2 a b) x.length k) →
    partsFrom x 2 A cuts = ls.map strOf := by
  intro ls
  induction ls with
  | nil => intro A cuts f h; exact absurd rfl h
  | cons l r ih =>
    intro A cuts f _ ha hx hA hc hf
    have hlen : x.cps.toList.length = x.length := by rw [Array.length_toList]; rfl
    cases r with
    | nil =>
      have hx' : x.cps.toList.drop A = l := hx
      have hn := fun k hk => no_at (b := b) (k := k) hx' (ha l (.head _)) hk
      cases cuts with
      | nil =>
        show [strSub x A x.length] = [strOf l]
        congr 1
        apply str_ext
        rw [strSub_toList, strOf_cps, ← hx']
        exact List.take_of_length_le (by rw [List.length_drop, hlen]; exact Nat.le_refl _)
      | cons c r => exact absurd hc.2.1 (hn c hc.1)
    | cons l2 r =>
      have hx' : x.cps.toList.drop A = l ++ a :: b :: joinN a b (l2 :: r) := hx
      have hatl : At x (sep2 a b) x.length (A + l.length) := by
        refine ⟨?_, ?_⟩
        · have := congrArg List.length hx'
          rw [List.length_drop, hlen] at this
          simp at this
          show A + l.length + 2 ≤ x.length
          omega
        · rw [subAt_eq]
          have e : x.cps.toList.drop (A + l.length) = a :: b :: joinN a b (l2 :: r) := by
            rw [← List.drop_drop, hx', List.drop_left]
          rw [e]
          exact beq_self_eq_true _
      cases cuts with
      | nil =>
        have e : f = A := hc
        exact absurd hatl (hf _ (by omega))
      | cons c r' =>
        obtain ⟨c1, c2, c3, c4⟩ := hc
        have hcl : c = A + l.length := by
          rcases Nat.lt_trichotomy c (A + l.length) with h | h | h
          · have h2 := at_head c2
            have e : x.cps.toList.drop c = (l ++ a :: b :: joinN a b (l2 :: r)).drop (c - A) := by rw [← hx', List.drop_drop]; congr 1; omega
            rw [e, List.drop_append_of_le_length (by omega)] at h2
            have hne : l.drop (c - A) ≠ [] := by
              intro h0
              have := congrArg List.length h0
              rw [List.length_drop] at this
              simp at this; omega
            obtain ⟨z, zs, hz⟩ := List.exists_cons_of_ne_nil hne
            rw [hz] at h2
            have hza : z = a := by
              have := congrArg List.head? h2
              simpa using this
            exact absurd (List.mem_of_mem_drop (show a ∈ l.drop (c - A) by rw [hz, hza]; exact .head _)) (ha l (.head _))
          · exact h
          · exact absurd hatl (c3 _ (by omega) h)
        subst hcl
        show strSub x A (A + l.length) :: partsFrom x 2 (A + l.length + 2) r' = strOf l :: (l2 :: r).map strOf
        have hd : x.cps.toList.drop (A + l.length + 2) = joinN a b (l2 :: r) := by
          rw [← List.drop_drop, ← List.drop_drop, hx', List.drop_left]; rfl
        congr 1
        · apply str_ext
          rw [strSub_toList, strOf_cps, hx', show A + l.length - A = l.length by omega]
          exact List.take_left
        · exact ih (A + l.length + 2) r' f (by simp) (fun y hy => ha y (.tail _ hy)) hd hatl.1 c4 hf
theorem kind1 (x : Str) {a b : Nat} (ha : a < 256) (hb : b < 256) : ¬ (Builtin.Str.strKind x < Builtin.Str.strKind (sep2 a b)) := by
  have e : Builtin.Str.strKind (sep2 a b) = 1 := by
    unfold Builtin.Str.strKind sep2
    rw [if_pos (by simp [ha, hb])]
  rw [e]
  unfold Builtin.Str.strKind
  split
  · omega
  · split <;> omega
/-- a text joined from rows without the first sign of the joiner is split into them -/
theorem split2 {x : Str} {a b : Nat} (h1 : a < 256) (h2 : b < 256) (ls : List (List Nat)) (h0 : ls ≠ []) (ha : ∀ l ∈ ls, a ∉ l) (hx : x.cps.toList = joinN a b ls) : Txt.split x (sep2 a b) = ls.map strOf := by
  have whole : [x] = partsFrom x 2 0 [] := by
    show [x] = [strSub x 0 x.length]
    rw [sub_whole]
  have one : (∀ k, ¬ At x (sep2 a b) x.length k) → [x] = ls.map strOf := fun hn => by
    rw [whole]
    exact uniq ls 0 [] 0 h0 ha (by simpa using hx) (Nat.zero_le _) rfl fun k _ => hn k
  unfold Txt.split
  split
  · rename_i hc
    refine one fun k hk => ?_
    rw [Bool.or_eq_true, decide_eq_true_eq, decide_eq_true_eq] at hc
    rcases hc with hc | hc
    · have := hk.1; omega
    · exact kind1 x h1 h2 hc
  · obtain ⟨f, hch, hf⟩ := occ_tight x (sep2 a b) (by show 1 ≤ 2; omega)
    split
    · rename_i hc
      rw [List.isEmpty_iff] at hc
      rw [hc] at hch
      have e : f = 0 := hch
      exact one fun k => hf k (by omega)
    · rw [partsBetween_eq]
      exact uniq ls 0 _ f h0 ha (by simpa using hx) (Nat.zero_le _) hch hf
end Mine
end
section
open PySem PySem.W PyProof.Rows PySem.Calls PySem.Spec
set_option Elab.async false
set_option maxRecDepth 100000
namespace Mine
theorem fix_line : ∀ (l rest : List Nat), 10 ∉ l → 13 ∉ l → fixL (l ++ rest) = l ++ fixL rest := by
  intro l
  induction l with
  | nil => intro rest _ _; rfl
  | cons c r ih =>
    intro rest h1 h2
    have c1 : c ≠ 10 := fun e => h1 (e ▸ .head _)
    have c2 : c ≠ 13 := fun e => h2 (e ▸ .head _)
    show fixL (c :: (r ++ rest)) = c :: (r ++ fixL rest)
    have e : isNl c = false := by simp [isNl, c1, c2]
    rw [fixL_ne e, ih rest (fun h => h1 (.tail _ h)) (fun h => h2 (.tail _ h))]
theorem fix_crlf (r : List Nat) : fixL (13 :: 10 :: r) = 13 :: 10 :: fixL r := fixL.eq_2 r
theorem fix_lf (r : List Nat) : fixL (10 :: r) = 13 :: 10 :: fixL r := by
  rw [fixL.eq_3 _ _ (fun r' h3 _ => by cases h3), if_pos (by decide)]
theorem fix_cr (r : List Nat) (h : r.head? ≠ some 10) : fixL (13 :: r) = 13 :: 10 :: fixL r := by
  rw [fixL.eq_3 _ _ (fun r' _ h4 => h (by rw [h4]; rfl)), if_pos (by decide)]
/-- the three joiners -/
noncomputable def sepW : Nat → List Nat
  | 0 => [13, 10]
  | 1 => [10]
  | _ => [13]
theorem fix_sep (k : Nat) (r : List Nat) (h : r.head? ≠ some 10) : fixL (sepW k ++ r) = 13 :: 10 :: fixL r := by
  match k with
  | 0 => exact fix_crlf r
  | 1 => exact fix_lf r
  | n + 2 => exact fix_cr r h
/-- the rows joined by one of the three, with a tail -/
noncomputable def joinW (k : Nat) : List (List Nat) → List Nat → List Nat
  | [], t => t
  | [l], t => l ++ t
  | l :: r, t => l ++ sepW k ++ joinW k r t
theorem joinW_head (k : Nat) : ∀ (ls : List (List Nat)) (t : List Nat), (∀ l ∈ ls, 10 ∉ l) → t.head? ≠ some 10 → (k ≠ 1) → (joinW k ls t).head? ≠ some 10 := by
  intro ls
  induction ls with
  | nil => intro t _ ht _; exact ht
  | cons l r ih =>
    intro t hl ht hk
    have h0 := hl l (.head _)
    cases l with
    | cons c cs =>
      have : c ≠ 10 := fun e => h0 (e ▸ .head _)
      cases r with
      | nil => simpa [joinW] using this
      | cons l2 r => simpa [joinW] using this
    | nil =>
      cases r with
      | nil => simpa [joinW] using ht
      | cons l2 r =>
        match k, hk with
        | 0, _ => simp [joinW, sepW]
        | n + 2, _ => simp [joinW, sepW]
theorem fix_join (k : Nat) : ∀ (ls : List (List Nat)) (t : List Nat), (∀ l ∈ ls, 10 ∉ l ∧ 13 ∉ l) → t.head? ≠ some 10 → fixL (joinW k ls t) = joinW 0 ls (fixL t) := by
  intro ls
  induction ls with
  | nil => intro t _ _; rfl
  | cons l r ih =>
    intro t hl ht
    have h0 := hl l (.head _)
    cases r with
    | nil => exact fix_line l t h0.1 h0.2
    | cons l2 r =>
      have ih' := ih t (fun y hy => hl y (.tail _ hy)) ht
      show fixL (l ++ sepW k ++ joinW k (l2 :: r) t) = l ++ [13, 10] ++ joinW 0 (l2 :: r) (fixL t)
      rw [List.append_assoc, fix_line _ _ h0.1 h0.2]
      have e : fixL (sepW k ++ joinW k (l2 :: r) t) = 13 :: 10 :: fixL (joinW k (l2 :: r) t) := by
        by_cases hk : k = 1
        · subst hk; exact fix_lf _
        · exact fix_sep k _ (joinW_head k _ t (fun y hy => (hl y (.tail _ hy)).1) ht hk)
      rw [e, ih', List.append_assoc]; rfl
/-- a row with its first dot doubled -/
noncomputable def dotted : List Nat → List Nat
  | 46 :: r => 46 :: 46 :: r
  | l => l
theorem quote_cons (b : Bool) (c : Nat) (r : List Nat) : quoteL b (c :: r) = if b && c == 46 then 46 :: 46 :: quoteL false r else c :: quoteL (c == 10) r := by rw [quoteL]
theorem quote_false : ∀ (l rest : List Nat), 10 ∉ l → quoteL false (l ++ 13 :: 10 :: rest) = l ++ 13 :: 10 :: quoteL true rest := by
  intro l
  induction l with
  | nil => intro rest _; simp [quoteL]
  | cons c r ih =>
    intro rest h
    have c1 : (c == 10) = false := beq_eq_false_iff_ne.mpr fun e => h (e ▸ .head _)
    have h2 := ih rest (fun hh => h (.tail _ hh))
    show quoteL false (c :: (r ++ 13 :: 10 :: rest)) = c :: (r ++ 13 :: 10 :: quoteL true rest)
    rw [quote_cons, c1, Bool.false_and, if_neg Bool.false_ne_true, h2]
theorem quote_end : ∀ (l : List Nat), 10 ∉ l → quoteL false l = l := by
  intro l
  induction l with
  | nil => intro _; rfl
  | cons c r ih =>
    intro h
    have c1 : (c == 10) = false := beq_eq_false_iff_ne.mpr fun e => h (e ▸ .head _)
    rw [quote_cons, c1, Bool.false_and, if_neg Bool.false_ne_true, ih (fun hh => h (.tail _ hh))]
theorem quote_row (l rest : List Nat) (h : 10 ∉ l) : quoteL true (l ++ 13 :: 10 :: rest) = dotted l ++ 13 :: 10 :: quoteL true rest := by
  cases l with
  | nil => simp [quoteL, dotted]
  | cons c r =>
    have c1 : (c == 10) = false := beq_eq_false_iff_ne.mpr fun e => h (e ▸ .head _)
    have h2 := quote_false r rest (fun hh => h (.tail _ hh))
    show quoteL true (c :: (r ++ 13 :: 10 :: rest)) = _
    rw [quote_cons]
    by_cases e : c = 46
    · subst e
      rw [if_pos (by decide), h2]; rfl
    · rw [if_neg (by simpa using e), c1, h2]
      have : dotted (c :: r) = c :: r := by
        unfold dotted
        split
        · rename_i hh; exact absurd (List.cons.inj hh).1 e
        · rfl
      rw [this]; rfl
theorem quote_last (l : List Nat) (h : 10 ∉ l) : quoteL true l = dotted l := by
  cases l with
  | nil => rfl
  | cons c r =>
    have c1 : (c == 10) = false := beq_eq_false_iff_ne.mpr fun e => h (e ▸ .head _)
    have h2 := quote_end r (fun hh => h (.tail _ hh))
    rw [quote_cons]
    by_cases e : c = 46
    · subst e
      rw [if_pos (by decide), h2]; rfl
    · rw [if_neg (by simpa using e), c1, h2]
      unfold dotted
      split
      · rename_i hh; exact absurd (List.cons.inj hh).1 e
      · rfl
theorem quote_join : ∀ ls : List (List Nat), (∀ l ∈ ls, 10 ∉ l) → quoteL true (joinN 13 10 ls) = joinN 13 10 (ls.map dotted) := by
  intro ls
  induction ls with
  | nil => intro _; rfl
  | cons l r ih =>
    intro h
    cases r with
    | nil => exact quote_last l (h l (.head _))
    | cons l2 r =>
      show quoteL true (l ++ 13 :: 10 :: joinN 13 10 (l2 :: r)) = dotted l ++ 13 :: 10 :: joinN 13 10 ((l2 :: r).map dotted)
      rw [quote_row l _ (h l (.head _)), ih fun y hy => h y (.tail _ hy)]
theorem joinN_app (a b : Nat) : ∀ (ls : List (List Nat)) (l : List Nat) (t : List (List Nat)), joinN a b (ls ++ (l :: t)) = ls.flatMap (fun y => y ++ [a, b]) ++ joinN a b (l :: t) := by
  intro ls
  induction ls with
  | nil => intro l t; rfl
  | cons y r ih =>
    intro l t
    have e : joinN a b (y :: (r ++ (l :: t))) = y ++ a :: b :: joinN a b (r ++ (l :: t)) := by
      cases r <;> rfl
    rw [List.cons_append, e, ih, List.flatMap_cons]
    simp
theorem joinW_app (k : Nat) : ∀ (ls : List (List Nat)) (l t : List Nat), joinW k (ls ++ [l]) t = ls.flatMap (fun y => y ++ sepW k) ++ (l ++ t) := by
  intro ls
  induction ls with
  | nil => intro l t; rfl
  | cons y r ih =>
    intro l t
    have e : joinW k (y :: (r ++ [l])) t = y ++ sepW k ++ joinW k (r ++ [l]) t := by
      cases r <;> rfl
    rw [List.cons_append, e, ih, List.flatMap_cons]
    simp
end Mine
end
section
open PySem PySem.W PyProof.Rows PySem.Calls PySem.Spec
set_option Elab.async false
set_option maxRecDepth 100000
namespace Mine
/-- 'r: ..r' -/
noncomputable def rR : List Nat := [114, 58, 32, 46, 46, 114]
noncomputable def tailL : List Nat := [46, 13, 46, 10, 46, 12, 46, 13, 10]
noncomputable def ends6 (j : Nat) : List (List Nat) := [rR, [], [46, 46], [46, 46], [46, 46, 12, 46], List.replicate (2 * j) 46]
theorem fix_tail (j : Nat) (hj : j ≤ 1) : fixL (tailL ++ List.replicate j 46) = [46, 13, 10, 46, 13, 10, 46, 12, 46, 13, 10] ++ List.replicate j 46 := by
  have : j = 0 ∨ j = 1 := by omega
  rcases this with rfl | rfl <;> decide +kernel
theorem sent_law (k j : Nat) (rows : List (List Nat)) (h : ∀ l ∈ rows, 10 ∉ l ∧ 13 ∉ l) (hj : j ≤ 1) :
    quoteL true (fixL (joinW k (rows ++ [rR, [], []]) (tailL ++ List.replicate j 46))) = joinN 13 10 (rows.map dotted ++ ends6 j) := by
  have hr : ∀ l ∈ rows ++ [rR, [], []], 10 ∉ l ∧ 13 ∉ l := by
    intro l hl
    rcases List.mem_append.mp hl with hl | hl
    · exact h l hl
    · rcases hl with _ | ⟨_, _ | ⟨_, _ | ⟨_, hl⟩⟩⟩
      · decide
      · decide
      · decide
      · cases hl
  rw [fix_join k _ _ hr (by simp [tailL]), fix_tail j hj]
  have e : joinW 0 (rows ++ [rR, [], []]) ([46, 13, 10, 46, 13, 10, 46, 12, 46, 13, 10] ++ List.replicate j 46) = joinN 13 10 (rows ++ [rR, [], [46], [46], [46, 12, 46], List.replicate j 46]) := by
    rw [show rows ++ [rR, [], []] = (rows ++ [rR, []]) ++ [[]] by simp, joinW_app, show rows ++ [rR, [], [46], [46], [46, 12, 46], List.replicate j 46] = (rows ++ [rR, []]) ++ ([46] :: [[46], [46, 12, 46], List.replicate j 46]) by simp, joinN_app]
    rfl
  rw [e, quote_join]
  · have : j = 0 ∨ j = 1 := by omega
    rw [List.map_append]
    congr 2
    rcases this with rfl | rfl <;> decide +kernel
  · intro l hl
    rcases List.mem_append.mp hl with hl | hl
    · exact (h l hl).1
    · have : j = 0 ∨ j = 1 := by omega
      rcases this with rfl | rfl
      · exact (show ∀ l ∈ [rR, [], [46], [46], [46, 12, 46], List.replicate 0 46], 10 ∉ l by decide +kernel) l hl
      · exact (show ∀ l ∈ [rR, [], [46], [46], [46, 12, 46], List.replicate 1 46], 10 ∉ l by decide +kernel) l hl
theorem dotted_free {l : List Nat} (h : 10 ∉ l ∧ 13 ∉ l) : 13 ∉ dotted l := by
  unfold dotted
  split
  · rename_i r
    intro hh
    rcases List.mem_cons.mp hh with e | hh
    · cases e
    · exact h.2 hh
  · exact h.2
theorem ends_free (j : Nat) (hj : j ≤ 1) : ∀ l ∈ ends6 j, 13 ∉ l := by
  have : j = 0 ∨ j = 1 := by omega
  rcases this with rfl | rfl <;> decide +kernel
/-- the rows of what is sent -/
theorem sent_split {x : Str} {j : Nat} (rows : List (List Nat)) (h : ∀ l ∈ rows, 10 ∉ l ∧ 13 ∉ l) (hj : j ≤ 1) (hx : x.cps.toList = joinN 13 10 (rows.map dotted ++ ends6 j)) : Txt.split x (sep2 13 10) = (rows.map dotted ++ ends6 j).map strOf := by
  refine split2 (by omega) (by omega) _ (by simp [ends6]) (fun l hl => ?_) hx
  rcases List.mem_append.mp hl with hl | hl
  · obtain ⟨r, hr, rfl⟩ := List.mem_map.mp hl
    exact dotted_free (h r hr)
  · exact ends_free j hj l hl
end Mine
end
section
open PySem PySem.W PyProof.Rows PySem.Calls PySem.Spec
set_option Elab.async false
set_option maxRecDepth 100000
namespace Mine
section
variable {w : World} {A : Around} {E : Value → Shared → Prop} {S : Shared} {h₀ : Heap} {L : Addr} {m : Mp} {N : Led} {s : Shared} {env : Env} {prog : Program} {P : Params}
theorem splitW {x y : Str} {t u : Tok} {Q : Value → Shared → Prop} (F : Fm S h₀ L m N s) (hy : (y.length == 0) = false) (hx : x.length ≤ 2 ^ 22)
    (k : ∀ l D s', l.map (·.1) = Txt.split x y → Fm S h₀ L m ((D, lstO (strValues l)) :: N) s' → (∀ p ∈ N, p.1 ≠ D) → Q (.ref D) s') : wpAny (model prog w) A (call (.builtin "str.split") [.str x t, .str y u]) Q E s :=
  KSpl.split1 F.fr F.nw hy (fun D l h' kk e _ Fr' N' hlt => k l D _ e ⟨Fr', N', F.ge, F.os⟩ fun p hp => Nat.ne_of_lt (hlt p hp)) (by show _ ≤ 2 ^ 24; omega)
/-- x.split(y) -/
inductive SplitReq (y : Str) (Q : Value → Shared → Prop) (v : Value) (s₁ : Shared) : Prop
  | mk (S : Shared) (h₀ : Heap) (L : Addr) (m : Mp) (N : Led) (x : Str) (t : Tok) : v = .str x t → x.length ≤ 2 ^ 22 → Fm S h₀ L m N s₁ →
      (∀ l D s', l.map (·.1) = Txt.split x y → Fm S h₀ L m ((D, lstO (strValues l)) :: N) s' → (∀ p ∈ N, p.1 ≠ D) → Q (.ref D) s') → SplitReq y Q v s₁
theorem evSplit {e : Expr} {y : Str} {kk p cp q : _} {Q : Value → Shared → Prop} (hy : (y.length == 0) = false) (h : wpAny (model prog w) A (eval e env) (fun v s₁ => SplitReq y Q v s₁) E s)
    (hb : attributeBase e (Str.ofString "split") env (eval e env) = eval e env := by rfl) (hl : (p.endLine == cp.line) = true := by rfl) :
    wpAny (model prog w) A (eval (.Call (.Attribute e (Str.ofString "split") p) [.Constant (.str y) kk q] [] cp) env) Q E s := by
  refine evM (wpAny_mono h (fun v s₁ h₁ pl => ?_) fun _ _ z => z) hb rfl hl
  obtain ⟨S, h₀, L, m, N, x, t, rfl, hx, F, qq⟩ := h₁
  refine GM.split ?_
  refine callM1 (cS F fun u s F => ?_)
  exact splitW F hy hx qq
theorem tupW {l : Addr} {vs : List Value} {ln : Nat} {Q : Value → Shared → Prop} (F : Fm S h₀ L m N s) (hl : (l, lstO vs ln) ∈ N) (hs : vs.length ≤ 2 ^ 20) (k : ∀ a s', Fm S h₀ L m ((a, tupO vs) :: N) s' → (∀ p ∈ N, p.1 ≠ a) → Q (.ref a) s') :
    wpAny (model prog w) A (call (.type "tuple") [.ref l]) Q E s := by
  refine call_tuple_list (isLst F hl) (fun h' hk => ?_) (by rw [List.size_toArray]; show _ ≤ 2 ^ 24; omega)
  have F' : Fm S h₀ L m N { s with heap := h' } := F.ext hk rfl rfl
  exact k _ _ (F'.push (tupO vs)) F'.ne
/-- e.join(a list of texts) -/
inductive JoinReq (x : Str) (Q : Value → Shared → Prop) (y : Value) (s₂ : Shared) : Prop
  | mk (S : Shared) (h₀ : Heap) (L : Addr) (m : Mp) (N : Led) (l : Addr) (ln : Nat) (lt : List (Str × Tok)) (B : Nat) : y = .ref l → Fm S h₀ L m N s₂ → (l, lstO (strValues lt) ln) ∈ N → (∀ y ∈ lt.map (·.1), y.length ≤ B) → lt.length * B + lt.length * x.length ≤ 16777216 →
      (∀ t s', Fm S h₀ L m N s' → Q (.str (Str.join x (lt.map (·.1))) t) s') → JoinReq x Q y s₂
theorem evJoin {e a : Expr} {p cp : _} {Q : Value → Shared → Prop} (h : wpAny (model prog w) A (eval e env) (fun v s₁ => ∃ x t, v = .str x t ∧ wpAny (model prog w) A (eval a env) (fun y s₂ => JoinReq x Q y s₂) E s₁) E s)
    (hb : attributeBase e (Str.ofString "join") env (eval e env) = eval e env := by rfl) (hl : (p.endLine == cp.line) = true := by rfl) (he : starEach [a] env = [(false, eval a env)] := by rfl)
    (hf : methodCallForm (1 + 0) (backTo cp (starEach [a] env)) (backToKw cp (keywordEach [] env)) = true := by rfl) :
    wpAny (model prog w) A (eval (.Call (.Attribute e (Str.ofString "join") p) [a] [] cp) env) Q E s := by
  refine evM (wpAny_mono h (fun v s₁ h₁ pl => ?_) fun _ _ z => z) hb hf hl
  obtain ⟨x, t, rfl, h₁⟩ := h₁
  refine GM.join (callM1 (wpAny_mono h₁ (fun y s₂ h₂ => ?_) fun _ _ z => z) he)
  obtain ⟨S, h₀, L, m, N, l, ln, lt, B, rfl, F, hl, hB, hs, q⟩ := h₂
  exact joinL F hl hB hs q
end
end Mine
end
section
open PySem PySem.W PyProof.Rows PySem.Calls PySem.Spec PySem.SeqAt
set_option Elab.async false
set_option maxRecDepth 100000
namespace Mine
section
variable {w : World} {A : Around} {E : Value → Shared → Prop} {S : Shared} {h₀ : Heap} {L : Addr} {m : Mp} {N : Led} {s : Shared} {env : Env} {prog : Program} {P : Params}
theorem eqRow {a b : Addr} {n v : Str} {t u t' u' : Tok} (F : Fm S h₀ L m N s) (hu : A.units < cLine) (ha : (a, tupO [.str n t, .str v u]) ∈ N) (hb : (b, tupO [.str n t', .str v u']) ∈ N) : EqAt A s (.ref a) (.ref b) true := by
  by_cases e : a = b
  · subst e; exact EqAt.same _
  · refine EqAt.of_refs e ?_
    have h := RcAt.tuples (A := A) (e := fun _ => true) (l := a) (b := b) (s := s) ⟨_, F.get ha, rfl, _, rfl⟩ ⟨_, F.get hb, rfl, _, rfl⟩ hu (fun j h1 h2 => ?_)
    · have e2 : ((List.range (min 2 2)).all (fun _ => true) && (2 == 2)) = true := by decide
      exact e2 ▸ h
    · have hj : j = 0 ∨ j = 1 := by simp at h1; omega
      rcases hj with rfl | rfl
      · have := EqAt.str_str (A := A.in1) (s := s) n t n t'
        simpa using this
      · have := EqAt.str_str (A := A.in1) (s := s) v u v u'
        simpa using this
theorem allTrue (n : Nat) : (List.range n).all (fun _ => true) = true := by simp
theorem rowsAt {l b : Addr} {vs ws : List Value} {rs : List (Str × Str)} (F : Fm S h₀ L m N s) (hu : A.units < cLine) (hv : RowsIn N vs rs) (hw : RowsIn N ws rs) :
    vs.toArray.size = ws.toArray.size ∧ ∀ j (h1 : j < vs.toArray.size) (h2 : j < ws.toArray.size), EqAt A s vs.toArray[j] ws.toArray[j] true := by
  refine ⟨by rw [List.size_toArray, List.size_toArray, hv.length, hw.length], fun j h1 h2 => ?_⟩
  rw [List.size_toArray] at h1 h2
  obtain ⟨a, n, x, t, u, e1, e2, e3⟩ := hv.get (i := j) (List.getElem?_eq_getElem h1)
  obtain ⟨a', n', x', t', u', f1, f2, f3⟩ := hw.get (i := j) (List.getElem?_eq_getElem h2)
  rw [e2] at f2
  cases f2
  have g1 : vs.toArray[j] = .ref a := by simpa using e1
  have g2 : ws.toArray[j] = .ref a' := by simpa using f1
  rw [g1, g2]
  exact eqRow F hu e3 f3
theorem eqRows {l b : Addr} {vs ws : List Value} {ln ln' : Nat} {rs : List (Str × Str)} {Q : Value → Shared → Prop} (F : Fm S h₀ L m N s) (hu : A.in1.units < cLine) (hl : (l, lstO vs ln) ∈ N) (hb : (b, lstO ws ln') ∈ N) (hv : RowsIn N vs rs) (hw : RowsIn N ws rs) (k : Q (.bool true) s) :
    wpAny (model prog w) A (compareOp .Eq (.ref l) (.ref b)) Q E s := by
  obtain ⟨h1, h2⟩ := rowsAt (A := A.in1) (l := l) (b := b) F hu hv hw
  refine eq_listAt (e := fun _ => true) (isLst F hl) (isLst F hb) h1 (Nat.lt_of_le_of_lt (Nat.le_succ _) hu) h2 ?_
  rw [allTrue]; exact k
theorem neRows {l b : Addr} {vs ws : List Value} {ln ln' : Nat} {rs : List (Str × Str)} {Q : Value → Shared → Prop} (F : Fm S h₀ L m N s) (hu : A.in1.units < cLine) (hl : (l, lstO vs ln) ∈ N) (hb : (b, lstO ws ln') ∈ N) (hv : RowsIn N vs rs) (hw : RowsIn N ws rs) (k : Q (.bool false) s) :
    wpAny (model prog w) A (compareOp .NotEq (.ref l) (.ref b)) Q E s := by
  obtain ⟨h1, h2⟩ := rowsAt (A := A.in1) (l := l) (b := b) F hu hv hw
  have h := RcNeAt.lists (A := A) (e := fun _ => true) (isLst F hl) (isLst F hb) h1 (Nat.lt_of_le_of_lt (Nat.le_succ _) hu) h2
  rw [allTrue] at h
  exact h prog w E Q k
theorem neTexts {l b : Addr} {a c : List (Str × Tok)} {ln ln' : Nat} {Q : Value → Shared → Prop} (F : Fm S h₀ L m N s) (hu : A.in1.units < cLine) (hl : (l, lstO (strValues a) ln) ∈ N) (hb : (b, lstO (strValues c) ln') ∈ N) (he : a.map (·.1) = c.map (·.1)) (k : Q (.bool false) s) :
    wpAny (model prog w) A (compareOp .NotEq (.ref l) (.ref b)) Q E s := by
  have hlen : a.length = c.length := by have := congrArg List.length he; simpa using this
  have h := RcNeAt.lists (A := A) (e := fun _ => true) (isLst F hl) (isLst F hb) (by simp [strValues, hlen]) (Nat.lt_of_le_of_lt (Nat.le_succ _) hu) (fun j h1 h2 => ?_)
  · rw [allTrue] at h
    exact h prog w E Q k
  · have j1 : j < a.length := by simpa [strValues] using h1
    have j2 : j < c.length := by simpa [strValues] using h2
    have e1 : a[j].1 = c[j].1 := by
      have := congrArg (fun x => x[j]?) he
      simpa [j1, j2] using this
    have g1 : (strValues a).toArray[j] = .str a[j].1 a[j].2 := by simp [strValues]
    have g2 : (strValues c).toArray[j] = .str c[j].1 c[j].2 := by simp [strValues]
    rw [g1, g2, e1]
    have := EqAt.str_str (A := A.in1) (s := s) c[j].1 a[j].2 c[j].1 c[j].2
    simpa using this
end
end Mine
end
section
open PySem PySem.W PyProof.Rows PySem.Calls PySem.Spec PySem.SeqAt
set_option Elab.async false
set_option maxRecDepth 100000
namespace Mine
section
variable {w : World} {A : Around} {E : Value → Shared → Prop} {S : Shared} {h₀ : Heap} {L : Addr} {m : Mp} {N : Led} {s : Shared} {env : Env} {prog : Program} {P : Params}
/-- [a, b, c][i] of three texts -/
theorem pick3 {e : Expr} {p p1 p2 p3 p5 : Pos} {c1 c2 c3 : _} {x y z : Str} {i : Nat} {Q : Value → Shared → Prop} (hi : i < 3) (F : Fm S h₀ L m N s)
    (he : ∀ N' s, (∀ p ∈ N, p ∈ N') → Fm S h₀ L m N' s → ∀ Q' : Value → Shared → Prop, (∀ t s', Fm S h₀ L m N' s' → Q' (.int i t) s') → wpAny (model prog w) A (eval e env) Q' E s)
    (k : ∀ t N' s', (∀ p ∈ N, p ∈ N') → Fm S h₀ L m N' s' → Q (.str (match i with | 0 => x | 1 => y | _ => z) t) s')
    (hs : ∀ l i u, subscripted e false (.ref l) (.int i u) = operate [.ref l, .int i u] (getItem (.ref l) (.int i u)) := by intro _ _ _; with_unfolding_all rfl) :
    wpAny (model prog w) A (eval (.Subscript (.List [.Constant (.str x) c1 p1, .Constant (.str y) c2 p2, .Constant (.str z) c3 p3] p5) e p) env) Q E s := by
  refine Subscript_ ?_
  refine List_ (args3 ?_)
  refine cS F fun t1 s F => ?_
  refine cS F fun t2 s F => ?_
  refine cS F fun t3 s F => ?_
  refine lstN F fun l s F => ?_
  refine he _ _ (fun p hp => .tail _ hp) F _ fun t s F => ?_
  obtain ⟨tk, hk⟩ : ∃ tk, [Value.str x t1, .str y t2, .str z t3][i]? = some (.str (match i with | 0 => x | 1 => y | _ => z) tk) := by
    match i, hi with
    | 0, _ => exact ⟨t1, rfl⟩
    | 1, _ => exact ⟨t2, rfl⟩
    | 2, _ => exact ⟨t3, rfl⟩
  exact itLst F (.head _) (by rw [Int.toNat_natCast]; exact hk) (by omega) (by omega) (k _ _ _ (fun p hp => .tail _ hp) F) (hs _ _ _)
theorem modNat {a b : Nat} {t u : Tok} {Q : Value → Shared → Prop} (F : Fm S h₀ L m N s) (hb : b ≠ 0) (k : ∀ t s', Fm S h₀ L m N s' → Q (.int ((a % b : Nat) : Int) t) s') : wpAny (model prog w) A (binaryOp .Mod (.int (a : Int) t) (.int (b : Int) u)) Q E s := by
  refine PyProof.Rows.mod_int (by omega) ?_
  have e : Int.fmod (a : Int) (b : Int) = ((a % b : Nat) : Int) := by
    rw [Int.fmod_eq_emod_of_nonneg _ (by omega)]; rfl
  rw [e]
  exact k _ _ (F.tk _)
end
end Mine
end
section
open PySem PySem.W PyProof.Rows PySem.Calls PySem.Spec PySem.SeqAt
set_option Elab.async false
set_option maxRecDepth 100000
namespace Mine
section
variable {w : World} {A : Around} {E : Value → Shared → Prop} {S : Shared} {h₀ : Heap} {L : Addr} {m : Mp} {N : Led} {s : Shared} {env : Env} {prog : Program} {P : Params}
/-- Headers(e) by name -/
theorem evHd1 {p pos : Pos} {e : Expr} {Q : Value → Shared → Prop} (hP : P = w.params) (hE : EnvOk env L) (G : Gd P h₀) (F : Fm S h₀ L m N s) (hk : env.kindOf (Str.ofString "Headers") = some .globalImplicit)
    (h : wpAny (model prog w) A (eval e env) (fun v s₁ => (∀ b o, h₀.get? b = some o → s₁.heap.get? b = some o) ∧ wpAny (model prog w) A (call (.ref 284) [v]) Q E s₁) E s) (he : starEach [e] env = [(false, eval e env)] := by rfl) :
    wpAny (model prog w) A (eval (.Call (.Name (Str.ofString "Headers") p) [e] [] pos) env) Q E s := by
  subst hP
  show wpAny _ A (eval (.Name (Str.ofString "Headers") p) env >>= fun f => callWith pos f [] (backTo pos (starEach [e] env)) []) Q E s
  refine wpAny_bind (nG hE G F hk g_Headers ?_)
  exact callH1 (first := []) G (kp284 _) h he
theorem evHd0 {p pos : Pos} {Q : Value → Shared → Prop} (hP : P = w.params) (hE : EnvOk env L) (G : Gd P h₀) (F : Fm S h₀ L m N s) (hk : env.kindOf (Str.ofString "Headers") = some .globalImplicit)
    (h : wpAny (model prog w) A (call (.ref 284) []) Q E s) : wpAny (model prog w) A (eval (.Call (.Name (Str.ofString "Headers") p) [] [] pos) env) Q E s := by
  subst hP
  show wpAny _ A (eval (.Name (Str.ofString "Headers") p) env >>= fun f => callWith pos f [] (backTo pos (starEach [] env)) []) Q E s
  refine wpAny_bind (nG hE G F hk g_Headers ?_)
  exact callH0 (first := []) G F (kp284 _) h
end
end Mine
end
section
open PySem PySem.W PyProof.Rows PySem.Calls PySem.Spec PySem.SeqAt
set_option Elab.async false
set_option maxRecDepth 100000
namespace Mine
theorem join_N (a b : Nat) : ∀ ts : List Str, (Str.join (sep2 a b) ts).cps.toList = joinN a b (ts.map fun x => x.cps.toList)
  | [] => rfl
  | [x] => rfl
  | x :: y :: r => by
    rw [Str.join]
    · rw [cps_append, cps_append, join_N a b (y :: r)]
      show (x.cps.toList ++ [a, b]) ++ _ = x.cps.toList ++ a :: b :: _
      simp
    · intro h; cases h
theorem join_W (k : Nat) : ∀ (ts : List Str) (t : List Nat), ts ≠ [] → (Str.join (strOf (sepW k)) ts).cps.toList ++ t = joinW k (ts.map fun x => x.cps.toList) t
  | [], _, h => absurd rfl h
  | [x], t, _ => rfl
  | x :: y :: r, t, _ => by
    have ih := join_W k (y :: r) t (by simp)
    rw [Str.join]
    · rw [cps_append, cps_append, strOf_cps, List.append_assoc, ih]
      rfl
    · intro h; cases h
theorem crlf_is : crlfT = sep2 13 10 := rfl
theorem rowText_is (r : Str × Str) : (rowText r).cps.toList = r.1.cps.toList ++ [58, 32] ++ r.2.cps.toList := by
  unfold rowText
  rw [cps_append, cps_append, show (Str.ofString ": ").cps.toList = [58, 32] by decide +kernel]
/-- a row that may be sent -/
noncomputable def Sends (r : Str × Str) : Prop := (∃ l, r.1.cps.toList = 46 :: l) ∧ (∀ c ∈ r.1.cps.toList, 32 ≤ c ∧ c < 127 ∧ c ≠ 58) ∧ (∀ c ∈ r.2.cps.toList, 32 ≤ c ∧ c < 127 ∧ c ≠ 58) ∧ r.1.length ≤ 200 ∧ r.2.length ≤ 200
noncomputable def dotRow (r : Str × Str) : Str × Str := (strOf (46 :: r.1.cps.toList), r.2)
theorem sends_free {r : Str × Str} (h : Sends r) : 10 ∉ (rowText r).cps.toList ∧ 13 ∉ (rowText r).cps.toList := by
  obtain ⟨_, h1, h2, _⟩ := h
  rw [rowText_is]
  constructor
  · intro hh
    simp only [List.mem_append] at hh
    rcases hh with (hh | hh) | hh
    · have := h1 _ hh; omega
    · revert hh; decide
    · have := h2 _ hh; omega
  · intro hh
    simp only [List.mem_append] at hh
    rcases hh with (hh | hh) | hh
    · have := h1 _ hh; omega
    · revert hh; decide
    · have := h2 _ hh; omega
theorem dotted_row {r : Str × Str} (h : Sends r) : dotted (rowText r).cps.toList = (rowText (dotRow r)).cps.toList := by
  obtain ⟨⟨l, hl⟩, _⟩ := h
  rw [rowText_is, rowText_is]
  show dotted (r.1.cps.toList ++ [58, 32] ++ r.2.cps.toList) = (strOf (46 :: r.1.cps.toList)).cps.toList ++ [58, 32] ++ r.2.cps.toList
  rw [strOf_cps, hl]
  rfl
/-- a row's text is cut back into its name and its value -/
theorem split_row {r : Str × Str} (h1 : 58 ∉ r.1.cps.toList) (h2 : 58 ∉ r.2.cps.toList) : Txt.split (rowText r) (sep2 58 32) = [r.1, r.2] := by
  have := split2 (x := rowText r) (a := 58) (b := 32) (by omega) (by omega) [r.1.cps.toList, r.2.cps.toList] (by simp) (fun l hl => ?_) (by rw [rowText_is]; show _ = r.1.cps.toList ++ 58 :: 32 :: r.2.cps.toList; simp)
  · rw [this]
    show [strOf r.1.cps.toList, strOf r.2.cps.toList] = [r.1, r.2]
    rw [str_ext (strOf_cps r.1.cps.toList), str_ext (strOf_cps r.2.cps.toList)]
  · rcases hl with _ | ⟨_, _ | ⟨_, hl⟩⟩
    · exact h1
    · exact h2
    · cases hl
end Mine
end
section
open PySem PySem.W PyProof.Rows PySem.Calls PySem.Spec PySem.SeqAt
set_option Elab.async false
set_option maxRecDepth 100000
namespace Mine
theorem joinLen {sep : Str} {B : Nat} : ∀ ts : List Str, (∀ y ∈ ts, y.length ≤ B) → (Str.join sep ts).length ≤ ts.length * (B + sep.length)
  | [], _ => Nat.zero_le _
  | [x], h => by
    have := h x (.head _)
    show x.length ≤ 1 * _
    omega
  | x :: y :: r, h => by
    have ih := joinLen (sep := sep) (B := B) (y :: r) (fun z hz => h z (.tail _ hz))
    have hx := h x (.head _)
    rw [Str.join]
    · rw [app_len, app_len]
      have e : (x :: y :: r).length * (B + sep.length) = (y :: r).length * (B + sep.length) + (B + sep.length) := by
        rw [List.length_cons, Nat.succ_mul]
      omega
    · intro h; cases h
end Mine
end
section
open PySem PySem.W PyProof.Rows PySem.Calls PySem.Spec PySem.SeqAt
set_option Elab.async false
set_option maxRecDepth 100000
namespace Mine
noncomputable def rrRow : Str × Str := (Str.ofString "r", Str.ofString "..r")
theorem sends_ok {r : Str × Str} (h : Sends r) : OkT r.1 ∧ OkT r.2 := by
  obtain ⟨_, h1, h2, h3, h4⟩ := h
  exact ⟨⟨fun c hc => by have := h1 c hc; omega, by omega⟩, ⟨fun c hc => by have := h2 c hc; omega, by omega⟩⟩
theorem rr_ok : OkT rrRow.1 ∧ OkT rrRow.2 := by
  refine ⟨⟨?_, by decide +kernel⟩, ⟨?_, by decide +kernel⟩⟩
  · show ∀ c ∈ (Str.ofString "r").cps.toList, 32 ≤ c ∧ c ≤ 126
    decide +kernel
  · show ∀ c ∈ (Str.ofString "..r").cps.toList, 32 ≤ c ∧ c ≤ 126
    decide +kernel
noncomputable def lineT (rs : List (Str × Str)) : List Str := (rs ++ [rrRow]).map rowText ++ [Str.empty, Str.empty]
theorem lines_free {rs : List (Str × Str)} (hs : ∀ r ∈ rs, Sends r) : ∀ y ∈ lineT rs, 10 ∉ y.cps.toList ∧ 13 ∉ y.cps.toList := by
  intro y hy
  rcases List.mem_append.mp hy with h | h
  · obtain ⟨r, hr, rfl⟩ := List.mem_map.mp h
    rcases List.mem_append.mp hr with h | h
    · exact sends_free (hs r h)
    · rcases h with _ | ⟨_, h⟩
      · exact ⟨by decide +kernel, by decide +kernel⟩
      · cases h
  · rcases h with _ | ⟨_, _ | ⟨_, h⟩⟩
    · exact ⟨by decide +kernel, by decide +kernel⟩
    · exact ⟨by decide +kernel, by decide +kernel⟩
    · cases h
theorem lines_back {rs : List (Str × Str)} (hs : ∀ r ∈ rs, Sends r) : Txt.split (Str.join crlfT (lineT rs)) (sep2 13 10) = lineT rs := by
  have h := split2 (x := Str.join crlfT (lineT rs)) (a := 13) (b := 10) (by omega) (by omega) ((lineT rs).map fun y : Str => y.cps.toList) (by simp [lineT]) (fun l hl => ?_) (by exact join_N 13 10 (lineT rs))
  · rw [h, List.map_map]
    have : ∀ ys : List Str, ys.map (strOf ∘ fun y => y.cps.toList) = ys := by
      intro ys
      induction ys with
      | nil => rfl
      | cons y r ih =>
        have e : strOf y.cps.toList = y := str_ext (strOf_cps _)
        rw [List.map_cons, ih]
        exact congrArg (· :: r) e
    exact this _
  · obtain ⟨y, hy, rfl⟩ := List.mem_map.mp hl
    exact (lines_free hs y hy).2
theorem lines_len {rs : List (Str × Str)} (hs : ∀ r ∈ rs, Sends r) : (lineT rs).length = rs.length + 3 ∧ ∀ y ∈ lineT rs, y.length ≤ 500 := by
  refine ⟨by simp [lineT], fun y hy => ?_⟩
  rcases List.mem_append.mp hy with h | h
  · obtain ⟨r, hr, rfl⟩ := List.mem_map.mp h
    rw [rowText_len]
    rcases List.mem_append.mp hr with h | h
    · have := hs r h; have h4 := this.2.2.2.1; have h5 := this.2.2.2.2; omega
    · rcases h with _ | ⟨_, h⟩
      · decide +kernel
      · cases h
  · rcases h with _ | ⟨_, _ | ⟨_, h⟩⟩
    · decide +kernel
    · decide +kernel
    · cases h
noncomputable def tailT : Str := Str.ofString ".\r.\n.\x0c.\r\n"
theorem tailT_is : tailT.cps.toList = tailL := by decide +kernel
noncomputable def sepT (k : Nat) : Str := match k with | 0 => Str.ofString "\r\n" | 1 => Str.ofString "\n" | _ => Str.ofString "\r"
theorem sepT_is (k : Nat) : sepT k = strOf (sepW k) := by
  match k with
  | 0 => decide +kernel
  | 1 => decide +kernel
  | _ + 2 => exact (by decide +kernel : Str.ofString "\r" = strOf [13])
noncomputable def typedT (rs : List (Str × Str)) (way : Nat) : Str := Str.join (sepT (way % 3)) (lineT rs) ++ tailT ++ dots (way % 2)
theorem dots_cps (k : Nat) : (dots k).cps.toList = List.replicate k 46 := strOf_cps _
noncomputable def rowL (rs : List (Str × Str)) : List (List Nat) := rs.map fun r => (rowText r).cps.toList
theorem lineT_cps (rs : List (Str × Str)) : ((lineT rs).map fun y => y.cps.toList) = rowL rs ++ [rR, [], []] := by
  unfold lineT rowL
  rw [List.map_append, List.map_append, List.map_append, List.append_assoc, List.map_map]
  congr 1
theorem typed_is (rs : List (Str × Str)) (way : Nat) : (typedT rs way).cps.toList = joinW (way % 3) (rowL rs ++ [rR, [], []]) (tailL ++ List.replicate (way % 2) 46) := by
  unfold typedT
  rw [cps_append, cps_append, dots_cps, tailT_is, sepT_is, List.append_assoc, join_W _ _ _ (by simp [lineT]), lineT_cps]
noncomputable def sentL (rs : List (Str × Str)) (way : Nat) : List Nat := joinN 13 10 ((rowL rs).map dotted ++ ends6 (way % 2))
theorem rowL_free {rs : List (Str × Str)} (hs : ∀ r ∈ rs, Sends r) : ∀ l ∈ rowL rs, 10 ∉ l ∧ 13 ∉ l := by
  intro l hl
  obtain ⟨r, hr, rfl⟩ := List.mem_map.mp hl
  exact sends_free (hs r hr)
theorem typed_sent {rs : List (Str × Str)} (hs : ∀ r ∈ rs, Sends r) (way : Nat) : quoteL true (fixL (typedT rs way).cps.toList) = sentL rs way := by
  rw [typed_is]
  exact sent_law _ _ _ (rowL_free hs) (by omega)
theorem row_dotted {rs : List (Str × Str)} (hs : ∀ r ∈ rs, Sends r) : ((rowL rs).map dotted).map strOf = (rs.map dotRow).map rowText := by
  induction rs with
  | nil => rfl
  | cons r rs ih =>
    have h := dotted_row (hs r (.head _))
    have ih' := ih fun y hy => hs y (.tail _ hy)
    show strOf (dotted (rowText r).cps.toList) :: ((rowL rs).map dotted).map strOf = rowText (dotRow r) :: (rs.map dotRow).map rowText
    rw [ih', h, str_ext (strOf_cps (rowText (dotRow r)).cps.toList)]
noncomputable def endsT (j : Nat) : List Str := (ends6 j).map strOf
theorem sent_rows {rs : List (Str × Str)} (hs : ∀ r ∈ rs, Sends r) (way : Nat) {x : Str} (hx : x.cps.toList = sentL rs way) : Txt.split x crlfT = (rs.map dotRow).map rowText ++ endsT (way % 2) := by
  rw [crlf_is, sent_split (rowL rs) (rowL_free hs) (by omega) hx, List.map_append, row_dotted hs]; rfl
/-- only signs of ASCII -/
noncomputable abbrev Asc (l : List Nat) : Prop := ∀ c ∈ l, c < 128
theorem Asc.app {a b : List Nat} (h : Asc a) (h' : Asc b) : Asc (a ++ b) := fun c hc => by
  rcases List.mem_append.mp hc with q | q
  · exact h _ q
  · exact h' _ q
theorem asc_fix : ∀ l : List Nat, Asc l → Asc (fixL l) := by
  intro l
  induction l using fixL.induct with
  | case1 => intro _; exact fun c hc => by cases hc
  | case2 r ih =>
    intro h
    rw [fixL.eq_2]
    have := ih fun c hc => h c (.tail _ (.tail _ hc))
    exact Asc.app (a := [13, 10]) (by decide +kernel) this
  | case3 c r hn hc ih =>
    intro h
    rw [fixL.eq_3 _ _ hn, if_pos hc]
    exact Asc.app (a := [13, 10]) (by decide +kernel) (ih fun c hc => h c (.tail _ hc))
  | case4 c r hn hc ih =>
    intro h
    rw [fixL.eq_3 _ _ hn, if_neg hc]
    intro z hz
    rcases List.mem_cons.mp hz with rfl | hz
    · exact h _ (.head _)
    · exact ih (fun c hc => h c (.tail _ hc)) _ hz
theorem asc_quote : ∀ (l : List Nat) (b : Bool), Asc l → Asc (quoteL b l) := by
  intro l
  induction l with
  | nil => intro b _; exact fun c hc => by cases hc
  | cons c r ih =>
    intro b h
    have h2 : Asc r := fun z hz => h z (.tail _ hz)
    rw [quote_cons]
    split
    · exact Asc.app (a := [46, 46]) (by decide +kernel) (ih _ h2)
    · intro z hz
      rcases List.mem_cons.mp hz with rfl | hz
      · exact h _ (.head _)
      · exact ih _ h2 _ hz
theorem asc_joinW (k : Nat) : ∀ (ls : List (List Nat)) (t : List Nat), (∀ l ∈ ls, Asc l) → Asc t → Asc (joinW k ls t)
  | [], t, _, ht => ht
  | [l], t, h, ht => (h l (.head _)).app ht
  | l :: l2 :: r, t, h, ht => by
    have hs : Asc (sepW k) := by
      match k with
      | 0 => decide +kernel
      | 1 => decide +kernel
      | _ + 2 => exact (by decide +kernel : Asc [13])
    exact ((h l (.head _)).app hs).app (asc_joinW k (l2 :: r) t (fun y hy => h y (.tail _ hy)) ht)
theorem typed_asc {rs : List (Str × Str)} (hs : ∀ r ∈ rs, Sends r) (way : Nat) : Asc (typedT rs way).cps.toList := by
  rw [typed_is]
  refine asc_joinW _ _ _ (fun l hl => ?_) (Asc.app (by decide +kernel) fun c hc => ?_)
  · rcases List.mem_append.mp hl with h | h
    · obtain ⟨r, hr, rfl⟩ := List.mem_map.mp h
      obtain ⟨_, h1, h2, _⟩ := hs r hr
      show Asc (rowText r).cps.toList
      rw [rowText_is]
      exact ((show Asc _ from fun c hc => by have := h1 c hc; omega).app (by decide +kernel)).app fun c hc => by have := h2 c hc; omega
    · exact (show ∀ l ∈ [rR, [], []], Asc l by decide +kernel) l h
  · rw [List.eq_of_mem_replicate hc]; decide
theorem typed_len {rs : List (Str × Str)} (hs : ∀ r ∈ rs, Sends r) (hsz : rs.length ≤ 100) (way : Nat) :
    (Str.join (sepT (way % 3)) (lineT rs)).length ≤ 52000 := by
  have h1 := joinLen (sep := sepT (way % 3)) (lineT rs) (lines_len hs).2
  rw [(lines_len hs).1] at h1
  have h2 : (sepT (way % 3)).length ≤ 2 := by
    unfold sepT
    split <;> decide +kernel
  refine Nat.le_trans h1 (Nat.le_trans (Nat.mul_le_mul (show rs.length + 3 ≤ 103 by omega) (Nat.add_le_add_left h2 500)) (by decide))
theorem typed_size {rs : List (Str × Str)} (hs : ∀ r ∈ rs, Sends r) (hsz : rs.length ≤ 100) (way : Nat) : (typedT rs way).cps.size ≤ 60000 := by
  have h := typed_len hs hsz way
  have e : (typedT rs way).length = (Str.join (sepT (way % 3)) (lineT rs)).length + tailT.length + (dots (way % 2)).length := by
    unfold typedT; rw [app_len, app_len]
  have e2 : tailT.length = 9 := by decide +kernel
  have e3 : (dots (way % 2)).length ≤ 1 := by rw [dots_len]; omega
  show (typedT rs way).length ≤ _
  omega
/-- octets and back -/
theorem nats_back {x : Str} (h : Asc x.cps.toList) : (natsOf (x.cps.map (·.toUInt8))).toList = x.cps.toList := by
  unfold natsOf
  rw [Array.toList_map, Array.toList_map, List.map_map]
  have : ∀ l : List Nat, Asc l → l.map ((fun b : UInt8 => b.toNat) ∘ fun c : Nat => c.toUInt8) = l := by
    intro l
    induction l with
    | nil => intro _; rfl
    | cons c r ih =>
      intro h
      rw [List.map_cons, ih fun z hz => h z (.tail _ hz)]
      have hc := h c (.head _)
      congr 1
      show (c.toUInt8).toNat = c
      simp [Nat.toUInt8]; omega
  exact this _ h
section
variable {w : World} {A : Around} {E : Value → Shared → Prop} {S : Shared} {h₀ : Heap} {L : Addr} {m : Mp} {N : Led} {s : Shared} {env : Env} {prog : Program} {P : Params}
theorem gmEnc {x : Str} {t : Tok} {pl : Sem Bool} {Q : Value × List Value → Shared → Prop} {M : Model} (k : Q (.builtin "str.encode", [.str x t]) s) : wpAny M A (getMethod (.str x t) "encode" pl) Q E s := by
  with_reducible exact getMethod_builtin (typeIs_str _ _ _) PySem.F.plainAttrs_str PySem.F.slot_str_encode PySem.F.type_str_encode (fun b e => nomatch e) k
theorem gmDec {x : Array UInt8} {t : Tok} {pl : Sem Bool} {Q : Value × List Value → Shared → Prop} {M : Model} (k : Q (.builtin "bytes.decode", [.bytes x t]) s) : wpAny M A (getMethod (.bytes x t) "decode" pl) Q E s := by
  with_reducible exact KBd.method k
/-- x.encode('ascii') -/
inductive EncReq (Q : Value → Shared → Prop) (v : Value) (s₁ : Shared) : Prop
  | mk (S : Shared) (h₀ : Heap) (L : Addr) (m : Mp) (N : Led) (x : Str) (t : Tok) : v = .str x t → Asc x.cps.toList → x.cps.size ≤ 2 ^ 22 → Fm S h₀ L m N s₁ → (∀ t s', Fm S h₀ L m N s' → Q (.bytes (x.cps.map (·.toUInt8)) t) s') → EncReq Q v s₁
theorem evEnc {e : Expr} {kk p cp q : _} {Q : Value → Shared → Prop} (h : wpAny (model prog w) A (eval e env) (fun v s₁ => EncReq Q v s₁) E s)
    (hb : attributeBase e (Str.ofString "encode") env (eval e env) = eval e env := by rfl) (hl : (p.endLine == cp.line) = true := by rfl) :
    wpAny (model prog w) A (eval (.Call (.Attribute e (Str.ofString "encode") p) [.Constant (.str (Str.ofString "ascii")) kk q] [] cp) env) Q E s := by
  refine evM (wpAny_mono h (fun v s₁ h₁ pl => ?_) fun _ _ z => z) hb rfl hl
  obtain ⟨S, h₀, L, m, N, x, t, rfl, ha, hx, F, qq⟩ := h₁
  refine gmEnc ?_
  refine callM1 (cS F fun u s F => ?_)
  exact encA F ha hx qq
/-- x.decode('ascii') -/
inductive DecReq (Q : Value → Shared → Prop) (v : Value) (s₁ : Shared) : Prop
  | mk (S : Shared) (h₀ : Heap) (L : Addr) (m : Mp) (N : Led) (b : Array UInt8) (t : Tok) : v = .bytes b t → b.toList ≠ [] → (∀ c ∈ b.toList, c.toNat < 128) → b.size ≤ 2 ^ 22 → Fm S h₀ L m N s₁ → (∀ t s', Fm S h₀ L m N s' → Q (.str ⟨natsOf b⟩ t) s') → DecReq Q v s₁
theorem evDec {e : Expr} {kk p cp q : _} {Q : Value → Shared → Prop} (h : wpAny (model prog w) A (eval e env) (fun v s₁ => DecReq Q v s₁) E s)
    (hb : attributeBase e (Str.ofString "decode") env (eval e env) = eval e env := by rfl) (hl : (p.endLine == cp.line) = true := by rfl) :
    wpAny (model prog w) A (eval (.Call (.Attribute e (Str.ofString "decode") p) [.Constant (.str (Str.ofString "ascii")) kk q] [] cp) env) Q E s := by
  refine evM (wpAny_mono h (fun v s₁ h₁ pl => ?_) fun _ _ z => z) hb rfl hl
  obtain ⟨S, h₀, L, m, N, b, t, rfl, h0, ha, hx, F, qq⟩ := h₁
  refine gmDec ?_
  refine callM1 (cS F fun u s F => ?_)
  exact decA F h0 ha hx qq
end
theorem sentL_ne (rs : List (Str × Str)) (way : Nat) : sentL rs way ≠ [] := by
  intro h
  have hl : ∀ (a b : Nat) (l : List (List Nat)), joinN a b l = [] → ∀ y ∈ l, y = [] := by
    intro a b l
    induction l with
    | nil => intro _ y hy; cases hy
    | cons x r ih =>
      intro h y hy
      cases r with
      | nil =>
        rcases hy with _ | ⟨_, hy⟩
        · exact h
        · cases hy
      | cons x2 r =>
        have := congrArg List.length h
        simp [joinN] at this
  have := hl _ _ _ h rR (List.mem_append.mpr (.inr (.head _)))
  cases this
theorem sentL_len {rs : List (Str × Str)} (hs : ∀ r ∈ rs, Sends r) (hsz : rs.length ≤ 100) (way : Nat) : (sentL rs way).length ≤ 240000 := by
  rw [← typed_sent hs way]
  have h1 := quoteL_len (fixL (typedT rs way).cps.toList) true
  have h2 := fixL_len (typedT rs way).cps.toList
  have h3 := typed_size hs hsz way
  rw [Array.length_toList] at h2
  exact Nat.le_trans h1 (Nat.le_trans (Nat.mul_le_mul_left 2 (Nat.le_trans h2 (Nat.mul_le_mul_left 2 h3))) (by decide))
theorem sentL_asc {rs : List (Str × Str)} (hs : ∀ r ∈ rs, Sends r) (way : Nat) : Asc (sentL rs way) := by
  rw [← typed_sent hs way]
  exact asc_quote _ _ (asc_fix _ (typed_asc hs way))
section
variable {w : World} {A : Around} {E : Value → Shared → Prop} {S : Shared} {h₀ : Heap} {L : Addr} {m : Mp} {N : Led} {s : Shared} {env : Env} {prog : Program} {P : Params}
theorem args6 {M : Model} {e1 e2 e3 e4 e5 e6 : Expr} {pos : Pos} {Q : List Value → Shared → Prop}
    (h : wpAny M A (eval e1 env) (fun v1 s₁ => wpAny M A (eval e2 env) (fun v2 s₂ => wpAny M A (eval e3 env) (fun v3 s₃ => wpAny M A (eval e4 env) (fun v4 s₄ => wpAny M A (eval e5 env) (fun v5 s₅ => wpAny M A (eval e6 env) (fun v6 s₆ => Q [v1, v2, v3, v4, v5, v6] s₆) E s₅) E s₄) E s₃) E s₂) E s₁) E s)
    (he : starEach [e1, e2, e3, e4, e5, e6] env = [(false, eval e1 env), (false, eval e2 env), (false, eval e3 env), (false, eval e4 env), (false, eval e5 env), (false, eval e6 env)] := by rfl) : wpAny M A (spliced (backTo pos (starEach [e1, e2, e3, e4, e5, e6] env))) Q E s := by
  rw [he]
  exact spliced_cons (wpAny_mono h (fun v s₁ h₁ => spliced_cons (wpAny_mono h₁ (fun v' s₂ h₂ => spliced_cons (wpAny_mono h₂ (fun v'' s₃ h₃ => spliced_cons (wpAny_mono h₃ (fun v4 s₄ h₄ => spliced_cons (wpAny_mono h₄ (fun v5 s₅ h₅ => spliced_cons (wpAny_mono h₅ (fun v6 s₆ h₆ => spliced_nil h₆) fun _ _ x => x)) fun _ _ x => x)) fun _ _ x => x)) fun _ _ x => x)) fun _ _ x => x)) fun _ _ x => x)
theorem mulDD {k : Nat} {t u : Tok} {Q : Value → Shared → Prop} (F : Fm S h₀ L m N s) (hk : k ≤ 1) (q : ∀ t s', Fm S h₀ L m N s' → Q (.str (strOf (List.replicate (2 * k) 46)) t) s') : wpAny (model prog w) A (binaryOp .Mult (.str (Str.ofString "..") t) (.int k u)) Q E s := by
  have h1 : (Str.ofString "..").length = 2 := by decide +kernel
  refine PySem.P.mul_str (by simp; omega) (fun a b => ?_) (fun a b => ?_) ?_
  · rw [h1]
    have : (2 : Int) ≤ (2 ^ 63 - 1) / (k : Int) := by
      apply (Int.le_ediv_iff_mul_le (by omega)).mpr
      omega
    omega
  · rw [h1]; exact decide_eq_false (by show ¬ (_ > 2 ^ 24); simp; omega)
  · rcases Nat.lt_or_ge k 1 with c | c
    · rw [if_pos (by omega)]
      have : k = 0 := by omega
      subst this
      exact ⟨by decide +kernel, q _ _ (F.tk _)⟩
    · rw [if_neg (by omega)]
      have : k = 1 := by omega
      subst this
      rw [if_pos (by decide +kernel)]
      have e : strOf (List.replicate (2 * 1) 46) = Str.ofString ".." := by decide +kernel
      rw [e] at q
      exact q _ _ F
theorem cutEnd (ls : List (Str × Tok)) : (slicePick (strValues ls).toArray (some (-6)) none none).toList = strValues (ls.drop (ls.length - 6)) := by
  have := slicePick_last (strValues ls).toArray 6 (by omega)
  rw [show ((-((6 : Nat) : Int))) = (-6 : Int) from rfl] at this
  rw [this]
  simp [strValues, List.map_drop]
theorem cutFront (ls : List (Str × Tok)) : (slicePick (strValues ls).toArray none (some (-6)) none).toList = strValues (ls.take (ls.length - 6)) := by
  have := slicePick_butLast (strValues ls).toArray 6 (by omega)
  rw [show ((-((6 : Nat) : Int))) = (-6 : Int) from rfl] at this
  rw [this]
  simp [strValues, List.map_take]
end
theorem endsT_len (j : Nat) : (endsT j).length = 6 := by unfold endsT ends6; simp
theorem ends_lit {j : Nat} (hj : j ≤ 1) : [Str.ofString "r: ..r", Str.ofString "", Str.ofString "..", Str.ofString "..", Str.ofString "..\x0c.", strOf (List.replicate (2 * j) 46)] = endsT j := by
  have : j = 0 ∨ j = 1 := by omega
  rcases this with rfl | rfl <;> decide +kernel
end Mine
end
section
open PySem PySem.W PyProof.Rows PySem.Calls PySem.Spec PySem.SeqAt
set_option Elab.async false
set_option maxRecDepth 100000
namespace Mine
section
variable {w : World} {A : Around} {E : Value → Shared → Prop} {S : Shared} {h₀ : Heap} {L : Addr} {m : Mp} {N : Led} {s : Shared} {env : Env} {prog : Program} {P : Params} {x l : Addr}
set_option maxHeartbeats 4000000 in
theorem sent_spec {vs : List Value} {ln : Nat} {rs : List (Str × Str)} {way : Nat} {tw : Tok} {Q : Value → Shared → Prop} {n : Nat} (hP : P = w.params) (G : Gd P h₀) (F : Fm S h₀ L m N s) (R : Rm A (n + 8)) (H : HdAt N x l) (hl : (l, lstO vs ln) ∈ N) (hr : RowsIn N vs rs) (hs : ∀ r ∈ rs, Sends r) (hsz : rs.length ≤ 100) (hw : way < 6)
    (k : ∀ a vs' ln' N' s', Fm S h₀ L m N' s' → (∀ p ∈ N, p ∈ N') → (a, lstO vs' ln') ∈ N' → RowsIn N' vs' (rs.map dotRow) → Q (.ref a) s') : wpAny (model pw w) A (call (.ref 312) [.ref x, .int way tw]) Q E s := by
  subst hP
  have hvl := hr.length
  refine in312 G F R fun g L' s₁ G R F kp bk => ?_
  have hE := ek312 L'
  refine wpAny_execs_cons ?_
  refine wpAny_Assign_Name ?_
  refine evSplit (by decide +kernel) ?_
  refine callGt hE G F (k312_str _) b_str bb_str ?_
  refine args1 ?_
  refine evHd1 rfl hE G F (k312_Headers _) ?_
  refine wpAny_BinOp ?_
  refine evItems (S := S) (L := L') (n := n) rfl G (R.le (by omega)) (nL hE F (k312_program _) rfl ?_)
  refine ⟨_, _, _, _, _, _, rfl, F, H, hl, by rw [hvl]; exact Nat.le_trans hsz (by decide +kernel), fun a s _ F => ?_⟩
  refine List_ (args1 (Tuple_ (args2 ?_)))
  refine cS F fun t1 s F => ?_
  refine cS F fun t2 s F => ?_
  refine tupN F fun b s F => ?_
  refine lstN F fun c s F => ?_
  refine catLst F (.tail _ (.tail _ (.head _))) (.head _) (by rw [hvl]; show rs.length + 1 ≤ 2 ^ 24; omega) fun d s F => ?_
  generalize hN1 : (d, lstO (vs ++ [.ref b])) :: (c, lstO [.ref b]) :: (b, tupO [.str (Str.ofString "r") t1, .str (Str.ofString "..r") t2]) :: (a, lstO vs) :: N = N₁ at F
  have s1 : ∀ p ∈ N, p ∈ N₁ := fun p hp => by rw [← hN1]; exact .tail _ (.tail _ (.tail _ (.tail _ hp)))
  have hd : (d, lstO (vs ++ [.ref b])) ∈ N₁ := by rw [← hN1]; exact .head _
  have hrd : RowsIn N₁ (vs ++ [.ref b]) (rs ++ [rrRow]) := (hr.mono s1).append (.cons (by rw [← hN1]; exact .tail _ (.tail _ (.head _))) .nil)
  have hok : OkRows (rs ++ [rrRow]) := fun r hr' => by
    rcases List.mem_append.mp hr' with h | h
    · exact sends_ok (hs r h)
    · rcases h with _ | ⟨_, h⟩
      · exact rr_ok
      · cases h
  refine ⟨F.fr.keep, ?_⟩
  refine init_spec (v := some (.ref d)) (n := n) rfl G F (R.le (by omega)) (.inr ⟨rfl, hd, hrd⟩) hok fun x' l' N₂ s F s2 H' _ hl' _ _ => ?_
  have e := hl' d rfl
  subst e
  refine strH (n := n) rfl G F (R.le (by omega)) H' (s2 _ hd) (hrd.mono s2) (fun r hr' => ?_) (by rw [List.length_append, hvl]; show rs.length + 1 ≤ 900; omega) fun t3 s F => ?_
  · rcases List.mem_append.mp hr' with h | h
    · have := hs r h; exact ⟨Nat.le_trans this.2.2.2.1 (by omega), Nat.le_trans this.2.2.2.2 (by omega)⟩
    · rcases h with _ | ⟨_, h⟩
      · exact ⟨by decide +kernel, by decide +kernel⟩
      · cases h
  change SplitReq _ _ (Value.str (Str.join crlfT (lineT rs)) t3) _
  refine ⟨_, _, _, _, _, _, _, rfl, ?_, F, fun lt D s hlt F hne => ?_⟩
  · have h1 := joinLen (sep := crlfT) (lineT rs) (lines_len hs).2
    rw [(lines_len hs).1] at h1
    refine Nat.le_trans h1 ?_
    show (rs.length + 3) * (500 + 2) ≤ 2 ^ 22
    omega
  have hlt : lt.map (·.1) = lineT rs := hlt.trans (lines_back hs)
  refine st hE F (k312_lines _) fun s F => ?_
  rw [up_lk] at F
  refine wpAny_execs_cons ?_
  refine wpAny_Assign_Name ?_
  refine wpAny_BinOp (wpAny_BinOp ?_)
  refine evJoin (pick3 (i := way % 3) (by omega) F (fun N' s hs F' Q' q => wpAny_BinOp (nL hE F' (k312_way _) rfl (cI F' fun t s F' => modNat (b := 3) F' (by omega) q))) fun t N' s hs3 F => ?_)
  refine ⟨_, _, rfl, nL hE F (k312_lines _) rfl ?_⟩
  refine ⟨_, _, _, _, _, D, _, lt, 500, rfl, F, hs3 _ (.head _), ?_, ?_, fun t s F => ?_⟩
  · rw [hlt]; exact (lines_len hs).2
  · have h1 : lt.length = rs.length + 3 := by have := congrArg List.length hlt; rw [List.length_map, (lines_len hs).1] at this; exact this
    have h2 : (match way % 3 with | 0 => Str.ofString "\r\n" | 1 => Str.ofString "\n" | _ => Str.ofString "\r").length ≤ 2 := by
      split <;> decide +kernel
    rw [h1]
    refine Nat.le_trans (Nat.add_le_add_left (Nat.mul_le_mul_left _ h2) _) ?_
    omega
  rw [hlt]
  have tl := typed_len hs hsz way
  refine cS F fun t s F => ?_
  refine catS F ?_ fun t s F => ?_
  · refine Nat.le_trans (Nat.add_le_add tl (show tailT.length ≤ 9 by decide +kernel)) (by decide)
  refine wpAny_BinOp (cS F fun t s F => wpAny_BinOp (nL hE F (k312_way _) rfl (cI F fun t s F => modNat (b := 2) F (by omega) fun t s F => ?_)))
  refine mulDots F (by omega) fun t s F => ?_
  refine catS F ?_ fun t s F => ?_
  · rw [app_len, dots_len]
    refine Nat.le_trans (Nat.add_le_add (Nat.add_le_add tl (show tailT.length ≤ 9 by decide +kernel)) (Nat.le_of_lt (Nat.mod_lt way (show 2 > 0 by decide)))) (by decide)
  refine st (v := .str (typedT rs way) t) hE F (k312_typed _) fun s F => ?_
  rw [up_lk] at F
  have hD : (D, lstO (strValues lt)) ∈ N' := hs3 _ (.head _)
  have hsub : ∀ p ∈ N, p ∈ N' := fun p hp => hs3 _ (.tail _ (s2 _ (s1 _ hp)))
  generalize hM : lk _ = M at F
  have m1 : M (Str.ofString "way") = some (.int way tw) := by rw [← hM]; rfl
  have m2 : M (Str.ofString "typed") = some (.str (typedT rs way) t) := by rw [← hM]; rfl
  have m3 : M (Str.ofString "lines") = some (.ref D) := by rw [← hM]; rfl
  clear hM
  have tz := typed_size hs hsz way
  have ta := typed_asc hs way
  have ts := typed_sent hs way
  refine wpAny_execs_cons ?_
  refine wpAny_mono (E := fun _ _ => False) (Q := fun fl s => fl = .next ∧ ∃ y ty, y.cps.toList = sentL rs way ∧ Fm S g L' (up M (Str.ofString "sent") (.str y ty)) N' s) ?_ (fun fl s hy => ?_) (fun _ _ z => z)
  · refine wpAny_If ?_
    refine wpAny_isTrue_Compare1 ?_
    refine nL hE F (k312_way _) m1 ?_
    refine cI F fun _ _ F => ?_
    refine PyProof.Rows.lt_int ?_
    refine wpAny_truthy_bool ?_
    by_cases hc : way < 3
    · rw [decide_eq_true (show ((way : Int) < 3) by omega), if_pos rfl]
      refine wpAny_execs_cons ?_
      refine wpAny_Assign_Name ?_
      refine callG hE G F (k312_quotedata _) g_quotedata (ho60 w.params) ?_
      refine args1 (nL hE F (k312_typed _) m2 ?_)
      refine ⟨F.fr.keep, quote_spec (n := n) G F (R.le (by omega)) (Nat.le_trans tz (by decide)) fun t' s F => ?_⟩
      refine st hE F (k312_sent _) fun s F => ?_
      refine wpAny_execs_nil ⟨rfl, _, _, ?_, F⟩
      unfold quoS fixS
      rw [strOf_cps, strOf_cps, ts]
    · rw [decide_eq_false (show ¬ ((way : Int) < 3) by omega), if_neg Bool.false_ne_true]
      refine wpAny_execs_cons ?_
      refine wpAny_Assign_Name ?_
      refine evDec (callG hE G F (k312_quote_periods _) g_quote_periods (ho67 w.params) (args1 ?_))
      refine evEnc (callG hE G F (k312_fix_eols _) g_fix_eols (ho74 w.params) (args1 (nL hE F (k312_typed _) m2 ?_)))
      refine ⟨F.fr.keep, fix_spec (n := n) G F (R.le (by omega)) (Nat.le_trans tz (by decide)) fun t' s F => ?_⟩
      have fa : Asc (fixS (typedT rs way)).cps.toList := by unfold fixS; rw [strOf_cps]; exact asc_fix _ ta
      have fz : (fixS (typedT rs way)).cps.size ≤ 120000 := Nat.le_trans (fixSize _) (by omega)
      refine ⟨_, _, _, _, _, _, _, rfl, fa, Nat.le_trans fz (by decide), F, fun u s F => ?_⟩
      refine ⟨F.fr.keep, periods_spec (n := n) G F (R.le (by omega)) (by rw [Array.size_map]; exact Nat.le_trans fz (by decide)) fun b u s hb F => ?_⟩
      rw [nats_back fa, show (fixS (typedT rs way)).cps.toList = fixL (typedT rs way).cps.toList from strOf_cps _, ts] at hb
      refine ⟨_, _, _, _, _, b, _, rfl, fun h0 => ?_, fun c hc => ?_, ?_, F, fun u s F => ?_⟩
      · rw [h0] at hb; exact sentL_ne _ _ hb.symm
      · exact sentL_asc hs way _ (by rw [← hb]; exact List.mem_map_of_mem hc)
      · have h1 := sentL_len hs hsz way
        rw [← hb, List.length_map, Array.length_toList] at h1
        exact Nat.le_trans h1 (by decide)
      refine st hE F (k312_sent _) fun s F => ?_
      refine wpAny_execs_nil ⟨rfl, _, _, ?_, F⟩
      show (natsOf b).toList = _
      rw [← hb]; simp [natsOf]
  obtain ⟨rfl, y, ty, hy, F⟩ := hy
  have yl : y.length ≤ 2 ^ 22 := by
    have h1 := sentL_len hs hsz way
    rw [← hy, Array.length_toList] at h1
    exact Nat.le_trans h1 (by decide)
  refine wpAny_execs_cons ?_
  refine wpAny_Assign_Name ?_
  refine evSplit (by decide +kernel) (nL hE F (k312_sent _) (show up M (Str.ofString "sent") _ (Str.ofString "sent") = _ by unfold up; rw [if_pos rfl]) ?_)
  refine ⟨_, _, _, _, _, _, _, rfl, yl, F, fun ls D2 s hls F hne => ?_⟩
  replace hls : ls.map (·.1) = (rs.map dotRow).map rowText ++ endsT (way % 2) := hls.trans (sent_rows hs way hy)
  have lsl : ls.length = rs.length + 6 := by
    have := congrArg List.length hls
    rw [List.length_map, List.length_append, endsT_len, List.length_map, List.length_map] at this
    exact this
  have ltl : lt.length = rs.length + 3 := by have := congrArg List.length hlt; rw [List.length_map, (lines_len hs).1] at this; exact this
  have svl : ∀ q : List (Str × Tok), (strValues q).length = q.length := fun q => List.length_map _
  have hM1 : up M (Str.ofString "sent") (.str y ty) (Str.ofString "way") = some (.int way tw) := by unfold up; rw [if_neg (by decide +kernel)]; exact m1
  have hM3 : up M (Str.ofString "sent") (.str y ty) (Str.ofString "lines") = some (.ref D) := by unfold up; rw [if_neg (by decide +kernel)]; exact m3
  generalize up M (Str.ofString "sent") (.str y ty) = M1 at F hM1 hM3
  refine st hE F (k312_rows _) fun s F => ?_
  have hM4 : up M1 (Str.ofString "rows") (.ref D2) (Str.ofString "way") = some (.int way tw) := by unfold up; rw [if_neg (by decide +kernel)]; exact hM1
  have hM5 : up M1 (Str.ofString "rows") (.ref D2) (Str.ofString "lines") = some (.ref D) := by unfold up; rw [if_neg (by decide +kernel)]; exact hM3
  have hM6 : up M1 (Str.ofString "rows") (.ref D2) (Str.ofString "rows") = some (.ref D2) := by unfold up; rw [if_pos rfl]
  generalize up M1 (Str.ofString "rows") (.ref D2) = M2 at F hM4 hM5 hM6
  refine wpAny_execs_cons ?_
  refine wpAny_If ?_
  refine isTrue_or ?_
  refine wpAny_isTrue_Compare1 ?_
  refine cutL (nL hE F (k312_rows _) hM6 (pSome _ (wpAny_UnaryOp (cI F fun u s F => PyProof.Rows.neg_int (pAll _ ?_)))))
  refine ⟨_, _, _, _, _, _, _, _, some (-6), none, rfl, F.tk _, .head _, .int _ _, .none, by rw [svl, lsl]; exact Nat.le_trans (Nat.add_le_add_right hsz 6) (by decide +kernel), fun a s _ F => ?_⟩
  rw [cutEnd] at F
  refine List_ (args6 ?_)
  refine cS F fun t1 s F => ?_
  refine cS F fun t2 s F => ?_
  refine cS F fun t3 s F => ?_
  refine cS F fun t4 s F => ?_
  refine cS F fun t5 s F => ?_
  refine wpAny_BinOp (cS F fun t s F => wpAny_BinOp (nL hE F (k312_way _) hM4 (cI F fun t s F => modNat (b := 2) F (by omega) fun t s F => ?_)))
  refine mulDD F (by omega) fun t6 s F => ?_
  refine lstN F fun b s F => ?_
  refine neTexts (a := ls.drop (ls.length - 6)) (c := [(Str.ofString "r: ..r", t1), (Str.ofString "", t2), (Str.ofString "..", t3), (Str.ofString "..", t4), (Str.ofString "..\x0c.", t5), (strOf (List.replicate (2 * (way % 2)) 46), t6)]) F (R.in1 (n := n + 6)).line (.tail _ (.head _)) (.head _) ?_ ?_
  · rw [List.map_drop, hls, lsl]
    rw [List.drop_left' (by rw [List.length_map, List.length_map]; omega)]
    exact (ends_lit (by omega)).symm
  refine wpAny_truthy_bool ?_
  rw [if_neg Bool.false_ne_true]
  refine isTrue_or ?_
  refine wpAny_isTrue_Compare1 ?_
  refine callGb hE G F (k312_len _) b_len bb_len (args1 (nL hE F (k312_rows _) hM6 ?_))
  refine lenLst F (.tail _ (.tail _ (.head _))) (by rw [svl, lsl]; exact Nat.le_trans (Nat.add_le_add_right hsz 6) (by decide)) fun t s F => ?_
  refine wpAny_BinOp (callGb hE G F (k312_len _) b_len bb_len (args1 (nL hE F (k312_lines _) hM5 ?_)))
  refine lenLst F (.tail _ (.tail _ (.tail _ hD))) (by rw [svl, ltl]; exact Nat.le_trans (Nat.add_le_add_right hsz 3) (by decide)) fun t s F => ?_
  refine cI F fun t s F => PyProof.Rows.add_int (PyProof.Rows.ne_int ?_)
  have F := F.tk (s.toks + 1)
  rw [svl, svl, lsl, ltl, show ((((rs.length + 6 : Nat) : Int)) != ((rs.length + 3 : Nat) : Int) + 3) = false from bne_eq_false_iff_eq.mpr (by omega)]
  refine wpAny_truthy_bool ?_
  rw [if_neg Bool.false_ne_true]
  refine isTrue_or_nil ?_
  rw [if_neg Bool.false_ne_true]
  refine wpAny_execs_nil ?_
  refine wpAny_execs_cons ?_
  refine wpAny_Return_some ?_
  generalize hN1 : (b, lstO _) :: (a, lstO _) :: (D2, lstO (strValues ls)) :: N' = N₃ at F
  have hD2 : (D2, lstO (strValues ls)) ∈ N₃ := by rw [← hN1]; exact .tail _ (.tail _ (.head _))
  have hs3' : ∀ p ∈ N, p ∈ N₃ := fun p hp => by rw [← hN1]; exact .tail _ (.tail _ (.tail _ (hsub p hp)))
  clear hN1
  have htk : (ls.take (ls.length - 6)).map (·.1) = (rs.map dotRow).map rowText := by
    rw [List.map_take, hls, lsl]
    exact List.take_left' (by rw [List.length_map, List.length_map]; omega)
  generalize hks : ls.take (ls.length - 6) = ks at htk
  have ksl : ks.length = rs.length := by have := congrArg List.length htk; rwa [List.length_map, List.length_map, List.length_map] at this
  refine compL (S := S) (h₀ := g) (L := L') R.hd (cl := []) (fun i N' ys => (∀ p ∈ N₃, p ∈ N') ∧ RowsIn N' ys ((rs.map dotRow).take i)) (strValues ks) ?_
  refine cutL (nL hE F (k312_rows _) hM6 (pAll _ (pSome _ (wpAny_UnaryOp (cI F fun u s F => PyProof.Rows.neg_int ?_)))))
  refine ⟨_, _, _, _, _, _, _, _, none, some (-6), rfl, F.tk _, hD2, .none, .int _ _, by rw [svl, lsl]; exact Nat.le_trans (Nat.add_le_add_right hsz 6) (by decide +kernel), fun a s _ F => ?_⟩
  rw [cutFront, hks] at F
  refine ⟨a, 0, _, _, rfl, F, .head _, by rw [svl, ksl]; exact Nat.le_trans hsz (by decide +kernel), ⟨fun p hp => .tail _ hp, .nil⟩, ?_, ?_⟩
  · rintro g' C I D i v m N' s o ys dn stay hv ⟨hsu, hys⟩ hle hl' hNI hND hDI ho Fi
    obtain ⟨⟨x1, u1⟩, hx1, rfl⟩ : ∃ q, ks[i]? = some q ∧ v = .str q.1 q.2 := by
      unfold strValues at hv
      rw [List.getElem?_map] at hv
      cases hk : ks[i]? with
      | none => rw [hk] at hv; cases hv
      | some q => rw [hk] at hv; exact ⟨q, rfl, (Option.some.inj hv).symm⟩
    have hx2 : ((rs.map dotRow).map rowText)[i]? = some x1 := by rw [← htk, List.getElem?_map, hx1]; rfl
    obtain ⟨r, hr1, hr2⟩ : ∃ r, (rs.map dotRow)[i]? = some r ∧ rowText r = x1 := by
      rw [List.getElem?_map] at hx2
      cases hk : (rs.map dotRow)[i]? with
      | none => rw [hk] at hx2; cases hx2
      | some r => rw [hk] at hx2; exact ⟨r, rfl, Option.some.inj hx2⟩
    obtain ⟨r0, hr0, hr3⟩ : ∃ r0 ∈ rs, dotRow r0 = r := by
      have := List.mem_of_getElem? hr1
      exact (List.mem_map.mp this)
    have sr := hs r0 hr0
    have n1 : 58 ∉ r.1.cps.toList := by
      rw [← hr3]
      show 58 ∉ (strOf (46 :: r0.1.cps.toList)).cps.toList
      rw [strOf_cps]
      intro hh
      rcases List.mem_cons.mp hh with e | hh
      · cases e
      · exact (sr.2.1 _ hh).2.2 rfl
    have n2 : 58 ∉ r.2.cps.toList := by
      rw [← hr3]
      exact fun hh => (sr.2.2.1 _ hh).2.2 rfl
    have l2 : x1.length ≤ 2 ^ 22 := by
      rw [← hr2, rowText_len, ← hr3]
      have e1 : (dotRow r0).1.length = r0.1.length + 1 := by
        show (46 :: r0.1.cps.toList).toArray.size = r0.1.cps.size + 1
        simp
      have e2 := sr.2.2.2.1
      have e3 := sr.2.2.2.2
      rw [e1]
      show _ + (r0.2).length ≤ _
      omega
    refine wpAny_assign_Name (st ⟨by kernel_rfl, rfl, rfl, rfl⟩ Fi (by kernel_rfl) fun s F => ?_)
    refine tests0 ?_
    rw [if_pos rfl]
    refine callGt ⟨by kernel_rfl, rfl, rfl, rfl⟩ (G.keeps stay) F (by kernel_rfl) b_tuple bb_tuple (args1 ?_)
    refine evSplit (by decide +kernel) (nL ⟨by kernel_rfl, rfl, rfl, rfl⟩ F (by kernel_rfl) (show up m (Str.ofString "row") _ (Str.ofString "row") = _ by unfold up; rw [if_pos rfl]) ?_)
    refine ⟨_, _, _, _, _, _, _, rfl, l2, F, fun l3 D3 s h3 F hne3 => ?_⟩
    replace h3 : l3.map (·.1) = [r.1, r.2] := h3.trans (by rw [← hr2]; exact split_row n1 n2)
    obtain ⟨q1, q2, rfl⟩ : ∃ q1 q2, l3 = [(r.1, q1), (r.2, q2)] := by
      match l3, h3 with
      | [(_, q1), (_, q2)], h3 => cases h3; exact ⟨q1, q2, rfl⟩
    refine tupW F (.head _) (by show 2 ≤ _; decide) fun b s F hne => ?_
    refine made (N := (b, tupO (strValues [(r.1, q1), (r.2, q2)])) :: N') (F.sub fun p hp => ?_) (.tail _ hl') ?_ ?_ hDI ⟨fun p hp => .tail _ (hsu p hp), ?_⟩
    · rcases hp with _ | ⟨_, _ | ⟨_, _ | ⟨_, hp⟩⟩⟩
      · exact .tail _ (.tail _ (.head _))
      · exact .tail _ (.tail _ (.tail _ (.head _)))
      · exact .head _
      · exact .tail _ (.tail _ (.tail _ (.tail _ hp)))
    · intro p hp
      rcases List.mem_cons.mp hp with rfl | hp
      · exact fun e => hne _ (.tail _ (.head _)) e.symm
      · exact hNI p hp
    · intro p hp
      rcases List.mem_cons.mp hp with rfl | hp
      · exact fun e => hne _ (.tail _ (.tail _ (.head _))) e.symm
      · exact hND p hp
    · have e : (rs.map dotRow).take (i + 1) = (rs.map dotRow).take i ++ [r] := by rw [List.take_add_one, hr1]; rfl
      rw [e]
      exact (hys.mono fun p hp => .tail _ hp).append (.cons (.head _) .nil)
  · rintro D N' s ys dn ⟨hsu, hys⟩ hND F
    have F := bk _ _ _ F
    have e : (rs.map dotRow).take (strValues ks).length = rs.map dotRow := List.take_of_length_le (by rw [svl, ksl, List.length_map]; exact Nat.le_refl _)
    rw [e] at hys
    exact k D ys dn _ s F (fun p hp => .tail _ (hsu p (hs3' p hp))) (.head _) (hys.mono fun p hp => .tail _ hp)
end
end Mine
end
section
open PySem PySem.W PyProof.Rows PySem.Calls PySem.Spec PySem.SeqAt
set_option Elab.async false
set_option maxRecDepth 100000
namespace Mine
/-- what a formula of the law is -/
noncomputable def isR (c : Str) : Prop := c = Str.ofString "r" ∨ c = Str.ofString "R"
noncomputable def Tr.good : Tr → Prop
  | .leaf v c => v.natAbs ≤ 100 ∧ isR c
  | .node op l r c way => op < 4 ∧ way < 6 ∧ l.good ∧ r.good ∧ isR c
theorem isR_len {c : Str} (h : isR c) : c.length = 1 := by
  rcases h with rfl | rfl <;> decide +kernel
theorem Tr.good.small : ∀ {t : Tr}, t.good → t.small := by
  intro t
  induction t with
  | leaf v c => intro h; exact ⟨Nat.le_trans h.1 (by decide), by rw [isR_len h.2]; decide⟩
  | node op l r c way ihl ihr => intro h; exact ⟨h.1, ihl h.2.2.1, ihr h.2.2.2.1, by rw [isR_len h.2.2.2.2]; decide⟩
theorem intS_len {v : Int} {k : Nat} (hk : 0 < k) (h : v.natAbs < 10 ^ k) : (intS v).length ≤ k + 1 := by
  have := PySem.int_text_length_le10 hk h
  unfold intS
  rw [PySem.ofString_length]
  exact this
theorem intS_chars (v : Int) : ∀ c ∈ (intS v).cps.toList, c = 45 ∨ (48 ≤ c ∧ c ≤ 57) := by
  intro c hc
  by_cases h : c = 45
  · exact .inl h
  · by_cases h2 : c < 48 ∨ 57 < c
    · exact absurd hc (int_text_free' c ⟨h, h2⟩ v)
    · exact .inr (by omega)
theorem intS_plain (v : Int) : ∀ c ∈ (intS v).cps.toList, 32 ≤ c ∧ c < 127 ∧ c ≠ 58 := by
  intro c hc
  have := intS_chars v c hc
  omega
theorem opW_plain (op : Nat) : ∀ c ∈ (opW op).cps.toList, 32 ≤ c ∧ c < 127 ∧ c ≠ 58 := by
  unfold opW
  split <;> decide +kernel
theorem backW_plain : ∀ c ∈ backW.cps.toList, 32 ≤ c ∧ c < 127 ∧ c ≠ 58 := by decide +kernel
theorem word_plain (b : Bool) (op : Nat) : ∀ c ∈ (wordOf op b).cps.toList, 32 ≤ c ∧ c < 127 ∧ c ≠ 58 := by
  unfold wordOf
  cases b
  · exact opW_plain op
  · rw [if_pos rfl, cps_append]
    intro c hc
    rcases List.mem_append.mp hc with h | h
    · exact opW_plain op c h
    · exact backW_plain c h
theorem word_is (op : Nat) (l r : Tr) (c : Str) (way : Nat) : (Tr.node op l r c way).word = wordOf op (decide (l.need < r.need)) := by
  show (if l.need < r.need then opW op ++ backW else opW op) = _
  unfold wordOf
  by_cases h : l.need < r.need
  · rw [if_pos h, decide_eq_true h, if_pos rfl]
  · rw [if_neg h, decide_eq_false h, if_neg Bool.false_ne_true]
theorem name_plain (d : Nat) {c : Str} (h : isR c) : ∀ x ∈ (dots d ++ c).cps.toList, 32 ≤ x ∧ x < 127 ∧ x ≠ 58 := by
  rw [cps_append, dots_cps]
  intro x hx
  rcases List.mem_append.mp hx with q | q
  · have := List.eq_of_mem_replicate q; omega
  · rcases h with rfl | rfl
    · exact (by decide +kernel : ∀ x ∈ (Str.ofString "r").cps.toList, 32 ≤ x ∧ x < 127 ∧ x ≠ 58) x q
    · exact (by decide +kernel : ∀ x ∈ (Str.ofString "R").cps.toList, 32 ≤ x ∧ x < 127 ∧ x ≠ 58) x q
theorem dotRow_dots (d : Nat) (c v : Str) : dotRow (dots d ++ c, v) = (dots (d + 1) ++ c, v) := by
  unfold dotRow
  refine congrArg (·, v) ?_
  apply str_ext
  rw [strOf_cps, cps_append, cps_append, dots_cps, dots_cps]
  rfl
theorem rows_up : ∀ (t : Tr) (d : Nat), (t.rows d).map dotRow = t.rows (d + 1) := by
  intro t
  induction t with
  | leaf v c => intro d; unfold Tr.rows; exact congrArg (· :: []) (dotRow_dots d c (intS v))
  | node op l r c way ihl ihr =>
    intro d
    unfold Tr.rows
    rw [List.map_append]
    split
    · rw [List.map_append, ihl, ihr]; exact congrArg (_ ++ ·) (congrArg (· :: []) (dotRow_dots d c _))
    · rw [List.map_append, ihl, ihr]; exact congrArg (_ ++ ·) (congrArg (· :: []) (dotRow_dots d c _))
theorem sends_name {d : Nat} {c v : Str} (hd : 0 < d) (hd2 : d ≤ 100) (hc : isR c) (hv : ∀ x ∈ v.cps.toList, 32 ≤ x ∧ x < 127 ∧ x ≠ 58) (hl : v.length ≤ 200) : Sends (dots d ++ c, v) := by
  refine ⟨?_, name_plain d hc, hv, ?_, hl⟩
  · obtain ⟨k, rfl⟩ : ∃ k, d = k + 1 := ⟨d - 1, by omega⟩
    refine ⟨List.replicate k 46 ++ c.cps.toList, ?_⟩
    show (dots (k + 1) ++ c).cps.toList = _
    rw [cps_append, dots_cps]; rfl
  · show (dots d ++ c).length ≤ 200
    rw [app_len, dots_len, isR_len hc]; omega
theorem word_le (op : Nat) (l r : Tr) (c : Str) (way : Nat) : (Tr.node op l r c way).word.length ≤ 200 := by
  rw [word_is]
  have := (word_len op (decide (l.need < r.need))).2
  omega
theorem sends_rows : ∀ (t : Tr) (d : Nat), t.good → 0 < d → d + t.high ≤ 100 → ∀ r ∈ t.rows d, Sends r := by
  intro t
  induction t with
  | leaf v c =>
    intro d h hd hh r hr
    unfold Tr.rows at hr
    rcases hr with _ | ⟨_, hr⟩
    · exact sends_name hd (by simp only [Tr.high] at hh; omega) h.2 (intS_plain v) (Nat.le_trans (intS_len (k := 3) (by decide) (by have := h.1; omega)) (by decide))
    · cases hr
  | node op l r c way ihl ihr =>
    intro d h hd hh x hx
    obtain ⟨h1, h2, h3, h4, h5⟩ := h
    have hl : d + 1 + l.high ≤ 100 := by simp only [Tr.high] at hh; omega
    have hr : d + 1 + r.high ≤ 100 := by simp only [Tr.high] at hh; omega
    have d100 : d ≤ 100 := by omega
    unfold Tr.rows at hx
    rcases List.mem_append.mp hx with hx | hx
    · split at hx
      · rcases List.mem_append.mp hx with hx | hx
        · exact ihr d h4 hd (by omega) x hx
        · exact ihl (d + 1) h3 (by omega) hl x hx
      · rcases List.mem_append.mp hx with hx | hx
        · exact ihl d h3 hd (by omega) x hx
        · exact ihr (d + 1) h4 (by omega) hr x hx
    · rcases hx with _ | ⟨_, hx⟩
      · refine sends_name hd d100 h5 ?_ (word_le _ _ _ _ _)
        rw [word_is]; exact word_plain _ _
      · cases hx
section
variable {w : World} {A : Around} {E : Value → Shared → Prop} {S : Shared} {h₀ : Heap} {L : Addr} {m : Mp} {N : Led} {s : Shared} {env : Env} {prog : Program} {x l : Addr} {P : Params}
theorem catLstF {b : Addr} {vs ws : List Value} {ln ln' : Nat} {Q : Value → Shared → Prop} (F : Fm S h₀ L m N s) (h : (l, lstO vs ln) ∈ N) (h' : (b, lstO ws ln') ∈ N) (hs : vs.length + ws.length ≤ sizeLine)
    (k : ∀ a s', (∀ p ∈ N, p.1 ≠ a) → Fm S h₀ L m ((a, lstO (vs ++ ws)) :: N) s' → Q (.ref a) s') : wpAny (model prog w) A (binaryOp .Add (.ref l) (.ref b)) Q E s :=
  add_lists F.fr F.nw (isLst F h) (isLst F h') (fun h' F' N' => k _ _ F.ne ⟨F', N', F.ge, F.os⟩) hs
theorem opConcatF {l' : Addr} {vs ws : List Value} {ln ln' : Nat} {Q : Value → Shared → Prop} {n : Nat} (G : Gd P h₀) (F : Fm S h₀ L m N s) (R : Rm A (n + 1)) (hl : (l, lstO vs ln) ∈ N) (hl' : (l', lstO ws ln') ∈ N) (hs : vs.length + ws.length ≤ sizeLine)
    (k : ∀ a s', (∀ p ∈ N, p.1 ≠ a) → Fm S h₀ L m ((a, lstO (vs ++ ws)) :: N) s' → Q (.ref a) s') : wpAny (model pw w) A (call (.ref 109) [.ref l, .ref l']) Q E s := by
  refine in109 G F R fun g L' s₁ G R F kp bk => ?_
  have hE := ek109 L'
  refine wpAny_execs_cons ?_
  refine wpAny_If ?_
  refine wpAny_isTrue_Not ?_
  refine wpAny_isTrue_value ?_
  refine callGb hE G F (k109_hasattr _) b_hasattr bb_hasattr ?_
  refine args2 ?_
  refine nL hE F (k109_a _) rfl ?_
  refine cS F fun t s F => ?_
  refine hasGi (F.get hl) fun s' a b c => ?_
  have F := F.ext a b c
  refine wpAny_truthy_bool ?_
  refine wpAny_execs_nil ?_
  refine wpAny_execs_cons ?_
  refine wpAny_Return_some ?_
  refine wpAny_BinOp ?_
  refine nL hE F (k109_a _) rfl ?_
  refine nL hE F (k109_b _) rfl ?_
  refine catLstF F hl hl' hs fun a s hf F => ?_
  exact k _ _ hf (bk _ _ _ F)
end
end Mine
end
section
open PySem PySem.W PyProof.Rows PySem.Calls PySem.Spec PySem.SeqAt
set_option Elab.async false
set_option maxRecDepth 100000
namespace Mine
theorem rows_node (op : Nat) (l r : Tr) (c : Str) (way d : Nat) : (Tr.node op l r c way).rows d = ((Tr.node op l r c way).fst.rows d ++ (Tr.node op l r c way).snd.rows (d + 1)) ++ [(dots d ++ c, (Tr.node op l r c way).word)] := by
  show (if l.need < r.need then r.rows d ++ l.rows (d + 1) else l.rows d ++ r.rows (d + 1)) ++ _ = ((if l.need < r.need then r else l).rows d ++ (if l.need < r.need then l else r).rows (d + 1)) ++ _
  split <;> rfl
theorem hands_facts (op : Nat) (l r : Tr) (c : Str) (way : Nat) (P : Tr → Prop) (h1 : P l) (h2 : P r) : P (Tr.node op l r c way).fst ∧ P (Tr.node op l r c way).snd := by
  show P (if l.need < r.need then r else l) ∧ P (if l.need < r.need then l else r)
  split
  · exact ⟨h2, h1⟩
  · exact ⟨h1, h2⟩
theorem hands_nodes (op : Nat) (l r : Tr) (c : Str) (way : Nat) : (Tr.node op l r c way).fst.nodes + (Tr.node op l r c way).snd.nodes + 1 = (Tr.node op l r c way).nodes := by
  show (if l.need < r.need then r else l).nodes + (if l.need < r.need then l else r).nodes + 1 = l.nodes + r.nodes + 1
  split <;> omega
theorem one_dot : Str.ofString "." = dots 1 := by decide +kernel
noncomputable def ProgSpec (w : World) (t : Tr) : Prop := ∀ (A : Around) (E : Value → Shared → Prop) (S : Shared) (h₀ : Heap) (L : Addr) (m : Mp) (N : Led) (s : Shared) (Q : Value → Shared → Prop) (v : Value),
    Gd w.params h₀ → Fm S h₀ L m N s → Rm A (t.high + 9) → TreeIn N v t → t.good → t.high ≤ 90 → t.nodes ≤ 90 →
    (∀ x l vs ln N' s', Fm S h₀ L m N' s' → (∀ p ∈ N, p ∈ N') → HdAt N' x l → (l, lstO vs ln) ∈ N' → RowsIn N' vs (t.rows 1) → Q (.ref x) s') → wpAny (model pw w) A (call (.ref 319) [v]) Q E s
section
variable {w : World} {P : Params}
theorem prog_leaf (x : Int) (c : Str) : ProgSpec w (.leaf x c) := by
  intro A E S h₀ L m N s Q v G F R hT hg hh hn k
  cases hT with
  | leaf hm =>
  refine in319 G F R fun g L' s₁ G R F kp bk => ?_
  have hE := ek319 L'
  refine wpAny_execs_cons ?_
  refine wpAny_If ?_
  refine wpAny_isTrue_Compare1 ?_
  refine callGb hE G F (k319_len _) b_len bb_len ?_
  refine args1 ?_
  refine nL hE F (k319_tree _) rfl ?_
  refine lenTup F hm fun _ _ F => ?_
  refine cI F fun _ _ F => ?_
  refine eq_int ?_
  refine wpAny_truthy_bool ?_
  refine wpAny_execs_cons ?_
  refine wpAny_Assign_Name ?_
  refine evHd0 rfl hE G F (k319_Headers _) ?_
  refine init_spec (v := none) (vs := []) (rs := []) (ln := 0) (l := L') (n := 4) rfl G F (R.le (by simp only [Tr.high]; omega)) (.inl ⟨rfl, rfl⟩) (fun r hr => by cases hr) fun x' l' N₂ s F s2 H hl0 _ _ hfre => ?_
  have hl := hl0 rfl
  have Hb := H.butL F hl rfl
  refine st hE F (k319_program _) fun s F => ?_
  rw [up_lk] at F
  refine wpAny_execs_cons ?_
  refine wpAny_Assign_Name ?_
  refine evM (nL hE F (k319_program _) rfl fun pl => hdMeth G F H (fi_add_header _) (fn281 _) ne_add_header ?_)
  refine callH2 G (kp281 _) ?_
  refine wpAny_BinOp (cS F fun t s F => subC (nL hE F (k319_tree _) rfl fun t => ?_))
  refine itTup (F.tk _) (s2 _ hm) rfl ?_
  refine catS (F.tk _) (by rw [isR_len hg.2, one_dot, dots_len]; decide) fun t s F => ?_
  refine callGt hE G F (k319_str _) b_str bb_str (args1 (subC (nL hE F (k319_tree _) rfl fun t => ?_)))
  refine itTup (F.tk _) (s2 _ hm) rfl ?_
  refine strInt (F.tk _) (Nat.le_trans hg.1 (by decide)) fun t s F => ?_
  refine ⟨F.fr.keep, ?_⟩
  rw [one_dot]
  have sd := sends_ok (sends_rows (.leaf x c) 1 hg (by decide) (by simp only [Tr.high] at hh ⊢; omega) _ (.head _))
  refine add_spec (vs := []) (n := 5) rfl G F (R.le (by simp only [Tr.high]; omega)) H hl sd.1 sd.2 (Nat.zero_le _) fun b n' N₃ s u' F hbut hl3 hb3 hfb => ?_
  refine st hE F (k319_answer _) fun s F => ?_
  rw [up_lk] at F
  refine wpAny_execs_nil ?_
  refine wpAny_execs_cons ?_
  refine wpAny_Return_some ?_
  refine wpAny_IfExp ?_
  refine wpAny_isTrue_Compare1 ?_
  refine nL hE F (k319_answer _) rfl ?_
  refine wpAny_Constant_none ?_
  refine wpAny_is_self (by decide +kernel) ?_
  refine wpAny_truthy_bool ?_
  rw [if_pos rfl]
  refine nL hE F (k319_program _) rfl ?_
  exact k x' l' _ n' N₃ _ (bk _ _ _ F) (fun p hp => hbut _ (mem_but (s2 _ hp) (hfre rfl p hp))) (Hb.mono hbut) hl3 (.cons hb3 .nil)
end
end Mine
end
section
open PySem PySem.W PyProof.Rows PySem.Calls PySem.Spec PySem.SeqAt
set_option Elab.async false
set_option maxRecDepth 100000
namespace Mine
section
variable {w : World} {P : Params}
set_option maxHeartbeats 4000000 in
theorem prog_node {op : Nat} {l r : Tr} {c : Str} {way : Nat} (ih : ProgSpec w (Tr.node op l r c way).fst ∧ ProgSpec w (Tr.node op l r c way).snd) : ProgSpec w (.node op l r c way) := by
  intro A E S h₀ L m N s Q v G F R hT hg hh hn k
  obtain ⟨hop, hway, hgl, hgr, hc⟩ := id hg
  have gg := hands_facts op l r c way Tr.good hgl hgr
  have hhf := hands_facts op l r c way (fun t => t.high + 1 ≤ (Tr.node op l r c way).high) (by simp only [Tr.high]; omega) (by simp only [Tr.high]; omega)
  have hnn := hands_nodes op l r c way
  have rn := rows_node op l r c way 1
  have hT0 := hT
  cases hT with
  | @node ta _ _ _ _ _ _ _ _ _ _ hm hl hr =>
  refine in319 G F R fun g L' s₁ G R F kp bk => ?_
  have hE := ek319 L'
  refine wpAny_execs_cons ?_
  refine wpAny_If ?_
  refine wpAny_isTrue_Compare1 ?_
  refine callGb hE G F (k319_len _) b_len bb_len ?_
  refine args1 ?_
  refine nL hE F (k319_tree _) rfl ?_
  refine lenTup F hm fun _ _ F => ?_
  refine cI F fun _ _ F => ?_
  refine eq_int ?_
  refine wpAny_truthy_bool ?_
  have hw1 := sends_ok (sends_rows (.node op l r c way) 1 hg (by decide) (by omega) (dots 1 ++ c, (Tr.node op l r c way).word) (by rw [rn]; exact List.mem_append.mpr (.inr (.head _))))
  have sn := sends_rows (Tr.node op l r c way).snd 1 gg.2 (by decide) (by omega)
  have okr : OkRows ((Tr.node op l r c way).fst.rows 1 ++ (Tr.node op l r c way).snd.rows 2) := fun x hx => by
    rcases List.mem_append.mp hx with h | h
    · exact sends_ok (sends_rows _ 1 gg.1 (by decide) (by omega) x h)
    · exact sends_ok (sends_rows _ 2 gg.2 (by decide) (by omega) x h)
  have nf := rows_len (Tr.node op l r c way).fst 1
  have ns := rows_len (Tr.node op l r c way).snd 1
  have Rh : Rm (A.deeper (E319 L')) ((Tr.node op l r c way).high + 1) := R.le (by omega)
  generalize hfst : (Tr.node op l r c way).fst = tf at *
  generalize hsnd : (Tr.node op l r c way).snd = ts at *
  generalize hword : (Tr.node op l r c way).word = wd at *
  generalize hhigh : (Tr.node op l r c way).high = hi at *
  refine wpAny_execs_cons ?_
  refine asgT3 R.hd hE (k319_first _) (k319_second _) (k319_word _) ?_
  refine callG hE G F (k319_law_hands _) g_law_hands (ho307 w.params) ?_
  refine args1 (nL hE F (k319_tree _) rfl ?_)
  refine ⟨F.fr.keep, hands_spec G F (by rw [hhigh]; exact Rh) hT0 hop fun h vf vs t N₁ s hs₁ F hh' hf1 hf2 => ?_⟩
  rw [hfst] at hf1
  rw [hsnd] at hf2
  rw [hword] at hh'
  refine ⟨_, _, _, _, _, _, _, _, rfl, F, hh', fun s F => ?_⟩
  rw [up_lk, up_lk, up_lk] at F
  have hm1 := hs₁ _ hm
  refine wpAny_execs_cons ?_
  refine asg2 R.hd hE (k319_rows _) (k319_more _) ?_
  refine evItems (S := S) (L := L') (n := 7) rfl G (R.le (by omega)) (callG hE G F (k319_law_program _) g_law_program (ho319 w.params) (args1 (nL hE F (k319_first _) rfl ?_)))
  refine ⟨F.fr.keep, ih.1 _ _ _ _ _ _ _ _ _ _ G F (R.le (by omega)) hf1 gg.1 (by omega) (by omega) fun x1 l1 vs1 ln1 N₂ s F hs2 H1 hl1 hr1 => ?_⟩
  have e1 := hr1.length
  rw [nf] at e1
  refine ⟨_, _, _, _, _, _, rfl, F, H1, hl1, by rw [e1]; show _ ≤ 2 ^ 24; omega, fun a1 s _ F => ?_⟩
  refine callG hE G F (k319_law_sent _) g_law_sent (ho312 w.params) (args2 (callG hE G F (k319_law_program _) g_law_program (ho319 w.params) (args1 (nL hE F (k319_second _) rfl ?_))))
  have t2 : ∀ p ∈ N₁, p ∈ (a1, lstO vs1) :: N₂ := fun p hp => .tail _ (hs2 p hp)
  refine ⟨F.fr.keep, ih.2 _ _ _ _ _ _ _ _ _ _ G F (R.le (by omega)) (hf2.mono t2) gg.2 (by omega) (by omega) fun x2 l2 vs2 ln2 N₃ s F hs3 H2 hl2 hr2 => ?_⟩
  have e2 := hr2.length
  rw [ns] at e2
  refine subC (nL hE F (k319_tree _) rfl fun t => ?_)
  refine itTup (F.tk _) (hs3 _ (t2 _ hm1)) rfl ?_
  refine ⟨(F.tk _).fr.keep, sent_spec (n := hi) rfl G (F.tk _) (R.le (by omega)) H2 hl2 hr2 sn (by rw [ns]; omega) hway fun a2 vs3 ln3 N₄ s F hs4 ha2 hr3 => ?_⟩
  rw [rows_up] at hr3
  have e3 := hr3.length
  rw [rows_len] at e3
  have ha1 : (a1, lstO vs1) ∈ N₄ := hs4 _ (hs3 _ (.head _))
  have hr1' : RowsIn N₄ vs1 (tf.rows 1) := hr1.mono fun p hp => hs4 _ (hs3 _ (.tail _ hp))
  have hsub : ∀ p ∈ N, p ∈ N₄ := fun p hp => hs4 _ (hs3 _ (t2 _ (hs₁ _ hp)))
  refine ⟨_, _, _, _, F, fun a3 s F => ?_⟩
  rw [up_lk, up_lk] at F
  refine wpAny_execs_cons ?_
  refine wpAny_Assign_Name ?_
  refine evHd1 rfl hE G F (k319_Headers _) (callG hE G F (k319_concat _) g_concat (ho109 w.params) (args2 (nL hE F (k319_rows _) rfl (nL hE F (k319_more _) rfl ?_))))
  refine ⟨F.fr.keep, opConcatF (n := 5) G F (R.le (by omega)) (.tail _ ha1) (.tail _ ha2) (by rw [e1, e3]; show _ ≤ 2 ^ 24; omega) fun a4 s hf4 F => ?_⟩
  refine ⟨F.fr.keep, init_spec (v := some (.ref a4)) (n := 4) rfl G F (R.le (by omega)) (.inr ⟨rfl, .head _, (RowsIn.append hr1' hr3).mono fun p hp => .tail _ (.tail _ hp)⟩) okr fun x' l' N₅ s F hs5 H _ hl' _ _ => ?_⟩
  rw [hl' a4 rfl] at H
  have hl5 := hs5 _ (.head _)
  have Hb := H.butL F hl5 rfl
  have rb := (((RowsIn.append hr1' hr3).mono fun p hp => hs5 _ (.tail _ (.tail _ hp)) : RowsIn N₅ _ _)).butL F hl5 rfl
  refine st hE F (k319_program _) fun s F => ?_
  rw [up_lk] at F
  refine wpAny_execs_cons ?_
  refine wpAny_If ?_
  refine wpAny_isTrue_Compare1 ?_
  refine callGb hE G F (k319_len _) b_len bb_len (args1 (nL hE F (k319_program _) rfl ?_))
  refine lenH (n := 5) rfl G F (R.le (by omega)) H hl5 (by rw [List.length_append, e1, e3]; omega) fun t s F => ?_
  refine wpAny_BinOp (callGb hE G F (k319_len _) b_len bb_len (args1 (nL hE F (k319_rows _) rfl ?_)))
  refine lenLst F (hs5 _ (.tail _ (.tail _ ha1))) (by rw [e1]; omega) fun t s F => ?_
  refine callGb hE G F (k319_len _) b_len bb_len (args1 (nL hE F (k319_more _) rfl ?_))
  refine lenLst F (hs5 _ (.tail _ (.tail _ ha2))) (by rw [e3]; omega) fun t s F => ?_
  refine PyProof.Rows.add_int (PyProof.Rows.ne_int ?_)
  have F := F.tk (s.toks + 1)
  rw [show ((((vs1 ++ vs3).length : Nat) : Int) != (vs1.length : Int) + (vs3.length : Int)) = false from bne_eq_false_iff_eq.mpr (by rw [List.length_append]; omega)]
  refine wpAny_truthy_bool ?_
  rw [if_neg Bool.false_ne_true]
  refine wpAny_execs_nil ?_
  refine wpAny_execs_cons ?_
  refine wpAny_Assign_Name ?_
  refine evM (nL hE F (k319_program _) rfl fun pl => hdMeth G F H (fi_add_header _) (fn281 _) ne_add_header ?_)
  refine callH2 G (kp281 _) ?_
  refine wpAny_BinOp (cS F fun t s F => subC (nL hE F (k319_tree _) rfl fun t => ?_))
  refine itTup (F.tk _) (hs5 _ (.tail _ (.tail _ (hsub _ hm)))) rfl ?_
  refine catS (F.tk _) (by rw [isR_len hc, one_dot, dots_len]; decide) fun t s F => ?_
  refine nL hE F (k319_word _) rfl ?_
  refine ⟨F.fr.keep, ?_⟩
  rw [one_dot]
  refine add_spec (n := 5) rfl G F (R.le (by omega)) H hl5 hw1.1 hw1.2 (by rw [List.length_append, e1, e3]; omega) fun b n' N₆ s u' F hbut hl6 hb6 hfb => ?_
  refine st hE F (k319_answer _) fun s F => ?_
  rw [up_lk] at F
  refine wpAny_execs_nil ?_
  refine wpAny_execs_cons ?_
  refine wpAny_Return_some ?_
  refine wpAny_IfExp ?_
  refine wpAny_isTrue_Compare1 ?_
  refine nL hE F (k319_answer _) rfl ?_
  refine wpAny_Constant_none ?_
  refine wpAny_is_self (by decide +kernel) ?_
  refine wpAny_truthy_bool ?_
  rw [if_pos rfl]
  refine nL hE F (k319_program _) rfl ?_
  refine k x' a4 _ n' N₆ _ (bk _ _ _ F) (fun p hp => hbut _ (mem_but (hs5 _ (.tail _ (.tail _ (hsub _ hp)))) (hf4 _ (.tail _ (hsub _ hp))))) (Hb.mono hbut) hl6 ?_
  rw [rn]
  exact RowsIn.append (rb.mono hbut) (.cons hb6 .nil)
theorem prog_spec : ∀ t : Tr, ProgSpec w t := by
  intro t
  induction t with
  | leaf x c => exact prog_leaf x c
  | node op l r c way ihl ihr => exact prog_node (hands_facts op l r c way (ProgSpec w) ihl ihr)
end
end Mine
end
section
open PySem PySem.W PyProof.Rows PySem.Calls PySem.Spec PySem.SeqAt
set_option Elab.async false
set_option maxRecDepth 100000
namespace Mine
theorem dots_inj {a b : Nat} {x y : Str} (h : x.length = y.length) (e : dots a ++ x = dots b ++ y) : a = b := by
  have := congrArg Str.length e
  rw [app_len, app_len, dots_len, dots_len] at this
  omega
noncomputable def rS : Str := Str.ofString "r"
noncomputable def RR : Str := Str.ofString "..R"
theorem low_name (d : Nat) {c : Str} (h : isR c) : low (dots d ++ c) = dots d ++ rS := by
  apply str_ext
  show ((dots d ++ c).cps.map lo1).toList = _
  rw [Array.toList_map, cps_append, cps_append, List.map_append, dots_cps, List.map_replicate]
  congr 1
  rcases h with rfl | rfl <;> decide +kernel
theorem row_shape : ∀ (t : Tr) (d : Nat), t.good → ∀ r ∈ t.rows d, ∃ e c, d ≤ e ∧ e ≤ d + t.high ∧ isR c ∧ r.1 = dots e ++ c := by
  intro t
  induction t with
  | leaf v c =>
    intro d h r hr
    unfold Tr.rows at hr
    rcases hr with _ | ⟨_, hr⟩
    · exact ⟨d, c, Nat.le_refl _, Nat.le_add_right _ _, h.2, rfl⟩
    · cases hr
  | node op l r c way ihl ihr =>
    intro d h x hx
    obtain ⟨h1, h2, h3, h4, h5⟩ := h
    have key : ∀ (u : Tr) (k : Nat), (∀ r ∈ u.rows (d + k), ∃ e c, d + k ≤ e ∧ e ≤ d + k + u.high ∧ isR c ∧ r.1 = dots e ++ c) → k + u.high ≤ (Tr.node op l r c way).high → x ∈ u.rows (d + k) → ∃ e c', d ≤ e ∧ e ≤ d + (Tr.node op l r c way).high ∧ isR c' ∧ x.1 = dots e ++ c' := fun u k hu hk hx => by
      obtain ⟨e, c', p1, p2, p3, p4⟩ := hu x hx
      exact ⟨e, c', by omega, by omega, p3, p4⟩
    unfold Tr.rows at hx
    rcases List.mem_append.mp hx with hx | hx
    · split at hx
      · rcases List.mem_append.mp hx with hx | hx
        · exact key r 0 (ihr (d + 0) h4) (by simp only [Tr.high]; omega) hx
        · exact key l 1 (ihl (d + 1) h3) (by simp only [Tr.high]; omega) hx
      · rcases List.mem_append.mp hx with hx | hx
        · exact key l 0 (ihl (d + 0) h3) (by simp only [Tr.high]; omega) hx
        · exact key r 1 (ihr (d + 1) h4) (by simp only [Tr.high]; omega) hx
    · rcases hx with _ | ⟨_, hx⟩
      · exact ⟨d, c, Nat.le_refl _, Nat.le_add_right _ _, h5, rfl⟩
      · cases hx
theorem row_first : ∀ (t : Tr) (d : Nat), t.good → ∃ c v rest, isR c ∧ t.rows d = (dots d ++ c, v) :: rest := by
  intro t
  induction t with
  | leaf v c => intro d h; exact ⟨c, _, [], h.2, rfl⟩
  | node op l r c way ihl ihr =>
    intro d h
    obtain ⟨h1, h2, h3, h4, h5⟩ := h
    unfold Tr.rows
    split
    · obtain ⟨c', v, rest, hc, e⟩ := ihr d h4
      rw [e]; exact ⟨c', v, _, hc, rfl⟩
    · obtain ⟨c', v, rest, hc, e⟩ := ihl d h3
      rw [e]; exact ⟨c', v, _, hc, rfl⟩
theorem RR_is : RR = dots 2 ++ Str.ofString "R" := by decide +kernel
theorem low_RR : low RR = dots 2 ++ rS := by rw [RR_is]; exact low_name 2 (.inr rfl)
theorem RR_ok : OkT RR := ⟨by show ∀ c ∈ RR.cps.toList, 32 ≤ c ∧ c ≤ 126; decide +kernel, by decide +kernel⟩
theorem one_ok : OkT (Str.ofString "one") := ⟨by show ∀ c ∈ (Str.ofString "one").cps.toList, 32 ≤ c ∧ c ≤ 126; decide +kernel, by decide +kernel⟩
theorem many_filter (t : Tr) (h : t.good) : ((t.rows 2).filter fun r => low r.1 != low RR) = (t.rows 2).filter fun r => decide (3 < r.1.length) := by
  refine List.filter_congr fun r hr => ?_
  obtain ⟨e, c, h1, _, h2, h3⟩ := row_shape t 2 h r hr
  rw [h3, low_name e h2, low_RR, app_len, dots_len, isR_len h2]
  by_cases q : e = 2
  · subst q; simp
  · have : dots e ++ rS ≠ dots 2 ++ rS := fun z => q (dots_inj rfl z)
    rw [bne_iff_ne.mpr this, decide_eq_true (by omega)]
theorem many_look (t : Tr) (h : t.good) : ∃ n v rest, t.rows 2 = (n, v) :: rest ∧ lookRow (t.rows 2) (low RR) = some v := by
  obtain ⟨c, v, rest, hc, e⟩ := row_first t 2 h
  refine ⟨_, v, rest, e, ?_⟩
  rw [e]
  unfold lookRow
  rw [List.find?_cons_of_pos (by rw [low_name 2 hc, low_RR]; exact beq_self_eq_true _)]
  rfl
section
variable {w : World} {A : Around} {E : Value → Shared → Prop} {S : Shared} {h₀ : Heap} {L : Addr} {m : Mp} {N : Led} {s : Shared} {env : Env} {prog : Program} {x l : Addr} {P : Params}
theorem asg3s {e e' e'' : Expr} {k k' : Nat} {x y z : Str} {p p' p'' tp vp pos : Pos} {Q : Flow → Shared → Prop} (R : A.handled = none) (hE : EnvOk env L) (hx : env.kindOf x = some .local) (hy : env.kindOf y = some .local) (hz : env.kindOf z = some .local)
    (h : wpAny (model prog w) A (eval e env) (fun v s₁ => wpAny (model prog w) A (eval e' env) (fun v' s₂ => wpAny (model prog w) A (eval e'' env) (fun v'' s₂ => ∃ S h₀ N m, Fm S h₀ L m N s₂ ∧ ∀ a s', Fm S h₀ L (up (up (up m z v'') y v') x v) ((a, tupO [v, v', v'']) :: N) s' → Q .next s') E s₂) E s₁) E s)
    (hs : swapsWithSole [.Tuple [.Name x p, .Name y p', .Name z p''] k tp] (.Tuple [e, e', e''] k' vp) pos.line env = pure false := by kernel_rfl)
    (hw : swappedStores [.Tuple [.Name x p, .Name y p', .Name z p''] k tp] (.Tuple [e, e', e''] k' vp) env = pure (some [x, y, z]) := by kernel_rfl) (he : starEach [e, e', e''] env = [(false, eval e env), (false, eval e' env), (false, eval e'' env)] := by rfl) :
    wpAny (model prog w) A (exec (.Assign [.Tuple [.Name x p, .Name y p', .Name z p''] k tp] (.Tuple [e, e', e''] k' vp) pos) env) Q E s := by
  refine Assign_Tuple_swapped (names := [x, y, z]) ?_ hs hw
  refine Tuple_ (args3 (wpAny_mono h (fun v s₁ h₁ => wpAny_mono h₁ (fun v' s₂ h₂ => wpAny_mono h₂ (fun v'' s₂ h₂ => ?_) fun _ _ x => x) fun _ _ x => x) fun _ _ x => x) he)
  obtain ⟨S, h₀, N, m, F, q⟩ := h₂
  refine tupN F (fun a s' F => unpk R F (.head _) rfl fun s' F => ?_)
  refine wpAny_assignInOrder_more (bn hE F hz fun s' F => wpAny_assignInOrder_more (bn hE F hy fun s' F => wpAny_assignInOrder_more (bn hE F hx fun s' F => ?_)))
  exact wpAny_pure (q a s' F)
theorem lenS {y : Str} {t : Tok} {Q : Value → Shared → Prop} (F : Fm S h₀ L m N s) (hy : y.length ≤ 2 ^ 22) (k : ∀ t s', Fm S h₀ L m N s' → Q (.int y.length t) s') : wpAny (model prog w) A (call (.builtin "len") [.str y t]) Q E s :=
  PyProof.Rows.len_str (by omega) (k _ _ ((F.tk _).tk _))
end
end Mine
end
section
open PySem PySem.W PyProof.Rows PySem.Calls PySem.Spec PySem.SeqAt
set_option Elab.async false
set_option maxRecDepth 100000
namespace Mine
section
variable {w : World} {A : Around} {E : Value → Shared → Prop} {S : Shared} {h₀ : Heap} {L : Addr} {m : Mp} {N : Led} {s : Shared} {env : Env} {prog : Program} {x l : Addr} {P : Params}
set_option maxHeartbeats 4000000 in
theorem many_spec {t : Tr} {vs : List Value} {ln : Nat} {Q : Value → Shared → Prop} {n : Nat} (G : Gd w.params h₀) (F : Fm S h₀ L m N s) (R : Rm A (n + 9)) (hg : t.good) (hh : t.high ≤ 90) (hn : t.nodes ≤ 90) (hl : (l, lstO vs ln) ∈ N) (hr : RowsIn N vs (t.rows 2))
    (k : ∀ N' s', Fm S h₀ L m N' s' → (∀ p ∈ N, p ∈ N') → Q (.bool true) s') : wpAny (model pw w) A (call (.ref 345) [.ref l]) Q E s := by
  have e0 := hr.length
  rw [rows_len] at e0
  have v24 : vs.length ≤ sizeLine := by rw [e0]; show _ ≤ 2 ^ 24; omega
  have okr : OkRows (t.rows 2) := fun r hr => sends_ok (sends_rows t 2 hg (by decide) (by omega) r hr)
  obtain ⟨n0, v0, rest, hfirst, hlook⟩ := many_look t hg
  refine in345 G F R fun g L' s₁ G R F kp bk => ?_
  have hE := ek345 L'
  refine wpAny_execs_cons ?_
  refine asg2 R.hd hE (k345_rows _) (k345_deeper _) ?_
  refine cutL (nL hE F (k345_due _) rfl (pAll _ (pAll _ ?_)))
  refine ⟨_, _, _, _, _, _, _, _, _, _, rfl, F, hl, .none, .none, v24, fun a1 s hf1 F => ?_⟩
  rw [slicePick_all] at F
  change Fm S g L' _ ((a1, lstO vs) :: N) _ at F
  refine compL (S := S) (h₀ := g) (L := L') R.hd (cl := []) (fun i N' ys => N' = (a1, lstO vs) :: N ∧ RowsIn N ys (((t.rows 2).take i).filter fun r => decide (3 < r.1.length))) vs ?_
  refine nL hE F (k345_due _) rfl ?_
  refine ⟨l, ln, _, _, rfl, F, .tail _ hl, v24, ⟨rfl, .nil⟩, ?_, ?_⟩
  · rintro g' C I D i v m N' s o ys dn stay hv ⟨rfl, hys⟩ hle hl' hNI hND hDI ho Fi
    obtain ⟨b, key, vl, t₁, u₁, rfl, e2, e3⟩ := hr.get hv
    have ok := okr _ (List.mem_of_getElem? e2)
    refine wpAny_assign_Name (st ⟨by kernel_rfl, rfl, rfl, rfl⟩ Fi (by kernel_rfl) fun s F => ?_)
    refine tests1 ?_
    refine wpAny_isTrue_Compare1 ?_
    refine callGb ⟨by kernel_rfl, rfl, rfl, rfl⟩ (G.keeps stay) F (by kernel_rfl) b_len bb_len (args1 (subC (nL ⟨by kernel_rfl, rfl, rfl, rfl⟩ F (by kernel_rfl) (show up m (Str.ofString "pair") _ (Str.ofString "pair") = _ by unfold up; rw [if_pos rfl]) fun t => ?_)))
    refine itTup (F.tk _) (.tail _ (.tail _ (.tail _ e3))) rfl ?_
    refine lenS (F.tk _) (Nat.le_trans ok.1.2 (by decide)) fun t s F => ?_
    refine cI F fun t s F => PyProof.Rows.gt_int ?_
    refine wpAny_truthy_bool ?_
    obtain ⟨f1, f2⟩ := RowsIn.filterStep (p := fun r => decide (3 < r.1.length)) e2 e3 hys
    by_cases hc : 3 < key.length
    · rw [decide_eq_true (show (3 : Int) < (key.length : Int) by omega), if_pos rfl]
      refine nL ⟨by kernel_rfl, rfl, rfl, rfl⟩ F (by kernel_rfl) (show up m (Str.ofString "pair") _ (Str.ofString "pair") = _ by unfold up; rw [if_pos rfl]) ?_
      exact made F hl' hNI hND hDI ⟨rfl, f1 (decide_eq_true hc)⟩
    · rw [decide_eq_false (show ¬ ((3 : Int) < (key.length : Int)) by omega), if_neg Bool.false_ne_true]
      exact made F hl' hNI hND hDI ⟨rfl, f2 (decide_eq_false hc)⟩
  · rintro D N' s ys dn ⟨rfl, hys⟩ hND F
    have hys : RowsIn N ys ((t.rows 2).filter fun r => low r.1 != low RR) := by
      rw [hr.length, List.take_length] at hys
      rw [many_filter t hg]; exact hys
    refine ⟨_, _, _, _, F, fun a2 s F => ?_⟩
    rw [up_lk, up_lk] at F
    generalize hN2 : (a2, tupO [Value.ref a1, Value.ref D]) :: (D, lstO ys dn) :: (a1, lstO vs) :: N = N₂ at F
    have s2 : ∀ p ∈ N, p ∈ N₂ := fun p hp => by rw [← hN2]; exact .tail _ (.tail _ (.tail _ hp))
    have ha1 : (a1, lstO vs) ∈ N₂ := by rw [← hN2]; exact .tail _ (.tail _ (.head _))
    have hD : (D, lstO ys dn) ∈ N₂ := by rw [← hN2]; exact .tail _ (.head _)
    have hDa : D ≠ a1 := fun e => hND _ (.head _) e.symm
    clear hN2
    refine wpAny_execs_cons ?_
    refine wpAny_Assign_Name ?_
    refine evHd1 rfl hE G F (k345_Headers _) (nL hE F (k345_rows _) rfl ?_)
    refine ⟨F.fr.keep, init_spec (v := some (.ref a1)) (n := n + 3) rfl G F (R.le (by omega)) (.inr ⟨rfl, ha1, hr.mono s2⟩) okr fun x' l' N₃ s F hs3 H _ hl' _ _ => ?_⟩
    rw [hl' a1 rfl] at H
    have s3 : ∀ p ∈ N, p ∈ N₃ := fun p hp => hs3 _ (s2 _ hp)
    refine st hE F (k345_table _) fun s F => ?_
    rw [up_lk] at F
    refine wpAny_execs_cons ?_
    refine asg3s R.hd hE (k345_taken _) (k345_told _) (k345_answer _) ?_
    refine evItems (S := S) (L := L') (n := n) rfl G (R.le (by omega)) (nL hE F (k345_table _) rfl ?_)
    refine ⟨_, _, _, _, _, _, rfl, F, H, hs3 _ ha1, v24, fun a3 s hf3 F => ?_⟩
    refine callG hE G F (k345_getitem _) g_getitem (ho123 w.params) (args2 (nL hE F (k345_table _) rfl (cS F fun t0 s F => ?_)))
    refine ⟨F.fr.keep, opGet (n := n) rfl G F (R.le (by omega)) (H.mono fun p hp => .tail _ hp) (.tail _ (hs3 _ ha1)) ((hr.mono s3).mono fun p hp => .tail _ hp) okr RR_ok fun v s F hv => ?_⟩
    rw [show Str.ofString "..R" = RR from rfl, hlook] at hv
    obtain ⟨tv, rfl⟩ := hv
    refine callG hE G F (k345_setitem _) g_setitem (ho130 w.params) (args3 (nL hE F (k345_table _) rfl (cS F fun t1 s F => cS F fun t2 s F => ?_)))
    refine ⟨F.fr.keep, opSet (n := n) rfl G F (R.le (by omega)) (H.mono fun p hp => .tail _ hp) (.tail _ (hs3 _ ha1)) ((hr.mono s3).mono fun p hp => .tail _ hp) okr RR_ok one_ok (by rw [e0]; omega) fun vs' n' N₄ s F hbut hl4 hr4 => ?_⟩
    have s4 : ∀ p ∈ N, p ∈ N₄ := fun p hp => hbut _ (mem_but (.tail _ (s3 _ hp)) (hf1 _ hp))
    have hD4 : (D, lstO ys dn) ∈ N₄ := hbut _ (mem_but (.tail _ (hs3 _ hD)) hDa)
    have ha3 : (a3, lstO vs) ∈ N₄ := hbut _ (mem_but (.head _) fun e => hf3 _ (hs3 _ ha1) e.symm)
    refine ⟨_, _, _, _, F, fun a4 s F => ?_⟩
    rw [up_lk, up_lk, up_lk] at F
    have hl' := s4 _ hl
    refine wpAny_execs_cons ?_
    refine wpAny_Return_some ?_
    refine BoolOp_and (wpAny_Compare1 (nL hE F (k345_taken _) rfl (nL hE F (k345_due _) rfl ?_)))
    refine eqRows F (R.in1 (n := n + 7)).line (.tail _ ha3) (.tail _ hl') ((hr.mono s4).mono fun p hp => .tail _ hp) ((hr.mono s4).mono fun p hp => .tail _ hp) ?_
    refine wpAny_truthy_bool ?_
    rw [if_pos rfl]
    obtain ⟨p0, hp0⟩ : ∃ p0, vs[0]? = some p0 := by
      cases hvs : vs with
      | nil => rw [hvs, hfirst] at hr; cases hr
      | cons a b => exact ⟨a, rfl⟩
    obtain ⟨b, key, vl, t₁, u₁, e1, e2, e3⟩ := hr.get hp0
    subst e1
    rw [hfirst] at e2
    cases e2
    refine BoolOp_and (wpAny_Compare1 (nL hE F (k345_told _) rfl (subC (subC (nL hE F (k345_due _) rfl fun t8 => itLst (F.tk _) (.tail _ hl') hp0 (by decide) (by decide) fun t9 => ?_)))))
    refine itTup ((F.tk _).tk _) (.tail _ (s4 _ e3)) rfl ?_
    refine PyProof.Rows.eq_str ?_
    rw [beq_self_eq_true]
    refine wpAny_truthy_bool ?_
    rw [if_pos rfl]
    have F := (F.tk (s.toks + 1)).tk (s.toks + 1 + 1)
    refine BoolOp_and (wpAny_Compare1 (nL hE F (k345_answer _) rfl (wpAny_Constant_none ?_)))
    refine wpAny_is_self (by decide +kernel) ?_
    refine wpAny_truthy_bool ?_
    rw [if_pos rfl]
    refine BoolOp_one (wpAny_Compare1 (nL hE F (k345_rows _) rfl ?_))
    refine wpAny_BinOp (nL hE F (k345_deeper _) rfl ?_)
    refine List_ (args1 (Tuple_ (args2 (cS F fun t1 s F => cS F fun t2 s F => ?_))))
    refine tupN F fun b1 s F => ?_
    refine lstN F fun b2 s F => ?_
    have ysl : ys.length ≤ 90 := by
      rw [hys.length]
      refine Nat.le_trans (List.length_filter_le _ _) ?_
      rw [rows_len]; exact hn
    refine catLst F (.tail _ (.tail _ (.tail _ hD4))) (.head _) (by show _ + 1 ≤ 2 ^ 24; omega) fun b3 s F => ?_
    refine eqRows (rs := setRow (t.rows 2) RR (Str.ofString "one")) F (R.in1 (n := n + 7)).line (.tail _ (.tail _ (.tail _ (.tail _ hl4)))) (.head _) (hr4.mono fun p hp => .tail _ (.tail _ (.tail _ (.tail _ hp)))) ?_ ?_
    · exact RowsIn.append (hys.mono fun p hp => .tail _ (.tail _ (.tail _ (.tail _ (s4 _ hp))))) (.cons (.tail _ (.tail _ (.head _))) .nil)
    · exact k _ _ (bk _ _ _ F) fun p hp => .tail _ (.tail _ (.tail _ (.tail _ (s4 _ hp))))
end
end Mine
end
section
open PySem PySem.W PyProof.Rows PySem.Calls PySem.Spec PySem.SeqAt PySem.NumText
set_option Elab.async false
set_option maxRecDepth 100000
namespace Mine
theorem digits_nat (m : Nat) : AllDigits ((Nat.toDigits 10 m).map Char.toNat) ∧ (Nat.toDigits 10 m).map Char.toNat ≠ [] := by
  refine ⟨fun c hc => ?_, fun e => ?_⟩
  · obtain ⟨ch, hch, e⟩ := List.mem_map.mp hc
    have r := digit_range (Nat.isDigit_of_mem_toDigits (by decide) (by decide) hch)
    rw [← e]
    exact r
  · have h := toDigits_len_ge 10 m
    rw [List.map_eq_nil_iff.mp e] at h
    exact absurd h (by decide)
theorem int_back {v : Int} (h : v.natAbs < 10 ^ 600) : PySem.intText? (intS v) = some v := by
  have hl : (intS v).length ≤ 4300 := Nat.le_trans (intS_len (k := 600) (by decide) h) (by decide)
  cases v with
  | ofNat m =>
    have e : (intS (Int.ofNat m)).cps.toList = (Nat.toDigits 10 m).map Char.toNat := KIN.signs_num m
    have := intText_digits (x := intS (Int.ofNat m)) (by rw [e]; exact (digits_nat m).1) (by rw [e]; exact (digits_nat m).2) hl
    rw [e, KIN.val_back] at this
    exact this
  | negSucc m =>
    have e : (intS (Int.negSucc m)).cps.toList = 45 :: (Nat.toDigits 10 (m + 1)).map Char.toNat := by
      unfold intS
      have e1 : toString (Int.negSucc m) = "-" ++ Nat.repr (m + 1) := rfl
      rw [e1, signs_ofString, String.toList_append, List.map_append, Nat.toList_repr]
      rfl
    have := intText_neg (x := intS (Int.negSucc m)) e (digits_nat (m + 1)).1 (digits_nat (m + 1)).2 hl
    rw [KIN.val_back] at this
    rw [this]
    rfl
section
variable {w : World} {A : Around} {E : Value → Shared → Prop} {S : Shared} {h₀ : Heap} {L : Addr} {m : Mp} {N : Led} {s : Shared} {env : Env} {prog : Program}
theorem intOf {v : Int} {t : Tok} {Q : Value → Shared → Prop} (F : Fm S h₀ L m N s) (hv : v.natAbs < 10 ^ 600) (q : ∀ t s', Fm S h₀ L m N s' → Q (.int v t) s') : wpAny (model prog w) A (call (.type "int") [.str (intS v) t]) Q E s :=
  KIN.call_text (int_back hv) (Nat.le_trans (intS_len (k := 600) (by decide) hv) (by decide)) (q _ _ (F.tk _))
end
end Mine
end
section
open PySem PySem.W PyProof.Rows PySem.Calls PySem.Spec PySem.SeqAt
set_option Elab.async false
set_option maxRecDepth 100000
namespace Mine
/-- a register: how deep, its letter, its number -/
noncomputable abbrev Reg := Nat × Str × Int
noncomputable def regRow (g : Reg) : Str × Str := (dots g.1 ++ g.2.1, intS g.2.2)
noncomputable def delReg (rs : List Reg) (d : Nat) : List Reg := rs.filter fun g => g.1 != d
noncomputable def setReg (rs : List Reg) (d : Nat) (c : Str) (v : Int) : List Reg := delReg rs d ++ [(d, c, v)]
noncomputable def lookReg (rs : List Reg) (d : Nat) : Option Int := (rs.find? fun g => g.1 == d).map (·.2.2)
inductive Ins where
  | push (d : Nat) (c : Str) (v : Int)
  | sign (d : Nat) (c : Str) (op : Nat) (b : Bool)
noncomputable def Ins.row : Ins → Str × Str
  | .push d c v => (dots d ++ c, intS v)
  | .sign d c op b => (dots d ++ c, wordOf op b)
noncomputable def Tr.code : Tr → Nat → List Ins
  | .leaf v c, d => [.push d c v]
  | .node op l r c _, d => (if l.need < r.need then r.code d ++ l.code (d + 1) else l.code d ++ r.code (d + 1)) ++ [.sign d c op (decide (l.need < r.need))]
theorem code_rows : ∀ (t : Tr) (d : Nat), (t.code d).map Ins.row = t.rows d := by
  intro t
  induction t with
  | leaf v c => intro d; rfl
  | node op l r c way ihl ihr =>
    intro d
    unfold Tr.code Tr.rows
    rw [List.map_append, word_is]
    split <;> rw [List.map_append, ihl, ihr] <;> rfl
noncomputable abbrev St := List Reg × Nat
noncomputable def big : Nat := 10 ^ 30
noncomputable def Step : Ins → St → St → Prop
  | .push d c v, p, q => 0 < d ∧ d ≤ 100 ∧ isR c ∧ v.natAbs ≤ 100 ∧ q.1 = setReg p.1 d c v ∧ q.2 = max p.2 q.1.length ∧ q.1.length ≤ 100
  | .sign d c op b, p, q => ∃ x y, 0 < d ∧ d ≤ 100 ∧ isR c ∧ op < 4 ∧ lookReg p.1 d = some x ∧ lookReg p.1 (d + 1) = some y ∧ IntMulOk (if b then y else x) (if b then x else y) ∧
      (opV op (if b then y else x) (if b then x else y)).natAbs ≤ big ∧ q.1 = setReg (delReg p.1 (d + 1)) d c (opV op (if b then y else x) (if b then x else y)) ∧ q.2 = max p.2 q.1.length ∧ q.1.length ≤ 100
inductive Steps : List Ins → St → St → Prop
  | nil {p : St} : Steps [] p p
  | cons {i : Ins} {is : List Ins} {p q r : St} : Step i p q → Steps is q r → Steps (i :: is) p r
theorem Steps.append {a b : List Ins} {p q r : St} (h : Steps a p q) (h' : Steps b q r) : Steps (a ++ b) p r := by
  induction h with
  | nil => exact h'
  | cons s _ ih => exact .cons s (ih h')
theorem del_fresh {rs : List Reg} {d : Nat} (h : ∀ g ∈ rs, g.1 < d) : delReg rs d = rs := by
  unfold delReg
  refine List.filter_eq_self.mpr fun g hg => ?_
  have := h g hg
  exact bne_iff_ne.mpr (by omega)
theorem look_skip {rs rs' : List Reg} {d : Nat} (h : ∀ g ∈ rs, g.1 < d) : lookReg (rs ++ rs') d = lookReg rs' d := by
  unfold lookReg
  rw [List.find?_append, List.find?_eq_none.mpr fun g hg => by have := h g hg; simp; omega]
  rfl
theorem bitAnd_bound {x y : Int} {m : Nat} (hx : x.natAbs < 2 ^ m) (hy : y.natAbs < 2 ^ m) : (Builtin.bitAnd x y).natAbs ≤ 2 ^ m := by
  unfold Builtin.bitAnd
  by_cases h1 : 0 ≤ x
  · by_cases h2 : 0 ≤ y
    · rw [decide_eq_true h1, decide_eq_true h2]
      show ((x.toNat &&& y.toNat : Nat) : Int).natAbs ≤ _
      have := Nat.and_le_left (n := x.toNat) (m := y.toNat)
      omega
    · rw [decide_eq_true h1, decide_eq_false h2]
      show (x - ((x.toNat &&& (Builtin.bitNot y).toNat : Nat) : Int)).natAbs ≤ _
      have := Nat.and_le_left (n := x.toNat) (m := (Builtin.bitNot y).toNat)
      omega
  · by_cases h2 : 0 ≤ y
    · rw [decide_eq_false h1, decide_eq_true h2]
      show (y - ((y.toNat &&& (Builtin.bitNot x).toNat : Nat) : Int)).natAbs ≤ _
      have := Nat.and_le_left (n := y.toNat) (m := (Builtin.bitNot x).toNat)
      omega
    · rw [decide_eq_false h1, decide_eq_false h2]
      show (Builtin.bitNot (((Builtin.bitNot x).toNat ||| (Builtin.bitNot y).toNat : Nat) : Int)).natAbs ≤ _
      have nx : (Builtin.bitNot x).toNat < 2 ^ m := by unfold Builtin.bitNot; omega
      have ny : (Builtin.bitNot y).toNat < 2 ^ m := by unfold Builtin.bitNot; omega
      have := Nat.or_lt_two_pow nx ny
      generalize ((Builtin.bitNot x).toNat ||| (Builtin.bitNot y).toNat) = z at this
      unfold Builtin.bitNot
      omega
theorem bitXor_bound {x y : Int} {m : Nat} (hx : x.natAbs < 2 ^ m) (hy : y.natAbs < 2 ^ m) : (Builtin.bitXor x y).natAbs < 2 ^ (m + 3) := by
  have h := bitAnd_bound hx hy
  rw [bitXor_and]
  have e : 2 ^ (m + 3) = 8 * 2 ^ m := by rw [Nat.pow_add]; omega
  rw [e]
  omega
noncomputable def Tr.leaves : Tr → Nat
  | .leaf _ _ => 1
  | .node _ l r _ _ => l.leaves + r.leaves
theorem leaves_pos : ∀ t : Tr, 1 ≤ t.leaves := by
  intro t
  induction t with
  | leaf v c => exact Nat.le_refl _
  | node op l r c way ihl ihr => show 1 ≤ l.leaves + r.leaves; omega
theorem opV_bound {op m n : Nat} {x y : Int} (hx : x.natAbs < 2 ^ (10 * m)) (hy : y.natAbs < 2 ^ (10 * n)) (hm : 1 ≤ m) (hn : 1 ≤ n) : (opV op x y).natAbs < 2 ^ (10 * (m + n)) := by
  have gm : ∀ {z : Int} {k : Nat}, k ≤ 10 * (m + n) → z.natAbs < 2 ^ k → z.natAbs < 2 ^ (10 * (m + n)) := fun hk h => Nat.lt_of_lt_of_le h (Nat.pow_le_pow_right (by decide) hk)
  have hM : ∀ {z : Int} {a b : Nat}, z.natAbs < 2 ^ (10 * a) → z.natAbs < 2 ^ (10 * max a b) := fun h => Nat.lt_of_lt_of_le h (Nat.pow_le_pow_right (by decide) (by omega))
  have hx' := hM (b := n) hx
  have hy' := hM (b := m) hy
  rw [Nat.max_comm] at hy'
  have e1 : 2 ^ (10 * max m n + 3) = 8 * 2 ^ (10 * max m n) := by rw [Nat.pow_add]; omega
  unfold opV
  split
  · exact gm (k := 10 * max m n + 3) (by omega) (by rw [e1]; omega)
  · exact gm (k := 10 * max m n + 3) (by omega) (by rw [e1]; omega)
  · rw [Int.natAbs_mul, show 10 * (m + n) = 10 * m + 10 * n by omega, Nat.pow_add]
    exact Nat.mul_lt_mul'' hx hy
  · exact gm (k := 10 * max m n + 3) (by omega) (bitXor_bound hx' hy')
theorem worth_bound : ∀ t : Tr, t.good → t.worth.natAbs < 2 ^ (10 * t.leaves) := by
  intro t
  induction t with
  | leaf v c => intro h; exact Nat.lt_of_le_of_lt h.1 (show 100 < 2 ^ (10 * 1) by decide)
  | node op l r c way ihl ihr =>
    intro h
    exact opV_bound (ihl h.2.2.1) (ihr h.2.2.2.1) (leaves_pos l) (leaves_pos r)
theorem mul_ok {x y : Int} {m n : Nat} (hx : x.natAbs < 2 ^ (10 * m)) (hy : y.natAbs < 2 ^ (10 * n)) (h : m + n ≤ 100) : IntMulOk x y :=
  IntMulOk.of_le (intBits_le_iff.mpr hx) (intBits_le_iff.mpr hy) (by omega)
theorem good_fine : ∀ t : Tr, t.good → t.leaves ≤ 100 → t.fine := by
  intro t
  induction t with
  | leaf v c => intro _ _; trivial
  | node op l r c way ihl ihr =>
    intro h hl
    have hl' : l.leaves + r.leaves ≤ 100 := hl
    exact ⟨h.1, mul_ok (worth_bound l h.2.2.1) (worth_bound r h.2.2.2.1) hl', ihl h.2.2.1 (by omega), ihr h.2.2.2.1 (by omega)⟩
noncomputable def Tr.letter : Tr → Str
  | .leaf _ c => c
  | .node _ _ _ c _ => c
end Mine
end
section
open PySem PySem.W PyProof.Rows PySem.Calls PySem.Spec PySem.SeqAt
set_option Elab.async false
set_option maxRecDepth 100000
namespace Mine
theorem need_pos : ∀ t : Tr, 1 ≤ t.need
  | .leaf _ _ => Nat.le_refl _
  | .node _ l r _ _ => by
    have := need_pos l
    show 1 ≤ if l.need = r.need then l.need + 1 else max l.need r.need
    split
    · exact Nat.le_add_left 1 _
    · exact Nat.le_trans this (Nat.le_max_left _ _)
theorem need_hands (op : Nat) (l r : Tr) (c : Str) (way : Nat) : (Tr.node op l r c way).need = max (Tr.node op l r c way).fst.need ((Tr.node op l r c way).snd.need + 1) := by
  show (if l.need = r.need then l.need + 1 else max l.need r.need) = max (if l.need < r.need then r else l).need ((if l.need < r.need then l else r).need + 1)
  generalize ha : l.need = a
  generalize hb : r.need = b
  by_cases h : a < b
  · rw [if_pos h, if_pos h, if_neg (Nat.ne_of_lt h), ha, hb, Nat.max_eq_right (Nat.le_of_lt h), Nat.max_eq_left h]
  · rw [if_neg h, if_neg h, ha, hb]
    by_cases h2 : a = b
    · rw [if_pos h2, ← h2, Nat.max_eq_right (Nat.le_succ _)]
    · have h3 : b < a := Nat.lt_of_le_of_ne (Nat.le_of_not_lt h) (Ne.symm h2)
      rw [if_neg h2, Nat.max_eq_left (Nat.le_of_lt h3), Nat.max_eq_left h3]
theorem hands_need (op : Nat) (l r : Tr) (c : Str) (way k M : Nat) : max (max (max M (k + (Tr.node op l r c way).fst.need)) (k + 1 + (Tr.node op l r c way).snd.need)) (k + 1) = max M (k + (Tr.node op l r c way).need) ∧
    (Tr.node op l r c way).fst.need ≤ (Tr.node op l r c way).need ∧ 1 + (Tr.node op l r c way).snd.need ≤ (Tr.node op l r c way).need + 0 ∧ 1 ≤ (Tr.node op l r c way).need := by
  have e := need_hands op l r c way
  refine ⟨?_, by rw [e]; exact Nat.le_max_left _ _, by rw [e, Nat.add_comm 1]; exact Nat.le_max_right _ _, need_pos _⟩
  rw [e, Nat.max_eq_left (Nat.le_trans (Nat.le_add_right (k + 1) _) (Nat.le_max_right _ _)), Nat.max_assoc, ← Nat.add_max_add_left, Nat.add_assoc k 1, Nat.add_comm 1]
theorem code_node (op : Nat) (l r : Tr) (c : Str) (way d : Nat) : (Tr.node op l r c way).code d = ((Tr.node op l r c way).fst.code d ++ (Tr.node op l r c way).snd.code (d + 1)) ++ [.sign d c op (decide (l.need < r.need))] := by
  show (if l.need < r.need then r.code d ++ l.code (d + 1) else l.code d ++ r.code (d + 1)) ++ _ = ((if l.need < r.need then r else l).code d ++ (if l.need < r.need then l else r).code (d + 1)) ++ _
  split <;> rfl
theorem hands_worth (op : Nat) (l r : Tr) (c : Str) (way : Nat) : (Tr.node op l r c way).worth = opV op (if decide (l.need < r.need) then (Tr.node op l r c way).snd.worth else (Tr.node op l r c way).fst.worth) (if decide (l.need < r.need) then (Tr.node op l r c way).fst.worth else (Tr.node op l r c way).snd.worth) := by
  show opV op l.worth r.worth = opV op (if decide (l.need < r.need) then (if l.need < r.need then l else r).worth else (if l.need < r.need then r else l).worth) (if decide (l.need < r.need) then (if l.need < r.need then r else l).worth else (if l.need < r.need then l else r).worth)
  by_cases h : l.need < r.need
  · rw [decide_eq_true h, if_pos h, if_pos h]; rfl
  · rw [decide_eq_false h, if_neg h, if_neg h]; rfl
theorem two_big {x : Int} {k : Nat} (h : x.natAbs < 2 ^ (10 * k)) (hk : k ≤ 9) : x.natAbs ≤ big :=
  Nat.le_trans (Nat.le_of_lt h) (Nat.le_trans (Nat.pow_le_pow_right (by decide) (show 10 * k ≤ 90 by omega)) (by decide))
noncomputable def RunOk (t : Tr) : Prop := ∀ (d : Nat) (regs : List Reg) (M : Nat), t.good → t.leaves ≤ 9 → (∀ g ∈ regs, g.1 < d) → regs.length + t.need ≤ 100 → d + t.high ≤ 100 → 0 < d →
    Steps (t.code d) (regs, M) (regs ++ [(d, t.letter, t.worth)], max M (regs.length + t.need))
theorem run_leaf (v : Int) (c : Str) : RunOk (.leaf v c) := by
  intro d regs M hg hlv hlt hn hd h0
  refine .cons (q := (regs ++ [(d, c, v)], max M (regs.length + 1))) ?_ .nil
  refine ⟨h0, by omega, hg.2, hg.1, ?_, ?_, ?_⟩
  · show regs ++ [(d, c, v)] = delReg regs d ++ [(d, c, v)]
    rw [del_fresh hlt]
  · show max M (regs.length + 1) = max M (regs ++ [(d, c, v)]).length
    rw [List.length_append]; rfl
  · show (regs ++ [(d, c, v)]).length ≤ 100
    rw [List.length_append]; exact hn
theorem run_node {op : Nat} {l r : Tr} {c : Str} {way : Nat} (ih : RunOk (Tr.node op l r c way).fst ∧ RunOk (Tr.node op l r c way).snd) : RunOk (.node op l r c way) := by
  intro d regs M hg hlv hlt hn hd h0
  obtain ⟨hop, hway, hgl, hgr, hc⟩ := id hg
  have gg := hands_facts op l r c way Tr.good hgl hgr
  have hhf := hands_facts op l r c way (fun t => t.high + 1 ≤ (Tr.node op l r c way).high) (by simp only [Tr.high]; omega) (by simp only [Tr.high]; omega)
  have lv : l.leaves + r.leaves ≤ 9 := hlv
  have lp := leaves_pos l
  have rp := leaves_pos r
  have hlf : (Tr.node op l r c way).fst.leaves + (Tr.node op l r c way).snd.leaves ≤ 9 := by
    show (if l.need < r.need then r else l).leaves + (if l.need < r.need then l else r).leaves ≤ 9
    split <;> omega
  obtain ⟨n1, n2, n3, n4⟩ := hands_need op l r c way regs.length M
  have w1 := worth_bound _ gg.1
  have w2 := worth_bound _ gg.2
  have wn := worth_bound _ hg
  have hw := hands_worth op l r c way
  have h1 := ih.1 d regs M gg.1 (by omega) hlt (by omega) (by omega) h0
  have h2 := ih.2 (d + 1) (regs ++ [(d, (Tr.node op l r c way).fst.letter, (Tr.node op l r c way).fst.worth)]) (max M (regs.length + (Tr.node op l r c way).fst.need)) gg.2 (by omega) (fun g hg => by
    rcases List.mem_append.mp hg with h | h
    · have := hlt g h; omega
    · rcases h with _ | ⟨_, h⟩
      · exact Nat.lt_succ_self _
      · cases h) (by rw [List.length_append]; show regs.length + 1 + _ ≤ _; omega) (by omega) (by omega)
  rw [code_node]
  generalize (Tr.node op l r c way).fst = tf at *
  generalize (Tr.node op l r c way).snd = ts at *
  refine (h1.append h2).append (.cons (q := (regs ++ [(d, c, (Tr.node op l r c way).worth)], max M (regs.length + (Tr.node op l r c way).need))) ?_ .nil)
  have e0 : regs ++ [(d, tf.letter, tf.worth)] ++ [(d + 1, ts.letter, ts.worth)] = regs ++ [(d, tf.letter, tf.worth), (d + 1, ts.letter, ts.worth)] := by rw [List.append_assoc]; rfl
  rw [e0]
  have f1 : ∀ g ∈ regs, g.1 < d + 1 := fun g hg => Nat.lt_succ_of_lt (hlt g hg)
  refine ⟨tf.worth, ts.worth, h0, by omega, hc, hop, ?_, ?_, ?_, ?_, ?_, ?_, ?_⟩
  · show lookReg (regs ++ _) d = _
    rw [look_skip hlt]
    unfold lookReg
    rw [List.find?_cons_of_pos (by exact beq_self_eq_true _)]; rfl
  · show lookReg (regs ++ _) (d + 1) = _
    rw [look_skip f1]
    unfold lookReg
    rw [List.find?_cons_of_neg (by show ¬ ((d == d + 1) = true); simp), List.find?_cons_of_pos (by exact beq_self_eq_true _)]; rfl
  · split
    · exact mul_ok w2 w1 (by omega)
    · exact mul_ok w1 w2 (by omega)
  · rw [← hw]; exact two_big wn hlv
  · rw [← hw]
    show regs ++ [(d, c, (Tr.node op l r c way).worth)] = delReg (delReg (regs ++ [(d, tf.letter, tf.worth), (d + 1, ts.letter, ts.worth)]) (d + 1)) d ++ [(d, c, (Tr.node op l r c way).worth)]
    congr 1
    have a1 : delReg (regs ++ [(d, tf.letter, tf.worth), (d + 1, ts.letter, ts.worth)]) (d + 1) = regs ++ [(d, tf.letter, tf.worth)] := by
      have := del_fresh f1
      unfold delReg at this ⊢
      rw [List.filter_append, this, List.filter_cons_of_pos (by show (d != d + 1) = true; simp), List.filter_cons_of_neg (by show ¬ ((d + 1 != d + 1) = true); simp)]; rfl
    rw [a1]
    have := del_fresh hlt
    unfold delReg at this ⊢
    rw [List.filter_append, this, List.filter_cons_of_neg (by show ¬ ((d != d) = true); simp)]; simp
  · show max M (regs.length + (Tr.node op l r c way).need) = max (max (max M (regs.length + tf.need)) ((regs ++ [(d, tf.letter, tf.worth)]).length + ts.need)) (regs ++ [(d, c, (Tr.node op l r c way).worth)]).length
    rw [List.length_append, List.length_append]
    exact n1.symm
  · show (regs ++ [(d, c, _)]).length ≤ 100
    rw [List.length_append]; show regs.length + 1 ≤ 100; omega
theorem run_ok : ∀ t : Tr, RunOk t := by
  intro t
  induction t with
  | leaf v c => exact run_leaf v c
  | node op l r c way ihl ihr => exact run_node (hands_facts op l r c way RunOk ihl ihr)
/-- the steps as a sequence of states -/
theorem Steps.seq {is : List Ins} {p q : St} (h : Steps is p q) : ∃ σ : Nat → St, σ 0 = p ∧ σ is.length = q ∧ ∀ i ins, is[i]? = some ins → Step ins (σ i) (σ (i + 1)) := by
  induction h with
  | @nil p => exact ⟨fun _ => p, rfl, rfl, fun i ins h => by cases h⟩
  | @cons i is p q r s _ ih =>
    obtain ⟨σ, h0, h1, h2⟩ := ih
    refine ⟨fun k => match k with | 0 => p | k + 1 => σ k, rfl, h1, fun k ins hk => ?_⟩
    cases k with
    | zero =>
      cases hk
      show Step i p (σ 0)
      rw [h0]; exact s
    | succ k => exact h2 k ins hk
end Mine
end
section
open PySem PySem.W PyProof.Rows PySem.Calls PySem.Spec PySem.SeqAt
set_option Elab.async false
set_option maxRecDepth 100000
namespace Mine
theorem up_same (m : Mp) (x : Str) (v : Value) : up m x v x = some v := if_pos rfl
theorem up_ne (m : Mp) {x y : Str} (v : Value) (h : y ≠ x) : up m x v y = m y := if_neg h
theorem up_skip {m : Mp} {x y : Str} {v : Value} {o : Option Value} (h : m y = o) (hn : y ≠ x := by decide +kernel) : up m x v y = o := (if_neg hn).trans h
theorem dot_name (d : Nat) (c : Str) : Str.ofString "." ++ (dots d ++ c) = dots (d + 1) ++ c := by
  apply str_ext
  rw [cps_append, cps_append, cps_append, dots_cps, dots_cps]
  rfl
noncomputable def RegsOk (rs : List Reg) : Prop := (∀ g ∈ rs, g.1 ≤ 101 ∧ isR g.2.1 ∧ g.2.2.natAbs ≤ big) ∧ rs.length ≤ 100
theorem RegsOk.del {rs : List Reg} (h : RegsOk rs) (d : Nat) : RegsOk (delReg rs d) := by
  refine ⟨fun g hg => h.1 g (List.mem_filter.mp hg).1, Nat.le_trans (List.length_filter_le _ _) h.2⟩
theorem name_ok {d : Nat} {c : Str} (hd : d ≤ 102) (hc : isR c) : OkT (dots d ++ c) := by
  refine ⟨fun x hx => ?_, ?_⟩
  · have := name_plain d hc x hx; omega
  · rw [app_len, dots_len, isR_len hc]; omega
theorem big_len {v : Int} (h : v.natAbs ≤ big) : (intS v).length ≤ 32 := intS_len (k := 31) (by decide) (Nat.lt_of_le_of_lt h (by decide))
theorem int_ok {v : Int} (h : v.natAbs ≤ big) : OkT (intS v) := by
  refine ⟨fun x hx => ?_, Nat.le_trans (big_len h) (by decide)⟩
  have := intS_plain v x hx; omega
theorem RegsOk.rows {rs : List Reg} (h : RegsOk rs) : OkRows (rs.map regRow) := by
  intro r hr
  obtain ⟨g, hg, rfl⟩ := List.mem_map.mp hr
  obtain ⟨h1, h2, h3⟩ := h.1 g hg
  exact ⟨name_ok (by omega) h2, int_ok h3⟩
theorem low_eq_iff {d e : Nat} {c c' : Str} (h : isR c) (h' : isR c') : (low (dots d ++ c) == low (dots e ++ c')) = (d == e) := by
  rw [low_name d h, low_name e h']
  by_cases q : d = e
  · subst q; simp
  · rw [beq_eq_false_iff_ne.mpr q, beq_eq_false_iff_ne.mpr fun z => q (dots_inj rfl z)]
theorem filter_regs {rs : List Reg} {d : Nat} {c : Str} (h : ∀ g ∈ rs, isR g.2.1) (hc : isR c) : (rs.map regRow).filter (fun r => low r.1 != low (dots d ++ c)) = (delReg rs d).map regRow := by
  unfold delReg
  induction rs with
  | nil => rfl
  | cons g rs ih =>
    have ih' := ih fun g hg => h g (.tail _ hg)
    have e : (low (regRow g).1 != low (dots d ++ c)) = (g.1 != d) := by
      show (!(low (dots g.1 ++ g.2.1) == low (dots d ++ c))) = !(g.1 == d)
      rw [low_eq_iff (h g (.head _)) hc]
    rw [List.map_cons, List.filter_cons, List.filter_cons, e, ih']
    split <;> rfl
theorem look_regs {rs : List Reg} {d : Nat} {c : Str} (h : ∀ g ∈ rs, isR g.2.1) (hc : isR c) : lookRow (rs.map regRow) (low (dots d ++ c)) = (lookReg rs d).map intS := by
  unfold lookRow lookReg
  induction rs with
  | nil => rfl
  | cons g rs ih =>
    have ih' := ih fun g hg => h g (.tail _ hg)
    have e : (low (regRow g).1 == low (dots d ++ c)) = (g.1 == d) := low_eq_iff (h g (.head _)) hc
    rw [List.map_cons, List.find?_cons, List.find?_cons, e]
    cases (g.1 == d) with
    | true => rfl
    | false => exact ih'
theorem set_regs {rs : List Reg} {d : Nat} {c : Str} {v : Int} (h : ∀ g ∈ rs, isR g.2.1) (hc : isR c) : setRow (rs.map regRow) (dots d ++ c) (intS v) = (setReg rs d c v).map regRow := by
  unfold setRow setReg
  rw [filter_regs h hc, List.map_append]; rfl
theorem look_gone (rs : List Reg) (d : Nat) : lookReg (delReg rs d) d = none := by
  unfold lookReg delReg
  rw [List.find?_eq_none.mpr fun g hg => by have := (List.mem_filter.mp hg).2; simpa using this]; rfl
theorem look_mem {rs : List Reg} {d : Nat} {x : Int} (h : lookReg rs d = some x) : ∃ g ∈ rs, g.2.2 = x := by
  unfold lookReg at h
  cases hf : rs.find? (fun g => g.1 == d) with
  | none => rw [hf] at h; cases h
  | some g =>
    rw [hf] at h
    exact ⟨g, List.mem_of_find?_eq_some hf, Option.some.inj h⟩
noncomputable def opsL : List Str := [Str.ofString "add", Str.ofString "sub", Str.ofString "mul", Str.ofString "xor"]
noncomputable def isOp (z : Str) : Bool := opsL.any (· == z)
theorem isOp_word {op : Nat} (b : Bool) (h : op < 4) : isOp (take3 (wordOf op b)) = true := by
  rw [word_take]
  match op, h with
  | 0, _ => decide +kernel
  | 1, _ => decide +kernel
  | 2, _ => decide +kernel
  | 3, _ => decide +kernel
theorem isOp_int (v : Int) : isOp (take3 (intS v)) = false := by
  refine List.any_eq_false.mpr fun z hz e => ?_
  have e' : z = take3 (intS v) := eq_of_beq e
  have h1 : ∃ c r, z.cps.toList = c :: r ∧ 97 ≤ c := by
    rcases hz with _ | ⟨_, _ | ⟨_, _ | ⟨_, _ | ⟨_, hz⟩⟩⟩⟩
    · exact ⟨97, [100, 100], by decide +kernel, by decide⟩
    · exact ⟨115, [117, 98], by decide +kernel, by decide⟩
    · exact ⟨109, [117, 108], by decide +kernel, by decide⟩
    · exact ⟨120, [111, 114], by decide +kernel, by decide⟩
    · cases hz
  obtain ⟨c, r, h1, h2⟩ := h1
  have h3 : c ∈ (take3 (intS v)).cps.toList := by rw [← e', h1]; exact .head _
  have h4 : c ∈ (intS v).cps.toList := by
    unfold take3 at h3
    rw [strOf_cps] at h3
    exact List.mem_of_mem_take h3
  have := intS_chars v c h4
  omega
section
variable {w : World} {A : Around} {E : Value → Shared → Prop} {S : Shared} {h₀ : Heap} {L : Addr} {m : Mp} {N : Led} {s : Shared} {env : Env} {prog : Program} {P : Params}
theorem evSign {v : Str} {kk p q r pos c1 c2 c3 c4 tk : _} {p1 p2 p3 p4 tp cp whole : _} {x : Str} {t : Tok} {Q : Bool → Shared → Prop} (F : Fm S h₀ L m N s) (hv : ∀ Q' : Value → Shared → Prop, Q' (.str x t) s → wpAny (model prog w) A (eval (.Name v p) env) Q' E s) (hx : x.length ≤ 2 ^ 20) (k : ∀ s', Fm S h₀ L m N s' → Q (isOp (take3 x)) s') :
    wpAny (model prog w) A (isTrue (.Compare (.Subscript (.Name v p) (.Slice none (some (.Constant (.int 3) kk q)) none r) pos) [.In] [.Tuple [.Constant (.str (Str.ofString "add")) c1 p1, .Constant (.str (Str.ofString "sub")) c2 p2, .Constant (.str (Str.ofString "mul")) c3 p3, .Constant (.str (Str.ofString "xor")) c4 p4] tk tp] cp) env whole) Q E s := by
  refine wpAny_isTrue_Compare1 (evTake3 F hv hx fun t s F => ?_)
  refine Tuple_ (args4 (cS F fun t1 s F => cS F fun t2 s F => cS F fun t3 s F => cS F fun t4 s F => ?_))
  refine tupN F fun a s F => ?_
  refine in_tupleAt (fun y => match y with | .str z _ => z == take3 x | _ => false) (isTup F (.head _)) (fun y hy => ?_) ?_
  · have hy' : y ∈ [Value.str (Str.ofString "add") t1, .str (Str.ofString "sub") t2, .str (Str.ofString "mul") t3, .str (Str.ofString "xor") t4] := by simpa using hy
    rcases hy' with _ | ⟨_, _ | ⟨_, _ | ⟨_, _ | ⟨_, hz⟩⟩⟩⟩
    · exact EqAt.str_str _ _ _ _
    · exact EqAt.str_str _ _ _ _
    · exact EqAt.str_str _ _ _ _
    · exact EqAt.str_str _ _ _ _
    · cases hz
  · refine wpAny_truthy_bool ?_
    have e : ((#[Value.str (Str.ofString "add") t1, .str (Str.ofString "sub") t2, .str (Str.ofString "mul") t3, .str (Str.ofString "xor") t4] : Array Value).any fun y => match y with | .str z _ => z == take3 x | _ => false) = isOp (take3 x) := by
      unfold isOp opsL
      simp
    have e2 := k _ (F.sub fun p hp => .tail _ hp)
    rw [← e] at e2
    exact e2
end
end Mine
end
section
open PySem PySem.W PyProof.Rows PySem.Calls PySem.Spec PySem.SeqAt
set_option Elab.async false
set_option maxRecDepth 100000
namespace Mine
section
variable {w : World} {A : Around} {E : Value → Shared → Prop} {S : Shared} {h₀ : Heap} {L : Addr} {m : Mp} {N : Led} {s : Shared} {env : Env} {prog : Program} {x l : Addr} {P : Params}
/-- what stands in the middle of a turn -/
inductive MidRun (S : Shared) (g : Heap) (L' I : Addr) (o : Obj) (N₁ : Led) (x1 lH : Addr) (nm : Str) (most : Nat) (q : List Reg) (d : Nat) (c : Str) (s : Shared) : Prop
  | mk (regs' : List Reg) (v' : Int) (M : Mp) (N : Led) (vsH : List Value) (nH : Nat) (tn ty tk : Tok) : q = setReg regs' d c v' → RegsOk regs' → v'.natAbs ≤ big → Fm S g L' M ((I, o) :: N) s → (∀ p ∈ N, p.1 ≠ I) → (∀ p ∈ N₁, p.1 ≠ lH → p ∈ N) → HdAt N x1 lH → (lH, lstO vsH nH) ∈ N → RowsIn N vsH (regs'.map regRow) →
    M (Str.ofString "held") = some (.ref x1) → M (Str.ofString "name") = some (.str nm tn) → M (Str.ofString "value") = some (.str (intS v') ty) → M (Str.ofString "most") = some (.int (most : Nat) tk) → MidRun S g L' I o N₁ x1 lH nm most q d c s
inductive RunJ (N₁ : Led) (σ : Nat → St) (x1 lH : Addr) (i : Nat) (m : Mp) (N' : Led) : Prop
  | mk (vsH : List Value) (nH : Nat) (tk : Tok) : (∀ p ∈ N₁, p.1 ≠ lH → p ∈ N') → HdAt N' x1 lH → (lH, lstO vsH nH) ∈ N' → RowsIn N' vsH ((σ i).1.map regRow) → RegsOk (σ i).1 →
      m (Str.ofString "held") = some (.ref x1) → m (Str.ofString "most") = some (.int ((σ i).2 : Nat) tk) → RunJ N₁ σ x1 lH i m N'
set_option maxHeartbeats 8000000 in
theorem run_spec {vs : List Value} {ln : Nat} {code : List Ins} {σ : Nat → St} {Q : Value → Shared → Prop} {n : Nat} (G : Gd w.params h₀) (F : Fm S h₀ L m N s) (R : Rm A (n + 9)) (H : HdAt N x l) (hl : (l, lstO vs ln) ∈ N) (hr : RowsIn N vs (code.map Ins.row)) (hn : code.length ≤ 1000)
    (h0 : σ 0 = ([], 0)) (hstep : ∀ i ins, code[i]? = some ins → Step ins (σ i) (σ (i + 1)))
    (k : ∀ a b tk vsH N' s', Fm S h₀ L m N' s' → (∀ p ∈ N, p ∈ N') → (a, tupO [.ref b, .int ((σ code.length).2 : Nat) tk]) ∈ N' → (b, lstO vsH) ∈ N' → RowsIn N' vsH ((σ code.length).1.map regRow) → Q (.ref a) s') : wpAny (model pw w) A (call (.ref 340) [.ref x]) Q E s := by
  have vl := hr.length
  rw [List.length_map] at vl
  refine in340 G F R fun g L' s₁ G R F kp bk => ?_
  have hE := ek340 L'
  refine wpAny_execs_cons ?_
  refine asg2 R.hd hE (k340_held _) (k340_most _) ?_
  refine evHd0 rfl hE G F (k340_Headers _) ?_
  refine init_spec (v := none) (vs := []) (rs := []) (ln := 0) (l := L') (n := n + 3) rfl G F (R.le (by omega)) (.inl ⟨rfl, rfl⟩) (fun r hr => by cases hr) fun x1 lH N₀ s F s0 HH hl0 _ _ hfre => ?_
  have hlH0 := hl0 rfl
  refine cI F fun tk0 s F => ?_
  refine ⟨_, _, _, _, F, fun a0 s F => ?_⟩
  rw [up_lk, up_lk] at F
  refine wpAny_execs_cons ?_
  generalize hN1 : (a0, tupO [Value.ref x1, Value.int 0 tk0]) :: N₀ = N₁ at F
  have s1 : ∀ p ∈ N₀, p ∈ N₁ := fun p hp => by rw [← hN1]; exact .tail _ hp
  clear hN1
  have hl1 := s1 _ (s0 _ hl)
  refine wpAny_mono (E := noE) (Q := fun fl s => fl = .next ∧ ∃ M N', Fm S g L' M N' s ∧ RunJ N₁ σ x1 lH code.length M N') ?_ (fun fl s hy => ?_) (fun _ _ z => z.elim)
  · refine forL (S := S) (h₀ := g) (L := L') R.hd (RunJ N₁ σ x1 lH) vs ?_
    refine evItems (S := S) (L := L') (n := n) rfl G (R.le (by omega)) (nL hE F (k340_program _) rfl ?_)
    refine ⟨_, _, _, _, _, _, rfl, F, H.mono fun p hp => s1 _ (s0 _ hp), hl1, by rw [vl]; exact Nat.le_trans hn (by decide +kernel), fun a2 s hf2 F => ?_⟩
    have hTup := notTup F (.tail _ (s1 _ hlH0)) (by show Value.type "list" ≠ _; decide +kernel)
    have hr1 : RowsIn N₁ vs (code.map Ins.row) := hr.mono fun p hp => s1 _ (s0 _ hp)
    refine ⟨a2, 0, _, _, rfl, F, .head _, ⟨[], 0, tk0, fun p hp _ => .tail _ hp, HH.mono fun p hp => .tail _ (s1 _ hp), .tail _ (s1 _ hlH0), by rw [h0]; exact .nil, by rw [h0]; exact ⟨fun g hg => (by cases hg), Nat.zero_le _⟩, rfl, by rw [h0]; rfl⟩, fun v hv => ?_, fun I i v m N' s o hvi hJ hla hNI ho Fi => ?_, fun m N' s hJ Fi => ?_⟩
    · obtain ⟨i, hi⟩ := List.getElem?_of_mem hv
      obtain ⟨b, n, x, t, u, e1, e2, e3⟩ := hr1.get hi
      exact .inr ⟨b, _, _, _, e1, rfl⟩
    · obtain ⟨vsH, nH, tk, j1, j2, j3, j4, j5, j6, j7⟩ := hJ
      obtain ⟨b, nm, vlu, tn, tv, rfl, e2, e3⟩ := hr1.get hvi
      obtain ⟨ins, hins, hrow⟩ : ∃ ins, code[i]? = some ins ∧ ins.row = (nm, vlu) := by
        rw [List.getElem?_map] at e2
        cases hk : code[i]? with
        | none => rw [hk] at e2; cases e2
        | some q => rw [hk] at e2; exact ⟨q, rfl, Option.some.inj e2⟩
      have hst := hstep i ins hins
      have hb := hTup b _ (.tail _ e3)
      refine asgT2 R.hd hE Fi (k340_name _) (k340_value _) (.tail _ (j1 _ e3 hb)) fun s F => ?_
      have mh : up (up m (Str.ofString "name") (.str nm tn)) (Str.ofString "value") (.str vlu tv) (Str.ofString "held") = some (.ref x1) := by rw [up_ne _ _ (by decide +kernel), up_ne _ _ (by decide +kernel)]; exact j6
      have mm : up (up m (Str.ofString "name") (.str nm tn)) (Str.ofString "value") (.str vlu tv) (Str.ofString "most") = some (.int ((σ i).2 : Nat) tk) := by rw [up_ne _ _ (by decide +kernel), up_ne _ _ (by decide +kernel)]; exact j7
      have mn : up (up m (Str.ofString "name") (.str nm tn)) (Str.ofString "value") (.str vlu tv) (Str.ofString "name") = some (.str nm tn) := by rw [up_ne _ _ (by decide +kernel), up_same]
      have mv : up (up m (Str.ofString "name") (.str nm tn)) (Str.ofString "value") (.str vlu tv) (Str.ofString "value") = some (.str vlu tv) := up_same _ _ _
      generalize up (up m (Str.ofString "name") (.str nm tn)) (Str.ofString "value") (.str vlu tv) = M at F mh mm mn mv
      have regR : ∀ g ∈ (σ i).1, isR g.2.1 := fun g hg => (j5.1 g hg).2.1
      have okr := j5.rows
      have vh := j4.length
      rw [List.length_map] at vh
      have vh1 := j5.2
      obtain ⟨d, c, hd0, hd, hc, hnm, hq1, hq2⟩ : ∃ d c, 0 < d ∧ d ≤ 100 ∧ isR c ∧ nm = dots d ++ c ∧ (σ (i + 1)).2 = max (σ i).2 (σ (i + 1)).1.length ∧ (σ (i + 1)).1.length ≤ 100 := by
        cases ins with
        | push d c v =>
          obtain ⟨z1, z2, z3, z4, z5, z6, z7⟩ := hst
          exact ⟨d, c, z1, z2, z3, (Prod.mk.inj hrow).1.symm, z6, z7⟩
        | sign d c op b =>
          obtain ⟨_, _, z1, z2, z3, _, _, _, _, _, _, z6, z7⟩ := hst
          exact ⟨d, c, z1, z2, z3, (Prod.mk.inj hrow).1.symm, z6, z7⟩
      have nok := name_ok (d := d) (c := c) (by omega) hc
      have nok1 := name_ok (d := d + 1) (c := c) (by omega) hc
      refine wpAny_execs_cons ?_
      refine wpAny_mono (E := noE) (Q := fun fl s => fl = .next ∧ MidRun S g L' I o N' x1 lH nm (σ i).2 (σ (i + 1)).1 d c s) ?_ (fun fl s hy => ?_) (fun _ _ z => z.elim)
      · refine wpAny_If ?_
        have hvl : vlu.length ≤ 2 ^ 20 := by
          cases ins with
          | push d c v =>
            rw [← (Prod.mk.inj hrow).2]
            obtain ⟨z1, z2, z3, z4, _⟩ := hst
            exact Nat.le_trans (big_len (Nat.le_trans z4 (by decide))) (by decide)
          | sign d c op b => rw [← (Prod.mk.inj hrow).2]; exact Nat.le_trans (word_len op b).2 (by decide)
        refine evSign F (fun Q' q => nL hE F (k340_value _) mv q) hvl fun s F => ?_
        cases ins with
        | push d' c' v =>
          obtain ⟨z1, z2, z3, z4, z5, _⟩ := hst
          have e4 : intS v = vlu := (Prod.mk.inj hrow).2
          have e5 : dots d' ++ c' = nm := (Prod.mk.inj hrow).1
          rw [← e4, isOp_int, if_neg Bool.false_ne_true]
          refine wpAny_execs_nil ⟨rfl, (σ i).1, v, M, N', vsH, nH, tn, tv, tk, ?_, j5, Nat.le_trans z4 (by decide), F, hNI, fun p hp _ => hp, j2, j3, j4, mh, mn, e4 ▸ mv, mm⟩
          have hdd : d' = d := dots_inj (by rw [isR_len z3, isR_len hc]) (e5.trans hnm)
          subst hdd
          have hcc : c' = c := by
            have := congrArg (fun y : Str => y.cps.toList) (e5.trans hnm)
            simp only [cps_append, dots_cps] at this
            have := List.append_cancel_left this
            exact str_ext this
          subst hcc
          exact z5
        | sign d' c' op bk' =>
          obtain ⟨v1, v2, z1, z2, z3, z4, z5, z6, z7, z8, z9, _⟩ := hst
          have e4 : wordOf op bk' = vlu := (Prod.mk.inj hrow).2
          have e5 : dots d' ++ c' = nm := (Prod.mk.inj hrow).1
          have hdd : d' = d := dots_inj (by rw [isR_len z3, isR_len hc]) (e5.trans hnm)
          subst hdd
          have hcc : c' = c := by
            have := congrArg (fun y : Str => y.cps.toList) (e5.trans hnm)
            simp only [cps_append, dots_cps] at this
            have := List.append_cancel_left this
            exact str_ext this
          subst hcc
          subst e4 e5
          rw [isOp_word _ z4, if_pos rfl]
          have b1 : v1.natAbs ≤ big := by obtain ⟨q, hq, rfl⟩ := look_mem z5; exact (j5.1 q hq).2.2
          have b2 : v2.natAbs ≤ big := by obtain ⟨q, hq, rfl⟩ := look_mem z6; exact (j5.1 q hq).2.2
          have bg : big < 10 ^ 600 := by decide +kernel
          refine wpAny_execs_cons ?_
          refine wpAny_Assign_Name ?_
          refine callGt hE G F (k340_str _) b_str bb_str (args1 ?_)
          refine callG hE G F (k340_law_done _) g_law_done (ho333 w.params) (args3 (nL hE F (k340_value _) mv ?_))
          refine callGt hE G F (k340_int _) b_int bb_int (args1 (callG hE G F (k340_getitem _) g_getitem (ho123 w.params) (args2 (nL hE F (k340_held _) mh (nL hE F (k340_name _) mn ?_)))))
          refine ⟨F.fr.keep, opGet (n := n) rfl G F (R.le (by omega)) (j2.mono fun p hp => .tail _ hp) (.tail _ j3) (j4.mono fun p hp => .tail _ hp) okr nok fun y1 s F hy1 => ?_⟩
          rw [look_regs regR hc, z5] at hy1
          obtain ⟨ty1, rfl⟩ := hy1
          refine intOf F (Nat.lt_of_le_of_lt b1 bg) fun t1 s F => ?_
          refine callGt hE G F (k340_int _) b_int bb_int (args1 (callG hE G F (k340_getitem _) g_getitem (ho123 w.params) (args2 (nL hE F (k340_held _) mh (wpAny_BinOp (cS F fun t3 s F => nL hE F (k340_name _) mn ?_))))))
          refine catS F (by have := nok.2; show 1 + _ ≤ _; omega) fun t4 s F => ?_
          rw [dot_name]
          refine ⟨F.fr.keep, opGet (n := n) rfl G F (R.le (by omega)) (j2.mono fun p hp => .tail _ hp) (.tail _ j3) (j4.mono fun p hp => .tail _ hp) okr nok1 fun y2 s F hy2 => ?_⟩
          rw [look_regs regR hc, z6] at hy2
          obtain ⟨ty2, rfl⟩ := hy2
          refine intOf F (Nat.lt_of_le_of_lt b2 bg) fun t2 s F => ?_
          refine ⟨F.fr.keep, done_spec (n := n) G F (R.le (by omega)) z4 z7 fun t5 s F => ?_⟩
          refine strInt F z8 fun t6 s F => ?_
          refine st hE F (k340_value _) fun s F => ?_
          have mh := (up_ne M (.str (intS (opV op (if bk' = true then v2 else v1) (if bk' = true then v1 else v2))) t6) (show Str.ofString "held" ≠ Str.ofString "value" by decide +kernel)).trans mh
          have mm := (up_ne M (.str (intS (opV op (if bk' = true then v2 else v1) (if bk' = true then v1 else v2))) t6) (show Str.ofString "most" ≠ Str.ofString "value" by decide +kernel)).trans mm
          have mn := (up_ne M (.str (intS (opV op (if bk' = true then v2 else v1) (if bk' = true then v1 else v2))) t6) (show Str.ofString "name" ≠ Str.ofString "value" by decide +kernel)).trans mn
          have mv := up_same M (Str.ofString "value") (.str (intS (opV op (if bk' = true then v2 else v1) (if bk' = true then v1 else v2))) t6)
          generalize up M (Str.ofString "value") (.str (intS (opV op (if bk' = true then v2 else v1) (if bk' = true then v1 else v2))) t6) = M2 at F mh mm mn mv
          refine wpAny_execs_cons ?_
          refine wpAny_If ?_
          refine isTrue_or ?_
          refine wpAny_isTrue_Compare1 ?_
          refine callG hE G F (k340_delitem _) g_delitem (ho116 w.params) (args2 (nL hE F (k340_held _) mh (wpAny_BinOp (cS F fun t3 s F => nL hE F (k340_name _) mn ?_))))
          refine catS F (by have := nok.2; show 1 + _ ≤ _; omega) fun t4 s F => ?_
          rw [dot_name]
          have F0 : Fm S g L' M2 N' s := F.sub fun p hp => .tail _ hp
          have j2' := j2.butL F0 j3 rfl
          have tup2 := notTup F0 j3 (by show Value.type "list" ≠ _; decide +kernel)
          refine ⟨F.fr.keep, opDel (n := n) rfl G F (R.le (by omega)) (j2.mono fun p hp => .tail _ hp) (.tail _ j3) (j4.mono fun p hp => .tail _ hp) okr nok1 (by omega) fun vs' n' s hr' F => ?_⟩
          rw [filter_regs regR hc] at hr'
          have hIl : I ≠ lH := fun e => hNI _ j3 e.symm
          have eB : But ((I, o) :: N') lH = (I, o) :: But N' lH := by
            unfold But
            rw [List.filter_cons_of_pos (by simpa using hIl)]
          rw [eB] at F
          have F : Fm S g L' M2 ((I, o) :: (lH, lstO vs' n') :: But N' lH) s := F.sub fun p hp => by
            rcases hp with _ | ⟨_, _ | ⟨_, hp⟩⟩
            · exact .tail _ (.head _)
            · exact .head _
            · exact .tail _ (.tail _ hp)
          have hr2 : RowsIn ((lH, lstO vs' n') :: But N' lH) vs' ((delReg (σ i).1 (d' + 1)).map regRow) := hr'.restrict fun b ws hb => by
            rcases List.mem_cons.mp hb with e | hb
            · have := (Prod.mk.inj e).2
              rw [← this] at ho
              exact absurd ho (by show Value.type "tuple" ≠ _; decide +kernel)
            · exact .tail _ (mem_but hb (tup2 _ _ hb))
          have hN2 : ∀ p ∈ (lH, lstO vs' n') :: But N' lH, p.1 ≠ I := fun p hp => by
            rcases List.mem_cons.mp hp with rfl | hp
            · exact fun e => hIl e.symm
            · exact hNI p (of_but hp).1
          refine wpAny_Constant_none ?_
          refine wpAny_isNot_self (by decide +kernel) ?_
          refine wpAny_truthy_bool ?_
          rw [if_neg Bool.false_ne_true]
          refine isTrue_or ?_
          refine wpAny_isTrue_Compare1 ?_
          refine callG hE G F (k340_getitem _) g_getitem (ho123 w.params) (args2 (nL hE F (k340_held _) mh (wpAny_BinOp (cS F fun t3 s F => nL hE F (k340_name _) mn ?_))))
          refine catS F (by have := nok.2; show 1 + _ ≤ _; omega) fun t4 s F => ?_
          rw [dot_name]
          have j5' := j5.del (d' + 1)
          refine ⟨F.fr.keep, opGet (n := n) rfl G F (R.le (by omega)) (j2'.mono fun p hp => .tail _ (.tail _ hp)) (.tail _ (.head _)) (hr2.mono fun p hp => .tail _ hp) j5'.rows nok1 fun y3 s F hy3 => ?_⟩
          rw [look_regs (fun g hg => (j5'.1 g hg).2.1) hc, look_gone] at hy3
          have hy4 : y3 = .none := hy3
          subst hy4
          refine wpAny_Constant_none ?_
          refine wpAny_isNot_self (by decide +kernel) ?_
          refine wpAny_truthy_bool ?_
          rw [if_neg Bool.false_ne_true]
          refine isTrue_or_nil ?_
          rw [if_neg Bool.false_ne_true]
          refine wpAny_execs_nil ?_
          refine wpAny_execs_nil ⟨rfl, delReg (σ i).1 (d' + 1), _, M2, _, vs', n', tn, t6, tk, z9, j5', z8, F, hN2, fun p hp hne => .tail _ (mem_but hp hne), j2'.mono fun p hp => .tail _ hp, .head _, hr2, mh, mn, mv, mm⟩
      · obtain ⟨rfl, regs', v', M2, N2, vs2, n2, tn2, ty2, tk2, f1, f2, f3, F, f5, f6, f7, f8, f9, fh, fn, fv, fm⟩ := hy
        have v2l := f9.length
        rw [List.length_map] at v2l
        have r2 : ∀ g ∈ regs', isR g.2.1 := fun g hg => (f2.1 g hg).2.1
        have v2b := f2.2
        refine wpAny_execs_cons ?_
        refine wpAny_If ?_
        refine wpAny_isTrue_Compare1 ?_
        refine callG hE G F (k340_setitem _) g_setitem (ho130 w.params) (args3 (nL hE F (k340_held _) fh (nL hE F (k340_name _) fn (nL hE F (k340_value _) fv ?_))))
        have F0 : Fm S g L' M2 N2 _ := F.sub fun p hp => .tail _ hp
        have f7' := f7.butL F0 f8 rfl
        refine ⟨F.fr.keep, opSet (n := n) rfl G F (R.le (by omega)) (f7.mono fun p hp => .tail _ hp) (.tail _ f8) (f9.mono fun p hp => .tail _ hp) f2.rows (hnm ▸ nok) (int_ok f3) (by omega) fun vs3 n3 N3 s F hbut hl3 hr3 => ?_⟩
        have hr3' : RowsIn N3 vs3 ((σ (i + 1)).1.map regRow) := by
          rw [hnm, set_regs r2 hc, ← f1] at hr3; exact hr3
        have hIl : I ≠ lH := fun e => f5 _ f8 e.symm
        have hI3 : (I, o) ∈ N3 := hbut _ (mem_but (.head _) hIl)
        have sub3 : ∀ p ∈ But N2 lH, p ∈ N3 := fun p hp => hbut p (mem_but (.tail _ (of_but hp).1) (of_but hp).2)
        have sub3' : ∀ p ∈ But N2 lH, p ∈ But N3 I := fun p hp => mem_but (sub3 p hp) (f5 p (of_but hp).1)
        refine wpAny_Constant_none ?_
        refine wpAny_isNot_self (by decide +kernel) ?_
        refine wpAny_truthy_bool ?_
        rw [if_neg Bool.false_ne_true]
        refine wpAny_execs_nil ?_
        refine wpAny_execs_cons ?_
        refine wpAny_Assign_Name ?_
        refine callGb hE G F (k340_max _) b_max bb_max (args2 (nL hE F (k340_most _) fm (callG hE G F (k340_length_hint _) g_length_hint (ho138 w.params) (args1 (nL hE F (k340_held _) fh ?_)))))
        have v3 := hr3'.length
        rw [List.length_map] at v3
        refine ⟨F.fr.keep, opHint (n := n) rfl G F (R.le (by omega)) (f7'.mono sub3) hl3 (by omega) fun t7 s F => ?_⟩
        refine max_two_N R.hd F.fr F.nw fun h' tk3 Fr' N' => ?_
        have F : Fm S g L' _ _ { s with heap := h', toks := tk3 } := ⟨Fr', N', F.ge, F.os⟩
        have e : (if ((vs3.length : Nat) : Int) > (((σ i).2 : Nat) : Int) then ((vs3.length : Nat) : Int) else (((σ i).2 : Nat) : Int)) = (((σ (i + 1)).2 : Nat) : Int) := by
          rw [hq1, ← v3]; split <;> omega
        rw [e]
        refine st hE F (k340_most _) fun s F => ?_
        refine wpAny_execs_nil ?_
        have ha2 : a2 ≠ lH := fun e => hf2 _ (s1 _ hlH0) e.symm
        have F3 := F
        refine ⟨_, N3, F, hI3, sub3 _ (mem_but (f6 _ hla ha2) ha2), vs3, n3, (if ((vs3.length : Nat) : Int) > (((σ i).2 : Nat) : Int) then t7 else tk2), fun p hp hne => sub3' p (mem_but (f6 _ (j1 p hp hne) hne) hne), f7'.mono sub3', mem_but hl3 (fun e => hIl e.symm), hr3'.but (notTup F hI3 (by rw [ho]; decide +kernel)), ?_, ?_, ?_⟩
        · refine ⟨fun q hq => ?_, hq2⟩
          rw [f1] at hq
          rcases List.mem_append.mp hq with hq | hq
          · exact (f2.del d).1 q hq
          · rcases hq with _ | ⟨_, hq⟩
            · exact ⟨by show d ≤ 101; omega, hc, f3⟩
            · cases hq
        · rw [up_ne _ _ (by decide +kernel)]; exact fh
        · exact up_same _ _ _
    · obtain ⟨vsH, nH, tk, j1, j2, j3, j4, j5, j6, j7⟩ := hJ
      rw [vl] at j4 j5 j7
      exact ⟨rfl, m, N', Fi, vsH, nH, tk, j1, j2, j3, j4, j5, j6, j7⟩
  · obtain ⟨rfl, M, N', F, vsH, nH, tk, j1, j2, j3, j4, j5, j6, j7⟩ := hy
    refine wpAny_execs_cons ?_
    refine wpAny_Return_some ?_
    have vh := j4.length
    rw [List.length_map] at vh
    refine Tuple_ (args2 (evItems (S := S) (L := L') (n := n) rfl G (R.le (by omega)) (nL hE F (k340_held _) j6 ?_)))
    refine ⟨_, _, _, _, _, _, rfl, F, j2, j3, by rw [vh]; exact Nat.le_trans j5.2 (by decide +kernel), fun a2 s hf2 F => ?_⟩
    refine nL hE F (k340_most _) j7 ?_
    refine tupN F fun a3 s F => ?_
    exact k a3 a2 tk vsH _ _ (bk _ _ _ F) (fun p hp => .tail _ (.tail _ (j1 _ (s1 _ (s0 _ hp)) (hfre rfl p hp)))) (.head _) (.tail _ (.head _)) (j4.mono fun p hp => .tail _ (.tail _ hp))
end
end Mine
end
section
open PySem PySem.W PyProof.Rows PySem.Calls PySem.Spec PySem.SeqAt
set_option Elab.async false
set_option maxRecDepth 100000
namespace Mine
noncomputable abbrev rgO (a b : Int) (t u v : Tok) : Obj := { cls := .type "range", data := .fields #[.int a t, .int b u, .int 1 v] }
noncomputable abbrev rgIt (x left : Int) : Obj := { cls := .type "range_iterator", data := .fields #[rawInt x, rawInt left, rawInt 1] }
section
variable {w : World} {A : Around} {E : Value → Shared → Prop} {S : Shared} {h₀ : Heap} {L : Addr} {m : Mp} {N : Led} {s : Shared} {env : Env} {prog : Program} {P : Params}
theorem range1 {n : Int} {t : Tok} {Q : Value → Shared → Prop} (F : Fm S h₀ L m N s) (k : ∀ r t' u' s', (∀ p ∈ N, p.1 ≠ r) → Fm S h₀ L m ((r, rgO 0 n t' t u') :: N) s' → Q (.ref r) s') : wpAny (model prog w) A (call (.type "range") [.int n t]) Q E s :=
  call_range_1 (k _ s.toks (s.toks + 1) _ F.ne ((F.push _).tk _))
theorem range2 {a b : Int} {t u : Tok} {Q : Value → Shared → Prop} (F : Fm S h₀ L m N s) (k : ∀ r u' s', (∀ p ∈ N, p.1 ≠ r) → Fm S h₀ L m ((r, rgO a b t u u') :: N) s' → Q (.ref r) s') : wpAny (model prog w) A (call (.type "range") [.int a t, .int b u]) Q E s :=
  call_range_2 (k _ s.toks _ F.ne ((F.push _).tk _))
/-- what the body of a turn over a range leaves -/
noncomputable def TurnToR (S : Shared) (h₀ : Heap) (L : Addr) (I : Addr) (o : Obj) (J : Mp → Led → Prop) (Q : Flow → Shared → Prop) (f : Flow) (s' : Shared) : Prop := match f with
  | .next => ∃ m' N', Fm S h₀ L m' N' s' ∧ (I, o) ∈ N' ∧ J m' (But N' I)
  | .cont => ∃ m' N', Fm S h₀ L m' N' s' ∧ (I, o) ∈ N' ∧ J m' (But N' I)
  | .brk => Q .next s'
  | .ret v => Q (.ret v) s'
theorem forTurnsR {x : Str} {px : Pos} {body : List Stmt} {I : Addr} {a : Int} {n : Nat} {J : Nat → Mp → Led → Prop} {Q : Flow → Shared → Prop} (hh : A.handled = none)
    (turn : ∀ i t m N s, i < n → J i m N → (∀ p ∈ N, p.1 ≠ I) → Fm S h₀ L m ((I, rgIt (a + (i : Int) + 1) (((n - i : Nat) : Int) - 1)) :: N) s →
      wpAny (model prog w) A (assign (.Name x px) env (.int (a + (i : Int)) t)) (fun _ s₁ => wpAny (model prog w) A (execs body env) (TurnToR S h₀ L I (rgIt (a + (i : Int) + 1) (((n - i : Nat) : Int) - 1)) (J (i + 1)) Q) noE s₁) noE s)
    (done : ∀ m N s, J n m N → Fm S h₀ L m N s → Q .next s) :
    ∀ (k i : Nat) (m : Mp) (N : Led) (s : Shared), n - i < k → i ≤ n → J i m N → (∀ p ∈ N, p.1 ≠ I) → Fm S h₀ L m ((I, rgIt (a + (i : Int)) ((n - i : Nat) : Int)) :: N) s →
      codeAny (model prog w) A (.forLoop (.Name x px) (.ref I) body [] env) (fun r s' => match r with | .ok f => Q f s' | .error _ => False) s := by
  intro k
  induction k with
  | zero => intro i m N s h; exact absurd h (Nat.not_lt_zero _)
  | succ k ih =>
    intro i m N s hk hi hj hN F
    refine codeAny_of_tree ?_
    rw [Around.under_of_weight rfl rfl]
    show wpAny _ _ ((forTurn (.Name x px) (.ref I) body [] env).onRaise _) _ _ _
    refine wpAny_onRaise (wpAny_mono (Q := fun fin s' => match fin with | .done f => Q f s' | .again c' => c'.quiet = true ∧ codeAny (model prog w) A c' (fun r s' => match r with | .ok f => Q f s' | .error _ => False) s') (E := noE) ?_ (fun fin s' h => h) fun _ _ h => h.elim)
    unfold forTurn
    refine wpAny_bind (wpAny_standAt (wpAny_bind (wpAny_onRaise (wpAny_mono (E := noE) ?_ (fun _ _ h => h) fun _ _ h => h.elim))))
    have hit : IsRangeIter s.heap I (a + (i : Int)) ((n - i : Nat) : Int) 1 := F.get (.head _)
    rcases Nat.lt_or_ge i n with hlt | hge
    · refine wpAny_pyNext_range_item hit (by omega) fun h' hit' sb => ?_
      have F' := (F.swap hN sb.extBut hit').tk (s.toks + 1)
      have go : wpAny (model prog w) A (letOwnedTupleGo (.Name x px) (.ref I) (.int (a + (i : Int)) s.toks)) (fun _ s₁ => s₁ = { s with heap := h', toks := s.toks + 1 }) noE { s with heap := h', toks := s.toks + 1 } := wpAny_pure rfl
      refine wpAny_bind (wpAny_mono go (fun _ s₁ e => ?_) fun _ _ h => h)
      subst e
      refine wpAny_bind (wpAny_mono (turn i s.toks m N _ hlt hj hN F') (fun _ s₁ h₁ => wpAny_bind (wpAny_mono h₁ (fun f s₂ h₂ => ?_) fun _ _ h => h)) fun _ _ h => h)
      have next : ∀ {s₂ : Shared}, (∃ m' N', Fm S h₀ L m' N' s₂ ∧ (I, rgIt (a + (i : Int) + 1) (((n - i : Nat) : Int) - 1)) ∈ N' ∧ J (i + 1) m' (But N' I)) →
          codeAny (model prog w) A (.forLoop (.Name x px) (.ref I) body [] env) (fun r s' => match r with | .ok f => Q f s' | .error _ => False) s₂ := fun {s₂} h => by
        obtain ⟨m', N', F2, hI, hj2⟩ := h
        have e1 : rgIt (a + (i : Int) + 1) (((n - i : Nat) : Int) - 1) = rgIt (a + ((i + 1 : Nat) : Int)) ((n - (i + 1) : Nat) : Int) := by
          rw [show a + ((i + 1 : Nat) : Int) = a + (i : Int) + 1 by omega, show ((n - (i + 1) : Nat) : Int) = ((n - i : Nat) : Int) - 1 by omega]
        rw [e1] at hI
        refine ih (i + 1) m' (But N' I) s₂ (by omega) (by omega) hj2 (fun p hp => (of_but hp).2) (F2.sub fun p hp => ?_)
        rcases List.mem_cons.mp hp with rfl | hp
        · exact hI
        · exact (of_but hp).1
      cases f with
      | ret v => exact wpAny_pure h₂
      | brk => exact wpAny_pure h₂
      | next => exact wpAny_pure ⟨rfl, next h₂⟩
      | cont => exact wpAny_pure ⟨rfl, next h₂⟩
    · have hi' : i = n := by omega
      subst hi'
      refine wpAny_pyNext_range_end hh hit (by omega) fun h' eb => ?_
      have F' := F.drop hN eb
      refine wpAny_pure ⟨rfl, codeAny_of_tree ?_⟩
      rw [Around.under_of_weight rfl rfl]
      show wpAny _ _ ((execs [] env).onRaise _ >>= _) _ _ _
      refine wpAny_bind (wpAny_onRaise (wpAny_execs_nil ?_))
      exact wpAny_pure (done _ _ _ hj F')
/-- for x in a range -/
theorem forR {x : Str} {px : Pos} {iter : Expr} {body : List Stmt} {pos : Pos} {Q : Flow → Shared → Prop} (hh : A.handled = none) (J : Nat → Mp → Led → Prop) (a b : Int) (n : Nat) (hsm : Builtin.Range.small a b 1 = true) (hsz : Builtin.Range.rangeSize a b 1 = (n : Int))
    (h : wpAny (model prog w) A (eval iter env) (fun v s₁ => ∃ r t u k m N, v = .ref r ∧ Fm S h₀ L m N s₁ ∧ (r, rgO a b t u k) ∈ N ∧ J 0 m N ∧
      (∀ I i t m N s, i < n → J i m N → (∀ p ∈ N, p.1 ≠ I) → Fm S h₀ L m ((I, rgIt (a + (i : Int) + 1) (((n - i : Nat) : Int) - 1)) :: N) s →
        wpAny (model prog w) A (assign (.Name x px) env (.int (a + (i : Int)) t)) (fun _ s₁ => wpAny (model prog w) A (execs body env) (TurnToR S h₀ L I (rgIt (a + (i : Int) + 1) (((n - i : Nat) : Int) - 1)) (J (i + 1)) Q) noE s₁) noE s) ∧
      (∀ m N s, J n m N → Fm S h₀ L m N s → Q .next s)) noE s) (hs : ∀ x, foldedSetIterable iter env x = pure x := by intro _; rfl) :
    wpAny (model prog w) A (exec (.For (.Name x px) iter body [] pos) env) Q noE s := by
  refine wpAny_For (wpAny_mono h (fun v s₁ h₁ => ?_) fun _ _ h => h) hs
  obtain ⟨r, t, u, k, m, N, rfl, F, hr, hj, turn, done⟩ := h₁
  refine wpAny_pyIter_range (F.get hr) hsm ?_
  have F' := F.push { cls := .type "range_iterator", data := .fields #[rawInt a, rawInt (Builtin.Range.rangeSize a b 1), rawInt 1] }
  rw [hsz] at F' ⊢
  have e0 : a + ((0 : Nat) : Int) = a := by omega
  refine codeAny_mono (forTurnsR (J := J) hh (turn _) done (n + 1) 0 m N _ (by omega) (Nat.zero_le _) hj F.ne (by rw [e0]; exact F')) fun r s' q => ?_
  cases r with
  | ok f => exact q
  | error e => exact q.elim
/-- what a turn of a list's making over a range leaves -/
noncomputable def MadeR (S : Shared) (g : Heap) (C : Addr) (I : Addr) (o : Obj) (D : Addr) (dO : Obj) (J : Led → Prop) (s : Shared) : Prop :=
  ∃ m N, Fm S g C m N s ∧ (I, o) ∈ N ∧ (D, dO) ∈ N ∧ J (But (But N I) D)
theorem madeR {g : Heap} {C I D : Addr} {o dO : Obj} {J : Led → Prop} (F : Fm S g C m ((I, o) :: (D, dO) :: N) s) (hI : ∀ p ∈ N, p.1 ≠ I) (hD : ∀ p ∈ N, p.1 ≠ D) (hID : D ≠ I) (hJ : J N) : MadeR S g C I o D dO J s := by
  refine ⟨m, _, F, .head _, .tail _ (.head _), ?_⟩
  rw [but_cons (fun p hp => by rcases List.mem_cons.mp hp with rfl | hp; exact hID; exact hI p hp), but_cons hD]
  exact hJ
inductive CompInvR (S : Shared) (g : Heap) (C I D : Addr) (a : Int) (n : Nat) (J : Nat → Led → List Value → Prop) (k : Nat) (s : Shared) : Prop
  | mk (i : Nat) (m : Mp) (N : Led) (ys : List Value) (dn : Nat) : k = n - i → i ≤ n → J i N ys → ys.length ≤ i → (∀ p ∈ N, p.1 ≠ I) → (∀ p ∈ N, p.1 ≠ D) → D ≠ I → Fm S g C m ((I, rgIt (a + (i : Int)) ((n - i : Nat) : Int)) :: (D, lstO ys dn) :: N) s → CompInvR S g C I D a n J k s
theorem compTurnsR {elt iter : Expr} {x : Str} {px : Pos} {ifs : List Expr} {scope : Scope} {pos : Pos} {cenv : Env} {g : Heap} {C I D : Addr} {a : Int} {n : Nat} {J : Nat → Led → List Value → Prop} {R : Result → Shared → Prop} (hh : A.handled = none) (hnz : n ≤ sizeLine)
    (turn : ∀ i t m N s ys dn, i < n → J i N ys → ys.length ≤ i → (∀ p ∈ N, p.1 ≠ I) → (∀ p ∈ N, p.1 ≠ D) → D ≠ I → Fm S g C m ((I, rgIt (a + (i : Int) + 1) (((n - i : Nat) : Int) - 1)) :: (D, lstO ys dn) :: N) s →
      wpAny (model prog w) A (assign (.Name x px) cenv (.int (a + (i : Int)) t)) (fun _ s₁ => wpAny (model prog w) A (forIn ifs true fun c r => if r = true then do let ok ← isTrue c cenv (eval c cenv); pure (ForInStep.yield ok) else pure (ForInStep.yield r)) (fun ok s₂ =>
        if ok = true then wpAny (model prog w) A (eval elt cenv) (fun y s₃ => MadeR S g C I (rgIt (a + (i : Int) + 1) (((n - i : Nat) : Int) - 1)) D (lstO ys dn) (fun N => J (i + 1) N (ys ++ [y])) s₃) noE s₂
        else MadeR S g C I (rgIt (a + (i : Int) + 1) (((n - i : Nat) : Int) - 1)) D (lstO ys dn) (fun N => J (i + 1) N ys) s₂) noE s₁) noE s)
    (done : ∀ m N s ys dn, J n N ys → (∀ p ∈ N, p.1 ≠ D) → Fm S g C m ((D, lstO ys dn) :: N) s → R (.ok .next) s)
    {dn : Nat} (hJ : J 0 N []) (hNI : ∀ p ∈ N, p.1 ≠ I) (hND : ∀ p ∈ N, p.1 ≠ D) (hDI : D ≠ I) (F : Fm S g C m ((I, rgIt a (n : Int)) :: (D, lstO [] dn) :: N) s) :
    codeAny (model prog w) A (.compLoop (.ListComp elt [⟨.Name x px, iter, ifs, 0⟩] scope pos) 0 (.ref I) (.ref D) cenv) R s := by
  have F0 : Fm S g C m ((I, rgIt (a + ((0 : Nat) : Int)) ((n - 0 : Nat) : Int)) :: (D, lstO [] dn) :: N) s := by
    rw [show a + ((0 : Nat) : Int) = a by omega, Nat.sub_zero]; exact F
  refine codeAny_compLoop_tests (CompInvR S g C I D a n J) ?_ (n - 0) ⟨0, m, N, [], dn, rfl, Nat.zero_le _, hJ, Nat.le_refl _, hNI, hND, hDI, F0⟩
  rintro k s ⟨i, m, N, ys, dn, rfl, hi, hj, hyl, hNI, hND, hDI, F⟩
  have hit : IsRangeIter s.heap I (a + (i : Int)) ((n - i : Nat) : Int) 1 := F.get (.head _)
  have hNI' : ∀ p ∈ (D, lstO ys dn) :: N, p.1 ≠ I := fun p hp => by rcases List.mem_cons.mp hp with rfl | hp; exact hDI; exact hNI p hp
  rcases Nat.lt_or_ge i n with hlt | hge
  · refine wpAny_pyNext_range_item hit (by omega) fun h' hit' sb => ?_
    have F' := (F.swap hNI' sb.extBut hit').tk (s.toks + 1)
    have fin : ∀ (ys' : List Value) (dn' : Nat) (N' : Led) (m' : Mp) (s' : Shared), Fm S g C m' N' s' → (I, rgIt (a + (i : Int) + 1) (((n - i : Nat) : Int) - 1)) ∈ N' → (D, lstO ys' dn') ∈ N' → ys'.length ≤ i + 1 → J (i + 1) (But (But N' I) D) ys' →
        ∃ k', k' < n - i ∧ CompInvR S g C I D a n J k' s' := by
      intro ys' dn' N' m' s' F2 hI hD hle hj2
      have e1 : rgIt (a + (i : Int) + 1) (((n - i : Nat) : Int) - 1) = rgIt (a + ((i + 1 : Nat) : Int)) ((n - (i + 1) : Nat) : Int) := by
        rw [show a + ((i + 1 : Nat) : Int) = a + (i : Int) + 1 by omega, show ((n - (i + 1) : Nat) : Int) = ((n - i : Nat) : Int) - 1 by omega]
      rw [e1] at hI
      refine ⟨_, by omega, i + 1, m', But (But N' I) D, ys', dn', rfl, hlt, hj2, hle, fun p hp => (of_but (of_but hp).1).2, fun p hp => (of_but hp).2, hDI, F2.sub fun p hp => ?_⟩
      rcases List.mem_cons.mp hp with rfl | hp
      · exact hI
      · rcases List.mem_cons.mp hp with rfl | hp
        · exact hD
        · exact (of_but (of_but hp).1).1
    refine wpAny_mono (turn i s.toks m N _ ys dn hlt hj hyl hNI hND hDI F') (fun _ s₁ h₁ => wpAny_mono h₁ (fun ok s₂ h₂ => ?_) fun _ _ z => z.elim) fun _ _ z => z.elim
    cases ok with
    | false =>
      obtain ⟨m', N', F2, hI, hD, hj2⟩ := h₂
      exact fin _ _ _ _ _ F2 hI hD (by omega) hj2
    | true =>
      refine wpAny_mono h₂ (fun y s₃ h₃ => ?_) fun _ _ z => z.elim
      obtain ⟨m', N', F2, hI, hD, hj2⟩ := h₃
      refine appLst F2 hD (by omega) fun s₄ F4 => ?_
      refine fin _ _ _ _ _ F4 (.tail _ (mem_but hI (Ne.symm hDI))) (.head _) (by simp; omega) ?_
      rw [but_again hDI]
      exact hj2
  · refine wpAny_pyNext_range_end hh hit (by omega) fun h' eb => ?_
    have hi' : i = n := by omega
    subst hi'
    exact done _ _ _ _ _ hj hND (F.drop hNI' eb)
end
end Mine
end
section
open PySem PySem.W PyProof.Rows PySem.Calls PySem.Spec PySem.SeqAt
set_option Elab.async false
set_option maxRecDepth 100000
namespace Mine
section
variable {w : World} {A : Around} {E : Value → Shared → Prop} {S : Shared} {h₀ : Heap} {L : Addr} {m : Mp} {N : Led} {s : Shared} {env : Env} {prog : Program} {P : Params}
/-- one turn of a list's making over a range -/
noncomputable def TurnsR (prog : Program) (w : World) (A : Around) (S : Shared) (h₀ : Heap) (x : Str) (px : Pos) (ifs : List Expr) (elt : Expr) (cenv : Addr → Env) (a : Int) (n : Nat) (J : Nat → Led → List Value → Prop) : Prop :=
  ∀ g C I D i t m N s ys dn, (∀ b o, h₀.get? b = some o → g.get? b = some o) → i < n → J i N ys → ys.length ≤ i → (∀ p ∈ N, p.1 ≠ I) → (∀ p ∈ N, p.1 ≠ D) → D ≠ I → Fm S g C m ((I, rgIt (a + (i : Int) + 1) (((n - i : Nat) : Int) - 1)) :: (D, lstO ys dn) :: N) s →
        wpAny (model prog w) A (assign (.Name x px) (cenv C) (.int (a + (i : Int)) t)) (fun _ s₁ => wpAny (model prog w) A (forIn ifs true fun c r => if r = true then do let ok ← isTrue c (cenv C) (eval c (cenv C)); pure (ForInStep.yield ok) else pure (ForInStep.yield r)) (fun ok s₂ =>
          if ok = true then wpAny (model prog w) A (eval elt (cenv C)) (fun y s₃ => MadeR S g C I (rgIt (a + (i : Int) + 1) (((n - i : Nat) : Int) - 1)) D (lstO ys dn) (fun N => J (i + 1) N (ys ++ [y])) s₃) noE s₂
          else MadeR S g C I (rgIt (a + (i : Int) + 1) (((n - i : Nat) : Int) - 1)) D (lstO ys dn) (fun N => J (i + 1) N ys) s₂) noE s₁) noE s
theorem compCoreR {elt iter : Expr} {x : Str} {px : Pos} {ifs : List Expr} {scope : Scope} {cl : List (Str × Addr)} {pos pos' : Pos} {use : Option (Value → Sem Unit)} {Q : Value → Shared → Prop} (hh : A.handled = none) (J : Nat → Led → List Value → Prop) (a b : Int) (n : Nat)
    (hsm : Builtin.Range.small a b 1 = true) (hsz : Builtin.Range.rangeSize a b 1 = (n : Int)) (hnz : n ≤ sizeLine)
    (hclos : closureFor scope env = pure cl) (hcell : ∀ y ∈ scope.names, y.2 ≠ .cell) (hkind : scope.kind = .function) (hnames : ∀ y ∈ scope.names, y.2 = .local → scope.names.lookup y.1 = some .local)
    (h : wpAny (model prog w) A (eval iter env) (fun it s₁ => ∃ r t u k m N, it = .ref r ∧ Fm S h₀ L m N s₁ ∧ (r, rgO a b t u k) ∈ N ∧ J 0 N [] ∧ TurnsR prog w A S h₀ x px ifs elt (fun C => compEnvC scope cl C env) a n J ∧
      (∀ D N s ys dn C mC, J n N ys → (∀ p ∈ N, p.1 ≠ D) → Fm S h₀ L m ((D, lstO ys dn) :: N) s → s.heap.Ns C mC → (∀ s' m' N', Fm S h₀ L m' N' s' → s'.heap.Ns C mC → (∀ p ∈ N', p.1 ≠ C) → ∀ h', Heap.SameBut C s'.heap h' → Fm S h₀ L m' N' { s' with heap := h' }) → L ≠ C → (∀ p ∈ (D, lstO ys dn) :: N, p.1 ≠ C) →
        match use with
        | none => ∀ s', Fm S h₀ L m ((D, lstO ys dn) :: N) s' → Q (.ref D) s'
        | some u => wpAny (model prog w) A (u (.ref D)) (fun _ s'' => ∃ m, s''.heap.Ns C m ∧ ∀ h', Heap.SameBut C s''.heap h' → Q .none { s'' with heap := h' }) E s)) E s)
    (hs : ∀ x, foldedSetIterable iter env x = pure x := by intro _; rfl) :
    wpAny (model prog w) A (comprehension (.ListComp elt [⟨.Name x px, iter, ifs, 0⟩] scope pos) scope env pos' (newList []) false (eval iter env) use) Q E s := by
  refine wpAny_comprehension_free rfl hs hclos hkind hnames (wpAny_mono h (fun it s₁ h₁ => ?_) fun _ _ e => e)
  obtain ⟨r, t, u, k, m, N, rfl, F, hr, hj, turn, done⟩ := h₁
  refine wpAny_pyIter_range (F.get hr) hsm ?_
  have hNI := F.ne
  rw [hsz]
  have F1 := F.push (rgIt a (n : Int))
  generalize hI : s₁.heap.objs.size = I at F1 hNI
  refine wpAny_newList ?_ (by exact Nat.le_of_ble_eq_true rfl)
  have hND := F1.ne
  have F3 := F1.push (lstO [])
  generalize hD : (s₁.heap.push (rgIt a (n : Int))).objs.size = D at F3 hND ⊢
  generalize ({ s₁ with heap := (s₁.heap.push (rgIt a (n : Int))).push (lstO []) } : Shared) = s₃ at F3 ⊢
  refine wpAny_newFunctionEnv hcell (by intro y hy; simp at hy) (fun h₁ hns hsb => ?_) hkind
  have hk : ∀ b o, s₃.heap.get? b = some o → h₁.get? b = some o := fun b o e => hsb.extBut b o (Nat.ne_of_lt (Heap.lt_size e)) (Heap.get?_push_of_some _ e)
  obtain ⟨g, FC, stays, back, _⟩ := F3.enter (t := s₃.toks + ([] : List (Str × Value)).length) (Nat.le_refl _) hns hk
  generalize hC : s₃.heap.objs.size = C at FC back hns ⊢
  have hDI : D ≠ I := fun e => hND _ (.head _) e.symm
  have FC2 : Fm S g C _ ((I, rgIt a (n : Int)) :: (D, lstO [] 0) :: N) _ := FC.sub fun p hp => by
    rcases hp with _ | ⟨_, _ | ⟨_, hp⟩⟩
    · exact .tail _ (.head _)
    · exact .head _
    · exact .tail _ (.tail _ hp)
  have loop : codeAny (model prog w) A (.compLoop (.ListComp elt [⟨.Name x px, iter, ifs, 0⟩] scope pos) 0 (.ref I) (.ref D) (compEnvC scope cl C env)) (compPost (model prog w) A E use Q (.ref D) C) { s₃ with heap := h₁, toks := s₃.toks + ([] : List (Str × Value)).length } := by
    refine compTurnsR (a := a) (n := n) (J := J) hh hnz (fun i t m N s ys dn a1 a2 a3 a4 a5 a6 a7 => turn g C I D i t m N s ys dn stays a1 a2 a3 a4 a5 a6 a7) (fun mC N s ys dn hj hN F => ?_) hj hNI (fun p hp => hND p (.tail _ hp)) hDI FC2
    obtain ⟨F', hLC, h0C, hNC, hns'⟩ := back _ _ _ F
    have d := done D N s ys dn C mC hj hN F' hns' (fun s' m' N' F' hns' hN' h' hs => F'.aside hs hLC h0C hN') hLC hNC
    cases use with
    | none => exact ⟨mC, hns', fun h' hs => d _ (F'.aside hs hLC h0C hNC)⟩
    | some u => exact d
  exact codeAny_compStart_list loop (wpAny_pyIter_rangeiter (x := a) (left := (n : Int)) (step := 1) (FC2.get (.head _)) loop)
inductive CompReqR (prog : Program) (w : World) (A : Around) (S : Shared) (h₀ : Heap) (L : Addr) (x : Str) (px : Pos) (ifs : List Expr) (elt : Expr) (cenv : Addr → Env) (a b : Int) (n : Nat) (J : Nat → Led → List Value → Prop) (Q : Value → Shared → Prop) (it : Value) (s₁ : Shared) : Prop
  | mk (r : Addr) (t u k : Tok) (m : Mp) (N : Led) : it = .ref r → Fm S h₀ L m N s₁ → (r, rgO a b t u k) ∈ N → J 0 N [] → TurnsR prog w A S h₀ x px ifs elt cenv a n J →
      (∀ D N s ys dn, J n N ys → (∀ p ∈ N, p.1 ≠ D) → Fm S h₀ L m ((D, lstO ys dn) :: N) s → Q (.ref D) s) → CompReqR prog w A S h₀ L x px ifs elt cenv a b n J Q it s₁
inductive CompReqRA (prog : Program) (w : World) (A : Around) (S : Shared) (h₀ : Heap) (L : Addr) (x : Str) (px : Pos) (ifs : List Expr) (elt : Expr) (cenv : Addr → Env) (a b : Int) (n : Nat) (J : Nat → Led → List Value → Prop) (y : Str) (Q : Flow → Shared → Prop) (it : Value) (s₁ : Shared) : Prop
  | mk (r : Addr) (t u k : Tok) (m : Mp) (N : Led) : it = .ref r → Fm S h₀ L m N s₁ → (r, rgO a b t u k) ∈ N → J 0 N [] → TurnsR prog w A S h₀ x px ifs elt cenv a n J →
      (∀ D N s ys dn, J n N ys → (∀ p ∈ N, p.1 ≠ D) → Fm S h₀ L (up m y (.ref D)) ((D, lstO ys dn) :: N) s → Q .next s) → CompReqRA prog w A S h₀ L x px ifs elt cenv a b n J y Q it s₁
/-- the list as a value -/
theorem compLR {elt iter : Expr} {x : Str} {px : Pos} {ifs : List Expr} {scope : Scope} {pos : Pos} {Q : Value → Shared → Prop} (hh : A.handled = none) (J : Nat → Led → List Value → Prop) (a b : Int) (n : Nat) {cl : List (Str × Addr)}
    (hsm : Builtin.Range.small a b 1 = true) (hsz : Builtin.Range.rangeSize a b 1 = (n : Int)) (hnz : n ≤ sizeLine)
    (h : wpAny (model prog w) A (eval iter env) (fun it s₁ => CompReqR prog w A S h₀ L x px ifs elt (fun C => compEnvC scope cl C env) a b n J Q it s₁) E s)
    (hclos : closureFor scope env = pure cl := by rfl) (hcell : ∀ y ∈ scope.names, y.2 ≠ .cell := by decide +kernel) (hkind : scope.kind = .function := by rfl) (hnames : ∀ y ∈ scope.names, y.2 = .local → scope.names.lookup y.1 = some .local := by decide +kernel)
    (hs : ∀ x, foldedSetIterable iter env x = pure x := by intro _; rfl) :
    wpAny (model prog w) A (eval (.ListComp elt [⟨.Name x px, iter, ifs, 0⟩] scope pos) env) Q E s := by
  rw [eval_ListComp]
  refine compCoreR (S := S) (h₀ := h₀) (L := L) (use := none) hh J a b n hsm hsz hnz hclos hcell hkind hnames (wpAny_mono h (fun it s₁ h₁ => ?_) fun _ _ z => z) hs
  obtain ⟨r, t, u, k, m, N, rfl, F, hl, hj, turn, done⟩ := h₁
  exact ⟨r, t, u, k, m, N, rfl, F, hl, hj, turn, fun D N s ys dn C mC a b _ _ _ _ _ s' F => done D N s' ys dn a b F⟩
/-- y = the list -/
theorem compAsgR {elt iter : Expr} {x y : Str} {px py : Pos} {ifs : List Expr} {scope : Scope} {pos spos : Pos} {Q : Flow → Shared → Prop} (hh : A.handled = none) (hE : EnvOk env L) (hy : env.kindOf y = some .local) (J : Nat → Led → List Value → Prop) (a b : Int) (n : Nat) {cl : List (Str × Addr)}
    (hsm : Builtin.Range.small a b 1 = true) (hsz : Builtin.Range.rangeSize a b 1 = (n : Int)) (hnz : n ≤ sizeLine)
    (hsw : swapsWith (.ListComp elt [⟨.Name x px, iter, ifs, 0⟩] scope pos) (some (.Name y py)) spos.line env = pure true)
    (h : wpAny (model prog w) A (eval iter env) (fun it s₁ => CompReqRA prog w A S h₀ L x px ifs elt (fun C => compEnvC scope cl C env) a b n J y Q it s₁) E s)
    (hclos : closureFor scope env = pure cl := by rfl) (hcell : ∀ y ∈ scope.names, y.2 ≠ .cell := by decide +kernel) (hkind : scope.kind = .function := by rfl) (hnames : ∀ y ∈ scope.names, y.2 = .local → scope.names.lookup y.1 = some .local := by decide +kernel)
    (hs : ∀ x, foldedSetIterable iter env x = pure x := by intro _; rfl) :
    wpAny (model prog w) A (exec (.Assign [.Name y py] (.ListComp elt [⟨.Name x px, iter, ifs, 0⟩] scope pos) spos) env) Q E s := by
  rw [exec_Assign_Name_used _ _ _ _ hsw]
  refine wpAny_bind (wpAny_standAt (wpAny_bind ?_))
  show wpAny _ A (do let _ ← comprehension (.ListComp elt [⟨.Name x px, iter, ifs, 0⟩] scope pos) scope env _ (newList []) false (eval iter env) (some (assign (.Name y py) env))) _ _ s
  refine wpAny_bind (wpAny_mono (compCoreR (S := S) (h₀ := h₀) (L := L) (use := some (assign (.Name y py) env)) (Q := fun _ s' => Q .next s') hh J a b n hsm hsz hnz hclos hcell hkind hnames (wpAny_mono h (fun it s₁ h₁ => ?_) fun _ _ z => z) hs) (fun _ s' hq => wpAny_pure (wpAny_pure hq)) fun _ _ e => e)
  obtain ⟨r, t, u, k, m, N, rfl, F, hl, hj, turn, done⟩ := h₁
  refine ⟨r, t, u, k, m, N, rfl, F, hl, hj, turn, fun D N s ys dn C mC a b F hns asd hLC hNC => ?_⟩
  have F' := hE.locals ▸ F.fr
  refine wpAny_assign_Name (wpAny_storeName_local hy F'.ns (fun h' hn hs' => ?_) (by rw [hE.kind]; rfl))
  have e := hE.locals
  subst e
  have F2 : Fm S h₀ env.locals (up m y (.ref D)) ((D, lstO ys dn) :: N) { s with heap := h' } := ⟨F.fr.set hn hs', F.nw.set hs', F.ge, F.os⟩
  have hnC : Heap.Ns h' C mC := hns.sameBut hs' (Ne.symm hLC)
  exact ⟨mC, hnC, fun h'' hs'' => done D N _ ys dn a b ((asd _ _ _ F2 hnC hNC h'' hs'').tk _)⟩
end
end Mine
end
section
open PySem PySem.W PyProof.Rows PySem.Calls PySem.Spec PySem.SeqAt
set_option Elab.async false
set_option maxRecDepth 100000
namespace Mine
noncomputable def Tr.masks : Tr → Nat → List Int
  | .leaf _ _, _ => []
  | .node _ l r _ _, s => (l.masks s ++ r.masks (s + l.leaves)) ++ [2 ^ (s + l.leaves + r.leaves) - 2 ^ s]
theorem masks_len : ∀ (t : Tr) (s : Nat), (t.masks s).length + 1 = t.leaves := by
  intro t
  induction t with
  | leaf v c => intro s; rfl
  | node op l r c way ihl ihr =>
    intro s
    have h1 := ihl s
    have h2 := ihr (s + l.leaves)
    show ((l.masks s ++ r.masks (s + l.leaves)) ++ [_]).length + 1 = l.leaves + r.leaves
    rw [List.length_append, List.length_append]
    show (l.masks s).length + (r.masks (s + l.leaves)).length + 1 + 1 = _
    omega
section
variable {w : World} {A : Around} {E : Value → Shared → Prop} {S : Shared} {h₀ : Heap} {L : Addr} {m : Mp} {N : Led} {s : Shared} {env : Env} {prog : Program} {P : Params}
theorem pow2 {k : Nat} {t u : Tok} {Q : Value → Shared → Prop} (F : Fm S h₀ L m N s) (hk : k ≤ 1000) (q : ∀ t s', Fm S h₀ L m N s' → Q (.int (2 ^ k) t) s') : wpAny (model prog w) A (binaryOp .Pow (.int 2 t) (.int k u)) Q E s := by
  refine PyProof.Rows.pow_int (by omega) ?_ ?_
  · have e : Builtin.Int.intBits 2 = 2 := by decide
    rw [e]; show ((2 : Nat) : Int) * _ ≤ 134217728; omega
  · rw [Int.toNat_natCast]; exact q _ _ (F.tk _)
inductive Asg2EReq (L : Addr) (a b : Str) (Q : Flow → Shared → Prop) (x : Value) (s₁ : Shared) : Prop
  | mk (S : Shared) (h₀ : Heap) (m : Mp) (N : Led) (d : Addr) (v v' : Value) : x = .ref d → Fm S h₀ L m N s₁ → (d, tupO [v, v']) ∈ N → (∀ s', Fm S h₀ L (up (up m a v) b v') N s' → Q .next s') → Asg2EReq L a b Q x s₁
theorem asgT2E {a b : Str} {p q pos tp : Pos} {k : Nat} {e : Expr} {Q : Flow → Shared → Prop} (hh : A.handled = none) (hE : EnvOk env L) (ha : env.kindOf a = some .local) (hb : env.kindOf b = some .local)
    (h : wpAny (model prog w) A (eval e env) (fun x s₁ => Asg2EReq L a b Q x s₁) E s)
    (hs : swapsWithSole [.Tuple [.Name a p, .Name b q] k tp] e pos.line env = pure false := by rfl) (hw : swappedStores [.Tuple [.Name a p, .Name b q] k tp] e env = pure none := by rfl) :
    wpAny (model prog w) A (exec (.Assign [.Tuple [.Name a p, .Name b q] k tp] e pos) env) Q E s := by
  refine Assign_Tuple (wpAny_mono h (fun x s₁ h₁ => ?_) fun _ _ z => z) hs hw
  obtain ⟨S, h₀, m, N, d, v, v', rfl, F, hd, qq⟩ := h₁
  show wpAny _ _ (do standAt tp; unpack (.ref d) (assignEach [.Name a p, .Name b q] env)) _ _ _
  refine wpAny_bind (wpAny_standAt ?_)
  unfold unpack
  refine wpAny_bind (wpAny_holding (unpk (vs := [v, v']) hh F hd rfl fun s' F => ?_))
  refine wpAny_assignInOrder_more (wpAny_bind (wpAny_standAt (bn hE F ha fun s' F => ?_)))
  refine wpAny_assignInOrder_more (wpAny_bind (wpAny_standAt (bn hE F hb fun s' F => ?_)))
  exact wpAny_pure (qq _ F)
theorem masks_spec : ∀ (t : Tr) (st : Nat) {A : Around} {E : Value → Shared → Prop} {S : Shared} {h₀ : Heap} {L : Addr} {m : Mp} {N : Led} {s : Shared} {Q : Value → Shared → Prop} {v : Value} {u : Tok},
    Gd P h₀ → Fm S h₀ L m N s → Rm A (t.high + 1) → TreeIn N v t → st + t.leaves ≤ 100 →
    (∀ a b vs ln tk N' s', Fm S h₀ L m N' s' → (∀ p ∈ N, p ∈ N') → (a, tupO [.int t.leaves tk, .ref b]) ∈ N' → (b, lstO vs ln) ∈ N' → IntsAre vs (t.masks st) → Q (.ref a) s') → wpAny (model pw w) A (call (.ref 359) [v, .int st u]) Q E s := by
  intro t
  induction t with
  | leaf x c =>
    intro st A E S h₀ L m N s Q v u G F R hT hs k
    cases hT with
    | leaf hm =>
    refine in359 G F R fun g L' s₁ G R' F kp bk => ?_
    have hE := ek359 L'
    refine wpAny_execs_cons ?_
    refine wpAny_If ?_
    refine wpAny_isTrue_Compare1 ?_
    refine callGb hE G F (k359_len _) b_len bb_len ?_
    refine args1 ?_
    refine nL hE F (k359_tree _) rfl ?_
    refine lenTup F hm fun _ _ F => ?_
    refine cI F fun _ _ F => ?_
    refine eq_int ?_
    refine wpAny_truthy_bool ?_
    refine wpAny_execs_cons ?_
    refine wpAny_Return_some ?_
    refine Tuple_ (args2 (cI F fun t1 s F => List_ (spliced_nil ?_)))
    refine lstN F fun b s F => ?_
    refine tupN F fun a s F => ?_
    exact k a b [] 0 t1 _ _ (bk _ _ _ F) (fun p hp => .tail _ (.tail _ hp)) (.head _) (.tail _ (.head _)) .nil
  | node op l r c way ihl ihr =>
    intro st A E S h₀ L m N s Q v u G F R hT hs k
    have hs' : st + (l.leaves + r.leaves) ≤ 100 := hs
    have ml := masks_len l st
    have mr := masks_len r (st + l.leaves)
    cases hT with
    | node hm hl hr =>
    refine in359 G F R fun g L' s₁ G R' F kp bk => ?_
    have hE := ek359 L'
    have Rl : Rm (A.deeper (E359 L')) (l.high + 1) := R'.le (by simp only [Tr.high]; omega)
    have Rr : Rm (A.deeper (E359 L')) (r.high + 1) := R'.le (by simp only [Tr.high]; omega)
    refine wpAny_execs_cons ?_
    refine wpAny_If ?_
    refine wpAny_isTrue_Compare1 ?_
    refine callGb hE G F (k359_len _) b_len bb_len ?_
    refine args1 ?_
    refine nL hE F (k359_tree _) rfl ?_
    refine lenTup F hm fun _ _ F => ?_
    refine cI F fun _ _ F => ?_
    refine eq_int ?_
    refine wpAny_truthy_bool ?_
    refine wpAny_execs_nil ?_
    refine wpAny_execs_cons ?_
    refine asgT2E R'.hd hE (k359_left _) (k359_some _) ?_
    refine callG hE G F (k359_law_masks _) g_law_masks (ho359 P) ?_
    refine args2 (subC (nL hE F (k359_tree _) rfl fun t => ?_))
    refine itTup (F.tk _) hm rfl ?_
    have F := F.tk (s₁.toks + 1)
    refine nL hE (F.tk _) (k359_start _) rfl ?_
    refine ⟨(F.tk _).fr.keep, ihl st G (F.tk _) Rl hl (by omega) fun a1 b1 vs1 ln1 tk1 N₁ s F s1 ha1 hb1 hi1 => ?_⟩
    refine ⟨_, _, _, _, _, _, _, rfl, F, ha1, fun s F => ?_⟩
    rw [up_lk, up_lk] at F
    refine wpAny_execs_cons ?_
    refine asgT2E R'.hd hE (k359_right _) (k359_others _) ?_
    refine callG hE G F (k359_law_masks _) g_law_masks (ho359 P) ?_
    refine args2 (subC (nL hE F (k359_tree _) rfl fun t => ?_))
    refine itTup (F.tk _) (s1 _ hm) rfl ?_
    have F := F.tk (s.toks + 1)
    refine wpAny_BinOp (nL hE F (k359_start _) rfl (nL hE F (k359_left _) rfl (PyProof.Rows.add_int ?_)))
    rw [show ((st : Int) + (l.leaves : Int)) = ((st + l.leaves : Nat) : Int) by omega]
    have F := F.tk (s.toks + 1 + 1)
    refine ⟨F.fr.keep, ihr (st + l.leaves) G F Rr (hr.mono s1) (by omega) fun a2 b2 vs2 ln2 tk2 N₂ s F s2 ha2 hb2 hi2 => ?_⟩
    refine ⟨_, _, _, _, _, _, _, rfl, F, ha2, fun s F => ?_⟩
    rw [up_lk, up_lk] at F
    refine wpAny_execs_cons ?_
    refine wpAny_Return_some ?_
    refine Tuple_ (args2 (wpAny_BinOp (nL hE F (k359_left _) rfl (nL hE F (k359_right _) rfl (PyProof.Rows.add_int ?_)))))
    rw [show ((l.leaves : Int) + (r.leaves : Int)) = (((Tr.node op l r c way).leaves : Nat) : Int) from (Int.natCast_add _ _).symm]
    have F := F.tk (s.toks + 1)
    have l1 := hi1.length
    have l2 := hi2.length
    refine wpAny_BinOp (wpAny_BinOp (nL hE F (k359_some _) rfl (nL hE F (k359_others _) rfl ?_)))
    refine catLst F (s2 _ hb1) hb2 (by show _ ≤ 2 ^ 24; omega) fun b3 s F => ?_
    refine List_ (args1 (wpAny_BinOp (wpAny_BinOp (cI F fun t s F => wpAny_BinOp (wpAny_BinOp (nL hE F (k359_start _) rfl (nL hE F (k359_left _) rfl (PyProof.Rows.add_int ?_))))))))
    have F := F.tk (s.toks + 1)
    refine nL hE F (k359_right _) rfl (PyProof.Rows.add_int ?_)
    have F := F.tk (s.toks + 1 + 1)
    rw [show ((st : Int) + (l.leaves : Int) + (r.leaves : Int)) = ((st + l.leaves + r.leaves : Nat) : Int) by omega]
    refine pow2 F (by omega) fun t s F => ?_
    refine wpAny_BinOp (cI F fun t s F => nL hE F (k359_start _) rfl (pow2 F (by omega) fun t s F => ?_))
    refine PyProof.Rows.sub_int ?_
    have F := F.tk (s.toks + 1)
    refine lstN F fun b4 s F => ?_
    refine catLst F (.tail _ (.head _)) (.head _) (by rw [List.length_append]; show _ + 1 ≤ 2 ^ 24; omega) fun b5 s F => ?_
    refine tupN F fun a s F => ?_
    refine k a b5 _ _ _ _ _ (bk _ _ _ F) (fun p hp => .tail _ (.tail _ (.tail _ (.tail _ (s2 _ (s1 _ hp)))))) (.head _) (.tail _ (.head _)) ?_
    exact IntsAre.append (IntsAre.append hi1 hi2) (.cons _ _ .nil)
end
end Mine
end
section
open PySem PySem.W PyProof.Rows PySem.Calls PySem.Spec PySem.SeqAt
set_option Elab.async false
set_option maxRecDepth 100000
namespace Mine
noncomputable def bitOn (k j : Nat) : Bool := k / 2 ^ j % 2 == 1
noncomputable def lasts (k : Nat) : List Int := ((List.range 5).filter (bitOn k)).map fun j => (2 : Int) ^ j
noncomputable def heldF (ms : List Int) (k : Nat) : Int := ((lasts k).length : Int) - ((ms.filter fun m => Builtin.bitAnd (k : Int) m == m).length : Int)
noncomputable def heldL (ms : List Int) : Nat → List Int
  | 0 => [0]
  | i + 1 => heldL ms i ++ [heldF ms (i + 1)]
noncomputable def minL : List Int → Int
  | [] => 0
  | x :: r => r.foldl min x
noncomputable def stepF (fs hs : List Int) (k : Nat) : List Int := (lasts k).map fun l => max (fs.getD ((k : Int) - l).toNat 0) (hs.getD ((k : Int) - l).toNat 0 + 1)
noncomputable def tabF (ms : List Int) : Nat → List Int
  | 0 => [0]
  | i + 1 => tabF ms i ++ [minL (stepF (tabF ms i) (heldL ms (i + 1)) (i + 1))]
noncomputable def fewF (ms : List Int) : Int := (tabF ms 31).getD 31 0
theorem heldL_len (ms : List Int) : ∀ i, (heldL ms i).length = i + 1
  | 0 => rfl
  | i + 1 => by unfold heldL; rw [List.length_append, heldL_len ms i]; rfl
theorem tabF_len (ms : List Int) : ∀ i, (tabF ms i).length = i + 1
  | 0 => rfl
  | i + 1 => by unfold tabF; rw [List.length_append, tabF_len ms i]; rfl
theorem foldMin : ∀ (r : List Int) (x : Int), (r.foldl min x = x ∨ r.foldl min x ∈ r) ∧ r.foldl min x ≤ x ∧ ∀ a ∈ r, r.foldl min x ≤ a
  | [], x => ⟨.inl rfl, Int.le_refl _, fun a h => by cases h⟩
  | y :: r, x => by
    obtain ⟨h1, h2, h3⟩ := foldMin r (min x y)
    refine ⟨?_, by show r.foldl min (min x y) ≤ x; omega, fun a ha => ?_⟩
    · show r.foldl min (min x y) = x ∨ r.foldl min (min x y) ∈ y :: r
      rcases h1 with h1 | h1
      · rw [h1]
        rcases Int.le_total x y with h | h
        · exact .inl (Int.min_eq_left h)
        · rw [Int.min_eq_right h]; exact .inr (.head _)
      · exact .inr (.tail _ h1)
    · rcases List.mem_cons.mp ha with rfl | ha
      · show r.foldl min (min x a) ≤ a; omega
      · exact h3 a ha
theorem minL_is {l : List Int} {M : Int} (h1 : M ∈ l) (h2 : ∀ a ∈ l, M ≤ a) : M = minL l := by
  cases l with
  | nil => cases h1
  | cons x r =>
    obtain ⟨a1, a2, a3⟩ := foldMin r x
    have b1 : M ≤ r.foldl min x := by
      rcases a1 with a | a
      · rw [a]; exact h2 x (.head _)
      · exact h2 _ (.tail _ a)
    have b2 : r.foldl min x ≤ M := by
      rcases List.mem_cons.mp h1 with rfl | h
      · exact a2
      · exact a3 M h
    exact Int.le_antisymm b1 b2
theorem lasts_of {k : Nat} {x : Int} (hk : k < 32) (h : x ∈ lasts k) : 1 ≤ x ∧ x ≤ (k : Int) := by
  unfold lasts at h
  obtain ⟨j, hj, rfl⟩ := List.mem_map.mp h
  have := (List.mem_filter.mp hj).2
  unfold bitOn at this
  have h1 := eq_of_beq this
  have h2 : 2 ^ j ≤ k := by
    rcases Nat.lt_or_ge k (2 ^ j) with h | h
    · rw [Nat.div_eq_of_lt h] at h1; cases h1
    · exact h
  have h3 : 1 ≤ 2 ^ j := Nat.one_le_two_pow
  have e : (2 : Int) ^ j = ((2 ^ j : Nat) : Int) := by simp
  rw [e]; omega
theorem lasts_ne {k : Nat} (h0 : 0 < k) (hk : k < 32) : 0 < (lasts k).length := by
  have : ∀ k < 32, 0 < k → 0 < (lasts k).length := by decide +kernel
  exact this k hk h0
theorem lasts_len (k : Nat) : (lasts k).length ≤ 5 := by
  unfold lasts
  rw [List.length_map]
  exact Nat.le_trans (List.length_filter_le _ _) (by decide)
section
variable {w : World} {A : Around} {E : Value → Shared → Prop} {S : Shared} {h₀ : Heap} {L : Addr} {m : Mp} {N : Led} {s : Shared} {env : Env} {prog : Program} {P : Params}
theorem divNat {a b : Nat} {t u : Tok} {Q : Value → Shared → Prop} (F : Fm S h₀ L m N s) (hb : b ≠ 0) (ha : a < 2 ^ 60) (hb2 : b < 1073741824) (k : ∀ t s', Fm S h₀ L m N s' → Q (.int ((a / b : Nat) : Int) t) s') : wpAny (model prog w) A (binaryOp .FloorDiv (.int (a : Int) t) (.int (b : Int) u)) Q E s := by
  refine PyProof.Rows.floordiv_int (by omega) ?_ (Or.inl (PyProof.noPylong_small (by omega)))
  have e : Int.fdiv (a : Int) (b : Int) = ((a / b : Nat) : Int) := by
    rw [Int.fdiv_eq_ediv_of_nonneg _ (by omega)]; rfl
  rw [e]
  exact k _ _ (F.tk _)
theorem minOf {l : Addr} {vs : List Value} {ln : Nat} {ns : List Int} {Q : Value → Shared → Prop} (hh : A.handled = none) (F : Fm S h₀ L m N s) (hl : (l, lstO vs ln) ∈ N) (hi : IntsAre vs ns) (hne : 0 < ns.length)
    (k : ∀ t s', Fm S h₀ L m N s' → Q (.int (minL ns) t) s') : wpAny (model prog w) A (call (.builtin "min") [.ref l]) Q E s := by
  refine min_list_N hh F.fr F.nw (isLst F hl) hi hne fun h' M t tk Fr' N' h1 h2 => ?_
  rw [minL_is h1 h2]
  exact k _ _ ⟨Fr', N', F.ge, F.os⟩
theorem sumOf {l : Addr} {vs : List Value} {ln : Nat} {ns : List Int} {Q : Value → Shared → Prop} (hh : A.handled = none) (F : Fm S h₀ L m N s) (hl : (l, lstO vs ln) ∈ N) (hi : IntsAre vs ns)
    (k : ∀ t s', Fm S h₀ L m N s' → Q (.int ns.sum t) s') : wpAny (model prog w) A (call (.builtin "sum") [.ref l]) Q E s :=
  PyProof.Rows.LSm.sum_ints F.fr F.nw hh (isLst F hl) hi fun h' tk t' Fr' N' => k _ _ ⟨Fr', N', F.ge, F.os⟩
theorem CellIn.but {N : Led} {c a : Addr} {v : Option Value} (h : CellIn N c v) (hn : c ≠ a) : CellIn (But N a) c v := let ⟨o, x, y⟩ := h; ⟨o, mem_but x hn, y⟩
end
end Mine
end
section
open PySem PySem.W PyProof.Rows PySem.Calls PySem.Spec PySem.SeqAt
set_option Elab.async false
set_option maxRecDepth 100000
namespace Mine
noncomputable abbrev EC364 (L : Addr) : Env := callEnvC fd364 L 364
theorem ecOk364 (L : Addr) : EnvOk (EC364 L) L := ⟨by kernel_rfl, rfl, rfl, rfl⟩
theorem cells364 (n : Nat) : cellsFrom n fd364.scope.names [] = [(Str.ofString "taken", n + 2), (Str.ofString "fewest", n + 1), (Str.ofString "held", n)] := by kernel_rfl
theorem lkT (L : Addr) : (EC364 L).cells.lookup (Str.ofString "taken") = some (L + 3) := by
  show List.lookup _ (cellsFrom (L + 1) fd364.scope.names []) = _
  rw [cells364]; rfl
theorem lkF (L : Addr) : (EC364 L).cells.lookup (Str.ofString "fewest") = some (L + 2) := by
  show List.lookup _ (cellsFrom (L + 1) fd364.scope.names []) = _
  rw [cells364]; rfl
theorem lkH (L : Addr) : (EC364 L).cells.lookup (Str.ofString "held") = some (L + 1) := by
  show List.lookup _ (cellsFrom (L + 1) fd364.scope.names []) = _
  rw [cells364]; rfl
theorem bind364 (v0 : Value) : bindArgs fd364 ⟨[v0], []⟩ = pure [(Str.ofString "tree", v0)] := by kernel_rfl
theorem kinds364 (v0 : Value) : ∀ n, ∀ x ∈ [(Str.ofString "tree", v0)], fd364.scope.names.lookup x.1 = some .local ∨ (fd364.scope.names.lookup x.1 = some .cell ∧ ((cellsFrom n fd364.scope.names []).lookup x.1).isSome = true) := by
  intro n x hx
  rcases hx with _ | ⟨_, hx⟩
  · exact .inl (by show fd364.scope.names.lookup (Str.ofString "tree") = _; kernel_rfl)
  · cases hx
theorem cellsAt3 {cm : Mp} {n1 n2 n3 : Str} {c1 c2 c3 : Addr} {cells : Led} (h : CellsAre cm [(n1, c1), (n2, c2), (n3, c3)] cells) : CellIn cells c1 (cm n1) ∧ CellIn cells c2 (cm n2) ∧ CellIn cells c3 (cm n3) := by
  cases h with
  | cons h1 h => cases h with
    | cons h2 h => cases h with
      | cons h3 h => exact ⟨⟨_, .head _, h1⟩, ⟨_, .tail _ (.head _), h2⟩, ⟨_, .tail _ (.tail _ (.head _)), h3⟩⟩
theorem n21 (L : Nat) : L + 1 + 1 ≠ L + 1 := by omega
theorem n12 (L : Nat) : L + 1 ≠ L + 1 + 1 := by omega
theorem n31 (L : Nat) : L + 1 + 2 ≠ L + 1 := by omega
theorem n32 (L : Nat) : L + 1 + 2 ≠ L + 1 + 1 := by omega
theorem filter_step {α : Type} {l : List α} {p : α → Bool} {j : Nat} {x : α} (h : l[j]? = some x) : (l.take (j + 1)).filter p = (l.take j).filter p ++ (if p x then [x] else []) := by
  rw [List.take_add_one, h, List.filter_append]
  cases hp : p x <;> simp [hp]
/-- what stands at the head of a turn -/
inductive FewJ (ah af am cH cF cT : Addr) (ms : List Int) (vm : List Value) (nm : Nat) (i : Nat) (m : Mp) (N : Led) : Prop
  | mk (vh : List Value) (nh : Nat) (vf : List Value) (nf : Nat) (vT : Option Value) : CellIn N cH (some (.ref ah)) → CellIn N cF (some (.ref af)) → CellIn N cT vT → (ah, lstO vh nh) ∈ N → (af, lstO vf nf) ∈ N → (am, lstO vm nm) ∈ N → IntsAre vh (heldL ms i) → IntsAre vf (tabF ms i) → m (Str.ofString "masks") = some (.ref am) → FewJ ah af am cH cF cT ms vm nm i m N
section
variable {w : World} {A : Around} {E : Value → Shared → Prop} {S : Shared} {h₀ : Heap} {L : Addr} {m : Mp} {N : Led} {s : Shared} {env : Env} {prog : Program} {P : Params}
theorem asg3g {e e' e'' : Expr} {k k' : Nat} {x y z : Str} {p p' p'' tp vp pos : Pos} {Q : Flow → Shared → Prop} (R : A.handled = none)
    (h : wpAny (model prog w) A (eval e env) (fun v s₁ => wpAny (model prog w) A (eval e' env) (fun v' s₂ => wpAny (model prog w) A (eval e'' env) (fun v'' s₂ => ∃ S h₀ L N m, Fm S h₀ L m N s₂ ∧ ∀ a s', Fm S h₀ L m ((a, tupO [v, v', v'']) :: N) s' →
      wpAny (model prog w) A (storeName env x v) (fun _ s => wpAny (model prog w) A (storeName env y v') (fun _ s => wpAny (model prog w) A (storeName env z v'') (fun _ s => Q .next s) E s) E s) E s') E s₂) E s₁) E s)
    (hs : swapsWithSole [.Tuple [.Name x p, .Name y p', .Name z p''] k tp] (.Tuple [e, e', e''] k' vp) pos.line env = pure false := by kernel_rfl)
    (hw : swappedStores [.Tuple [.Name x p, .Name y p', .Name z p''] k tp] (.Tuple [e, e', e''] k' vp) env = pure none := by kernel_rfl) (he : starEach [e, e', e''] env = [(false, eval e env), (false, eval e' env), (false, eval e'' env)] := by rfl) :
    wpAny (model prog w) A (exec (.Assign [.Tuple [.Name x p, .Name y p', .Name z p''] k tp] (.Tuple [e, e', e''] k' vp) pos) env) Q E s := by
  refine Assign_Tuple ?_ hs hw
  refine Tuple_ (args3 (wpAny_mono h (fun v s₁ h₁ => wpAny_mono h₁ (fun v' s₂ h₂ => wpAny_mono h₂ (fun v'' s₂ h₂ => ?_) fun _ _ x => x) fun _ _ x => x) fun _ _ x => x) he)
  obtain ⟨S, h₀, L, N, m, F, q⟩ := h₂
  refine tupN F (fun a s' F => ?_)
  show wpAny _ _ (do standAt tp; unpack (.ref a) (assignEach [.Name x p, .Name y p', .Name z p''] env)) _ _ _
  refine wpAny_bind (wpAny_standAt ?_)
  unfold unpack
  refine wpAny_bind (wpAny_holding (unpk (vs := [v, v', v'']) R F (.head _) rfl fun s' F => ?_))
  refine wpAny_assignInOrder_more (wpAny_bind (wpAny_standAt (wpAny_bindName (wpAny_mono (q a s' F) (fun _ s h => ?_) fun _ _ x => x))))
  refine wpAny_assignInOrder_more (wpAny_bind (wpAny_standAt (wpAny_bindName (wpAny_mono h (fun _ s h => ?_) fun _ _ x => x))))
  refine wpAny_assignInOrder_more (wpAny_bind (wpAny_standAt (wpAny_bindName (wpAny_mono h (fun _ s h => ?_) fun _ _ x => x))))
  exact wpAny_pure h
theorem Fm.notCell {l c : Addr} {vs : List Value} {n : Nat} {v : Option Value} (F : Fm S h₀ L m N s) (hl : (l, lstO vs n) ∈ N) (hc : CellIn N c v) : l ≠ c := by
  obtain ⟨o, ho, hd⟩ := hc
  refine F.apartD hl ho fun e => ?_
  rw [hd] at e
  cases e
set_option maxHeartbeats 8000000 in
theorem few_spec {t : Tr} {v : Value} {Q : Value → Shared → Prop} {n : Nat} (G : Gd P h₀) (F : Fm S h₀ L m N s) (R : Rm A (n + t.high + 3)) (hT : TreeIn N v t) (hlv : t.leaves ≤ 50)
    (k : ∀ u N' s', Fm S h₀ L m N' s' → Q (.int (fewF (t.masks 0)) u) s') : wpAny (model pw w) A (call (.ref 364) [v]) Q E s := by
  refine r_callC (args := ⟨[v], []⟩) (body := bodyD (top 38)) G F R (ho364 _) hc364 rfl rfl rfl (fun s h => BindsTo.of_eq (bind364 _)) (kinds364 _) (by decide +kernel) fun g L' s₁ cells G F Y hlt kp bk => ?_
  have hE := ecOk364 L'
  have R := R.deeper (EC364 L')
  rw [cells364] at Y
  obtain ⟨CT, CF, CH⟩ := cellsAt3 Y
  have htree : bindL (EC364 L').kindOf [(Str.ofString "tree", v)] (fun _ => none) (Str.ofString "tree") = some v := by kernel_rfl
  change wpAny _ (A.deeper (EC364 L')) (execs _ (EC364 L')) _ _ _
  generalize bindL (EC364 L').kindOf [(Str.ofString "tree", v)] (fun _ => none) = mL at F htree
  refine wpAny_execs_cons ?_
  refine asg3g R.hd ?_
  refine subC (callG hE G F (k364_law_masks L') g_law_masks (ho359 P) (args2 (nL hE F (k364_tree L') htree (cI F fun t0 s F => ?_))))
  refine ⟨F.fr.keep, masks_spec t 0 G F (R.le (by omega)) (hT.mono fun p hp => List.mem_append.mpr (.inr hp)) (by omega) fun a0 am vm nm tk N₁ s F s1 ha0 ham him t1 => ?_⟩
  refine itTup (F.tk _) ha0 rfl ?_
  have F := F.tk (s.toks + 1)
  refine List_ (args1 (cI F fun t2 s F => ?_))
  refine lstNf F fun ah s hfh F => ?_
  refine List_ (args1 (cI F fun t3 s F => ?_))
  refine lstNf F fun af s hff F => ?_
  have hma : am ≠ ah := fun e => hfh _ ham e
  have hmf : am ≠ af := fun e => hff _ (.tail _ ham) e
  have hhf : ah ≠ af := fun e => hff _ (.head _) e
  refine ⟨_, _, _, _, _, F, fun a s F => ?_⟩
  generalize hN2 : (a, tupO _) :: (af, lstO [Value.int 0 t3]) :: (ah, lstO [Value.int 0 t2]) :: N₁ = N₂ at F
  have ham2 : (am, lstO vm nm) ∈ N₂ := by rw [← hN2]; exact .tail _ (.tail _ (.tail _ ham))
  have hah2 : (ah, lstO [Value.int 0 t2]) ∈ N₂ := by rw [← hN2]; exact .tail _ (.tail _ (.head _))
  have haf2 : (af, lstO [Value.int 0 t3]) ∈ N₂ := by rw [← hN2]; exact .tail _ (.head _)
  have s2 : ∀ p ∈ cells, p ∈ N₂ := fun p hp => by rw [← hN2]; exact .tail _ (.tail _ (.tail _ (s1 _ (List.mem_append.mpr (.inl hp)))))
  clear hN2
  have CT := CT.mono s2
  have CF := CF.mono s2
  have CH := CH.mono s2
  have x1 := F.notCell ham2 CT
  have x2 := F.notCell ham2 CF
  have x3 := F.notCell ham2 CH
  have x4 := F.notCell hah2 CT
  have x5 := F.notCell hah2 CF
  have x6 := F.notCell hah2 CH
  have x7 := F.notCell haf2 CT
  have x8 := F.notCell haf2 CF
  have x9 := F.notCell haf2 CH
  refine st hE F (k364_masks L') fun s F => ?_
  refine stC hE F (k364_held L') (lkH L') CH fun oH s hoH F => ?_
  refine stC hE F (k364_fewest L') (lkF L') ((CF.but (n21 L')).mono fun p hp => .tail _ hp) fun oF s hoF F => ?_
  have hm0 : up mL (Str.ofString "masks") (.ref am) (Str.ofString "masks") = some (.ref am) := up_same _ _ _
  generalize up mL (Str.ofString "masks") (.ref am) = m0 at F hm0
  have J0 : FewJ ah af am (L' + 1) (L' + 2) (L' + 3) (t.masks 0) vm nm 0 m0 ((L' + 1 + 1, oF) :: But ((L' + 1, oH) :: But N₂ (L' + 1)) (L' + 1 + 1)) := by
    refine ⟨_, _, _, _, _, ⟨oH, .tail _ (mem_but (.head _) (n12 L')), hoH⟩, ⟨oF, .head _, hoF⟩, ((((CT.but (n31 L')).mono fun p hp => .tail _ hp).but (n32 L')).mono fun p hp => .tail _ hp), .tail _ (mem_but (.tail _ (mem_but hah2 x6)) x5), .tail _ (mem_but (.tail _ (mem_but haf2 x9)) x8), .tail _ (mem_but (.tail _ (mem_but ham2 x3)) x2), ?_, ?_, hm0⟩
    · exact .cons _ _ .nil
    · exact .cons _ _ .nil
  generalize (L' + 1 + 1, oF) :: But ((L' + 1, oH) :: But N₂ (L' + 1)) (L' + 1 + 1) = N₃ at F J0
  have mlen := masks_len t 0
  have vml := him.length
  have xcc := And.intro x1 (And.intro x2 (And.intro x3 (And.intro x4 (And.intro x5 (And.intro x6 (And.intro x7 (And.intro x8 x9)))))))
  clear x1 x2 x3 x4 x5 x6 x7 x8 x9 CT CF CH s2 ham2 hah2 haf2
  refine wpAny_execs_cons ?_
  refine wpAny_mono (E := noE) (Q := fun fl s => fl = .next ∧ ∃ m N', FewJ ah af am (L' + 1) (L' + 2) (L' + 3) (t.masks 0) vm nm 31 m N' ∧ Fm S g L' m N' s) ?_ (fun fl s hy => ?_) (fun _ _ z => z.elim)
  · refine forR (S := S) (h₀ := g) (L := L') R.hd (FewJ ah af am (L' + 1) (L' + 2) (L' + 3) (t.masks 0) vm nm) 1 32 31 (by decide) (by decide) ?_
    refine callGt hE G F (k364_range L') b_range bb_range (args2 (cI F fun t5 s F => cI F fun t6 s F => range2 F fun r u s hf F => ?_))
    refine ⟨r, _, _, _, _, _, rfl, F, .head _, ?_, fun I i tt m N' s hi hJ hNI Fi => ?_, fun m N' s hJ F => ⟨rfl, m, N', hJ, F⟩⟩
    · obtain ⟨vh, nh, vf, nf, vT, c1, c2, c3, h1, h2, h3, i1, i2, hm⟩ := J0
      exact ⟨vh, nh, vf, nf, vT, c1.mono fun p hp => .tail _ hp, c2.mono fun p hp => .tail _ hp, c3.mono fun p hp => .tail _ hp, .tail _ h1, .tail _ h2, .tail _ h3, i1, i2, hm⟩
    · obtain ⟨vh, nh, vf, nf, vT, c1, c2, c3, h1, h2, h3, i1, i2, hm⟩ := hJ
      obtain ⟨x1, x2, x3, x4, x5, x6, x7, x8, x9⟩ := xcc
      have hk32 : i + 1 < 32 := by omega
      have e1 : (1 : Int) + (i : Int) = ((i + 1 : Nat) : Int) := by omega
      rw [e1] at Fi ⊢
      have hIo : (I, rgIt (((i + 1 : Nat) : Int) + 1) (((31 - i : Nat) : Int) - 1)) ∈ (I, rgIt (((i + 1 : Nat) : Int) + 1) (((31 - i : Nat) : Int) - 1)) :: N' := .head _
      generalize rgIt (((i + 1 : Nat) : Int) + 1) (((31 - i : Nat) : Int) - 1) = ito at Fi hIo ⊢
      have hIT : I ≠ L' + 3 := by obtain ⟨o, ho, _⟩ := c3; exact fun e => hNI _ ho e.symm
      have hIH : I ≠ L' + 1 := by obtain ⟨o, ho, _⟩ := c1; exact fun e => hNI _ ho e.symm
      have hIF : I ≠ L' + 2 := by obtain ⟨o, ho, _⟩ := c2; exact fun e => hNI _ ho e.symm
      have hIah : I ≠ ah := fun e => hNI _ h1 e.symm
      have hIaf : I ≠ af := fun e => hNI _ h2 e.symm
      have hIam : I ≠ am := fun e => hNI _ h3 e.symm
      refine wpAny_assign_Name (stC hE Fi (k364_taken L') (lkT L') (c3.mono fun p hp => .tail _ hp) fun oT s hoT F => ?_)
      have d1 : CellIn ((L' + 3, oT) :: But ((I, ito) :: N') (L' + 3)) (L' + 1) (some (.ref ah)) := ((c1.mono fun p hp => .tail _ hp).but (Ne.symm (n31 L'))).mono fun p hp => .tail _ hp
      have d2 : CellIn ((L' + 3, oT) :: But ((I, ito) :: N') (L' + 3)) (L' + 2) (some (.ref af)) := ((c2.mono fun p hp => .tail _ hp).but (Ne.symm (n32 L'))).mono fun p hp => .tail _ hp
      have d3 : CellIn ((L' + 3, oT) :: But ((I, ito) :: N') (L' + 3)) (L' + 3) (some (.int ((i + 1 : Nat) : Int) tt)) := ⟨oT, .head _, hoT⟩
      have g1 : (ah, lstO vh nh) ∈ ((L' + 3, oT) :: But ((I, ito) :: N') (L' + 3)) := .tail _ (mem_but (.tail _ h1) x4)
      have g2 : (af, lstO vf nf) ∈ ((L' + 3, oT) :: But ((I, ito) :: N') (L' + 3)) := .tail _ (mem_but (.tail _ h2) x7)
      have g3 : (am, lstO vm nm) ∈ ((L' + 3, oT) :: But ((I, ito) :: N') (L' + 3)) := .tail _ (mem_but (.tail _ h3) x1)
      have gI : (I, ito) ∈ ((L' + 3, oT) :: But ((I, ito) :: N') (L' + 3)) := .tail _ (mem_but hIo hIT)
      generalize (L' + 3, oT) :: But ((I, ito) :: N') (L' + 3) = N4 at F d1 d2 d3 g1 g2 g3 gI
      clear c1 c2 c3 h1 h2 h3 hIo hNI Fi
      refine wpAny_execs_cons ?_
      refine compAsgR (S := S) (h₀ := g) (L := L') R.hd hE (k364_lasts L') (cl := [(Str.ofString "taken", L' + 3)]) (fun j N'' ys => (∀ p ∈ N4, p ∈ N'') ∧ IntsAre ys (((List.range j).filter (bitOn (i + 1))).map fun j => (2 : Int) ^ j)) 0 5 5 (by decide) (by decide) (by decide +kernel) (by kernel_rfl) ?_ (by kernel_rfl)
      refine callGt hE G F (k364_range L') b_range bb_range (args1 (cI F fun t7 s F => range1 F fun r t8 u8 s hf F => ?_))
      refine ⟨r, _, _, _, _, _, rfl, F, .head _, ⟨fun p hp => .tail _ hp, .nil⟩, ?_, ?_⟩
      · rintro g' C I2 D j t9 m2 N'' s ys dn stay hj ⟨hsu, hys⟩ hle hNI2 hND2 hDI2 Fi2
        have e0 : (0 : Int) + (j : Int) = (j : Int) := by omega
        rw [e0] at Fi2 ⊢
        have p2 : 2 ^ j ≤ 16 := Nat.le_trans (Nat.pow_le_pow_right (by decide) (show j ≤ 4 by omega)) (by decide)
        have p1 : 1 ≤ 2 ^ j := Nat.one_le_two_pow
        have pc : (2 : Int) ^ j = ((2 ^ j : Nat) : Int) := by simp
        refine wpAny_assign_Name (st ⟨by kernel_rfl, rfl, rfl, rfl⟩ Fi2 (by kernel_rfl) fun s F => ?_)
        refine tests1 ?_
        refine wpAny_isTrue_Compare1 ?_
        refine wpAny_BinOp (wpAny_BinOp (nC ⟨by kernel_rfl, rfl, rfl, rfl⟩ F (by kernel_rfl) (show List.lookup (Str.ofString "taken") [(Str.ofString "taken", L' + 3)] = some (L' + 3) from rfl) (d3.mono fun p hp => .tail _ (.tail _ (hsu p hp))) ?_))
        refine wpAny_BinOp (cI F fun t9 s F => nL ⟨by kernel_rfl, rfl, rfl, rfl⟩ F (by kernel_rfl) (up_same _ _ _) (pow2 F (by omega) fun t9 s F => ?_))
        rw [pc]
        refine divNat F (by omega) (by omega) (by omega) fun t9 s F => ?_
        refine cI F fun t9 s F => modNat (b := 2) F (by omega) fun t9 s F => ?_
        refine cI F fun t9 s F => eq_int ?_
        refine wpAny_truthy_bool ?_
        have er : (((List.range (j + 1)).filter (bitOn (i + 1))).map fun j => (2 : Int) ^ j) = (((List.range j).filter (bitOn (i + 1))).map fun j => (2 : Int) ^ j) ++ (if bitOn (i + 1) j then [(2 : Int) ^ j] else []) := by
          rw [List.range_succ, List.filter_append, List.map_append]
          cases hb : bitOn (i + 1) j <;> simp [hb]
        have eb : (((((i + 1) / 2 ^ j % 2 : Nat) : Int)) == 1) = bitOn (i + 1) j := by
          unfold bitOn
          by_cases hq : (i + 1) / 2 ^ j % 2 = 1
          · rw [hq]; rfl
          · rw [beq_eq_false_iff_ne.mpr hq, beq_eq_false_iff_ne.mpr (by omega)]
        rw [eb]
        cases hb : bitOn (i + 1) j with
        | true =>
          rw [if_pos rfl]
          refine wpAny_BinOp (cI F fun t9 s F => nL ⟨by kernel_rfl, rfl, rfl, rfl⟩ F (by kernel_rfl) (up_same _ _ _) (pow2 F (by omega) fun t9 s F => ?_))
          refine madeR F hNI2 hND2 hDI2 ⟨hsu, ?_⟩
          rw [er, hb, if_pos rfl]
          exact IntsAre.append hys (.cons _ _ .nil)
        | false =>
          rw [if_neg Bool.false_ne_true]
          refine madeR F hNI2 hND2 hDI2 ⟨hsu, ?_⟩
          rw [er, hb, if_neg Bool.false_ne_true, List.append_nil]
          exact hys
      · rintro D N5 s ys dn ⟨hsu, hys⟩ hND F
        have hys : IntsAre ys (lasts (i + 1)) := hys
        have ysl := hys.length
        have ll := lasts_len (i + 1)
        have hm1 : up m (Str.ofString "lasts") (.ref D) (Str.ofString "masks") = some (.ref am) := (up_ne m (.ref D) (by decide +kernel)).trans hm
        have hl1 : up m (Str.ofString "lasts") (.ref D) (Str.ofString "lasts") = some (.ref D) := up_same _ _ _
        generalize up m (Str.ofString "lasts") (.ref D) = m1 at F hm1 hl1
        have hDah : D ≠ ah := fun e => hND _ (hsu _ g1) e.symm
        have hDaf : D ≠ af := fun e => hND _ (hsu _ g2) e.symm
        have d1 := (d1.mono hsu).mono fun p hp => List.mem_cons_of_mem (D, lstO ys dn) hp
        have d2 := (d2.mono hsu).mono fun p hp => List.mem_cons_of_mem (D, lstO ys dn) hp
        have d3 := (d3.mono hsu).mono fun p hp => List.mem_cons_of_mem (D, lstO ys dn) hp
        have g1 := List.mem_cons_of_mem (D, lstO ys dn) (hsu _ g1)
        have g2 := List.mem_cons_of_mem (D, lstO ys dn) (hsu _ g2)
        have g3 := List.mem_cons_of_mem (D, lstO ys dn) (hsu _ g3)
        have gI := List.mem_cons_of_mem (D, lstO ys dn) (hsu _ gI)
        have gD : (D, lstO ys dn) ∈ (D, lstO ys dn) :: N5 := .head _
        generalize (D, lstO ys dn) :: N5 = N6 at F d1 d2 d3 g1 g2 g3 gI gD
        refine wpAny_execs_cons ?_
        refine wpAny_Expr_any ?_
        refine evM (nC hE F (k364_held L') (lkH L') d1 fun pl => gmApp F g1 rfl rfl ?_)
        refine callM1 (wpAny_BinOp (callGb hE G F (k364_len L') b_len bb_len (args1 (nL hE F (k364_lasts L') hl1 ?_))))
        refine lenLst F gD (by omega) fun t9 s F => ?_
        refine callGb hE G F (k364_len L') b_len bb_len (args1 ?_)
        refine compL (S := S) (h₀ := g) (L := L') R.hd (cl := [(Str.ofString "taken", L' + 3)]) (fun j N'' zs => N'' = N6 ∧ IntsAre zs (((t.masks 0).take j).filter fun m => Builtin.bitAnd ((i + 1 : Nat) : Int) m == m)) vm ?_ (by kernel_rfl)
        refine nL hE F (k364_masks L') hm1 ?_
        refine ⟨am, nm, _, _, rfl, F, g3, by show _ ≤ 2 ^ 24; omega, ⟨rfl, .nil⟩, ?_, ?_⟩
        · rintro g' C I2 D2 j v m2 N'' s o2 zs dn2 stay hv ⟨rfl, hzs⟩ hle hl' hNI2 hND2 hDI2 ho Fi2
          obtain ⟨mk, tm, rfl, hmk⟩ := him.at j v hv
          refine wpAny_assign_Name (st ⟨by kernel_rfl, rfl, rfl, rfl⟩ Fi2 (by kernel_rfl) fun s F => ?_)
          refine tests1 ?_
          refine wpAny_isTrue_Compare1 ?_
          refine wpAny_BinOp (nC ⟨by kernel_rfl, rfl, rfl, rfl⟩ F (by kernel_rfl) (show List.lookup (Str.ofString "taken") [(Str.ofString "taken", L' + 3)] = some (L' + 3) from rfl) (d3.mono fun p hp => .tail _ (.tail _ hp)) ?_)
          refine nL ⟨by kernel_rfl, rfl, rfl, rfl⟩ F (by kernel_rfl) (up_same _ _ _) (PyProof.Rows.and_int ?_)
          have F := F.tk (s.toks + 1)
          refine nL ⟨by kernel_rfl, rfl, rfl, rfl⟩ F (by kernel_rfl) (up_same _ _ _) (eq_int ?_)
          refine wpAny_truthy_bool ?_
          have er : (((t.masks 0).take (j + 1)).filter fun m => Builtin.bitAnd ((i + 1 : Nat) : Int) m == m) = (((t.masks 0).take j).filter fun m => Builtin.bitAnd ((i + 1 : Nat) : Int) m == m) ++ (if (Builtin.bitAnd ((i + 1 : Nat) : Int) mk == mk) then [mk] else []) := filter_step (p := fun m => Builtin.bitAnd ((i + 1 : Nat) : Int) m == m) hmk
          cases hb : (Builtin.bitAnd ((i + 1 : Nat) : Int) mk == mk) with
          | true =>
            rw [if_pos rfl]
            refine nL ⟨by kernel_rfl, rfl, rfl, rfl⟩ F (by kernel_rfl) (up_same _ _ _) ?_
            refine made F hl' hNI2 hND2 hDI2 ⟨rfl, ?_⟩
            rw [er, hb, if_pos rfl]
            exact IntsAre.append hzs (.cons _ _ .nil)
          | false =>
            rw [if_neg Bool.false_ne_true]
            refine made F hl' hNI2 hND2 hDI2 ⟨rfl, ?_⟩
            rw [er, hb, if_neg Bool.false_ne_true, List.append_nil]
            exact hzs
        · rintro D2 N'' s zs dn2 ⟨rfl, hzs⟩ hND2 F
          rw [vml, List.take_length] at hzs
          have zsl := hzs.length
          have zle := List.length_filter_le (fun m => Builtin.bitAnd ((i + 1 : Nat) : Int) m == m) (t.masks 0)
          refine lenLst F (.head _) (by omega) fun t9 s F => PyProof.Rows.sub_int ?_
          have F := F.tk (s.toks + 1)
          have eh : ((ys.length : Nat) : Int) - ((zs.length : Nat) : Int) = heldF (t.masks 0) (i + 1) := by rw [ysl, zsl]; rfl
          rw [eh]
          have vhl := i1.length
          rw [heldL_len] at vhl
          refine appLst F (.tail _ g1) (by show _ ≤ 2 ^ 24; omega) fun s F => ?_
          have hD2 : D2 ≠ ah := fun e => hND2 _ g1 e.symm
          obtain ⟨vh', i1', F⟩ : ∃ vh', IntsAre vh' (heldL (t.masks 0) (i + 1)) ∧ Fm S g L' m1 ((ah, lstO vh' (nh + 1)) :: But ((D2, lstO zs dn2) :: N'') ah) s := ⟨_, IntsAre.append i1 (.cons _ _ .nil), F⟩
          have d1 := (((d1.mono fun p hp => List.mem_cons_of_mem (D2, lstO zs dn2) hp).but (Ne.symm x6)).mono fun p hp => List.mem_cons_of_mem (ah, lstO vh' (nh + 1)) hp)
          have d2 := (((d2.mono fun p hp => List.mem_cons_of_mem (D2, lstO zs dn2) hp).but (Ne.symm x5)).mono fun p hp => List.mem_cons_of_mem (ah, lstO vh' (nh + 1)) hp)
          have d3 := (((d3.mono fun p hp => List.mem_cons_of_mem (D2, lstO zs dn2) hp).but (Ne.symm x4)).mono fun p hp => List.mem_cons_of_mem (ah, lstO vh' (nh + 1)) hp)
          have g2 : (af, lstO vf nf) ∈ (ah, lstO vh' (nh + 1)) :: But ((D2, lstO zs dn2) :: N'') ah := .tail _ (mem_but (.tail _ g2) (Ne.symm hhf))
          have g3 : (am, lstO vm nm) ∈ (ah, lstO vh' (nh + 1)) :: But ((D2, lstO zs dn2) :: N'') ah := .tail _ (mem_but (.tail _ g3) hma)
          have gI : (I, ito) ∈ (ah, lstO vh' (nh + 1)) :: But ((D2, lstO zs dn2) :: N'') ah := .tail _ (mem_but (.tail _ gI) hIah)
          have gD : (D, lstO ys dn) ∈ (ah, lstO vh' (nh + 1)) :: But ((D2, lstO zs dn2) :: N'') ah := .tail _ (mem_but (.tail _ gD) hDah)
          have g1 : (ah, lstO vh' (nh + 1)) ∈ (ah, lstO vh' (nh + 1)) :: But ((D2, lstO zs dn2) :: N'') ah := .head _
          generalize (ah, lstO vh' (nh + 1)) :: But ((D2, lstO zs dn2) :: N'') ah = N7 at F d1 d2 d3 g1 g2 g3 gI gD
          refine wpAny_execs_cons ?_
          refine wpAny_Expr_any ?_
          refine evM (nC hE F (k364_fewest L') (lkF L') d2 fun pl => gmApp F g2 rfl rfl ?_)
          refine callM1 (callGb hE G F (k364_min L') b_min bb_min (args1 ?_))
          have vfl := i2.length
          rw [tabF_len] at vfl
          have vhl' := i1'.length
          rw [heldL_len] at vhl'
          have tl := tabF_len (t.masks 0) i
          have hl' := heldL_len (t.masks 0) (i + 1)
          refine compL (S := S) (h₀ := g) (L := L') R.hd (cl := [(Str.ofString "taken", L' + 3), (Str.ofString "held", L' + 1), (Str.ofString "fewest", L' + 2)]) (fun j N'' qs => N'' = N7 ∧ IntsAre qs ((stepF (tabF (t.masks 0) i) (heldL (t.masks 0) (i + 1)) (i + 1)).take j)) ys ?_ (by kernel_rfl)
          refine nL hE F (k364_lasts L') hl1 ?_
          refine ⟨D, dn, _, _, rfl, F, gD, by show _ ≤ 2 ^ 24; omega, ⟨rfl, .nil⟩, ?_, ?_⟩
          · rintro g' C I2 D3 j v m2 N'' s o2 qs dn3 stay hv ⟨rfl, hqs⟩ hle hla hNI2 hND3 hDI2 ho Fi2
            obtain ⟨la, tm, rfl, hla2⟩ := hys.at j v hv
            obtain ⟨b1, b2⟩ := lasts_of hk32 (List.mem_of_getElem? hla2)
            refine wpAny_assign_Name (st ⟨by kernel_rfl, rfl, rfl, rfl⟩ Fi2 (by kernel_rfl) fun s F => ?_)
            refine tests0 ?_
            rw [if_pos rfl]
            have hi1 : ((((i + 1 : Nat) : Int) - la).toNat) < (tabF (t.masks 0) i).length := by omega
            have hi2 : ((((i + 1 : Nat) : Int) - la).toNat) < (heldL (t.masks 0) (i + 1)).length := by omega
            obtain ⟨ta, hta⟩ := i2.get (((i + 1 : Nat) : Int) - la).toNat ((tabF (t.masks 0) i).getD (((i + 1 : Nat) : Int) - la).toNat 0) (by rw [List.getD_eq_getElem?_getD, List.getElem?_eq_getElem hi1]; rfl)
            obtain ⟨tb, htb⟩ := i1'.get (((i + 1 : Nat) : Int) - la).toNat ((heldL (t.masks 0) (i + 1)).getD (((i + 1 : Nat) : Int) - la).toNat 0) (by rw [List.getD_eq_getElem?_getD, List.getElem?_eq_getElem hi2]; rfl)
            refine callGb ⟨by kernel_rfl, rfl, rfl, rfl⟩ (G.keeps stay) F (by kernel_rfl) b_max bb_max (args2 ?_)
            refine Subscript_ (nC ⟨by kernel_rfl, rfl, rfl, rfl⟩ F (by kernel_rfl) (show List.lookup (Str.ofString "fewest") [(Str.ofString "taken", L' + 3), (Str.ofString "held", L' + 1), (Str.ofString "fewest", L' + 2)] = some (L' + 2) from rfl) (d2.mono fun p hp => .tail _ (.tail _ hp)) ?_)
            refine wpAny_BinOp (nC ⟨by kernel_rfl, rfl, rfl, rfl⟩ F (by kernel_rfl) (show List.lookup (Str.ofString "taken") [(Str.ofString "taken", L' + 3), (Str.ofString "held", L' + 1), (Str.ofString "fewest", L' + 2)] = some (L' + 3) from rfl) (d3.mono fun p hp => .tail _ (.tail _ hp)) ?_)
            refine nL ⟨by kernel_rfl, rfl, rfl, rfl⟩ F (by kernel_rfl) (up_same _ _ _) (PyProof.Rows.sub_int ?_)
            have F := F.tk (s.toks + 1)
            refine itLst F (.tail _ (.tail _ g2)) hta (by omega) (by omega) ?_
            refine wpAny_BinOp (Subscript_ (nC ⟨by kernel_rfl, rfl, rfl, rfl⟩ F (by kernel_rfl) (show List.lookup (Str.ofString "held") [(Str.ofString "taken", L' + 3), (Str.ofString "held", L' + 1), (Str.ofString "fewest", L' + 2)] = some (L' + 1) from rfl) (d1.mono fun p hp => .tail _ (.tail _ hp)) ?_))
            refine wpAny_BinOp (nC ⟨by kernel_rfl, rfl, rfl, rfl⟩ F (by kernel_rfl) (show List.lookup (Str.ofString "taken") [(Str.ofString "taken", L' + 3), (Str.ofString "held", L' + 1), (Str.ofString "fewest", L' + 2)] = some (L' + 3) from rfl) (d3.mono fun p hp => .tail _ (.tail _ hp)) ?_)
            refine nL ⟨by kernel_rfl, rfl, rfl, rfl⟩ F (by kernel_rfl) (up_same _ _ _) (PyProof.Rows.sub_int ?_)
            have F := F.tk (s.toks + 1 + 1)
            refine itLst F (.tail _ (.tail _ g1)) htb (by omega) (by omega) ?_
            refine cI F fun t9 s F => PyProof.Rows.add_int ?_
            have F := F.tk (s.toks + 1)
            refine max_two_N R.hd F.fr F.nw fun h' tk3 Fr' N' => ?_
            have F : Fm S g' C _ _ { s with heap := h', toks := tk3 } := ⟨Fr', N', F.ge, F.os⟩
            refine made F hla hNI2 hND3 hDI2 ⟨rfl, ?_⟩
            have er : (stepF (tabF (t.masks 0) i) (heldL (t.masks 0) (i + 1)) (i + 1)).take (j + 1) = (stepF (tabF (t.masks 0) i) (heldL (t.masks 0) (i + 1)) (i + 1)).take j ++
                [if (heldL (t.masks 0) (i + 1)).getD (((i + 1 : Nat) : Int) - la).toNat 0 + 1 > (tabF (t.masks 0) i).getD (((i + 1 : Nat) : Int) - la).toNat 0 then (heldL (t.masks 0) (i + 1)).getD (((i + 1 : Nat) : Int) - la).toNat 0 + 1 else (tabF (t.masks 0) i).getD (((i + 1 : Nat) : Int) - la).toNat 0] := by
              rw [List.take_add_one]
              congr 1
              unfold stepF
              rw [List.getElem?_map, hla2]
              show [max _ _] = _
              congr 1
              split <;> omega
            rw [er]
            exact IntsAre.append hqs (.cons _ _ .nil)
          · rintro D3 N'' s qs dn3 ⟨rfl, hqs⟩ hND3 F
            have sl : (stepF (tabF (t.masks 0) i) (heldL (t.masks 0) (i + 1)) (i + 1)).length = (lasts (i + 1)).length := List.length_map _
            rw [ysl, ← sl, List.take_length] at hqs
            have hne := lasts_ne (k := i + 1) (by omega) hk32
            refine minOf R.hd F (.head _) hqs (by omega) fun t9 s F => ?_
            refine appLst F (.tail _ g2) (by show _ ≤ 2 ^ 24; omega) fun s F => ?_
            have hD3 : D3 ≠ af := fun e => hND3 _ g2 e.symm
            have sb : ∀ p ∈ N'', p.1 ≠ af → p ∈ (af, lstO (vf ++ [Value.int (minL (stepF (tabF (t.masks 0) i) (heldL (t.masks 0) (i + 1)) (i + 1))) t9]) (nf + 1)) :: But ((D3, lstO qs dn3) :: N'') af := fun p hp hne => .tail _ (mem_but (.tail _ hp) hne)
            refine wpAny_execs_nil ?_
            refine ⟨m1, _, F, sb _ gI hIaf, vh', nh + 1, _, nf + 1, some (.int ((i + 1 : Nat) : Int) tt), ?_, ?_, ?_, mem_but (sb _ g1 hhf) (Ne.symm hIah), mem_but (.head _) (Ne.symm hIaf), mem_but (sb _ g3 hmf) (Ne.symm hIam), i1', IntsAre.append i2 (.cons _ _ .nil), hm1⟩
            · obtain ⟨o, h1, h2⟩ := d1
              exact ⟨o, mem_but (sb _ h1 (Ne.symm x9)) (Ne.symm hIH), h2⟩
            · obtain ⟨o, h1, h2⟩ := d2
              exact ⟨o, mem_but (sb _ h1 (Ne.symm x8)) (Ne.symm hIF), h2⟩
            · obtain ⟨o, h1, h2⟩ := d3
              exact ⟨o, mem_but (sb _ h1 (Ne.symm x7)) (Ne.symm hIT), h2⟩
  · obtain ⟨rfl, m', N', hJ, F⟩ := hy
    obtain ⟨vh, nh, vf, nf, vT, c1, c2, c3, h1, h2, h3, i1, i2, hm⟩ := hJ
    refine wpAny_execs_cons ?_
    refine wpAny_Return_some ?_
    have hl31 : (tabF (t.masks 0) 31)[31]? = some (fewF (t.masks 0)) := by
      have := tabF_len (t.masks 0) 31
      unfold fewF
      rw [List.getD_eq_getElem?_getD, List.getElem?_eq_getElem (by omega)]
      rfl
    obtain ⟨t9, ht9⟩ := i2.get 31 _ hl31
    refine subC (nC hE F (k364_fewest L') (lkF L') c2 fun t8 => itLst (F.tk _) h2 ht9 (by decide) (by decide) ?_)
    exact k _ _ _ (bk _ _ _ (F.tk _))
end
end Mine
end
section
open PySem PySem.W PyProof.Rows PySem.Calls PySem.Spec PySem.SeqAt
set_option Elab.async false
set_option maxRecDepth 100000
namespace Mine
inductive TreesIn (N : Led) : List Value → List Tr → Prop
  | nil : TreesIn N [] []
  | cons {v : Value} {t : Tr} {vs : List Value} {ts : List Tr} : TreeIn N v t → TreesIn N vs ts → TreesIn N (v :: vs) (t :: ts)
theorem TreesIn.mono {N N' : Led} {vs : List Value} {ts : List Tr} (h : TreesIn N vs ts) (hs : ∀ p ∈ N, p ∈ N') : TreesIn N' vs ts := by
  induction h with
  | nil => exact .nil
  | cons h _ ih => exact .cons (h.mono hs) ih
theorem TreesIn.append {N : Led} {vs ws : List Value} {ts us : List Tr} (h : TreesIn N vs ts) (h' : TreesIn N ws us) : TreesIn N (vs ++ ws) (ts ++ us) := by
  induction h with
  | nil => exact h'
  | cons h _ ih => exact .cons h ih
theorem TreesIn.length {N : Led} {vs : List Value} {ts : List Tr} (h : TreesIn N vs ts) : vs.length = ts.length := by
  induction h with
  | nil => rfl
  | cons _ _ ih => rw [List.length_cons, List.length_cons, ih]
theorem TreesIn.get {N : Led} {vs : List Value} {ts : List Tr} (h : TreesIn N vs ts) : ∀ {i : Nat} {t : Tr}, ts[i]? = some t → ∃ v, vs[i]? = some v ∧ TreeIn N v t := by
  induction h with
  | nil => intro i t e; cases e
  | @cons v t vs ts h _ ih =>
    intro i u e
    cases i with
    | zero => cases e; exact ⟨v, rfl, h⟩
    | succ i => exact ih e
theorem TreesIn.take {N : Led} {vs : List Value} {ts : List Tr} (h : TreesIn N vs ts) : ∀ k, TreesIn N (vs.take k) (ts.take k) := by
  induction h with
  | nil => intro k; rw [List.take_nil, List.take_nil]; exact .nil
  | cons h _ ih =>
    intro k
    cases k with
    | zero => exact .nil
    | succ k => exact .cons h (ih k)
theorem TreesIn.drop {N : Led} {vs : List Value} {ts : List Tr} (h : TreesIn N vs ts) : ∀ k, TreesIn N (vs.drop k) (ts.drop k) := by
  induction h with
  | nil => intro k; rw [List.drop_nil, List.drop_nil]; exact .nil
  | cons h hr ih =>
    intro k
    cases k with
    | zero => exact .cons h hr
    | succ k => exact ih k
noncomputable def lvs (ts : List Tr) : Nat := (ts.map Tr.leaves).sum
theorem lvs_app (a b : List Tr) : lvs (a ++ b) = lvs a + lvs b := by unfold lvs; rw [List.map_append, List.sum_append]
theorem cut_two {α : Type} {ts : List α} {p : Nat} {a b : α} (ha : ts[p]? = some a) (hb : ts[p + 1]? = some b) : ts = ts.take p ++ (a :: b :: ts.drop (p + 2)) := by
  obtain ⟨h1, e1⟩ := List.getElem?_eq_some_iff.mp ha
  obtain ⟨h2, e2⟩ := List.getElem?_eq_some_iff.mp hb
  have e3 : ts.drop p = a :: b :: ts.drop (p + 2) := by
    rw [List.drop_eq_getElem_cons h1, List.drop_eq_getElem_cons h2, e1, e2]
  rw [← e3, List.take_append_drop]
section
variable {w : World} {A : Around} {E : Value → Shared → Prop} {S : Shared} {h₀ : Heap} {L : Addr} {m : Mp} {N : Led} {s : Shared} {env : Env} {prog : Program} {P : Params}
/-- 'rR'[i] -/
theorem pickR {e : Expr} {p p1 : Pos} {c1 : _} {Q : Value → Shared → Prop} (F : Fm S h₀ L m N s)
    (he : ∀ s, Fm S h₀ L m N s → ∀ Q' : Value → Shared → Prop, (∀ i : Nat, i < 2 → ∀ t s', Fm S h₀ L m N s' → Q' (.int i t) s') → wpAny (model prog w) A (eval e env) Q' E s)
    (k : ∀ c t s', isR c → Fm S h₀ L m N s' → Q (.str c t) s')
    (hs : ∀ x t i u, subscripted e false (.str x t) (.int i u) = operate [.str x t, .int i u] (getItem (.str x t) (.int i u)) := by intro _ _ _ _; with_unfolding_all rfl)
    (ht : ∀ x t r, letTemporaryGo (.Constant (.str (Str.ofString "rR")) c1 p1) (.str x t) r = pure () := by intro _ _ _; with_unfolding_all rfl) :
    wpAny (model prog w) A (eval (.Subscript (.Constant (.str (Str.ofString "rR")) c1 p1) e p) env) Q E s := by
  refine Subscript_ (cS F fun t s F => ?_)
  refine he _ F _ fun i hi t s F => ?_
  have hl : (Str.ofString "rR").length = 2 := by decide +kernel
  have hi' : i = 0 ∨ i = 1 := by omega
  rcases hi' with rfl | rfl
  · exact item_str (by decide) (by decide) (by rw [hl]; decide) (fun _ => k _ _ _ (.inl (by decide +kernel)) (F.tk _)) (hs _ _ _ _) (ht _ _)
  · exact item_str (by decide) (by decide) (by rw [hl]; decide) (fun _ => k _ _ _ (.inr (by decide +kernel)) (F.tk _)) (hs _ _ _ _) (ht _ _)
theorem args5 {M : Model} {e1 e2 e3 e4 e5 : Expr} {pos : Pos} {Q : List Value → Shared → Prop}
    (h : wpAny M A (eval e1 env) (fun v1 s₁ => wpAny M A (eval e2 env) (fun v2 s₂ => wpAny M A (eval e3 env) (fun v3 s₃ => wpAny M A (eval e4 env) (fun v4 s₄ => wpAny M A (eval e5 env) (fun v5 s₅ => Q [v1, v2, v3, v4, v5] s₅) E s₄) E s₃) E s₂) E s₁) E s)
    (he : starEach [e1, e2, e3, e4, e5] env = [(false, eval e1 env), (false, eval e2 env), (false, eval e3 env), (false, eval e4 env), (false, eval e5 env)] := by rfl) : wpAny M A (spliced (backTo pos (starEach [e1, e2, e3, e4, e5] env))) Q E s := by
  rw [he]
  exact spliced_cons (wpAny_mono h (fun v s₁ h₁ => spliced_cons (wpAny_mono h₁ (fun v' s₂ h₂ => spliced_cons (wpAny_mono h₂ (fun v'' s₃ h₃ => spliced_cons (wpAny_mono h₃ (fun v4 s₄ h₄ => spliced_cons (wpAny_mono h₄ (fun v5 s₅ h₅ => spliced_nil h₅) fun _ _ x => x)) fun _ _ x => x)) fun _ _ x => x)) fun _ _ x => x)) fun _ _ x => x)
inductive TreeJ1 (l : Addr) (vs : List Value) (ln : Nat) (i : Nat) (N' : Led) (ys : List Value) : Prop
  | mk (h : (l, lstO vs ln) ∈ N') (ts : List Tr) : TreesIn N' ys ts → (∀ t ∈ ts, t.good) → ts.length = i → lvs ts = i → TreeJ1 l vs ln i N' ys
inductive TreeJ2 (i : Nat) (m : Mp) (N' : Led) : Prop
  | mk (ar : Addr) (vr : List Value) (nr : Nat) (ts : List Tr) : m (Str.ofString "row") = some (.ref ar) → (ar, lstO vr nr) ∈ N' → TreesIn N' vr ts → (∀ t ∈ ts, t.good) → ts.length + i = 5 → lvs ts = 5 → TreeJ2 i m N'
inductive TreeMid (S : Shared) (g : Heap) (L' : Addr) (s : Shared) : Prop
  | mk (M : Mp) (N' : Led) (ar : Addr) (vr : List Value) (nr : Nat) (t : Tr) : Fm S g L' M N' s → M (Str.ofString "row") = some (.ref ar) → (ar, lstO vr nr) ∈ N' → TreesIn N' vr [t] → t.good → t.leaves = 5 → TreeMid S g L' s
set_option maxHeartbeats 4000000 in
theorem tree_spec {l : Addr} {vs : List Value} {ln : Nat} {ns : List Int} {Q : Value → Shared → Prop} {n : Nat} (G : Gd P h₀) (F : Fm S h₀ L m N s) (R : Rm A (n + 3)) (hl : (l, lstO vs ln) ∈ N) (hi : IntsAre vs ns) (h9 : ns.length = 9) (hb : ∀ x ∈ ns, 0 ≤ x ∧ x < 10 ^ 6)
    (k : ∀ v t N' s', Fm S h₀ L m N' s' → TreeIn N' v t → t.good → t.leaves = 5 → Q v s') : wpAny (model pw w) A (call (.ref 293) [.ref l]) Q E s := by
  have vl := hi.length
  refine in293 G F R fun g L' s₁ G R F kp bk => ?_
  have hE := ek293 L'
  refine wpAny_execs_cons ?_
  refine compAsg (S := S) (h₀ := g) (L := L') R.hd hE (k293_row L') (cl := []) (TreeJ1 l vs ln) (vs.take 5) (by kernel_rfl) ?_
  refine cutL (nL hE F (k293_cells L') rfl (pAll _ (pSome _ (cI F fun u s F => ?_))))
  refine ⟨_, _, _, _, _, _, _, _, none, some 5, rfl, F, hl, .none, .int _ _, by show _ ≤ 2 ^ 24; omega, fun a s hf F => ?_⟩
  rw [show (some (5 : Int)) = some ((5 : Nat) : Int) from rfl, slicePick_upto'] at F
  change Fm S g L' _ ((a, lstO (vs.take 5)) :: N) _ at F
  refine ⟨a, 0, _, _, rfl, F, .head _, by rw [List.length_take]; show _ ≤ 2 ^ 24; omega, ⟨.tail _ hl, [], .nil, fun t h => (by cases h), rfl, rfl⟩, ?_, ?_⟩
  · rintro g' C I D i v m N' s o ys dn stay hv ⟨hll, ts, h1, h2, h3, h4⟩ hle hl' hNI hND hDI ho Fi
    obtain ⟨x, tx, rfl, hx⟩ := (hi.take 5).at i v hv
    obtain ⟨b1, b2⟩ := hb x (List.mem_of_mem_take (List.mem_of_getElem? hx))
    obtain ⟨c, rfl⟩ : ∃ c : Nat, x = c := ⟨x.toNat, by omega⟩
    refine wpAny_assign_Name (st ⟨by kernel_rfl, rfl, rfl, rfl⟩ Fi (by kernel_rfl) fun s F => ?_)
    refine tests0 ?_
    rw [if_pos rfl]
    refine Tuple_ (args2 (wpAny_BinOp (wpAny_BinOp (nL ⟨by kernel_rfl, rfl, rfl, rfl⟩ F (by kernel_rfl) (up_same _ _ _) (cI F fun t1 s F => modNat (b := 201) F (by omega) fun t1 s F => cI F fun t2 s F => PyProof.Rows.sub_int ?_)))))
    generalize s.toks = tq
    have F := F.tk (tq + 1)
    refine pickR F (fun s F Q' q => wpAny_BinOp (wpAny_BinOp (nL ⟨by kernel_rfl, rfl, rfl, rfl⟩ F (by kernel_rfl) (up_same _ _ _) (cI F fun t1 s F => divNat (b := 201) F (by omega) (by omega) (by omega) fun t1 s F => cI F fun t2 s F => modNat (b := 2) F (by omega) fun t2 s F => q _ (Nat.mod_lt _ (by decide)) _ _ F)))) fun ch tc s hch F => ?_
    refine tupNf F fun b s hfb F => ?_
    refine made (N := (b, tupO [.int (((c % 201 : Nat) : Int) - 100) tq, .str ch tc]) :: N') (F.sub fun p hp => ?_) (.tail _ hl') ?_ ?_ hDI ⟨.tail _ hll, ts ++ [.leaf (((c % 201 : Nat) : Int) - 100) ch], (h1.mono fun p hp => .tail _ hp).append (.cons (.leaf (.head _)) .nil), ?_, ?_, ?_⟩
    · rcases hp with _ | ⟨_, _ | ⟨_, hp⟩⟩
      · exact .tail _ (.head _)
      · exact .tail _ (.tail _ (.head _))
      · rcases List.mem_cons.mp hp with rfl | hp
        · exact .head _
        · exact .tail _ (.tail _ (.tail _ hp))
    · intro p hp
      rcases List.mem_cons.mp hp with rfl | hp
      · exact fun e => hfb _ (.head _) e.symm
      · exact hNI p hp
    · intro p hp
      rcases List.mem_cons.mp hp with rfl | hp
      · exact fun e => hfb _ (.tail _ (.head _)) e.symm
      · exact hND p hp
    · intro t ht
      rcases List.mem_append.mp ht with ht | ht
      · exact h2 t ht
      · rcases ht with _ | ⟨_, ht⟩
        · refine ⟨?_, hch⟩
          have := Nat.mod_lt c (show 201 > 0 by decide)
          omega
        · cases ht
    · rw [List.length_append, h3]; rfl
    · rw [lvs_app, h4]; rfl
  · rintro D N' s ys dn ⟨hll, ts, h1, h2, h3, h4⟩ hND F
    rw [up_lk] at F
    have t5 : (vs.take 5).length = 5 := by rw [List.length_take]; omega
    rw [t5] at h3 h4
    refine wpAny_execs_cons ?_
    refine wpAny_mono (E := noE) (Q := fun fl s => fl = .next ∧ TreeMid S g L' s) ?_ (fun fl s hy => ?_) (fun _ _ z => z.elim)
    · refine forL (S := S) (h₀ := g) (L := L') R.hd TreeJ2 (vs.drop 5) ?_
      refine cutL (nL hE F (k293_cells L') rfl (pSome _ (cI F fun u s F => pAll _ ?_)))
      refine ⟨_, _, _, _, _, _, _, _, some 5, none, rfl, F, .tail _ hll, .int _ _, .none, by show _ ≤ 2 ^ 24; omega, fun a s hf F => ?_⟩
      rw [show (some (5 : Int)) = some ((5 : Nat) : Int) from rfl, slicePick_from'] at F
      change Fm S g L' _ ((a, lstO (vs.drop 5)) :: (D, lstO ys dn) :: N') _ at F
      refine ⟨a, 0, _, _, rfl, F, .head _, ⟨D, ys, dn, ts, rfl, .tail _ (.head _), h1.mono fun p hp => .tail _ (.tail _ hp), h2, h3, h4⟩, fun v hv => .inl fun I => rfl, fun I i v m N' s o hvi hJ hla hNI ho Fi => ?_, fun m N' s hJ F => ?_⟩
      · obtain ⟨ar, vr, nr, ts, j1, j2, j3, j4, j5, j6⟩ := hJ
        have hi4 : i < 4 := by
          have := (List.getElem?_eq_some_iff.mp hvi).1
          rw [List.length_drop] at this; omega
        obtain ⟨x, tx, rfl, hx⟩ := (hi.drop 5).at i v hvi
        obtain ⟨b1, b2⟩ := hb x (List.mem_of_mem_drop (List.mem_of_getElem? hx))
        obtain ⟨c, rfl⟩ : ∃ c : Nat, x = c := ⟨x.toNat, by omega⟩
        have vrl := j3.length
        have hp : c % 12 % (4 - i) < 4 - i := Nat.mod_lt _ (by omega)
        obtain ⟨q1, hq1⟩ : ∃ q1, ts[c % 12 % (4 - i)]? = some q1 := ⟨_, List.getElem?_eq_getElem (show c % 12 % (4 - i) < ts.length by omega)⟩
        obtain ⟨q2, hq2⟩ : ∃ q2, ts[c % 12 % (4 - i) + 1]? = some q2 := ⟨_, List.getElem?_eq_getElem (show c % 12 % (4 - i) + 1 < ts.length by omega)⟩
        have hcut := cut_two hq1 hq2
        obtain ⟨v1, hv1, ht1⟩ := j3.get hq1
        obtain ⟨v2, hv2, ht2⟩ := j3.get hq2
        have m1 := j4 _ (List.mem_of_getElem? hq1)
        have m2 := j4 _ (List.mem_of_getElem? hq2)
        refine wpAny_assign_Name (st hE Fi (k293_cell L') fun s F => ?_)
        refine wpAny_execs_cons ?_
        refine wpAny_Assign_Name ?_
        refine wpAny_BinOp (wpAny_BinOp (nL hE F (k293_cell L') (by repeat (first | with_reducible exact up_same _ _ _ | with_reducible assumption | refine up_skip ?_)) (cI F fun t1 s F => modNat (b := 12) F (by omega) fun t1 s F => ?_)))
        refine wpAny_BinOp (callGb hE G F (k293_len L') b_len bb_len (args1 (nL hE F (k293_row L') (by repeat (first | with_reducible exact up_same _ _ _ | with_reducible assumption | refine up_skip ?_)) ?_)))
        refine lenLst F (.tail _ j2) (by omega) fun t2 s F => cI F fun t3 s F => PyProof.Rows.sub_int ?_
        have F := F.tk (s.toks + 1)
        rw [show ((vr.length : Nat) : Int) - 1 = ((4 - i : Nat) : Int) by omega]
        refine modNat (b := 4 - i) F (by omega) fun t4 s F => ?_
        generalize hpl : c % 12 % (4 - i) = pl at *
        refine st hE F (k293_place L') fun s F => ?_
        refine wpAny_execs_cons ?_
        refine wpAny_Assign_Name ?_
        refine wpAny_BinOp (nL hE F (k293_cell L') (by repeat (first | with_reducible exact up_same _ _ _ | with_reducible assumption | refine up_skip ?_)) (cI F fun t1 s F => divNat (b := 12) F (by omega) (by omega) (by omega) fun t1 s F => ?_))
        have hrb : c / 12 < 2 ^ 60 := Nat.lt_of_le_of_lt (Nat.div_le_self _ _) (by omega)
        generalize c / 12 = rs at *
        refine st hE F (k293_rest L') fun s F => ?_
        refine wpAny_execs_cons ?_
        refine wpAny_Assign_Name ?_
        refine Tuple_ (args5 (wpAny_BinOp (nL hE F (k293_rest L') (by repeat (first | with_reducible exact up_same _ _ _ | with_reducible assumption | refine up_skip ?_)) (cI F fun t1 s F => modNat (b := 4) F (by omega) fun t1 s F => ?_))))
        refine Subscript_ (nL hE F (k293_row L') (by repeat (first | with_reducible exact up_same _ _ _ | with_reducible assumption | refine up_skip ?_)) (nL hE F (k293_place L') (by repeat (first | with_reducible exact up_same _ _ _ | with_reducible assumption | refine up_skip ?_)) ?_))
        refine itLst F (.tail _ j2) (by rw [Int.toNat_natCast]; exact hv1) (by omega) (by omega) ?_
        refine Subscript_ (nL hE F (k293_row L') (by repeat (first | with_reducible exact up_same _ _ _ | with_reducible assumption | refine up_skip ?_)) (wpAny_BinOp (nL hE F (k293_place L') (by repeat (first | with_reducible exact up_same _ _ _ | with_reducible assumption | refine up_skip ?_)) (cI F fun t5 s F => PyProof.Rows.add_int ?_))))
        have F := F.tk (s.toks + 1)
        rw [show ((pl : Int) + 1) = ((pl + 1 : Nat) : Int) by omega]
        refine itLst F (.tail _ j2) (by rw [Int.toNat_natCast]; exact hv2) (by omega) (by omega) ?_
        refine pickR F (fun s F Q' q => wpAny_BinOp (wpAny_BinOp (nL hE F (k293_rest L') (by repeat (first | with_reducible exact up_same _ _ _ | with_reducible assumption | refine up_skip ?_)) (cI F fun t1 s F => divNat (b := 4) F (by omega) (by omega) (by omega) fun t1 s F => cI F fun t2 s F => modNat (b := 2) F (by omega) fun t2 s F => q _ (Nat.mod_lt _ (by decide)) _ _ F)))) fun ch tc s hch F => ?_
        refine wpAny_BinOp (wpAny_BinOp (nL hE F (k293_rest L') (by repeat (first | with_reducible exact up_same _ _ _ | with_reducible assumption | refine up_skip ?_)) (cI F fun t6 s F => divNat (b := 8) F (by omega) (by omega) (by omega) fun t6 s F => cI F fun t7 s F => modNat (b := 6) F (by omega) fun t7 s F => ?_)))
        refine tupNf F fun b s hfb F => ?_
        refine st hE F (k293_joined L') fun s F => ?_
        refine wpAny_execs_cons ?_
        refine wpAny_Assign_Name ?_
        refine wpAny_BinOp (wpAny_BinOp (cutL (nL hE F (k293_row L') (by repeat (first | with_reducible exact up_same _ _ _ | with_reducible assumption | refine up_skip ?_)) (pAll _ (pSome _ (nL hE F (k293_place L') (by repeat (first | with_reducible exact up_same _ _ _ | with_reducible assumption | refine up_skip ?_)) ?_))))))
        refine ⟨_, _, _, _, _, _, _, _, none, some ((pl : Nat) : Int), rfl, F, .tail _ (.tail _ j2), .none, .int _ _, by show _ ≤ 2 ^ 24; omega, fun a1 s hf1 F => ?_⟩
        rw [slicePick_upto'] at F
        change Fm S g L' _ ((a1, lstO (vr.take pl)) :: _) _ at F
        refine List_ (args1 (nL hE F (k293_joined L') (by repeat (first | with_reducible exact up_same _ _ _ | with_reducible assumption | refine up_skip ?_)) ?_))
        refine lstNf F fun a2 s hf2 F => ?_
        refine catLst F (.tail _ (.head _)) (.head _) (by rw [List.length_take]; show _ + 1 ≤ 2 ^ 24; omega) fun a3 s F => ?_
        refine cutL (nL hE F (k293_row L') (by repeat (first | with_reducible exact up_same _ _ _ | with_reducible assumption | refine up_skip ?_)) (pSome _ (wpAny_BinOp (nL hE F (k293_place L') (by repeat (first | with_reducible exact up_same _ _ _ | with_reducible assumption | refine up_skip ?_)) (cI F fun t8 s F => PyProof.Rows.add_int (pAll _ ?_))))))
        have F := F.tk (s.toks + 1)
        refine ⟨_, _, _, _, _, _, _, _, some ((pl : Int) + 2), none, rfl, F, .tail _ (.tail _ (.tail _ (.tail _ (.tail _ j2)))), .int _ _, .none, by show _ ≤ 2 ^ 24; omega, fun a4 s hf4 F => ?_⟩
        rw [show ((pl : Int) + 2) = ((pl + 2 : Nat) : Int) by omega, slicePick_from'] at F
        change Fm S g L' _ ((a4, lstO (vr.drop (pl + 2))) :: _) _ at F
        refine catLst F (.tail _ (.head _)) (.head _) (by rw [List.length_append, List.length_take, List.length_drop]; show _ + 1 + _ ≤ 2 ^ 24; omega) fun a5 s F => ?_
        refine st hE F (k293_row L') fun s F => ?_
        refine wpAny_execs_nil ?_
        generalize hNx : (a5, lstO (vr.take pl ++ [Value.ref b] ++ vr.drop (pl + 2))) :: _ = Nx at F
        have hb5 : (b, tupO [.int ((rs % 4 : Nat) : Int) t1, v1, v2, .str ch tc, .int ((rs / 8 % 6 : Nat) : Int) t7]) ∈ Nx := by rw [← hNx]; exact .tail _ (.tail _ (.tail _ (.tail _ (.tail _ (.head _)))))
        have ha5 : (a5, lstO (vr.take pl ++ [Value.ref b] ++ vr.drop (pl + 2))) ∈ Nx := by rw [← hNx]; exact .head _
        have hIx : (I, o) ∈ Nx := by rw [← hNx]; exact .tail _ (.tail _ (.tail _ (.tail _ (.tail _ (.tail _ (.head _))))))
        have hsx : ∀ p ∈ N', p ∈ Nx := fun p hp => by rw [← hNx]; exact .tail _ (.tail _ (.tail _ (.tail _ (.tail _ (.tail _ (.tail _ hp))))))
        have hsx' : ∀ p ∈ N', p ∈ But Nx I := fun p hp => mem_but (hsx p hp) (hNI p hp)
        have e5 : lvs ts = lvs (ts.take pl) + (q1.leaves + q2.leaves + lvs (ts.drop (pl + 2))) := by
          have := congrArg lvs hcut
          rw [lvs_app] at this
          rw [this]
          show _ + (q1.leaves + (q2.leaves + lvs (ts.drop (pl + 2)))) = _
          omega
        refine ⟨_, Nx, F, hIx, hsx _ hla, a5, _, _, (ts.take pl ++ [.node (rs % 4) q1 q2 ch (rs / 8 % 6)]) ++ ts.drop (pl + 2), up_same _ _ _, mem_but ha5 (F.apart ha5 hIx (by rw [ho]; show Value.type "list" ≠ Value.type "list_iterator"; decide +kernel)), ?_, ?_, ?_, ?_⟩
        · refine TreesIn.append (TreesIn.append ((j3.take pl).mono hsx') (.cons (.node (mem_but hb5 fun e => hfb _ (.head _) e.symm) (ht1.mono hsx') (ht2.mono hsx')) .nil)) ((j3.drop (pl + 2)).mono hsx')
        · intro t ht
          rcases List.mem_append.mp ht with ht | ht
          · rcases List.mem_append.mp ht with ht | ht
            · exact j4 t (List.mem_of_mem_take ht)
            · rcases ht with _ | ⟨_, ht⟩
              · exact ⟨Nat.mod_lt _ (by decide), Nat.mod_lt _ (by decide), m1, m2, hch⟩
              · cases ht
          · exact j4 t (List.mem_of_mem_drop ht)
        · rw [List.length_append, List.length_append, List.length_take, List.length_drop]
          show min pl ts.length + 1 + (ts.length - (pl + 2)) + (i + 1) = 5
          omega
        · rw [lvs_app, lvs_app, ← j6, e5]
          show lvs (ts.take pl) + (q1.leaves + q2.leaves + 0) + lvs (ts.drop (pl + 2)) = _
          omega
      · obtain ⟨ar, vr, nr, ts, j1, j2, j3, j4, j5, j6⟩ := hJ
        rw [List.length_drop] at j5
        match ts, j3, j4, j5, j6 with
        | [t], j3, j4, _, j6 => exact ⟨rfl, m, N', ar, vr, nr, t, F, j1, j2, j3, j4 t (.head _), by simpa [lvs] using j6⟩
        | [], _, _, j5, _ => simp at j5; omega
        | _ :: _ :: _, _, _, j5, _ => simp at j5; omega
    · obtain ⟨rfl, M, N', ar, vr, nr, t, F, j1, j2, j3, j4, j5⟩ := hy
      refine wpAny_execs_cons ?_
      refine wpAny_Return_some ?_
      obtain ⟨v, hv, ht⟩ := j3.get (i := 0) rfl
      refine subC (nL hE F (k293_row L') j1 fun t8 => itLst (F.tk _) j2 hv (by decide) (by decide) ?_)
      exact k v t _ _ (bk _ _ _ (F.tk _)) ht j4 j5
end
end Mine
end
section
open PySem PySem.W PyProof.Rows PySem.Calls PySem.Spec PySem.SeqAt
set_option Elab.async false
set_option maxRecDepth 100000
namespace Mine
/-- the form of a tree alone -/
inductive Sh where
  | l
  | n (a b : Sh)
namespace Sh
noncomputable def leaves : Sh → Nat
  | l => 1
  | n a b => a.leaves + b.leaves
noncomputable def need : Sh → Nat
  | l => 1
  | n a b => if a.need = b.need then a.need + 1 else max a.need b.need
noncomputable def masks : Sh → Nat → List Int
  | l, _ => []
  | n a b, s => (a.masks s ++ b.masks (s + a.leaves)) ++ [2 ^ (s + a.leaves + b.leaves) - 2 ^ s]
noncomputable def all : Nat → Nat → List Sh
  | 0, _ => []
  | f + 1, k => if k = 1 then [l] else (List.range k).flatMap fun i => (all f i).flatMap fun a => (all f (k - i)).map (n a)
theorem pos : ∀ s : Sh, 1 ≤ s.leaves
  | l => Nat.le_refl _
  | n a b => by have := pos a; show 1 ≤ a.leaves + b.leaves; omega
theorem mem_all : ∀ (s : Sh) (f : Nat), s.leaves ≤ f → s ∈ all f s.leaves := by
  intro s
  induction s with
  | l =>
    intro f h
    cases f with
    | zero => cases h
    | succ f => exact .head _
  | n a b iha ihb =>
    intro f h
    have pa := pos a
    have pb := pos b
    have h' : a.leaves + b.leaves ≤ f := h
    cases f with
    | zero => omega
    | succ f =>
      unfold all
      rw [if_neg (by show ¬ (a.leaves + b.leaves = 1); omega)]
      refine List.mem_flatMap.mpr ⟨a.leaves, List.mem_range.mpr (by show a.leaves < a.leaves + b.leaves; omega), ?_⟩
      refine List.mem_flatMap.mpr ⟨a, iha f (by omega), ?_⟩
      refine List.mem_map.mpr ⟨b, ?_, rfl⟩
      have := ihb f (by omega)
      rwa [show (Sh.n a b).leaves - a.leaves = b.leaves by show a.leaves + b.leaves - a.leaves = b.leaves; omega]
end Sh
noncomputable def Tr.shape : Tr → Sh
  | .leaf _ _ => .l
  | .node _ l r _ _ => .n l.shape r.shape
theorem shape_leaves : ∀ t : Tr, t.shape.leaves = t.leaves := by
  intro t
  induction t with
  | leaf v c => rfl
  | node op l r c way ihl ihr => show l.shape.leaves + r.shape.leaves = l.leaves + r.leaves; rw [ihl, ihr]
theorem shape_need : ∀ t : Tr, t.shape.need = t.need := by
  intro t
  induction t with
  | leaf v c => rfl
  | node op l r c way ihl ihr =>
    show (if l.shape.need = r.shape.need then l.shape.need + 1 else max l.shape.need r.shape.need) = (if l.need = r.need then l.need + 1 else max l.need r.need)
    rw [ihl, ihr]
theorem shape_masks : ∀ (t : Tr) (s : Nat), t.shape.masks s = t.masks s := by
  intro t
  induction t with
  | leaf v c => intro s; rfl
  | node op l r c way ihl ihr =>
    intro s
    show (l.shape.masks s ++ r.shape.masks (s + l.shape.leaves)) ++ [2 ^ (s + l.shape.leaves + r.shape.leaves) - 2 ^ s] = (l.masks s ++ r.masks (s + l.leaves)) ++ [2 ^ (s + l.leaves + r.leaves) - 2 ^ s]
    rw [ihl, ihr, shape_leaves, shape_leaves]
theorem few_all : ∀ s ∈ Sh.all 5 5, fewF (s.masks 0) = (s.need : Int) := by decide +kernel
theorem few_need {t : Tr} (h : t.leaves = 5) : fewF (t.masks 0) = (t.need : Int) := by
  have := few_all t.shape (by have := Sh.mem_all t.shape 5 (by rw [shape_leaves, h]; decide); rwa [shape_leaves, h] at this)
  rwa [shape_masks, shape_need] at this
theorem high_le : ∀ t : Tr, t.high ≤ t.leaves := by
  intro t
  induction t with
  | leaf v c => exact Nat.le_refl _
  | node op l r c way ihl ihr =>
    have := leaves_pos l
    have := leaves_pos r
    show max l.high r.high + 1 ≤ l.leaves + r.leaves
    omega
theorem nodes_is : ∀ t : Tr, t.nodes + 1 = 2 * t.leaves := by
  intro t
  induction t with
  | leaf v c => rfl
  | node op l r c way ihl ihr => show l.nodes + r.nodes + 1 + 1 = 2 * (l.leaves + r.leaves); omega
theorem need_le : ∀ t : Tr, t.need ≤ t.leaves := by
  intro t
  induction t with
  | leaf v c => exact Nat.le_refl _
  | node op l r c way ihl ihr =>
    have := leaves_pos l
    have := leaves_pos r
    show (if l.need = r.need then l.need + 1 else max l.need r.need) ≤ l.leaves + r.leaves
    split <;> omega
theorem rows_last : ∀ (t : Tr) (d : Nat), ∃ rs v, t.rows d = rs ++ [(dots d ++ t.letter, v)] := by
  intro t
  induction t with
  | leaf v c => intro d; exact ⟨[], _, rfl⟩
  | node op l r c way ihl ihr => intro d; exact ⟨_, _, rfl⟩
end Mine
end
section
open PySem PySem.W PyProof.Rows PySem.Calls PySem.Spec PySem.SeqAt
set_option Elab.async false
set_option maxRecDepth 100000
namespace Mine
section
variable {w : World} {A : Around} {E : Value → Shared → Prop} {S : Shared} {h₀ : Heap} {L : Addr} {m : Mp} {N : Led} {s : Shared} {env : Env} {prog : Program} {P : Params}
/-- the entry into a def with cells from a caller without a frame of ours -/
theorem r_callC0 {f c : Addr} {fd : FuncData} {oc od osl} {body : List Stmt} {args : Args} {binds : List (Str × Value)} {Q : Value → Shared → Prop} {n : Nat}
    (G : Gd P s.heap) (R : Rm A n) (ho : (KF P).lookup f = some ⟨oc, od, .func fd, osl⟩) (hc : (c, fd.qualname) ∈ KC) (hcd : fd.code = .ref c) (hb : fd.body = .stmts body) (hcl : fd.closure = [])
    (hbind : ∀ s : Shared, (KF P).In s.heap → BindsTo s fd args binds)
    (hkind : ∀ n, ∀ x ∈ binds, fd.scope.names.lookup x.1 = some .local ∨ (fd.scope.names.lookup x.1 = some .cell ∧ ((cellsFrom n fd.scope.names []).lookup x.1).isSome = true))
    (hnd : ((cellsFrom 0 fd.scope.names []).map (·.1)).Nodup)
    (k : ∀ L' s₁ cells, Fm s s.heap L' (bindL (callEnvC fd L' f).kindOf binds fun _ => none) cells s₁ → CellsAre (bindC (callEnvC fd L' f).kindOf binds fun _ => none) (cellsFrom (L' + 1) fd.scope.names []) cells →
      wpAny (model pw w) (A.deeper (callEnvC fd L' f)) (execs body (callEnvC fd L' f)) (fun fl s' => Q (retv fl) s') (fun _ _ => False) s₁)
    (hco : fd.scope.isCoroutine = false := by kernel_rfl) (hgen : fd.scope.isGenerator = false := by kernel_rfl) (hk : fd.scope.kind = .function := by kernel_rfl) :
    wpAny (model pw w) A (call (.ref f) args.pos args.kw) Q E s := by
  refine wpAny_call (codeAny_call_function R.lim (G.X _ _ ho) rfl hco hgen hb (hcd ▸ G.codes _ hc) (hbind s G.X _ _ _ _ ?_))
  rw [hcl]
  refine wpAny_newFunctionEnv_cells hk (hkind _) fun env' he s' x => ?_
  subst he
  refine ⟨G.nolimit.keeps x.toInCall.keep, codeAny_func ?_⟩
  obtain ⟨h₁, tk, rfl⟩ := x.toInCall.same
  have hk₁ := x.toInCall.keep
  obtain ⟨cells, NC, Y⟩ := Cl.news (h₀ := s.heap) (Nat.le_refl _) fun n c hm => ⟨x.cell n c (lookup_of_mem_nodup (cellsFrom_names fd.scope.names 0 (s.heap.objs.size + 1) [] [] rfl ▸ hnd) hm), x.above n c hm⟩
  refine wpAny_mono (k s.heap.objs.size _ cells ⟨⟨x.toInCall.ns, hk₁, Nat.le_refl _⟩, NC, rfl, rfl⟩ Y) (fun fl s' q => ?_) fun _ _ y => y.elim
  unfold retv at q; exact q
theorem itNeg {l : Addr} {vs : List Value} {ln : Nat} {k : Int} {u : Tok} {v : Value} {value slice : Expr} {Q : Value → Shared → Prop} (F : Fm S h₀ L m N s) (h : (l, lstO vs ln) ∈ N) (h0 : k < 0) (h1 : -(vs.length : Int) ≤ k) (h2 : -(2 ^ 63) ≤ k) (hv : vs[(k + vs.length).toNat]? = some v) (q : Q v s)
    (hs : subscripted slice false (.ref l) (.int k u) = operate [.ref l, .int k u] (getItem (.ref l) (.int k u)) := by with_unfolding_all rfl) :
    wpAny (model prog w) A (subscriptTail value slice (.ref l) (.int k u)) Q E s :=
  tail_any (isLst F h).typeIs PySem.list_getitem_lookup (wpAny_getItem_list_neg (isLst F h) h0 (by rw [List.size_toArray]; exact h1) h2 (by rw [List.size_toArray]; simpa using hv) q) hs
end
noncomputable abbrev EC369 (L : Addr) : Env := callEnvC fd369 L 369
theorem ecOk369 (L : Addr) : EnvOk (EC369 L) L := ⟨by kernel_rfl, rfl, rfl, rfl⟩
theorem cells369 (n : Nat) : cellsFrom n fd369.scope.names [] = [(Str.ofString "base", n + 1), (Str.ofString "script", n)] := by kernel_rfl
theorem lkB (L : Addr) : (EC369 L).cells.lookup (Str.ofString "base") = some (L + 2) := by
  show List.lookup _ (cellsFrom (L + 1) fd369.scope.names []) = _
  rw [cells369]; rfl
theorem lkS (L : Addr) : (EC369 L).cells.lookup (Str.ofString "script") = some (L + 1) := by
  show List.lookup _ (cellsFrom (L + 1) fd369.scope.names []) = _
  rw [cells369]; rfl
theorem bind369 (v0 : Value) : bindArgs fd369 ⟨[v0], []⟩ = pure [(Str.ofString "script", v0)] := by kernel_rfl
theorem kinds369 (v0 : Value) : ∀ n, ∀ x ∈ [(Str.ofString "script", v0)], fd369.scope.names.lookup x.1 = some .local ∨ (fd369.scope.names.lookup x.1 = some .cell ∧ ((cellsFrom n fd369.scope.names []).lookup x.1).isSome = true) := by
  intro n x hx
  rcases hx with _ | ⟨_, hx⟩
  · exact .inr ⟨by show fd369.scope.names.lookup (Str.ofString "script") = _; kernel_rfl, by show ((cellsFrom n fd369.scope.names []).lookup (Str.ofString "script")).isSome = true; kernel_rfl⟩
  · cases hx
theorem cellsAt2 {cm : Mp} {n1 n2 : Str} {c1 c2 : Addr} {cells : Led} (h : CellsAre cm [(n1, c1), (n2, c2)] cells) : CellIn cells c1 (cm n1) ∧ CellIn cells c2 (cm n2) := by
  cases h with
  | cons h1 h => cases h with
    | cons h2 h => exact ⟨⟨_, .head _, h1⟩, ⟨_, .tail _ (.head _), h2⟩⟩
section
variable {A : Around} {E : Value → Shared → Prop} {s : Shared} {env : Env}
theorem args9 {M : Model} {e1 e2 e3 e4 e5 e6 e7 e8 e9 : Expr} {pos : Pos} {Q : List Value → Shared → Prop}
    (h : wpAny M A (eval e1 env) (fun v1 s₁ => wpAny M A (eval e2 env) (fun v2 s₂ => wpAny M A (eval e3 env) (fun v3 s₃ => wpAny M A (eval e4 env) (fun v4 s₄ => wpAny M A (eval e5 env) (fun v5 s₅ => wpAny M A (eval e6 env) (fun v6 s₆ => wpAny M A (eval e7 env) (fun v7 s₇ => wpAny M A (eval e8 env) (fun v8 s₈ => wpAny M A (eval e9 env) (fun v9 s₉ => Q [v1, v2, v3, v4, v5, v6, v7, v8, v9] s₉) E s₈) E s₇) E s₆) E s₅) E s₄) E s₃) E s₂) E s₁) E s)
    (he : starEach [e1, e2, e3, e4, e5, e6, e7, e8, e9] env = [(false, eval e1 env), (false, eval e2 env), (false, eval e3 env), (false, eval e4 env), (false, eval e5 env), (false, eval e6 env), (false, eval e7 env), (false, eval e8 env), (false, eval e9 env)] := by rfl) : wpAny M A (spliced (backTo pos (starEach [e1, e2, e3, e4, e5, e6, e7, e8, e9] env))) Q E s := by
  rw [he]
  exact spliced_cons (wpAny_mono h (fun _ _ h => spliced_cons (wpAny_mono h (fun _ _ h => spliced_cons (wpAny_mono h (fun _ _ h => spliced_cons (wpAny_mono h (fun _ _ h => spliced_cons (wpAny_mono h (fun _ _ h => spliced_cons (wpAny_mono h (fun _ _ h => spliced_cons (wpAny_mono h (fun _ _ h => spliced_cons (wpAny_mono h (fun _ _ h => spliced_cons (wpAny_mono h (fun _ _ h => spliced_nil h) fun _ _ x => x)) fun _ _ x => x)) fun _ _ x => x)) fun _ _ x => x)) fun _ _ x => x)) fun _ _ x => x)) fun _ _ x => x)) fun _ _ x => x)) fun _ _ x => x)
end
theorem rm_caller : Rm callerA 40 := ⟨by decide, by decide, rfl⟩
set_option maxHeartbeats 4000000 in
theorem law_runs : LawRuns := by
  intro w s₁ G hge l vs ns hl hi h63 _
  refine r_callC0 (args := ⟨[.ref l], []⟩) (body := bodyD (top 39)) G rm_caller (ho369 _) hc369 rfl rfl rfl (fun s h => BindsTo.of_eq (bind369 _)) (kinds369 _) (by decide +kernel) fun L' s cells F Y => ?_
  have hE := ecOk369 L'
  have R := rm_caller.deeper (EC369 L')
  rw [cells369] at Y
  obtain ⟨CB, CS⟩ := cellsAt2 Y
  have hscr : bindC (EC369 L').kindOf [(Str.ofString "script", .ref l)] (fun _ => none) (Str.ofString "script") = some (.ref l) := by kernel_rfl
  rw [hscr] at CS
  change wpAny _ (callerA.deeper (EC369 L')) (execs _ (EC369 L')) _ _ _
  generalize bindL (EC369 L').kindOf [(Str.ofString "script", Value.ref l)] (fun _ => none) = mL at F
  refine wpAny_execs_cons ?_
  refine wpAny_Assign_Name ?_
  refine List_ (args9 ?_)
  refine cI F fun u1 s F => cI F fun u2 s F => cI F fun u3 s F => cI F fun u4 s F => cI F fun u5 s F => cI F fun u6 s F => cI F fun u7 s F => cI F fun u8 s F => cI F fun u9 s F => ?_
  refine lstN F fun ab s F => ?_
  generalize hbl : [Value.int 107 u1, Value.int 296 u2, Value.int 112 u3, Value.int 298 u4, Value.int 110 u5, Value.int 181 u6, Value.int 506 u7, Value.int 241 u8, Value.int 396 u9] = bl at F
  have hbi : IntsAre bl [107, 296, 112, 298, 110, 181, 506, 241, 396] := by
    rw [← hbl]; exact .cons _ _ (.cons _ _ (.cons _ _ (.cons _ _ (.cons _ _ (.cons _ _ (.cons _ _ (.cons _ _ (.cons _ _ .nil))))))))
  clear hbl
  have hab := F.notCell (.head _) (CB.mono fun p hp => List.mem_cons_of_mem (ab, lstO bl) hp)
  refine stC hE F (k369_base L') (lkB L') (CB.mono fun p hp => .tail _ hp) fun oB s hoB F => ?_
  have xB := F.nw _ (.head _)
  have CS2 : CellIn ((L' + 1 + 1, oB) :: But ((ab, lstO bl) :: cells) (L' + 1 + 1)) (L' + 1) (some (.ref l)) := ((CS.mono fun p hp => List.mem_cons_of_mem (ab, lstO bl) hp).but (n12 L')).mono fun p hp => .tail _ hp
  have CB2 : CellIn ((L' + 1 + 1, oB) :: But ((ab, lstO bl) :: cells) (L' + 1 + 1)) (L' + 2) (some (.ref ab)) := ⟨oB, .head _, hoB⟩
  have hab2 : (ab, lstO bl) ∈ (L' + 1 + 1, oB) :: But ((ab, lstO bl) :: cells) (L' + 1 + 1) := .tail _ (mem_but (.head _) hab)
  generalize (L' + 1 + 1, oB) :: But ((ab, lstO bl) :: cells) (L' + 1 + 1) = N₁ at F CS2 CB2 hab2
  clear xB CB CS
  refine wpAny_execs_cons ?_
  refine wpAny_Assign_Name ?_
  refine callG hE G F (k369_law_tree L') g_law_tree (ho293 w.params) (args1 ?_)
  refine compLR (S := s₁) (h₀ := s₁.heap) (L := L') R.hd (cl := [(Str.ofString "script", L' + 1), (Str.ofString "base", L' + 2)]) (fun i N' ys => (∀ p ∈ N₁, p ∈ N') ∧ ∃ ms, IntsAre ys ms ∧ ms.length = i ∧ ∀ x ∈ ms, 0 ≤ x ∧ x < 10 ^ 6) 0 9 9 (by decide) (by decide) (by decide +kernel) ?_ (by kernel_rfl)
  refine callGt hE G F (k369_range L') b_range bb_range (args1 (cI F fun t5 s F => range1 F fun r t6 u6 s hf F => ?_))
  refine ⟨r, _, _, _, _, _, rfl, F, .head _, ⟨fun p hp => .tail _ hp, [], .nil, rfl, fun x h => (by cases h)⟩, ?_, ?_⟩
  · rintro g' C I D j t9 m2 N'' s ys dn stay hj ⟨hsu, ms, hys, hml, hmb⟩ hle hNI hND hDI Fi
    have e0 : (0 : Int) + (j : Int) = (j : Int) := by omega
    rw [e0] at Fi ⊢
    refine wpAny_assign_Name (st ⟨by kernel_rfl, rfl, rfl, rfl⟩ Fi (by kernel_rfl) fun s F => ?_)
    refine tests0 ?_
    rw [if_pos rfl]
    obtain ⟨b, hb⟩ : ∃ b, ([107, 296, 112, 298, 110, 181, 506, 241, 396] : List Int)[j]? = some b := ⟨_, List.getElem?_eq_getElem (show j < 9 by omega)⟩
    obtain ⟨tb, htb⟩ := hbi.get j b hb
    refine wpAny_BinOp (wpAny_BinOp (Subscript_ (nC ⟨by kernel_rfl, rfl, rfl, rfl⟩ F (by kernel_rfl) (show List.lookup (Str.ofString "base") [(Str.ofString "script", L' + 1), (Str.ofString "base", L' + 2)] = some (L' + 2) from rfl) (CB2.mono fun p hp => .tail _ (.tail _ (hsu p hp))) (nL ⟨by kernel_rfl, rfl, rfl, rfl⟩ F (by kernel_rfl) (up_same _ _ _) ?_))))
    refine itLst F (.tail _ (.tail _ (hsu _ hab2))) (by rw [Int.toNat_natCast]; exact htb) (by omega) (by omega) ?_
    refine callGb ⟨by kernel_rfl, rfl, rfl, rfl⟩ (G.keeps stay) F (by kernel_rfl) b_sum bb_sum (args1 ?_)
    refine Subscript_ (nC ⟨by kernel_rfl, rfl, rfl, rfl⟩ F (by kernel_rfl) (show List.lookup (Str.ofString "script") [(Str.ofString "script", L' + 1), (Str.ofString "base", L' + 2)] = some (L' + 1) from rfl) (CS2.mono fun p hp => .tail _ (.tail _ (hsu p hp))) (wpAny_Slice ?_))
    refine pSome _ (nL ⟨by kernel_rfl, rfl, rfl, rfl⟩ F (by kernel_rfl) (up_same _ _ _) ?_)
    refine pAll _ (pSome _ (cI F fun t7 s F => ?_))
    have hl2 : s.heap.IsList l vs.toArray := by
      obtain ⟨o, ho, hc, n, hd⟩ := hl
      exact ⟨o, F.fr.keep _ _ (stay _ _ ho), hc, n, hd⟩
    refine kmk_slice3_lit F.fr F.nw hl2 (.int _ _) .none (.int _ _) (by decide) rfl (fun D2 h' Fr' N' hlt => ?_) (by with_unfolding_all rfl) (by intro _; with_unfolding_all rfl) (by rw [List.size_toArray, hi.length]; exact Nat.le_trans h63 (by decide +kernel))
    have F : Fm s₁ g' C _ _ { s with heap := h' } := ⟨Fr', N', F.ge, F.os⟩
    refine sumOf R.hd F (.head _) (hi.pick _ _ _) fun t8 s F => PyProof.Rows.add_int ?_
    have F := F.tk (s.toks + 1)
    refine wpAny_BinOp (cI F fun t8 s F => cI F fun t9 s F => PyProof.Rows.pow_int (by decide) (by decide) ?_)
    have F := F.tk (s.toks + 1)
    refine PyProof.Rows.mod_int (by decide) ?_
    have F := F.tk (s.toks + 1 + 1)
    refine madeR (F.sub fun p hp => .tail _ hp) hNI hND hDI ⟨hsu, ms ++ [_], IntsAre.append hys (.cons _ _ .nil), by rw [List.length_append, hml]; rfl, fun x hx => ?_⟩
    rcases List.mem_append.mp hx with hx | hx
    · exact hmb x hx
    · rcases hx with _ | ⟨_, hx⟩
      · have e6 : ((10 : Int) ^ (6 : Int).toNat) = 1000000 := by decide
        rw [e6]
        rw [Int.fmod_eq_emod_of_nonneg _ (by decide)]
        exact ⟨Int.emod_nonneg _ (by decide), Int.emod_lt_of_pos _ (by decide)⟩
      · cases hx
  rintro D N' s ys dn ⟨hsu, ms, hys, hml, hmb⟩ hND F
  refine ⟨F.fr.keep, tree_spec (n := 30) G F (R.le (by omega)) (.head _) hys hml hmb fun v t N₂ s F hT hg hlv => ?_⟩
  have hh : t.high ≤ 5 := Nat.le_trans (high_le t) (by omega)
  have hn : t.nodes ≤ 9 := by have := nodes_is t; omega
  have hneed : t.need ≤ 5 := Nat.le_trans (need_le t) (by omega)
  obtain ⟨op, lt, rt, ch, way, rfl⟩ : ∃ op l r c way, t = .node op l r c way := by
    cases t with
    | leaf v c => cases hlv
    | node op l r c way => exact ⟨op, l, r, c, way, rfl⟩
  have hT0 := hT
  obtain ⟨ta, v1, v2, k1, k2, k3, rfl, hm⟩ : ∃ ta v1 v2 k1 k2 k3, v = .ref ta ∧ (ta, tupO [.int (op : Int) k1, v1, v2, .str ch k2, .int (way : Int) k3]) ∈ N₂ := by
    cases hT with
    | node hm _ _ => exact ⟨_, _, _, _, _, _, rfl, hm⟩
  generalize ht : Tr.node op lt rt ch way = t at *
  have hway : way < 6 := by rw [← ht] at hg; exact hg.2.1
  refine st hE F (k369_tree L') fun s F => ?_
  refine wpAny_execs_cons ?_
  refine wpAny_Assign_Name ?_
  refine callG hE G F (k369_law_sent L') g_law_sent (ho312 w.params) (args2 (callG hE G F (k369_law_program L') g_law_program (ho319 w.params) (args1 (nL hE F (k369_tree L') (by repeat (first | with_reducible exact up_same _ _ _ | refine up_skip ?_)) ?_))))
  refine ⟨F.fr.keep, prog_spec t _ _ _ _ _ _ _ _ _ _ G F (R.le (by omega)) hT0 hg (by omega) (by omega) fun xp lp vsp lnp N₃ s F s3 Hp hlp hrp => ?_⟩
  refine wpAny_BinOp (wpAny_BinOp (subC (nL hE F (k369_tree L') (by repeat (first | with_reducible exact up_same _ _ _ | refine up_skip ?_)) fun t8 => itTup (F.tk _) (s3 _ hm) rfl (cI (F.tk _) fun t9 s F => PyProof.Rows.add_int ?_))))
  have F := F.tk (s.toks + 1)
  rw [show ((way : Int) + 1) = ((way + 1 : Nat) : Int) by omega]
  refine cI F fun t9 s F => modNat (b := 6) F (by omega) fun t9 s F => ?_
  refine ⟨F.fr.keep, sent_spec (n := 20) rfl G F (R.le (by omega)) Hp hlp hrp (sends_rows t 1 hg (by decide) (by omega)) (by rw [rows_len]; omega) (Nat.mod_lt _ (by decide)) fun ah vsh lnh N₄ s F s4 hah hrh => ?_⟩
  rw [rows_up] at hrh
  refine st hE F (k369_higher L') fun s F => ?_
  refine wpAny_execs_cons ?_
  refine wpAny_Assign_Name ?_
  refine callG hE G F (k369_law_rows L') g_law_rows (ho326 w.params) (args2 (nL hE F (k369_tree L') (by repeat (first | with_reducible exact up_same _ _ _ | refine up_skip ?_)) (cI F fun t9 s F => ?_)))
  refine ⟨F.fr.keep, rows_spec t 2 G F (R.le (by omega)) ((hT0.mono s3).mono s4) hg.small (by omega) (by omega) fun ad vsd N₅ s F s5 had hrd => ?_⟩
  refine st hE F (k369_due L') fun s F => ?_
  have hah5 := s5 _ hah
  have hrh5 := hrh.mono s5
  have hT5 := ((hT0.mono s3).mono s4).mono s5
  refine wpAny_execs_cons ?_
  refine wpAny_If ?_
  refine isTrue_or ?_
  refine wpAny_isTrue_Compare1 (nL hE F (k369_higher L') (by repeat (first | with_reducible exact up_same _ _ _ | refine up_skip ?_)) (nL hE F (k369_due L') (by repeat (first | with_reducible exact up_same _ _ _ | refine up_skip ?_)) ?_))
  refine neRows F (R.in1 (n := 38)).line hah5 had hrh5 hrd ?_
  refine wpAny_truthy_bool ?_
  rw [if_neg Bool.false_ne_true]
  refine isTrue_or ?_
  refine wpAny_isTrue_Not ?_
  refine wpAny_isTrue_value ?_
  refine callG hE G F (k369_law_of_many L') g_law_of_many (ho345 w.params) (args1 (nL hE F (k369_due L') (by repeat (first | with_reducible exact up_same _ _ _ | refine up_skip ?_)) ?_))
  refine ⟨F.fr.keep, many_spec (n := 20) G F (R.le (by omega)) hg (by omega) (by omega) had hrd fun N₆ s F s6 => ?_⟩
  refine wpAny_truthy_bool ?_
  rw [show (!true) = false from rfl, if_neg Bool.false_ne_true]
  refine isTrue_or_nil ?_
  rw [if_neg Bool.false_ne_true]
  refine wpAny_execs_nil ?_
  refine wpAny_execs_cons ?_
  obtain ⟨σ, q0, q1, q2⟩ := (run_ok t 2 [] 0 hg (by omega) (fun g hg => by cases hg) (by show 0 + _ ≤ _; omega) (by omega) (by decide)).seq
  have cl : (t.code 2).length = t.nodes := by rw [← List.length_map (f := Ins.row), code_rows, rows_len]
  refine asgT2E R.hd hE (k369_held L') (k369_most L') ?_
  refine callG hE G F (k369_law_run L') g_law_run (ho340 w.params) (args1 (evHd1 rfl hE G F (k369_Headers L') (nL hE F (k369_higher L') (by repeat (first | with_reducible exact up_same _ _ _ | refine up_skip ?_)) ?_)))
  refine ⟨F.fr.keep, init_spec (v := some (.ref ah)) (n := 20) rfl G F (R.le (by omega)) (.inr ⟨rfl, s6 _ hah5, hrh5.mono s6⟩) (fun r hr => sends_ok (sends_rows t 2 hg (by decide) (by omega) r hr)) fun xh l' N₇ s F s7 Hh _ hl' _ _ => ?_⟩
  rw [hl' ah rfl] at Hh
  refine ⟨F.fr.keep, run_spec (code := t.code 2) (σ := σ) (n := 20) G F (R.le (by omega)) Hh (s7 _ (s6 _ hah5)) (by rw [code_rows]; exact (hrh5.mono s6).mono s7) (by omega) q0 q2 fun ar br tk vsr N₈ s F s8 har hbr hrr => ?_⟩
  rw [q1] at har hrr
  refine ⟨_, _, _, _, _, _, _, rfl, F, har, fun s F => ?_⟩
  have had8 := s8 _ (s7 _ (s6 _ had))
  have hrd8 := ((hrd.mono s6).mono s7).mono s8
  have hT8 := ((hT5.mono s6).mono s7).mono s8
  refine wpAny_execs_cons ?_
  refine wpAny_Return_some ?_
  refine BoolOp_and (wpAny_Compare1 (nL hE F (k369_held L') (by repeat (first | with_reducible exact up_same _ _ _ | refine up_skip ?_)) ?_))
  refine List_ (args1 (Tuple_ (args2 (subC ?_))))
  refine Subscript_ (nL hE F (k369_due L') (by repeat (first | with_reducible exact up_same _ _ _ | refine up_skip ?_)) (wpAny_UnaryOp (cI F fun u s F => PyProof.Rows.neg_int ?_)))
  obtain ⟨rs, lv, hlast⟩ := rows_last t 2
  have vdl := hrd8.length
  rw [hlast, List.length_append] at vdl
  have vdl' : vsd.length = rs.length + 1 := vdl
  obtain ⟨pv, hpv⟩ : ∃ pv, vsd[rs.length]? = some pv := ⟨_, List.getElem?_eq_getElem (show rs.length < vsd.length by omega)⟩
  obtain ⟨pb, pn, px, pt, pu, rfl, hp2, hp3⟩ := hrd8.get hpv
  have hpn : pn = dots 2 ++ t.letter := by
    rw [hlast, List.getElem?_append_right (Nat.le_refl _), Nat.sub_self] at hp2
    exact (Prod.mk.inj (Option.some.inj hp2)).1.symm
  refine itNeg (F.tk _) had8 (by decide) (by omega) (by decide) (by rw [show (-1 + (vsd.length : Int)).toNat = rs.length by omega]; exact hpv) fun t9 => ?_
  refine itTup ((F.tk _).tk _) hp3 rfl ?_
  have F := (F.tk (s.toks + 1)).tk (s.toks + 1 + 1)
  refine callGt hE G F (k369_str L') b_str bb_str (args1 (callG hE G F (k369_law_worth L') g_law_worth (ho352 w.params) (args1 (nL hE F (k369_tree L') (by repeat (first | with_reducible exact up_same _ _ _ | refine up_skip ?_)) ?_))))
  refine ⟨F.fr.keep, worth_spec t G F (R.le (by omega)) hT8 (good_fine t hg (by omega)) fun kw s F => ?_⟩
  refine strInt F (two_big (worth_bound t hg) (by omega)) fun t9 s F => ?_
  refine tupN F fun b1 s F => ?_
  refine lstN F fun b2 s F => ?_
  refine eqRows (rs := [(dots 2 ++ t.letter, intS t.worth)]) F (R.in1 (n := 38)).line (.tail _ (.tail _ hbr)) (.head _) (hrr.mono fun p hp => .tail _ (.tail _ hp)) ?_ ?_
  · rw [← hpn]; exact .cons (.tail _ (.head _)) .nil
  refine wpAny_truthy_bool ?_
  rw [if_pos rfl]
  refine BoolOp_one (wpAny_Compare1 (nL hE F (k369_most L') (by repeat (first | with_reducible exact up_same _ _ _ | refine up_skip ?_)) ?_))
  refine callG hE G F (k369_law_fewest L') g_law_fewest (ho364 w.params) (args1 (nL hE F (k369_tree L') (by repeat (first | with_reducible exact up_same _ _ _ | refine up_skip ?_)) ?_))
  refine ⟨F.fr.keep, few_spec (n := 20) G F (R.le (by omega)) ((hT8).mono fun p hp => .tail _ (.tail _ hp)) (by omega) fun u N₉ s F => eq_int ?_⟩
  rw [few_need hlv]
  have e9 : (((max 0 (([] : List Reg).length + t.need) : Nat) : Int) == (t.need : Int)) = true := by
    rw [show max 0 (([] : List Reg).length + t.need) = t.need by show max 0 (0 + t.need) = t.need; omega]
    exact beq_self_eq_true _
  rw [e9]
  exact ⟨rfl, F.fr.keep, F.ge.trans hge, F.os⟩
end Mine
end
theorem PySem.Challenge.cw_ti0047_01_holds : PySem.Challenge.rw_ti0047_01.Holds := by
  exact Mine.law_holds Mine.law_runs
