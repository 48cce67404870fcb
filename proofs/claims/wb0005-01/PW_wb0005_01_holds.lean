import PyProof.Rows.All
import PyProof.TableCode
import OpenK.KFacts
import Wide.All
import OpenK.AllK
import Wide.FinOn
import KE.KIntText
import KE.IntTextLaws
import KE.KLcPair
import PySem.Challenge.RW_wb0005_01
set_option Elab.async false

section
open PySem PySem.W PyProof.Rows
set_option Elab.async false
set_option maxRecDepth 100000
set_option maxHeartbeats 8000000
namespace Mine
open_top hd for PySem.Challenge.rw_wb0005_01
theorem top_off : True := by
  w_top off
  trivial
end Mine
end

section
namespace Mine
open PySem PySem.Sre
noncomputable abbrev code4 : Array Nat := #[14, 8, 1, 2, 4294967295, 1, 1, 46, 0, 16, 46, 24, 9, 1, 4294967295, 13, 4, 8, 0, 0, 1, 6, 5, 1]
theorem runFor_add (a b : Nat) (m : M) : M.runFor (a + b) m = M.runFor b (M.runFor a m) := by
  induction a generalizing m with
  | zero => simp [M.runFor]
  | succ a ih =>
    rw [Nat.succ_add]
    simp only [M.runFor]
    by_cases h : m.outcome.isSome
    · simp only [h, if_true]
      cases b with
      | zero => rfl
      | succ b => simp only [M.runFor, h, if_true]
    · simp only [h]
      exact ih m.step
theorem runFor_step {m m' : M} (h : m.outcome = none) (e : m.step = m') (n : Nat) : M.runFor (n + 1) m = M.runFor n m' := by
  simp [M.runFor, h, e]
/-- the start of an attempt at s -/
noncomputable def St (x : Array Nat) (s : Nat) (b : Bool) (se : Seen) : M :=
  { code := code4, text := x, lim := x.size, start := s, lastStart := x.size, pc := 9, pos := s, handed := s, outermost := b, marks := #[],
    frames := [{ wait := .nextStart, pc := 9, pos := s, outermost := b }], weight := 1, seen := se }
theorem forSearch4 (x : Array Nat) (h : 2 ≤ x.size) : forSearch code4 x 0 0 x.size false = St x 0 true (({} : Seen).add 14) := by
  have e2 : (decide (0 > x.size) || decide (x.size - 0 < 2)) = false := by simp; omega
  show (if (decide (0 > x.size) || decide (x.size - 0 < 2)) = true then _ else _) = _
  rw [e2]
  rfl
theorem step_exec {m : M} (h1 : m.outcome = none) (h2 : m.answer = none) (h3 : m.pc < m.code.size) : m.step = m.exec := by
  unfold M.step
  rw [h1, h2]
  simp [h3]
theorem exec_char {m : M} {op : Op} (hop : ops[m.word 0]? = some op) (h : op = .LITERAL ∨ op = .IN) (hp : m.pos < m.lim) {y : Bool} {se' : Seen}
    (ha : accepts m.code m.pc (m.text.getD m.pos 0) (m.seen.add (m.word 0)) = .ok (y, se')) :
    m.exec = if y = true then { m with seen := se', pc := m.pc + itemWidth m.code m.pc, pos := m.pos + 1 } else { m with seen := se', answer := some false } := by
  unfold M.exec
  rw [hop]
  have hp' : ¬ (m.pos ≥ m.lim) := by omega
  rcases h with rfl | rfl
  all_goals
    simp only [hp', if_false]
    rw [ha]
    cases y <;> rfl
theorem exec_char_end {m : M} {op : Op} (hop : ops[m.word 0]? = some op) (h : op = .LITERAL ∨ op = .IN) (hp : m.lim ≤ m.pos) :
    m.exec = { m with seen := m.seen.add (m.word 0), answer := some false } := by
  unfold M.exec
  rw [hop]
  have hp' : (m.pos ≥ m.lim) := hp
  rcases h with rfl | rfl
  all_goals
    simp only [hp', if_true]
    rfl
theorem step_lit_no {x : Array Nat} {s : Nat} {b : Bool} {se : Seen} (hs : s < x.size) (hc : x.getD s 0 ≠ 46) :
    ∃ se', M.runFor 2 (St x s b se) = St x (s + 1) false se' := by
  have ha : accepts code4 9 (x.getD s 0) (se.add 16) = .ok (false, se.add 16) := by
    have : (x.getD s 0 == 46) = false := by simpa using hc
    show Except.ok (x.getD s 0 == 46, se.add 16) = _
    rw [this]
  have e1 : M.step (St x s b se) = { St x s b se with seen := se.add 16, answer := some false } :=
    (step_exec rfl rfl (show 9 < 24 by decide)).trans ((exec_char (op := .LITERAL) rfl (.inl rfl) hs ha).trans rfl)
  refine ⟨se.add 16, ?_⟩
  show M.runFor 1 (M.step (St x s b se)) = _
  rw [e1]
  show (if s < x.size then _ else _ : M) = _
  rw [if_pos hs]
  rfl
theorem next_start {x : Array Nat} {s : Nat} {b : Bool} {m : M} (hs : s < x.size)
    (hm : ∃ se pc pos ha ou, m = { St x s b se with pc := pc, pos := pos, handed := ha, outermost := ou, answer := some false }) :
    ∃ se', M.step m = St x (s + 1) false se' := by
  obtain ⟨se, pc, pos, ha, ou, rfl⟩ := hm
  refine ⟨se, ?_⟩
  show (if s < x.size then _ else _ : M) = _
  rw [if_pos hs]
  rfl
theorem acc_lit {c : Nat} {se : Seen} : accepts code4 9 c se = .ok (c == 46, se) := rfl
theorem acc_in {c : Nat} {se : Seen} : ∃ se', accepts code4 15 c se = .ok (isDigit c, se') := by
  cases h : isDigit c
  · refine ⟨((se.add 8).add 55).add 0, ?_⟩
    show inSet code4 c (22 + 2) 17 true se = _
    unfold inSet
    show (do let y ← (Except.ok (isDigit c != false) : Except String Bool); if y then _ else _) = _
    rw [h]
    rfl
  · refine ⟨(se.add 8).add 55, ?_⟩
    show inSet code4 c (22 + 2) 17 true se = _
    unfold inSet
    show (do let y ← (Except.ok (isDigit c != false) : Except String Bool); if y then _ else _) = _
    rw [h]
    rfl
theorem run_spec {x : Array Nat} : ∀ (n p found k : Nat) (se : Seen), k ≤ n → (∀ j, j < k → isDigit (x.getD (p + j) 0) = true) → (k < n → isDigit (x.getD (p + k) 0) = false) →
    ∃ se', Sre.run code4 x 15 n p found se = .ok (found + k, se')
  | 0, p, found, k, se, hk, _, _ => ⟨se, by rw [show k = 0 by omega]; rfl⟩
  | n + 1, p, found, 0, se, _, _, hn => by
    obtain ⟨se1, h1⟩ := acc_in (c := x.getD p 0) (se := se)
    refine ⟨se1, ?_⟩
    have h2 := hn (by omega)
    rw [Nat.add_zero] at h2
    unfold Sre.run
    rw [h1, h2]
    rfl
  | n + 1, p, found, k + 1, se, hk, hd, hn => by
    obtain ⟨se1, h1⟩ := acc_in (c := x.getD p 0) (se := se)
    have h2 := hd 0 (by omega)
    rw [Nat.add_zero] at h2
    obtain ⟨se2, h3⟩ := run_spec (x := x) n (p + 1) (found + 1) k se1 (by omega) (fun j hj => by have := hd (j + 1) (by omega); rwa [show p + (j + 1) = p + 1 + j by omega] at this)
      (fun hk' => by have := hn (by omega); rwa [show p + (k + 1) = p + 1 + k by omega] at this)
    refine ⟨se2, ?_⟩
    unfold Sre.run
    rw [h1, h2]
    show Sre.run code4 x 15 n (p + 1) (found + 1) se1 = _
    rw [h3]
    congr 2
    omega
noncomputable def GB (x : Array Nat) (s : Nat) (b : Bool) (j : Nat) (se : Seen) : M :=
  { St x s b se with pc := 21, pos := s + 1 + j, handed := s + 1 + j, weight := 2, frames := [{ wait := .giveBack, pc := 11, pos := s + 1 + j, outermost := b, count := j }, { wait := .nextStart, pc := 9, pos := s, outermost := b }] }
theorem at_end {x : Array Nat} {s : Nat} {b : Bool} {j : Nat} {se : Seen} {y : Bool} (h : ((s + 1 + j == x.size) || (s + 1 + j + 1 == x.size && x.getD (s + 1 + j) 0 == 10)) = y) :
    M.step (GB x s b j se) = if y = true then { GB x s b j se with seen := (se.add 6).add 48, pc := 23 } else { GB x s b j se with seen := (se.add 6).add 48, answer := some false } := by
  refine (step_exec rfl rfl (show 21 < 24 by decide)).trans ?_
  show (if ((s + 1 + j == x.size) || (s + 1 + j + 1 == x.size && x.getD (s + 1 + j) 0 == 10)) = true then _ else _ : M) = _
  rw [h]
  cases y <;> rfl
theorem gb_back {x : Array Nat} {s : Nat} {b : Bool} (hs : s < x.size) : ∀ (j : Nat) (se : Seen), 1 ≤ j →
    (∀ i, 1 ≤ i → i ≤ j → ((s + 1 + i == x.size) || (s + 1 + i + 1 == x.size && x.getD (s + 1 + i) 0 == 10)) = false) →
    ∃ n se', n ≤ 3 * j ∧ M.runFor n (GB x s b j se) = St x (s + 1) false se' := by
  intro j
  induction j with
  | zero => intro _ h; omega
  | succ j ih =>
    intro se _ hf
    have e1 := at_end (b := b) (se := se) (hf (j + 1) (by omega) (by omega))
    simp only [Bool.false_eq_true, if_false] at e1
    by_cases hj : j = 0
    · subst hj
      have e2 : M.step { GB x s b (0 + 1) se with seen := (se.add 6).add 48, answer := some false } = { St x s b ((se.add 6).add 48) with pc := 11, pos := s + 1 + (0 + 1), handed := s + 1 + (0 + 1), answer := some false } := rfl
      obtain ⟨se', e3⟩ := next_start (b := b) (m := { St x s b ((se.add 6).add 48) with pc := 11, pos := s + 1 + (0 + 1), handed := s + 1 + (0 + 1), answer := some false }) hs ⟨_, _, _, _, _, rfl⟩
      refine ⟨3, se', by omega, ?_⟩
      rw [runFor_step rfl e1, runFor_step rfl e2, runFor_step rfl e3]
      rfl
    · have e2 : M.step { GB x s b (j + 1) se with seen := (se.add 6).add 48, answer := some false } = GB x s b j ((se.add 6).add 48) := by
        show (if (((j + 1 : Nat) : Int) - 1 < ((1 : Nat) : Int)) then _ else _ : M) = _
        rw [if_neg (by omega)]
        show ({ St x s b ((se.add 6).add 48) with pc := 21, pos := s + 1 + (j + 1) - 1, handed := s + 1 + (j + 1) - 1, weight := 2, frames := [{ wait := .giveBack, pc := 11, pos := s + 1 + (j + 1) - 1, outermost := b, count := ((j + 1 : Nat) : Int) - 1 }, { wait := .nextStart, pc := 9, pos := s, outermost := b }] } : M) = _
        rw [show s + 1 + (j + 1) - 1 = s + 1 + j by omega, show ((j + 1 : Nat) : Int) - 1 = (j : Int) by omega]
        rfl
      obtain ⟨n, se', hn, e3⟩ := ih ((se.add 6).add 48) (by omega) (fun i h1 h2 => hf i h1 (by omega))
      refine ⟨2 + n, se', by omega, ?_⟩
      rw [runFor_add, runFor_step rfl e1, runFor_step rfl e2]
      exact e3
/-- how many figures stand from p on, before the dot at d -/
theorem figures {x : Array Nat} {d : Nat} (hd : isDigit (x.getD d 0) = false) : ∀ (n p : Nat), p + n = d →
    ∃ k, p + k ≤ d ∧ (∀ j, j < k → isDigit (x.getD (p + j) 0) = true) ∧ isDigit (x.getD (p + k) 0) = false
  | 0, p, h => ⟨0, by omega, fun j hj => by omega, by rw [show p + 0 = d by omega]; exact hd⟩
  | n + 1, p, h => by
    cases hp : isDigit (x.getD p 0) with
    | false => exact ⟨0, by omega, fun j hj => by omega, hp⟩
    | true =>
      obtain ⟨k, h1, h2, h3⟩ := figures hd n (p + 1) (by omega)
      refine ⟨k + 1, by omega, fun j hj => ?_, by rwa [show p + (k + 1) = p + 1 + k by omega]⟩
      cases j with
      | zero => exact hp
      | succ j => have := h2 j (by omega); rwa [show p + (j + 1) = p + 1 + j by omega]
theorem step_lit_yes {x : Array Nat} {s : Nat} {b : Bool} {se : Seen} (hs : s < x.size) (hc : x.getD s 0 = 46) :
    M.step (St x s b se) = { St x s b se with pc := 11, pos := s + 1, seen := se.add 16 } := by
  have ha : accepts code4 9 (x.getD s 0) (se.add 16) = .ok (true, se.add 16) := by
    show Except.ok (x.getD s 0 == 46, se.add 16) = _
    rw [hc]
    rfl
  exact (step_exec rfl rfl (show 9 < 24 by decide)).trans ((exec_char (op := .LITERAL) rfl (.inl rfl) hs ha).trans rfl)
theorem step_rep {x : Array Nat} {s : Nat} {b : Bool} {se : Seen} {k : Nat} (hs : s + 2 ≤ x.size) (hx : x.size ≤ 4294967295) (hk : s + 1 + k ≤ x.size)
    (hd : ∀ j, j < k → isDigit (x.getD (s + 1 + j) 0) = true) (hn : s + 1 + k < x.size → isDigit (x.getD (s + 1 + k) 0) = false) :
    ∃ se', M.step { St x s b se with pc := 11, pos := s + 1, seen := se.add 16 } = if k = 0 then { St x s b se with pc := 11, pos := s + 1, seen := se', answer := some false } else GB x s b k se' := by
  obtain ⟨se', hr⟩ := run_spec (x := x) (x.size - (s + 1)) (s + 1) 0 k (((se.add 16).add 24).add 13) (by omega) hd (fun h => hn (by omega))
  refine ⟨se', ?_⟩
  refine (step_exec rfl rfl (show 11 < 24 by decide)).trans ?_
  have hroom : ((x.size : Int) - ((s + 1 : Nat) : Int)).toNat = x.size - (s + 1) := by omega
  show (if ((1 : Nat) : Int) > ((x.size : Int) - ((s + 1 : Nat) : Int)) then _ else (match Sre.run code4 x 15 (min 4294967295 ((x.size : Int) - ((s + 1 : Nat) : Int)).toNat) (s + 1) 0 (((se.add 16).add 24).add 13) with
      | .error why => _
      | .ok (n, seen) => _) : M) = _
  rw [if_neg (by omega), hroom, show min 4294967295 (x.size - (s + 1)) = x.size - (s + 1) by omega, hr]
  show (if 0 + k < 1 then _ else _ : M) = _
  by_cases h0 : k = 0
  · subst h0
    rfl
  · rw [if_neg (by omega), if_neg h0, Nat.zero_add]
    rfl
theorem scan_one {x : Array Nat} {s d : Nat} {b : Bool} {se : Seen} (hx : x.size ≤ 4294967295) (hsd : s < d) (hd : x.getD d 0 = 46) (hd2 : d + 2 ≤ x.size) :
    ∃ n se', n ≤ 3 * x.size + 4 ∧ M.runFor n (St x s b se) = St x (s + 1) false se' := by
  by_cases hc : x.getD s 0 = 46
  · obtain ⟨k, h1, h2, h3⟩ := figures (x := x) (d := d) (by rw [hd]; rfl) (d - (s + 1)) (s + 1) (by omega)
    have e1 := step_lit_yes (b := b) (se := se) (show s < x.size by omega) hc
    obtain ⟨se2, e2⟩ := step_rep (b := b) (se := se) (k := k) (show s + 2 ≤ x.size by omega) hx (by omega) h2 (fun _ => h3)
    by_cases h0 : k = 0
    · rw [if_pos h0] at e2
      obtain ⟨se3, e3⟩ := next_start (b := b) (m := { St x s b se with pc := 11, pos := s + 1, seen := se2, answer := some false }) (show s < x.size by omega) ⟨se2, _, _, _, _, rfl⟩
      refine ⟨3, se3, by omega, ?_⟩
      rw [runFor_step rfl e1, runFor_step rfl e2, runFor_step rfl e3]
      rfl
    · rw [if_neg h0] at e2
      obtain ⟨n, se3, hn, e3⟩ := gb_back (b := b) (show s < x.size by omega) k se2 (by omega) (fun i hi1 hi2 => by
        have : (s + 1 + i == x.size) = false := by simp; omega
        have h' : (s + 1 + i + 1 == x.size) = false := by simp; omega
        rw [this, h']; rfl)
      refine ⟨n + 2, se3, by omega, ?_⟩
      rw [runFor_step rfl e1, runFor_step rfl e2]
      exact e3
  · obtain ⟨se', h⟩ := step_lit_no (b := b) (se := se) (show s < x.size by omega) hc
    exact ⟨2, se', by omega, h⟩
theorem scan_to {x : Array Nat} {d : Nat} {se : Seen} {b : Bool} (hx : x.size ≤ 4294967295) (hd : x.getD d 0 = 46) (hd2 : d + 2 ≤ x.size) : ∀ s, s ≤ d →
    ∃ n b' se', n ≤ s * (3 * x.size + 4) ∧ M.runFor n (St x 0 b se) = St x s b' se'
  | 0, _ => ⟨0, b, se, by omega, rfl⟩
  | s + 1, h => by
    obtain ⟨n, b', se', hn, e⟩ := scan_to (se := se) (b := b) hx hd hd2 s (by omega)
    obtain ⟨n2, se2, hn2, e2⟩ := scan_one (b := b') (se := se') hx (show s < d by omega) hd hd2
    refine ⟨n + n2, false, se2, by rw [Nat.add_mul]; omega, ?_⟩
    rw [runFor_add, e, e2]
structure Got (m : M) (b e : Nat) : Prop where
  outcome : m.outcome = some .matched
  start : m.start = b
  handed : m.handed = e
  lastmark : m.lastmark = -1
  lastindex : m.lastindex = -1
  marks : m.marks = #[]
theorem scan_hit {x : Array Nat} {d k : Nat} {b : Bool} {se : Seen} (hx : x.size ≤ 4294967295) (hd : x.getD d 0 = 46) (hk : 1 ≤ k) (hkx : d + 1 + k ≤ x.size)
    (hdig : ∀ j, j < k → isDigit (x.getD (d + 1 + j) 0) = true) (hend : d + 1 + k = x.size ∨ (d + 1 + k + 1 = x.size ∧ x.getD (d + 1 + k) 0 = 10)) :
    Got (M.runFor 8 (St x d b se)) d (d + 1 + k) := by
  have e1 := step_lit_yes (b := b) (se := se) (show d < x.size by omega) hd
  obtain ⟨se2, e2⟩ := step_rep (b := b) (se := se) (k := k) (show d + 2 ≤ x.size by omega) hx hkx hdig (fun h => by
    rcases hend with h' | ⟨_, h'⟩
    · omega
    · rw [h']; rfl)
  rw [if_neg (by omega)] at e2
  have e3 := at_end (x := x) (s := d) (b := b) (j := k) (se := se2) (y := true) (by
    rcases hend with h' | ⟨h', h''⟩
    · rw [h']; simp
    · rw [h', h'']; simp)
  rw [if_pos rfl] at e3
  have e4 : M.step { GB x d b k se2 with seen := (se2.add 6).add 48, pc := 23 } = { GB x d b k se2 with seen := ((se2.add 6).add 48).add 1, pc := 23, handed := d + 1 + k, answer := some true } := by
    refine (step_exec rfl rfl (show 23 < 24 by decide)).trans ?_
    show (if (b && ((false && _) || (false && _))) = true then _ else _ : M) = _
    rw [if_neg (by simp)]
    rfl
  rw [runFor_step rfl e1, runFor_step rfl e2, runFor_step rfl e3, runFor_step rfl e4]
  exact ⟨rfl, rfl, rfl, rfl, rfl, rfl⟩
theorem search4_hit {x : Array Nat} {d k : Nat} (hx : x.size ≤ 4294967295) (hd : x.getD d 0 = 46) (hk : 1 ≤ k) (hkx : d + 1 + k ≤ x.size)
    (hdig : ∀ j, j < k → isDigit (x.getD (d + 1 + j) 0) = true) (hend : d + 1 + k = x.size ∨ (d + 1 + k + 1 = x.size ∧ x.getD (d + 1 + k) 0 = 10)) :
    ∃ n, n ≤ d * (3 * x.size + 4) + 8 ∧ Got (M.runFor n (forSearch code4 x 0 0 x.size false)) d (d + 1 + k) := by
  obtain ⟨n, b', se', hn, e⟩ := scan_to (x := x) (d := d) (se := ({} : Seen).add 14) (b := true) hx hd (by omega) d (Nat.le_refl _)
  refine ⟨n + 8, by omega, ?_⟩
  rw [forSearch4 x (by omega), runFor_add, e]
  exact scan_hit hx hd hk hkx hdig hend
end Mine
end

section
namespace Mine
open PySem PySem.Sre
set_option maxRecDepth 100000
noncomputable abbrev codeT : Array Nat := #[14, 4, 0, 1, 6, 6, 0, 23, 14, 0, 1, 17, 0, 13, 6, 16, 45, 16, 43, 0, 17, 1, 18, 17, 2, 13, 4, 8, 0, 0, 24, 9, 0, 1, 13, 4, 8, 0, 0, 1, 17, 3, 24, 6, 0, 1, 16, 58, 1, 23, 17, 0, 1, 17, 4, 13, 4, 8, 0, 0, 13, 4, 8, 0, 0, 17, 5, 18, 6, 5, 1]
theorem fig_ne {c : Nat} (h : isDigit c = true) : (c == 45) = false ∧ (c == 43) = false ∧ (c == 58) = false ∧ (c == 10) = false := by
  unfold isDigit at h
  simp at h
  refine ⟨?_, ?_, ?_, ?_⟩ <;> (simp; omega)
theorem acc13 {c : Nat} {se : Seen} (h : isDigit c = true) : accepts codeT 13 c se = .ok (false, ((se.add 16).add 16).add 0) := by
  obtain ⟨h1, h2, _, _⟩ := fig_ne h
  show inSet codeT c 71 15 true se = _
  unfold inSet
  show (if (c == 45) = true then _ else _) = _
  rw [h1, if_neg Bool.false_ne_true]
  unfold inSet
  show (if (c == 43) = true then _ else _) = _
  rw [h2, if_neg Bool.false_ne_true]
  rfl
theorem acc25 {c : Nat} {se : Seen} (h : isDigit c = true) : accepts codeT 25 c se = .ok (true, (se.add 8).add 55) := by
  show inSet codeT c 71 27 true se = _
  unfold inSet
  show (do let y ← (Except.ok (isDigit c != false) : Except String Bool); if y then _ else _) = _
  rw [h]
  rfl
theorem acc34 {c : Nat} {se : Seen} (h : isDigit c = true) : accepts codeT 34 c se = .ok (true, (se.add 8).add 55) := by
  show inSet codeT c 71 36 true se = _
  unfold inSet
  show (do let y ← (Except.ok (isDigit c != false) : Except String Bool); if y then _ else _) = _
  rw [h]
  rfl
theorem acc55 {c : Nat} {se : Seen} (h : isDigit c = true) : accepts codeT 55 c se = .ok (true, (se.add 8).add 55) := by
  show inSet codeT c 71 57 true se = _
  unfold inSet
  show (do let y ← (Except.ok (isDigit c != false) : Except String Bool); if y then _ else _) = _
  rw [h]
  rfl
theorem acc60 {c : Nat} {se : Seen} (h : isDigit c = true) : accepts codeT 60 c se = .ok (true, (se.add 8).add 55) := by
  show inSet codeT c 71 62 true se = _
  unfold inSet
  show (do let y ← (Except.ok (isDigit c != false) : Except String Bool); if y then _ else _) = _
  rw [h]
  rfl
theorem acc46 {c : Nat} {se : Seen} (h : isDigit c = true) : accepts codeT 46 c se = .ok (false, se) := by
  show Except.ok (c == 58, se) = _
  rw [(fig_ne h).2.2.1]
theorem run34 {t : Array Nat} {p : Nat} {se : Seen} (h : isDigit (t.getD p 0) = true) : Sre.run codeT t 34 1 p 0 se = .ok (1, (se.add 8).add 55) := by
  unfold Sre.run
  rw [acc34 h]
  rfl
theorem run46 {t : Array Nat} {p : Nat} {se : Seen} (h : isDigit (t.getD p 0) = true) : Sre.run codeT t 46 1 p 0 se = .ok (0, se) := by
  unfold Sre.run
  rw [acc46 h]
  rfl
theorem exec_rep {m : M} {n : Nat} {se' : Seen} (hop : ops[m.word 0]? = some .REPEAT_ONE) (hr : ¬ ((m.word 2 : Int) > (m.lim : Int) - m.pos))
    (hrun : Sre.run m.code m.text (m.pc + 4) (min (m.word 3) ((m.lim : Int) - m.pos).toNat) m.pos 0 ((m.seen.add (m.word 0)).add (m.word 4)) = .ok (n, se')) (hn : ¬ n < m.word 2) :
    m.exec = ({ m with seen := se', pos := m.pos + n } : M).afterRun .giveBack n (({ m with seen := se', pos := m.pos + n } : M).keep m.inner.isSome) := by
  unfold M.exec
  rw [hop]
  show (if ((m.word 2 : Int) > (m.lim : Int) - m.pos) then _ else (match Sre.run m.code m.text (m.pc + 4) (min (m.word 3) ((m.lim : Int) - m.pos).toNat) m.pos 0 ((m.seen.add (m.word 0)).add (m.word 4)) with
      | .error why => _
      | .ok (n, seen) => _) : M) = _
  rw [if_neg hr, hrun]
  show (if n < m.word 2 then _ else _ : M) = _
  rw [if_neg hn]
  rfl
theorem at68 {m : M} {y : Bool} (hop : ops[m.word 0]? = some .AT) (h5 : m.isAt (m.word 1) = .ok y) :
    m.exec = if y = true then { m with seen := (m.seen.add (m.word 0)).add (43 + m.word 1), pc := m.pc + 2 } else { m with seen := (m.seen.add (m.word 0)).add (43 + m.word 1), answer := some false } := by
  unfold M.exec
  rw [hop]
  show (match m.isAt (m.word 1) with | .error why => _ | .ok yes => _ : M) = _
  rw [h5]
  cases y <;> rfl
noncomputable def preT (t : Array Nat) (n : Nat) : M := { code := codeT, text := t, lim := n, start := 0, lastStart := n, pc := 5, pos := 0, handed := 0, outermost := true, marks := Array.replicate 6 none, seen := ({} : Seen).add 14 }
theorem forSearchT {t : Array Nat} {n : Nat} (h : 1 ≤ n) : forSearch codeT t 3 0 n false = M.attemptFrom (preT t n) 0 true := by
  have e2 : (decide (0 > n) || decide (n - 0 < 1)) = false := by simp; omega
  show (if (decide (0 > n) || decide (n - 0 < 1)) = true then _ else _) = _
  rw [e2]
  rfl
noncomputable def T1s0 (t : Array Nat) : M := { code := codeT, text := t, lim := 1, start := 0, lastStart := 1, wholeText := false, mustAdvance := false, pc := 5, pos := 0, handed := 0, outermost := true, marks := #[none, none, none, none, none, none], lastmark := (-1), lastindex := (-1), loops := #[], inner := none, frames := [{ wait := .nextStart, pc := 5, pos := 0, outermost := true, count := 0, kept := { lastmark := (-1), lastindex := (-1), whole := false, marks := #[] }, loop := 0, began := none }], weight := 1, answer := none, seen := ({} : Seen).add 14, outcome := none }
noncomputable def T1s1 (t : Array Nat) : M := { code := codeT, text := t, lim := 1, start := 0, lastStart := 1, wholeText := false, mustAdvance := false, pc := 7, pos := 0, handed := 0, outermost := true, marks := #[none, none, none, none, none, none], lastmark := (-1), lastindex := (-1), loops := #[], inner := none, frames := [{ wait := .nextStart, pc := 5, pos := 0, outermost := true, count := 0, kept := { lastmark := (-1), lastindex := (-1), whole := false, marks := #[] }, loop := 0, began := none }], weight := 1, answer := none, seen := (((T1s0 t).seen.add 6).add 43), outcome := none }
noncomputable def T1s2 (t : Array Nat) : M := { code := codeT, text := t, lim := 1, start := 0, lastStart := 1, wholeText := false, mustAdvance := false, pc := 22, pos := 0, handed := 0, outermost := true, marks := #[none, none, none, none, none, none], lastmark := (-1), lastindex := (-1), loops := #[{ pc := 7, count := (-1), began := none, outer := none }], inner := (some 0), frames := [{ wait := .closeLoop, pc := 7, pos := 0, outermost := true, count := 0, kept := { lastmark := (-1), lastindex := (-1), whole := false, marks := #[] }, loop := 0, began := none }, { wait := .nextStart, pc := 5, pos := 0, outermost := true, count := 0, kept := { lastmark := (-1), lastindex := (-1), whole := false, marks := #[] }, loop := 0, began := none }], weight := 2, answer := none, seen := ((T1s1 t).seen.add 23), outcome := none }
noncomputable def T1s3 (t : Array Nat) : M := { code := codeT, text := t, lim := 1, start := 0, lastStart := 1, wholeText := false, mustAdvance := false, pc := 11, pos := 0, handed := 0, outermost := true, marks := #[none, none, none, none, none, none], lastmark := (-1), lastindex := (-1), loops := #[{ pc := 7, count := 0, began := (some 0), outer := none }], inner := (some 0), frames := [{ wait := .maxMore, pc := 23, pos := 0, outermost := true, count := 0, kept := { lastmark := (-1), lastindex := (-1), whole := true, marks := #[] }, loop := 0, began := none }, { wait := .closeLoop, pc := 7, pos := 0, outermost := true, count := 0, kept := { lastmark := (-1), lastindex := (-1), whole := false, marks := #[] }, loop := 0, began := none }, { wait := .nextStart, pc := 5, pos := 0, outermost := true, count := 0, kept := { lastmark := (-1), lastindex := (-1), whole := false, marks := #[] }, loop := 0, began := none }], weight := 3, answer := none, seen := ((T1s2 t).seen.add 18), outcome := none }
noncomputable def T1s4 (t : Array Nat) : M := { code := codeT, text := t, lim := 1, start := 0, lastStart := 1, wholeText := false, mustAdvance := false, pc := 13, pos := 0, handed := 0, outermost := true, marks := #[(some 0), none, none, none, none, none], lastmark := 0, lastindex := (-1), loops := #[{ pc := 7, count := 0, began := (some 0), outer := none }], inner := (some 0), frames := [{ wait := .maxMore, pc := 23, pos := 0, outermost := true, count := 0, kept := { lastmark := (-1), lastindex := (-1), whole := true, marks := #[] }, loop := 0, began := none }, { wait := .closeLoop, pc := 7, pos := 0, outermost := true, count := 0, kept := { lastmark := (-1), lastindex := (-1), whole := false, marks := #[] }, loop := 0, began := none }, { wait := .nextStart, pc := 5, pos := 0, outermost := true, count := 0, kept := { lastmark := (-1), lastindex := (-1), whole := false, marks := #[] }, loop := 0, began := none }], weight := 3, answer := none, seen := ((T1s3 t).seen.add 17), outcome := none }
noncomputable def T1s5 (t : Array Nat) : M := { code := codeT, text := t, lim := 1, start := 0, lastStart := 1, wholeText := false, mustAdvance := false, pc := 13, pos := 0, handed := 0, outermost := true, marks := #[(some 0), none, none, none, none, none], lastmark := 0, lastindex := (-1), loops := #[{ pc := 7, count := 0, began := (some 0), outer := none }], inner := (some 0), frames := [{ wait := .maxMore, pc := 23, pos := 0, outermost := true, count := 0, kept := { lastmark := (-1), lastindex := (-1), whole := true, marks := #[] }, loop := 0, began := none }, { wait := .closeLoop, pc := 7, pos := 0, outermost := true, count := 0, kept := { lastmark := (-1), lastindex := (-1), whole := false, marks := #[] }, loop := 0, began := none }, { wait := .nextStart, pc := 5, pos := 0, outermost := true, count := 0, kept := { lastmark := (-1), lastindex := (-1), whole := false, marks := #[] }, loop := 0, began := none }], weight := 3, answer := (some false), seen := (((((T1s4 t).seen.add 13).add 16).add 16).add 0), outcome := none }
noncomputable def T1s6 (t : Array Nat) : M := { code := codeT, text := t, lim := 1, start := 0, lastStart := 1, wholeText := false, mustAdvance := false, pc := 23, pos := 0, handed := 0, outermost := true, marks := #[(some 0), none, none, none, none, none], lastmark := (-1), lastindex := (-1), loops := #[{ pc := 7, count := (-1), began := none, outer := none }], inner := none, frames := [{ wait := .maxTail, pc := 23, pos := 0, outermost := true, count := 0, kept := { lastmark := (-1), lastindex := (-1), whole := false, marks := #[] }, loop := 0, began := none }, { wait := .closeLoop, pc := 7, pos := 0, outermost := true, count := 0, kept := { lastmark := (-1), lastindex := (-1), whole := false, marks := #[] }, loop := 0, began := none }, { wait := .nextStart, pc := 5, pos := 0, outermost := true, count := 0, kept := { lastmark := (-1), lastindex := (-1), whole := false, marks := #[] }, loop := 0, began := none }], weight := 3, answer := none, seen := (T1s5 t).seen, outcome := none }
noncomputable def T1s7 (t : Array Nat) : M := { code := codeT, text := t, lim := 1, start := 0, lastStart := 1, wholeText := false, mustAdvance := false, pc := 25, pos := 0, handed := 0, outermost := true, marks := #[none, none, (some 0), none, none, none], lastmark := 2, lastindex := (-1), loops := #[{ pc := 7, count := (-1), began := none, outer := none }], inner := none, frames := [{ wait := .maxTail, pc := 23, pos := 0, outermost := true, count := 0, kept := { lastmark := (-1), lastindex := (-1), whole := false, marks := #[] }, loop := 0, began := none }, { wait := .closeLoop, pc := 7, pos := 0, outermost := true, count := 0, kept := { lastmark := (-1), lastindex := (-1), whole := false, marks := #[] }, loop := 0, began := none }, { wait := .nextStart, pc := 5, pos := 0, outermost := true, count := 0, kept := { lastmark := (-1), lastindex := (-1), whole := false, marks := #[] }, loop := 0, began := none }], weight := 3, answer := none, seen := ((T1s6 t).seen.add 17), outcome := none }
noncomputable def T1s8 (t : Array Nat) : M := { code := codeT, text := t, lim := 1, start := 0, lastStart := 1, wholeText := false, mustAdvance := false, pc := 30, pos := 1, handed := 0, outermost := true, marks := #[none, none, (some 0), none, none, none], lastmark := 2, lastindex := (-1), loops := #[{ pc := 7, count := (-1), began := none, outer := none }], inner := none, frames := [{ wait := .maxTail, pc := 23, pos := 0, outermost := true, count := 0, kept := { lastmark := (-1), lastindex := (-1), whole := false, marks := #[] }, loop := 0, began := none }, { wait := .closeLoop, pc := 7, pos := 0, outermost := true, count := 0, kept := { lastmark := (-1), lastindex := (-1), whole := false, marks := #[] }, loop := 0, began := none }, { wait := .nextStart, pc := 5, pos := 0, outermost := true, count := 0, kept := { lastmark := (-1), lastindex := (-1), whole := false, marks := #[] }, loop := 0, began := none }], weight := 3, answer := none, seen := ((((T1s7 t).seen.add 13).add 8).add 55), outcome := none }
noncomputable def T1s9 (t : Array Nat) : M := { code := codeT, text := t, lim := 1, start := 0, lastStart := 1, wholeText := false, mustAdvance := false, pc := 40, pos := 1, handed := 1, outermost := true, marks := #[none, none, (some 0), none, none, none], lastmark := 2, lastindex := (-1), loops := #[{ pc := 7, count := (-1), began := none, outer := none }], inner := none, frames := [{ wait := .giveBack, pc := 30, pos := 1, outermost := true, count := 0, kept := { lastmark := 2, lastindex := (-1), whole := false, marks := #[] }, loop := 0, began := none }, { wait := .maxTail, pc := 23, pos := 0, outermost := true, count := 0, kept := { lastmark := (-1), lastindex := (-1), whole := false, marks := #[] }, loop := 0, began := none }, { wait := .closeLoop, pc := 7, pos := 0, outermost := true, count := 0, kept := { lastmark := (-1), lastindex := (-1), whole := false, marks := #[] }, loop := 0, began := none }, { wait := .nextStart, pc := 5, pos := 0, outermost := true, count := 0, kept := { lastmark := (-1), lastindex := (-1), whole := false, marks := #[] }, loop := 0, began := none }], weight := 4, answer := none, seen := (((T1s8 t).seen.add 24).add 13), outcome := none }
noncomputable def T1s10 (t : Array Nat) : M := { code := codeT, text := t, lim := 1, start := 0, lastStart := 1, wholeText := false, mustAdvance := false, pc := 42, pos := 1, handed := 1, outermost := true, marks := #[none, none, (some 0), (some 1), none, none], lastmark := 3, lastindex := 2, loops := #[{ pc := 7, count := (-1), began := none, outer := none }], inner := none, frames := [{ wait := .giveBack, pc := 30, pos := 1, outermost := true, count := 0, kept := { lastmark := 2, lastindex := (-1), whole := false, marks := #[] }, loop := 0, began := none }, { wait := .maxTail, pc := 23, pos := 0, outermost := true, count := 0, kept := { lastmark := (-1), lastindex := (-1), whole := false, marks := #[] }, loop := 0, began := none }, { wait := .closeLoop, pc := 7, pos := 0, outermost := true, count := 0, kept := { lastmark := (-1), lastindex := (-1), whole := false, marks := #[] }, loop := 0, began := none }, { wait := .nextStart, pc := 5, pos := 0, outermost := true, count := 0, kept := { lastmark := (-1), lastindex := (-1), whole := false, marks := #[] }, loop := 0, began := none }], weight := 4, answer := none, seen := ((T1s9 t).seen.add 17), outcome := none }
noncomputable def T1s11 (t : Array Nat) : M := { code := codeT, text := t, lim := 1, start := 0, lastStart := 1, wholeText := false, mustAdvance := false, pc := 49, pos := 1, handed := 1, outermost := true, marks := #[none, none, (some 0), (some 1), none, none], lastmark := 3, lastindex := 2, loops := #[{ pc := 7, count := (-1), began := none, outer := none }], inner := none, frames := [{ wait := .giveBack, pc := 42, pos := 1, outermost := true, count := 0, kept := { lastmark := 3, lastindex := 2, whole := false, marks := #[] }, loop := 0, began := none }, { wait := .giveBack, pc := 30, pos := 1, outermost := true, count := 0, kept := { lastmark := 2, lastindex := (-1), whole := false, marks := #[] }, loop := 0, began := none }, { wait := .maxTail, pc := 23, pos := 0, outermost := true, count := 0, kept := { lastmark := (-1), lastindex := (-1), whole := false, marks := #[] }, loop := 0, began := none }, { wait := .closeLoop, pc := 7, pos := 0, outermost := true, count := 0, kept := { lastmark := (-1), lastindex := (-1), whole := false, marks := #[] }, loop := 0, began := none }, { wait := .nextStart, pc := 5, pos := 0, outermost := true, count := 0, kept := { lastmark := (-1), lastindex := (-1), whole := false, marks := #[] }, loop := 0, began := none }], weight := 5, answer := none, seen := (((T1s10 t).seen.add 24).add 16), outcome := none }
noncomputable def T1s12 (t : Array Nat) : M := { code := codeT, text := t, lim := 1, start := 0, lastStart := 1, wholeText := false, mustAdvance := false, pc := 67, pos := 1, handed := 1, outermost := true, marks := #[none, none, (some 0), (some 1), none, none], lastmark := 3, lastindex := 2, loops := #[{ pc := 7, count := (-1), began := none, outer := none }, { pc := 49, count := (-1), began := none, outer := none }], inner := (some 1), frames := [{ wait := .closeLoop, pc := 49, pos := 1, outermost := true, count := 0, kept := { lastmark := (-1), lastindex := (-1), whole := false, marks := #[] }, loop := 1, began := none }, { wait := .giveBack, pc := 42, pos := 1, outermost := true, count := 0, kept := { lastmark := 3, lastindex := 2, whole := false, marks := #[] }, loop := 0, began := none }, { wait := .giveBack, pc := 30, pos := 1, outermost := true, count := 0, kept := { lastmark := 2, lastindex := (-1), whole := false, marks := #[] }, loop := 0, began := none }, { wait := .maxTail, pc := 23, pos := 0, outermost := true, count := 0, kept := { lastmark := (-1), lastindex := (-1), whole := false, marks := #[] }, loop := 0, began := none }, { wait := .closeLoop, pc := 7, pos := 0, outermost := true, count := 0, kept := { lastmark := (-1), lastindex := (-1), whole := false, marks := #[] }, loop := 0, began := none }, { wait := .nextStart, pc := 5, pos := 0, outermost := true, count := 0, kept := { lastmark := (-1), lastindex := (-1), whole := false, marks := #[] }, loop := 0, began := none }], weight := 6, answer := none, seen := ((T1s11 t).seen.add 23), outcome := none }
noncomputable def T1s13 (t : Array Nat) : M := { code := codeT, text := t, lim := 1, start := 0, lastStart := 1, wholeText := false, mustAdvance := false, pc := 53, pos := 1, handed := 1, outermost := true, marks := #[none, none, (some 0), (some 1), none, none], lastmark := 3, lastindex := 2, loops := #[{ pc := 7, count := (-1), began := none, outer := none }, { pc := 49, count := 0, began := (some 1), outer := none }], inner := (some 1), frames := [{ wait := .maxMore, pc := 68, pos := 1, outermost := true, count := 0, kept := { lastmark := 3, lastindex := 2, whole := true, marks := #[none, none, (some 0), (some 1)] }, loop := 1, began := none }, { wait := .closeLoop, pc := 49, pos := 1, outermost := true, count := 0, kept := { lastmark := (-1), lastindex := (-1), whole := false, marks := #[] }, loop := 1, began := none }, { wait := .giveBack, pc := 42, pos := 1, outermost := true, count := 0, kept := { lastmark := 3, lastindex := 2, whole := false, marks := #[] }, loop := 0, began := none }, { wait := .giveBack, pc := 30, pos := 1, outermost := true, count := 0, kept := { lastmark := 2, lastindex := (-1), whole := false, marks := #[] }, loop := 0, began := none }, { wait := .maxTail, pc := 23, pos := 0, outermost := true, count := 0, kept := { lastmark := (-1), lastindex := (-1), whole := false, marks := #[] }, loop := 0, began := none }, { wait := .closeLoop, pc := 7, pos := 0, outermost := true, count := 0, kept := { lastmark := (-1), lastindex := (-1), whole := false, marks := #[] }, loop := 0, began := none }, { wait := .nextStart, pc := 5, pos := 0, outermost := true, count := 0, kept := { lastmark := (-1), lastindex := (-1), whole := false, marks := #[] }, loop := 0, began := none }], weight := 11, answer := none, seen := ((T1s12 t).seen.add 18), outcome := none }
noncomputable def T1s14 (t : Array Nat) : M := { code := codeT, text := t, lim := 1, start := 0, lastStart := 1, wholeText := false, mustAdvance := false, pc := 55, pos := 1, handed := 1, outermost := true, marks := #[none, none, (some 0), (some 1), (some 1), none], lastmark := 4, lastindex := 2, loops := #[{ pc := 7, count := (-1), began := none, outer := none }, { pc := 49, count := 0, began := (some 1), outer := none }], inner := (some 1), frames := [{ wait := .maxMore, pc := 68, pos := 1, outermost := true, count := 0, kept := { lastmark := 3, lastindex := 2, whole := true, marks := #[none, none, (some 0), (some 1)] }, loop := 1, began := none }, { wait := .closeLoop, pc := 49, pos := 1, outermost := true, count := 0, kept := { lastmark := (-1), lastindex := (-1), whole := false, marks := #[] }, loop := 1, began := none }, { wait := .giveBack, pc := 42, pos := 1, outermost := true, count := 0, kept := { lastmark := 3, lastindex := 2, whole := false, marks := #[] }, loop := 0, began := none }, { wait := .giveBack, pc := 30, pos := 1, outermost := true, count := 0, kept := { lastmark := 2, lastindex := (-1), whole := false, marks := #[] }, loop := 0, began := none }, { wait := .maxTail, pc := 23, pos := 0, outermost := true, count := 0, kept := { lastmark := (-1), lastindex := (-1), whole := false, marks := #[] }, loop := 0, began := none }, { wait := .closeLoop, pc := 7, pos := 0, outermost := true, count := 0, kept := { lastmark := (-1), lastindex := (-1), whole := false, marks := #[] }, loop := 0, began := none }, { wait := .nextStart, pc := 5, pos := 0, outermost := true, count := 0, kept := { lastmark := (-1), lastindex := (-1), whole := false, marks := #[] }, loop := 0, began := none }], weight := 11, answer := none, seen := ((T1s13 t).seen.add 17), outcome := none }
noncomputable def T1s15 (t : Array Nat) : M := { code := codeT, text := t, lim := 1, start := 0, lastStart := 1, wholeText := false, mustAdvance := false, pc := 55, pos := 1, handed := 1, outermost := true, marks := #[none, none, (some 0), (some 1), (some 1), none], lastmark := 4, lastindex := 2, loops := #[{ pc := 7, count := (-1), began := none, outer := none }, { pc := 49, count := 0, began := (some 1), outer := none }], inner := (some 1), frames := [{ wait := .maxMore, pc := 68, pos := 1, outermost := true, count := 0, kept := { lastmark := 3, lastindex := 2, whole := true, marks := #[none, none, (some 0), (some 1)] }, loop := 1, began := none }, { wait := .closeLoop, pc := 49, pos := 1, outermost := true, count := 0, kept := { lastmark := (-1), lastindex := (-1), whole := false, marks := #[] }, loop := 1, began := none }, { wait := .giveBack, pc := 42, pos := 1, outermost := true, count := 0, kept := { lastmark := 3, lastindex := 2, whole := false, marks := #[] }, loop := 0, began := none }, { wait := .giveBack, pc := 30, pos := 1, outermost := true, count := 0, kept := { lastmark := 2, lastindex := (-1), whole := false, marks := #[] }, loop := 0, began := none }, { wait := .maxTail, pc := 23, pos := 0, outermost := true, count := 0, kept := { lastmark := (-1), lastindex := (-1), whole := false, marks := #[] }, loop := 0, began := none }, { wait := .closeLoop, pc := 7, pos := 0, outermost := true, count := 0, kept := { lastmark := (-1), lastindex := (-1), whole := false, marks := #[] }, loop := 0, began := none }, { wait := .nextStart, pc := 5, pos := 0, outermost := true, count := 0, kept := { lastmark := (-1), lastindex := (-1), whole := false, marks := #[] }, loop := 0, began := none }], weight := 11, answer := (some false), seen := ((T1s14 t).seen.add 13), outcome := none }
noncomputable def T1s16 (t : Array Nat) : M := { code := codeT, text := t, lim := 1, start := 0, lastStart := 1, wholeText := false, mustAdvance := false, pc := 68, pos := 1, handed := 1, outermost := true, marks := #[none, none, (some 0), (some 1), (some 1), none], lastmark := 3, lastindex := 2, loops := #[{ pc := 7, count := (-1), began := none, outer := none }, { pc := 49, count := (-1), began := none, outer := none }], inner := none, frames := [{ wait := .maxTail, pc := 68, pos := 1, outermost := true, count := 0, kept := { lastmark := 3, lastindex := 2, whole := false, marks := #[] }, loop := 1, began := none }, { wait := .closeLoop, pc := 49, pos := 1, outermost := true, count := 0, kept := { lastmark := (-1), lastindex := (-1), whole := false, marks := #[] }, loop := 1, began := none }, { wait := .giveBack, pc := 42, pos := 1, outermost := true, count := 0, kept := { lastmark := 3, lastindex := 2, whole := false, marks := #[] }, loop := 0, began := none }, { wait := .giveBack, pc := 30, pos := 1, outermost := true, count := 0, kept := { lastmark := 2, lastindex := (-1), whole := false, marks := #[] }, loop := 0, began := none }, { wait := .maxTail, pc := 23, pos := 0, outermost := true, count := 0, kept := { lastmark := (-1), lastindex := (-1), whole := false, marks := #[] }, loop := 0, began := none }, { wait := .closeLoop, pc := 7, pos := 0, outermost := true, count := 0, kept := { lastmark := (-1), lastindex := (-1), whole := false, marks := #[] }, loop := 0, began := none }, { wait := .nextStart, pc := 5, pos := 0, outermost := true, count := 0, kept := { lastmark := (-1), lastindex := (-1), whole := false, marks := #[] }, loop := 0, began := none }], weight := 7, answer := none, seen := (T1s15 t).seen, outcome := none }
noncomputable def T1s17 (t : Array Nat) : M := { code := codeT, text := t, lim := 1, start := 0, lastStart := 1, wholeText := false, mustAdvance := false, pc := 70, pos := 1, handed := 1, outermost := true, marks := #[none, none, (some 0), (some 1), (some 1), none], lastmark := 3, lastindex := 2, loops := #[{ pc := 7, count := (-1), began := none, outer := none }, { pc := 49, count := (-1), began := none, outer := none }], inner := none, frames := [{ wait := .maxTail, pc := 68, pos := 1, outermost := true, count := 0, kept := { lastmark := 3, lastindex := 2, whole := false, marks := #[] }, loop := 1, began := none }, { wait := .closeLoop, pc := 49, pos := 1, outermost := true, count := 0, kept := { lastmark := (-1), lastindex := (-1), whole := false, marks := #[] }, loop := 1, began := none }, { wait := .giveBack, pc := 42, pos := 1, outermost := true, count := 0, kept := { lastmark := 3, lastindex := 2, whole := false, marks := #[] }, loop := 0, began := none }, { wait := .giveBack, pc := 30, pos := 1, outermost := true, count := 0, kept := { lastmark := 2, lastindex := (-1), whole := false, marks := #[] }, loop := 0, began := none }, { wait := .maxTail, pc := 23, pos := 0, outermost := true, count := 0, kept := { lastmark := (-1), lastindex := (-1), whole := false, marks := #[] }, loop := 0, began := none }, { wait := .closeLoop, pc := 7, pos := 0, outermost := true, count := 0, kept := { lastmark := (-1), lastindex := (-1), whole := false, marks := #[] }, loop := 0, began := none }, { wait := .nextStart, pc := 5, pos := 0, outermost := true, count := 0, kept := { lastmark := (-1), lastindex := (-1), whole := false, marks := #[] }, loop := 0, began := none }], weight := 7, answer := none, seen := (((T1s16 t).seen.add 6).add 48), outcome := none }
noncomputable def T1s18 (t : Array Nat) : M := { code := codeT, text := t, lim := 1, start := 0, lastStart := 1, wholeText := false, mustAdvance := false, pc := 70, pos := 1, handed := 1, outermost := true, marks := #[none, none, (some 0), (some 1), (some 1), none], lastmark := 3, lastindex := 2, loops := #[{ pc := 7, count := (-1), began := none, outer := none }, { pc := 49, count := (-1), began := none, outer := none }], inner := none, frames := [{ wait := .maxTail, pc := 68, pos := 1, outermost := true, count := 0, kept := { lastmark := 3, lastindex := 2, whole := false, marks := #[] }, loop := 1, began := none }, { wait := .closeLoop, pc := 49, pos := 1, outermost := true, count := 0, kept := { lastmark := (-1), lastindex := (-1), whole := false, marks := #[] }, loop := 1, began := none }, { wait := .giveBack, pc := 42, pos := 1, outermost := true, count := 0, kept := { lastmark := 3, lastindex := 2, whole := false, marks := #[] }, loop := 0, began := none }, { wait := .giveBack, pc := 30, pos := 1, outermost := true, count := 0, kept := { lastmark := 2, lastindex := (-1), whole := false, marks := #[] }, loop := 0, began := none }, { wait := .maxTail, pc := 23, pos := 0, outermost := true, count := 0, kept := { lastmark := (-1), lastindex := (-1), whole := false, marks := #[] }, loop := 0, began := none }, { wait := .closeLoop, pc := 7, pos := 0, outermost := true, count := 0, kept := { lastmark := (-1), lastindex := (-1), whole := false, marks := #[] }, loop := 0, began := none }, { wait := .nextStart, pc := 5, pos := 0, outermost := true, count := 0, kept := { lastmark := (-1), lastindex := (-1), whole := false, marks := #[] }, loop := 0, began := none }], weight := 7, answer := (some true), seen := ((T1s17 t).seen.add 1), outcome := none }
noncomputable def T1s19 (t : Array Nat) : M := { code := codeT, text := t, lim := 1, start := 0, lastStart := 1, wholeText := false, mustAdvance := false, pc := 68, pos := 1, handed := 1, outermost := true, marks := #[none, none, (some 0), (some 1), (some 1), none], lastmark := 3, lastindex := 2, loops := #[{ pc := 7, count := (-1), began := none, outer := none }, { pc := 49, count := (-1), began := none, outer := none }], inner := (some 1), frames := [{ wait := .closeLoop, pc := 49, pos := 1, outermost := true, count := 0, kept := { lastmark := (-1), lastindex := (-1), whole := false, marks := #[] }, loop := 1, began := none }, { wait := .giveBack, pc := 42, pos := 1, outermost := true, count := 0, kept := { lastmark := 3, lastindex := 2, whole := false, marks := #[] }, loop := 0, began := none }, { wait := .giveBack, pc := 30, pos := 1, outermost := true, count := 0, kept := { lastmark := 2, lastindex := (-1), whole := false, marks := #[] }, loop := 0, began := none }, { wait := .maxTail, pc := 23, pos := 0, outermost := true, count := 0, kept := { lastmark := (-1), lastindex := (-1), whole := false, marks := #[] }, loop := 0, began := none }, { wait := .closeLoop, pc := 7, pos := 0, outermost := true, count := 0, kept := { lastmark := (-1), lastindex := (-1), whole := false, marks := #[] }, loop := 0, began := none }, { wait := .nextStart, pc := 5, pos := 0, outermost := true, count := 0, kept := { lastmark := (-1), lastindex := (-1), whole := false, marks := #[] }, loop := 0, began := none }], weight := 6, answer := (some true), seen := (T1s18 t).seen, outcome := none }
noncomputable def T1s20 (t : Array Nat) : M := { code := codeT, text := t, lim := 1, start := 0, lastStart := 1, wholeText := false, mustAdvance := false, pc := 49, pos := 1, handed := 1, outermost := true, marks := #[none, none, (some 0), (some 1), (some 1), none], lastmark := 3, lastindex := 2, loops := #[{ pc := 7, count := (-1), began := none, outer := none }], inner := none, frames := [{ wait := .giveBack, pc := 42, pos := 1, outermost := true, count := 0, kept := { lastmark := 3, lastindex := 2, whole := false, marks := #[] }, loop := 0, began := none }, { wait := .giveBack, pc := 30, pos := 1, outermost := true, count := 0, kept := { lastmark := 2, lastindex := (-1), whole := false, marks := #[] }, loop := 0, began := none }, { wait := .maxTail, pc := 23, pos := 0, outermost := true, count := 0, kept := { lastmark := (-1), lastindex := (-1), whole := false, marks := #[] }, loop := 0, began := none }, { wait := .closeLoop, pc := 7, pos := 0, outermost := true, count := 0, kept := { lastmark := (-1), lastindex := (-1), whole := false, marks := #[] }, loop := 0, began := none }, { wait := .nextStart, pc := 5, pos := 0, outermost := true, count := 0, kept := { lastmark := (-1), lastindex := (-1), whole := false, marks := #[] }, loop := 0, began := none }], weight := 5, answer := (some true), seen := (T1s19 t).seen, outcome := none }
noncomputable def T1s21 (t : Array Nat) : M := { code := codeT, text := t, lim := 1, start := 0, lastStart := 1, wholeText := false, mustAdvance := false, pc := 42, pos := 1, handed := 1, outermost := true, marks := #[none, none, (some 0), (some 1), (some 1), none], lastmark := 3, lastindex := 2, loops := #[{ pc := 7, count := (-1), began := none, outer := none }], inner := none, frames := [{ wait := .giveBack, pc := 30, pos := 1, outermost := true, count := 0, kept := { lastmark := 2, lastindex := (-1), whole := false, marks := #[] }, loop := 0, began := none }, { wait := .maxTail, pc := 23, pos := 0, outermost := true, count := 0, kept := { lastmark := (-1), lastindex := (-1), whole := false, marks := #[] }, loop := 0, began := none }, { wait := .closeLoop, pc := 7, pos := 0, outermost := true, count := 0, kept := { lastmark := (-1), lastindex := (-1), whole := false, marks := #[] }, loop := 0, began := none }, { wait := .nextStart, pc := 5, pos := 0, outermost := true, count := 0, kept := { lastmark := (-1), lastindex := (-1), whole := false, marks := #[] }, loop := 0, began := none }], weight := 4, answer := (some true), seen := (T1s20 t).seen, outcome := none }
noncomputable def T1s22 (t : Array Nat) : M := { code := codeT, text := t, lim := 1, start := 0, lastStart := 1, wholeText := false, mustAdvance := false, pc := 30, pos := 1, handed := 1, outermost := true, marks := #[none, none, (some 0), (some 1), (some 1), none], lastmark := 3, lastindex := 2, loops := #[{ pc := 7, count := (-1), began := none, outer := none }], inner := none, frames := [{ wait := .maxTail, pc := 23, pos := 0, outermost := true, count := 0, kept := { lastmark := (-1), lastindex := (-1), whole := false, marks := #[] }, loop := 0, began := none }, { wait := .closeLoop, pc := 7, pos := 0, outermost := true, count := 0, kept := { lastmark := (-1), lastindex := (-1), whole := false, marks := #[] }, loop := 0, began := none }, { wait := .nextStart, pc := 5, pos := 0, outermost := true, count := 0, kept := { lastmark := (-1), lastindex := (-1), whole := false, marks := #[] }, loop := 0, began := none }], weight := 3, answer := (some true), seen := (T1s21 t).seen, outcome := none }
noncomputable def T1s23 (t : Array Nat) : M := { code := codeT, text := t, lim := 1, start := 0, lastStart := 1, wholeText := false, mustAdvance := false, pc := 23, pos := 0, handed := 1, outermost := true, marks := #[none, none, (some 0), (some 1), (some 1), none], lastmark := 3, lastindex := 2, loops := #[{ pc := 7, count := (-1), began := none, outer := none }], inner := (some 0), frames := [{ wait := .closeLoop, pc := 7, pos := 0, outermost := true, count := 0, kept := { lastmark := (-1), lastindex := (-1), whole := false, marks := #[] }, loop := 0, began := none }, { wait := .nextStart, pc := 5, pos := 0, outermost := true, count := 0, kept := { lastmark := (-1), lastindex := (-1), whole := false, marks := #[] }, loop := 0, began := none }], weight := 2, answer := (some true), seen := (T1s22 t).seen, outcome := none }
noncomputable def T1s24 (t : Array Nat) : M := { code := codeT, text := t, lim := 1, start := 0, lastStart := 1, wholeText := false, mustAdvance := false, pc := 7, pos := 0, handed := 1, outermost := true, marks := #[none, none, (some 0), (some 1), (some 1), none], lastmark := 3, lastindex := 2, loops := #[], inner := none, frames := [{ wait := .nextStart, pc := 5, pos := 0, outermost := true, count := 0, kept := { lastmark := (-1), lastindex := (-1), whole := false, marks := #[] }, loop := 0, began := none }], weight := 1, answer := (some true), seen := (T1s23 t).seen, outcome := none }
noncomputable def T1s25 (t : Array Nat) : M := { code := codeT, text := t, lim := 1, start := 0, lastStart := 1, wholeText := false, mustAdvance := false, pc := 5, pos := 0, handed := 1, outermost := true, marks := #[none, none, (some 0), (some 1), (some 1), none], lastmark := 3, lastindex := 2, loops := #[], inner := none, frames := [], weight := 0, answer := (some true), seen := (T1s24 t).seen, outcome := none }
noncomputable def T1s26 (t : Array Nat) : M := { code := codeT, text := t, lim := 1, start := 0, lastStart := 1, wholeText := false, mustAdvance := false, pc := 5, pos := 0, handed := 1, outermost := true, marks := #[none, none, (some 0), (some 1), (some 1), none], lastmark := 3, lastindex := 2, loops := #[], inner := none, frames := [], weight := 0, answer := (some true), seen := (T1s25 t).seen, outcome := (some .matched) }
theorem T1e0 {t : Array Nat} : M.step (T1s0 t) = T1s1 t := by kernel_rfl
theorem T1e1 {t : Array Nat} : M.step (T1s1 t) = T1s2 t := by kernel_rfl
theorem T1e2 {t : Array Nat} : M.step (T1s2 t) = T1s3 t := by kernel_rfl
theorem T1e3 {t : Array Nat} : M.step (T1s3 t) = T1s4 t := by kernel_rfl
theorem T1e4 {t : Array Nat} (h0 : isDigit (t.getD 0 0) = true) : M.step (T1s4 t) = T1s5 t := (step_exec rfl rfl (show 13 < 71 by decide)).trans ((exec_char (op := .IN) rfl (.inr rfl) (show 0 < 1 by decide) (acc13 h0)).trans (by kernel_rfl))
theorem T1e5 {t : Array Nat} : M.step (T1s5 t) = T1s6 t := by kernel_rfl
theorem T1e6 {t : Array Nat} : M.step (T1s6 t) = T1s7 t := by kernel_rfl
theorem T1e7 {t : Array Nat} (h0 : isDigit (t.getD 0 0) = true) : M.step (T1s7 t) = T1s8 t := (step_exec rfl rfl (show 25 < 71 by decide)).trans ((exec_char (op := .IN) rfl (.inr rfl) (show 0 < 1 by decide) (acc25 h0)).trans (by kernel_rfl))
theorem T1e8 {t : Array Nat} : M.step (T1s8 t) = T1s9 t := by kernel_rfl
theorem T1e9 {t : Array Nat} : M.step (T1s9 t) = T1s10 t := by kernel_rfl
theorem T1e10 {t : Array Nat} : M.step (T1s10 t) = T1s11 t := by kernel_rfl
theorem T1e11 {t : Array Nat} : M.step (T1s11 t) = T1s12 t := by kernel_rfl
theorem T1e12 {t : Array Nat} : M.step (T1s12 t) = T1s13 t := by kernel_rfl
theorem T1e13 {t : Array Nat} : M.step (T1s13 t) = T1s14 t := by kernel_rfl
theorem T1e14 {t : Array Nat} : M.step (T1s14 t) = T1s15 t := by kernel_rfl
theorem T1e15 {t : Array Nat} : M.step (T1s15 t) = T1s16 t := by kernel_rfl
theorem T1e16 {t : Array Nat} : M.step (T1s16 t) = T1s17 t := by kernel_rfl
theorem T1e17 {t : Array Nat} : M.step (T1s17 t) = T1s18 t := by kernel_rfl
theorem T1e18 {t : Array Nat} : M.step (T1s18 t) = T1s19 t := by kernel_rfl
theorem T1e19 {t : Array Nat} : M.step (T1s19 t) = T1s20 t := by kernel_rfl
theorem T1e20 {t : Array Nat} : M.step (T1s20 t) = T1s21 t := by kernel_rfl
theorem T1e21 {t : Array Nat} : M.step (T1s21 t) = T1s22 t := by kernel_rfl
theorem T1e22 {t : Array Nat} : M.step (T1s22 t) = T1s23 t := by kernel_rfl
theorem T1e23 {t : Array Nat} : M.step (T1s23 t) = T1s24 t := by kernel_rfl
theorem T1e24 {t : Array Nat} : M.step (T1s24 t) = T1s25 t := by kernel_rfl
theorem T1e25 {t : Array Nat} : M.step (T1s25 t) = T1s26 t := by kernel_rfl
theorem searchT1i {t : Array Nat} : M.attemptFrom (preT t 1) 0 true = T1s0 t := by kernel_rfl
theorem searchT1 {t : Array Nat} (h0 : isDigit (t.getD 0 0) = true) : M.runFor 26 (forSearch codeT t 3 0 1 false) = T1s26 t :=
  (congrArg (M.runFor 26) ((forSearchT (by decide)).trans searchT1i)).trans <|
  (runFor_step (m := T1s0 t) (m' := T1s1 t) rfl T1e0 25).trans <|
  (runFor_step (m := T1s1 t) (m' := T1s2 t) rfl T1e1 24).trans <|
  (runFor_step (m := T1s2 t) (m' := T1s3 t) rfl T1e2 23).trans <|
  (runFor_step (m := T1s3 t) (m' := T1s4 t) rfl T1e3 22).trans <|
  (runFor_step (m := T1s4 t) (m' := T1s5 t) rfl (T1e4 h0) 21).trans <|
  (runFor_step (m := T1s5 t) (m' := T1s6 t) rfl T1e5 20).trans <|
  (runFor_step (m := T1s6 t) (m' := T1s7 t) rfl T1e6 19).trans <|
  (runFor_step (m := T1s7 t) (m' := T1s8 t) rfl (T1e7 h0) 18).trans <|
  (runFor_step (m := T1s8 t) (m' := T1s9 t) rfl T1e8 17).trans <|
  (runFor_step (m := T1s9 t) (m' := T1s10 t) rfl T1e9 16).trans <|
  (runFor_step (m := T1s10 t) (m' := T1s11 t) rfl T1e10 15).trans <|
  (runFor_step (m := T1s11 t) (m' := T1s12 t) rfl T1e11 14).trans <|
  (runFor_step (m := T1s12 t) (m' := T1s13 t) rfl T1e12 13).trans <|
  (runFor_step (m := T1s13 t) (m' := T1s14 t) rfl T1e13 12).trans <|
  (runFor_step (m := T1s14 t) (m' := T1s15 t) rfl T1e14 11).trans <|
  (runFor_step (m := T1s15 t) (m' := T1s16 t) rfl T1e15 10).trans <|
  (runFor_step (m := T1s16 t) (m' := T1s17 t) rfl T1e16 9).trans <|
  (runFor_step (m := T1s17 t) (m' := T1s18 t) rfl T1e17 8).trans <|
  (runFor_step (m := T1s18 t) (m' := T1s19 t) rfl T1e18 7).trans <|
  (runFor_step (m := T1s19 t) (m' := T1s20 t) rfl T1e19 6).trans <|
  (runFor_step (m := T1s20 t) (m' := T1s21 t) rfl T1e20 5).trans <|
  (runFor_step (m := T1s21 t) (m' := T1s22 t) rfl T1e21 4).trans <|
  (runFor_step (m := T1s22 t) (m' := T1s23 t) rfl T1e22 3).trans <|
  (runFor_step (m := T1s23 t) (m' := T1s24 t) rfl T1e23 2).trans <|
  (runFor_step (m := T1s24 t) (m' := T1s25 t) rfl T1e24 1).trans <|
  (runFor_step (m := T1s25 t) (m' := T1s26 t) rfl T1e25 0).trans <|
  rfl
noncomputable def T2s0 (t : Array Nat) : M := { code := codeT, text := t, lim := 2, start := 0, lastStart := 2, wholeText := false, mustAdvance := false, pc := 5, pos := 0, handed := 0, outermost := true, marks := #[none, none, none, none, none, none], lastmark := (-1), lastindex := (-1), loops := #[], inner := none, frames := [{ wait := .nextStart, pc := 5, pos := 0, outermost := true, count := 0, kept := { lastmark := (-1), lastindex := (-1), whole := false, marks := #[] }, loop := 0, began := none }], weight := 1, answer := none, seen := ({} : Seen).add 14, outcome := none }
noncomputable def T2s1 (t : Array Nat) : M := { code := codeT, text := t, lim := 2, start := 0, lastStart := 2, wholeText := false, mustAdvance := false, pc := 7, pos := 0, handed := 0, outermost := true, marks := #[none, none, none, none, none, none], lastmark := (-1), lastindex := (-1), loops := #[], inner := none, frames := [{ wait := .nextStart, pc := 5, pos := 0, outermost := true, count := 0, kept := { lastmark := (-1), lastindex := (-1), whole := false, marks := #[] }, loop := 0, began := none }], weight := 1, answer := none, seen := (((T2s0 t).seen.add 6).add 43), outcome := none }
noncomputable def T2s2 (t : Array Nat) : M := { code := codeT, text := t, lim := 2, start := 0, lastStart := 2, wholeText := false, mustAdvance := false, pc := 22, pos := 0, handed := 0, outermost := true, marks := #[none, none, none, none, none, none], lastmark := (-1), lastindex := (-1), loops := #[{ pc := 7, count := (-1), began := none, outer := none }], inner := (some 0), frames := [{ wait := .closeLoop, pc := 7, pos := 0, outermost := true, count := 0, kept := { lastmark := (-1), lastindex := (-1), whole := false, marks := #[] }, loop := 0, began := none }, { wait := .nextStart, pc := 5, pos := 0, outermost := true, count := 0, kept := { lastmark := (-1), lastindex := (-1), whole := false, marks := #[] }, loop := 0, began := none }], weight := 2, answer := none, seen := ((T2s1 t).seen.add 23), outcome := none }
noncomputable def T2s3 (t : Array Nat) : M := { code := codeT, text := t, lim := 2, start := 0, lastStart := 2, wholeText := false, mustAdvance := false, pc := 11, pos := 0, handed := 0, outermost := true, marks := #[none, none, none, none, none, none], lastmark := (-1), lastindex := (-1), loops := #[{ pc := 7, count := 0, began := (some 0), outer := none }], inner := (some 0), frames := [{ wait := .maxMore, pc := 23, pos := 0, outermost := true, count := 0, kept := { lastmark := (-1), lastindex := (-1), whole := true, marks := #[] }, loop := 0, began := none }, { wait := .closeLoop, pc := 7, pos := 0, outermost := true, count := 0, kept := { lastmark := (-1), lastindex := (-1), whole := false, marks := #[] }, loop := 0, began := none }, { wait := .nextStart, pc := 5, pos := 0, outermost := true, count := 0, kept := { lastmark := (-1), lastindex := (-1), whole := false, marks := #[] }, loop := 0, began := none }], weight := 3, answer := none, seen := ((T2s2 t).seen.add 18), outcome := none }
noncomputable def T2s4 (t : Array Nat) : M := { code := codeT, text := t, lim := 2, start := 0, lastStart := 2, wholeText := false, mustAdvance := false, pc := 13, pos := 0, handed := 0, outermost := true, marks := #[(some 0), none, none, none, none, none], lastmark := 0, lastindex := (-1), loops := #[{ pc := 7, count := 0, began := (some 0), outer := none }], inner := (some 0), frames := [{ wait := .maxMore, pc := 23, pos := 0, outermost := true, count := 0, kept := { lastmark := (-1), lastindex := (-1), whole := true, marks := #[] }, loop := 0, began := none }, { wait := .closeLoop, pc := 7, pos := 0, outermost := true, count := 0, kept := { lastmark := (-1), lastindex := (-1), whole := false, marks := #[] }, loop := 0, began := none }, { wait := .nextStart, pc := 5, pos := 0, outermost := true, count := 0, kept := { lastmark := (-1), lastindex := (-1), whole := false, marks := #[] }, loop := 0, began := none }], weight := 3, answer := none, seen := ((T2s3 t).seen.add 17), outcome := none }
noncomputable def T2s5 (t : Array Nat) : M := { code := codeT, text := t, lim := 2, start := 0, lastStart := 2, wholeText := false, mustAdvance := false, pc := 13, pos := 0, handed := 0, outermost := true, marks := #[(some 0), none, none, none, none, none], lastmark := 0, lastindex := (-1), loops := #[{ pc := 7, count := 0, began := (some 0), outer := none }], inner := (some 0), frames := [{ wait := .maxMore, pc := 23, pos := 0, outermost := true, count := 0, kept := { lastmark := (-1), lastindex := (-1), whole := true, marks := #[] }, loop := 0, began := none }, { wait := .closeLoop, pc := 7, pos := 0, outermost := true, count := 0, kept := { lastmark := (-1), lastindex := (-1), whole := false, marks := #[] }, loop := 0, began := none }, { wait := .nextStart, pc := 5, pos := 0, outermost := true, count := 0, kept := { lastmark := (-1), lastindex := (-1), whole := false, marks := #[] }, loop := 0, began := none }], weight := 3, answer := (some false), seen := (((((T2s4 t).seen.add 13).add 16).add 16).add 0), outcome := none }
noncomputable def T2s6 (t : Array Nat) : M := { code := codeT, text := t, lim := 2, start := 0, lastStart := 2, wholeText := false, mustAdvance := false, pc := 23, pos := 0, handed := 0, outermost := true, marks := #[(some 0), none, none, none, none, none], lastmark := (-1), lastindex := (-1), loops := #[{ pc := 7, count := (-1), began := none, outer := none }], inner := none, frames := [{ wait := .maxTail, pc := 23, pos := 0, outermost := true, count := 0, kept := { lastmark := (-1), lastindex := (-1), whole := false, marks := #[] }, loop := 0, began := none }, { wait := .closeLoop, pc := 7, pos := 0, outermost := true, count := 0, kept := { lastmark := (-1), lastindex := (-1), whole := false, marks := #[] }, loop := 0, began := none }, { wait := .nextStart, pc := 5, pos := 0, outermost := true, count := 0, kept := { lastmark := (-1), lastindex := (-1), whole := false, marks := #[] }, loop := 0, began := none }], weight := 3, answer := none, seen := (T2s5 t).seen, outcome := none }
noncomputable def T2s7 (t : Array Nat) : M := { code := codeT, text := t, lim := 2, start := 0, lastStart := 2, wholeText := false, mustAdvance := false, pc := 25, pos := 0, handed := 0, outermost := true, marks := #[none, none, (some 0), none, none, none], lastmark := 2, lastindex := (-1), loops := #[{ pc := 7, count := (-1), began := none, outer := none }], inner := none, frames := [{ wait := .maxTail, pc := 23, pos := 0, outermost := true, count := 0, kept := { lastmark := (-1), lastindex := (-1), whole := false, marks := #[] }, loop := 0, began := none }, { wait := .closeLoop, pc := 7, pos := 0, outermost := true, count := 0, kept := { lastmark := (-1), lastindex := (-1), whole := false, marks := #[] }, loop := 0, began := none }, { wait := .nextStart, pc := 5, pos := 0, outermost := true, count := 0, kept := { lastmark := (-1), lastindex := (-1), whole := false, marks := #[] }, loop := 0, began := none }], weight := 3, answer := none, seen := ((T2s6 t).seen.add 17), outcome := none }
noncomputable def T2s8 (t : Array Nat) : M := { code := codeT, text := t, lim := 2, start := 0, lastStart := 2, wholeText := false, mustAdvance := false, pc := 30, pos := 1, handed := 0, outermost := true, marks := #[none, none, (some 0), none, none, none], lastmark := 2, lastindex := (-1), loops := #[{ pc := 7, count := (-1), began := none, outer := none }], inner := none, frames := [{ wait := .maxTail, pc := 23, pos := 0, outermost := true, count := 0, kept := { lastmark := (-1), lastindex := (-1), whole := false, marks := #[] }, loop := 0, began := none }, { wait := .closeLoop, pc := 7, pos := 0, outermost := true, count := 0, kept := { lastmark := (-1), lastindex := (-1), whole := false, marks := #[] }, loop := 0, began := none }, { wait := .nextStart, pc := 5, pos := 0, outermost := true, count := 0, kept := { lastmark := (-1), lastindex := (-1), whole := false, marks := #[] }, loop := 0, began := none }], weight := 3, answer := none, seen := ((((T2s7 t).seen.add 13).add 8).add 55), outcome := none }
noncomputable def T2s9 (t : Array Nat) : M := { code := codeT, text := t, lim := 2, start := 0, lastStart := 2, wholeText := false, mustAdvance := false, pc := 40, pos := 2, handed := 2, outermost := true, marks := #[none, none, (some 0), none, none, none], lastmark := 2, lastindex := (-1), loops := #[{ pc := 7, count := (-1), began := none, outer := none }], inner := none, frames := [{ wait := .giveBack, pc := 30, pos := 2, outermost := true, count := 1, kept := { lastmark := 2, lastindex := (-1), whole := false, marks := #[] }, loop := 0, began := none }, { wait := .maxTail, pc := 23, pos := 0, outermost := true, count := 0, kept := { lastmark := (-1), lastindex := (-1), whole := false, marks := #[] }, loop := 0, began := none }, { wait := .closeLoop, pc := 7, pos := 0, outermost := true, count := 0, kept := { lastmark := (-1), lastindex := (-1), whole := false, marks := #[] }, loop := 0, began := none }, { wait := .nextStart, pc := 5, pos := 0, outermost := true, count := 0, kept := { lastmark := (-1), lastindex := (-1), whole := false, marks := #[] }, loop := 0, began := none }], weight := 4, answer := none, seen := (((((T2s8 t).seen.add 24).add 13).add 8).add 55), outcome := none }
noncomputable def T2s10 (t : Array Nat) : M := { code := codeT, text := t, lim := 2, start := 0, lastStart := 2, wholeText := false, mustAdvance := false, pc := 42, pos := 2, handed := 2, outermost := true, marks := #[none, none, (some 0), (some 2), none, none], lastmark := 3, lastindex := 2, loops := #[{ pc := 7, count := (-1), began := none, outer := none }], inner := none, frames := [{ wait := .giveBack, pc := 30, pos := 2, outermost := true, count := 1, kept := { lastmark := 2, lastindex := (-1), whole := false, marks := #[] }, loop := 0, began := none }, { wait := .maxTail, pc := 23, pos := 0, outermost := true, count := 0, kept := { lastmark := (-1), lastindex := (-1), whole := false, marks := #[] }, loop := 0, began := none }, { wait := .closeLoop, pc := 7, pos := 0, outermost := true, count := 0, kept := { lastmark := (-1), lastindex := (-1), whole := false, marks := #[] }, loop := 0, began := none }, { wait := .nextStart, pc := 5, pos := 0, outermost := true, count := 0, kept := { lastmark := (-1), lastindex := (-1), whole := false, marks := #[] }, loop := 0, began := none }], weight := 4, answer := none, seen := ((T2s9 t).seen.add 17), outcome := none }
noncomputable def T2s11 (t : Array Nat) : M := { code := codeT, text := t, lim := 2, start := 0, lastStart := 2, wholeText := false, mustAdvance := false, pc := 49, pos := 2, handed := 2, outermost := true, marks := #[none, none, (some 0), (some 2), none, none], lastmark := 3, lastindex := 2, loops := #[{ pc := 7, count := (-1), began := none, outer := none }], inner := none, frames := [{ wait := .giveBack, pc := 42, pos := 2, outermost := true, count := 0, kept := { lastmark := 3, lastindex := 2, whole := false, marks := #[] }, loop := 0, began := none }, { wait := .giveBack, pc := 30, pos := 2, outermost := true, count := 1, kept := { lastmark := 2, lastindex := (-1), whole := false, marks := #[] }, loop := 0, began := none }, { wait := .maxTail, pc := 23, pos := 0, outermost := true, count := 0, kept := { lastmark := (-1), lastindex := (-1), whole := false, marks := #[] }, loop := 0, began := none }, { wait := .closeLoop, pc := 7, pos := 0, outermost := true, count := 0, kept := { lastmark := (-1), lastindex := (-1), whole := false, marks := #[] }, loop := 0, began := none }, { wait := .nextStart, pc := 5, pos := 0, outermost := true, count := 0, kept := { lastmark := (-1), lastindex := (-1), whole := false, marks := #[] }, loop := 0, began := none }], weight := 5, answer := none, seen := (((T2s10 t).seen.add 24).add 16), outcome := none }
noncomputable def T2s12 (t : Array Nat) : M := { code := codeT, text := t, lim := 2, start := 0, lastStart := 2, wholeText := false, mustAdvance := false, pc := 67, pos := 2, handed := 2, outermost := true, marks := #[none, none, (some 0), (some 2), none, none], lastmark := 3, lastindex := 2, loops := #[{ pc := 7, count := (-1), began := none, outer := none }, { pc := 49, count := (-1), began := none, outer := none }], inner := (some 1), frames := [{ wait := .closeLoop, pc := 49, pos := 2, outermost := true, count := 0, kept := { lastmark := (-1), lastindex := (-1), whole := false, marks := #[] }, loop := 1, began := none }, { wait := .giveBack, pc := 42, pos := 2, outermost := true, count := 0, kept := { lastmark := 3, lastindex := 2, whole := false, marks := #[] }, loop := 0, began := none }, { wait := .giveBack, pc := 30, pos := 2, outermost := true, count := 1, kept := { lastmark := 2, lastindex := (-1), whole := false, marks := #[] }, loop := 0, began := none }, { wait := .maxTail, pc := 23, pos := 0, outermost := true, count := 0, kept := { lastmark := (-1), lastindex := (-1), whole := false, marks := #[] }, loop := 0, began := none }, { wait := .closeLoop, pc := 7, pos := 0, outermost := true, count := 0, kept := { lastmark := (-1), lastindex := (-1), whole := false, marks := #[] }, loop := 0, began := none }, { wait := .nextStart, pc := 5, pos := 0, outermost := true, count := 0, kept := { lastmark := (-1), lastindex := (-1), whole := false, marks := #[] }, loop := 0, began := none }], weight := 6, answer := none, seen := ((T2s11 t).seen.add 23), outcome := none }
noncomputable def T2s13 (t : Array Nat) : M := { code := codeT, text := t, lim := 2, start := 0, lastStart := 2, wholeText := false, mustAdvance := false, pc := 53, pos := 2, handed := 2, outermost := true, marks := #[none, none, (some 0), (some 2), none, none], lastmark := 3, lastindex := 2, loops := #[{ pc := 7, count := (-1), began := none, outer := none }, { pc := 49, count := 0, began := (some 2), outer := none }], inner := (some 1), frames := [{ wait := .maxMore, pc := 68, pos := 2, outermost := true, count := 0, kept := { lastmark := 3, lastindex := 2, whole := true, marks := #[none, none, (some 0), (some 2)] }, loop := 1, began := none }, { wait := .closeLoop, pc := 49, pos := 2, outermost := true, count := 0, kept := { lastmark := (-1), lastindex := (-1), whole := false, marks := #[] }, loop := 1, began := none }, { wait := .giveBack, pc := 42, pos := 2, outermost := true, count := 0, kept := { lastmark := 3, lastindex := 2, whole := false, marks := #[] }, loop := 0, began := none }, { wait := .giveBack, pc := 30, pos := 2, outermost := true, count := 1, kept := { lastmark := 2, lastindex := (-1), whole := false, marks := #[] }, loop := 0, began := none }, { wait := .maxTail, pc := 23, pos := 0, outermost := true, count := 0, kept := { lastmark := (-1), lastindex := (-1), whole := false, marks := #[] }, loop := 0, began := none }, { wait := .closeLoop, pc := 7, pos := 0, outermost := true, count := 0, kept := { lastmark := (-1), lastindex := (-1), whole := false, marks := #[] }, loop := 0, began := none }, { wait := .nextStart, pc := 5, pos := 0, outermost := true, count := 0, kept := { lastmark := (-1), lastindex := (-1), whole := false, marks := #[] }, loop := 0, began := none }], weight := 11, answer := none, seen := ((T2s12 t).seen.add 18), outcome := none }
noncomputable def T2s14 (t : Array Nat) : M := { code := codeT, text := t, lim := 2, start := 0, lastStart := 2, wholeText := false, mustAdvance := false, pc := 55, pos := 2, handed := 2, outermost := true, marks := #[none, none, (some 0), (some 2), (some 2), none], lastmark := 4, lastindex := 2, loops := #[{ pc := 7, count := (-1), began := none, outer := none }, { pc := 49, count := 0, began := (some 2), outer := none }], inner := (some 1), frames := [{ wait := .maxMore, pc := 68, pos := 2, outermost := true, count := 0, kept := { lastmark := 3, lastindex := 2, whole := true, marks := #[none, none, (some 0), (some 2)] }, loop := 1, began := none }, { wait := .closeLoop, pc := 49, pos := 2, outermost := true, count := 0, kept := { lastmark := (-1), lastindex := (-1), whole := false, marks := #[] }, loop := 1, began := none }, { wait := .giveBack, pc := 42, pos := 2, outermost := true, count := 0, kept := { lastmark := 3, lastindex := 2, whole := false, marks := #[] }, loop := 0, began := none }, { wait := .giveBack, pc := 30, pos := 2, outermost := true, count := 1, kept := { lastmark := 2, lastindex := (-1), whole := false, marks := #[] }, loop := 0, began := none }, { wait := .maxTail, pc := 23, pos := 0, outermost := true, count := 0, kept := { lastmark := (-1), lastindex := (-1), whole := false, marks := #[] }, loop := 0, began := none }, { wait := .closeLoop, pc := 7, pos := 0, outermost := true, count := 0, kept := { lastmark := (-1), lastindex := (-1), whole := false, marks := #[] }, loop := 0, began := none }, { wait := .nextStart, pc := 5, pos := 0, outermost := true, count := 0, kept := { lastmark := (-1), lastindex := (-1), whole := false, marks := #[] }, loop := 0, began := none }], weight := 11, answer := none, seen := ((T2s13 t).seen.add 17), outcome := none }
noncomputable def T2s15 (t : Array Nat) : M := { code := codeT, text := t, lim := 2, start := 0, lastStart := 2, wholeText := false, mustAdvance := false, pc := 55, pos := 2, handed := 2, outermost := true, marks := #[none, none, (some 0), (some 2), (some 2), none], lastmark := 4, lastindex := 2, loops := #[{ pc := 7, count := (-1), began := none, outer := none }, { pc := 49, count := 0, began := (some 2), outer := none }], inner := (some 1), frames := [{ wait := .maxMore, pc := 68, pos := 2, outermost := true, count := 0, kept := { lastmark := 3, lastindex := 2, whole := true, marks := #[none, none, (some 0), (some 2)] }, loop := 1, began := none }, { wait := .closeLoop, pc := 49, pos := 2, outermost := true, count := 0, kept := { lastmark := (-1), lastindex := (-1), whole := false, marks := #[] }, loop := 1, began := none }, { wait := .giveBack, pc := 42, pos := 2, outermost := true, count := 0, kept := { lastmark := 3, lastindex := 2, whole := false, marks := #[] }, loop := 0, began := none }, { wait := .giveBack, pc := 30, pos := 2, outermost := true, count := 1, kept := { lastmark := 2, lastindex := (-1), whole := false, marks := #[] }, loop := 0, began := none }, { wait := .maxTail, pc := 23, pos := 0, outermost := true, count := 0, kept := { lastmark := (-1), lastindex := (-1), whole := false, marks := #[] }, loop := 0, began := none }, { wait := .closeLoop, pc := 7, pos := 0, outermost := true, count := 0, kept := { lastmark := (-1), lastindex := (-1), whole := false, marks := #[] }, loop := 0, began := none }, { wait := .nextStart, pc := 5, pos := 0, outermost := true, count := 0, kept := { lastmark := (-1), lastindex := (-1), whole := false, marks := #[] }, loop := 0, began := none }], weight := 11, answer := (some false), seen := ((T2s14 t).seen.add 13), outcome := none }
noncomputable def T2s16 (t : Array Nat) : M := { code := codeT, text := t, lim := 2, start := 0, lastStart := 2, wholeText := false, mustAdvance := false, pc := 68, pos := 2, handed := 2, outermost := true, marks := #[none, none, (some 0), (some 2), (some 2), none], lastmark := 3, lastindex := 2, loops := #[{ pc := 7, count := (-1), began := none, outer := none }, { pc := 49, count := (-1), began := none, outer := none }], inner := none, frames := [{ wait := .maxTail, pc := 68, pos := 2, outermost := true, count := 0, kept := { lastmark := 3, lastindex := 2, whole := false, marks := #[] }, loop := 1, began := none }, { wait := .closeLoop, pc := 49, pos := 2, outermost := true, count := 0, kept := { lastmark := (-1), lastindex := (-1), whole := false, marks := #[] }, loop := 1, began := none }, { wait := .giveBack, pc := 42, pos := 2, outermost := true, count := 0, kept := { lastmark := 3, lastindex := 2, whole := false, marks := #[] }, loop := 0, began := none }, { wait := .giveBack, pc := 30, pos := 2, outermost := true, count := 1, kept := { lastmark := 2, lastindex := (-1), whole := false, marks := #[] }, loop := 0, began := none }, { wait := .maxTail, pc := 23, pos := 0, outermost := true, count := 0, kept := { lastmark := (-1), lastindex := (-1), whole := false, marks := #[] }, loop := 0, began := none }, { wait := .closeLoop, pc := 7, pos := 0, outermost := true, count := 0, kept := { lastmark := (-1), lastindex := (-1), whole := false, marks := #[] }, loop := 0, began := none }, { wait := .nextStart, pc := 5, pos := 0, outermost := true, count := 0, kept := { lastmark := (-1), lastindex := (-1), whole := false, marks := #[] }, loop := 0, began := none }], weight := 7, answer := none, seen := (T2s15 t).seen, outcome := none }
noncomputable def T2s17 (t : Array Nat) : M := { code := codeT, text := t, lim := 2, start := 0, lastStart := 2, wholeText := false, mustAdvance := false, pc := 70, pos := 2, handed := 2, outermost := true, marks := #[none, none, (some 0), (some 2), (some 2), none], lastmark := 3, lastindex := 2, loops := #[{ pc := 7, count := (-1), began := none, outer := none }, { pc := 49, count := (-1), began := none, outer := none }], inner := none, frames := [{ wait := .maxTail, pc := 68, pos := 2, outermost := true, count := 0, kept := { lastmark := 3, lastindex := 2, whole := false, marks := #[] }, loop := 1, began := none }, { wait := .closeLoop, pc := 49, pos := 2, outermost := true, count := 0, kept := { lastmark := (-1), lastindex := (-1), whole := false, marks := #[] }, loop := 1, began := none }, { wait := .giveBack, pc := 42, pos := 2, outermost := true, count := 0, kept := { lastmark := 3, lastindex := 2, whole := false, marks := #[] }, loop := 0, began := none }, { wait := .giveBack, pc := 30, pos := 2, outermost := true, count := 1, kept := { lastmark := 2, lastindex := (-1), whole := false, marks := #[] }, loop := 0, began := none }, { wait := .maxTail, pc := 23, pos := 0, outermost := true, count := 0, kept := { lastmark := (-1), lastindex := (-1), whole := false, marks := #[] }, loop := 0, began := none }, { wait := .closeLoop, pc := 7, pos := 0, outermost := true, count := 0, kept := { lastmark := (-1), lastindex := (-1), whole := false, marks := #[] }, loop := 0, began := none }, { wait := .nextStart, pc := 5, pos := 0, outermost := true, count := 0, kept := { lastmark := (-1), lastindex := (-1), whole := false, marks := #[] }, loop := 0, began := none }], weight := 7, answer := none, seen := (((T2s16 t).seen.add 6).add 48), outcome := none }
noncomputable def T2s18 (t : Array Nat) : M := { code := codeT, text := t, lim := 2, start := 0, lastStart := 2, wholeText := false, mustAdvance := false, pc := 70, pos := 2, handed := 2, outermost := true, marks := #[none, none, (some 0), (some 2), (some 2), none], lastmark := 3, lastindex := 2, loops := #[{ pc := 7, count := (-1), began := none, outer := none }, { pc := 49, count := (-1), began := none, outer := none }], inner := none, frames := [{ wait := .maxTail, pc := 68, pos := 2, outermost := true, count := 0, kept := { lastmark := 3, lastindex := 2, whole := false, marks := #[] }, loop := 1, began := none }, { wait := .closeLoop, pc := 49, pos := 2, outermost := true, count := 0, kept := { lastmark := (-1), lastindex := (-1), whole := false, marks := #[] }, loop := 1, began := none }, { wait := .giveBack, pc := 42, pos := 2, outermost := true, count := 0, kept := { lastmark := 3, lastindex := 2, whole := false, marks := #[] }, loop := 0, began := none }, { wait := .giveBack, pc := 30, pos := 2, outermost := true, count := 1, kept := { lastmark := 2, lastindex := (-1), whole := false, marks := #[] }, loop := 0, began := none }, { wait := .maxTail, pc := 23, pos := 0, outermost := true, count := 0, kept := { lastmark := (-1), lastindex := (-1), whole := false, marks := #[] }, loop := 0, began := none }, { wait := .closeLoop, pc := 7, pos := 0, outermost := true, count := 0, kept := { lastmark := (-1), lastindex := (-1), whole := false, marks := #[] }, loop := 0, began := none }, { wait := .nextStart, pc := 5, pos := 0, outermost := true, count := 0, kept := { lastmark := (-1), lastindex := (-1), whole := false, marks := #[] }, loop := 0, began := none }], weight := 7, answer := (some true), seen := ((T2s17 t).seen.add 1), outcome := none }
noncomputable def T2s19 (t : Array Nat) : M := { code := codeT, text := t, lim := 2, start := 0, lastStart := 2, wholeText := false, mustAdvance := false, pc := 68, pos := 2, handed := 2, outermost := true, marks := #[none, none, (some 0), (some 2), (some 2), none], lastmark := 3, lastindex := 2, loops := #[{ pc := 7, count := (-1), began := none, outer := none }, { pc := 49, count := (-1), began := none, outer := none }], inner := (some 1), frames := [{ wait := .closeLoop, pc := 49, pos := 2, outermost := true, count := 0, kept := { lastmark := (-1), lastindex := (-1), whole := false, marks := #[] }, loop := 1, began := none }, { wait := .giveBack, pc := 42, pos := 2, outermost := true, count := 0, kept := { lastmark := 3, lastindex := 2, whole := false, marks := #[] }, loop := 0, began := none }, { wait := .giveBack, pc := 30, pos := 2, outermost := true, count := 1, kept := { lastmark := 2, lastindex := (-1), whole := false, marks := #[] }, loop := 0, began := none }, { wait := .maxTail, pc := 23, pos := 0, outermost := true, count := 0, kept := { lastmark := (-1), lastindex := (-1), whole := false, marks := #[] }, loop := 0, began := none }, { wait := .closeLoop, pc := 7, pos := 0, outermost := true, count := 0, kept := { lastmark := (-1), lastindex := (-1), whole := false, marks := #[] }, loop := 0, began := none }, { wait := .nextStart, pc := 5, pos := 0, outermost := true, count := 0, kept := { lastmark := (-1), lastindex := (-1), whole := false, marks := #[] }, loop := 0, began := none }], weight := 6, answer := (some true), seen := (T2s18 t).seen, outcome := none }
noncomputable def T2s20 (t : Array Nat) : M := { code := codeT, text := t, lim := 2, start := 0, lastStart := 2, wholeText := false, mustAdvance := false, pc := 49, pos := 2, handed := 2, outermost := true, marks := #[none, none, (some 0), (some 2), (some 2), none], lastmark := 3, lastindex := 2, loops := #[{ pc := 7, count := (-1), began := none, outer := none }], inner := none, frames := [{ wait := .giveBack, pc := 42, pos := 2, outermost := true, count := 0, kept := { lastmark := 3, lastindex := 2, whole := false, marks := #[] }, loop := 0, began := none }, { wait := .giveBack, pc := 30, pos := 2, outermost := true, count := 1, kept := { lastmark := 2, lastindex := (-1), whole := false, marks := #[] }, loop := 0, began := none }, { wait := .maxTail, pc := 23, pos := 0, outermost := true, count := 0, kept := { lastmark := (-1), lastindex := (-1), whole := false, marks := #[] }, loop := 0, began := none }, { wait := .closeLoop, pc := 7, pos := 0, outermost := true, count := 0, kept := { lastmark := (-1), lastindex := (-1), whole := false, marks := #[] }, loop := 0, began := none }, { wait := .nextStart, pc := 5, pos := 0, outermost := true, count := 0, kept := { lastmark := (-1), lastindex := (-1), whole := false, marks := #[] }, loop := 0, began := none }], weight := 5, answer := (some true), seen := (T2s19 t).seen, outcome := none }
noncomputable def T2s21 (t : Array Nat) : M := { code := codeT, text := t, lim := 2, start := 0, lastStart := 2, wholeText := false, mustAdvance := false, pc := 42, pos := 2, handed := 2, outermost := true, marks := #[none, none, (some 0), (some 2), (some 2), none], lastmark := 3, lastindex := 2, loops := #[{ pc := 7, count := (-1), began := none, outer := none }], inner := none, frames := [{ wait := .giveBack, pc := 30, pos := 2, outermost := true, count := 1, kept := { lastmark := 2, lastindex := (-1), whole := false, marks := #[] }, loop := 0, began := none }, { wait := .maxTail, pc := 23, pos := 0, outermost := true, count := 0, kept := { lastmark := (-1), lastindex := (-1), whole := false, marks := #[] }, loop := 0, began := none }, { wait := .closeLoop, pc := 7, pos := 0, outermost := true, count := 0, kept := { lastmark := (-1), lastindex := (-1), whole := false, marks := #[] }, loop := 0, began := none }, { wait := .nextStart, pc := 5, pos := 0, outermost := true, count := 0, kept := { lastmark := (-1), lastindex := (-1), whole := false, marks := #[] }, loop := 0, began := none }], weight := 4, answer := (some true), seen := (T2s20 t).seen, outcome := none }
noncomputable def T2s22 (t : Array Nat) : M := { code := codeT, text := t, lim := 2, start := 0, lastStart := 2, wholeText := false, mustAdvance := false, pc := 30, pos := 2, handed := 2, outermost := true, marks := #[none, none, (some 0), (some 2), (some 2), none], lastmark := 3, lastindex := 2, loops := #[{ pc := 7, count := (-1), began := none, outer := none }], inner := none, frames := [{ wait := .maxTail, pc := 23, pos := 0, outermost := true, count := 0, kept := { lastmark := (-1), lastindex := (-1), whole := false, marks := #[] }, loop := 0, began := none }, { wait := .closeLoop, pc := 7, pos := 0, outermost := true, count := 0, kept := { lastmark := (-1), lastindex := (-1), whole := false, marks := #[] }, loop := 0, began := none }, { wait := .nextStart, pc := 5, pos := 0, outermost := true, count := 0, kept := { lastmark := (-1), lastindex := (-1), whole := false, marks := #[] }, loop := 0, began := none }], weight := 3, answer := (some true), seen := (T2s21 t).seen, outcome := none }
noncomputable def T2s23 (t : Array Nat) : M := { code := codeT, text := t, lim := 2, start := 0, lastStart := 2, wholeText := false, mustAdvance := false, pc := 23, pos := 0, handed := 2, outermost := true, marks := #[none, none, (some 0), (some 2), (some 2), none], lastmark := 3, lastindex := 2, loops := #[{ pc := 7, count := (-1), began := none, outer := none }], inner := (some 0), frames := [{ wait := .closeLoop, pc := 7, pos := 0, outermost := true, count := 0, kept := { lastmark := (-1), lastindex := (-1), whole := false, marks := #[] }, loop := 0, began := none }, { wait := .nextStart, pc := 5, pos := 0, outermost := true, count := 0, kept := { lastmark := (-1), lastindex := (-1), whole := false, marks := #[] }, loop := 0, began := none }], weight := 2, answer := (some true), seen := (T2s22 t).seen, outcome := none }
noncomputable def T2s24 (t : Array Nat) : M := { code := codeT, text := t, lim := 2, start := 0, lastStart := 2, wholeText := false, mustAdvance := false, pc := 7, pos := 0, handed := 2, outermost := true, marks := #[none, none, (some 0), (some 2), (some 2), none], lastmark := 3, lastindex := 2, loops := #[], inner := none, frames := [{ wait := .nextStart, pc := 5, pos := 0, outermost := true, count := 0, kept := { lastmark := (-1), lastindex := (-1), whole := false, marks := #[] }, loop := 0, began := none }], weight := 1, answer := (some true), seen := (T2s23 t).seen, outcome := none }
noncomputable def T2s25 (t : Array Nat) : M := { code := codeT, text := t, lim := 2, start := 0, lastStart := 2, wholeText := false, mustAdvance := false, pc := 5, pos := 0, handed := 2, outermost := true, marks := #[none, none, (some 0), (some 2), (some 2), none], lastmark := 3, lastindex := 2, loops := #[], inner := none, frames := [], weight := 0, answer := (some true), seen := (T2s24 t).seen, outcome := none }
noncomputable def T2s26 (t : Array Nat) : M := { code := codeT, text := t, lim := 2, start := 0, lastStart := 2, wholeText := false, mustAdvance := false, pc := 5, pos := 0, handed := 2, outermost := true, marks := #[none, none, (some 0), (some 2), (some 2), none], lastmark := 3, lastindex := 2, loops := #[], inner := none, frames := [], weight := 0, answer := (some true), seen := (T2s25 t).seen, outcome := (some .matched) }
theorem T2e0 {t : Array Nat} : M.step (T2s0 t) = T2s1 t := by kernel_rfl
theorem T2e1 {t : Array Nat} : M.step (T2s1 t) = T2s2 t := by kernel_rfl
theorem T2e2 {t : Array Nat} : M.step (T2s2 t) = T2s3 t := by kernel_rfl
theorem T2e3 {t : Array Nat} : M.step (T2s3 t) = T2s4 t := by kernel_rfl
theorem T2e4 {t : Array Nat} (h0 : isDigit (t.getD 0 0) = true) : M.step (T2s4 t) = T2s5 t := (step_exec rfl rfl (show 13 < 71 by decide)).trans ((exec_char (op := .IN) rfl (.inr rfl) (show 0 < 2 by decide) (acc13 h0)).trans (by kernel_rfl))
theorem T2e5 {t : Array Nat} : M.step (T2s5 t) = T2s6 t := by kernel_rfl
theorem T2e6 {t : Array Nat} : M.step (T2s6 t) = T2s7 t := by kernel_rfl
theorem T2e7 {t : Array Nat} (h0 : isDigit (t.getD 0 0) = true) : M.step (T2s7 t) = T2s8 t := (step_exec rfl rfl (show 25 < 71 by decide)).trans ((exec_char (op := .IN) rfl (.inr rfl) (show 0 < 2 by decide) (acc25 h0)).trans (by kernel_rfl))
theorem T2e8 {t : Array Nat} (h1 : isDigit (t.getD 1 0) = true) : M.step (T2s8 t) = T2s9 t := (step_exec rfl rfl (show 30 < 71 by decide)).trans ((exec_rep rfl (show ¬ (((0 : Nat) : Int) > ((2 : Nat) : Int) - ((1 : Nat) : Int)) by decide) (run34 h1) (show ¬ (1 < 0) by decide)).trans (by kernel_rfl))
theorem T2e9 {t : Array Nat} : M.step (T2s9 t) = T2s10 t := by kernel_rfl
theorem T2e10 {t : Array Nat} : M.step (T2s10 t) = T2s11 t := by kernel_rfl
theorem T2e11 {t : Array Nat} : M.step (T2s11 t) = T2s12 t := by kernel_rfl
theorem T2e12 {t : Array Nat} : M.step (T2s12 t) = T2s13 t := by kernel_rfl
theorem T2e13 {t : Array Nat} : M.step (T2s13 t) = T2s14 t := by kernel_rfl
theorem T2e14 {t : Array Nat} : M.step (T2s14 t) = T2s15 t := by kernel_rfl
theorem T2e15 {t : Array Nat} : M.step (T2s15 t) = T2s16 t := by kernel_rfl
theorem T2e16 {t : Array Nat} : M.step (T2s16 t) = T2s17 t := by kernel_rfl
theorem T2e17 {t : Array Nat} : M.step (T2s17 t) = T2s18 t := by kernel_rfl
theorem T2e18 {t : Array Nat} : M.step (T2s18 t) = T2s19 t := by kernel_rfl
theorem T2e19 {t : Array Nat} : M.step (T2s19 t) = T2s20 t := by kernel_rfl
theorem T2e20 {t : Array Nat} : M.step (T2s20 t) = T2s21 t := by kernel_rfl
theorem T2e21 {t : Array Nat} : M.step (T2s21 t) = T2s22 t := by kernel_rfl
theorem T2e22 {t : Array Nat} : M.step (T2s22 t) = T2s23 t := by kernel_rfl
theorem T2e23 {t : Array Nat} : M.step (T2s23 t) = T2s24 t := by kernel_rfl
theorem T2e24 {t : Array Nat} : M.step (T2s24 t) = T2s25 t := by kernel_rfl
theorem T2e25 {t : Array Nat} : M.step (T2s25 t) = T2s26 t := by kernel_rfl
theorem searchT2i {t : Array Nat} : M.attemptFrom (preT t 2) 0 true = T2s0 t := by kernel_rfl
theorem searchT2 {t : Array Nat} (h0 : isDigit (t.getD 0 0) = true) (h1 : isDigit (t.getD 1 0) = true) : M.runFor 26 (forSearch codeT t 3 0 2 false) = T2s26 t :=
  (congrArg (M.runFor 26) ((forSearchT (by decide)).trans searchT2i)).trans <|
  (runFor_step (m := T2s0 t) (m' := T2s1 t) rfl T2e0 25).trans <|
  (runFor_step (m := T2s1 t) (m' := T2s2 t) rfl T2e1 24).trans <|
  (runFor_step (m := T2s2 t) (m' := T2s3 t) rfl T2e2 23).trans <|
  (runFor_step (m := T2s3 t) (m' := T2s4 t) rfl T2e3 22).trans <|
  (runFor_step (m := T2s4 t) (m' := T2s5 t) rfl (T2e4 h0) 21).trans <|
  (runFor_step (m := T2s5 t) (m' := T2s6 t) rfl T2e5 20).trans <|
  (runFor_step (m := T2s6 t) (m' := T2s7 t) rfl T2e6 19).trans <|
  (runFor_step (m := T2s7 t) (m' := T2s8 t) rfl (T2e7 h0) 18).trans <|
  (runFor_step (m := T2s8 t) (m' := T2s9 t) rfl (T2e8 h1) 17).trans <|
  (runFor_step (m := T2s9 t) (m' := T2s10 t) rfl T2e9 16).trans <|
  (runFor_step (m := T2s10 t) (m' := T2s11 t) rfl T2e10 15).trans <|
  (runFor_step (m := T2s11 t) (m' := T2s12 t) rfl T2e11 14).trans <|
  (runFor_step (m := T2s12 t) (m' := T2s13 t) rfl T2e12 13).trans <|
  (runFor_step (m := T2s13 t) (m' := T2s14 t) rfl T2e13 12).trans <|
  (runFor_step (m := T2s14 t) (m' := T2s15 t) rfl T2e14 11).trans <|
  (runFor_step (m := T2s15 t) (m' := T2s16 t) rfl T2e15 10).trans <|
  (runFor_step (m := T2s16 t) (m' := T2s17 t) rfl T2e16 9).trans <|
  (runFor_step (m := T2s17 t) (m' := T2s18 t) rfl T2e17 8).trans <|
  (runFor_step (m := T2s18 t) (m' := T2s19 t) rfl T2e18 7).trans <|
  (runFor_step (m := T2s19 t) (m' := T2s20 t) rfl T2e19 6).trans <|
  (runFor_step (m := T2s20 t) (m' := T2s21 t) rfl T2e20 5).trans <|
  (runFor_step (m := T2s21 t) (m' := T2s22 t) rfl T2e21 4).trans <|
  (runFor_step (m := T2s22 t) (m' := T2s23 t) rfl T2e22 3).trans <|
  (runFor_step (m := T2s23 t) (m' := T2s24 t) rfl T2e23 2).trans <|
  (runFor_step (m := T2s24 t) (m' := T2s25 t) rfl T2e24 1).trans <|
  (runFor_step (m := T2s25 t) (m' := T2s26 t) rfl T2e25 0).trans <|
  rfl
noncomputable def T3s0 (t : Array Nat) : M := { code := codeT, text := t, lim := 3, start := 0, lastStart := 3, wholeText := false, mustAdvance := false, pc := 5, pos := 0, handed := 0, outermost := true, marks := #[none, none, none, none, none, none], lastmark := (-1), lastindex := (-1), loops := #[], inner := none, frames := [{ wait := .nextStart, pc := 5, pos := 0, outermost := true, count := 0, kept := { lastmark := (-1), lastindex := (-1), whole := false, marks := #[] }, loop := 0, began := none }], weight := 1, answer := none, seen := ({} : Seen).add 14, outcome := none }
noncomputable def T3s1 (t : Array Nat) : M := { code := codeT, text := t, lim := 3, start := 0, lastStart := 3, wholeText := false, mustAdvance := false, pc := 7, pos := 0, handed := 0, outermost := true, marks := #[none, none, none, none, none, none], lastmark := (-1), lastindex := (-1), loops := #[], inner := none, frames := [{ wait := .nextStart, pc := 5, pos := 0, outermost := true, count := 0, kept := { lastmark := (-1), lastindex := (-1), whole := false, marks := #[] }, loop := 0, began := none }], weight := 1, answer := none, seen := (((T3s0 t).seen.add 6).add 43), outcome := none }
noncomputable def T3s2 (t : Array Nat) : M := { code := codeT, text := t, lim := 3, start := 0, lastStart := 3, wholeText := false, mustAdvance := false, pc := 22, pos := 0, handed := 0, outermost := true, marks := #[none, none, none, none, none, none], lastmark := (-1), lastindex := (-1), loops := #[{ pc := 7, count := (-1), began := none, outer := none }], inner := (some 0), frames := [{ wait := .closeLoop, pc := 7, pos := 0, outermost := true, count := 0, kept := { lastmark := (-1), lastindex := (-1), whole := false, marks := #[] }, loop := 0, began := none }, { wait := .nextStart, pc := 5, pos := 0, outermost := true, count := 0, kept := { lastmark := (-1), lastindex := (-1), whole := false, marks := #[] }, loop := 0, began := none }], weight := 2, answer := none, seen := ((T3s1 t).seen.add 23), outcome := none }
noncomputable def T3s3 (t : Array Nat) : M := { code := codeT, text := t, lim := 3, start := 0, lastStart := 3, wholeText := false, mustAdvance := false, pc := 11, pos := 0, handed := 0, outermost := true, marks := #[none, none, none, none, none, none], lastmark := (-1), lastindex := (-1), loops := #[{ pc := 7, count := 0, began := (some 0), outer := none }], inner := (some 0), frames := [{ wait := .maxMore, pc := 23, pos := 0, outermost := true, count := 0, kept := { lastmark := (-1), lastindex := (-1), whole := true, marks := #[] }, loop := 0, began := none }, { wait := .closeLoop, pc := 7, pos := 0, outermost := true, count := 0, kept := { lastmark := (-1), lastindex := (-1), whole := false, marks := #[] }, loop := 0, began := none }, { wait := .nextStart, pc := 5, pos := 0, outermost := true, count := 0, kept := { lastmark := (-1), lastindex := (-1), whole := false, marks := #[] }, loop := 0, began := none }], weight := 3, answer := none, seen := ((T3s2 t).seen.add 18), outcome := none }
noncomputable def T3s4 (t : Array Nat) : M := { code := codeT, text := t, lim := 3, start := 0, lastStart := 3, wholeText := false, mustAdvance := false, pc := 13, pos := 0, handed := 0, outermost := true, marks := #[(some 0), none, none, none, none, none], lastmark := 0, lastindex := (-1), loops := #[{ pc := 7, count := 0, began := (some 0), outer := none }], inner := (some 0), frames := [{ wait := .maxMore, pc := 23, pos := 0, outermost := true, count := 0, kept := { lastmark := (-1), lastindex := (-1), whole := true, marks := #[] }, loop := 0, began := none }, { wait := .closeLoop, pc := 7, pos := 0, outermost := true, count := 0, kept := { lastmark := (-1), lastindex := (-1), whole := false, marks := #[] }, loop := 0, began := none }, { wait := .nextStart, pc := 5, pos := 0, outermost := true, count := 0, kept := { lastmark := (-1), lastindex := (-1), whole := false, marks := #[] }, loop := 0, began := none }], weight := 3, answer := none, seen := ((T3s3 t).seen.add 17), outcome := none }
noncomputable def T3s5 (t : Array Nat) : M := { code := codeT, text := t, lim := 3, start := 0, lastStart := 3, wholeText := false, mustAdvance := false, pc := 13, pos := 0, handed := 0, outermost := true, marks := #[(some 0), none, none, none, none, none], lastmark := 0, lastindex := (-1), loops := #[{ pc := 7, count := 0, began := (some 0), outer := none }], inner := (some 0), frames := [{ wait := .maxMore, pc := 23, pos := 0, outermost := true, count := 0, kept := { lastmark := (-1), lastindex := (-1), whole := true, marks := #[] }, loop := 0, began := none }, { wait := .closeLoop, pc := 7, pos := 0, outermost := true, count := 0, kept := { lastmark := (-1), lastindex := (-1), whole := false, marks := #[] }, loop := 0, began := none }, { wait := .nextStart, pc := 5, pos := 0, outermost := true, count := 0, kept := { lastmark := (-1), lastindex := (-1), whole := false, marks := #[] }, loop := 0, began := none }], weight := 3, answer := (some false), seen := (((((T3s4 t).seen.add 13).add 16).add 16).add 0), outcome := none }
noncomputable def T3s6 (t : Array Nat) : M := { code := codeT, text := t, lim := 3, start := 0, lastStart := 3, wholeText := false, mustAdvance := false, pc := 23, pos := 0, handed := 0, outermost := true, marks := #[(some 0), none, none, none, none, none], lastmark := (-1), lastindex := (-1), loops := #[{ pc := 7, count := (-1), began := none, outer := none }], inner := none, frames := [{ wait := .maxTail, pc := 23, pos := 0, outermost := true, count := 0, kept := { lastmark := (-1), lastindex := (-1), whole := false, marks := #[] }, loop := 0, began := none }, { wait := .closeLoop, pc := 7, pos := 0, outermost := true, count := 0, kept := { lastmark := (-1), lastindex := (-1), whole := false, marks := #[] }, loop := 0, began := none }, { wait := .nextStart, pc := 5, pos := 0, outermost := true, count := 0, kept := { lastmark := (-1), lastindex := (-1), whole := false, marks := #[] }, loop := 0, began := none }], weight := 3, answer := none, seen := (T3s5 t).seen, outcome := none }
noncomputable def T3s7 (t : Array Nat) : M := { code := codeT, text := t, lim := 3, start := 0, lastStart := 3, wholeText := false, mustAdvance := false, pc := 25, pos := 0, handed := 0, outermost := true, marks := #[none, none, (some 0), none, none, none], lastmark := 2, lastindex := (-1), loops := #[{ pc := 7, count := (-1), began := none, outer := none }], inner := none, frames := [{ wait := .maxTail, pc := 23, pos := 0, outermost := true, count := 0, kept := { lastmark := (-1), lastindex := (-1), whole := false, marks := #[] }, loop := 0, began := none }, { wait := .closeLoop, pc := 7, pos := 0, outermost := true, count := 0, kept := { lastmark := (-1), lastindex := (-1), whole := false, marks := #[] }, loop := 0, began := none }, { wait := .nextStart, pc := 5, pos := 0, outermost := true, count := 0, kept := { lastmark := (-1), lastindex := (-1), whole := false, marks := #[] }, loop := 0, began := none }], weight := 3, answer := none, seen := ((T3s6 t).seen.add 17), outcome := none }
noncomputable def T3s8 (t : Array Nat) : M := { code := codeT, text := t, lim := 3, start := 0, lastStart := 3, wholeText := false, mustAdvance := false, pc := 30, pos := 1, handed := 0, outermost := true, marks := #[none, none, (some 0), none, none, none], lastmark := 2, lastindex := (-1), loops := #[{ pc := 7, count := (-1), began := none, outer := none }], inner := none, frames := [{ wait := .maxTail, pc := 23, pos := 0, outermost := true, count := 0, kept := { lastmark := (-1), lastindex := (-1), whole := false, marks := #[] }, loop := 0, began := none }, { wait := .closeLoop, pc := 7, pos := 0, outermost := true, count := 0, kept := { lastmark := (-1), lastindex := (-1), whole := false, marks := #[] }, loop := 0, began := none }, { wait := .nextStart, pc := 5, pos := 0, outermost := true, count := 0, kept := { lastmark := (-1), lastindex := (-1), whole := false, marks := #[] }, loop := 0, began := none }], weight := 3, answer := none, seen := ((((T3s7 t).seen.add 13).add 8).add 55), outcome := none }
noncomputable def T3s9 (t : Array Nat) : M := { code := codeT, text := t, lim := 3, start := 0, lastStart := 3, wholeText := false, mustAdvance := false, pc := 40, pos := 2, handed := 2, outermost := true, marks := #[none, none, (some 0), none, none, none], lastmark := 2, lastindex := (-1), loops := #[{ pc := 7, count := (-1), began := none, outer := none }], inner := none, frames := [{ wait := .giveBack, pc := 30, pos := 2, outermost := true, count := 1, kept := { lastmark := 2, lastindex := (-1), whole := false, marks := #[] }, loop := 0, began := none }, { wait := .maxTail, pc := 23, pos := 0, outermost := true, count := 0, kept := { lastmark := (-1), lastindex := (-1), whole := false, marks := #[] }, loop := 0, began := none }, { wait := .closeLoop, pc := 7, pos := 0, outermost := true, count := 0, kept := { lastmark := (-1), lastindex := (-1), whole := false, marks := #[] }, loop := 0, began := none }, { wait := .nextStart, pc := 5, pos := 0, outermost := true, count := 0, kept := { lastmark := (-1), lastindex := (-1), whole := false, marks := #[] }, loop := 0, began := none }], weight := 4, answer := none, seen := (((((T3s8 t).seen.add 24).add 13).add 8).add 55), outcome := none }
noncomputable def T3s10 (t : Array Nat) : M := { code := codeT, text := t, lim := 3, start := 0, lastStart := 3, wholeText := false, mustAdvance := false, pc := 42, pos := 2, handed := 2, outermost := true, marks := #[none, none, (some 0), (some 2), none, none], lastmark := 3, lastindex := 2, loops := #[{ pc := 7, count := (-1), began := none, outer := none }], inner := none, frames := [{ wait := .giveBack, pc := 30, pos := 2, outermost := true, count := 1, kept := { lastmark := 2, lastindex := (-1), whole := false, marks := #[] }, loop := 0, began := none }, { wait := .maxTail, pc := 23, pos := 0, outermost := true, count := 0, kept := { lastmark := (-1), lastindex := (-1), whole := false, marks := #[] }, loop := 0, began := none }, { wait := .closeLoop, pc := 7, pos := 0, outermost := true, count := 0, kept := { lastmark := (-1), lastindex := (-1), whole := false, marks := #[] }, loop := 0, began := none }, { wait := .nextStart, pc := 5, pos := 0, outermost := true, count := 0, kept := { lastmark := (-1), lastindex := (-1), whole := false, marks := #[] }, loop := 0, began := none }], weight := 4, answer := none, seen := ((T3s9 t).seen.add 17), outcome := none }
noncomputable def T3s11 (t : Array Nat) : M := { code := codeT, text := t, lim := 3, start := 0, lastStart := 3, wholeText := false, mustAdvance := false, pc := 49, pos := 2, handed := 2, outermost := true, marks := #[none, none, (some 0), (some 2), none, none], lastmark := 3, lastindex := 2, loops := #[{ pc := 7, count := (-1), began := none, outer := none }], inner := none, frames := [{ wait := .giveBack, pc := 42, pos := 2, outermost := true, count := 0, kept := { lastmark := 3, lastindex := 2, whole := false, marks := #[] }, loop := 0, began := none }, { wait := .giveBack, pc := 30, pos := 2, outermost := true, count := 1, kept := { lastmark := 2, lastindex := (-1), whole := false, marks := #[] }, loop := 0, began := none }, { wait := .maxTail, pc := 23, pos := 0, outermost := true, count := 0, kept := { lastmark := (-1), lastindex := (-1), whole := false, marks := #[] }, loop := 0, began := none }, { wait := .closeLoop, pc := 7, pos := 0, outermost := true, count := 0, kept := { lastmark := (-1), lastindex := (-1), whole := false, marks := #[] }, loop := 0, began := none }, { wait := .nextStart, pc := 5, pos := 0, outermost := true, count := 0, kept := { lastmark := (-1), lastindex := (-1), whole := false, marks := #[] }, loop := 0, began := none }], weight := 5, answer := none, seen := (((T3s10 t).seen.add 24).add 16), outcome := none }
noncomputable def T3s12 (t : Array Nat) : M := { code := codeT, text := t, lim := 3, start := 0, lastStart := 3, wholeText := false, mustAdvance := false, pc := 67, pos := 2, handed := 2, outermost := true, marks := #[none, none, (some 0), (some 2), none, none], lastmark := 3, lastindex := 2, loops := #[{ pc := 7, count := (-1), began := none, outer := none }, { pc := 49, count := (-1), began := none, outer := none }], inner := (some 1), frames := [{ wait := .closeLoop, pc := 49, pos := 2, outermost := true, count := 0, kept := { lastmark := (-1), lastindex := (-1), whole := false, marks := #[] }, loop := 1, began := none }, { wait := .giveBack, pc := 42, pos := 2, outermost := true, count := 0, kept := { lastmark := 3, lastindex := 2, whole := false, marks := #[] }, loop := 0, began := none }, { wait := .giveBack, pc := 30, pos := 2, outermost := true, count := 1, kept := { lastmark := 2, lastindex := (-1), whole := false, marks := #[] }, loop := 0, began := none }, { wait := .maxTail, pc := 23, pos := 0, outermost := true, count := 0, kept := { lastmark := (-1), lastindex := (-1), whole := false, marks := #[] }, loop := 0, began := none }, { wait := .closeLoop, pc := 7, pos := 0, outermost := true, count := 0, kept := { lastmark := (-1), lastindex := (-1), whole := false, marks := #[] }, loop := 0, began := none }, { wait := .nextStart, pc := 5, pos := 0, outermost := true, count := 0, kept := { lastmark := (-1), lastindex := (-1), whole := false, marks := #[] }, loop := 0, began := none }], weight := 6, answer := none, seen := ((T3s11 t).seen.add 23), outcome := none }
noncomputable def T3s13 (t : Array Nat) : M := { code := codeT, text := t, lim := 3, start := 0, lastStart := 3, wholeText := false, mustAdvance := false, pc := 53, pos := 2, handed := 2, outermost := true, marks := #[none, none, (some 0), (some 2), none, none], lastmark := 3, lastindex := 2, loops := #[{ pc := 7, count := (-1), began := none, outer := none }, { pc := 49, count := 0, began := (some 2), outer := none }], inner := (some 1), frames := [{ wait := .maxMore, pc := 68, pos := 2, outermost := true, count := 0, kept := { lastmark := 3, lastindex := 2, whole := true, marks := #[none, none, (some 0), (some 2)] }, loop := 1, began := none }, { wait := .closeLoop, pc := 49, pos := 2, outermost := true, count := 0, kept := { lastmark := (-1), lastindex := (-1), whole := false, marks := #[] }, loop := 1, began := none }, { wait := .giveBack, pc := 42, pos := 2, outermost := true, count := 0, kept := { lastmark := 3, lastindex := 2, whole := false, marks := #[] }, loop := 0, began := none }, { wait := .giveBack, pc := 30, pos := 2, outermost := true, count := 1, kept := { lastmark := 2, lastindex := (-1), whole := false, marks := #[] }, loop := 0, began := none }, { wait := .maxTail, pc := 23, pos := 0, outermost := true, count := 0, kept := { lastmark := (-1), lastindex := (-1), whole := false, marks := #[] }, loop := 0, began := none }, { wait := .closeLoop, pc := 7, pos := 0, outermost := true, count := 0, kept := { lastmark := (-1), lastindex := (-1), whole := false, marks := #[] }, loop := 0, began := none }, { wait := .nextStart, pc := 5, pos := 0, outermost := true, count := 0, kept := { lastmark := (-1), lastindex := (-1), whole := false, marks := #[] }, loop := 0, began := none }], weight := 11, answer := none, seen := ((T3s12 t).seen.add 18), outcome := none }
noncomputable def T3s14 (t : Array Nat) : M := { code := codeT, text := t, lim := 3, start := 0, lastStart := 3, wholeText := false, mustAdvance := false, pc := 55, pos := 2, handed := 2, outermost := true, marks := #[none, none, (some 0), (some 2), (some 2), none], lastmark := 4, lastindex := 2, loops := #[{ pc := 7, count := (-1), began := none, outer := none }, { pc := 49, count := 0, began := (some 2), outer := none }], inner := (some 1), frames := [{ wait := .maxMore, pc := 68, pos := 2, outermost := true, count := 0, kept := { lastmark := 3, lastindex := 2, whole := true, marks := #[none, none, (some 0), (some 2)] }, loop := 1, began := none }, { wait := .closeLoop, pc := 49, pos := 2, outermost := true, count := 0, kept := { lastmark := (-1), lastindex := (-1), whole := false, marks := #[] }, loop := 1, began := none }, { wait := .giveBack, pc := 42, pos := 2, outermost := true, count := 0, kept := { lastmark := 3, lastindex := 2, whole := false, marks := #[] }, loop := 0, began := none }, { wait := .giveBack, pc := 30, pos := 2, outermost := true, count := 1, kept := { lastmark := 2, lastindex := (-1), whole := false, marks := #[] }, loop := 0, began := none }, { wait := .maxTail, pc := 23, pos := 0, outermost := true, count := 0, kept := { lastmark := (-1), lastindex := (-1), whole := false, marks := #[] }, loop := 0, began := none }, { wait := .closeLoop, pc := 7, pos := 0, outermost := true, count := 0, kept := { lastmark := (-1), lastindex := (-1), whole := false, marks := #[] }, loop := 0, began := none }, { wait := .nextStart, pc := 5, pos := 0, outermost := true, count := 0, kept := { lastmark := (-1), lastindex := (-1), whole := false, marks := #[] }, loop := 0, began := none }], weight := 11, answer := none, seen := ((T3s13 t).seen.add 17), outcome := none }
noncomputable def T3s15 (t : Array Nat) : M := { code := codeT, text := t, lim := 3, start := 0, lastStart := 3, wholeText := false, mustAdvance := false, pc := 60, pos := 3, handed := 2, outermost := true, marks := #[none, none, (some 0), (some 2), (some 2), none], lastmark := 4, lastindex := 2, loops := #[{ pc := 7, count := (-1), began := none, outer := none }, { pc := 49, count := 0, began := (some 2), outer := none }], inner := (some 1), frames := [{ wait := .maxMore, pc := 68, pos := 2, outermost := true, count := 0, kept := { lastmark := 3, lastindex := 2, whole := true, marks := #[none, none, (some 0), (some 2)] }, loop := 1, began := none }, { wait := .closeLoop, pc := 49, pos := 2, outermost := true, count := 0, kept := { lastmark := (-1), lastindex := (-1), whole := false, marks := #[] }, loop := 1, began := none }, { wait := .giveBack, pc := 42, pos := 2, outermost := true, count := 0, kept := { lastmark := 3, lastindex := 2, whole := false, marks := #[] }, loop := 0, began := none }, { wait := .giveBack, pc := 30, pos := 2, outermost := true, count := 1, kept := { lastmark := 2, lastindex := (-1), whole := false, marks := #[] }, loop := 0, began := none }, { wait := .maxTail, pc := 23, pos := 0, outermost := true, count := 0, kept := { lastmark := (-1), lastindex := (-1), whole := false, marks := #[] }, loop := 0, began := none }, { wait := .closeLoop, pc := 7, pos := 0, outermost := true, count := 0, kept := { lastmark := (-1), lastindex := (-1), whole := false, marks := #[] }, loop := 0, began := none }, { wait := .nextStart, pc := 5, pos := 0, outermost := true, count := 0, kept := { lastmark := (-1), lastindex := (-1), whole := false, marks := #[] }, loop := 0, began := none }], weight := 11, answer := none, seen := ((((T3s14 t).seen.add 13).add 8).add 55), outcome := none }
noncomputable def T3s16 (t : Array Nat) : M := { code := codeT, text := t, lim := 3, start := 0, lastStart := 3, wholeText := false, mustAdvance := false, pc := 60, pos := 3, handed := 2, outermost := true, marks := #[none, none, (some 0), (some 2), (some 2), none], lastmark := 4, lastindex := 2, loops := #[{ pc := 7, count := (-1), began := none, outer := none }, { pc := 49, count := 0, began := (some 2), outer := none }], inner := (some 1), frames := [{ wait := .maxMore, pc := 68, pos := 2, outermost := true, count := 0, kept := { lastmark := 3, lastindex := 2, whole := true, marks := #[none, none, (some 0), (some 2)] }, loop := 1, began := none }, { wait := .closeLoop, pc := 49, pos := 2, outermost := true, count := 0, kept := { lastmark := (-1), lastindex := (-1), whole := false, marks := #[] }, loop := 1, began := none }, { wait := .giveBack, pc := 42, pos := 2, outermost := true, count := 0, kept := { lastmark := 3, lastindex := 2, whole := false, marks := #[] }, loop := 0, began := none }, { wait := .giveBack, pc := 30, pos := 2, outermost := true, count := 1, kept := { lastmark := 2, lastindex := (-1), whole := false, marks := #[] }, loop := 0, began := none }, { wait := .maxTail, pc := 23, pos := 0, outermost := true, count := 0, kept := { lastmark := (-1), lastindex := (-1), whole := false, marks := #[] }, loop := 0, began := none }, { wait := .closeLoop, pc := 7, pos := 0, outermost := true, count := 0, kept := { lastmark := (-1), lastindex := (-1), whole := false, marks := #[] }, loop := 0, began := none }, { wait := .nextStart, pc := 5, pos := 0, outermost := true, count := 0, kept := { lastmark := (-1), lastindex := (-1), whole := false, marks := #[] }, loop := 0, began := none }], weight := 11, answer := (some false), seen := ((T3s15 t).seen.add 13), outcome := none }
noncomputable def T3s17 (t : Array Nat) : M := { code := codeT, text := t, lim := 3, start := 0, lastStart := 3, wholeText := false, mustAdvance := false, pc := 68, pos := 2, handed := 2, outermost := true, marks := #[none, none, (some 0), (some 2), (some 2), none], lastmark := 3, lastindex := 2, loops := #[{ pc := 7, count := (-1), began := none, outer := none }, { pc := 49, count := (-1), began := none, outer := none }], inner := none, frames := [{ wait := .maxTail, pc := 68, pos := 2, outermost := true, count := 0, kept := { lastmark := 3, lastindex := 2, whole := false, marks := #[] }, loop := 1, began := none }, { wait := .closeLoop, pc := 49, pos := 2, outermost := true, count := 0, kept := { lastmark := (-1), lastindex := (-1), whole := false, marks := #[] }, loop := 1, began := none }, { wait := .giveBack, pc := 42, pos := 2, outermost := true, count := 0, kept := { lastmark := 3, lastindex := 2, whole := false, marks := #[] }, loop := 0, began := none }, { wait := .giveBack, pc := 30, pos := 2, outermost := true, count := 1, kept := { lastmark := 2, lastindex := (-1), whole := false, marks := #[] }, loop := 0, began := none }, { wait := .maxTail, pc := 23, pos := 0, outermost := true, count := 0, kept := { lastmark := (-1), lastindex := (-1), whole := false, marks := #[] }, loop := 0, began := none }, { wait := .closeLoop, pc := 7, pos := 0, outermost := true, count := 0, kept := { lastmark := (-1), lastindex := (-1), whole := false, marks := #[] }, loop := 0, began := none }, { wait := .nextStart, pc := 5, pos := 0, outermost := true, count := 0, kept := { lastmark := (-1), lastindex := (-1), whole := false, marks := #[] }, loop := 0, began := none }], weight := 7, answer := none, seen := (T3s16 t).seen, outcome := none }
noncomputable def T3s18 (t : Array Nat) : M := { code := codeT, text := t, lim := 3, start := 0, lastStart := 3, wholeText := false, mustAdvance := false, pc := 68, pos := 2, handed := 2, outermost := true, marks := #[none, none, (some 0), (some 2), (some 2), none], lastmark := 3, lastindex := 2, loops := #[{ pc := 7, count := (-1), began := none, outer := none }, { pc := 49, count := (-1), began := none, outer := none }], inner := none, frames := [{ wait := .maxTail, pc := 68, pos := 2, outermost := true, count := 0, kept := { lastmark := 3, lastindex := 2, whole := false, marks := #[] }, loop := 1, began := none }, { wait := .closeLoop, pc := 49, pos := 2, outermost := true, count := 0, kept := { lastmark := (-1), lastindex := (-1), whole := false, marks := #[] }, loop := 1, began := none }, { wait := .giveBack, pc := 42, pos := 2, outermost := true, count := 0, kept := { lastmark := 3, lastindex := 2, whole := false, marks := #[] }, loop := 0, began := none }, { wait := .giveBack, pc := 30, pos := 2, outermost := true, count := 1, kept := { lastmark := 2, lastindex := (-1), whole := false, marks := #[] }, loop := 0, began := none }, { wait := .maxTail, pc := 23, pos := 0, outermost := true, count := 0, kept := { lastmark := (-1), lastindex := (-1), whole := false, marks := #[] }, loop := 0, began := none }, { wait := .closeLoop, pc := 7, pos := 0, outermost := true, count := 0, kept := { lastmark := (-1), lastindex := (-1), whole := false, marks := #[] }, loop := 0, began := none }, { wait := .nextStart, pc := 5, pos := 0, outermost := true, count := 0, kept := { lastmark := (-1), lastindex := (-1), whole := false, marks := #[] }, loop := 0, began := none }], weight := 7, answer := (some false), seen := (((T3s17 t).seen.add 6).add 48), outcome := none }
noncomputable def T3s19 (t : Array Nat) : M := { code := codeT, text := t, lim := 3, start := 0, lastStart := 3, wholeText := false, mustAdvance := false, pc := 68, pos := 2, handed := 2, outermost := true, marks := #[none, none, (some 0), (some 2), (some 2), none], lastmark := 3, lastindex := 2, loops := #[{ pc := 7, count := (-1), began := none, outer := none }, { pc := 49, count := (-1), began := none, outer := none }], inner := (some 1), frames := [{ wait := .closeLoop, pc := 49, pos := 2, outermost := true, count := 0, kept := { lastmark := (-1), lastindex := (-1), whole := false, marks := #[] }, loop := 1, began := none }, { wait := .giveBack, pc := 42, pos := 2, outermost := true, count := 0, kept := { lastmark := 3, lastindex := 2, whole := false, marks := #[] }, loop := 0, began := none }, { wait := .giveBack, pc := 30, pos := 2, outermost := true, count := 1, kept := { lastmark := 2, lastindex := (-1), whole := false, marks := #[] }, loop := 0, began := none }, { wait := .maxTail, pc := 23, pos := 0, outermost := true, count := 0, kept := { lastmark := (-1), lastindex := (-1), whole := false, marks := #[] }, loop := 0, began := none }, { wait := .closeLoop, pc := 7, pos := 0, outermost := true, count := 0, kept := { lastmark := (-1), lastindex := (-1), whole := false, marks := #[] }, loop := 0, began := none }, { wait := .nextStart, pc := 5, pos := 0, outermost := true, count := 0, kept := { lastmark := (-1), lastindex := (-1), whole := false, marks := #[] }, loop := 0, began := none }], weight := 6, answer := (some false), seen := (T3s18 t).seen, outcome := none }
noncomputable def T3s20 (t : Array Nat) : M := { code := codeT, text := t, lim := 3, start := 0, lastStart := 3, wholeText := false, mustAdvance := false, pc := 49, pos := 2, handed := 2, outermost := true, marks := #[none, none, (some 0), (some 2), (some 2), none], lastmark := 3, lastindex := 2, loops := #[{ pc := 7, count := (-1), began := none, outer := none }], inner := none, frames := [{ wait := .giveBack, pc := 42, pos := 2, outermost := true, count := 0, kept := { lastmark := 3, lastindex := 2, whole := false, marks := #[] }, loop := 0, began := none }, { wait := .giveBack, pc := 30, pos := 2, outermost := true, count := 1, kept := { lastmark := 2, lastindex := (-1), whole := false, marks := #[] }, loop := 0, began := none }, { wait := .maxTail, pc := 23, pos := 0, outermost := true, count := 0, kept := { lastmark := (-1), lastindex := (-1), whole := false, marks := #[] }, loop := 0, began := none }, { wait := .closeLoop, pc := 7, pos := 0, outermost := true, count := 0, kept := { lastmark := (-1), lastindex := (-1), whole := false, marks := #[] }, loop := 0, began := none }, { wait := .nextStart, pc := 5, pos := 0, outermost := true, count := 0, kept := { lastmark := (-1), lastindex := (-1), whole := false, marks := #[] }, loop := 0, began := none }], weight := 5, answer := (some false), seen := (T3s19 t).seen, outcome := none }
noncomputable def T3s21 (t : Array Nat) : M := { code := codeT, text := t, lim := 3, start := 0, lastStart := 3, wholeText := false, mustAdvance := false, pc := 42, pos := 2, handed := 2, outermost := true, marks := #[none, none, (some 0), (some 2), (some 2), none], lastmark := 3, lastindex := 2, loops := #[{ pc := 7, count := (-1), began := none, outer := none }], inner := none, frames := [{ wait := .giveBack, pc := 30, pos := 2, outermost := true, count := 1, kept := { lastmark := 2, lastindex := (-1), whole := false, marks := #[] }, loop := 0, began := none }, { wait := .maxTail, pc := 23, pos := 0, outermost := true, count := 0, kept := { lastmark := (-1), lastindex := (-1), whole := false, marks := #[] }, loop := 0, began := none }, { wait := .closeLoop, pc := 7, pos := 0, outermost := true, count := 0, kept := { lastmark := (-1), lastindex := (-1), whole := false, marks := #[] }, loop := 0, began := none }, { wait := .nextStart, pc := 5, pos := 0, outermost := true, count := 0, kept := { lastmark := (-1), lastindex := (-1), whole := false, marks := #[] }, loop := 0, began := none }], weight := 4, answer := (some false), seen := (T3s20 t).seen, outcome := none }
noncomputable def T3s22 (t : Array Nat) : M := { code := codeT, text := t, lim := 3, start := 0, lastStart := 3, wholeText := false, mustAdvance := false, pc := 40, pos := 1, handed := 1, outermost := true, marks := #[none, none, (some 0), (some 2), (some 2), none], lastmark := 2, lastindex := (-1), loops := #[{ pc := 7, count := (-1), began := none, outer := none }], inner := none, frames := [{ wait := .giveBack, pc := 30, pos := 1, outermost := true, count := 0, kept := { lastmark := 2, lastindex := (-1), whole := false, marks := #[] }, loop := 0, began := none }, { wait := .maxTail, pc := 23, pos := 0, outermost := true, count := 0, kept := { lastmark := (-1), lastindex := (-1), whole := false, marks := #[] }, loop := 0, began := none }, { wait := .closeLoop, pc := 7, pos := 0, outermost := true, count := 0, kept := { lastmark := (-1), lastindex := (-1), whole := false, marks := #[] }, loop := 0, began := none }, { wait := .nextStart, pc := 5, pos := 0, outermost := true, count := 0, kept := { lastmark := (-1), lastindex := (-1), whole := false, marks := #[] }, loop := 0, began := none }], weight := 4, answer := none, seen := (T3s21 t).seen, outcome := none }
noncomputable def T3s23 (t : Array Nat) : M := { code := codeT, text := t, lim := 3, start := 0, lastStart := 3, wholeText := false, mustAdvance := false, pc := 42, pos := 1, handed := 1, outermost := true, marks := #[none, none, (some 0), (some 1), (some 2), none], lastmark := 3, lastindex := 2, loops := #[{ pc := 7, count := (-1), began := none, outer := none }], inner := none, frames := [{ wait := .giveBack, pc := 30, pos := 1, outermost := true, count := 0, kept := { lastmark := 2, lastindex := (-1), whole := false, marks := #[] }, loop := 0, began := none }, { wait := .maxTail, pc := 23, pos := 0, outermost := true, count := 0, kept := { lastmark := (-1), lastindex := (-1), whole := false, marks := #[] }, loop := 0, began := none }, { wait := .closeLoop, pc := 7, pos := 0, outermost := true, count := 0, kept := { lastmark := (-1), lastindex := (-1), whole := false, marks := #[] }, loop := 0, began := none }, { wait := .nextStart, pc := 5, pos := 0, outermost := true, count := 0, kept := { lastmark := (-1), lastindex := (-1), whole := false, marks := #[] }, loop := 0, began := none }], weight := 4, answer := none, seen := ((T3s22 t).seen.add 17), outcome := none }
noncomputable def T3s24 (t : Array Nat) : M := { code := codeT, text := t, lim := 3, start := 0, lastStart := 3, wholeText := false, mustAdvance := false, pc := 49, pos := 1, handed := 1, outermost := true, marks := #[none, none, (some 0), (some 1), (some 2), none], lastmark := 3, lastindex := 2, loops := #[{ pc := 7, count := (-1), began := none, outer := none }], inner := none, frames := [{ wait := .giveBack, pc := 42, pos := 1, outermost := true, count := 0, kept := { lastmark := 3, lastindex := 2, whole := false, marks := #[] }, loop := 0, began := none }, { wait := .giveBack, pc := 30, pos := 1, outermost := true, count := 0, kept := { lastmark := 2, lastindex := (-1), whole := false, marks := #[] }, loop := 0, began := none }, { wait := .maxTail, pc := 23, pos := 0, outermost := true, count := 0, kept := { lastmark := (-1), lastindex := (-1), whole := false, marks := #[] }, loop := 0, began := none }, { wait := .closeLoop, pc := 7, pos := 0, outermost := true, count := 0, kept := { lastmark := (-1), lastindex := (-1), whole := false, marks := #[] }, loop := 0, began := none }, { wait := .nextStart, pc := 5, pos := 0, outermost := true, count := 0, kept := { lastmark := (-1), lastindex := (-1), whole := false, marks := #[] }, loop := 0, began := none }], weight := 5, answer := none, seen := (((T3s23 t).seen.add 24).add 16), outcome := none }
noncomputable def T3s25 (t : Array Nat) : M := { code := codeT, text := t, lim := 3, start := 0, lastStart := 3, wholeText := false, mustAdvance := false, pc := 67, pos := 1, handed := 1, outermost := true, marks := #[none, none, (some 0), (some 1), (some 2), none], lastmark := 3, lastindex := 2, loops := #[{ pc := 7, count := (-1), began := none, outer := none }, { pc := 49, count := (-1), began := none, outer := none }], inner := (some 1), frames := [{ wait := .closeLoop, pc := 49, pos := 1, outermost := true, count := 0, kept := { lastmark := (-1), lastindex := (-1), whole := false, marks := #[] }, loop := 1, began := none }, { wait := .giveBack, pc := 42, pos := 1, outermost := true, count := 0, kept := { lastmark := 3, lastindex := 2, whole := false, marks := #[] }, loop := 0, began := none }, { wait := .giveBack, pc := 30, pos := 1, outermost := true, count := 0, kept := { lastmark := 2, lastindex := (-1), whole := false, marks := #[] }, loop := 0, began := none }, { wait := .maxTail, pc := 23, pos := 0, outermost := true, count := 0, kept := { lastmark := (-1), lastindex := (-1), whole := false, marks := #[] }, loop := 0, began := none }, { wait := .closeLoop, pc := 7, pos := 0, outermost := true, count := 0, kept := { lastmark := (-1), lastindex := (-1), whole := false, marks := #[] }, loop := 0, began := none }, { wait := .nextStart, pc := 5, pos := 0, outermost := true, count := 0, kept := { lastmark := (-1), lastindex := (-1), whole := false, marks := #[] }, loop := 0, began := none }], weight := 6, answer := none, seen := ((T3s24 t).seen.add 23), outcome := none }
noncomputable def T3s26 (t : Array Nat) : M := { code := codeT, text := t, lim := 3, start := 0, lastStart := 3, wholeText := false, mustAdvance := false, pc := 53, pos := 1, handed := 1, outermost := true, marks := #[none, none, (some 0), (some 1), (some 2), none], lastmark := 3, lastindex := 2, loops := #[{ pc := 7, count := (-1), began := none, outer := none }, { pc := 49, count := 0, began := (some 1), outer := none }], inner := (some 1), frames := [{ wait := .maxMore, pc := 68, pos := 1, outermost := true, count := 0, kept := { lastmark := 3, lastindex := 2, whole := true, marks := #[none, none, (some 0), (some 1)] }, loop := 1, began := none }, { wait := .closeLoop, pc := 49, pos := 1, outermost := true, count := 0, kept := { lastmark := (-1), lastindex := (-1), whole := false, marks := #[] }, loop := 1, began := none }, { wait := .giveBack, pc := 42, pos := 1, outermost := true, count := 0, kept := { lastmark := 3, lastindex := 2, whole := false, marks := #[] }, loop := 0, began := none }, { wait := .giveBack, pc := 30, pos := 1, outermost := true, count := 0, kept := { lastmark := 2, lastindex := (-1), whole := false, marks := #[] }, loop := 0, began := none }, { wait := .maxTail, pc := 23, pos := 0, outermost := true, count := 0, kept := { lastmark := (-1), lastindex := (-1), whole := false, marks := #[] }, loop := 0, began := none }, { wait := .closeLoop, pc := 7, pos := 0, outermost := true, count := 0, kept := { lastmark := (-1), lastindex := (-1), whole := false, marks := #[] }, loop := 0, began := none }, { wait := .nextStart, pc := 5, pos := 0, outermost := true, count := 0, kept := { lastmark := (-1), lastindex := (-1), whole := false, marks := #[] }, loop := 0, began := none }], weight := 11, answer := none, seen := ((T3s25 t).seen.add 18), outcome := none }
noncomputable def T3s27 (t : Array Nat) : M := { code := codeT, text := t, lim := 3, start := 0, lastStart := 3, wholeText := false, mustAdvance := false, pc := 55, pos := 1, handed := 1, outermost := true, marks := #[none, none, (some 0), (some 1), (some 1), none], lastmark := 4, lastindex := 2, loops := #[{ pc := 7, count := (-1), began := none, outer := none }, { pc := 49, count := 0, began := (some 1), outer := none }], inner := (some 1), frames := [{ wait := .maxMore, pc := 68, pos := 1, outermost := true, count := 0, kept := { lastmark := 3, lastindex := 2, whole := true, marks := #[none, none, (some 0), (some 1)] }, loop := 1, began := none }, { wait := .closeLoop, pc := 49, pos := 1, outermost := true, count := 0, kept := { lastmark := (-1), lastindex := (-1), whole := false, marks := #[] }, loop := 1, began := none }, { wait := .giveBack, pc := 42, pos := 1, outermost := true, count := 0, kept := { lastmark := 3, lastindex := 2, whole := false, marks := #[] }, loop := 0, began := none }, { wait := .giveBack, pc := 30, pos := 1, outermost := true, count := 0, kept := { lastmark := 2, lastindex := (-1), whole := false, marks := #[] }, loop := 0, began := none }, { wait := .maxTail, pc := 23, pos := 0, outermost := true, count := 0, kept := { lastmark := (-1), lastindex := (-1), whole := false, marks := #[] }, loop := 0, began := none }, { wait := .closeLoop, pc := 7, pos := 0, outermost := true, count := 0, kept := { lastmark := (-1), lastindex := (-1), whole := false, marks := #[] }, loop := 0, began := none }, { wait := .nextStart, pc := 5, pos := 0, outermost := true, count := 0, kept := { lastmark := (-1), lastindex := (-1), whole := false, marks := #[] }, loop := 0, began := none }], weight := 11, answer := none, seen := ((T3s26 t).seen.add 17), outcome := none }
noncomputable def T3s28 (t : Array Nat) : M := { code := codeT, text := t, lim := 3, start := 0, lastStart := 3, wholeText := false, mustAdvance := false, pc := 60, pos := 2, handed := 1, outermost := true, marks := #[none, none, (some 0), (some 1), (some 1), none], lastmark := 4, lastindex := 2, loops := #[{ pc := 7, count := (-1), began := none, outer := none }, { pc := 49, count := 0, began := (some 1), outer := none }], inner := (some 1), frames := [{ wait := .maxMore, pc := 68, pos := 1, outermost := true, count := 0, kept := { lastmark := 3, lastindex := 2, whole := true, marks := #[none, none, (some 0), (some 1)] }, loop := 1, began := none }, { wait := .closeLoop, pc := 49, pos := 1, outermost := true, count := 0, kept := { lastmark := (-1), lastindex := (-1), whole := false, marks := #[] }, loop := 1, began := none }, { wait := .giveBack, pc := 42, pos := 1, outermost := true, count := 0, kept := { lastmark := 3, lastindex := 2, whole := false, marks := #[] }, loop := 0, began := none }, { wait := .giveBack, pc := 30, pos := 1, outermost := true, count := 0, kept := { lastmark := 2, lastindex := (-1), whole := false, marks := #[] }, loop := 0, began := none }, { wait := .maxTail, pc := 23, pos := 0, outermost := true, count := 0, kept := { lastmark := (-1), lastindex := (-1), whole := false, marks := #[] }, loop := 0, began := none }, { wait := .closeLoop, pc := 7, pos := 0, outermost := true, count := 0, kept := { lastmark := (-1), lastindex := (-1), whole := false, marks := #[] }, loop := 0, began := none }, { wait := .nextStart, pc := 5, pos := 0, outermost := true, count := 0, kept := { lastmark := (-1), lastindex := (-1), whole := false, marks := #[] }, loop := 0, began := none }], weight := 11, answer := none, seen := ((((T3s27 t).seen.add 13).add 8).add 55), outcome := none }
noncomputable def T3s29 (t : Array Nat) : M := { code := codeT, text := t, lim := 3, start := 0, lastStart := 3, wholeText := false, mustAdvance := false, pc := 65, pos := 3, handed := 1, outermost := true, marks := #[none, none, (some 0), (some 1), (some 1), none], lastmark := 4, lastindex := 2, loops := #[{ pc := 7, count := (-1), began := none, outer := none }, { pc := 49, count := 0, began := (some 1), outer := none }], inner := (some 1), frames := [{ wait := .maxMore, pc := 68, pos := 1, outermost := true, count := 0, kept := { lastmark := 3, lastindex := 2, whole := true, marks := #[none, none, (some 0), (some 1)] }, loop := 1, began := none }, { wait := .closeLoop, pc := 49, pos := 1, outermost := true, count := 0, kept := { lastmark := (-1), lastindex := (-1), whole := false, marks := #[] }, loop := 1, began := none }, { wait := .giveBack, pc := 42, pos := 1, outermost := true, count := 0, kept := { lastmark := 3, lastindex := 2, whole := false, marks := #[] }, loop := 0, began := none }, { wait := .giveBack, pc := 30, pos := 1, outermost := true, count := 0, kept := { lastmark := 2, lastindex := (-1), whole := false, marks := #[] }, loop := 0, began := none }, { wait := .maxTail, pc := 23, pos := 0, outermost := true, count := 0, kept := { lastmark := (-1), lastindex := (-1), whole := false, marks := #[] }, loop := 0, began := none }, { wait := .closeLoop, pc := 7, pos := 0, outermost := true, count := 0, kept := { lastmark := (-1), lastindex := (-1), whole := false, marks := #[] }, loop := 0, began := none }, { wait := .nextStart, pc := 5, pos := 0, outermost := true, count := 0, kept := { lastmark := (-1), lastindex := (-1), whole := false, marks := #[] }, loop := 0, began := none }], weight := 11, answer := none, seen := ((((T3s28 t).seen.add 13).add 8).add 55), outcome := none }
noncomputable def T3s30 (t : Array Nat) : M := { code := codeT, text := t, lim := 3, start := 0, lastStart := 3, wholeText := false, mustAdvance := false, pc := 67, pos := 3, handed := 1, outermost := true, marks := #[none, none, (some 0), (some 1), (some 1), (some 3)], lastmark := 5, lastindex := 3, loops := #[{ pc := 7, count := (-1), began := none, outer := none }, { pc := 49, count := 0, began := (some 1), outer := none }], inner := (some 1), frames := [{ wait := .maxMore, pc := 68, pos := 1, outermost := true, count := 0, kept := { lastmark := 3, lastindex := 2, whole := true, marks := #[none, none, (some 0), (some 1)] }, loop := 1, began := none }, { wait := .closeLoop, pc := 49, pos := 1, outermost := true, count := 0, kept := { lastmark := (-1), lastindex := (-1), whole := false, marks := #[] }, loop := 1, began := none }, { wait := .giveBack, pc := 42, pos := 1, outermost := true, count := 0, kept := { lastmark := 3, lastindex := 2, whole := false, marks := #[] }, loop := 0, began := none }, { wait := .giveBack, pc := 30, pos := 1, outermost := true, count := 0, kept := { lastmark := 2, lastindex := (-1), whole := false, marks := #[] }, loop := 0, began := none }, { wait := .maxTail, pc := 23, pos := 0, outermost := true, count := 0, kept := { lastmark := (-1), lastindex := (-1), whole := false, marks := #[] }, loop := 0, began := none }, { wait := .closeLoop, pc := 7, pos := 0, outermost := true, count := 0, kept := { lastmark := (-1), lastindex := (-1), whole := false, marks := #[] }, loop := 0, began := none }, { wait := .nextStart, pc := 5, pos := 0, outermost := true, count := 0, kept := { lastmark := (-1), lastindex := (-1), whole := false, marks := #[] }, loop := 0, began := none }], weight := 11, answer := none, seen := ((T3s29 t).seen.add 17), outcome := none }
noncomputable def T3s31 (t : Array Nat) : M := { code := codeT, text := t, lim := 3, start := 0, lastStart := 3, wholeText := false, mustAdvance := false, pc := 68, pos := 3, handed := 3, outermost := true, marks := #[none, none, (some 0), (some 1), (some 1), (some 3)], lastmark := 5, lastindex := 3, loops := #[{ pc := 7, count := (-1), began := none, outer := none }, { pc := 49, count := 0, began := (some 1), outer := none }], inner := none, frames := [{ wait := .maxTail, pc := 68, pos := 3, outermost := true, count := 1, kept := { lastmark := 5, lastindex := 3, whole := false, marks := #[] }, loop := 1, began := none }, { wait := .maxMore, pc := 68, pos := 1, outermost := true, count := 0, kept := { lastmark := 3, lastindex := 2, whole := true, marks := #[none, none, (some 0), (some 1)] }, loop := 1, began := none }, { wait := .closeLoop, pc := 49, pos := 1, outermost := true, count := 0, kept := { lastmark := (-1), lastindex := (-1), whole := false, marks := #[] }, loop := 1, began := none }, { wait := .giveBack, pc := 42, pos := 1, outermost := true, count := 0, kept := { lastmark := 3, lastindex := 2, whole := false, marks := #[] }, loop := 0, began := none }, { wait := .giveBack, pc := 30, pos := 1, outermost := true, count := 0, kept := { lastmark := 2, lastindex := (-1), whole := false, marks := #[] }, loop := 0, began := none }, { wait := .maxTail, pc := 23, pos := 0, outermost := true, count := 0, kept := { lastmark := (-1), lastindex := (-1), whole := false, marks := #[] }, loop := 0, began := none }, { wait := .closeLoop, pc := 7, pos := 0, outermost := true, count := 0, kept := { lastmark := (-1), lastindex := (-1), whole := false, marks := #[] }, loop := 0, began := none }, { wait := .nextStart, pc := 5, pos := 0, outermost := true, count := 0, kept := { lastmark := (-1), lastindex := (-1), whole := false, marks := #[] }, loop := 0, began := none }], weight := 12, answer := none, seen := ((T3s30 t).seen.add 18), outcome := none }
noncomputable def T3s32 (t : Array Nat) : M := { code := codeT, text := t, lim := 3, start := 0, lastStart := 3, wholeText := false, mustAdvance := false, pc := 70, pos := 3, handed := 3, outermost := true, marks := #[none, none, (some 0), (some 1), (some 1), (some 3)], lastmark := 5, lastindex := 3, loops := #[{ pc := 7, count := (-1), began := none, outer := none }, { pc := 49, count := 0, began := (some 1), outer := none }], inner := none, frames := [{ wait := .maxTail, pc := 68, pos := 3, outermost := true, count := 1, kept := { lastmark := 5, lastindex := 3, whole := false, marks := #[] }, loop := 1, began := none }, { wait := .maxMore, pc := 68, pos := 1, outermost := true, count := 0, kept := { lastmark := 3, lastindex := 2, whole := true, marks := #[none, none, (some 0), (some 1)] }, loop := 1, began := none }, { wait := .closeLoop, pc := 49, pos := 1, outermost := true, count := 0, kept := { lastmark := (-1), lastindex := (-1), whole := false, marks := #[] }, loop := 1, began := none }, { wait := .giveBack, pc := 42, pos := 1, outermost := true, count := 0, kept := { lastmark := 3, lastindex := 2, whole := false, marks := #[] }, loop := 0, began := none }, { wait := .giveBack, pc := 30, pos := 1, outermost := true, count := 0, kept := { lastmark := 2, lastindex := (-1), whole := false, marks := #[] }, loop := 0, began := none }, { wait := .maxTail, pc := 23, pos := 0, outermost := true, count := 0, kept := { lastmark := (-1), lastindex := (-1), whole := false, marks := #[] }, loop := 0, began := none }, { wait := .closeLoop, pc := 7, pos := 0, outermost := true, count := 0, kept := { lastmark := (-1), lastindex := (-1), whole := false, marks := #[] }, loop := 0, began := none }, { wait := .nextStart, pc := 5, pos := 0, outermost := true, count := 0, kept := { lastmark := (-1), lastindex := (-1), whole := false, marks := #[] }, loop := 0, began := none }], weight := 12, answer := none, seen := (((T3s31 t).seen.add 6).add 48), outcome := none }
noncomputable def T3s33 (t : Array Nat) : M := { code := codeT, text := t, lim := 3, start := 0, lastStart := 3, wholeText := false, mustAdvance := false, pc := 70, pos := 3, handed := 3, outermost := true, marks := #[none, none, (some 0), (some 1), (some 1), (some 3)], lastmark := 5, lastindex := 3, loops := #[{ pc := 7, count := (-1), began := none, outer := none }, { pc := 49, count := 0, began := (some 1), outer := none }], inner := none, frames := [{ wait := .maxTail, pc := 68, pos := 3, outermost := true, count := 1, kept := { lastmark := 5, lastindex := 3, whole := false, marks := #[] }, loop := 1, began := none }, { wait := .maxMore, pc := 68, pos := 1, outermost := true, count := 0, kept := { lastmark := 3, lastindex := 2, whole := true, marks := #[none, none, (some 0), (some 1)] }, loop := 1, began := none }, { wait := .closeLoop, pc := 49, pos := 1, outermost := true, count := 0, kept := { lastmark := (-1), lastindex := (-1), whole := false, marks := #[] }, loop := 1, began := none }, { wait := .giveBack, pc := 42, pos := 1, outermost := true, count := 0, kept := { lastmark := 3, lastindex := 2, whole := false, marks := #[] }, loop := 0, began := none }, { wait := .giveBack, pc := 30, pos := 1, outermost := true, count := 0, kept := { lastmark := 2, lastindex := (-1), whole := false, marks := #[] }, loop := 0, began := none }, { wait := .maxTail, pc := 23, pos := 0, outermost := true, count := 0, kept := { lastmark := (-1), lastindex := (-1), whole := false, marks := #[] }, loop := 0, began := none }, { wait := .closeLoop, pc := 7, pos := 0, outermost := true, count := 0, kept := { lastmark := (-1), lastindex := (-1), whole := false, marks := #[] }, loop := 0, began := none }, { wait := .nextStart, pc := 5, pos := 0, outermost := true, count := 0, kept := { lastmark := (-1), lastindex := (-1), whole := false, marks := #[] }, loop := 0, began := none }], weight := 12, answer := (some true), seen := ((T3s32 t).seen.add 1), outcome := none }
noncomputable def T3s34 (t : Array Nat) : M := { code := codeT, text := t, lim := 3, start := 0, lastStart := 3, wholeText := false, mustAdvance := false, pc := 68, pos := 3, handed := 3, outermost := true, marks := #[none, none, (some 0), (some 1), (some 1), (some 3)], lastmark := 5, lastindex := 3, loops := #[{ pc := 7, count := (-1), began := none, outer := none }, { pc := 49, count := 0, began := (some 1), outer := none }], inner := (some 1), frames := [{ wait := .maxMore, pc := 68, pos := 1, outermost := true, count := 0, kept := { lastmark := 3, lastindex := 2, whole := true, marks := #[none, none, (some 0), (some 1)] }, loop := 1, began := none }, { wait := .closeLoop, pc := 49, pos := 1, outermost := true, count := 0, kept := { lastmark := (-1), lastindex := (-1), whole := false, marks := #[] }, loop := 1, began := none }, { wait := .giveBack, pc := 42, pos := 1, outermost := true, count := 0, kept := { lastmark := 3, lastindex := 2, whole := false, marks := #[] }, loop := 0, began := none }, { wait := .giveBack, pc := 30, pos := 1, outermost := true, count := 0, kept := { lastmark := 2, lastindex := (-1), whole := false, marks := #[] }, loop := 0, began := none }, { wait := .maxTail, pc := 23, pos := 0, outermost := true, count := 0, kept := { lastmark := (-1), lastindex := (-1), whole := false, marks := #[] }, loop := 0, began := none }, { wait := .closeLoop, pc := 7, pos := 0, outermost := true, count := 0, kept := { lastmark := (-1), lastindex := (-1), whole := false, marks := #[] }, loop := 0, began := none }, { wait := .nextStart, pc := 5, pos := 0, outermost := true, count := 0, kept := { lastmark := (-1), lastindex := (-1), whole := false, marks := #[] }, loop := 0, began := none }], weight := 11, answer := (some true), seen := (T3s33 t).seen, outcome := none }
noncomputable def T3s35 (t : Array Nat) : M := { code := codeT, text := t, lim := 3, start := 0, lastStart := 3, wholeText := false, mustAdvance := false, pc := 68, pos := 1, handed := 3, outermost := true, marks := #[none, none, (some 0), (some 1), (some 1), (some 3)], lastmark := 5, lastindex := 3, loops := #[{ pc := 7, count := (-1), began := none, outer := none }, { pc := 49, count := 0, began := none, outer := none }], inner := (some 1), frames := [{ wait := .closeLoop, pc := 49, pos := 1, outermost := true, count := 0, kept := { lastmark := (-1), lastindex := (-1), whole := false, marks := #[] }, loop := 1, began := none }, { wait := .giveBack, pc := 42, pos := 1, outermost := true, count := 0, kept := { lastmark := 3, lastindex := 2, whole := false, marks := #[] }, loop := 0, began := none }, { wait := .giveBack, pc := 30, pos := 1, outermost := true, count := 0, kept := { lastmark := 2, lastindex := (-1), whole := false, marks := #[] }, loop := 0, began := none }, { wait := .maxTail, pc := 23, pos := 0, outermost := true, count := 0, kept := { lastmark := (-1), lastindex := (-1), whole := false, marks := #[] }, loop := 0, began := none }, { wait := .closeLoop, pc := 7, pos := 0, outermost := true, count := 0, kept := { lastmark := (-1), lastindex := (-1), whole := false, marks := #[] }, loop := 0, began := none }, { wait := .nextStart, pc := 5, pos := 0, outermost := true, count := 0, kept := { lastmark := (-1), lastindex := (-1), whole := false, marks := #[] }, loop := 0, began := none }], weight := 6, answer := (some true), seen := (T3s34 t).seen, outcome := none }
noncomputable def T3s36 (t : Array Nat) : M := { code := codeT, text := t, lim := 3, start := 0, lastStart := 3, wholeText := false, mustAdvance := false, pc := 49, pos := 1, handed := 3, outermost := true, marks := #[none, none, (some 0), (some 1), (some 1), (some 3)], lastmark := 5, lastindex := 3, loops := #[{ pc := 7, count := (-1), began := none, outer := none }], inner := none, frames := [{ wait := .giveBack, pc := 42, pos := 1, outermost := true, count := 0, kept := { lastmark := 3, lastindex := 2, whole := false, marks := #[] }, loop := 0, began := none }, { wait := .giveBack, pc := 30, pos := 1, outermost := true, count := 0, kept := { lastmark := 2, lastindex := (-1), whole := false, marks := #[] }, loop := 0, began := none }, { wait := .maxTail, pc := 23, pos := 0, outermost := true, count := 0, kept := { lastmark := (-1), lastindex := (-1), whole := false, marks := #[] }, loop := 0, began := none }, { wait := .closeLoop, pc := 7, pos := 0, outermost := true, count := 0, kept := { lastmark := (-1), lastindex := (-1), whole := false, marks := #[] }, loop := 0, began := none }, { wait := .nextStart, pc := 5, pos := 0, outermost := true, count := 0, kept := { lastmark := (-1), lastindex := (-1), whole := false, marks := #[] }, loop := 0, began := none }], weight := 5, answer := (some true), seen := (T3s35 t).seen, outcome := none }
noncomputable def T3s37 (t : Array Nat) : M := { code := codeT, text := t, lim := 3, start := 0, lastStart := 3, wholeText := false, mustAdvance := false, pc := 42, pos := 1, handed := 3, outermost := true, marks := #[none, none, (some 0), (some 1), (some 1), (some 3)], lastmark := 5, lastindex := 3, loops := #[{ pc := 7, count := (-1), began := none, outer := none }], inner := none, frames := [{ wait := .giveBack, pc := 30, pos := 1, outermost := true, count := 0, kept := { lastmark := 2, lastindex := (-1), whole := false, marks := #[] }, loop := 0, began := none }, { wait := .maxTail, pc := 23, pos := 0, outermost := true, count := 0, kept := { lastmark := (-1), lastindex := (-1), whole := false, marks := #[] }, loop := 0, began := none }, { wait := .closeLoop, pc := 7, pos := 0, outermost := true, count := 0, kept := { lastmark := (-1), lastindex := (-1), whole := false, marks := #[] }, loop := 0, began := none }, { wait := .nextStart, pc := 5, pos := 0, outermost := true, count := 0, kept := { lastmark := (-1), lastindex := (-1), whole := false, marks := #[] }, loop := 0, began := none }], weight := 4, answer := (some true), seen := (T3s36 t).seen, outcome := none }
noncomputable def T3s38 (t : Array Nat) : M := { code := codeT, text := t, lim := 3, start := 0, lastStart := 3, wholeText := false, mustAdvance := false, pc := 30, pos := 1, handed := 3, outermost := true, marks := #[none, none, (some 0), (some 1), (some 1), (some 3)], lastmark := 5, lastindex := 3, loops := #[{ pc := 7, count := (-1), began := none, outer := none }], inner := none, frames := [{ wait := .maxTail, pc := 23, pos := 0, outermost := true, count := 0, kept := { lastmark := (-1), lastindex := (-1), whole := false, marks := #[] }, loop := 0, began := none }, { wait := .closeLoop, pc := 7, pos := 0, outermost := true, count := 0, kept := { lastmark := (-1), lastindex := (-1), whole := false, marks := #[] }, loop := 0, began := none }, { wait := .nextStart, pc := 5, pos := 0, outermost := true, count := 0, kept := { lastmark := (-1), lastindex := (-1), whole := false, marks := #[] }, loop := 0, began := none }], weight := 3, answer := (some true), seen := (T3s37 t).seen, outcome := none }
noncomputable def T3s39 (t : Array Nat) : M := { code := codeT, text := t, lim := 3, start := 0, lastStart := 3, wholeText := false, mustAdvance := false, pc := 23, pos := 0, handed := 3, outermost := true, marks := #[none, none, (some 0), (some 1), (some 1), (some 3)], lastmark := 5, lastindex := 3, loops := #[{ pc := 7, count := (-1), began := none, outer := none }], inner := (some 0), frames := [{ wait := .closeLoop, pc := 7, pos := 0, outermost := true, count := 0, kept := { lastmark := (-1), lastindex := (-1), whole := false, marks := #[] }, loop := 0, began := none }, { wait := .nextStart, pc := 5, pos := 0, outermost := true, count := 0, kept := { lastmark := (-1), lastindex := (-1), whole := false, marks := #[] }, loop := 0, began := none }], weight := 2, answer := (some true), seen := (T3s38 t).seen, outcome := none }
noncomputable def T3s40 (t : Array Nat) : M := { code := codeT, text := t, lim := 3, start := 0, lastStart := 3, wholeText := false, mustAdvance := false, pc := 7, pos := 0, handed := 3, outermost := true, marks := #[none, none, (some 0), (some 1), (some 1), (some 3)], lastmark := 5, lastindex := 3, loops := #[], inner := none, frames := [{ wait := .nextStart, pc := 5, pos := 0, outermost := true, count := 0, kept := { lastmark := (-1), lastindex := (-1), whole := false, marks := #[] }, loop := 0, began := none }], weight := 1, answer := (some true), seen := (T3s39 t).seen, outcome := none }
noncomputable def T3s41 (t : Array Nat) : M := { code := codeT, text := t, lim := 3, start := 0, lastStart := 3, wholeText := false, mustAdvance := false, pc := 5, pos := 0, handed := 3, outermost := true, marks := #[none, none, (some 0), (some 1), (some 1), (some 3)], lastmark := 5, lastindex := 3, loops := #[], inner := none, frames := [], weight := 0, answer := (some true), seen := (T3s40 t).seen, outcome := none }
noncomputable def T3s42 (t : Array Nat) : M := { code := codeT, text := t, lim := 3, start := 0, lastStart := 3, wholeText := false, mustAdvance := false, pc := 5, pos := 0, handed := 3, outermost := true, marks := #[none, none, (some 0), (some 1), (some 1), (some 3)], lastmark := 5, lastindex := 3, loops := #[], inner := none, frames := [], weight := 0, answer := (some true), seen := (T3s41 t).seen, outcome := (some .matched) }
theorem T3e0 {t : Array Nat} : M.step (T3s0 t) = T3s1 t := by kernel_rfl
theorem T3e1 {t : Array Nat} : M.step (T3s1 t) = T3s2 t := by kernel_rfl
theorem T3e2 {t : Array Nat} : M.step (T3s2 t) = T3s3 t := by kernel_rfl
theorem T3e3 {t : Array Nat} : M.step (T3s3 t) = T3s4 t := by kernel_rfl
theorem T3e4 {t : Array Nat} (h0 : isDigit (t.getD 0 0) = true) : M.step (T3s4 t) = T3s5 t := (step_exec rfl rfl (show 13 < 71 by decide)).trans ((exec_char (op := .IN) rfl (.inr rfl) (show 0 < 3 by decide) (acc13 h0)).trans (by kernel_rfl))
theorem T3e5 {t : Array Nat} : M.step (T3s5 t) = T3s6 t := by kernel_rfl
theorem T3e6 {t : Array Nat} : M.step (T3s6 t) = T3s7 t := by kernel_rfl
theorem T3e7 {t : Array Nat} (h0 : isDigit (t.getD 0 0) = true) : M.step (T3s7 t) = T3s8 t := (step_exec rfl rfl (show 25 < 71 by decide)).trans ((exec_char (op := .IN) rfl (.inr rfl) (show 0 < 3 by decide) (acc25 h0)).trans (by kernel_rfl))
theorem T3e8 {t : Array Nat} (h1 : isDigit (t.getD 1 0) = true) : M.step (T3s8 t) = T3s9 t := (step_exec rfl rfl (show 30 < 71 by decide)).trans ((exec_rep rfl (show ¬ (((0 : Nat) : Int) > ((3 : Nat) : Int) - ((1 : Nat) : Int)) by decide) (run34 h1) (show ¬ (1 < 0) by decide)).trans (by kernel_rfl))
theorem T3e9 {t : Array Nat} : M.step (T3s9 t) = T3s10 t := by kernel_rfl
theorem T3e10 {t : Array Nat} (h2 : isDigit (t.getD 2 0) = true) : M.step (T3s10 t) = T3s11 t := (step_exec rfl rfl (show 42 < 71 by decide)).trans ((exec_rep rfl (show ¬ (((0 : Nat) : Int) > ((3 : Nat) : Int) - ((2 : Nat) : Int)) by decide) (run46 h2) (show ¬ (0 < 0) by decide)).trans (by kernel_rfl))
theorem T3e11 {t : Array Nat} : M.step (T3s11 t) = T3s12 t := by kernel_rfl
theorem T3e12 {t : Array Nat} : M.step (T3s12 t) = T3s13 t := by kernel_rfl
theorem T3e13 {t : Array Nat} : M.step (T3s13 t) = T3s14 t := by kernel_rfl
theorem T3e14 {t : Array Nat} (h2 : isDigit (t.getD 2 0) = true) : M.step (T3s14 t) = T3s15 t := (step_exec rfl rfl (show 55 < 71 by decide)).trans ((exec_char (op := .IN) rfl (.inr rfl) (show 2 < 3 by decide) (acc55 h2)).trans (by kernel_rfl))
theorem T3e15 {t : Array Nat} : M.step (T3s15 t) = T3s16 t := by kernel_rfl
theorem T3e16 {t : Array Nat} : M.step (T3s16 t) = T3s17 t := by kernel_rfl
theorem T3e17 {t : Array Nat} (h2 : isDigit (t.getD 2 0) = true) : M.step (T3s17 t) = T3s18 t := (step_exec rfl rfl (show 68 < 71 by decide)).trans ((at68 (y := false) rfl (by show Except.ok (false || (true && (t.getD 2 0 == 10))) = _; rw [(fig_ne h2).2.2.2]; rfl)).trans (by kernel_rfl))
theorem T3e18 {t : Array Nat} : M.step (T3s18 t) = T3s19 t := by kernel_rfl
theorem T3e19 {t : Array Nat} : M.step (T3s19 t) = T3s20 t := by kernel_rfl
theorem T3e20 {t : Array Nat} : M.step (T3s20 t) = T3s21 t := by kernel_rfl
theorem T3e21 {t : Array Nat} : M.step (T3s21 t) = T3s22 t := by kernel_rfl
theorem T3e22 {t : Array Nat} : M.step (T3s22 t) = T3s23 t := by kernel_rfl
theorem T3e23 {t : Array Nat} (h1 : isDigit (t.getD 1 0) = true) : M.step (T3s23 t) = T3s24 t := (step_exec rfl rfl (show 42 < 71 by decide)).trans ((exec_rep rfl (show ¬ (((0 : Nat) : Int) > ((3 : Nat) : Int) - ((1 : Nat) : Int)) by decide) (run46 h1) (show ¬ (0 < 0) by decide)).trans (by kernel_rfl))
theorem T3e24 {t : Array Nat} : M.step (T3s24 t) = T3s25 t := by kernel_rfl
theorem T3e25 {t : Array Nat} : M.step (T3s25 t) = T3s26 t := by kernel_rfl
theorem T3e26 {t : Array Nat} : M.step (T3s26 t) = T3s27 t := by kernel_rfl
theorem T3e27 {t : Array Nat} (h1 : isDigit (t.getD 1 0) = true) : M.step (T3s27 t) = T3s28 t := (step_exec rfl rfl (show 55 < 71 by decide)).trans ((exec_char (op := .IN) rfl (.inr rfl) (show 1 < 3 by decide) (acc55 h1)).trans (by kernel_rfl))
theorem T3e28 {t : Array Nat} (h2 : isDigit (t.getD 2 0) = true) : M.step (T3s28 t) = T3s29 t := (step_exec rfl rfl (show 60 < 71 by decide)).trans ((exec_char (op := .IN) rfl (.inr rfl) (show 2 < 3 by decide) (acc60 h2)).trans (by kernel_rfl))
theorem T3e29 {t : Array Nat} : M.step (T3s29 t) = T3s30 t := by kernel_rfl
theorem T3e30 {t : Array Nat} : M.step (T3s30 t) = T3s31 t := by kernel_rfl
theorem T3e31 {t : Array Nat} : M.step (T3s31 t) = T3s32 t := by kernel_rfl
theorem T3e32 {t : Array Nat} : M.step (T3s32 t) = T3s33 t := by kernel_rfl
theorem T3e33 {t : Array Nat} : M.step (T3s33 t) = T3s34 t := by kernel_rfl
theorem T3e34 {t : Array Nat} : M.step (T3s34 t) = T3s35 t := by kernel_rfl
theorem T3e35 {t : Array Nat} : M.step (T3s35 t) = T3s36 t := by kernel_rfl
theorem T3e36 {t : Array Nat} : M.step (T3s36 t) = T3s37 t := by kernel_rfl
theorem T3e37 {t : Array Nat} : M.step (T3s37 t) = T3s38 t := by kernel_rfl
theorem T3e38 {t : Array Nat} : M.step (T3s38 t) = T3s39 t := by kernel_rfl
theorem T3e39 {t : Array Nat} : M.step (T3s39 t) = T3s40 t := by kernel_rfl
theorem T3e40 {t : Array Nat} : M.step (T3s40 t) = T3s41 t := by kernel_rfl
theorem T3e41 {t : Array Nat} : M.step (T3s41 t) = T3s42 t := by kernel_rfl
theorem searchT3i {t : Array Nat} : M.attemptFrom (preT t 3) 0 true = T3s0 t := by kernel_rfl
theorem searchT3 {t : Array Nat} (h0 : isDigit (t.getD 0 0) = true) (h1 : isDigit (t.getD 1 0) = true) (h2 : isDigit (t.getD 2 0) = true) : M.runFor 42 (forSearch codeT t 3 0 3 false) = T3s42 t :=
  (congrArg (M.runFor 42) ((forSearchT (by decide)).trans searchT3i)).trans <|
  (runFor_step (m := T3s0 t) (m' := T3s1 t) rfl T3e0 41).trans <|
  (runFor_step (m := T3s1 t) (m' := T3s2 t) rfl T3e1 40).trans <|
  (runFor_step (m := T3s2 t) (m' := T3s3 t) rfl T3e2 39).trans <|
  (runFor_step (m := T3s3 t) (m' := T3s4 t) rfl T3e3 38).trans <|
  (runFor_step (m := T3s4 t) (m' := T3s5 t) rfl (T3e4 h0) 37).trans <|
  (runFor_step (m := T3s5 t) (m' := T3s6 t) rfl T3e5 36).trans <|
  (runFor_step (m := T3s6 t) (m' := T3s7 t) rfl T3e6 35).trans <|
  (runFor_step (m := T3s7 t) (m' := T3s8 t) rfl (T3e7 h0) 34).trans <|
  (runFor_step (m := T3s8 t) (m' := T3s9 t) rfl (T3e8 h1) 33).trans <|
  (runFor_step (m := T3s9 t) (m' := T3s10 t) rfl T3e9 32).trans <|
  (runFor_step (m := T3s10 t) (m' := T3s11 t) rfl (T3e10 h2) 31).trans <|
  (runFor_step (m := T3s11 t) (m' := T3s12 t) rfl T3e11 30).trans <|
  (runFor_step (m := T3s12 t) (m' := T3s13 t) rfl T3e12 29).trans <|
  (runFor_step (m := T3s13 t) (m' := T3s14 t) rfl T3e13 28).trans <|
  (runFor_step (m := T3s14 t) (m' := T3s15 t) rfl (T3e14 h2) 27).trans <|
  (runFor_step (m := T3s15 t) (m' := T3s16 t) rfl T3e15 26).trans <|
  (runFor_step (m := T3s16 t) (m' := T3s17 t) rfl T3e16 25).trans <|
  (runFor_step (m := T3s17 t) (m' := T3s18 t) rfl (T3e17 h2) 24).trans <|
  (runFor_step (m := T3s18 t) (m' := T3s19 t) rfl T3e18 23).trans <|
  (runFor_step (m := T3s19 t) (m' := T3s20 t) rfl T3e19 22).trans <|
  (runFor_step (m := T3s20 t) (m' := T3s21 t) rfl T3e20 21).trans <|
  (runFor_step (m := T3s21 t) (m' := T3s22 t) rfl T3e21 20).trans <|
  (runFor_step (m := T3s22 t) (m' := T3s23 t) rfl T3e22 19).trans <|
  (runFor_step (m := T3s23 t) (m' := T3s24 t) rfl (T3e23 h1) 18).trans <|
  (runFor_step (m := T3s24 t) (m' := T3s25 t) rfl T3e24 17).trans <|
  (runFor_step (m := T3s25 t) (m' := T3s26 t) rfl T3e25 16).trans <|
  (runFor_step (m := T3s26 t) (m' := T3s27 t) rfl T3e26 15).trans <|
  (runFor_step (m := T3s27 t) (m' := T3s28 t) rfl (T3e27 h1) 14).trans <|
  (runFor_step (m := T3s28 t) (m' := T3s29 t) rfl (T3e28 h2) 13).trans <|
  (runFor_step (m := T3s29 t) (m' := T3s30 t) rfl T3e29 12).trans <|
  (runFor_step (m := T3s30 t) (m' := T3s31 t) rfl T3e30 11).trans <|
  (runFor_step (m := T3s31 t) (m' := T3s32 t) rfl T3e31 10).trans <|
  (runFor_step (m := T3s32 t) (m' := T3s33 t) rfl T3e32 9).trans <|
  (runFor_step (m := T3s33 t) (m' := T3s34 t) rfl T3e33 8).trans <|
  (runFor_step (m := T3s34 t) (m' := T3s35 t) rfl T3e34 7).trans <|
  (runFor_step (m := T3s35 t) (m' := T3s36 t) rfl T3e35 6).trans <|
  (runFor_step (m := T3s36 t) (m' := T3s37 t) rfl T3e36 5).trans <|
  (runFor_step (m := T3s37 t) (m' := T3s38 t) rfl T3e37 4).trans <|
  (runFor_step (m := T3s38 t) (m' := T3s39 t) rfl T3e38 3).trans <|
  (runFor_step (m := T3s39 t) (m' := T3s40 t) rfl T3e39 2).trans <|
  (runFor_step (m := T3s40 t) (m' := T3s41 t) rfl T3e40 1).trans <|
  (runFor_step (m := T3s41 t) (m' := T3s42 t) rfl T3e41 0).trans <|
  rfl
noncomputable def T4s0 (t : Array Nat) : M := { code := codeT, text := t, lim := 4, start := 0, lastStart := 4, wholeText := false, mustAdvance := false, pc := 5, pos := 0, handed := 0, outermost := true, marks := #[none, none, none, none, none, none], lastmark := (-1), lastindex := (-1), loops := #[], inner := none, frames := [{ wait := .nextStart, pc := 5, pos := 0, outermost := true, count := 0, kept := { lastmark := (-1), lastindex := (-1), whole := false, marks := #[] }, loop := 0, began := none }], weight := 1, answer := none, seen := ({} : Seen).add 14, outcome := none }
noncomputable def T4s1 (t : Array Nat) : M := { code := codeT, text := t, lim := 4, start := 0, lastStart := 4, wholeText := false, mustAdvance := false, pc := 7, pos := 0, handed := 0, outermost := true, marks := #[none, none, none, none, none, none], lastmark := (-1), lastindex := (-1), loops := #[], inner := none, frames := [{ wait := .nextStart, pc := 5, pos := 0, outermost := true, count := 0, kept := { lastmark := (-1), lastindex := (-1), whole := false, marks := #[] }, loop := 0, began := none }], weight := 1, answer := none, seen := (((T4s0 t).seen.add 6).add 43), outcome := none }
noncomputable def T4s2 (t : Array Nat) : M := { code := codeT, text := t, lim := 4, start := 0, lastStart := 4, wholeText := false, mustAdvance := false, pc := 22, pos := 0, handed := 0, outermost := true, marks := #[none, none, none, none, none, none], lastmark := (-1), lastindex := (-1), loops := #[{ pc := 7, count := (-1), began := none, outer := none }], inner := (some 0), frames := [{ wait := .closeLoop, pc := 7, pos := 0, outermost := true, count := 0, kept := { lastmark := (-1), lastindex := (-1), whole := false, marks := #[] }, loop := 0, began := none }, { wait := .nextStart, pc := 5, pos := 0, outermost := true, count := 0, kept := { lastmark := (-1), lastindex := (-1), whole := false, marks := #[] }, loop := 0, began := none }], weight := 2, answer := none, seen := ((T4s1 t).seen.add 23), outcome := none }
noncomputable def T4s3 (t : Array Nat) : M := { code := codeT, text := t, lim := 4, start := 0, lastStart := 4, wholeText := false, mustAdvance := false, pc := 11, pos := 0, handed := 0, outermost := true, marks := #[none, none, none, none, none, none], lastmark := (-1), lastindex := (-1), loops := #[{ pc := 7, count := 0, began := (some 0), outer := none }], inner := (some 0), frames := [{ wait := .maxMore, pc := 23, pos := 0, outermost := true, count := 0, kept := { lastmark := (-1), lastindex := (-1), whole := true, marks := #[] }, loop := 0, began := none }, { wait := .closeLoop, pc := 7, pos := 0, outermost := true, count := 0, kept := { lastmark := (-1), lastindex := (-1), whole := false, marks := #[] }, loop := 0, began := none }, { wait := .nextStart, pc := 5, pos := 0, outermost := true, count := 0, kept := { lastmark := (-1), lastindex := (-1), whole := false, marks := #[] }, loop := 0, began := none }], weight := 3, answer := none, seen := ((T4s2 t).seen.add 18), outcome := none }
noncomputable def T4s4 (t : Array Nat) : M := { code := codeT, text := t, lim := 4, start := 0, lastStart := 4, wholeText := false, mustAdvance := false, pc := 13, pos := 0, handed := 0, outermost := true, marks := #[(some 0), none, none, none, none, none], lastmark := 0, lastindex := (-1), loops := #[{ pc := 7, count := 0, began := (some 0), outer := none }], inner := (some 0), frames := [{ wait := .maxMore, pc := 23, pos := 0, outermost := true, count := 0, kept := { lastmark := (-1), lastindex := (-1), whole := true, marks := #[] }, loop := 0, began := none }, { wait := .closeLoop, pc := 7, pos := 0, outermost := true, count := 0, kept := { lastmark := (-1), lastindex := (-1), whole := false, marks := #[] }, loop := 0, began := none }, { wait := .nextStart, pc := 5, pos := 0, outermost := true, count := 0, kept := { lastmark := (-1), lastindex := (-1), whole := false, marks := #[] }, loop := 0, began := none }], weight := 3, answer := none, seen := ((T4s3 t).seen.add 17), outcome := none }
noncomputable def T4s5 (t : Array Nat) : M := { code := codeT, text := t, lim := 4, start := 0, lastStart := 4, wholeText := false, mustAdvance := false, pc := 13, pos := 0, handed := 0, outermost := true, marks := #[(some 0), none, none, none, none, none], lastmark := 0, lastindex := (-1), loops := #[{ pc := 7, count := 0, began := (some 0), outer := none }], inner := (some 0), frames := [{ wait := .maxMore, pc := 23, pos := 0, outermost := true, count := 0, kept := { lastmark := (-1), lastindex := (-1), whole := true, marks := #[] }, loop := 0, began := none }, { wait := .closeLoop, pc := 7, pos := 0, outermost := true, count := 0, kept := { lastmark := (-1), lastindex := (-1), whole := false, marks := #[] }, loop := 0, began := none }, { wait := .nextStart, pc := 5, pos := 0, outermost := true, count := 0, kept := { lastmark := (-1), lastindex := (-1), whole := false, marks := #[] }, loop := 0, began := none }], weight := 3, answer := (some false), seen := (((((T4s4 t).seen.add 13).add 16).add 16).add 0), outcome := none }
noncomputable def T4s6 (t : Array Nat) : M := { code := codeT, text := t, lim := 4, start := 0, lastStart := 4, wholeText := false, mustAdvance := false, pc := 23, pos := 0, handed := 0, outermost := true, marks := #[(some 0), none, none, none, none, none], lastmark := (-1), lastindex := (-1), loops := #[{ pc := 7, count := (-1), began := none, outer := none }], inner := none, frames := [{ wait := .maxTail, pc := 23, pos := 0, outermost := true, count := 0, kept := { lastmark := (-1), lastindex := (-1), whole := false, marks := #[] }, loop := 0, began := none }, { wait := .closeLoop, pc := 7, pos := 0, outermost := true, count := 0, kept := { lastmark := (-1), lastindex := (-1), whole := false, marks := #[] }, loop := 0, began := none }, { wait := .nextStart, pc := 5, pos := 0, outermost := true, count := 0, kept := { lastmark := (-1), lastindex := (-1), whole := false, marks := #[] }, loop := 0, began := none }], weight := 3, answer := none, seen := (T4s5 t).seen, outcome := none }
noncomputable def T4s7 (t : Array Nat) : M := { code := codeT, text := t, lim := 4, start := 0, lastStart := 4, wholeText := false, mustAdvance := false, pc := 25, pos := 0, handed := 0, outermost := true, marks := #[none, none, (some 0), none, none, none], lastmark := 2, lastindex := (-1), loops := #[{ pc := 7, count := (-1), began := none, outer := none }], inner := none, frames := [{ wait := .maxTail, pc := 23, pos := 0, outermost := true, count := 0, kept := { lastmark := (-1), lastindex := (-1), whole := false, marks := #[] }, loop := 0, began := none }, { wait := .closeLoop, pc := 7, pos := 0, outermost := true, count := 0, kept := { lastmark := (-1), lastindex := (-1), whole := false, marks := #[] }, loop := 0, began := none }, { wait := .nextStart, pc := 5, pos := 0, outermost := true, count := 0, kept := { lastmark := (-1), lastindex := (-1), whole := false, marks := #[] }, loop := 0, began := none }], weight := 3, answer := none, seen := ((T4s6 t).seen.add 17), outcome := none }
noncomputable def T4s8 (t : Array Nat) : M := { code := codeT, text := t, lim := 4, start := 0, lastStart := 4, wholeText := false, mustAdvance := false, pc := 30, pos := 1, handed := 0, outermost := true, marks := #[none, none, (some 0), none, none, none], lastmark := 2, lastindex := (-1), loops := #[{ pc := 7, count := (-1), began := none, outer := none }], inner := none, frames := [{ wait := .maxTail, pc := 23, pos := 0, outermost := true, count := 0, kept := { lastmark := (-1), lastindex := (-1), whole := false, marks := #[] }, loop := 0, began := none }, { wait := .closeLoop, pc := 7, pos := 0, outermost := true, count := 0, kept := { lastmark := (-1), lastindex := (-1), whole := false, marks := #[] }, loop := 0, began := none }, { wait := .nextStart, pc := 5, pos := 0, outermost := true, count := 0, kept := { lastmark := (-1), lastindex := (-1), whole := false, marks := #[] }, loop := 0, began := none }], weight := 3, answer := none, seen := ((((T4s7 t).seen.add 13).add 8).add 55), outcome := none }
noncomputable def T4s9 (t : Array Nat) : M := { code := codeT, text := t, lim := 4, start := 0, lastStart := 4, wholeText := false, mustAdvance := false, pc := 40, pos := 2, handed := 2, outermost := true, marks := #[none, none, (some 0), none, none, none], lastmark := 2, lastindex := (-1), loops := #[{ pc := 7, count := (-1), began := none, outer := none }], inner := none, frames := [{ wait := .giveBack, pc := 30, pos := 2, outermost := true, count := 1, kept := { lastmark := 2, lastindex := (-1), whole := false, marks := #[] }, loop := 0, began := none }, { wait := .maxTail, pc := 23, pos := 0, outermost := true, count := 0, kept := { lastmark := (-1), lastindex := (-1), whole := false, marks := #[] }, loop := 0, began := none }, { wait := .closeLoop, pc := 7, pos := 0, outermost := true, count := 0, kept := { lastmark := (-1), lastindex := (-1), whole := false, marks := #[] }, loop := 0, began := none }, { wait := .nextStart, pc := 5, pos := 0, outermost := true, count := 0, kept := { lastmark := (-1), lastindex := (-1), whole := false, marks := #[] }, loop := 0, began := none }], weight := 4, answer := none, seen := (((((T4s8 t).seen.add 24).add 13).add 8).add 55), outcome := none }
noncomputable def T4s10 (t : Array Nat) : M := { code := codeT, text := t, lim := 4, start := 0, lastStart := 4, wholeText := false, mustAdvance := false, pc := 42, pos := 2, handed := 2, outermost := true, marks := #[none, none, (some 0), (some 2), none, none], lastmark := 3, lastindex := 2, loops := #[{ pc := 7, count := (-1), began := none, outer := none }], inner := none, frames := [{ wait := .giveBack, pc := 30, pos := 2, outermost := true, count := 1, kept := { lastmark := 2, lastindex := (-1), whole := false, marks := #[] }, loop := 0, began := none }, { wait := .maxTail, pc := 23, pos := 0, outermost := true, count := 0, kept := { lastmark := (-1), lastindex := (-1), whole := false, marks := #[] }, loop := 0, began := none }, { wait := .closeLoop, pc := 7, pos := 0, outermost := true, count := 0, kept := { lastmark := (-1), lastindex := (-1), whole := false, marks := #[] }, loop := 0, began := none }, { wait := .nextStart, pc := 5, pos := 0, outermost := true, count := 0, kept := { lastmark := (-1), lastindex := (-1), whole := false, marks := #[] }, loop := 0, began := none }], weight := 4, answer := none, seen := ((T4s9 t).seen.add 17), outcome := none }
noncomputable def T4s11 (t : Array Nat) : M := { code := codeT, text := t, lim := 4, start := 0, lastStart := 4, wholeText := false, mustAdvance := false, pc := 49, pos := 2, handed := 2, outermost := true, marks := #[none, none, (some 0), (some 2), none, none], lastmark := 3, lastindex := 2, loops := #[{ pc := 7, count := (-1), began := none, outer := none }], inner := none, frames := [{ wait := .giveBack, pc := 42, pos := 2, outermost := true, count := 0, kept := { lastmark := 3, lastindex := 2, whole := false, marks := #[] }, loop := 0, began := none }, { wait := .giveBack, pc := 30, pos := 2, outermost := true, count := 1, kept := { lastmark := 2, lastindex := (-1), whole := false, marks := #[] }, loop := 0, began := none }, { wait := .maxTail, pc := 23, pos := 0, outermost := true, count := 0, kept := { lastmark := (-1), lastindex := (-1), whole := false, marks := #[] }, loop := 0, began := none }, { wait := .closeLoop, pc := 7, pos := 0, outermost := true, count := 0, kept := { lastmark := (-1), lastindex := (-1), whole := false, marks := #[] }, loop := 0, began := none }, { wait := .nextStart, pc := 5, pos := 0, outermost := true, count := 0, kept := { lastmark := (-1), lastindex := (-1), whole := false, marks := #[] }, loop := 0, began := none }], weight := 5, answer := none, seen := (((T4s10 t).seen.add 24).add 16), outcome := none }
noncomputable def T4s12 (t : Array Nat) : M := { code := codeT, text := t, lim := 4, start := 0, lastStart := 4, wholeText := false, mustAdvance := false, pc := 67, pos := 2, handed := 2, outermost := true, marks := #[none, none, (some 0), (some 2), none, none], lastmark := 3, lastindex := 2, loops := #[{ pc := 7, count := (-1), began := none, outer := none }, { pc := 49, count := (-1), began := none, outer := none }], inner := (some 1), frames := [{ wait := .closeLoop, pc := 49, pos := 2, outermost := true, count := 0, kept := { lastmark := (-1), lastindex := (-1), whole := false, marks := #[] }, loop := 1, began := none }, { wait := .giveBack, pc := 42, pos := 2, outermost := true, count := 0, kept := { lastmark := 3, lastindex := 2, whole := false, marks := #[] }, loop := 0, began := none }, { wait := .giveBack, pc := 30, pos := 2, outermost := true, count := 1, kept := { lastmark := 2, lastindex := (-1), whole := false, marks := #[] }, loop := 0, began := none }, { wait := .maxTail, pc := 23, pos := 0, outermost := true, count := 0, kept := { lastmark := (-1), lastindex := (-1), whole := false, marks := #[] }, loop := 0, began := none }, { wait := .closeLoop, pc := 7, pos := 0, outermost := true, count := 0, kept := { lastmark := (-1), lastindex := (-1), whole := false, marks := #[] }, loop := 0, began := none }, { wait := .nextStart, pc := 5, pos := 0, outermost := true, count := 0, kept := { lastmark := (-1), lastindex := (-1), whole := false, marks := #[] }, loop := 0, began := none }], weight := 6, answer := none, seen := ((T4s11 t).seen.add 23), outcome := none }
noncomputable def T4s13 (t : Array Nat) : M := { code := codeT, text := t, lim := 4, start := 0, lastStart := 4, wholeText := false, mustAdvance := false, pc := 53, pos := 2, handed := 2, outermost := true, marks := #[none, none, (some 0), (some 2), none, none], lastmark := 3, lastindex := 2, loops := #[{ pc := 7, count := (-1), began := none, outer := none }, { pc := 49, count := 0, began := (some 2), outer := none }], inner := (some 1), frames := [{ wait := .maxMore, pc := 68, pos := 2, outermost := true, count := 0, kept := { lastmark := 3, lastindex := 2, whole := true, marks := #[none, none, (some 0), (some 2)] }, loop := 1, began := none }, { wait := .closeLoop, pc := 49, pos := 2, outermost := true, count := 0, kept := { lastmark := (-1), lastindex := (-1), whole := false, marks := #[] }, loop := 1, began := none }, { wait := .giveBack, pc := 42, pos := 2, outermost := true, count := 0, kept := { lastmark := 3, lastindex := 2, whole := false, marks := #[] }, loop := 0, began := none }, { wait := .giveBack, pc := 30, pos := 2, outermost := true, count := 1, kept := { lastmark := 2, lastindex := (-1), whole := false, marks := #[] }, loop := 0, began := none }, { wait := .maxTail, pc := 23, pos := 0, outermost := true, count := 0, kept := { lastmark := (-1), lastindex := (-1), whole := false, marks := #[] }, loop := 0, began := none }, { wait := .closeLoop, pc := 7, pos := 0, outermost := true, count := 0, kept := { lastmark := (-1), lastindex := (-1), whole := false, marks := #[] }, loop := 0, began := none }, { wait := .nextStart, pc := 5, pos := 0, outermost := true, count := 0, kept := { lastmark := (-1), lastindex := (-1), whole := false, marks := #[] }, loop := 0, began := none }], weight := 11, answer := none, seen := ((T4s12 t).seen.add 18), outcome := none }
noncomputable def T4s14 (t : Array Nat) : M := { code := codeT, text := t, lim := 4, start := 0, lastStart := 4, wholeText := false, mustAdvance := false, pc := 55, pos := 2, handed := 2, outermost := true, marks := #[none, none, (some 0), (some 2), (some 2), none], lastmark := 4, lastindex := 2, loops := #[{ pc := 7, count := (-1), began := none, outer := none }, { pc := 49, count := 0, began := (some 2), outer := none }], inner := (some 1), frames := [{ wait := .maxMore, pc := 68, pos := 2, outermost := true, count := 0, kept := { lastmark := 3, lastindex := 2, whole := true, marks := #[none, none, (some 0), (some 2)] }, loop := 1, began := none }, { wait := .closeLoop, pc := 49, pos := 2, outermost := true, count := 0, kept := { lastmark := (-1), lastindex := (-1), whole := false, marks := #[] }, loop := 1, began := none }, { wait := .giveBack, pc := 42, pos := 2, outermost := true, count := 0, kept := { lastmark := 3, lastindex := 2, whole := false, marks := #[] }, loop := 0, began := none }, { wait := .giveBack, pc := 30, pos := 2, outermost := true, count := 1, kept := { lastmark := 2, lastindex := (-1), whole := false, marks := #[] }, loop := 0, began := none }, { wait := .maxTail, pc := 23, pos := 0, outermost := true, count := 0, kept := { lastmark := (-1), lastindex := (-1), whole := false, marks := #[] }, loop := 0, began := none }, { wait := .closeLoop, pc := 7, pos := 0, outermost := true, count := 0, kept := { lastmark := (-1), lastindex := (-1), whole := false, marks := #[] }, loop := 0, began := none }, { wait := .nextStart, pc := 5, pos := 0, outermost := true, count := 0, kept := { lastmark := (-1), lastindex := (-1), whole := false, marks := #[] }, loop := 0, began := none }], weight := 11, answer := none, seen := ((T4s13 t).seen.add 17), outcome := none }
noncomputable def T4s15 (t : Array Nat) : M := { code := codeT, text := t, lim := 4, start := 0, lastStart := 4, wholeText := false, mustAdvance := false, pc := 60, pos := 3, handed := 2, outermost := true, marks := #[none, none, (some 0), (some 2), (some 2), none], lastmark := 4, lastindex := 2, loops := #[{ pc := 7, count := (-1), began := none, outer := none }, { pc := 49, count := 0, began := (some 2), outer := none }], inner := (some 1), frames := [{ wait := .maxMore, pc := 68, pos := 2, outermost := true, count := 0, kept := { lastmark := 3, lastindex := 2, whole := true, marks := #[none, none, (some 0), (some 2)] }, loop := 1, began := none }, { wait := .closeLoop, pc := 49, pos := 2, outermost := true, count := 0, kept := { lastmark := (-1), lastindex := (-1), whole := false, marks := #[] }, loop := 1, began := none }, { wait := .giveBack, pc := 42, pos := 2, outermost := true, count := 0, kept := { lastmark := 3, lastindex := 2, whole := false, marks := #[] }, loop := 0, began := none }, { wait := .giveBack, pc := 30, pos := 2, outermost := true, count := 1, kept := { lastmark := 2, lastindex := (-1), whole := false, marks := #[] }, loop := 0, began := none }, { wait := .maxTail, pc := 23, pos := 0, outermost := true, count := 0, kept := { lastmark := (-1), lastindex := (-1), whole := false, marks := #[] }, loop := 0, began := none }, { wait := .closeLoop, pc := 7, pos := 0, outermost := true, count := 0, kept := { lastmark := (-1), lastindex := (-1), whole := false, marks := #[] }, loop := 0, began := none }, { wait := .nextStart, pc := 5, pos := 0, outermost := true, count := 0, kept := { lastmark := (-1), lastindex := (-1), whole := false, marks := #[] }, loop := 0, began := none }], weight := 11, answer := none, seen := ((((T4s14 t).seen.add 13).add 8).add 55), outcome := none }
noncomputable def T4s16 (t : Array Nat) : M := { code := codeT, text := t, lim := 4, start := 0, lastStart := 4, wholeText := false, mustAdvance := false, pc := 65, pos := 4, handed := 2, outermost := true, marks := #[none, none, (some 0), (some 2), (some 2), none], lastmark := 4, lastindex := 2, loops := #[{ pc := 7, count := (-1), began := none, outer := none }, { pc := 49, count := 0, began := (some 2), outer := none }], inner := (some 1), frames := [{ wait := .maxMore, pc := 68, pos := 2, outermost := true, count := 0, kept := { lastmark := 3, lastindex := 2, whole := true, marks := #[none, none, (some 0), (some 2)] }, loop := 1, began := none }, { wait := .closeLoop, pc := 49, pos := 2, outermost := true, count := 0, kept := { lastmark := (-1), lastindex := (-1), whole := false, marks := #[] }, loop := 1, began := none }, { wait := .giveBack, pc := 42, pos := 2, outermost := true, count := 0, kept := { lastmark := 3, lastindex := 2, whole := false, marks := #[] }, loop := 0, began := none }, { wait := .giveBack, pc := 30, pos := 2, outermost := true, count := 1, kept := { lastmark := 2, lastindex := (-1), whole := false, marks := #[] }, loop := 0, began := none }, { wait := .maxTail, pc := 23, pos := 0, outermost := true, count := 0, kept := { lastmark := (-1), lastindex := (-1), whole := false, marks := #[] }, loop := 0, began := none }, { wait := .closeLoop, pc := 7, pos := 0, outermost := true, count := 0, kept := { lastmark := (-1), lastindex := (-1), whole := false, marks := #[] }, loop := 0, began := none }, { wait := .nextStart, pc := 5, pos := 0, outermost := true, count := 0, kept := { lastmark := (-1), lastindex := (-1), whole := false, marks := #[] }, loop := 0, began := none }], weight := 11, answer := none, seen := ((((T4s15 t).seen.add 13).add 8).add 55), outcome := none }
noncomputable def T4s17 (t : Array Nat) : M := { code := codeT, text := t, lim := 4, start := 0, lastStart := 4, wholeText := false, mustAdvance := false, pc := 67, pos := 4, handed := 2, outermost := true, marks := #[none, none, (some 0), (some 2), (some 2), (some 4)], lastmark := 5, lastindex := 3, loops := #[{ pc := 7, count := (-1), began := none, outer := none }, { pc := 49, count := 0, began := (some 2), outer := none }], inner := (some 1), frames := [{ wait := .maxMore, pc := 68, pos := 2, outermost := true, count := 0, kept := { lastmark := 3, lastindex := 2, whole := true, marks := #[none, none, (some 0), (some 2)] }, loop := 1, began := none }, { wait := .closeLoop, pc := 49, pos := 2, outermost := true, count := 0, kept := { lastmark := (-1), lastindex := (-1), whole := false, marks := #[] }, loop := 1, began := none }, { wait := .giveBack, pc := 42, pos := 2, outermost := true, count := 0, kept := { lastmark := 3, lastindex := 2, whole := false, marks := #[] }, loop := 0, began := none }, { wait := .giveBack, pc := 30, pos := 2, outermost := true, count := 1, kept := { lastmark := 2, lastindex := (-1), whole := false, marks := #[] }, loop := 0, began := none }, { wait := .maxTail, pc := 23, pos := 0, outermost := true, count := 0, kept := { lastmark := (-1), lastindex := (-1), whole := false, marks := #[] }, loop := 0, began := none }, { wait := .closeLoop, pc := 7, pos := 0, outermost := true, count := 0, kept := { lastmark := (-1), lastindex := (-1), whole := false, marks := #[] }, loop := 0, began := none }, { wait := .nextStart, pc := 5, pos := 0, outermost := true, count := 0, kept := { lastmark := (-1), lastindex := (-1), whole := false, marks := #[] }, loop := 0, began := none }], weight := 11, answer := none, seen := ((T4s16 t).seen.add 17), outcome := none }
noncomputable def T4s18 (t : Array Nat) : M := { code := codeT, text := t, lim := 4, start := 0, lastStart := 4, wholeText := false, mustAdvance := false, pc := 68, pos := 4, handed := 4, outermost := true, marks := #[none, none, (some 0), (some 2), (some 2), (some 4)], lastmark := 5, lastindex := 3, loops := #[{ pc := 7, count := (-1), began := none, outer := none }, { pc := 49, count := 0, began := (some 2), outer := none }], inner := none, frames := [{ wait := .maxTail, pc := 68, pos := 4, outermost := true, count := 1, kept := { lastmark := 5, lastindex := 3, whole := false, marks := #[] }, loop := 1, began := none }, { wait := .maxMore, pc := 68, pos := 2, outermost := true, count := 0, kept := { lastmark := 3, lastindex := 2, whole := true, marks := #[none, none, (some 0), (some 2)] }, loop := 1, began := none }, { wait := .closeLoop, pc := 49, pos := 2, outermost := true, count := 0, kept := { lastmark := (-1), lastindex := (-1), whole := false, marks := #[] }, loop := 1, began := none }, { wait := .giveBack, pc := 42, pos := 2, outermost := true, count := 0, kept := { lastmark := 3, lastindex := 2, whole := false, marks := #[] }, loop := 0, began := none }, { wait := .giveBack, pc := 30, pos := 2, outermost := true, count := 1, kept := { lastmark := 2, lastindex := (-1), whole := false, marks := #[] }, loop := 0, began := none }, { wait := .maxTail, pc := 23, pos := 0, outermost := true, count := 0, kept := { lastmark := (-1), lastindex := (-1), whole := false, marks := #[] }, loop := 0, began := none }, { wait := .closeLoop, pc := 7, pos := 0, outermost := true, count := 0, kept := { lastmark := (-1), lastindex := (-1), whole := false, marks := #[] }, loop := 0, began := none }, { wait := .nextStart, pc := 5, pos := 0, outermost := true, count := 0, kept := { lastmark := (-1), lastindex := (-1), whole := false, marks := #[] }, loop := 0, began := none }], weight := 12, answer := none, seen := ((T4s17 t).seen.add 18), outcome := none }
noncomputable def T4s19 (t : Array Nat) : M := { code := codeT, text := t, lim := 4, start := 0, lastStart := 4, wholeText := false, mustAdvance := false, pc := 70, pos := 4, handed := 4, outermost := true, marks := #[none, none, (some 0), (some 2), (some 2), (some 4)], lastmark := 5, lastindex := 3, loops := #[{ pc := 7, count := (-1), began := none, outer := none }, { pc := 49, count := 0, began := (some 2), outer := none }], inner := none, frames := [{ wait := .maxTail, pc := 68, pos := 4, outermost := true, count := 1, kept := { lastmark := 5, lastindex := 3, whole := false, marks := #[] }, loop := 1, began := none }, { wait := .maxMore, pc := 68, pos := 2, outermost := true, count := 0, kept := { lastmark := 3, lastindex := 2, whole := true, marks := #[none, none, (some 0), (some 2)] }, loop := 1, began := none }, { wait := .closeLoop, pc := 49, pos := 2, outermost := true, count := 0, kept := { lastmark := (-1), lastindex := (-1), whole := false, marks := #[] }, loop := 1, began := none }, { wait := .giveBack, pc := 42, pos := 2, outermost := true, count := 0, kept := { lastmark := 3, lastindex := 2, whole := false, marks := #[] }, loop := 0, began := none }, { wait := .giveBack, pc := 30, pos := 2, outermost := true, count := 1, kept := { lastmark := 2, lastindex := (-1), whole := false, marks := #[] }, loop := 0, began := none }, { wait := .maxTail, pc := 23, pos := 0, outermost := true, count := 0, kept := { lastmark := (-1), lastindex := (-1), whole := false, marks := #[] }, loop := 0, began := none }, { wait := .closeLoop, pc := 7, pos := 0, outermost := true, count := 0, kept := { lastmark := (-1), lastindex := (-1), whole := false, marks := #[] }, loop := 0, began := none }, { wait := .nextStart, pc := 5, pos := 0, outermost := true, count := 0, kept := { lastmark := (-1), lastindex := (-1), whole := false, marks := #[] }, loop := 0, began := none }], weight := 12, answer := none, seen := (((T4s18 t).seen.add 6).add 48), outcome := none }
noncomputable def T4s20 (t : Array Nat) : M := { code := codeT, text := t, lim := 4, start := 0, lastStart := 4, wholeText := false, mustAdvance := false, pc := 70, pos := 4, handed := 4, outermost := true, marks := #[none, none, (some 0), (some 2), (some 2), (some 4)], lastmark := 5, lastindex := 3, loops := #[{ pc := 7, count := (-1), began := none, outer := none }, { pc := 49, count := 0, began := (some 2), outer := none }], inner := none, frames := [{ wait := .maxTail, pc := 68, pos := 4, outermost := true, count := 1, kept := { lastmark := 5, lastindex := 3, whole := false, marks := #[] }, loop := 1, began := none }, { wait := .maxMore, pc := 68, pos := 2, outermost := true, count := 0, kept := { lastmark := 3, lastindex := 2, whole := true, marks := #[none, none, (some 0), (some 2)] }, loop := 1, began := none }, { wait := .closeLoop, pc := 49, pos := 2, outermost := true, count := 0, kept := { lastmark := (-1), lastindex := (-1), whole := false, marks := #[] }, loop := 1, began := none }, { wait := .giveBack, pc := 42, pos := 2, outermost := true, count := 0, kept := { lastmark := 3, lastindex := 2, whole := false, marks := #[] }, loop := 0, began := none }, { wait := .giveBack, pc := 30, pos := 2, outermost := true, count := 1, kept := { lastmark := 2, lastindex := (-1), whole := false, marks := #[] }, loop := 0, began := none }, { wait := .maxTail, pc := 23, pos := 0, outermost := true, count := 0, kept := { lastmark := (-1), lastindex := (-1), whole := false, marks := #[] }, loop := 0, began := none }, { wait := .closeLoop, pc := 7, pos := 0, outermost := true, count := 0, kept := { lastmark := (-1), lastindex := (-1), whole := false, marks := #[] }, loop := 0, began := none }, { wait := .nextStart, pc := 5, pos := 0, outermost := true, count := 0, kept := { lastmark := (-1), lastindex := (-1), whole := false, marks := #[] }, loop := 0, began := none }], weight := 12, answer := (some true), seen := ((T4s19 t).seen.add 1), outcome := none }
noncomputable def T4s21 (t : Array Nat) : M := { code := codeT, text := t, lim := 4, start := 0, lastStart := 4, wholeText := false, mustAdvance := false, pc := 68, pos := 4, handed := 4, outermost := true, marks := #[none, none, (some 0), (some 2), (some 2), (some 4)], lastmark := 5, lastindex := 3, loops := #[{ pc := 7, count := (-1), began := none, outer := none }, { pc := 49, count := 0, began := (some 2), outer := none }], inner := (some 1), frames := [{ wait := .maxMore, pc := 68, pos := 2, outermost := true, count := 0, kept := { lastmark := 3, lastindex := 2, whole := true, marks := #[none, none, (some 0), (some 2)] }, loop := 1, began := none }, { wait := .closeLoop, pc := 49, pos := 2, outermost := true, count := 0, kept := { lastmark := (-1), lastindex := (-1), whole := false, marks := #[] }, loop := 1, began := none }, { wait := .giveBack, pc := 42, pos := 2, outermost := true, count := 0, kept := { lastmark := 3, lastindex := 2, whole := false, marks := #[] }, loop := 0, began := none }, { wait := .giveBack, pc := 30, pos := 2, outermost := true, count := 1, kept := { lastmark := 2, lastindex := (-1), whole := false, marks := #[] }, loop := 0, began := none }, { wait := .maxTail, pc := 23, pos := 0, outermost := true, count := 0, kept := { lastmark := (-1), lastindex := (-1), whole := false, marks := #[] }, loop := 0, began := none }, { wait := .closeLoop, pc := 7, pos := 0, outermost := true, count := 0, kept := { lastmark := (-1), lastindex := (-1), whole := false, marks := #[] }, loop := 0, began := none }, { wait := .nextStart, pc := 5, pos := 0, outermost := true, count := 0, kept := { lastmark := (-1), lastindex := (-1), whole := false, marks := #[] }, loop := 0, began := none }], weight := 11, answer := (some true), seen := (T4s20 t).seen, outcome := none }
noncomputable def T4s22 (t : Array Nat) : M := { code := codeT, text := t, lim := 4, start := 0, lastStart := 4, wholeText := false, mustAdvance := false, pc := 68, pos := 2, handed := 4, outermost := true, marks := #[none, none, (some 0), (some 2), (some 2), (some 4)], lastmark := 5, lastindex := 3, loops := #[{ pc := 7, count := (-1), began := none, outer := none }, { pc := 49, count := 0, began := none, outer := none }], inner := (some 1), frames := [{ wait := .closeLoop, pc := 49, pos := 2, outermost := true, count := 0, kept := { lastmark := (-1), lastindex := (-1), whole := false, marks := #[] }, loop := 1, began := none }, { wait := .giveBack, pc := 42, pos := 2, outermost := true, count := 0, kept := { lastmark := 3, lastindex := 2, whole := false, marks := #[] }, loop := 0, began := none }, { wait := .giveBack, pc := 30, pos := 2, outermost := true, count := 1, kept := { lastmark := 2, lastindex := (-1), whole := false, marks := #[] }, loop := 0, began := none }, { wait := .maxTail, pc := 23, pos := 0, outermost := true, count := 0, kept := { lastmark := (-1), lastindex := (-1), whole := false, marks := #[] }, loop := 0, began := none }, { wait := .closeLoop, pc := 7, pos := 0, outermost := true, count := 0, kept := { lastmark := (-1), lastindex := (-1), whole := false, marks := #[] }, loop := 0, began := none }, { wait := .nextStart, pc := 5, pos := 0, outermost := true, count := 0, kept := { lastmark := (-1), lastindex := (-1), whole := false, marks := #[] }, loop := 0, began := none }], weight := 6, answer := (some true), seen := (T4s21 t).seen, outcome := none }
noncomputable def T4s23 (t : Array Nat) : M := { code := codeT, text := t, lim := 4, start := 0, lastStart := 4, wholeText := false, mustAdvance := false, pc := 49, pos := 2, handed := 4, outermost := true, marks := #[none, none, (some 0), (some 2), (some 2), (some 4)], lastmark := 5, lastindex := 3, loops := #[{ pc := 7, count := (-1), began := none, outer := none }], inner := none, frames := [{ wait := .giveBack, pc := 42, pos := 2, outermost := true, count := 0, kept := { lastmark := 3, lastindex := 2, whole := false, marks := #[] }, loop := 0, began := none }, { wait := .giveBack, pc := 30, pos := 2, outermost := true, count := 1, kept := { lastmark := 2, lastindex := (-1), whole := false, marks := #[] }, loop := 0, began := none }, { wait := .maxTail, pc := 23, pos := 0, outermost := true, count := 0, kept := { lastmark := (-1), lastindex := (-1), whole := false, marks := #[] }, loop := 0, began := none }, { wait := .closeLoop, pc := 7, pos := 0, outermost := true, count := 0, kept := { lastmark := (-1), lastindex := (-1), whole := false, marks := #[] }, loop := 0, began := none }, { wait := .nextStart, pc := 5, pos := 0, outermost := true, count := 0, kept := { lastmark := (-1), lastindex := (-1), whole := false, marks := #[] }, loop := 0, began := none }], weight := 5, answer := (some true), seen := (T4s22 t).seen, outcome := none }
noncomputable def T4s24 (t : Array Nat) : M := { code := codeT, text := t, lim := 4, start := 0, lastStart := 4, wholeText := false, mustAdvance := false, pc := 42, pos := 2, handed := 4, outermost := true, marks := #[none, none, (some 0), (some 2), (some 2), (some 4)], lastmark := 5, lastindex := 3, loops := #[{ pc := 7, count := (-1), began := none, outer := none }], inner := none, frames := [{ wait := .giveBack, pc := 30, pos := 2, outermost := true, count := 1, kept := { lastmark := 2, lastindex := (-1), whole := false, marks := #[] }, loop := 0, began := none }, { wait := .maxTail, pc := 23, pos := 0, outermost := true, count := 0, kept := { lastmark := (-1), lastindex := (-1), whole := false, marks := #[] }, loop := 0, began := none }, { wait := .closeLoop, pc := 7, pos := 0, outermost := true, count := 0, kept := { lastmark := (-1), lastindex := (-1), whole := false, marks := #[] }, loop := 0, began := none }, { wait := .nextStart, pc := 5, pos := 0, outermost := true, count := 0, kept := { lastmark := (-1), lastindex := (-1), whole := false, marks := #[] }, loop := 0, began := none }], weight := 4, answer := (some true), seen := (T4s23 t).seen, outcome := none }
noncomputable def T4s25 (t : Array Nat) : M := { code := codeT, text := t, lim := 4, start := 0, lastStart := 4, wholeText := false, mustAdvance := false, pc := 30, pos := 2, handed := 4, outermost := true, marks := #[none, none, (some 0), (some 2), (some 2), (some 4)], lastmark := 5, lastindex := 3, loops := #[{ pc := 7, count := (-1), began := none, outer := none }], inner := none, frames := [{ wait := .maxTail, pc := 23, pos := 0, outermost := true, count := 0, kept := { lastmark := (-1), lastindex := (-1), whole := false, marks := #[] }, loop := 0, began := none }, { wait := .closeLoop, pc := 7, pos := 0, outermost := true, count := 0, kept := { lastmark := (-1), lastindex := (-1), whole := false, marks := #[] }, loop := 0, began := none }, { wait := .nextStart, pc := 5, pos := 0, outermost := true, count := 0, kept := { lastmark := (-1), lastindex := (-1), whole := false, marks := #[] }, loop := 0, began := none }], weight := 3, answer := (some true), seen := (T4s24 t).seen, outcome := none }
noncomputable def T4s26 (t : Array Nat) : M := { code := codeT, text := t, lim := 4, start := 0, lastStart := 4, wholeText := false, mustAdvance := false, pc := 23, pos := 0, handed := 4, outermost := true, marks := #[none, none, (some 0), (some 2), (some 2), (some 4)], lastmark := 5, lastindex := 3, loops := #[{ pc := 7, count := (-1), began := none, outer := none }], inner := (some 0), frames := [{ wait := .closeLoop, pc := 7, pos := 0, outermost := true, count := 0, kept := { lastmark := (-1), lastindex := (-1), whole := false, marks := #[] }, loop := 0, began := none }, { wait := .nextStart, pc := 5, pos := 0, outermost := true, count := 0, kept := { lastmark := (-1), lastindex := (-1), whole := false, marks := #[] }, loop := 0, began := none }], weight := 2, answer := (some true), seen := (T4s25 t).seen, outcome := none }
noncomputable def T4s27 (t : Array Nat) : M := { code := codeT, text := t, lim := 4, start := 0, lastStart := 4, wholeText := false, mustAdvance := false, pc := 7, pos := 0, handed := 4, outermost := true, marks := #[none, none, (some 0), (some 2), (some 2), (some 4)], lastmark := 5, lastindex := 3, loops := #[], inner := none, frames := [{ wait := .nextStart, pc := 5, pos := 0, outermost := true, count := 0, kept := { lastmark := (-1), lastindex := (-1), whole := false, marks := #[] }, loop := 0, began := none }], weight := 1, answer := (some true), seen := (T4s26 t).seen, outcome := none }
noncomputable def T4s28 (t : Array Nat) : M := { code := codeT, text := t, lim := 4, start := 0, lastStart := 4, wholeText := false, mustAdvance := false, pc := 5, pos := 0, handed := 4, outermost := true, marks := #[none, none, (some 0), (some 2), (some 2), (some 4)], lastmark := 5, lastindex := 3, loops := #[], inner := none, frames := [], weight := 0, answer := (some true), seen := (T4s27 t).seen, outcome := none }
noncomputable def T4s29 (t : Array Nat) : M := { code := codeT, text := t, lim := 4, start := 0, lastStart := 4, wholeText := false, mustAdvance := false, pc := 5, pos := 0, handed := 4, outermost := true, marks := #[none, none, (some 0), (some 2), (some 2), (some 4)], lastmark := 5, lastindex := 3, loops := #[], inner := none, frames := [], weight := 0, answer := (some true), seen := (T4s28 t).seen, outcome := (some .matched) }
theorem T4e0 {t : Array Nat} : M.step (T4s0 t) = T4s1 t := by kernel_rfl
theorem T4e1 {t : Array Nat} : M.step (T4s1 t) = T4s2 t := by kernel_rfl
theorem T4e2 {t : Array Nat} : M.step (T4s2 t) = T4s3 t := by kernel_rfl
theorem T4e3 {t : Array Nat} : M.step (T4s3 t) = T4s4 t := by kernel_rfl
theorem T4e4 {t : Array Nat} (h0 : isDigit (t.getD 0 0) = true) : M.step (T4s4 t) = T4s5 t := (step_exec rfl rfl (show 13 < 71 by decide)).trans ((exec_char (op := .IN) rfl (.inr rfl) (show 0 < 4 by decide) (acc13 h0)).trans (by kernel_rfl))
theorem T4e5 {t : Array Nat} : M.step (T4s5 t) = T4s6 t := by kernel_rfl
theorem T4e6 {t : Array Nat} : M.step (T4s6 t) = T4s7 t := by kernel_rfl
theorem T4e7 {t : Array Nat} (h0 : isDigit (t.getD 0 0) = true) : M.step (T4s7 t) = T4s8 t := (step_exec rfl rfl (show 25 < 71 by decide)).trans ((exec_char (op := .IN) rfl (.inr rfl) (show 0 < 4 by decide) (acc25 h0)).trans (by kernel_rfl))
theorem T4e8 {t : Array Nat} (h1 : isDigit (t.getD 1 0) = true) : M.step (T4s8 t) = T4s9 t := (step_exec rfl rfl (show 30 < 71 by decide)).trans ((exec_rep rfl (show ¬ (((0 : Nat) : Int) > ((4 : Nat) : Int) - ((1 : Nat) : Int)) by decide) (run34 h1) (show ¬ (1 < 0) by decide)).trans (by kernel_rfl))
theorem T4e9 {t : Array Nat} : M.step (T4s9 t) = T4s10 t := by kernel_rfl
theorem T4e10 {t : Array Nat} (h2 : isDigit (t.getD 2 0) = true) : M.step (T4s10 t) = T4s11 t := (step_exec rfl rfl (show 42 < 71 by decide)).trans ((exec_rep rfl (show ¬ (((0 : Nat) : Int) > ((4 : Nat) : Int) - ((2 : Nat) : Int)) by decide) (run46 h2) (show ¬ (0 < 0) by decide)).trans (by kernel_rfl))
theorem T4e11 {t : Array Nat} : M.step (T4s11 t) = T4s12 t := by kernel_rfl
theorem T4e12 {t : Array Nat} : M.step (T4s12 t) = T4s13 t := by kernel_rfl
theorem T4e13 {t : Array Nat} : M.step (T4s13 t) = T4s14 t := by kernel_rfl
theorem T4e14 {t : Array Nat} (h2 : isDigit (t.getD 2 0) = true) : M.step (T4s14 t) = T4s15 t := (step_exec rfl rfl (show 55 < 71 by decide)).trans ((exec_char (op := .IN) rfl (.inr rfl) (show 2 < 4 by decide) (acc55 h2)).trans (by kernel_rfl))
theorem T4e15 {t : Array Nat} (h3 : isDigit (t.getD 3 0) = true) : M.step (T4s15 t) = T4s16 t := (step_exec rfl rfl (show 60 < 71 by decide)).trans ((exec_char (op := .IN) rfl (.inr rfl) (show 3 < 4 by decide) (acc60 h3)).trans (by kernel_rfl))
theorem T4e16 {t : Array Nat} : M.step (T4s16 t) = T4s17 t := by kernel_rfl
theorem T4e17 {t : Array Nat} : M.step (T4s17 t) = T4s18 t := by kernel_rfl
theorem T4e18 {t : Array Nat} : M.step (T4s18 t) = T4s19 t := by kernel_rfl
theorem T4e19 {t : Array Nat} : M.step (T4s19 t) = T4s20 t := by kernel_rfl
theorem T4e20 {t : Array Nat} : M.step (T4s20 t) = T4s21 t := by kernel_rfl
theorem T4e21 {t : Array Nat} : M.step (T4s21 t) = T4s22 t := by kernel_rfl
theorem T4e22 {t : Array Nat} : M.step (T4s22 t) = T4s23 t := by kernel_rfl
theorem T4e23 {t : Array Nat} : M.step (T4s23 t) = T4s24 t := by kernel_rfl
theorem T4e24 {t : Array Nat} : M.step (T4s24 t) = T4s25 t := by kernel_rfl
theorem T4e25 {t : Array Nat} : M.step (T4s25 t) = T4s26 t := by kernel_rfl
theorem T4e26 {t : Array Nat} : M.step (T4s26 t) = T4s27 t := by kernel_rfl
theorem T4e27 {t : Array Nat} : M.step (T4s27 t) = T4s28 t := by kernel_rfl
theorem T4e28 {t : Array Nat} : M.step (T4s28 t) = T4s29 t := by kernel_rfl
theorem searchT4i {t : Array Nat} : M.attemptFrom (preT t 4) 0 true = T4s0 t := by kernel_rfl
theorem searchT4 {t : Array Nat} (h0 : isDigit (t.getD 0 0) = true) (h1 : isDigit (t.getD 1 0) = true) (h2 : isDigit (t.getD 2 0) = true) (h3 : isDigit (t.getD 3 0) = true) : M.runFor 29 (forSearch codeT t 3 0 4 false) = T4s29 t :=
  (congrArg (M.runFor 29) ((forSearchT (by decide)).trans searchT4i)).trans <|
  (runFor_step (m := T4s0 t) (m' := T4s1 t) rfl T4e0 28).trans <|
  (runFor_step (m := T4s1 t) (m' := T4s2 t) rfl T4e1 27).trans <|
  (runFor_step (m := T4s2 t) (m' := T4s3 t) rfl T4e2 26).trans <|
  (runFor_step (m := T4s3 t) (m' := T4s4 t) rfl T4e3 25).trans <|
  (runFor_step (m := T4s4 t) (m' := T4s5 t) rfl (T4e4 h0) 24).trans <|
  (runFor_step (m := T4s5 t) (m' := T4s6 t) rfl T4e5 23).trans <|
  (runFor_step (m := T4s6 t) (m' := T4s7 t) rfl T4e6 22).trans <|
  (runFor_step (m := T4s7 t) (m' := T4s8 t) rfl (T4e7 h0) 21).trans <|
  (runFor_step (m := T4s8 t) (m' := T4s9 t) rfl (T4e8 h1) 20).trans <|
  (runFor_step (m := T4s9 t) (m' := T4s10 t) rfl T4e9 19).trans <|
  (runFor_step (m := T4s10 t) (m' := T4s11 t) rfl (T4e10 h2) 18).trans <|
  (runFor_step (m := T4s11 t) (m' := T4s12 t) rfl T4e11 17).trans <|
  (runFor_step (m := T4s12 t) (m' := T4s13 t) rfl T4e12 16).trans <|
  (runFor_step (m := T4s13 t) (m' := T4s14 t) rfl T4e13 15).trans <|
  (runFor_step (m := T4s14 t) (m' := T4s15 t) rfl (T4e14 h2) 14).trans <|
  (runFor_step (m := T4s15 t) (m' := T4s16 t) rfl (T4e15 h3) 13).trans <|
  (runFor_step (m := T4s16 t) (m' := T4s17 t) rfl T4e16 12).trans <|
  (runFor_step (m := T4s17 t) (m' := T4s18 t) rfl T4e17 11).trans <|
  (runFor_step (m := T4s18 t) (m' := T4s19 t) rfl T4e18 10).trans <|
  (runFor_step (m := T4s19 t) (m' := T4s20 t) rfl T4e19 9).trans <|
  (runFor_step (m := T4s20 t) (m' := T4s21 t) rfl T4e20 8).trans <|
  (runFor_step (m := T4s21 t) (m' := T4s22 t) rfl T4e21 7).trans <|
  (runFor_step (m := T4s22 t) (m' := T4s23 t) rfl T4e22 6).trans <|
  (runFor_step (m := T4s23 t) (m' := T4s24 t) rfl T4e23 5).trans <|
  (runFor_step (m := T4s24 t) (m' := T4s25 t) rfl T4e24 4).trans <|
  (runFor_step (m := T4s25 t) (m' := T4s26 t) rfl T4e25 3).trans <|
  (runFor_step (m := T4s26 t) (m' := T4s27 t) rfl T4e26 2).trans <|
  (runFor_step (m := T4s27 t) (m' := T4s28 t) rfl T4e27 1).trans <|
  (runFor_step (m := T4s28 t) (m' := T4s29 t) rfl T4e28 0).trans <|
  rfl
end Mine
end

section
set_option maxRecDepth 100000
set_option Elab.async false
namespace Mine
open PySem PySem.Calls PyProof.Rows PySem.Builtin PySem.Builtin.Re
theorem plain_pat : PlainAttrs "re.Pattern" :=
  ⟨⟨"object.__getattribute__", by rw [typeLookup_type, builtinLookup_eq_fast]; kernel_rfl, by decide +kernel⟩, by rw [typeLookup_type, builtinLookup_eq_fast]; kernel_rfl⟩
theorem plain_mat : PlainAttrs "re.Match" :=
  ⟨⟨"object.__getattribute__", by rw [typeLookup_type, builtinLookup_eq_fast]; kernel_rfl, by decide +kernel⟩, by rw [typeLookup_type, builtinLookup_eq_fast]; kernel_rfl⟩
theorem slot_search : Slot "re.Pattern" "search" "re.Pattern.search" :=
  .of (owner := "re.Pattern") (n := "search") (by rw [typeLookup_type, builtinLookup_eq_fast]; kernel_rfl) (by decide +kernel) (by decide +kernel) (by decide +kernel)
    (by first | exact .inl (by decide +kernel) | exact .inr (by decide +kernel)) (by rw [isSubtype_type]; kernel_rfl)
theorem type_search : typeOf (.builtin "re.Pattern.search") = pure (.type "method_descriptor") := by show builtinType _ = _; rw [builtinType_eq_fast]; kernel_rfl
theorem entry_search : entryFor table "re.Pattern.search" = some Builtin.«re.Pattern.search» := entryFor_of_tree (by kernel_rfl)
theorem args_search (a b : Value) : argsOk "re.Pattern.search" ⟨[a, b], []⟩ := by
  unfold argsOk; kernel_rfl
theorem slot_group : Slot "re.Match" "group" "re.Match.group" :=
  .of (owner := "re.Match") (n := "group") (by rw [typeLookup_type, builtinLookup_eq_fast]; kernel_rfl) (by decide +kernel) (by decide +kernel) (by decide +kernel)
    (by first | exact .inl (by decide +kernel) | exact .inr (by decide +kernel)) (by rw [isSubtype_type]; kernel_rfl)
theorem type_group : typeOf (.builtin "re.Match.group") = pure (.type "method_descriptor") := by show builtinType _ = _; rw [builtinType_eq_fast]; kernel_rfl
theorem entry_group : entryFor table "re.Match.group" = some Builtin.«re.Match.group» := entryFor_of_tree (by kernel_rfl)
theorem args_group (a b : Value) : argsOk "re.Match.group" ⟨[a, b], []⟩ := by
  unfold argsOk; kernel_rfl
theorem slot_span : Slot "re.Match" "span" "re.Match.span" :=
  .of (owner := "re.Match") (n := "span") (by rw [typeLookup_type, builtinLookup_eq_fast]; kernel_rfl) (by decide +kernel) (by decide +kernel) (by decide +kernel)
    (by first | exact .inl (by decide +kernel) | exact .inr (by decide +kernel)) (by rw [isSubtype_type]; kernel_rfl)
theorem type_span : typeOf (.builtin "re.Match.span") = pure (.type "method_descriptor") := by show builtinType _ = _; rw [builtinType_eq_fast]; kernel_rfl
theorem entry_span : entryFor table "re.Match.span" = some Builtin.«re.Match.span» := entryFor_of_tree (by kernel_rfl)
theorem args_span (a b : Value) : argsOk "re.Match.span" ⟨[a, b], []⟩ := by
  unfold argsOk; kernel_rfl
end Mine
end

section
set_option maxRecDepth 100000
set_option Elab.async false
namespace Mine
open PySem PySem.Calls PyProof.Rows PySem.Builtin PySem.Builtin.Re PySem.Sre
theorem runFor_fix {m : M} (h : m.outcome.isSome = true) : ∀ n, M.runFor n m = m
  | 0 => rfl
  | n + 1 => by simp [M.runFor, h]
theorem runFor_same {m : M} {a b : Nat} (ha : (M.runFor a m).outcome.isSome = true) (hb : (M.runFor b m).outcome.isSome = true) : M.runFor a m = M.runFor b m := by
  rcases Nat.le_total a b with h | h
  · obtain ⟨c, rfl⟩ := Nat.exists_eq_add_of_le h
    rw [runFor_add, runFor_fix ha]
  · obtain ⟨c, rfl⟩ := Nat.exists_eq_add_of_le h
    rw [runFor_add, runFor_fix hb]
section
variable {M' : Model} {A : Around} {E : Value → Shared → Prop} {s : Shared}
theorem drive_wp {Q : M → Shared → Prop} : ∀ (turns n : Nat) (m : M), n ≤ 4 * (turns + 1) → (M.runFor n m).outcome.isSome = true → Q (M.runFor n m) s → wpAny M' A (reDrive (turns + 1) m) Q E s
  | turns, n, m, hn, ho, hq => by
    unfold reDrive
    show wpAny M' A (if (M.runFor 4 m).outcome.isSome = true then pure (M.runFor 4 m) else (do rule "sre.turn"; reDrive turns (M.runFor 4 m))) Q E s
    by_cases h4 : (M.runFor 4 m).outcome.isSome = true
    · rw [if_pos h4, runFor_same h4 ho]
      exact wpAny_pure hq
    · rw [if_neg h4]
      refine wpAny_bind (wpAny_rule ?_)
      have hn4 : 4 < n := by
        rcases Nat.lt_or_ge 4 n with h | h
        · exact h
        · exfalso
          obtain ⟨c, hc⟩ := Nat.exists_eq_add_of_le h
          apply h4
          rw [hc, runFor_add, runFor_fix ho]
          exact ho
      cases turns with
      | zero => omega
      | succ turns =>
        obtain ⟨c, rfl⟩ := Nat.exists_eq_add_of_le (Nat.le_of_lt hn4)
        rw [runFor_add] at ho hq
        exact drive_wp turns c _ (by omega) ho hq
theorem runToEnd_hit {m : M} {n : Nat} {Q : Option M → Shared → Prop} (hn : n ≤ 2 ^ 64) (ho : (M.runFor n m).outcome = some .matched) (hq : Q (some (M.runFor n m)) s) :
    wpAny M' A (reRunToEnd m) Q E s := by
  unfold reRunToEnd
  refine wpAny_bind ?_
  rw [show (2 : Nat) ^ 64 = 18446744073709551615 + 1 by decide]
  refine drive_wp _ n m (by omega) (by rw [ho]; rfl) ?_
  refine wpAny_bind (wpAny_forIn_list _ (fun _ _ s' => s' = s) _ ?_ ?_ _ _ rfl)
  · rintro i rest b s' rfl
    split
    · exact wpAny_bind (wpAny_rule (wpAny_pure rfl))
    · exact wpAny_pure rfl
  · rintro b s' rfl
    rw [ho]
    exact wpAny_pure hq
theorem runToEnd_miss {m : M} {n : Nat} {Q : Option M → Shared → Prop} (hn : n ≤ 2 ^ 64) (ho : (M.runFor n m).outcome = some .failed) (hq : Q none s) :
    wpAny M' A (reRunToEnd m) Q E s := by
  unfold reRunToEnd
  refine wpAny_bind ?_
  rw [show (2 : Nat) ^ 64 = 18446744073709551615 + 1 by decide]
  refine drive_wp _ n m (by omega) (by rw [ho]; rfl) ?_
  refine wpAny_bind (wpAny_forIn_list _ (fun _ _ s' => s' = s) _ ?_ ?_ _ _ rfl)
  · rintro i rest b s' rfl
    split
    · exact wpAny_bind (wpAny_rule (wpAny_pure rfl))
    · exact wpAny_pure rfl
  · rintro b s' rfl
    rw [ho]
    exact wpAny_pure hq
end
/-- the pattern's object -/
noncomputable def patObj (text : Str) (tk : Tok) (flags groups : Int) (ft : Tok) (code : Addr) : Obj :=
  { cls := .type "re.Pattern", data := .fields #[.str text tk, .int flags ft, .int groups 0, .none, .none, .ref code, .int 0 0] }
noncomputable def codeVals (code : Array Nat) : Array Value := code.map fun (n : Nat) => Value.int (n : Int) 0
theorem raw_codeVals (code : Array Nat) : ((codeVals code).map reRawOf).map (·.toNat) = code := by
  unfold codeVals
  rw [Array.map_map, Array.map_map]
  conv => rhs; rw [← Array.map_id code]
  rfl
noncomputable def tupOf (l : List Int) : Obj := { cls := .type "tuple", data := .seq (l.map rawInt).toArray }
noncomputable def matObj (x : Str) (tk : Tok) (p : Addr) (lim : Int) (li : Int) (sp : Addr) : Obj :=
  { cls := .type "re.Match", data := .fields #[.str x tk, .ref p, rawInt 0, rawInt lim, rawInt li, .ref sp] }
section
variable {M' : Model} {A : Around} {E : Value → Shared → Prop} {s : Shared}
theorem target_wp {x : Str} {tk ptk ft : Tok} {p c : Addr} {pt : Str} {flags groups : Int} {code : Array Nat} {n : Nat} {Q : ReTarget → Shared → Prop}
    (hp : s.heap.get? p = some (patObj pt ptk flags groups ft c)) (hc : s.heap.get? c = some { cls := .type "tuple", data := .seq (codeVals code) n })
    (hx : (x.cps.size : Int) < 2 ^ 63)
    (h : Q { pattern := .ref p, string := .str x tk, code := code, text := x.cps, kind := 0, groups := groups.toNat, pos := 0, lim := x.cps.size } s) :
    wpAny M' A (reTarget "re.Pattern.search" "search" ⟨[.ref p, .str x tk], []⟩) Q E s := by
  unfold reTarget
  have e1 : reNamed "re.Pattern.search" "search" ["string", "pos", "endpos"] 1 [.str x tk] [] = pure [some (.str x tk), none, none] := rfl
  simp only [e1]
  refine wpAny_bind (wpAny_pure ?_)
  refine wpAny_bind (wpAny_pure ?_)
  refine wpAny_bind (wpAny_pure ?_)
  refine wpAny_bind (wpAny_fieldsOf hp rfl ?_)
  refine wpAny_bind (m := reTextOf (.str x tk)) (wpAny_pure ?_)
  show wpAny M' A (if (((0 : Nat) == 0) && ((0 : Nat) == 1)) = true then _ else _) Q E s
  rw [if_neg (by decide)]
  show wpAny M' A (if (((0 : Nat) == 1) && ((0 : Nat) == 0)) = true then _ else _) Q E s
  rw [if_neg (by decide)]
  refine wpAny_bind (m := reNoCollectionInside _ _) (wpAny_pure ?_)
  refine wpAny_bind (m := reRawItems (.ref c)) (wpAny_bind (wpAny_seqItems hc rfl (wpAny_pure ?_)))
  refine wpAny_pure ?_
  show Q { pattern := .ref p, string := .str x tk, code := ((codeVals code).map reRawOf).map (·.toNat), text := x.cps, kind := 0, groups := groups.toNat, pos := min 0 x.cps.size, lim := min ((2 : Int) ^ 63 - 1).toNat x.cps.size } s
  rw [raw_codeVals, Nat.zero_min, Nat.min_eq_right (by omega)]
  exact h
/-- a new match's spans -/
noncomputable def spansOf (groups : Nat) (m : M) : List Value := (List.range groups).flatMap fun g =>
  match if ((2 * g + 1 : Nat) : Int) ≤ m.lastmark then (m.marks.getD (2 * g) none, m.marks.getD (2 * g + 1) none) else (none, none) with
  | (some b, some e) => [rawInt (b : Int), rawInt (e : Int)]
  | _ => [rawInt (-1), rawInt (-1)]
noncomputable def spanBad (groups : Nat) (m : M) : Bool :=
  (List.range groups).any (fun g => match m.marks.getD (2 * g) none, m.marks.getD (2 * g + 1) none with | some b, some e => ((2 * g + 1 : Nat) : Int) ≤ m.lastmark && e < b | _, _ => false)
theorem newMatch_wp {p : Addr} {x : Str} {tk : Tok} {groups pos lim : Nat} {m : M} {sp : List Int} {Q : Value → Shared → Prop} (hsp : spansOf groups m = sp.map rawInt) (hb : spanBad groups m = false) (hl : sp.length ≤ 100)
    (h : Q (.ref (s.heap.objs.size + 1)) { s with heap := (s.heap.push (tupOf ((m.start : Int) :: (m.handed : Int) :: sp))).push (matObj x tk p lim m.lastindex s.heap.objs.size) }) (hpos : pos = 0) :
    wpAny M' A (reNewMatch (.ref p) (.str x tk) groups pos lim m) Q E s := by
  subst hpos
  unfold reNewMatch
  show wpAny M' A (if spanBad groups m = true then _ else _) Q E s
  rw [if_neg (by rw [hb]; decide)]
  show wpAny M' A (newTuple (rawInt m.start :: rawInt m.handed :: spansOf groups m) >>= fun t => newFields "re.Match" [.str x tk, .ref p, rawInt ((0 : Nat) : Int), rawInt (lim : Int), rawInt m.lastindex, t]) Q E s
  rw [hsp]
  refine wpAny_bind (wpAny_newTuple ?_ (by simp [sizeLine]; omega))
  refine wpAny_newObj_type ?_
  have e : (s.heap.push { cls := .type "tuple", data := .seq (rawInt m.start :: rawInt m.handed :: sp.map rawInt).toArray }).objs.size = s.heap.objs.size + 1 := by
    simp [Heap.push]
  rw [e]
  exact h
/-- a search that finds -/
theorem search_hit {x : Str} {tk ptk ft : Tok} {p c : Addr} {pt : Str} {flags groups : Int} {code : Array Nat} {n k : Nat} {m : M} {sp : List Int} {Q : Fin → Shared → Prop}
    (hp : s.heap.get? p = some (patObj pt ptk flags groups ft c)) (hc : s.heap.get? c = some { cls := .type "tuple", data := .seq (codeVals code) n })
    (hx : (x.cps.size : Int) < 2 ^ 63) (hk : k ≤ 2 ^ 64) (hm : M.runFor k (forSearch code x.cps groups.toNat 0 x.cps.size false) = m) (ho : m.outcome = some .matched)
    (hsp : spansOf groups.toNat m = sp.map rawInt) (hb : spanBad groups.toNat m = false) (hl : sp.length ≤ 100)
    (h : Q (.done (.ret (.ref (s.heap.objs.size + 1)))) { s with heap := (s.heap.push (tupOf ((m.start : Int) :: (m.handed : Int) :: sp))).push (matObj x tk p x.cps.size m.lastindex s.heap.objs.size) }) :
    wpAny M' A (Builtin.«re.Pattern.search» ⟨[.ref p, .str x tk], []⟩) Q E s := by
  unfold Builtin.«re.Pattern.search»
  refine wpAny_bind (target_wp hp hc hx ?_)
  unfold reAnswer
  refine wpAny_bind (runToEnd_hit (n := k) hk (by rw [hm]; exact ho) ?_)
  rw [hm]
  exact wpAny_bind (newMatch_wp hsp hb hl (wpAny_pure h) rfl)
theorem search_miss {x : Str} {tk ptk ft : Tok} {p c : Addr} {pt : Str} {flags groups : Int} {code : Array Nat} {n k : Nat} {Q : Fin → Shared → Prop}
    (hp : s.heap.get? p = some (patObj pt ptk flags groups ft c)) (hc : s.heap.get? c = some { cls := .type "tuple", data := .seq (codeVals code) n })
    (hx : (x.cps.size : Int) < 2 ^ 63) (hk : k ≤ 2 ^ 64) (ho : (M.runFor k (forSearch code x.cps groups.toNat 0 x.cps.size false)).outcome = some .failed)
    (h : Q (.done (.ret .none)) s) :
    wpAny M' A (Builtin.«re.Pattern.search» ⟨[.ref p, .str x tk], []⟩) Q E s := by
  unfold Builtin.«re.Pattern.search»
  refine wpAny_bind (target_wp hp hc hx ?_)
  unfold reAnswer
  exact wpAny_bind (runToEnd_miss (n := k) hk ho (wpAny_pure h))
end
end Mine
end

section
set_option maxRecDepth 100000
set_option Elab.async false
namespace Mine
open PySem PySem.Calls PyProof.Rows PySem.Builtin PySem.Builtin.Re PySem.Sre
section
variable {M' : Model} {A : Around} {E : Value → Shared → Prop} {s : Shared}
theorem map_rawOf (l : List Int) : ((l.map rawInt).toArray).map reRawOf = l.toArray := by
  simp only [List.map_toArray, List.map_map]
  congr 1
  induction l with
  | nil => rfl
  | cons a l ih => rw [List.map_cons, ih]; rfl
theorem found_wp {a p sp : Addr} {x : Str} {tk : Tok} {lim li : Int} {l : List Int} {Q : ReFound → Shared → Prop}
    (ha : s.heap.get? a = some (matObj x tk p lim li sp)) (hs : s.heap.get? sp = some (tupOf l))
    (h : Q { fields := #[.str x tk, .ref p, rawInt 0, rawInt lim, rawInt li, .ref sp], spans := l.toArray } s) : wpAny M' A (reFound (.ref a)) Q E s := by
  unfold reFound
  refine wpAny_bind (wpAny_fieldsOf ha rfl ?_)
  refine wpAny_bind (m := reRawItems (.ref sp)) (wpAny_bind (wpAny_seqItems hs rfl (wpAny_pure ?_)))
  refine wpAny_pure ?_
  show Q { fields := _, spans := ((l.map rawInt).toArray).map reRawOf } s
  rw [map_rawOf]
  exact h
theorem groupNumber_wp {x : ReFound} {g : Nat} {t : Tok} {Q : Nat → Shared → Prop} (hg : 2 * g < x.spans.size) (h : Q g s) : wpAny M' A (reGroupNumber x (.int (g : Int) t)) Q E s := by
  unfold reGroupNumber
  refine wpAny_bind (m := asInt? (.int (g : Int) t)) (wpAny_pure ?_)
  refine wpAny_bind (m := asIndex (.int (g : Int) t)) (wpAny_pure ?_)
  show wpAny M' A (if (decide ((g : Int) < 0) || decide (2 * (g : Int) ≥ (x.spans.size : Int))) = true then _ else _) Q E s
  rw [if_neg (by simp; omega)]
  exact wpAny_pure h
theorem group_some {a p sp : Addr} {x : Str} {tk t : Tok} {lim li : Int} {l : List Int} {g b e : Nat} {Q : Fin → Shared → Prop}
    (ha : s.heap.get? a = some (matObj x tk p lim li sp)) (hs : s.heap.get? sp = some (tupOf l)) (hb : l[2 * g]? = some (b : Int)) (he : l[2 * g + 1]? = some (e : Int)) (hx : x.cps.size ≤ sizeLine)
    (h : Q (.done (.ret (.str ⟨x.cps.extract b e⟩ s.toks))) { s with toks := s.toks + 1 }) : wpAny M' A (Builtin.«re.Match.group» ⟨[.ref a, .int (g : Int) t], []⟩) Q E s := by
  have hlt : 2 * g < l.length := by
    rcases Nat.lt_or_ge (2 * g) l.length with h | h
    · exact h
    · rw [List.getElem?_eq_none h] at hb; cases hb
  unfold Builtin.«re.Match.group»
  refine wpAny_bind (m := noKeywords _ _) (wpAny_pure ?_)
  refine wpAny_bind (found_wp ha hs ?_)
  refine wpAny_bind (groupNumber_wp (by simpa using hlt) ?_)
  refine wpAny_bind ?_
  unfold reGroupText
  have e1 : (l.toArray).getD (2 * g) (-1) = (b : Int) := by simp [hb]
  have e2 : (l.toArray).getD (2 * g + 1) (-1) = (e : Int) := by simp [he]
  simp only [e1, e2]
  show wpAny M' A (if (decide ((b : Int) < 0) || decide ((e : Int) < 0)) = true then _ else _) _ E s
  rw [if_neg (by simp)]
  refine wpAny_bind (m := reTextOf (.str x tk)) (wpAny_pure ?_)
  show wpAny M' A (mkStr ⟨x.cps.extract b e⟩) _ E s
  refine wpAny_mkStr ?_ ?_
  · exact wpAny_pure h
  · show (x.cps.extract b e).size ≤ sizeLine
    simp only [Array.size_extract]
    omega
theorem group_none {a p sp : Addr} {x : Str} {tk t : Tok} {lim li : Int} {l : List Int} {g : Nat} {Q : Fin → Shared → Prop}
    (ha : s.heap.get? a = some (matObj x tk p lim li sp)) (hs : s.heap.get? sp = some (tupOf l)) (hb : l[2 * g]? = some (-1))
    (h : Q (.done (.ret .none)) s) : wpAny M' A (Builtin.«re.Match.group» ⟨[.ref a, .int (g : Int) t], []⟩) Q E s := by
  have hlt : 2 * g < l.length := by
    rcases Nat.lt_or_ge (2 * g) l.length with h | h
    · exact h
    · rw [List.getElem?_eq_none h] at hb; cases hb
  unfold Builtin.«re.Match.group»
  refine wpAny_bind (m := noKeywords _ _) (wpAny_pure ?_)
  refine wpAny_bind (found_wp ha hs ?_)
  refine wpAny_bind (groupNumber_wp (by simpa using hlt) ?_)
  refine wpAny_bind ?_
  unfold reGroupText
  have e1 : (l.toArray).getD (2 * g) (-1) = -1 := by simp [hb]
  simp only [e1]
  show wpAny M' A (if (decide ((-1 : Int) < 0) || _) = true then _ else _) _ E s
  rw [if_pos (by simp)]
  exact wpAny_pure (wpAny_pure h)
theorem span_wp {a p sp : Addr} {x : Str} {tk t : Tok} {lim li : Int} {l : List Int} {g : Nat} {b e : Int} {Q : Fin → Shared → Prop}
    (ha : s.heap.get? a = some (matObj x tk p lim li sp)) (hs : s.heap.get? sp = some (tupOf l)) (hb : l[2 * g]? = some b) (he : l[2 * g + 1]? = some e)
    (h : Q (.done (.ret (.ref s.heap.objs.size))) { s with heap := s.heap.push { cls := .type "tuple", data := .seq #[.int b s.toks, .int e (s.toks + 1)] }, toks := s.toks + 1 + 1 }) :
    wpAny M' A (Builtin.«re.Match.span» ⟨[.ref a, .int (g : Int) t], []⟩) Q E s := by
  have hlt : 2 * g < l.length := by
    rcases Nat.lt_or_ge (2 * g) l.length with h | h
    · exact h
    · rw [List.getElem?_eq_none h] at hb; cases hb
  unfold Builtin.«re.Match.span» reOneGroup
  refine wpAny_bind (wpAny_bind (m := selfAndSome _ _ _ _ _) (wpAny_pure ?_))
  refine wpAny_bind (found_wp ha hs ?_)
  refine wpAny_bind (groupNumber_wp (by simpa using hlt) ?_)
  refine wpAny_pure ?_
  have e1 : (l.toArray).getD (2 * g) (-1) = b := by simp [hb]
  have e2 : (l.toArray).getD (2 * g + 1) (-1) = e := by simp [he]
  simp only [e1, e2]
  refine wpAny_bind (wpAny_mkInt ?_)
  refine wpAny_bind (wpAny_mkInt ?_)
  exact wpAny_bind (wpAny_newTuple (wpAny_pure h))
end
end Mine
end

section
set_option maxRecDepth 100000
set_option Elab.async false
namespace Mine
open PySem PySem.Calls PyProof.Rows PySem.Builtin PySem.Builtin.Re PySem.Sre
theorem type_string : typeOf (.builtin "re.Match.string") = pure (.type "member_descriptor") := by show builtinType _ = _; rw [builtinType_eq_fast]; kernel_rfl
theorem look_string : typeLookup (.type "re.Match") "string" = pure (some (.builtin "re.Match.string")) := by rw [typeLookup_type, builtinLookup_eq_fast]; kernel_rfl
theorem entry_string : entryFor table "re.Match.string" = some Builtin.«re.Match.string» := entryFor_of_tree (by kernel_rfl)
theorem owner_string : (".".intercalate ("re.Match.string".cutAt '.').dropLast) = "re.Match" := by
  have e0 : "re.Match.string".cutAt '.' = ["re", "Match", "string"] := by first | rfl | decide +kernel
  rw [e0]; decide +kernel
theorem sub_match : isSubtype (.type "re.Match") (.type "re.Match") = pure true := by rw [isSubtype_type]; kernel_rfl
theorem look_ga : typeLookup (.type "re.Match") "__getattribute__" = pure (some (.builtin "object.__getattribute__")) := by rw [typeLookup_type, builtinLookup_eq_fast]; kernel_rfl
section
variable {prog : Program} {w : World} {A : Around} {E : Value → Shared → Prop} {h : Heap} {g : Array GenState} {d : Drawn} {t : Nat} {os : OsState} {a : Addr} {o : Obj} {vs : Array Value} {a0 : Value}
theorem string_get {R : Result → Shared → Prop} (hx : h.get? a = some o) (hc : o.cls = .type "re.Match") (hd : o.data = .fields vs) (h0 : vs[0]? = some a0) (hq : R (.ok (.ret a0)) ⟨h, g, d, t, os⟩) :
    codeAny (model prog w) A (.call (.builtin "member_descriptor.__get__") ⟨[.builtin "re.Match.string", .ref a, .type "re.Match"], []⟩) R ⟨h, g, d, t, os⟩ := by
  have hT : (⟨h, g, d, t, os⟩ : Shared).TypeIs (.ref a) "re.Match" := ⟨_, hx, hc⟩
  have hT5 : (⟨h, g, d, t, os⟩ : Shared).TypeIs (.builtin "re.Match.string") "member_descriptor" := type_string
  have f8 : isSubtype (.type "re.Match") (.type (".".intercalate ("re.Match.string".cutAt '.').dropLast)) = pure true := by rw [owner_string]; exact sub_match
  refine codeAny_call_builtin W.KF.slot_mem.plain W.KF.entry_mem (W.KF.slot_mem.check _ _ _ _ _ _ _ _ hT5 (W.KF.args_mem _ _ _) ?_)
  repeat (any_goals (first | assumption | wp_step))
  refine ⟨Code.quiet_builtin _ (by decide +kernel), codeAny_builtin entry_string ?_⟩
  unfold Builtin.«re.Match.string»
  exact wpAny_bind (m := field (.ref a) 0) (wpAny_field hx hd h0 (wpAny_pure hq))
theorem string_entry {tk : Tok} {Q : Fin → Shared → Prop} (hx : h.get? a = some o) (hc : o.cls = .type "re.Match") (hd : o.data = .fields vs) (h0 : vs[0]? = some a0) (hnd : (a0 == doubtfulMember) = false) (hq : Q (.done (.ret a0)) ⟨h, g, d, t, os⟩) :
    wpAny (model prog w) A (Builtin.«object.__getattribute__» ⟨[.ref a, .str "string" tk], []⟩) Q E ⟨h, g, d, t, os⟩ := by
  have hT : (⟨h, g, d, t, os⟩ : Shared).TypeIs (.ref a) "re.Match" := ⟨_, hx, hc⟩
  have hT5 : (⟨h, g, d, t, os⟩ : Shared).TypeIs (.builtin "re.Match.string") "member_descriptor" := type_string
  have f4 := look_string
  have f5 := type_string
  have f6 := W.KF.slot_mem.lookup
  have f7 := W.KF.slot_mset.lookup
  repeat (any_goals (first | assumption | wp_step))
  refine string_get hx hc hd h0 ?_
  repeat (any_goals (first | assumption | wp_step))
theorem slot_ga : Slot "re.Match" "__getattribute__" "object.__getattribute__" :=
  .of (owner := "object") (n := "__getattribute__") (by rw [typeLookup_type, builtinLookup_eq_fast]; kernel_rfl) (by decide +kernel) (by decide +kernel) (by decide +kernel)
    (by first | exact .inl (by decide +kernel) | exact .inr (by decide +kernel)) (by rw [isSubtype_type]; kernel_rfl)
theorem entry_ga : entryFor table "object.__getattribute__" = some Builtin.«object.__getattribute__» := entryFor_of_tree (by kernel_rfl)
theorem args_ga (a b : Value) : argsOk "object.__getattribute__" ⟨[a, b], []⟩ := by unfold argsOk; kernel_rfl
theorem string_call {tk : Tok} {R : Result → Shared → Prop} (hx : h.get? a = some o) (hc : o.cls = .type "re.Match") (hd : o.data = .fields vs) (h0 : vs[0]? = some a0) (hnd : (a0 == doubtfulMember) = false) (hq : R (.ok (.ret a0)) ⟨h, g, d, t, os⟩) :
    codeAny (model prog w) A (.call (.builtin "object.__getattribute__") ⟨[.ref a, .str "string" tk], []⟩) R ⟨h, g, d, t, os⟩ :=
  codeAny_call_builtin slot_ga.plain entry_ga (slot_ga.check _ _ _ _ _ _ _ _ (show (⟨h, g, d, t, os⟩ : Shared).TypeIs (.ref a) "re.Match" from ⟨_, hx, hc⟩) (args_ga _ _) (string_entry hx hc hd h0 hnd hq))
theorem string_by {tk : Tok} {fill expr : Bool} {x : Str} {t0 : Tok} {Q : Value → Shared → Prop} (hx : h.get? a = some o) (hc : o.cls = .type "re.Match") (hd : o.data = .fields vs) (h0 : vs[0]? = some (.str x t0))
    (hq : Q (.str x t0) ⟨h, g, d, t, os⟩) : wpAny (model prog w) A (getAttrBy (.ref a) (.str "string" tk) fill expr) Q E ⟨h, g, d, t, os⟩ := by
  have hT : (⟨h, g, d, t, os⟩ : Shared).TypeIs (.ref a) "re.Match" := ⟨_, hx, hc⟩
  have f2 := slot_ga.lookup
  have f3 := slot_ga.bind (.ref a)
  have hx0 : (expr && onTheHeap (Value.builtin "object.__getattribute__")) = false := by cases expr <;> rfl
  repeat (any_goals (first | assumption | wp_step))
  refine string_call hx hc hd h0 (by rfl) ?_
  repeat (any_goals (first | assumption | wp_step))
theorem string_attr {expr : Bool} {x : Str} {t0 : Tok} {Q : Value → Shared → Prop} (hx : h.get? a = some o) (hc : o.cls = .type "re.Match") (hd : o.data = .fields vs) (h0 : vs[0]? = some (.str x t0))
    (hq : Q (.str x t0) ⟨h, g, d, t + 1, os⟩) : wpAny (model prog w) A (getAttr (.ref a) "string" expr) Q E ⟨h, g, d, t, os⟩ := by
  unfold getAttr
  repeat (any_goals (first | assumption | with_reducible apply string_by hx hc hd h0 | wp_step))
end
end Mine
end

section
set_option maxRecDepth 100000
set_option Elab.async false
namespace Mine
open PySem PySem.Calls PyProof.Rows PySem.Builtin PySem.Builtin.Re PySem.Sre
/-- the text x has, from place d on, a dot and k figures, and then the end or a line feed and the end -/
structure Ends4 (x : Str) (d k : Nat) : Prop where
  size : x.cps.size ≤ 1000
  dot : x.cps.getD d 0 = 46
  some : 1 ≤ k
  fits : d + 1 + k ≤ x.cps.size
  figs : ∀ j, j < k → isDigit (x.cps.getD (d + 1 + j) 0) = true
  last : d + 1 + k = x.cps.size ∨ (d + 1 + k + 1 = x.cps.size ∧ x.cps.getD (d + 1 + k) 0 = 10)
noncomputable def patIPV4 : Obj := patObj "\\.\\d+$" 389 256 0 416 55
noncomputable def patTZ : Obj := patObj "^([-+])?(\\d\\d?):?(\\d\\d)?$" 294 256 3 368 36
section
variable {prog : Program} {w : World} {A : Around} {E : Value → Shared → Prop} {s : Shared} {h₀ : Heap} {L : Addr} {m : Str → Option Value} {news : List (Addr × Obj)}
theorem sizeOf_push {h : Heap} {o : Obj} : (h.push o).objs.size = h.objs.size + 1 := by simp [Heap.push]
theorem call_search_hit {x : Str} {tk ptk ft : Tok} {p c : Addr} {pt : Str} {flags groups : Int} {code : Array Nat} {n k : Nat} {m' : M} {sp : List Int} {Q : Value → Shared → Prop}
    (F : Fr h₀ L s.heap m) (N : News h₀ L s.heap news)
    (hp : s.heap.get? p = some (patObj pt ptk flags groups ft c)) (hc : s.heap.get? c = some { cls := .type "tuple", data := .seq (codeVals code) n })
    (hx : (x.cps.size : Int) < 2 ^ 63) (hk : k ≤ 2 ^ 64) (hm : M.runFor k (forSearch code x.cps groups.toNat 0 x.cps.size false) = m') (ho : m'.outcome = some .matched)
    (hsp : spansOf groups.toNat m' = sp.map rawInt) (hb : spanBad groups.toNat m' = false) (hl : sp.length ≤ 100)
    (h : ∀ a t h', Fr h₀ L h' m → News h₀ L h' ((a, matObj x tk p x.cps.size m'.lastindex t) :: (t, tupOf ((m'.start : Int) :: (m'.handed : Int) :: sp)) :: news) → (∀ q ∈ news, q.1 < t) → t < a → Q (.ref a) { s with heap := h' }) :
    wpAny (model prog w) A (call (.builtin "re.Pattern.search") [.ref p, .str x tk]) Q E s := by
  refine wpAny_call_entry slot_search ⟨_, hp, rfl⟩ entry_search (search_hit hp hc hx hk hm ho hsp hb hl ⟨_, rfl, ?_⟩) (args_search _ _)
  have N1 := News.push F N (tupOf ((m'.start : Int) :: (m'.handed : Int) :: sp))
  have N2 := News.push (F.push _) N1 (matObj x tk p x.cps.size m'.lastindex s.heap.objs.size)
  rw [sizeOf_push] at N2
  exact h _ _ _ ((F.push _).push _) N2 (fun q hq => Heap.lt_size (N q hq).1) (Nat.lt_succ_self _)
theorem call_search_miss {x : Str} {tk ptk ft : Tok} {p c : Addr} {pt : Str} {flags groups : Int} {code : Array Nat} {n k : Nat} {Q : Value → Shared → Prop}
    (hp : s.heap.get? p = some (patObj pt ptk flags groups ft c)) (hc : s.heap.get? c = some { cls := .type "tuple", data := .seq (codeVals code) n })
    (hx : (x.cps.size : Int) < 2 ^ 63) (hk : k ≤ 2 ^ 64) (ho : (M.runFor k (forSearch code x.cps groups.toNat 0 x.cps.size false)).outcome = some .failed)
    (h : Q .none s) : wpAny (model prog w) A (call (.builtin "re.Pattern.search") [.ref p, .str x tk]) Q E s :=
  wpAny_call_entry slot_search ⟨_, hp, rfl⟩ entry_search (search_miss hp hc hx hk ho ⟨_, rfl, h⟩) (args_search _ _)
/-- IPV4_RE.search, a hit -/
theorem call_ip4 {x : Str} {tk : Tok} {p c : Addr} {n d k : Nat} {pt : Str} {ptk ft : Tok} {Q : Value → Shared → Prop} (hE : Ends4 x d k) (F : Fr h₀ L s.heap m) (N : News h₀ L s.heap news)
    (hp : s.heap.get? p = some (patObj pt ptk 256 0 ft c)) (hc : s.heap.get? c = some { cls := .type "tuple", data := .seq (codeVals code4) n })
    (h : ∀ a t h', Fr h₀ L h' m → News h₀ L h' ((a, matObj x tk p x.cps.size (-1) t) :: (t, tupOf [(d : Int), ((d + 1 + k : Nat) : Int)]) :: news) → (∀ q ∈ news, q.1 < t) → t < a → Q (.ref a) { s with heap := h' }) :
    wpAny (model prog w) A (call (.builtin "re.Pattern.search") [.ref p, .str x tk]) Q E s := by
  have hz := hE.size
  obtain ⟨n', hn', G⟩ := search4_hit (x := x.cps) (by omega) hE.dot hE.some hE.fits hE.figs hE.last
  have hf := hE.fits
  have hle : d * (3 * x.cps.size + 4) ≤ 1000 * 4004 := Nat.mul_le_mul (by omega) (by omega)
  refine call_search_hit (sp := []) F N hp hc (by omega) (Nat.le_trans hn' (by omega)) rfl G.outcome rfl rfl (by decide) ?_
  rw [show (0 : Int).toNat = 0 from rfl, G.start, G.handed, G.lastindex]
  exact h
noncomputable def heads8 : List (Array Nat) := [#[97], #[55], #[97, 46, 55, 46, 98], #[48, 46, 120, 55], #[97, 10], #[55, 10], #[97, 46, 55, 46, 98, 10], #[48, 46, 120, 55, 10]]
noncomputable def failsIn (code : Array Nat) (n : Nat) (x : Array Nat) : Bool := match (M.runFor n (forSearch code x 0 0 x.size false)).outcome with | some .failed => true | _ => false
theorem heads_fail : heads8.all (failsIn code4 60) = true := by decide +kernel
theorem call_ip4_no {x : Str} {tk : Tok} {p c : Addr} {n : Nat} {pt : Str} {ptk ft : Tok} {Q : Value → Shared → Prop} (hx : x.cps ∈ heads8)
    (hp : s.heap.get? p = some (patObj pt ptk 256 0 ft c)) (hc : s.heap.get? c = some { cls := .type "tuple", data := .seq (codeVals code4) n })
    (h : Q .none s) : wpAny (model prog w) A (call (.builtin "re.Pattern.search") [.ref p, .str x tk]) Q E s := by
  have h1 := List.all_eq_true.mp heads_fail _ hx
  have h2 : ∀ y ∈ heads8, y.size ≤ 10 := by decide
  have h3 := h2 _ hx
  refine call_search_miss (k := 60) hp hc (by omega) (by omega) ?_ h
  unfold failsIn at h1
  split at h1
  · assumption
  · cases h1
theorem getm {p : Addr} {o : Obj} {T : String} {name : Str} {id : String} {pl : Sem Bool} {Q : Value × List Value → Shared → Prop} (slot : Slot T name id) (pa : PlainAttrs T) (hty : typeOf (.builtin id) = pure (.type "method_descriptor"))
    (ho : s.heap.get? p = some o) (hc : o.cls = .type T) (hd : o.dict = none) (h : Q (.builtin id, [.ref p]) s) : wpAny (model prog w) A (getMethod (.ref p) name pl) Q E s :=
  getMethod_builtin ⟨o, ho, hc⟩ pa slot hty (fun a e => by cases e; exact ⟨o, ho, hd⟩) h
theorem call_group_some {a p sp : Addr} {x : Str} {tk t : Tok} {lim li : Int} {l : List Int} {g b e : Nat} {Q : Value → Shared → Prop}
    (ha : s.heap.get? a = some (matObj x tk p lim li sp)) (hs : s.heap.get? sp = some (tupOf l)) (hb : l[2 * g]? = some (b : Int)) (he : l[2 * g + 1]? = some (e : Int)) (hx : x.cps.size ≤ sizeLine)
    (h : Q (.str ⟨x.cps.extract b e⟩ s.toks) { s with toks := s.toks + 1 }) : wpAny (model prog w) A (call (.builtin "re.Match.group") [.ref a, .int (g : Int) t]) Q E s :=
  wpAny_call_entry slot_group ⟨_, ha, rfl⟩ entry_group (group_some ha hs hb he hx ⟨_, rfl, h⟩) (args_group _ _)
theorem call_group_none {a p sp : Addr} {x : Str} {tk t : Tok} {lim li : Int} {l : List Int} {g : Nat} {Q : Value → Shared → Prop}
    (ha : s.heap.get? a = some (matObj x tk p lim li sp)) (hs : s.heap.get? sp = some (tupOf l)) (hb : l[2 * g]? = some (-1))
    (h : Q .none s) : wpAny (model prog w) A (call (.builtin "re.Match.group") [.ref a, .int (g : Int) t]) Q E s :=
  wpAny_call_entry slot_group ⟨_, ha, rfl⟩ entry_group (group_none ha hs hb ⟨_, rfl, h⟩) (args_group _ _)
theorem call_span {a p sp : Addr} {x : Str} {tk t : Tok} {lim li : Int} {l : List Int} {g : Nat} {b e : Int} {Q : Value → Shared → Prop} (F : Fr h₀ L s.heap m) (N : News h₀ L s.heap news)
    (ha : s.heap.get? a = some (matObj x tk p lim li sp)) (hs : s.heap.get? sp = some (tupOf l)) (hb : l[2 * g]? = some b) (he : l[2 * g + 1]? = some e)
    (h : ∀ q t1 t2 h', Fr h₀ L h' m → News h₀ L h' ((q, { cls := .type "tuple", data := .seq #[.int b t1, .int e t2] }) :: news) → (∀ r ∈ news, r.1 < q) → Q (.ref q) { s with heap := h', toks := s.toks + 1 + 1 }) :
    wpAny (model prog w) A (call (.builtin "re.Match.span") [.ref a, .int (g : Int) t]) Q E s :=
  wpAny_call_entry slot_span ⟨_, ha, rfl⟩ entry_span (span_wp ha hs hb he ⟨_, rfl, h _ _ _ _ (F.push _) (News.push F N _) (fun q hq => Heap.lt_size (N q hq).1)⟩) (args_span _ _)
theorem attr_string {a p sp : Addr} {expr : Bool} {x : Str} {tk : Tok} {lim li : Int} {Q : Value → Shared → Prop} (ha : s.heap.get? a = some (matObj x tk p lim li sp))
    (h : Q (.str x tk) { s with toks := s.toks + 1 }) : wpAny (model prog w) A (getAttr (.ref a) "string" expr) Q E s := by
  obtain ⟨hh, g, d, t, os⟩ := s
  exact string_attr ha rfl rfl rfl h
theorem noBool_mat : typeLookup (.type "re.Match") "__bool__" = pure none := by rw [typeLookup_type, builtinLookup_eq_fast]; kernel_rfl
theorem noLen_mat : typeLookup (.type "re.Match") "__len__" = pure none := by rw [typeLookup_type, builtinLookup_eq_fast]; kernel_rfl
theorem truthy_mat {a p sp : Addr} {x : Str} {tk : Tok} {lim li : Int} {Q : Bool → Shared → Prop} (ha : s.heap.get? a = some (matObj x tk p lim li sp)) (h : Q true s) :
    wpAny (model prog w) A (truthy (.ref a)) Q E s := by
  have hT : s.TypeIs (.ref a) "re.Match" := ⟨_, ha, rfl⟩
  unfold truthy
  first
    | refine wpAny_bind (wpAny_callSpecial?_none (name := Str.ofString "__bool__") hT noBool_mat ?_)
    | refine wpAny_bind (wpAny_pure (wpAny_bind (wpAny_callSpecial?_none (name := Str.ofString "__bool__") hT noBool_mat ?_)))
  first
    | refine wpAny_bind (wpAny_specialOf (name := Str.ofString "__len__") hT noLen_mat ?_)
    | refine wpAny_bind (wpAny_pure (wpAny_bind (wpAny_specialOf (name := Str.ofString "__len__") hT noLen_mat ?_)))
  exact wpAny_pure h
end
end Mine
end

section
set_option maxRecDepth 100000
set_option Elab.async false
namespace Mine
open PySem PySem.Calls PyProof.Rows PySem.Builtin
noncomputable abbrev T (l : List Nat) : Str := ⟨l.toArray⟩
theorem T_len (l : List Nat) : (T l).length = l.length := by simp [Str.length]
theorem T_append (a b : List Nat) : T a ++ T b = T (a ++ b) := by
  apply Str.ext'
  simp [Str.cps_append]
theorem sl_lo (x : Str) (j : Int) : Txt.slice x none (some j) = Txt.slice x (some 0) (some j) := by
  unfold Txt.slice PySem.Builtin.Str.strSliceIndices
  have e : max (0 : Int) (min 0 (x.length : Int)) = 0 := by omega
  simp [e]
theorem sl_mid {l : List Nat} {i j : Nat} (h1 : i ≤ j) (h2 : j ≤ l.length) : Txt.slice (T l) (some (i : Int)) (some (j : Int)) = T ((l.drop i).take (j - i)) := by
  have h := beq_iff_eq.mp (slice_closesL (x := T l) (i := (i : Int)) (j := (j : Int)) (by omega) (by omega) (by rw [T_len]; omega))
  rw [h]
  simp only [Int.toNat_natCast, show ((j : Int) - (i : Int)).toNat = j - i by omega]
theorem sl_to {l : List Nat} {j : Nat} (h2 : j ≤ l.length) : Txt.slice (T l) none (some (j : Int)) = T (l.take j) := by
  rw [sl_lo]
  have := sl_mid (l := l) (i := 0) (j := j) (by omega) h2
  simpa using this
theorem sl_from {l : List Nat} {i : Nat} (h2 : i ≤ l.length) : Txt.slice (T l) (some (i : Int)) none = T (l.drop i) := by
  have h := slice_from_eq (x := T l) (i := (i : Int)) (b := (l.length : Int)) (by omega) (by rw [T_len]; omega) (by rw [T_len])
  rw [h]
  have e : ((l.length : Int) - (i : Int)).toNat = l.length - i := by omega
  simp only [Int.toNat_natCast, e]
  rw [show (l.length - i) = (l.drop i).length by simp, List.take_length]
theorem ext_T (l : List Nat) (b e : Nat) : (⟨(T l).cps.extract b e⟩ : Str) = T ((l.drop b).take (e - b)) := by
  simp [T]
theorem slice2_fits {l : List Nat} (h : l.length ≤ 1000) (a b c d : Option Int) : (Txt.slice (T l) a b).length + (Txt.slice (T l) c d).length ≤ sizeLine :=
  Nat.le_trans (Nat.add_le_add (PyProof.Txt.length_slice_le (T l) a b) (PyProof.Txt.length_slice_le (T l) c d)) (by rw [T_len, sizeLine_eq]; omega)
end Mine
end

section
set_option maxRecDepth 100000
set_option Elab.async false
namespace Mine
open PySem PySem.Calls PyProof.Rows PySem.Builtin PySem.Builtin.Re PySem.Sre PySem.NumText
section
variable {prog : Program} {w : World} {A : Around} {E : Value → Shared → Prop} {s : Shared} {h₀ : Heap} {L : Addr} {m : Str → Option Value} {news : List (Addr × Obj)}
theorem fig48 {a : Nat} (h : a < 10) : isDigit (48 + a) = true := by simp [isDigit]; omega
theorem call_tz1 {a : Nat} {tk : Tok} {p c : Addr} {n : Nat} {pt : Str} {ptk ft : Tok} {Q : Value → Shared → Prop} (ha : a < 10) (F : Fr h₀ L s.heap m) (N : News h₀ L s.heap news)
    (hp : s.heap.get? p = some (patObj pt ptk 256 3 ft c)) (hc : s.heap.get? c = some { cls := .type "tuple", data := .seq (codeVals codeT) n })
    (h : ∀ q t h', Fr h₀ L h' m → News h₀ L h' ((q, matObj (T [48 + a]) tk p 1 2 t) :: (t, tupOf [0, 1, -1, -1, 0, 1, -1, -1]) :: news) → (∀ q ∈ news, q.1 < t) → t < q → Q (.ref q) { s with heap := h' }) :
    wpAny (model prog w) A (call (.builtin "re.Pattern.search") [.ref p, .str (T [48 + a]) tk]) Q E s :=
  call_search_hit (m' := T1s26 #[48 + a]) (k := 26) (sp := [-1, -1, 0, 1, -1, -1]) F N hp hc (show (1 : Int) < 2 ^ 63 by decide) (by decide) (searchT1 (fig48 ha)) rfl rfl rfl (by decide) h
theorem call_tz2 {a b : Nat} {tk : Tok} {p c : Addr} {n : Nat} {pt : Str} {ptk ft : Tok} {Q : Value → Shared → Prop} (ha : a < 10) (hb : b < 10) (F : Fr h₀ L s.heap m) (N : News h₀ L s.heap news)
    (hp : s.heap.get? p = some (patObj pt ptk 256 3 ft c)) (hc : s.heap.get? c = some { cls := .type "tuple", data := .seq (codeVals codeT) n })
    (h : ∀ q t h', Fr h₀ L h' m → News h₀ L h' ((q, matObj (T [48 + a, 48 + b]) tk p 2 2 t) :: (t, tupOf [0, 2, -1, -1, 0, 2, -1, -1]) :: news) → (∀ q ∈ news, q.1 < t) → t < q → Q (.ref q) { s with heap := h' }) :
    wpAny (model prog w) A (call (.builtin "re.Pattern.search") [.ref p, .str (T [48 + a, 48 + b]) tk]) Q E s :=
  call_search_hit (m' := T2s26 #[48 + a, 48 + b]) (k := 26) (sp := [-1, -1, 0, 2, -1, -1]) F N hp hc (show (2 : Int) < 2 ^ 63 by decide) (by decide) (searchT2 (fig48 ha) (fig48 hb)) rfl rfl rfl (by decide) h
theorem call_tz3 {a b d : Nat} {tk : Tok} {p c : Addr} {n : Nat} {pt : Str} {ptk ft : Tok} {Q : Value → Shared → Prop} (ha : a < 10) (hb : b < 10) (hd : d < 10) (F : Fr h₀ L s.heap m) (N : News h₀ L s.heap news)
    (hp : s.heap.get? p = some (patObj pt ptk 256 3 ft c)) (hc : s.heap.get? c = some { cls := .type "tuple", data := .seq (codeVals codeT) n })
    (h : ∀ q t h', Fr h₀ L h' m → News h₀ L h' ((q, matObj (T [48 + a, 48 + b, 48 + d]) tk p 3 3 t) :: (t, tupOf [0, 3, -1, -1, 0, 1, 1, 3]) :: news) → (∀ q ∈ news, q.1 < t) → t < q → Q (.ref q) { s with heap := h' }) :
    wpAny (model prog w) A (call (.builtin "re.Pattern.search") [.ref p, .str (T [48 + a, 48 + b, 48 + d]) tk]) Q E s :=
  call_search_hit (m' := T3s42 #[48 + a, 48 + b, 48 + d]) (k := 42) (sp := [-1, -1, 0, 1, 1, 3]) F N hp hc (show (3 : Int) < 2 ^ 63 by decide) (by decide) (searchT3 (fig48 ha) (fig48 hb) (fig48 hd)) rfl rfl rfl (by decide) h
theorem call_tz4 {a b d e : Nat} {tk : Tok} {p c : Addr} {n : Nat} {pt : Str} {ptk ft : Tok} {Q : Value → Shared → Prop} (ha : a < 10) (hb : b < 10) (hd : d < 10) (he : e < 10) (F : Fr h₀ L s.heap m) (N : News h₀ L s.heap news)
    (hp : s.heap.get? p = some (patObj pt ptk 256 3 ft c)) (hc : s.heap.get? c = some { cls := .type "tuple", data := .seq (codeVals codeT) n })
    (h : ∀ q t h', Fr h₀ L h' m → News h₀ L h' ((q, matObj (T [48 + a, 48 + b, 48 + d, 48 + e]) tk p 4 3 t) :: (t, tupOf [0, 4, -1, -1, 0, 2, 2, 4]) :: news) → (∀ q ∈ news, q.1 < t) → t < q → Q (.ref q) { s with heap := h' }) :
    wpAny (model prog w) A (call (.builtin "re.Pattern.search") [.ref p, .str (T [48 + a, 48 + b, 48 + d, 48 + e]) tk]) Q E s :=
  call_search_hit (m' := T4s29 #[48 + a, 48 + b, 48 + d, 48 + e]) (k := 29) (sp := [-1, -1, 0, 2, 2, 4]) F N hp hc (show (4 : Int) < 2 ^ 63 by decide) (by decide) (searchT4 (fig48 ha) (fig48 hb) (fig48 hd) (fig48 he)) rfl rfl rfl (by decide) h
theorem int1 {a : Nat} (ha : a < 10) : intText? (T [48 + a]) = some (a : Int) := by
  have h := intText_digits (x := T [48 + a]) (by intro c hc; simp at hc; omega) (by simp) (by rw [T_len]; simp)
  rw [h]
  simp [digitsVal]
theorem int2 {a b : Nat} (ha : a < 10) (hb : b < 10) : intText? (T [48 + a, 48 + b]) = some ((10 * a + b : Nat) : Int) := by
  have h := intText_digits (x := T [48 + a, 48 + b]) (by intro c hc; simp at hc; omega) (by simp) (by rw [T_len]; simp)
  rw [h]
  simp [digitsVal]
  omega
theorem call_int1 {a : Nat} {t : Tok} {Q : Value → Shared → Prop} (ha : a < 10) (h : Q (.int (a : Int) s.toks) { s with toks := s.toks + 1 }) : wpAny (model prog w) A (call (.type "int") [.str (T [48 + a]) t]) Q E s :=
  W.KIN.call_text (int1 ha) (by rw [T_len]; simp) h
theorem call_int2 {a b : Nat} {t : Tok} {Q : Value → Shared → Prop} (ha : a < 10) (hb : b < 10) (h : Q (.int ((10 * a + b : Nat) : Int) s.toks) { s with toks := s.toks + 1 }) : wpAny (model prog w) A (call (.type "int") [.str (T [48 + a, 48 + b]) t]) Q E s :=
  W.KIN.call_text (int2 ha hb) (by rw [T_len]; simp) h
theorem truthy_T {c : Nat} {l : List Nat} {t : Tok} {Q : Bool → Shared → Prop} (hl : l.length ≤ 1000) (h : Q true { s with toks := s.toks + 1 + 1 }) : wpAny (model prog w) A (truthy (.str (T (c :: l)) t)) Q E s := by
  refine P.truthy_str (by rw [T_len]; simp; omega) ?_
  have : (((T (c :: l)).length : Int) != 0) = true := by rw [T_len]; simp; omega
  rw [this]
  exact h
/-- a group's text, of a text written as a list -/
theorem call_group_T {a p sp : Addr} {x y : List Nat} {tk t : Tok} {lim li : Int} {l : List Int} {g b e : Nat} {Q : Value → Shared → Prop}
    (ha : s.heap.get? a = some (matObj (T x) tk p lim li sp)) (hs : s.heap.get? sp = some (tupOf l)) (hb : l[2 * g]? = some (b : Int)) (he : l[2 * g + 1]? = some (e : Int)) (hx : x.length ≤ 1000) (hy : (x.drop b).take (e - b) = y)
    (h : Q (.str (T y) s.toks) { s with toks := s.toks + 1 }) : wpAny (model prog w) A (call (.builtin "re.Match.group") [.ref a, .int (g : Int) t]) Q E s := by
  refine call_group_some ha hs hb he (by simp [sizeLine]; omega) ?_
  rw [ext_T, hy]
  exact h
end
end Mine
end

section
open PySem PySem.W PyProof.Rows
set_option Elab.async false
set_option maxRecDepth 100000
set_option maxHeartbeats 8000000
namespace Mine
noncomputable abbrev prog0 : Program := PySem.Challenge.rw_wb0005_01.row.prog
noncomputable abbrev loose0 : List Str := looseW hd.view_39 [Str.ofString "UTC_ZONES", Str.ofString "TIMEZONE_RE", Str.ofString "IPV4_RE"]
noncomputable abbrev Claim0 (w : World) (mean : ExcName → Option Value) (mg mb : Str → Option Value) (f : Addr) (news : List (Addr × Obj)) (pre : Prop) (vs : List Value) (R : Tok → Value) : Prop :=
  CbClaim prog0 w (hd.heap_39 w.params) hd.view_39 loose0 mean mg mb f news [] pre vs R
theorem K56 {w : World} {h : Heap} (X : (hd.heap_39 w.params).In h) : h.get? 56 = some patIPV4 := X _ _ (by kernel_rfl)
theorem K55 {w : World} {h : Heap} (X : (hd.heap_39 w.params).In h) : h.get? 55 = some { cls := .type "tuple", data := .seq (codeVals code4) 0 } := X _ _ (by kernel_rfl)
theorem K37 {w : World} {h : Heap} (X : (hd.heap_39 w.params).In h) : h.get? 37 = some patTZ := X _ _ (by kernel_rfl)
theorem K36 {w : World} {h : Heap} (X : (hd.heap_39 w.params).In h) : h.get? 36 = some { cls := .type "tuple", data := .seq (codeVals codeT) 0 } := X _ _ (by kernel_rfl)
local macro_rules | `(tactic| walk_at "getMethod ref") => `(tactic| (k_here; k_dflt (first
  | (refine' getm slot_search plain_pat type_search ?ho ?hc ?hd ?_; (case ho => first | exact K56 (by k_in) | exact K37 (by k_in)); (case hc => exact rfl); (case hd => exact rfl); k_whole)
  | (refine' getm slot_group plain_mat type_group ?ho ?hc ?hd ?_; (case ho => exact News.get (by k_asm) (by k_mem)); (case hc => exact rfl); (case hd => exact rfl); k_whole)
  | (refine' getm slot_span plain_mat type_span ?ho ?hc ?hd ?_; (case ho => exact News.get (by k_asm) (by k_mem)); (case hc => exact rfl); (case hd => exact rfl); k_whole))))
local macro_rules | `(tactic| walk_at "call builtin:re.Pattern.search") => `(tactic| (k_here; k_dflt (first
  | (refine' call_ip4 ?E ?F ?N ?hp ?hc ?_; (case E => assumption); (case F => k_asm); (case N => k_asm); (case hp => exact K56 (by k_in)); (case hc => exact K55 (by k_in)); k_whole; intro a' t' h' F' N' l1 l2)
  | (refine' call_ip4_no ?E ?hp ?hc ?_; (case E => assumption); (case hp => exact K56 (by k_in)); (case hc => exact K55 (by k_in)); k_whole))))
local macro_rules | `(tactic| walk_at "truthy ref") => `(tactic| (k_here; k_dflt (refine' truthy_mat ?ho ?_; (case ho => exact News.get (by k_asm) (by k_mem)); k_whole)))
theorem hdn_no {w : World} {mean : ExcName → Option Value} {mg mb : Str → Option Value} {news : List (Addr × Obj)} {x : Str} {tk : Tok} {d k : Nat} (hE : Ends4 x d k) :
    Claim0 w mean mg mb 63 news True [.str x tk] (fun _ => .bool false) := by
  dsimp only [Claim0, prog0, CbClaim, CbLists, CbRet]
  k_fill
  intros
  rename_i hret
  refine wpAny_call ?_
  k_dflt cell_enter
  k_steps
  all_goals (refine hret 0 _ _ (by k_asm) ?_; (refine' cb_drop ?cbN ?cbS; (case cbN => assumption); (case cbS => kcj_all)))
theorem hdn_yes {w : World} {mean : ExcName → Option Value} {mg mb : Str → Option Value} {news : List (Addr × Obj)} {x : Str} {tk : Tok} (hx : x.cps ∈ heads8) :
    Claim0 w mean mg mb 63 news True [.str x tk] (fun _ => .bool true) := by
  obtain ⟨x⟩ := x
  dsimp only [Claim0, prog0, CbClaim, CbLists, CbRet]
  k_fill
  have hx' : x ∈ heads8 := hx
  simp only [heads8, List.mem_cons, List.not_mem_nil, or_false] at hx'
  intros
  rename_i hret
  refine wpAny_call ?_
  rcases hx' with rfl | rfl | rfl | rfl | rfl | rfl | rfl | rfl
  all_goals k_dflt cell_enter
  all_goals k_steps
  all_goals (refine hret 0 _ _ (by k_asm) ?_; (refine' cb_drop ?cbN ?cbS; (case cbN => assumption); (case cbS => kcj_all)))
section
local macro_rules | `(tactic| walk_at "call builtin:re.Match.span") => `(tactic| (k_here; k_dflt (refine' call_span (g := 0) ?F ?N ?ha ?hs ?hb ?he ?_; (case F => k_asm); (case N => k_asm); (case ha => exact News.get (by k_asm) (by k_mem)); (case hs => exact News.get (by k_asm) (by k_mem)); (case hb => exact rfl); (case he => exact rfl); k_whole; intro q' t1 t2 h' F' N' l1)))
local macro_rules | `(tactic| walk_at "getAttr ref") => `(tactic| (k_here; k_dflt (refine' attr_string ?ha ?_; (case ha => exact News.get (by k_asm) (by k_mem)); k_whole)))
local macro_rules | `(tactic| walk_at "binaryOp Add") => `(tactic| (k_here; (with_reducible show wpAny _ _ (binaryOp Operator.Add (Value.str _ _) (Value.str _ _)) _ _ _); k_dflt (refine' PyProof.Rows.add_str ?_ ?hz; (case hz => first | exact slice2_fits (by assumption) _ _ _ _); k_whole; intro t' tk')))
theorem unm {w : World} {mean : ExcName → Option Value} {mg mb : Str → Option Value} {news : List (Addr × Obj)} {x : List Nat} {tk : Tok} {a sp p : Addr} {lim li : Int} {b e : Nat} {l : List Int} (hbe : b ≤ e) (he : e ≤ x.length) (hx : x.length ≤ 1000) :
    Claim0 w mean mg mb 51 ((a, matObj (T x) tk p lim li sp) :: (sp, tupOf ((b : Int) :: (e : Int) :: l)) :: news) True [.ref a] (fun t => .str (T (x.take b ++ x.drop e)) t) := by
  dsimp only [Claim0, prog0, CbClaim, CbLists, CbRet]
  k_fill
  intros
  rename_i hret
  refine wpAny_call ?_
  k_dflt cell_enter
  k_steps
  rw [sl_to (by omega), sl_from (by omega), T_append]
  refine hret _ _ _ (by k_asm) ?_; (refine' cb_drop ?cbN ?cbS; (case cbN => assumption); (case cbS => kcj_all))
end
section
local macro_rules | `(tactic| walk_at "call builtin:re.Match.group") => `(tactic| (k_here; k_dflt (first
  | (refine' call_group_none (g := 1) ?ha ?hs ?hb ?_; (case ha => exact News.get (by k_asm) (by k_mem)); (case hs => exact News.get (by k_asm) (by k_mem)); (case hb => exact rfl); k_whole)
  | (refine' call_group_none (g := 3) ?ha ?hs ?hb ?_; (case ha => exact News.get (by k_asm) (by k_mem)); (case hs => exact News.get (by k_asm) (by k_mem)); (case hb => exact rfl); k_whole)
  | (refine' call_group_T (g := 2) (b := 0) (e := 1) ?ha ?hs ?hb ?he ?hx ?hy ?_; (case ha => exact News.get (by k_asm) (by k_mem)); (case hs => exact News.get (by k_asm) (by k_mem)); (case hb => exact rfl); (case he => exact rfl); (case hx => (simp only [List.length_cons, List.length_nil]; omega)); (case hy => exact rfl); k_whole; (try dsimp only [List.drop_zero, List.drop_succ_cons, Nat.reduceSub, List.take_succ_cons, List.take_zero]))
  | (refine' call_group_T (g := 2) (b := 0) (e := 2) ?ha ?hs ?hb ?he ?hx ?hy ?_; (case ha => exact News.get (by k_asm) (by k_mem)); (case hs => exact News.get (by k_asm) (by k_mem)); (case hb => exact rfl); (case he => exact rfl); (case hx => (simp only [List.length_cons, List.length_nil]; omega)); (case hy => exact rfl); k_whole; (try dsimp only [List.drop_zero, List.drop_succ_cons, Nat.reduceSub, List.take_succ_cons, List.take_zero]))
  | (refine' call_group_T (g := 3) (b := 1) (e := 3) ?ha ?hs ?hb ?he ?hx ?hy ?_; (case ha => exact News.get (by k_asm) (by k_mem)); (case hs => exact News.get (by k_asm) (by k_mem)); (case hb => exact rfl); (case he => exact rfl); (case hx => (simp only [List.length_cons, List.length_nil]; omega)); (case hy => exact rfl); k_whole; (try dsimp only [List.drop_zero, List.drop_succ_cons, Nat.reduceSub, List.take_succ_cons, List.take_zero]))
  | (refine' call_group_T (g := 3) (b := 2) (e := 4) ?ha ?hs ?hb ?he ?hx ?hy ?_; (case ha => exact News.get (by k_asm) (by k_mem)); (case hs => exact News.get (by k_asm) (by k_mem)); (case hb => exact rfl); (case he => exact rfl); (case hx => (simp only [List.length_cons, List.length_nil]; omega)); (case hy => exact rfl); k_whole; (try dsimp only [List.drop_zero, List.drop_succ_cons, Nat.reduceSub, List.take_succ_cons, List.take_zero])))))
local macro_rules | `(tactic| walk_at "call builtin:re.Pattern.search") => `(tactic| (k_here; k_dflt (first
  | (refine' call_tz1 ?ha ?F ?N ?hp ?hc ?_; (case ha => assumption); (case F => k_asm); (case N => k_asm); (case hp => exact K37 (by k_in)); (case hc => exact K36 (by k_in)); k_whole; intro a' t' h' F' N' l1 l2)
  | (refine' call_tz2 ?ha ?hb ?F ?N ?hp ?hc ?_; (case ha => assumption); (case hb => assumption); (case F => k_asm); (case N => k_asm); (case hp => exact K37 (by k_in)); (case hc => exact K36 (by k_in)); k_whole; intro a' t' h' F' N' l1 l2)
  | (refine' call_tz3 ?ha ?hb ?hd ?F ?N ?hp ?hc ?_; (case ha => assumption); (case hb => assumption); (case hd => assumption); (case F => k_asm); (case N => k_asm); (case hp => exact K37 (by k_in)); (case hc => exact K36 (by k_in)); k_whole; intro a' t' h' F' N' l1 l2)
  | (refine' call_tz4 ?ha ?hb ?hd ?he ?F ?N ?hp ?hc ?_; (case ha => assumption); (case hb => assumption); (case hd => assumption); (case he => assumption); (case F => k_asm); (case N => k_asm); (case hp => exact K37 (by k_in)); (case hc => exact K36 (by k_in)); k_whole; intro a' t' h' F' N' l1 l2))))
theorem key_ne {s : Str} {a : Nat} {l : List Nat} {t : Tok} (h : ∃ c r, s = T (c :: r) ∧ 57 < c) (ha : a < 10) : (Value.str s t).isStr (T ((48 + a) :: l)) = false := by
  obtain ⟨c, r, rfl, hc⟩ := h
  show (T (c :: r) == T ((48 + a) :: l)) = false
  rw [beq_eq_false_iff_ne]
  intro e
  have := congrArg (fun x : Str => x.cps.toList) e
  simp at this
  omega
theorem zones {P : Params} {a : Nat} {l : List Nat} (ha : a < 10) : nsIn (hd.heap_39 P) 32 (T ((48 + a) :: l)) = some none := by
  unfold nsIn
  have e : (hd.heap_39 P).lookup 32 = some ⟨.type "dict", none, .dict #[⟨PyData.keyHash P "GMT", .str "GMT" 284, .none⟩, ⟨PyData.keyHash P "UTC", .str "UTC" 285, .none⟩, ⟨PyData.keyHash P "UT", .str "UT" 286, .none⟩, ⟨PyData.keyHash P "Z", .str "Z" 287, .none⟩] 4, #[]⟩ := by kernel_rfl
  rw [e]
  have h1 := key_ne (s := "GMT") (t := 284) (l := l) ⟨71, [77, 84], by decide +kernel, by decide⟩ ha
  have h2 := key_ne (s := "UTC") (t := 285) (l := l) ⟨85, [84, 67], by decide +kernel, by decide⟩ ha
  have h3 := key_ne (s := "UT") (t := 286) (l := l) ⟨85, [84], by decide +kernel, by decide⟩ ha
  have h4 := key_ne (s := "Z") (t := 287) (l := l) ⟨90, [], by decide +kernel, by decide⟩ ha
  simp only [List.find?, h1, h2, h3, h4]
  rfl
local macro_rules | `(tactic| walk_at "compareOp In str ref") => `(tactic| (k_here; k_dflt (refine' topIn_K ?F ?X ?l ?k ?e ?o ?_; (case F => k_asm); (case X => k_asm); (case l => k_is); (case k => k_keys); (case e => exact zones (by assumption)); (case o => exact rfl); k_whole)))
local macro_rules | `(tactic| walk_at "call type:int") => `(tactic| (k_here; k_dflt (first
  | (refine' call_int1 ?a ?_; (case a => assumption); k_whole)
  | (refine' call_int2 ?a ?b ?_; (case a => assumption); (case b => assumption); k_whole))))
local macro_rules | `(tactic| walk_at "truthy str") => `(tactic| (k_here; k_dflt (refine' truthy_T ?a ?_; (case a => first | (simp; done) | (simp; omega)); k_whole)))
theorem off1 {w : World} {mean : ExcName → Option Value} {mg mb : Str → Option Value} {news : List (Addr × Obj)} {a : Nat} {tk : Tok} (ha : a < 10) :
    Claim0 w mean mg mb 44 news True [.str (T [48 + a]) tk] (fun t => .int (3600 * (a : Int)) t) := by
  dsimp only [Claim0, prog0, CbClaim, CbLists, CbRet]
  k_fill
  intros
  rename_i hret
  refine wpAny_call ?_
  k_dflt cell_enter
  k_steps
  refine hret _ _ _ (by k_asm) ?_; (refine' cb_drop ?cbN ?cbS; (case cbN => assumption); (case cbS => kcj_all))
theorem off2 {w : World} {mean : ExcName → Option Value} {mg mb : Str → Option Value} {news : List (Addr × Obj)} {a b : Nat} {tk : Tok} (ha : a < 10) (hb : b < 10) :
    Claim0 w mean mg mb 44 news True [.str (T [48 + a, 48 + b]) tk] (fun t => .int (3600 * ((10 * a + b : Nat) : Int)) t) := by
  dsimp only [Claim0, prog0, CbClaim, CbLists, CbRet]
  k_fill
  intros
  rename_i hret
  refine wpAny_call ?_
  k_dflt cell_enter
  k_steps
  refine hret _ _ _ (by k_asm) ?_; (refine' cb_drop ?cbN ?cbS; (case cbN => assumption); (case cbS => kcj_all))
theorem off3 {w : World} {mean : ExcName → Option Value} {mg mb : Str → Option Value} {news : List (Addr × Obj)} {a b d : Nat} {tk : Tok} (ha : a < 10) (hb : b < 10) (hd : d < 10) :
    Claim0 w mean mg mb 44 news True [.str (T [48 + a, 48 + b, 48 + d]) tk] (fun t => .int (3600 * (a : Int) + 60 * ((10 * b + d : Nat) : Int)) t) := by
  dsimp only [Claim0, prog0, CbClaim, CbLists, CbRet]
  k_fill
  intros
  rename_i hret
  refine wpAny_call ?_
  k_dflt cell_enter
  k_steps
  refine hret _ _ _ (by k_asm) ?_; (refine' cb_drop ?cbN ?cbS; (case cbN => assumption); (case cbS => kcj_all))
theorem off4 {w : World} {mean : ExcName → Option Value} {mg mb : Str → Option Value} {news : List (Addr × Obj)} {a b d e : Nat} {tk : Tok} (ha : a < 10) (hb : b < 10) (hd : d < 10) (he : e < 10) :
    Claim0 w mean mg mb 44 news True [.str (T [48 + a, 48 + b, 48 + d, 48 + e]) tk] (fun t => .int (3600 * ((10 * a + b : Nat) : Int) + 60 * ((10 * d + e : Nat) : Int)) t) := by
  dsimp only [Claim0, prog0, CbClaim, CbLists, CbRet]
  k_fill
  intros
  rename_i hret
  refine wpAny_call ?_
  k_dflt cell_enter
  k_steps
  refine hret _ _ _ (by k_asm) ?_; (refine' cb_drop ?cbN ?cbS; (case cbN => assumption); (case cbS => kcj_all))
end
end Mine
end

section
open PySem PySem.W PyProof.Rows
set_option Elab.async false
set_option maxRecDepth 100000
set_option maxHeartbeats 8000000
namespace Mine
theorem two_of : ∀ v : Fin 100, Txt.slice (Str.ofString (toString ((100 : Int) + (v.val : Int)))) (some 1) none = T [48 + v.val / 10, 48 + v.val % 10] := by decide +kernel
noncomputable def clk (n : Nat) : List Nat := [48 + n / 60 / 10, 48 + n / 60 % 10, 48 + n % 60 / 10, 48 + n % 60 % 10]
theorem str_fits {k : Int} (h0 : 0 ≤ k) (h1 : k < 1000000) : (Str.ofString (toString k)).length ≤ sizeLine := by
  have h := int_text_length_le10 (a := k) (k := 6) (by omega) (by omega)
  rw [PySem.ofString_length]
  have h3 : sizeLine = 16777216 := sizeLine_eq
  omega
theorem str_len7 {k : Int} (h0 : 0 ≤ k) (h1 : k < 1000000) : (Str.ofString (toString k)).length ≤ 7 := by
  have h := int_text_length_le10 (a := k) (k := 6) (by omega) (by omega)
  rw [PySem.ofString_length]
  exact h
theorem add2_fits {j k : Int} {a b c d : Option Int} (h0 : 0 ≤ j) (h1 : j < 1000000) (h2 : 0 ≤ k) (h3 : k < 1000000) :
    (Txt.slice (Str.ofString (toString j)) a b).length + (Txt.slice (Str.ofString (toString k)) c d).length ≤ sizeLine :=
  Nat.le_trans (Nat.add_le_add (Nat.le_trans (PyProof.Txt.length_slice_le _ a b) (str_len7 h0 h1)) (Nat.le_trans (PyProof.Txt.length_slice_le _ c d) (str_len7 h2 h3))) (by rw [sizeLine_eq]; omega)
theorem fd {n : Int} (h0 : 0 ≤ n) (h1 : n < 6000) : n.fdiv 60 = ((n.toNat / 60 : Nat) : Int) ∧ n.fmod 60 = ((n.toNat % 60 : Nat) : Int) := by
  rw [Int.fdiv_eq_ediv_of_nonneg _ (show (0 : Int) ≤ 60 by decide), Int.fmod_eq_emod_of_nonneg _ (show (0 : Int) ≤ 60 by decide)]
  omega
theorem fd2 {n : Int} (h0 : 0 ≤ n) (h1 : n < 6000) : 0 ≤ 100 + n.fdiv 60 ∧ 100 + n.fdiv 60 < 1000000 ∧ 0 ≤ 100 + n.fmod 60 ∧ 100 + n.fmod 60 < 1000000 := by
  have := fd h0 h1
  omega
theorem clk_text {n : Int} (h0 : 0 ≤ n) (h1 : n < 6000) :
    Txt.slice (Str.ofString (toString (100 + n.fdiv 60))) (some 1) none ++ Txt.slice (Str.ofString (toString (100 + n.fmod 60))) (some 1) none = T (clk n.toNat) := by
  rw [(fd h0 h1).1, (fd h0 h1).2, two_of ⟨n.toNat / 60, by omega⟩, two_of ⟨n.toNat % 60, by omega⟩, T_append]
  rfl
local macro_rules | `(tactic| walk_at "binaryOp Add") => `(tactic| (k_here; (with_reducible show wpAny _ _ (binaryOp Operator.Add (Value.str (Txt.slice _ _ _) _) (Value.str (Txt.slice _ _ _) _)) _ _ _); k_dflt (refine' PyProof.Rows.add_str ?_ ?hz; (case hz => (have hh := fd2 (by assumption) (by assumption); exact add2_fits hh.1 hh.2.1 hh.2.2.1 hh.2.2.2)); k_whole; intro t' tk')))
local macro_rules | `(tactic| walk_at "subscriptTail Name Slice str ref") => `(tactic| (k_here; (with_reducible show wpAny _ _ (subscriptTail _ (Expr.Slice (some _) none none _) (Value.str (Str.ofString (toString _)) _) _) _ _ _); (refine slice_strN_sn (hsz := ?hsz) (s := ⟨_, _, _, _, _⟩) (by assumption) (by assumption) ?_); (case hsz => exact str_fits (by have := fd2 (by assumption) (by assumption); omega) (by have := fd2 (by assumption) (by assumption); omega)); intro _ _ _ _ _))
theorem clock {w : World} {mean : ExcName → Option Value} {mg mb : Str → Option Value} {news : List (Addr × Obj)} {n : Int} {tk : Tok} (h0 : 0 ≤ n) (h1 : n < 6000) :
    Claim0 w mean mg mb 70 news True [.int n tk] (fun t => .str (T (clk n.toNat)) t) := by
  dsimp only [Claim0, prog0, CbClaim, CbLists, CbRet]
  k_fill
  intros
  rename_i hret
  refine wpAny_call ?_
  k_dflt cell_enter
  k_steps
  rw [clk_text h0 h1]
  refine hret _ _ _ (by k_asm) ?_; (refine' cb_drop ?cbN ?cbS; (case cbN => assumption); (case cbS => kcj_all))
end Mine
end

section
open PySem PySem.W PyProof.Rows
set_option Elab.async false
set_option maxRecDepth 100000
set_option maxHeartbeats 8000000
namespace Mine
theorem claim_use {w : World} {mean : ExcName → Option Value} {mg mb : Str → Option Value} {f : Addr} {news : List (Addr × Obj)} {pre : Prop} {vs : List Value} {R : Tok → Value} (C : Claim0 w mean mg mb f news pre vs R) (hp : pre)
    {dp un : Nat} {gd : Option (List Code)} {cn : Str} {cs : Scope} {a : Addr} {ccd : Value} {cl : List (Str × Addr)} {outer : List Env} {A₀ : Around} {base h₀ : Heap} {L : Addr} {m : Str → Option Value} {s : Shared} {Q E : Value → Shared → Prop}
    (B : Below A₀ base outer h₀) (F : Fr h₀ L s.heap m) (X : (hd.heap_39 w.params).In h₀) (N : News h₀ L s.heap news) (Tt : Top hd.view_39 loose0 mean mg mb h₀) (hk : cs.kind = .function) (hd : dp + 1 < recursionLimit) (hu : un + 8 < cLine)
    (h : CbRet h₀ L m news s Q R) : wpAny (model prog0 w) (ktrTop dp un gd cn cs L a ccd cl outer) (call (.ref f) vs) Q E s :=
  C dp un gd cn cs a ccd cl outer A₀ base h₀ L m s Q E B F X N Tt hk hp hd hu h
/-- a clock's text and its minutes -/
inductive Piece : List Nat → Nat → Prop
  | one {a : Nat} (ha : a < 10) : Piece [48 + a] (60 * a)
  | two {a b : Nat} (ha : a < 10) (hb : b < 10) : Piece [48 + a, 48 + b] (60 * (10 * a + b))
  | three {a b d : Nat} (ha : a < 10) (hb : b < 10) (hd : d < 10) : Piece [48 + a, 48 + b, 48 + d] (60 * a + (10 * b + d))
  | four {a b d e : Nat} (ha : a < 10) (hb : b < 10) (hd : d < 10) (he : e < 10) : Piece [48 + a, 48 + b, 48 + d, 48 + e] (60 * (10 * a + b) + (10 * d + e))
theorem Piece.figs {p : List Nat} {v : Nat} (h : Piece p v) : ∀ c ∈ p, 48 ≤ c ∧ c ≤ 57 := by
  cases h <;> (intro c hc; simp at hc; omega)
theorem Piece.len {p : List Nat} {v : Nat} (h : Piece p v) : 1 ≤ p.length ∧ p.length ≤ 4 := by
  cases h <;> simp
theorem Piece.clk {n : Nat} (h : n < 6000) : Piece (clk n) n := by
  have h1 := Piece.four (a := n / 60 / 10) (b := n / 60 % 10) (d := n % 60 / 10) (e := n % 60 % 10) (by omega) (by omega) (by omega) (by omega)
  have e : 60 * (10 * (n / 60 / 10) + n / 60 % 10) + (10 * (n % 60 / 10) + n % 60 % 10) = n := by omega
  rw [e] at h1
  exact h1
theorem off_piece {w : World} {mean : ExcName → Option Value} {mg mb : Str → Option Value} {news : List (Addr × Obj)} {p : List Nat} {v : Nat} {tk : Tok} (hp : Piece p v) :
    Claim0 w mean mg mb 44 news True [.str (T p) tk] (fun t => .int (60 * (v : Int)) t) := by
  cases hp with
  | @one a ha => exact (show (fun t => Value.int (3600 * (a : Int)) t) = (fun t => Value.int (60 * ((60 * a : Nat) : Int)) t) by funext t; congr 1; omega) ▸ off1 ha
  | @two a b ha hb => exact (show (fun t => Value.int (3600 * ((10 * a + b : Nat) : Int)) t) = (fun t => Value.int (60 * ((60 * (10 * a + b) : Nat) : Int)) t) by funext t; congr 1; omega) ▸ off2 ha hb
  | @three a b d ha hb hd => exact (show (fun t => Value.int (3600 * (a : Int) + 60 * ((10 * b + d : Nat) : Int)) t) = (fun t => Value.int (60 * ((60 * a + (10 * b + d) : Nat) : Int)) t) by funext t; congr 1; omega) ▸ off3 ha hb hd
  | @four a b d e ha hb hd he => exact (show (fun t => Value.int (3600 * ((10 * a + b : Nat) : Int) + 60 * ((10 * d + e : Nat) : Int)) t) = (fun t => Value.int (60 * ((60 * (10 * a + b) + (10 * d + e) : Nat) : Int)) t) by funext t; congr 1; omega) ▸ off4 ha hb hd he
theorem ends_of {pre ds tl : List Nat} (hd : ∀ c ∈ ds, 48 ≤ c ∧ c ≤ 57) (h1 : 1 ≤ ds.length) (ht : tl = [] ∨ tl = [10]) (hs : ((pre ++ 46 :: ds) ++ tl).length ≤ 1000) : Ends4 (T ((pre ++ 46 :: ds) ++ tl)) pre.length ds.length := by
  have hz : (T ((pre ++ 46 :: ds) ++ tl)).cps.size = pre.length + 1 + ds.length + tl.length := by simp; omega
  have hg : ∀ j, (T ((pre ++ 46 :: ds) ++ tl)).cps.getD j 0 = ((pre ++ 46 :: ds) ++ tl).getD j 0 := by
    intro j; simp [Array.getD_eq_getD_getElem?]
  refine ⟨by simpa using hs, ?_, h1, by omega, ?_, ?_⟩
  · rw [hg]; simp
  · intro j hj
    rw [hg]
    have e : ((pre ++ 46 :: ds) ++ tl).getD (pre.length + 1 + j) 0 = ds[j] := by
      rw [List.getD_eq_getElem?_getD, List.append_assoc, List.getElem?_append_right (by omega)]
      simp [show pre.length + 1 + j - pre.length = j + 1 by omega, List.getElem?_append_left hj, List.getElem?_eq_getElem hj]
    rw [e]
    have := hd ds[j] (List.getElem_mem hj)
    simp [Sre.isDigit]
    omega
  · rcases ht with rfl | rfl
    · left; simp at hz ⊢; omega
    · right
      refine ⟨by simp; omega, ?_⟩
      rw [hg, List.getD_eq_getElem?_getD, List.getElem?_append_right (by simp; omega)]
      simp [show pre.length + 1 + ds.length - (pre.length + (ds.length + 1)) = 0 by omega]
end Mine
end

section
open PySem PySem.W PyProof.Rows
set_option Elab.async false
set_option maxRecDepth 100000
set_option maxHeartbeats 8000000
namespace Mine
theorem take_drop_mid (pre ds tl : List Nat) : ((pre ++ 46 :: ds) ++ tl).take pre.length ++ ((pre ++ 46 :: ds) ++ tl).drop (pre.length + 1 + ds.length) = pre ++ tl := by
  rw [List.append_assoc, List.take_left' rfl, ← List.append_assoc, List.drop_left' (by simp; omega)]
noncomputable abbrev matL (pre ds tl : List Nat) (tk : Tok) (t : Addr) : Obj := matObj (T ((pre ++ 46 :: ds) ++ tl)) tk 56 (((pre ++ 46 :: ds) ++ tl).length : Nat) (-1) t
noncomputable abbrev tupL (pre ds : List Nat) : Obj := tupOf [((pre.length : Nat) : Int), ((pre.length + 1 + ds.length : Nat) : Int)]
section
variable {prog : Program} {w : World} {A : Around} {E : Value → Shared → Prop} {s : Shared} {h₀ : Heap} {L : Addr} {m : Str → Option Value} {news : List (Addr × Obj)}
theorem search_L {pre ds tl : List Nat} {tk : Tok} {Q : Value → Shared → Prop} (X : (hd.heap_39 w.params).In s.heap) (hd : ∀ c ∈ ds, 48 ≤ c ∧ c ≤ 57) (h1 : 1 ≤ ds.length) (ht : tl = [] ∨ tl = [10]) (hs : ((pre ++ 46 :: ds) ++ tl).length ≤ 1000)
    (F : Fr h₀ L s.heap m) (N : News h₀ L s.heap news)
    (h : ∀ q t h', Fr h₀ L h' m → News h₀ L h' ((q, matL pre ds tl tk t) :: (t, tupL pre ds) :: news) → (∀ q ∈ news, q.1 < t) → t < q → Q (.ref q) { s with heap := h' }) :
    wpAny (model prog w) A (call (.builtin "re.Pattern.search") [.ref 56, .str (T ((pre ++ 46 :: ds) ++ tl)) tk]) Q E s := by
  refine call_ip4 (ends_of hd h1 ht hs) F N (K56 X) (K55 X) ?_
  have e : (((T ((pre ++ 46 :: ds) ++ tl)).cps.size : Nat) : Int) = ((((pre ++ 46 :: ds) ++ tl).length : Nat) : Int) := by simp
  rw [e]
  exact h
theorem group0_L {pre ds tl : List Nat} {tk t : Tok} {a sp : Addr} {Q : Value → Shared → Prop} (hs : ((pre ++ 46 :: ds) ++ tl).length ≤ 1000) (N : News h₀ L s.heap news)
    (ha : (a, matL pre ds tl tk sp) ∈ news) (hp : (sp, tupL pre ds) ∈ news) (h : Q (.str (T (46 :: ds)) s.toks) { s with toks := s.toks + 1 }) :
    wpAny (model prog w) A (call (.builtin "re.Match.group") [.ref a, .int 0 t]) Q E s := by
  refine call_group_T (g := 0) (b := pre.length) (e := pre.length + 1 + ds.length) (N _ ha).1 (N _ hp).1 rfl rfl hs ?_ h
  rw [List.append_assoc, List.drop_left' rfl, show pre.length + 1 + ds.length - pre.length = (46 :: ds).length by simp; omega, List.take_left' rfl]
theorem slice1_T {value slice : Expr} {c : Nat} {l : List Nat} {t ui : Tok} {Q : Value → Shared → Prop} (F : Fr h₀ L s.heap m) (N : News h₀ L s.heap news) (hl : l.length ≤ 1000)
    (h : ∀ h' t' k, Fr h₀ L h' m → News h₀ L h' news → Q (.str (T l) t') { s with heap := h', toks := k })
    (hs : subscripted slice false (.str (T (c :: l)) t) (.ref s.heap.objs.size) = operate [.ref s.heap.objs.size, .str (T (c :: l)) t] (getItem (.str (T (c :: l)) t) (.ref s.heap.objs.size)) := by with_unfolding_all rfl)
    (ht : ∀ r, letTemporaryGo value (.str (T (c :: l)) t) r = pure () := by intro _; with_unfolding_all rfl) :
    wpAny (model prog w) A (subscriptTail value slice (.str (T (c :: l)) t) (.ref s.heap.objs.size)) Q E { s with heap := s.heap.push { cls := .type "slice", data := .fields #[.int 1 ui, .none, .none] } } := by
  refine slice_strN_sn F N (fun h' t' k F' N' => ?_) hs ht (by rw [T_len, sizeLine_eq]; simp; omega)
  have e := sl_from (l := c :: l) (i := 1) (by simp)
  rw [show ((1 : Nat) : Int) = 1 from rfl] at e
  rw [e]
  exact h h' t' k F' N'
theorem cut_T {value slice : Expr} {a b : List Nat} {t ui : Tok} {j : Int} {Q : Value → Shared → Prop} (hj : j = (a.length : Int)) (F : Fr h₀ L s.heap m) (N : News h₀ L s.heap news) (hl : (a ++ b).length ≤ 1000)
    (h : ∀ h' t' k, Fr h₀ L h' m → News h₀ L h' news → Q (.str (T a) t') { s with heap := h', toks := k })
    (hs : subscripted slice false (.str (T (a ++ b)) t) (.ref s.heap.objs.size) = operate [.ref s.heap.objs.size, .str (T (a ++ b)) t] (getItem (.str (T (a ++ b)) t) (.ref s.heap.objs.size)) := by with_unfolding_all rfl)
    (ht : ∀ r, letTemporaryGo value (.str (T (a ++ b)) t) r = pure () := by intro _; with_unfolding_all rfl) :
    wpAny (model prog w) A (subscriptTail value slice (.str (T (a ++ b)) t) (.ref s.heap.objs.size)) Q E { s with heap := s.heap.push { cls := .type "slice", data := .fields #[.none, .int j ui, .none] } } := by
  subst hj
  refine slice_strN_ns F N (fun h' t' k F' N' => ?_) hs ht (by rw [T_len, sizeLine_eq]; omega)
  have e := sl_to (l := a ++ b) (j := a.length) (by simp)
  rw [e, List.take_left' rfl]
  exact h h' t' k F' N'
theorem dot_T : Str.ofString "." = T [46] := by decide +kernel
theorem add_eq {x y : Str} {a b : List Nat} {t u : Tok} {Q : Value → Shared → Prop} (hx : x = T a) (hy : y = T b) (hf : a.length + b.length ≤ 1000)
    (h : ∀ t' tk, Q (.str (T (a ++ b)) t') { s with toks := tk }) : wpAny (model prog w) A (binaryOp .Add (.str x t) (.str y u)) Q E s := by
  subst hx hy
  refine PyProof.Rows.add_str (fun t' tk => ?_) (by rw [T_len, T_len, sizeLine_eq]; omega)
  rw [T_append]
  exact h t' tk
theorem one_of : ∀ v : Fin 10, Str.ofString (toString ((v.val : Int))) = T [48 + v.val] := by decide +kernel
theorem append_any {D : Addr} {its : Array Value} {n : Nat} {x : Value} {Q : Value → Shared → Prop} (F : Fr h₀ L s.heap m) (N : News h₀ L s.heap news) (hD : (D, listOf its n) ∈ news)
    (h : ∀ h', Fr h₀ L h' m → News h₀ L h' ((D, listOf (its.push x) (n + 1)) :: news.filter (fun p => p.1 != D)) → Q .none { s with heap := h' }) (hsz : its.size ≤ sizeLine := by size_fits) :
    wpAny (model prog w) A (call (.builtin "list.append") [.ref D, x]) Q E s := by
  have z := N (D, listOf its n) hD
  refine append_at (hsz := hsz) z.1 fun h' hs ho' => h h' (F.change hs z.2.1 z.2.2) ?_
  intro p hp
  rcases List.mem_cons.mp hp with rfl | hp
  · exact ⟨ho', z.2⟩
  · have hp1 := List.mem_filter.mp hp
    have hne : p.1 ≠ D := by simpa using hp1.2
    exact ⟨(hs.2 p.1 hne).trans (N p hp1.1).1, (N p hp1.1).2⟩
end
/-- unmatched(m): what is left -/
theorem unm_L {w : World} {mean : ExcName → Option Value} {mg mb : Str → Option Value} {news : List (Addr × Obj)} {pre ds tl : List Nat} {tk : Tok} {a sp : Addr} (hs : ((pre ++ 46 :: ds) ++ tl).length ≤ 1000) :
    Claim0 w mean mg mb 51 ((a, matL pre ds tl tk sp) :: (sp, tupL pre ds) :: news) True [.ref a] (fun t => .str (T (pre ++ tl)) t) := by
  have h := unm (w := w) (mean := mean) (mg := mg) (mb := mb) (news := news) (x := (pre ++ 46 :: ds) ++ tl) (tk := tk) (a := a) (sp := sp) (p := 56) (lim := (((pre ++ 46 :: ds) ++ tl).length : Nat)) (li := -1) (b := pre.length) (e := pre.length + 1 + ds.length) (l := []) (by omega) (by simp; omega) hs
  rw [take_drop_mid] at h
  exact h
end Mine
end

section
open PySem PySem.W PyProof.Rows
namespace Mine
structure Blk where
  piece : List Nat
  tot : Nat
  cnt : Nat
/-- the head and, behind it, pieces, each behind a dot; the last comes first in the list -/
noncomputable def hostP (head : List Nat) : List (List Nat) → List Nat
  | [] => head
  | d :: ps => hostP head ps ++ 46 :: d
noncomputable def flat : List Blk → List (List Nat)
  | [] => []
  | b :: st => [48 + b.cnt] :: b.piece :: flat st
noncomputable def merge : List Nat → Nat → Nat → List Blk → List Blk
  | pc, tot, cnt, [] => [⟨pc, tot, cnt⟩]
  | pc, tot, cnt, b :: st => if b.tot * cnt < tot * b.cnt then ⟨pc, tot, cnt⟩ :: b :: st else merge (clk (tot + b.tot)) (tot + b.tot) (cnt + b.cnt) st
inductive Good : List Blk → Nat → Prop
  | nil : Good [] 0
  | cons {b : Blk} {st : List Blk} {n : Nat} (hp : Piece b.piece b.tot) (h1 : 1 ≤ b.cnt) (ht : b.tot ≤ 999 * b.cnt) (h : Good st n) : Good (b :: st) (n + b.cnt)
theorem merge_good : ∀ {st : List Blk} {n : Nat} {pc : List Nat} {tot cnt : Nat}, Good st n → Piece pc tot → 1 ≤ cnt → tot ≤ 999 * cnt → n + cnt ≤ 6 → Good (merge pc tot cnt st) (n + cnt)
  | [], _, pc, tot, cnt, .nil, hp, h1, ht, _ => by
    have := Good.cons (b := ⟨pc, tot, cnt⟩) hp h1 ht .nil
    simpa [merge] using this
  | b :: st, _, pc, tot, cnt, .cons (n := n) hp' h1' ht' g, hp, h1, ht, hn => by
    unfold merge
    split
    · exact Good.cons (b := ⟨pc, tot, cnt⟩) hp h1 ht (.cons hp' h1' ht' g)
    · have := merge_good (pc := clk (tot + b.tot)) (tot := tot + b.tot) (cnt := cnt + b.cnt) g (Piece.clk (by omega)) (by omega) (by rw [Nat.mul_add]; omega) (by omega)
      rwa [show n + (cnt + b.cnt) = n + b.cnt + cnt by omega] at this
/-- pieces of figures, four at most each -/
noncomputable def Figs (ps : List (List Nat)) : Prop := ∀ d ∈ ps, (∀ c ∈ d, 48 ≤ c ∧ c ≤ 57) ∧ 1 ≤ d.length ∧ d.length ≤ 4
theorem Good.figs : ∀ {st : List Blk} {n : Nat}, Good st n → n ≤ 6 → Figs (flat st) ∧ (flat st).length ≤ 2 * n
  | [], _, .nil, _ => ⟨fun d hd => by simp [flat] at hd, by simp [flat]⟩
  | b :: st, _, .cons (n := n) hp h1 ht g, hn => by
    obtain ⟨h2, h3⟩ := g.figs (by omega)
    refine ⟨fun d hd => ?_, by simp [flat]; omega⟩
    simp only [flat, List.mem_cons] at hd
    rcases hd with rfl | rfl | hd
    · exact ⟨by intro c hc; simp at hc; omega, by simp, by simp⟩
    · exact ⟨hp.figs, hp.len.1, hp.len.2⟩
    · exact h2 d hd
theorem hostP_len (head : List Nat) : ∀ {ps : List (List Nat)}, Figs ps → (hostP head ps).length ≤ head.length + 5 * ps.length
  | [], _ => by simp [hostP]
  | d :: ps, h => by
    have h1 := hostP_len head (ps := ps) fun e he => h e (List.mem_cons_of_mem _ he)
    have h2 := (h d (List.mem_cons_self ..)).2.2
    simp only [hostP, List.length_append, List.length_cons]
    omega
/-- the law's heads and tails -/
structure HeadTail (head tail : List Nat) : Prop where
  mem : (head ++ tail).toArray ∈ heads8
  tl : tail = [] ∨ tail = [10]
  len : head.length ≤ 5
  ne : head ≠ []
/-- the stack behind the first i clocks -/
noncomputable def stackAt (cs : List (List Nat × Nat)) (i : Nat) : List Blk := (cs.take i).foldl (fun st c => merge c.1 c.2 1 st) []
noncomputable def hostAt (head tail : List Nat) (cs : List (List Nat × Nat)) (i : Nat) : List Nat := hostP head (flat (stackAt cs i)) ++ tail
noncomputable def runHosts (head tail : List Nat) (cs : List (List Nat × Nat)) : List (List Nat) := (List.range cs.length).map (fun i => hostAt head tail cs (i + 1)) ++ [head ++ tail]
theorem stackAt_succ {cs : List (List Nat × Nat)} {i : Nat} {c : List Nat × Nat} (h : cs[i]? = some c) : stackAt cs (i + 1) = merge c.1 c.2 1 (stackAt cs i) := by
  unfold stackAt
  rw [List.take_add_one, h, Option.toList_some, List.foldl_append]
  rfl
noncomputable abbrev Cks (cks : List (List Nat × Nat)) : Prop := ∀ c ∈ cks, Piece c.1 c.2 ∧ c.2 ≤ 999
theorem stackAt_good {cs : List (List Nat × Nat)} (hc : Cks cs) (h6 : cs.length ≤ 6) : ∀ i, i ≤ cs.length → Good (stackAt cs i) i
  | 0, _ => by simpa [stackAt] using Good.nil
  | i + 1, h => by
    have g := stackAt_good hc h6 i (by omega)
    have hx : cs[i]? = some cs[i] := List.getElem?_eq_getElem (by omega)
    have hm := hc cs[i] (List.getElem_mem _)
    rw [stackAt_succ hx]
    exact merge_good g hm.1 (by omega) (by omega) (by omega)
theorem fr_list {h₀ h : Heap} {L : Addr} {m : Str → Option Value} (ps : List (Str × Value)) (F : Fr h₀ L h m) (hp : ∀ p ∈ ps, m p.1 = some p.2) : Fr h₀ L h (kstB m ps) := by
  have : kstB m ps = m := funext fun z => kstB_eq hp fun _ => rfl
  rw [this]
  exact F
theorem strs_get : ∀ {vs : List Value} {xs : List Str} {i : Nat} {v : Value}, StrsAre vs xs → vs[i]? = some v → ∃ x t, xs[i]? = some x ∧ v = .str x t := by
  intro vs xs i v h
  induction h generalizing i with
  | nil => intro h; simp at h
  | cons x t _ ih =>
    intro h
    cases i with
    | zero => simp at h; exact ⟨x, t, by simp, h.symm⟩
    | succ i => simpa using ih (by simpa using h)
end Mine
end

section
open PySem PySem.W PyProof.Rows
set_option Elab.async false
set_option maxRecDepth 100000
namespace Mine
section
variable {prog : Program} {w : World} {A : Around} {E : Value → Shared → Prop} {s : Shared} {h₀ : Heap} {L : Addr} {m : Str → Option Value} {news : List (Addr × Obj)}
theorem bits_small {b : Int} (h0 : 0 ≤ b) (h : b < 2 ^ 30) : Builtin.Int.intBits b ≤ 64 := intBits_le_64 (by omega) (by omega)
theorem mul_T {a b : Int} {t u : Tok} {Q : Value → Shared → Prop} (h0 : 0 ≤ b) (h1 : b < 2 ^ 30) (h : Q (.int (a * b) s.toks) { s with toks := s.toks + 1 }) : wpAny (model prog w) A (binaryOp .Mult (.int a t) (.int b u)) Q E s :=
  PyProof.Rows.mul_int h (IntMulOk.of_right (bits_small h0 h1))
theorem fdiv_60 {a q : Int} {t u : Tok} {Q : Value → Shared → Prop} (e : a = 60 * q) (h : Q (.int q s.toks) { s with toks := s.toks + 1 }) : wpAny (model prog w) A (binaryOp .FloorDiv (.int a t) (.int 60 u)) Q E s := by
  refine PyProof.Rows.floordiv_int (by decide) ?_
  rw [e, Int.mul_fdiv_cancel_left _ (by decide)]
  exact h
theorem fdiv_3600 {a q : Int} {t u : Tok} {Q : Value → Shared → Prop} (e : a = 3600 * q) (h : Q (.int q s.toks) { s with toks := s.toks + 1 }) : wpAny (model prog w) A (binaryOp .FloorDiv (.int a t) (.int 3600 u)) Q E s := by
  refine PyProof.Rows.floordiv_int (by decide) ?_
  rw [e, Int.mul_fdiv_cancel_left _ (by decide)]
  exact h
theorem len_T {l : List Nat} {t : Tok} {Q : Value → Shared → Prop} (hl : l.length ≤ 1000) (h : Q (.int (l.length : Int) (s.toks + 1)) { s with toks := s.toks + 1 + 1 }) : wpAny (model prog w) A (call (.builtin "len") [.str (T l) t]) Q E s := by
  refine P.len_str (by rw [T_len]; omega) ?_
  rw [T_len]
  exact h
theorem str1_T {c : Nat} {t : Tok} {Q : Value → Shared → Prop} (hc : c < 10) (h : ∀ t' k, Q (.str (T [48 + c]) t') { s with toks := k }) : wpAny (model prog w) A (call (.type "str") [.int (c : Int) t]) Q E s := by
  have e := one_of ⟨c, hc⟩
  have hl : (Int.natAbs (c : Int)).log2 < 1920 := by
    have : (Int.natAbs (c : Int)) ≤ 9 := by omega
    by_cases h0 : Int.natAbs (c : Int) = 0
    · rw [h0]; decide
    · have h5 := (Nat.log2_lt h0).mpr (show Int.natAbs (c : Int) < 2 ^ 4 by omega)
      omega
  refine P.str_of_int hl ?_
  rw [show (Str.ofString (toString ((c : Nat) : Int))) = T [48 + c] from e]
  exact h _ _
theorem lt_split {a b : Int} {t u : Tok} {Q : Value → Shared → Prop} (h1 : a < b → Q (.bool true) s) (h2 : ¬ a < b → Q (.bool false) s) : wpAny (model prog w) A (compareOp .Lt (.int a t) (.int b u)) Q E s := by
  refine PyProof.Rows.lt_int ?_
  by_cases h : a < b
  · rw [decide_eq_true h]; exact h1 h
  · rw [decide_eq_false h]; exact h2 h
end
/-- the two means compared, in seconds and in minutes -/
theorem lt_means {a b c d : Nat} : (60 * (a : Int) * (b : Int) < 60 * (c : Int) * (d : Int)) ↔ a * b < c * d := by
  rw [Int.mul_assoc, Int.mul_assoc, ← Int.natCast_mul, ← Int.natCast_mul]
  omega
end Mine
end

section
namespace Mine
/-- the sum of the sizes from a on, n of them -/
noncomputable def Sm (z : Nat → Nat) (a : Nat) : Nat → Nat
  | 0 => 0
  | n + 1 => Sm z a n + z (a + n)
theorem Sm_add (z : Nat → Nat) (a n : Nat) : ∀ k, Sm z a (n + k) = Sm z a n + Sm z (a + n) k
  | 0 => by simp [Sm]
  | k + 1 => by rw [← Nat.add_assoc, Sm, Sm_add z a n k, Sm, Nat.add_assoc, Nat.add_assoc]
/-- what a stack says of the sizes: blocks one behind the other up to e -/
inductive Stk (cl : Nat → List Nat) (z : Nat → Nat) : List Blk → Nat → Prop
  | nil : Stk cl z [] 0
  | cons {b : Blk} {st : List Blk} {a : Nat} (h : Stk cl z st a) (h1 : 1 ≤ b.cnt) (ht : b.tot = Sm z a b.cnt) (hp1 : b.cnt = 1 → b.piece = cl a) (hp2 : b.cnt ≠ 1 → b.piece = clk b.tot)
      (hpre : ∀ x, x ≤ b.cnt → b.tot * x ≤ Sm z a x * b.cnt) (hsuf : ∀ x, x ≤ b.cnt → Sm z (a + (b.cnt - x)) x * b.cnt ≤ b.tot * x)
      (hinc : ∀ c r, st = c :: r → c.tot * b.cnt < b.tot * c.cnt) : Stk cl z (b :: st) (a + b.cnt)
/-- x/n ≤ t'/c' and t'/c' ≤ t/c give x/n ≤ t/c -/
theorem le_mean {x n t c t' c' : Nat} (hc' : 0 < c') (h1 : x * c' ≤ t' * n) (h2 : t' * c ≤ t * c') : x * c ≤ t * n := by
  have h : x * c * c' ≤ t * n * c' := by
    calc x * c * c' = x * c' * c := by rw [Nat.mul_right_comm]
      _ ≤ t' * n * c := Nat.mul_le_mul_right _ h1
      _ = t' * c * n := by rw [Nat.mul_right_comm]
      _ ≤ t * c' * n := Nat.mul_le_mul_right _ h2
      _ = t * n * c' := by rw [Nat.mul_right_comm]
  exact Nat.le_of_mul_le_mul_right h hc'
theorem ge_mean {x n t c t' c' : Nat} (hc' : 0 < c') (h1 : t' * n ≤ x * c') (h2 : t * c' ≤ t' * c) : t * n ≤ x * c := by
  have h : t * n * c' ≤ x * c * c' := by
    calc t * n * c' = t * c' * n := by rw [Nat.mul_right_comm]
      _ ≤ t' * c * n := Nat.mul_le_mul_right _ h2
      _ = t' * n * c := by rw [Nat.mul_right_comm]
      _ ≤ x * c' * c := Nat.mul_le_mul_right _ h1
      _ = x * c * c' := by rw [Nat.mul_right_comm]
  exact Nat.le_of_mul_le_mul_right h hc'
theorem pre_far {t n U N s y : Nat} (hge : t * N ≤ U * n) (hs : t * y ≤ s * n) (hy : y ≤ n) (hn : 0 < n) : (t + U) * (N + y) ≤ (U + s) * (n + N) := by
  obtain ⟨d, rfl⟩ := Nat.exists_eq_add_of_le hy
  have h1 := Nat.mul_le_mul_right d hge
  have h2 := Nat.mul_le_mul_right N hs
  have h3 := Nat.mul_le_mul_right (y + d) hs
  have h : (t + U) * (N + y) * (y + d) ≤ (U + s) * (y + d + N) * (y + d) := by
    simp only [Nat.mul_add, Nat.add_mul, Nat.mul_assoc, Nat.mul_comm, Nat.mul_left_comm] at *
    omega
  exact Nat.le_of_mul_le_mul_right h hn
theorem suf_far {t n U N u y : Nat} (hge : t * N ≤ U * n) (hu : u * N ≤ U * y) (hy : y ≤ N) (hN : 0 < N) : (u + t) * (n + N) ≤ (t + U) * (n + y) := by
  obtain ⟨d, rfl⟩ := Nat.exists_eq_add_of_le hy
  have h1 := Nat.mul_le_mul_right d hge
  have h2 := Nat.mul_le_mul_right n hu
  have h3 := Nat.mul_le_mul_right (y + d) hu
  have h : (u + t) * (n + (y + d)) * (y + d) ≤ (t + U) * (n + y) * (y + d) := by
    simp only [Nat.mul_add, Nat.add_mul, Nat.mul_assoc, Nat.mul_comm, Nat.mul_left_comm] at *
    omega
  exact Nat.le_of_mul_le_mul_right h hN
/-- the new block merged into the stack keeps it well -/
theorem merge_stk {cl : Nat → List Nat} {z : Nat → Nat} : ∀ {st : List Blk} {a : Nat} {pc : List Nat} {tot cnt : Nat}, Stk cl z st a → 1 ≤ cnt → tot = Sm z a cnt → (cnt = 1 → pc = cl a) → (cnt ≠ 1 → pc = clk tot) →
    (∀ x, x ≤ cnt → tot * x ≤ Sm z a x * cnt) → (∀ x, x ≤ cnt → Sm z (a + (cnt - x)) x * cnt ≤ tot * x) → Stk cl z (merge pc tot cnt st) (a + cnt)
  | [], _, pc, tot, cnt, .nil, h1, ht, hp1, hp2, hpre, hsuf => by
    have := Stk.cons (b := ⟨pc, tot, cnt⟩) (Stk.nil (cl := cl) (z := z)) h1 ht hp1 hp2 hpre hsuf (fun c r e => by cases e)
    simpa [merge] using this
  | b :: st, _, pc, tot, cnt, .cons (a := a) g g1 gt gp1 gp2 gpre gsuf ginc, h1, ht, hp1, hp2, hpre, hsuf => by
    unfold merge
    by_cases hlt : b.tot * cnt < tot * b.cnt
    · rw [if_pos hlt]
      exact Stk.cons (b := ⟨pc, tot, cnt⟩) (.cons g g1 gt gp1 gp2 gpre gsuf ginc) h1 ht hp1 hp2 hpre hsuf (fun c r e => by cases e; exact hlt)
    · rw [if_neg hlt]
      have hge : tot * b.cnt ≤ b.tot * cnt := Nat.le_of_not_lt hlt
      have e0 : Sm z a (b.cnt + cnt) = b.tot + tot := by rw [Sm_add, ← gt, ← ht]
      have key := merge_stk (pc := clk (tot + b.tot)) (tot := tot + b.tot) (cnt := cnt + b.cnt) g (by omega) (by rw [Nat.add_comm cnt, e0, Nat.add_comm]) (fun e => by omega) (fun _ => rfl) ?_ ?_
      · rwa [show a + (cnt + b.cnt) = a + b.cnt + cnt by omega] at key
      · intro x hx
        by_cases hxb : x ≤ b.cnt
        · have h3 := gpre x hxb
          -- (tot + b.tot) * x ≤ Sm a x * (cnt + b.cnt)
          refine ge_mean (c' := b.cnt) (t' := b.tot) (by omega) h3 ?_
          simp only [Nat.mul_add, Nat.add_mul]
          omega
        · obtain ⟨y, rfl⟩ := Nat.exists_eq_add_of_le (Nat.le_of_lt (Nat.lt_of_not_le hxb))
          rw [Sm_add, ← gt]
          exact pre_far hge (hpre y (by omega)) (by omega) (by omega)
      · intro x hx
        by_cases hxn : x ≤ cnt
        · have h3 := hsuf x hxn
          rw [show a + (cnt + b.cnt - x) = a + b.cnt + (cnt - x) by omega]
          refine le_mean (c' := cnt) (t' := tot) (by omega) h3 ?_
          simp only [Nat.mul_add, Nat.add_mul]
          omega
        · obtain ⟨y, rfl⟩ := Nat.exists_eq_add_of_le (Nat.le_of_lt (Nat.lt_of_not_le hxn))
          have h3 := gsuf y (by omega)
          rw [show a + (cnt + b.cnt - (cnt + y)) = a + (b.cnt - y) by omega, Nat.add_comm cnt y, Sm_add, show a + (b.cnt - y) + y = a + b.cnt by omega, ← ht, Nat.add_comm y cnt]
          exact suf_far hge h3 (by omega) (by omega)
end Mine
end

section
namespace Mine
theorem stackAt_stk {cs : List (List Nat × Nat)} {cl : Nat → List Nat} {z : Nat → Nat} (hc : ∀ i c, cs[i]? = some c → cl i = c.1 ∧ z i = c.2) : ∀ i, i ≤ cs.length → Stk cl z (stackAt cs i) i
  | 0, _ => by simpa [stackAt] using Stk.nil
  | i + 1, h => by
    have g := stackAt_stk hc i (by omega)
    have hx : cs[i]? = some cs[i] := List.getElem?_eq_getElem (by omega)
    obtain ⟨h1, h2⟩ := hc i _ hx
    rw [stackAt_succ hx]
    refine merge_stk g (by omega) (by simp [Sm, h2]) (fun _ => h1.symm) (fun e => absurd rfl e) ?_ ?_
    · intro x hx'
      have : x = 0 ∨ x = 1 := by omega
      rcases this with rfl | rfl <;> simp [Sm, h2]
    · intro x hx'
      have : x = 0 ∨ x = 1 := by omega
      rcases this with rfl | rfl <;> simp [Sm, h2]
/-- the block at place k, with its first place -/
noncomputable def look : List Blk → Nat → Nat → Nat × Blk
  | [], _, _ => (0, ⟨[], 0, 1⟩)
  | b :: st, e, k => if e - b.cnt ≤ k then (e - b.cnt, b) else look st (e - b.cnt) k
theorem suf_all {cl : Nat → List Nat} {z : Nat → Nat} : ∀ {st : List Blk} {b : Blk} {e : Nat}, Stk cl z (b :: st) e → ∀ j, j ≤ e → Sm z j (e - j) * b.cnt ≤ b.tot * (e - j)
  | st, b, _, .cons (a := a) g g1 gt gp1 gp2 gpre gsuf ginc, j, hj => by
    by_cases hja : a ≤ j
    · have h := gsuf (a + b.cnt - j) (by omega)
      rwa [show a + (b.cnt - (a + b.cnt - j)) = j by omega] at h
    · cases st with
      | nil => cases g; omega
      | cons c r =>
        have ih := suf_all g j (by omega)
        have hi := ginc c r rfl
        have hc1 : 0 < c.cnt := by cases g; omega
        have h := le_mean (x := Sm z j (a - j)) (n := a - j) (t := b.tot) (c := b.cnt) hc1 ih (Nat.le_of_lt hi)
        have e1 : Sm z j (a + b.cnt - j) = Sm z j (a - j) + b.tot := by
          rw [show a + b.cnt - j = (a - j) + b.cnt by omega, Sm_add, show j + (a - j) = a by omega, ← gt]
        rw [e1, show a + b.cnt - j = (a - j) + b.cnt by omega, Nat.add_mul, Nat.mul_add]
        omega
structure At (z : Nat → Nat) (e k a : Nat) (b : Blk) : Prop where
  lo : a ≤ k
  hi : k < a + b.cnt
  fit : a + b.cnt ≤ e
  one : 1 ≤ b.cnt
  tot : b.tot = Sm z a b.cnt
  up : ∀ q, k ≤ q → q < e → b.tot * (q + 1 - a) ≤ Sm z a (q + 1 - a) * b.cnt
  dn : ∀ j, j ≤ k → ∃ q, k ≤ q ∧ q < e ∧ Sm z j (q + 1 - j) * b.cnt ≤ b.tot * (q + 1 - j)
theorem look_at {cl : Nat → List Nat} {z : Nat → Nat} : ∀ {st : List Blk} {e : Nat}, Stk cl z st e → ∀ k, k < e → At z e k (look st e k).1 (look st e k).2 ∧
    (∀ b r, st = b :: r → (look st e k).2.tot * b.cnt ≤ b.tot * (look st e k).2.cnt ∧ (k < e - b.cnt → (look st e k).2.tot * b.cnt < b.tot * (look st e k).2.cnt))
  | [], _, .nil, k, hk => by omega
  | b :: st, _, .cons (a := a) g g1 gt gp1 gp2 gpre gsuf ginc, k, hk => by
    have hwhole : Stk cl z (b :: st) (a + b.cnt) := .cons g g1 gt gp1 gp2 gpre gsuf ginc
    have hab : a + b.cnt - b.cnt = a := by omega
    by_cases hka : a ≤ k
    · have el : look (b :: st) (a + b.cnt) k = (a, b) := by simp [look, hab, hka]
      rw [el]
      refine ⟨⟨hka, hk, Nat.le_refl _, g1, gt, fun q h1 h2 => ?_, fun j hj => ⟨a + b.cnt - 1, by omega, by omega, ?_⟩⟩, ?_⟩
      · exact gpre _ (by omega)
      · have := suf_all hwhole j (by omega)
        rwa [show a + b.cnt - 1 + 1 - j = a + b.cnt - j by omega]
      · intro b' r e
        cases e
        exact ⟨Nat.le_refl _, fun h => by omega⟩
    · have el : look (b :: st) (a + b.cnt) k = look st a k := by simp [look, hab, hka]
      rw [el]
      obtain ⟨A, hm⟩ := look_at g k (by omega)
      cases st with
      | nil => cases g; omega
      | cons c r =>
        have hi := ginc c r rfl
        have hc1 : 0 < c.cnt := by cases g; omega
        have hmc := (hm c r rfl).1
        -- the block's mean is below the top's
        have hlt : (look (c :: r) a k).2.tot * b.cnt < b.tot * (look (c :: r) a k).2.cnt := by
          have h1 : (look (c :: r) a k).2.tot * b.cnt * c.cnt < b.tot * (look (c :: r) a k).2.cnt * c.cnt := by
            calc (look (c :: r) a k).2.tot * b.cnt * c.cnt = (look (c :: r) a k).2.tot * c.cnt * b.cnt := by rw [Nat.mul_right_comm]
              _ ≤ c.tot * (look (c :: r) a k).2.cnt * b.cnt := Nat.mul_le_mul_right _ hmc
              _ = c.tot * b.cnt * (look (c :: r) a k).2.cnt := by rw [Nat.mul_right_comm]
              _ < b.tot * c.cnt * (look (c :: r) a k).2.cnt := Nat.mul_lt_mul_of_pos_right hi (by have := A.one; omega)
              _ = b.tot * (look (c :: r) a k).2.cnt * c.cnt := by rw [Nat.mul_right_comm]
          exact Nat.lt_of_mul_lt_mul_right h1
        refine ⟨⟨A.lo, A.hi, by have := A.fit; omega, A.one, A.tot, fun q h1 h2 => ?_, fun j hj => ?_⟩, ?_⟩
        · by_cases hqa : q < a
          · exact A.up q h1 hqa
          · have h3 := A.up (a - 1) (by have := A.hi; have := A.fit; omega) (by omega)
            have hs := A.fit
            have h4 := gpre (q + 1 - a) (by omega)
            have h5 : (look (c :: r) a k).2.tot * (q + 1 - a) ≤ Sm z a (q + 1 - a) * (look (c :: r) a k).2.cnt := ge_mean (by omega) h4 (Nat.le_of_lt hlt)
            have hlo := A.lo
            rw [show a - 1 + 1 - (look (c :: r) a k).1 = a - (look (c :: r) a k).1 by omega] at h3
            rw [show q + 1 - (look (c :: r) a k).1 = (a - (look (c :: r) a k).1) + (q + 1 - a) by omega, Sm_add, show (look (c :: r) a k).1 + (a - (look (c :: r) a k).1) = a by omega, Nat.mul_add, Nat.add_mul]
            omega
        · obtain ⟨q, h1, h2, h3⟩ := A.dn j hj
          exact ⟨q, h1, by omega, h3⟩
        · intro b' r' e
          cases e
          exact ⟨Nat.le_of_lt hlt, fun _ => hlt⟩
end Mine
end

section
namespace Mine
theorem scale {s t n c : Nat} (hn : 1 ≤ n) (hn6 : n ≤ 6) (hc : 1 ≤ c) (hc6 : c ≤ 6) : s * c ≤ t * n ↔ s * (60 / n) ≤ t * (60 / c) := by
  have h1 : n = 1 ∨ n = 2 ∨ n = 3 ∨ n = 4 ∨ n = 5 ∨ n = 6 := by omega
  have h2 : c = 1 ∨ c = 2 ∨ c = 3 ∨ c = 4 ∨ c = 5 ∨ c = 6 := by omega
  rcases h1 with rfl | rfl | rfl | rfl | rfl | rfl <;> rcases h2 with rfl | rfl | rfl | rfl | rfl | rfl <;> omega
/-- sixty times the mean of the sizes from j to q -/
noncomputable def Tb (z : Nat → Nat) (j q : Nat) : Nat := Sm z j (q + 1 - j) * (60 / (q + 1 - j))
/-- Brunk's formula at place k, of the places below e -/
noncomputable def IsFit (z : Nat → Nat) (e k : Nat) (f : Nat) : Prop :=
  (∃ j, j ≤ k ∧ ∀ q, k ≤ q → q < e → f ≤ Tb z j q) ∧ (∀ j, j ≤ k → ∃ q, k ≤ q ∧ q < e ∧ Tb z j q ≤ f)
theorem fit_val {z : Nat → Nat} {e k f a : Nat} {b : Blk} (h : IsFit z e k f) (A : At z e k a b) (he : e ≤ 6) : f = b.tot * (60 / b.cnt) := by
  have hb1 := A.one
  have hb2 := A.fit
  refine Nat.le_antisymm ?_ ?_
  · obtain ⟨⟨j, hj, h1⟩, _⟩ := h
    obtain ⟨q, hq1, hq2, h3⟩ := A.dn j hj
    exact Nat.le_trans (h1 q hq1 hq2) ((scale (by omega) (by omega) (by omega) (by omega)).mp h3)
  · obtain ⟨_, h2⟩ := h
    obtain ⟨q, hq1, hq2, h3⟩ := h2 a A.lo
    have hlo := A.lo
    exact Nat.le_trans ((scale (by omega) (by omega) (by omega) (by omega)).mp (A.up q hq1 hq2)) h3
/-- the value at place k -/
noncomputable def val (st : List Blk) (e k : Nat) : Nat := (look st e k).2.tot * (60 / (look st e k).2.cnt)
theorem fits_val {cl : Nat → List Nat} {z : Nat → Nat} {st : List Blk} {e k f : Nat} (g : Stk cl z st e) (he : e ≤ 6) (hk : k < e) (h : IsFit z e k f) : f = val st e k :=
  fit_val h (look_at g k hk).1 he
theorem val_below {b : Blk} {st : List Blk} {e k : Nat} (h : k < e - b.cnt) : val (b :: st) e k = val st (e - b.cnt) k := by
  unfold val
  rw [look, if_neg (by omega)]
theorem val_top {b : Blk} {st : List Blk} {e k : Nat} (h : e - b.cnt ≤ k) : val (b :: st) e k = b.tot * (60 / b.cnt) := by
  unfold val
  rw [look, if_pos h]
theorem val_lt {cl : Nat → List Nat} {z : Nat → Nat} {b : Blk} {st : List Blk} {e k : Nat} (g : Stk cl z (b :: st) e) (he : e ≤ 6) (h : k < e - b.cnt) : val (b :: st) e k < b.tot * (60 / b.cnt) := by
  obtain ⟨A, hm⟩ := look_at g k (by omega)
  have h1 := (hm b st rfl).2 h
  have hb1 := A.one
  have hb2 := A.fit
  have hb3 := A.lo
  have hc : 1 ≤ b.cnt ∧ b.cnt ≤ 6 := by cases g; omega
  unfold val
  refine Nat.lt_of_not_le fun hle => ?_
  have := (scale (s := b.tot) (t := (look (b :: st) e k).2.tot) (n := b.cnt) (c := (look (b :: st) e k).2.cnt) hc.1 hc.2 (by omega) (by omega)).mpr hle
  omega
end Mine
end

section
namespace Mine
noncomputable def toldStep (f cn : Nat → Nat) (pcf : Nat → Nat → List Nat) (host : List Nat) (i : Nat) : List Nat :=
  if i = 0 ∨ f i ≠ f (i - 1) then (((host ++ [46]) ++ pcf i (cn i)) ++ [46]) ++ [48 + cn i] else host
noncomputable def toldHost (head : List Nat) (f cn : Nat → Nat) (pcf : Nat → Nat → List Nat) (e : Nat) : List Nat := (List.range e).foldl (toldStep f cn pcf) head
noncomputable def pcOf (cl : Nat → List Nat) (z : Nat → Nat) (i c : Nat) : List Nat := if c = 1 then cl i else clk (Sm z i c)
theorem told_host {cl : Nat → List Nat} {z : Nat → Nat} {f cn : Nat → Nat} {head : List Nat} : ∀ {st : List Blk} {e : Nat}, Stk cl z st e → e ≤ 6 → (∀ i, i < e → f i = val st e i) → (∀ i, i < e → cn i = (look st e i).2.cnt) →
    toldHost head f cn (pcOf cl z) e = hostP head (flat st)
  | [], _, .nil, _, _, _ => rfl
  | b :: st, _, .cons (a := a) g g1 gt gp1 gp2 gpre gsuf ginc, he, hf, hcn => by
    have hw : Stk cl z (b :: st) (a + b.cnt) := .cons g g1 gt gp1 gp2 gpre gsuf ginc
    have hab : a + b.cnt - b.cnt = a := by omega
    have ih := told_host (f := f) (cn := cn) (head := head) g (by omega) (fun i hi => by rw [hf i (by omega), val_below (by omega), hab]) (fun i hi => by rw [hcn i (by omega), look, if_neg (by omega), hab])
    have htop : ∀ i, a ≤ i → i < a + b.cnt → f i = b.tot * (60 / b.cnt) := fun i h1 h2 => by rw [hf i h2, val_top (by omega)]
    have hct : ∀ i, a ≤ i → i < a + b.cnt → cn i = b.cnt := fun i h1 h2 => by rw [hcn i h2, look, if_pos (by omega)]
    unfold toldHost at ih ⊢
    rw [List.range_add, List.foldl_append, ih]
    -- the block's own places
    obtain ⟨n, hn⟩ : ∃ n, b.cnt = n + 1 := ⟨b.cnt - 1, by omega⟩
    have key : ∀ m, m ≤ n → ((List.range (m + 1)).map (a + ·)).foldl (toldStep f cn (pcOf cl z)) (hostP head (flat st)) = hostP head (flat (b :: st)) := by
      intro m
      induction m with
      | zero =>
        intro _
        have hcond : a = 0 ∨ f a ≠ f (a - 1) := by
          by_cases h0 : a = 0
          · exact .inl h0
          · right
            have h1 := val_lt (k := a - 1) hw he (by omega)
            rw [htop a (Nat.le_refl _) (by omega), hf (a - 1) (by omega)]
            omega
        have hpc : pcOf cl z a b.cnt = b.piece := by
          unfold pcOf
          split
          · rename_i h; exact (gp1 h).symm
          · rename_i h; rw [gp2 h, gt]
        simp only [List.range_succ, List.range_zero, List.nil_append, List.map_cons, List.map_nil, Nat.add_zero, List.foldl_cons, List.foldl_nil]
        unfold toldStep
        rw [if_pos hcond, hct a (Nat.le_refl _) (by omega), hpc]
        simp [flat, hostP]
      | succ m ihm =>
        intro hm
        rw [List.range_succ, List.map_append, List.foldl_append, ihm (by omega)]
        simp only [List.map_cons, List.map_nil, List.foldl_cons, List.foldl_nil]
        unfold toldStep
        rw [if_neg]
        rw [htop (a + (m + 1)) (by omega) (by omega), htop (a + (m + 1) - 1) (by omega) (by omega)]
        omega
    rw [hn]
    exact key n (Nat.le_refl _)
theorem count_val {cl : Nat → List Nat} {z : Nat → Nat} : ∀ {st : List Blk} {e : Nat}, Stk cl z st e → e ≤ 6 → ∀ (f : Nat → Nat), (∀ i, i < e → f i = val st e i) → ∀ i, i < e → ((List.range e).map f).count (f i) = (look st e i).2.cnt
  | [], _, .nil, _, _, _, i, hi => by omega
  | b :: st, _, .cons (a := a) g g1 gt gp1 gp2 gpre gsuf ginc, he, f, hf, i, hi => by
    have hw : Stk cl z (b :: st) (a + b.cnt) := .cons g g1 gt gp1 gp2 gpre gsuf ginc
    have hab : a + b.cnt - b.cnt = a := by omega
    have htop : ∀ i, a ≤ i → i < a + b.cnt → f i = b.tot * (60 / b.cnt) := fun i h1 h2 => by rw [hf i h2, val_top (by omega)]
    have hlow : ∀ k, k < a → f k < b.tot * (60 / b.cnt) := fun k hk => by rw [hf k (by omega)]; exact val_lt hw he (by omega)
    rw [List.range_add, List.map_append, List.count_append]
    by_cases hia : a ≤ i
    · rw [look, if_pos (by omega)]
      have e1 : ((List.range a).map f).count (f i) = 0 := by
        rw [List.count_eq_zero]
        intro hm
        obtain ⟨k, hk, e⟩ := List.mem_map.mp hm
        have := hlow k (List.mem_range.mp hk)
        rw [htop i hia hi] at e
        omega
      have e2 : (((List.range b.cnt).map (a + ·)).map f).count (f i) = b.cnt := by
        have : ((List.range b.cnt).map (a + ·)).map f = List.replicate b.cnt (f i) := by
          rw [List.map_map, List.eq_replicate_iff]
          refine ⟨by simp, fun y hy => ?_⟩
          obtain ⟨k, hk, e⟩ := List.mem_map.mp hy
          have hk' := List.mem_range.mp hk
          rw [← e, Function.comp, htop (a + k) (by omega) (by omega), htop i hia hi]
        rw [this, List.count_replicate_self]
      rw [e1, e2]
      show 0 + b.cnt = b.cnt
      omega
    · rw [look, if_neg (by omega), hab]
      have e2 : (((List.range b.cnt).map (a + ·)).map f).count (f i) = 0 := by
        rw [List.count_eq_zero]
        intro hm
        rw [List.map_map] at hm
        obtain ⟨k, hk, e⟩ := List.mem_map.mp hm
        have hk' := List.mem_range.mp hk
        have h1 := hlow i (by omega)
        rw [Function.comp, htop (a + k) (by omega) (by omega)] at e
        omega
      rw [e2, count_val g (by omega) f (fun k hk => by rw [hf k (by omega), val_below (by omega), hab]) i (by omega)]
      rfl
end Mine
end

section
namespace Mine
theorem look_same {cl : Nat → List Nat} {z : Nat → Nat} : ∀ {st : List Blk} {e : Nat}, Stk cl z st e → ∀ k k', k < e → (look st e k).1 ≤ k' → k' < (look st e k).1 + (look st e k).2.cnt → look st e k' = look st e k
  | [], _, .nil, k, k', h, _, _ => by omega
  | b :: st, _, .cons (a := a) g g1 gt gp1 gp2 gpre gsuf ginc, k, k', h, h1, h2 => by
    have hab : a + b.cnt - b.cnt = a := by omega
    by_cases hka : a ≤ k
    · have el : look (b :: st) (a + b.cnt) k = (a, b) := by simp [look, hab, hka]
      rw [el] at h1 h2 ⊢
      have h1' : a ≤ k' := h1
      simp [look, hab, h1']
    · have el : look (b :: st) (a + b.cnt) k = look st a k := by simp [look, hab, hka]
      rw [el] at h1 h2 ⊢
      have hf := (look_at g k (by omega)).1.fit
      have hk' : ¬ a ≤ k' := by omega
      have el' : look (b :: st) (a + b.cnt) k' = look st a k' := by simp [look, hab, hk']
      rw [el']
      exact look_same g k k' (by omega) h1 h2
theorem start_fit {cl : Nat → List Nat} {z : Nat → Nat} {st : List Blk} {e : Nat} {f : Nat → Nat} (g : Stk cl z st e) (hf : ∀ i, i < e → f i = val st e i) {i : Nat} (hi : i < e) (h : i = 0 ∨ f i ≠ f (i - 1)) :
    i + (look st e i).2.cnt ≤ e := by
  have A := (look_at g i hi).1
  have hlo := A.lo
  have hhi := A.hi
  have hfit := A.fit
  by_cases ha : (look st e i).1 = i
  · omega
  · have e1 := look_same g i (i - 1) hi (by omega) (by omega)
    have : f i = f (i - 1) := by
      rw [hf i hi, hf (i - 1) (by omega)]
      unfold val
      rw [e1]
    omega
theorem count_cast {f : Nat → Nat} {x : Nat} : ∀ l : List Nat, (l.map fun i => ((f i : Nat) : Int)).count ((x : Nat) : Int) = (l.map f).count x
  | [] => rfl
  | a :: l => by
    rw [List.map_cons, List.map_cons, List.count_cons, List.count_cons, count_cast l]
    congr 1
    by_cases h : f a = x
    · simp [h]
    · have : ¬ ((f a : Nat) : Int) = ((x : Nat) : Int) := by omega
      simp [h, this]
theorem Sm_le {z : Nat → Nat} (h : ∀ i, z i ≤ 999) (a : Nat) : ∀ n, Sm z a n ≤ 999 * n
  | 0 => by simp [Sm]
  | n + 1 => by
    have := Sm_le h a n
    have := h (a + n)
    rw [Sm]
    omega
noncomputable def clOf (cks : List (List Nat × Nat)) (i : Nat) : List Nat := ((cks[i]?).map (·.1)).getD []
theorem clOf_len {cks : List (List Nat × Nat)} (hc : Cks cks) (i : Nat) : (clOf cks i).length ≤ 4 := by
  unfold clOf
  cases h : cks[i]? with
  | none => simp
  | some c => exact (hc c (List.mem_of_getElem? h)).1.len.2
theorem told_len {head : List Nat} {f cn : Nat → Nat} {pcf : Nat → Nat → List Nat} (h : ∀ i, (pcf i (cn i)).length ≤ 4) : ∀ n, ((List.range n).foldl (toldStep f cn pcf) head).length ≤ head.length + 7 * n
  | 0 => by simp
  | n + 1 => by
    have ih := told_len (head := head) (f := f) (cn := cn) (pcf := pcf) h n
    rw [List.range_succ, List.foldl_append, List.foldl_cons, List.foldl_nil]
    generalize (List.range n).foldl _ head = X at ih ⊢
    unfold toldStep
    split
    · have := h n
      simp only [List.length_append, List.length_cons, List.length_nil]
      omega
    · omega
theorem told_all {cks : List (List Nat × Nat)} (hc : Cks cks) (h6 : cks.length = 6) {z : Nat → Nat} (hz : ∀ i c, cks[i]? = some c → z i = c.2) (hz9 : ∀ i, z i ≤ 999) {e : Nat} (he : e ≤ 6) {f : Nat → Nat} (hf : ∀ i, i < e → IsFit z e i (f i)) (head : List Nat) :
    ∃ (H : Nat → List Nat) (c : Nat → Nat), H 0 = head ∧ H e = hostP head (flat (stackAt cks e)) ∧ (∀ i, (H i).length ≤ head.length + 7 * i) ∧
      (∀ i, i < e → ((List.range e).map fun i => ((f i : Nat) : Int)).count ((f i : Nat) : Int) = c i ∧ 1 ≤ c i ∧ c i ≤ 6 ∧ Sm z i (c i) ≤ 5994 ∧ (i = 0 ∨ f i ≠ f (i - 1) → i + c i ≤ e)) ∧
      (∀ i, i < e → (i = 0 ∨ f i ≠ f (i - 1)) → H (i + 1) = (((H i ++ [46]) ++ (if c i = 1 then clOf cks i else clk (Sm z i (c i)))) ++ [46]) ++ [48 + c i]) ∧
      (∀ i, i < e → ¬ (i = 0 ∨ f i ≠ f (i - 1)) → H (i + 1) = H i) := by
  have g : Stk (clOf cks) z (stackAt cks e) e := stackAt_stk (fun i c h => ⟨by unfold clOf; rw [h]; rfl, hz i c h⟩) e (by omega)
  have hv : ∀ i, i < e → f i = val (stackAt cks e) e i := fun i hi => fits_val g he hi (hf i hi)
  have hcn : ∀ i, i < e → ((List.range e).map f).count (f i) = (look (stackAt cks e) e i).2.cnt := fun i hi => count_val g he f hv i hi
  have hst : ∀ i, (List.range (i + 1)).foldl (toldStep f (fun i => ((List.range e).map f).count (f i)) (pcOf (clOf cks) z)) head = toldStep f (fun i => ((List.range e).map f).count (f i)) (pcOf (clOf cks) z) ((List.range i).foldl (toldStep f (fun i => ((List.range e).map f).count (f i)) (pcOf (clOf cks) z)) head) i := by
    intro i
    rw [List.range_succ, List.foldl_append, List.foldl_cons, List.foldl_nil]
  refine ⟨fun i => (List.range i).foldl (toldStep f (fun i => ((List.range e).map f).count (f i)) (pcOf (clOf cks) z)) head, fun i => ((List.range e).map f).count (f i), rfl, ?_, ?_, ?_, ?_, ?_⟩
  · exact told_host g he hv hcn
  · refine told_len fun i => ?_
    unfold pcOf
    split
    · exact clOf_len hc i
    · simp [clk]
  · intro i hi
    have A := (look_at g i hi).1
    have h1 := A.one
    have h2 := A.fit
    refine ⟨count_cast _, ?_, ?_, ?_, ?_⟩
    · dsimp only; rw [hcn i hi]; exact h1
    · dsimp only; rw [hcn i hi]; omega
    · dsimp only
      rw [hcn i hi]
      have := Sm_le hz9 i (look (stackAt cks e) e i).2.cnt
      omega
    · intro h
      dsimp only
      rw [hcn i hi]
      exact start_fit g hv hi h
  · intro i hi h
    dsimp only
    rw [hst i]
    generalize (List.range i).foldl _ head = X
    unfold toldStep
    rw [if_pos h]
    rfl
  · intro i hi h
    dsimp only
    rw [hst i]
    generalize (List.range i).foldl _ head = X
    unfold toldStep
    rw [if_neg h]
end Mine
end

section
open PySem PySem.W PyProof.Rows
set_option Elab.async false
set_option maxRecDepth 100000
set_option maxHeartbeats 8000000
namespace Mine
theorem len_T3 {a b c : List Nat} (h : (a ++ b ++ c).length ≤ 1000) : a.length ≤ 1000 := by simp at h; omega
local macro_rules | `(tactic| walk_at "binaryOp Add str str") => `(tactic| (k_here; k_dflt (refine' add_eq ?hx ?hy ?hf ?_; (case hx => first | exact dot_T | exact rfl); (case hy => first | exact dot_T | exact rfl); (case hf => first | assumption | ((try simp only [List.length_append, List.length_cons, List.length_nil]); omega)); k_whole; intro t' tk')))
local macro_rules | `(tactic| walk_at "getMethod ref") => `(tactic| (k_here; k_dflt (first
  | (refine' getm slot_search plain_pat type_search ?ho ?hc ?hd ?_; (case ho => exact K56 (by k_in)); (case hc => exact rfl); (case hd => exact rfl); k_whole)
  | (refine' getm slot_group plain_mat type_group ?ho ?hc ?hd ?_; (case ho => exact News.get (by k_asm) (by k_mem)); (case hc => exact rfl); (case hd => exact rfl); k_whole))))
local macro_rules | `(tactic| walk_at "call builtin:re.Pattern.search") => `(tactic| (k_here; k_dflt (refine' search_L ?X ?hd ?h1 ?ht ?hs ?F ?N ?_; (case X => k_in); (case hd => first | assumption); (case h1 => first | assumption); (case ht => assumption); (case hs => first | assumption); (case F => k_asm); (case N => k_asm); k_whole; intro a' t' h' F' N' l1 l2)))
local macro_rules | `(tactic| walk_at "call builtin:re.Match.group") => `(tactic| (k_here; k_dflt (refine' group0_L ?hs ?N ?ha ?hp ?_; (case N => k_asm); (case ha => k_mem); (case hp => k_mem); (case hs => first | assumption); k_whole)))
noncomputable def Halt (P : Prop) : Prop := P
theorem halt {P : Prop} (h : Halt P) : P := h
local macro_rules | `(tactic| walk_at "exec While") => `(tactic| (refine halt ?_))
local macro_rules | `(tactic| walk_at "exec While UnaryOp cons nil") => `(tactic| (refine halt ?_))
local macro_rules | `(tactic| walk_at "exec While BoolOp cons nil") => `(tactic| (refine halt ?_))
local macro_rules | `(tactic| walk_at "call ref") => `(tactic| (k_here; k_dflt (refine' claim_use ?C ?P ?B ?F ?X ?N ?Tt ?hk ?hd ?hu ?_; (case B => k_asm); (case F => k_asm); (case X => k_asm); (case N => k_asm); (case Tt => k_asm); (case hk => exact rfl); (case C => first | exact off_piece (by assumption) | exact off1 (by assumption) | exact hdn_yes (by assumption) | exact hdn_no (ends_of (by assumption) (by assumption) (by assumption) (by assumption)) | exact unm_L (by assumption) | exact clock (by omega) (by omega)); (case P => trivial); (case hd => first | ktr_room | omega); (case hu => first | ktr_units | omega); k_whole; (intro t9 h9 tk9 F9 N9; try dsimp only))))
local macro_rules | `(tactic| walk_at "subscriptTail Call") => `(tactic| (k_here; (with_reducible show wpAny _ _ (subscriptTail _ (Expr.Slice (some _) none none _) (Value.str (T (_ :: _)) _) (Value.ref _)) _ _ _); (refine' slice1_T (hl := ?hl) (s := ⟨_, _, _, _, _⟩) (by assumption) (by assumption) ?_); (case hl => first | assumption | (simp only [List.length_cons, List.length_nil] at *; omega)); intro _ _ _ _ _))
local macro_rules | `(tactic| walk_at "binaryOp FloorDiv int int") => `(tactic| (k_here; k_dflt (first
  | ((with_reducible show wpAny _ _ (binaryOp _ (Value.int (3600 * _) _) _) _ _ _); refine' fdiv_3600 ?e ?_; (case e => exact rfl); k_whole)
  | ((with_reducible show wpAny _ _ (binaryOp _ (Value.int (60 * _ + 60 * _) _) _) _ _ _); refine' fdiv_60 ?e ?_; (case e => exact (Int.mul_add _ _ _).symm); k_whole))))
local macro_rules | `(tactic| walk_at "binaryOp Mult int int") => `(tactic| (k_here; k_dflt (refine' mul_T ?a ?b ?_; (case a => omega); (case b => omega); k_whole)))
local macro_rules | `(tactic| walk_at "call builtin:len") => `(tactic| (k_here; k_dflt (refine' len_T ?a ?_; (case a => first | assumption | ((simp only [List.length_append, List.length_cons, List.length_nil]); omega)); k_whole)))
local macro_rules | `(tactic| walk_at "subscriptTail Name Slice str ref") => `(tactic| (k_here; (with_reducible show wpAny _ _ (subscriptTail _ (Expr.Slice none (some _) none _) (Value.str (T (_ ++ _)) _) _) _ _ _); (refine' cut_T (hj := ?hj) (hl := ?hl) (s := ⟨_, _, _, _, _⟩) (F := ?F) (N := ?N) ?_); (case F => assumption); (case N => assumption); (case hl => first | assumption | ((simp only [List.length_append, List.length_cons, List.length_nil]); omega)); (case hj => first | ((simp only [List.length_append, List.length_cons, List.length_nil]); omega)); intro _ _ _ _ _))
local macro_rules | `(tactic| walk_at "call type:str") => `(tactic| (k_here; k_dflt (refine' str1_T ?a ?_; (case a => omega); k_whole; intro _ _)))
local macro_rules | `(tactic| walk_at "call builtin:list.append") => `(tactic| (k_here; k_dflt (refine' append_any ?k1 ?k2 ?k3 ?_ ?z; (case k1 => k_asm); (case k2 => k_asm); (case k3 => k_mem); (case z => assumption); k_whole); intro h' F' N'))
/-- between two clocks -/
noncomputable def JF (head tail : List Nat) (cks : List (List Nat × Nat)) (l : Addr) (vs : List Value) (nn : Nat) (news : List (Addr × Obj)) (t2 : Tok) (i : Nat) (m : Str → Option Value) (nx : List (Addr × Obj)) : Prop :=
  ∃ (D : Addr) (us : List Value) (th : Tok), l ≠ D ∧ (∀ p ∈ news, p.1 ≠ D) ∧ nx = (D, listOf us.toArray us.length) :: (l, listOf vs.toArray nn) :: news ∧ StrsAre us ((List.range i).map fun j => T (hostAt head tail cks (j + 1))) ∧
    m "tail" = some (.str (T tail) t2) ∧ m "hosts" = some (.ref D) ∧ m "host" = some (.str (T (hostAt head tail cks i)) th)
local macro_rules | `(tactic| walk_at "compareOp Lt int int") => `(tactic| (k_here; k_dflt (refine' lt_split ?_ ?_ <;> intro hlt)))
theorem w2_brk {h₀ : Heap} {L : Addr} {s s₃ : Shared} {J : Nat → (Str → Option Value) → List (Addr × Obj) → Prop} {Q : Flow → Shared → Prop} {n : Nat} (h : Q .next s₃) : WhileStep2 h₀ L s J Q n .brk s₃ := h
theorem w2_next {h₀ h' : Heap} {L : Addr} {s : Shared} {J : Nat → (Str → Option Value) → List (Addr × Obj) → Prop} {Q : Flow → Shared → Prop} {n n' tk : Nat} {m₂ : Str → Option Value} {led nx : List (Addr × Obj)} (F : Fr h₀ L h' m₂) (N : News h₀ L h' led) (hn : ∀ p ∈ nx, p ∈ led) (hlt : n' < n) (hJ : J n' m₂ nx) :
    WhileStep2 h₀ L s J Q n .next { s with heap := h', toks := tk } := ⟨h', tk, m₂, nx, n', rfl, F, fun p hp => N p (hn p hp), hlt, hJ⟩
local macro_rules | `(tactic| walk_at "WhileStep2 brk") => `(tactic| (refine w2_brk ?_; try dsimp only))
theorem tot_eq {a b : Nat} {t : Tok} : some (Value.int (60 * (a : Int) + 60 * (b : Int)) t) = some (Value.int (60 * ((a + b : Nat) : Int)) t) := by
  rw [Int.natCast_add, Int.mul_add]
theorem cnt_eq {a b : Nat} {t : Tok} : some (Value.int ((a : Int) + (b : Int)) t) = some (Value.int ((a + b : Nat) : Int) t) := by
  rw [Int.natCast_add]
theorem pc_eq {a b : Nat} {t : Tok} : some (Value.str (T (clk ((a : Int) + (b : Int)).toNat)) t) = some (Value.str (T (clk (a + b))) t) := by
  rw [show ((a : Int) + (b : Int)).toNat = a + b by omega]
theorem strs_snoc : ∀ {us : List Value} {xs : List Str} {x : Str} {t : Tok}, StrsAre us xs → StrsAre (us ++ [.str x t]) (xs ++ [x])
  | _, _, x, t, .nil => .cons x t .nil
  | _, _, _, _, .cons y u h => .cons y u (strs_snoc h)
theorem end_turn {g h' : Heap} {L : Addr} {m' : Str → Option Value} {head tail : List Nat} {cks : List (List Nat × Nat)} {l D : Addr} {vs us : List Value} {nn i tk : Nat} {news own led : List (Addr × Obj)} {t2 tX : Tok} {X : Str} {s₁ : Shared}
    (F : Fr g L h' m') (N : News g L h' ((D, listOf (us.toArray.push (.str X tX)) (us.length + 1)) :: led.filter (fun p => p.1 != D)))
    (hled : ∀ p ∈ (l, listOf vs.toArray nn) :: (news ++ own), p ∈ led) (hlD : l ≠ D) (hnD : ∀ p ∈ news, p.1 ≠ D) (hoff : OwnOff own (((D, listOf us.toArray us.length) :: (l, listOf vs.toArray nn) :: news).map (·.1)))
    (hus : StrsAre us ((List.range i).map fun j => T (hostAt head tail cks (j + 1)))) (hX : X = T (hostAt head tail cks (i + 1)))
    (h1 : m' (Str.ofString "tail") = some (.str (T tail) t2)) (h2 : m' (Str.ofString "hosts") = some (.ref D)) (h3 : m' (Str.ofString "host") = some (.str X tX)) :
    InvEndG g L (fun m' nx => (l, listOf vs.toArray nn) ∈ nx ∧ JF head tail cks l vs nn news t2 (i + 1) m' nx) own s₁ { s₁ with heap := h', toks := tk } := by
  subst hX
  have hin : ∀ p ∈ led, p.1 ≠ D → p ∈ led.filter (fun p => p.1 != D) := fun p hp hne => List.mem_filter.mpr ⟨hp, by simpa using hne⟩
  have el : listOf (us.toArray.push (Value.str (T (hostAt head tail cks (i + 1))) tX)) (us.length + 1) = listOf (us ++ [Value.str (T (hostAt head tail cks (i + 1))) tX]).toArray (us ++ [Value.str (T (hostAt head tail cks (i + 1))) tX]).length := by simp
  rw [el] at N
  refine InvEndG.intro (nx := (D, listOf (us ++ [Value.str (T (hostAt head tail cks (i + 1))) tX]).toArray (us ++ [Value.str (T (hostAt head tail cks (i + 1))) tX]).length) :: (l, listOf vs.toArray nn) :: news) F N
    ⟨by simp, D, _, tX, hlD, hnD, rfl, ?_, h1, h2, h3⟩ hoff ?_ ?_
  · have := strs_snoc (x := T (hostAt head tail cks (i + 1))) (t := tX) hus
    rw [List.range_succ, List.map_append]
    exact this
  · intro p hp
    rcases List.mem_cons.mp hp with rfl | hp
    · exact List.mem_cons_self ..
    · rcases List.mem_cons.mp hp with rfl | hp
      · exact List.mem_cons_of_mem _ (hin _ (hled _ (List.mem_cons_self ..)) hlD)
      · exact List.mem_cons_of_mem _ (hin _ (hled _ (List.mem_cons_of_mem _ (List.mem_append.mpr (.inl hp)))) (hnD p hp))
  · intro p hp
    exact List.mem_cons_of_mem _ (hin _ (hled _ (List.mem_cons_of_mem _ (List.mem_append.mpr (.inr hp)))) (hoff p hp D (List.mem_cons_self ..)))
theorem host_new {head tail : List Nat} {cks : List (List Nat × Nat)} {i : Nat} {st : List Blk} {pc : List Nat} {tot cnt : Nat} (h : ⟨pc, tot, cnt⟩ :: st = stackAt cks (i + 1)) :
    T ((((hostP head (flat st) ++ [46] ++ pc) ++ [46]) ++ [48 + cnt]) ++ tail) = T (hostAt head tail cks (i + 1)) := by
  unfold hostAt
  rw [← h]
  simp [flat, hostP]
/-- in the inner loop -/
noncomputable def JW (head tail : List Nat) (D : Addr) (t2 : Tok) (cv : Value) (NW : List (Addr × Obj)) (G : List Blk) (n : Nat) (m : Str → Option Value) (nx : List (Addr × Obj)) : Prop :=
  ∃ (st : List Blk) (k : Nat) (pc : List Nat) (tot cnt : Nat) (th tp tt tc : Tok), nx = NW ∧ n = st.length ∧ Good st k ∧ k + cnt ≤ 6 ∧ Piece pc tot ∧ 1 ≤ cnt ∧ tot ≤ 999 * cnt ∧ merge pc tot cnt st = G ∧
    m "clock" = some cv ∧ m "tail" = some (.str (T tail) t2) ∧ m "hosts" = some (.ref D) ∧ m "host" = some (.str (T (hostP head (flat st) ++ tail)) th) ∧ m "piece" = some (.str (T pc) tp) ∧ m "total" = some (.int (60 * (tot : Int)) tt) ∧ m "count" = some (.int (cnt : Int) tc)
/-- in the last loop -/
noncomputable def JV (head tail : List Nat) (D : Addr) (NW : List (Addr × Obj)) (n : Nat) (m : Str → Option Value) (nx : List (Addr × Obj)) : Prop :=
  ∃ (ps : List (List Nat)) (th : Tok), nx = NW ∧ n = ps.length ∧ Figs ps ∧ ps.length ≤ 12 ∧ m "hosts" = some (.ref D) ∧ m "host" = some (.str (T (hostP head ps ++ tail)) th)
theorem ne_empty {prog : Program} {w : World} {A : Around} {E : Value → Shared → Prop} {s : Shared} {l : List Nat} {t u : Tok} {Q : Value → Shared → Prop} (hl : l ≠ []) (h : Q (.bool true) s) : wpAny (model prog w) A (compareOp .NotEq (.str (T l) t) (.str (Str.ofString "") u)) Q E s := by
  refine P.ne_str ?_
  have h0 : (Str.ofString "").cps.toList = [] := by decide +kernel
  have e : ((T l).cps.toList != (Str.ofString "").cps.toList) = true := by
    rw [h0]
    cases l with
    | nil => exact absurd rfl hl
    | cons a l => rfl
  rw [e]
  exact h
theorem news_end {h₀ h : Heap} {L D l : Addr} {us vs : List Value} {nn : Nat} {v : Value} {news led : List (Addr × Obj)} (N : News h₀ L h ((D, listOf (us.toArray.push v) (us.length + 1)) :: led.filter (fun p => p.1 != D)))
    (hled : ∀ p ∈ (l, listOf vs.toArray nn) :: news, p ∈ led) (hlD : l ≠ D) (hnD : ∀ p ∈ news, p.1 ≠ D) : News h₀ L h ((D, listOf (us ++ [v]).toArray (us ++ [v]).length) :: (l, listOf vs.toArray nn) :: news) := by
  have hin : ∀ p ∈ led, p.1 ≠ D → p ∈ led.filter (fun p => p.1 != D) := fun p hp hne => List.mem_filter.mpr ⟨hp, by simpa using hne⟩
  have el : listOf (us.toArray.push v) (us.length + 1) = listOf (us ++ [v]).toArray (us ++ [v]).length := by simp
  rw [el] at N
  intro p hp
  rcases List.mem_cons.mp hp with rfl | hp
  · exact N _ (List.mem_cons_self ..)
  · rcases List.mem_cons.mp hp with rfl | hp
    · exact N _ (List.mem_cons_of_mem _ (hin _ (hled _ (List.mem_cons_self ..)) hlD))
    · exact N _ (List.mem_cons_of_mem _ (hin _ (hled _ (List.mem_cons_of_mem _ hp)) (hnD p hp)))
local macro_rules | `(tactic| walk_at "compareOp NotEq str str") => `(tactic| (k_here; k_dflt (refine' ne_empty ?a ?_; (case a => assumption); k_whole)))
theorem run_ok {w : World} {mean : ExcName → Option Value} {mg mb : Str → Option Value} {news : List (Addr × Obj)} {head tail : List Nat} {t1 t2 : Tok} {l : Addr} {vs : List Value} {nn : Nat} {cks : List (List Nat × Nat)}
    (hv : StrsAre vs (cks.map fun c => T c.1)) (hc : Cks cks) (h6 : cks.length ≤ 6) (H : HeadTail head tail) :
  ∀ (dp un : Nat) (gd : Option (List Code)) (cn : Str) (cs : Scope) (a : Addr) (ccd : Value) (cl : List (Str × Addr)) (outer : List Env) (A₀ : Around) (base h₀ : Heap) (L : Addr) (m : Str → Option Value) (s : Shared) (Q E : Value → Shared → Prop),
    Below A₀ base outer h₀ → Fr h₀ L s.heap m → (hd.heap_39 w.params).In h₀ → News h₀ L s.heap ((l, listOf vs.toArray nn) :: news) → Top hd.view_39 loose0 mean mg mb h₀ → cs.kind = .function → dp + 10 < recursionLimit → un + 100 < cLine →
    (∀ (D : Addr) (us : List Value) (h' : Heap) (tk' : Nat), Fr h₀ L h' m → News h₀ L h' ((D, listOf us.toArray us.length) :: (l, listOf vs.toArray nn) :: news) → StrsAre us ((runHosts head tail cks).map T) → Q (.ref D) { s with heap := h', toks := tk' }) →
      wpAny (model PySem.Challenge.rw_wb0005_01.row.prog w) (ktrTop dp un gd cn cs L a ccd cl outer) (call (.ref 84) [.str (T head) t1, .str (T tail) t2, .ref l]) Q E s := by
  have hH1 := H.len
  have hH2 : tail.length ≤ 1 := by rcases H.tl with h | h <;> simp [h]
  have hHT : head.length + tail.length ≤ 1000 := by omega
  k_fill
  intros
  rename_i hret
  refine wpAny_call ?_
  k_dflt cell_enter
  k_steps
  rename Fr _ _ _ _ => lF'
  with_unfolding_all refine' For_invVF lF' ?k1 ?k2 ?_; (case k1 => exact rfl); (case k2 => exact rfl)
  k_dflt (refine ld lF' (by rfl) ?_)
  rename News _ _ _ (_ :: (l, listOf vs.toArray nn) :: news) => lN'
  rename (_ < _) ∧ AllLt _ _ => hlt
  refine' kdl_iter (JF head tail cks l vs nn news t2) ?hh ?hl lF' lN' ?hj ?turn ?done
  case hh => exact rfl
  case hl => k_mem
  case hj => exact ⟨_, [], _, Nat.ne_of_lt hlt.1, (fun p hp => Nat.ne_of_lt (kst_ltOf hlt.2 p hp)), rfl, .nil, rfl, rfl, rfl⟩
  case turn =>
    intro i v m₁ news₁ h tk own hv' hoff hmem hJ F₁ N₁
    obtain ⟨D, us, th, hlD, hnD, rfl, hus, e1, e2, e3⟩ := hJ
    obtain ⟨x, tv, hx, rfl⟩ := strs_get hv hv'
    simp only [List.getElem?_map, Option.map_eq_some_iff] at hx
    obtain ⟨c, hci, rfl⟩ := hx
    have hil : i < cks.length := by
      rcases Nat.lt_or_ge i cks.length with h | h
      · exact h
      · rw [List.getElem?_eq_none h] at hci; cases hci
    have hcm := hc c (List.mem_of_getElem? hci)
    have hcp := hcm.1
    have hcl := hcm.2
    have hg := stackAt_good hc h6 i (by omega)
    have F₂ := fr_list [(Str.ofString "clock", Value.str (T c.1) tv), (Str.ofString "tail", Value.str (T tail) t2), (Str.ofString "hosts", Value.ref D), (Str.ofString "host", Value.str (T (hostAt head tail cks i)) th)] F₁ (by
      simp only [List.forall_mem_cons, List.not_mem_nil, false_implies, implies_true, and_true]
      refine ⟨rfl, ?_, ?_, ?_⟩
      · rw [if_neg (by decide)]; exact e1
      · rw [if_neg (by decide)]; exact e2
      · rw [if_neg (by decide)]; exact e3)
    clear F₁
    k_steps
    unfold Halt
    rename Fr _ _ _ _ => F₃
    rename News _ _ _ _ => N₃
    refine' While_inv2 (JW head tail D t2 (Value.str (T c.1) tv) ((D, listOf us.toArray us.length) :: (l, listOf vs.toArray nn) :: (news ++ own)) (stackAt cks (i + 1))) (n₀ := (stackAt cks i).length) F₃ N₃ ?hJ ?wt
    case hJ =>
      exact ⟨stackAt cks i, i, c.1, c.2, 1, _, _, _, _, rfl, rfl, hg, by omega, hcp, by omega, by omega, (stackAt_succ hci).symm, rfl, rfl, rfl, rfl, rfl, rfl, rfl⟩
    case wt =>
      intro n m₄ news₄ h₄ tk₄ F₄ N₄ hJ
      obtain ⟨st, k, pc, tot, cnt, th', tp, tt, tc, rfl, rfl, gs, hk6, hpc, hc1, htot, hmg, e0, e1, e2, e3, e4, e5, e6⟩ := hJ
      have F₅ := fr_list [(Str.ofString "clock", Value.str (T c.1) tv), (Str.ofString "tail", Value.str (T tail) t2), (Str.ofString "hosts", Value.ref D), (Str.ofString "host", Value.str (T (hostP head (flat st) ++ tail)) th'), (Str.ofString "piece", Value.str (T pc) tp), (Str.ofString "total", Value.int (60 * (tot : Int)) tt), (Str.ofString "count", Value.int (cnt : Int) tc)] F₄ (by
        simp only [List.forall_mem_cons, List.not_mem_nil, false_implies, implies_true, and_true]
        exact ⟨e0, e1, e2, e3, e4, e5, e6⟩)
      clear F₄
      have htl := H.tl
      have hmem0 : (T (head ++ tail)).cps ∈ heads8 := H.mem
      have hlen0 : (head ++ tail).length ≤ 1000 := by simp; omega
      have htlen : tail.length ≤ 1000 := by omega
      have hpl := hpc.len.2
      have hul : us.length = i := by have := hus.length; simpa using this
      have husz : us.toArray.size ≤ sizeLine := by rw [sizeLine_eq, List.size_toArray]; omega
      cases gs with
      | nil =>
        simp only [flat, hostP] at F₅
        k_steps
        refine' end_turn ?F ?N ?hled hlD hnD hoff hus (host_new hmg) ?h1 ?h2 ?h3
        case F => k_asm
        case N => k_asm
        case hled => intro p hp; repeat (first | exact hp | apply List.mem_cons_of_mem)
        case h1 => exact rfl
        case h2 => exact rfl
        case h3 => exact rfl
      | @cons b st n hbp hb1 hbt gs =>
        obtain ⟨hfg, hfl⟩ := gs.figs (by omega)
        have hhl := hostP_len head hfg
        have hbl := hbp.len.2
        have hd1 : ∀ c ∈ [48 + b.cnt], 48 ≤ c ∧ c ≤ 57 := by intro c hc; simp at hc; omega
        have hl1 : 1 ≤ [48 + b.cnt].length := by simp
        have hd2 := hbp.figs
        have hl2 := hbp.len.1
        have hsA : (((hostP head (flat st) ++ 46 :: b.piece) ++ 46 :: [48 + b.cnt]) ++ tail).length ≤ 1000 := by simp only [List.length_append, List.length_cons, List.length_nil]; omega
        have hsB : ((hostP head (flat st) ++ 46 :: b.piece) ++ tail).length ≤ 1000 := by simp only [List.length_append, List.length_cons, List.length_nil]; omega
        have hb10 : b.cnt < 10 := by omega
        simp only [flat, hostP] at F₅
        k_steps
        rotate_left
        · rename ¬ _ < _ => hge
          have hge' := fun h => hge (lt_means.mpr h)
          unfold merge at hmg
          rw [if_neg hge'] at hmg
          refine' w2_next (nx := (D, listOf us.toArray us.length) :: (l, listOf vs.toArray nn) :: (news ++ own)) (n' := st.length) ?F ?N ?hn (by simp) ?hJ
          case F => k_asm
          case N => k_asm
          case hn => intro p hp; repeat (first | exact hp | apply List.mem_cons_of_mem)
          case hJ => exact ⟨st, n, clk (tot + b.tot), tot + b.tot, cnt + b.cnt, _, _, _, _, rfl, rfl, gs, by omega, Piece.clk (by omega), by omega, by rw [Nat.mul_add]; omega, hmg, rfl, rfl, rfl, rfl, pc_eq, tot_eq, cnt_eq⟩
        · rename _ < _ => hlt
          have hlt' := lt_means.mp hlt
          unfold merge at hmg
          rw [if_pos hlt'] at hmg
          refine' end_turn ?F ?N ?hled hlD hnD hoff hus (host_new (st := b :: st) hmg) ?h1 ?h2 ?h3
          case F => k_asm
          case N => k_asm
          case hled => intro p hp; repeat (first | exact hp | apply List.mem_cons_of_mem)
          case h1 => exact rfl
          case h2 => exact rfl
          case h3 => exact rfl
  case done =>
    intro m₁ news₁ h tk hJ F₁ N₁
    obtain ⟨D, us, th, hlD, hnD, rfl, hus, e1, e2, e3⟩ := hJ
    have hvl : vs.length = cks.length := by have := hv.length; simpa using this
    rw [hvl] at hus e3
    have hg := stackAt_good hc h6 cks.length (Nat.le_refl _)
    have F₂ := fr_list [(Str.ofString "hosts", Value.ref D), (Str.ofString "host", Value.str (T (hostAt head tail cks cks.length)) th)] F₁ (by
      simp only [List.forall_mem_cons, List.not_mem_nil, false_implies, implies_true, and_true]
      exact ⟨e2, e3⟩)
    clear F₁
    obtain ⟨hfg, hfl⟩ := hg.figs (by omega)
    k_steps
    unfold Halt
    rename Fr _ _ _ _ => F₃
    rename News _ _ _ _ => N₃
    refine' While_inv2 (JV head tail D ((D, listOf us.toArray us.length) :: (l, listOf vs.toArray nn) :: news)) (n₀ := (flat (stackAt cks cks.length)).length) F₃ N₃ ?hJ ?wt
    case hJ => exact ⟨flat (stackAt cks cks.length), _, rfl, rfl, hfg, by omega, rfl, rfl⟩
    case wt =>
      intro n m₄ news₄ h₄ tk₄ F₄ N₄ hJ
      obtain ⟨ps, th', rfl, rfl, hps, hpl, e4, e5⟩ := hJ
      have F₅ := fr_list [(Str.ofString "hosts", Value.ref D), (Str.ofString "host", Value.str (T (hostP head ps ++ tail)) th')] F₄ (by
        simp only [List.forall_mem_cons, List.not_mem_nil, false_implies, implies_true, and_true]
        exact ⟨e4, e5⟩)
      clear F₄
      have htl := H.tl
      have hmem0 : (T (head ++ tail)).cps ∈ heads8 := H.mem
      have hul : us.length = cks.length := by have := hus.length; simpa using this
      have husz : us.toArray.size ≤ sizeLine := by rw [sizeLine_eq, List.size_toArray]; omega
      have hne : hostP head ps ++ tail ≠ [] := by
        have := H.ne
        cases ps <;> simp [hostP, this]
      cases ps with
      | nil =>
        simp only [hostP] at F₅ hne
        k_steps
        refine' hret D _ _ _ (by k_asm) (news_end (us := us) (led := (D, listOf us.toArray us.length) :: (l, listOf vs.toArray nn) :: news) (by k_asm) (fun p hp => List.mem_cons_of_mem _ hp) hlD hnD) ?hus
        case hus =>
          have := strs_snoc (x := T (head ++ tail)) (t := th') hus
          unfold runHosts
          rw [List.map_append, List.map_map]
          exact this
      | cons d ps =>
        have hhl := hostP_len head (ps := ps) fun e he => hps e (List.mem_cons_of_mem _ he)
        have hdd := hps d (List.mem_cons_self ..)
        have hd1 := hdd.1
        have hd2 := hdd.2.1
        have hd3 := hdd.2.2
        have hpl' : ps.length + 1 ≤ 12 := by simpa using hpl
        have hsA : ((hostP head ps ++ 46 :: d) ++ tail).length ≤ 1000 := by simp only [List.length_append, List.length_cons]; omega
        simp only [hostP] at F₅ hne
        k_steps
        refine' w2_next (nx := (D, listOf us.toArray us.length) :: (l, listOf vs.toArray nn) :: news) (n' := ps.length) ?F ?N ?hn (by simp) ?hJ
        case F => k_asm
        case N => k_asm
        case hn => intro p hp; repeat (first | exact hp | apply List.mem_cons_of_mem)
        case hJ => exact ⟨ps, _, rfl, rfl, (fun e he => hps e (List.mem_cons_of_mem _ he)), by omega, rfl, rfl⟩
end Mine
end

section
open PySem PySem.Spec PySem.Calls PyProof.Rows
set_option Elab.async false
set_option maxRecDepth 100000
namespace Mine
open PyProof.Rows.LCg
noncomputable abbrev cellOf (v : Option Value) : Obj := { cls := .type "cell", data := .cell v }
section
variable {M : Model} {A : Around} {E : Value → Shared → Prop} {s : Shared}
theorem newEnv_C {scope : Scope} {globals : Addr} {cl : List (Str × Addr)} {x : Str} {qual : Str} {func : Option Addr} {code : Value} {outer : Env} {builtins : Addr} {Q : Env → Shared → Prop}
    (hcf : ∀ n, cellsFrom n scope.names cl = (x, n) :: cl) (hpc : ∀ h, pushCells h scope.names = h.push (cellOf none))
    (hQ : Q (newEnv scope s.heap.objs.size globals ((x, s.heap.objs.size + 1) :: cl) qual func code (some outer) builtins) { s with heap := (s.heap.push { cls := .type "dict", data := .dict #[] }).push (cellOf none) }) :
    wpAny M A (newFunctionEnv scope globals cl [] qual func code (some outer) builtins) Q E s := by
  simp only [newFunctionEnv, Option.isSome_some, if_true]
  refine wpAny_bind (wpAny_alloc ?_)
  refine wpAny_bind (wpAny_layCells _ (fun name kind cells => by cases hkc : kind == NameKind.cell <;> simp [hkc]) _ _ _ _ ?_)
  rw [hcf, hpc]
  refine wpAny_bind (m := forIn [] _ _) (wpAny_pure ?_)
  have e : (s.heap.push { cls := .type "dict", data := .dict #[] }).objs.size = s.heap.objs.size + 1 := Heap.size_push ..
  show wpAny M A (pure _) _ _ _
  refine wpAny_pure ?_
  dsimp only
  rw [e]
  exact hQ
end
noncomputable def Off4 (I C K D : Addr) (l : List (Addr × Obj)) : Prop := ∀ p ∈ l, p.1 ≠ I ∧ p.1 ≠ C ∧ p.1 ≠ K ∧ p.1 ≠ D
noncomputable def CompRestC (prog : Program) (w : World) (A : Around) (h₀ : Heap) (L : Addr) (m : Str → Option Value) (env : Env) (elt : Expr) (x : Str) (scope : Scope) (cl : List (Str × Addr)) (s : Shared) (S : List (Addr × Obj) → Prop) (P : Nat → Value → Prop)
    (Fin : List Value → List (Addr × Obj) → Prop) : Nat → Nat → List Value → List (Addr × Obj) → Prop
  | 0, _, ys, news => Fin ys news
  | k + 1, i, ys, news => ∀ v I oI C oC K oK D h tk (E' : Value → Shared → Prop), P i v → oK.data = .cell (some v) → Fr h₀ L h m → News h₀ L h ((I, oI) :: (C, oC) :: (K, oK) :: (D, lst ys) :: news) → Off4 I C K D news → (I ≠ C ∧ I ≠ K ∧ I ≠ D ∧ C ≠ K ∧ C ≠ D ∧ K ≠ D) →
      wpAny (model prog w) A (eval elt (compEnvC scope ((x, K) :: cl) C env))
        (fun y s₂ => ∃ h' tk' news', s₂ = { s with heap := h', toks := tk' } ∧ Fr h₀ L h' m ∧ News h₀ L h' ((I, oI) :: (C, oC) :: (K, oK) :: (D, lst ys) :: news') ∧ Off4 I C K D news' ∧ S news' ∧
          CompRestC prog w A h₀ L m env elt x scope cl s S P Fin k (i + 1) (ys ++ [y]) news') E' { s with heap := h, toks := tk }
section
variable {prog : Program} {w : World} {A : Around} {E : Value → Shared → Prop} {s : Shared} {h₀ : Heap} {L : Addr} {m : Str → Option Value} {env : Env}
theorem block_C {elt iter : Expr} {x : Str} {px : Pos} {scope : Scope} {cl : List (Str × Addr)} {pos : Pos} {s₂ : Shared} {I : Addr} {fp : List Addr} {n : Nat} {P : Nat → Value → Prop} {St : Nat → Heap → Prop} {S : List (Addr × Obj) → Prop} {news : List (Addr × Obj)}
    {Fin : List Value → List (Addr × Obj) → Prop} {RR : Value → Addr → Result → Shared → Prop}
    (W : Walks prog w A I fp [I] n P St) (hsz : n ≤ sizeLine) (hIo : ∀ i h, St i h → ∃ o, h.get? I = some o)
    (hSt : ∀ i h h' o nw, St i h → h.get? I = some o → h'.get? I = some o → (∀ b o, h₀.get? b = some o → h'.get? b = some o) → News h₀ L h' nw → S nw → St i h')
    (hcf : ∀ n, cellsFrom n scope.names cl = (x, n) :: cl) (hpc : ∀ h, pushCells h scope.names = h.push (cellOf none)) (hkind : scope.kind = .function)
    (hx : ∀ C K, (compEnvC scope ((x, K) :: cl) C env).kindOf x = some .cell) (hst : St 0 s₂.heap) (hfp : ∀ b ∈ fp, b < s₂.heap.objs.size)
    (F : Fr h₀ L s₂.heap m) (N : News h₀ L s₂.heap news) (hIL : L ≠ I) (hI₀ : h₀.get? I = none) (off : ∀ p ∈ news, p.1 ≠ I) (hS : S news)
    (R : CompRestC prog w A h₀ L m env elt x scope cl s₂ S P Fin n 0 [] news)
    (hRR : ∀ D C h tk m' ys news', Fr h₀ L h m → News h₀ L h ((D, lst ys) :: news') → (∀ p ∈ news', p.1 ≠ D) → h.Ns C m' → h₀.get? C = none → h₀.get? D = none → C ≠ L → D ≠ L → C ≠ D → (∀ p ∈ news', p.1 ≠ C) → Fin ys news' → RR (.ref D) C (.ok .next) { s₂ with heap := h, toks := tk }) :
    wpAny (model prog w) A (newList []) (fun acc s₃ => wpAny (model prog w) A (newFunctionEnv scope env.globals cl [] env.qual none .none (some env)) (fun cenv s₄ =>
      codeAny (model prog w) A (.compStart (.ListComp elt [⟨.Name x px, iter, [], 0⟩] scope pos) 0 (.ref I) acc { cenv with scope := relabel scope env }) (RR acc cenv.locals) s₄) E s₃) E s₂ := by
  refine wpAny_newObj_type (newEnv_C hcf hpc ?_)
  dsimp only
  generalize hH2 : s₂.heap.push { cls := .type "list", dict := none, data := .seq ([] : List Value).toArray } = H2
  have hC : H2.objs.size = s₂.heap.objs.size + 1 := by rw [← hH2, Heap.size_push]
  generalize hh₁ : (H2.push { cls := .type "dict", data := .dict #[] }).push (cellOf none) = h₁
  have hD2 : H2.get? s₂.heap.objs.size = some (lst []) := by rw [← hH2]; exact Heap.get?_push_size _ rfl
  have up2 : ∀ b o, H2.get? b = some o → h₁.get? b = some o := fun b o e => by rw [← hh₁]; exact Heap.get?_push_of_some _ (Heap.get?_push_of_some _ e)
  have old : ∀ b o, s₂.heap.get? b = some o → h₁.get? b = some o := fun b o e => up2 b o (by rw [← hH2]; exact Heap.get?_push_of_some _ e)
  have hns₁ : h₁.Ns H2.objs.size (fun _ => none) := by
    rw [← hh₁]
    exact (Heap.Ns.new ..).push _
  have hK₁ : h₁.IsCell (H2.objs.size + 1) none := by
    rw [← hh₁]
    have e : (H2.push { cls := .type "dict", data := .dict #[] }).objs.size = H2.objs.size + 1 := Heap.size_push ..
    rw [← e]
    exact ⟨_, Heap.get?_push_size _ rfl, rfl⟩
  have hDC : s₂.heap.objs.size ≠ H2.objs.size := by rw [hC]; exact Nat.ne_of_lt (Nat.lt_succ_self _)
  have hDK : s₂.heap.objs.size ≠ H2.objs.size + 1 := by rw [hC]; omega
  have hCK : H2.objs.size ≠ H2.objs.size + 1 := by omega
  have below : ∀ b, b < s₂.heap.objs.size → b ≠ H2.objs.size ∧ b ≠ s₂.heap.objs.size ∧ b ≠ H2.objs.size + 1 := fun b hb => by rw [hC]; omega
  have hDf : s₂.heap.objs.size ∉ fp := fun hm => Nat.lt_irrefl _ (hfp _ hm)
  have hCf : H2.objs.size ∉ fp := fun hm => by have := hfp _ hm; rw [hC] at this; exact Nat.lt_irrefl _ (Nat.lt_of_succ_lt this)
  have hKf : H2.objs.size + 1 ∉ fp := fun hm => by have := hfp _ hm; rw [hC] at this; exact Nat.lt_irrefl _ (Nat.lt_of_succ_lt (Nat.lt_of_succ_lt this))
  have hIf : I ∈ fp := W.sub I (List.mem_singleton.mpr rfl)
  have hIlt : I < s₂.heap.objs.size := hfp I hIf
  have hacc : h₁.get? s₂.heap.objs.size = some (lst []) := up2 _ _ hD2
  have hst₁ : St 0 h₁ := W.frame _ _ _ hst fun b _ o e => old b o e
  have fresh : ∀ a, s₂.heap.objs.size ≤ a → s₂.heap.get? a = none := fun a ha => by
    cases e : s₂.heap.get? a with
    | none => rfl
    | some o' => exact absurd (Heap.lt_size e) (Nat.not_lt.mpr ha)
  have fresh₀ : ∀ a, s₂.heap.objs.size ≤ a → h₀.get? a = none := fun a ha => by
    cases e : h₀.get? a with
    | none => rfl
    | some o' => have := F.keep a o' e; rw [fresh a ha] at this; cases this
  have hD₀ : h₀.get? s₂.heap.objs.size = none := fresh₀ _ (Nat.le_refl _)
  have hC₀ : h₀.get? H2.objs.size = none := fresh₀ _ (by omega)
  have hK₀ : h₀.get? (H2.objs.size + 1) = none := fresh₀ _ (by omega)
  have hLlt : L < s₂.heap.objs.size := F.ns.lt
  have hDL : s₂.heap.objs.size ≠ L := Ne.symm (below L hLlt).2.1
  have hCL : H2.objs.size ≠ L := Ne.symm (below L hLlt).1
  have hKL : H2.objs.size + 1 ≠ L := Ne.symm (below L hLlt).2.2
  have hCI : I ≠ H2.objs.size := (below I hIlt).1
  have hDI : I ≠ s₂.heap.objs.size := (below I hIlt).2.1
  have hKI : I ≠ H2.objs.size + 1 := (below I hIlt).2.2
  have off₀ : Off4 I H2.objs.size (H2.objs.size + 1) s₂.heap.objs.size news := fun p hp => ⟨off p hp, (below _ (Heap.lt_size (N p hp).1)).1, (below _ (Heap.lt_size (N p hp).1)).2.2, (below _ (Heap.lt_size (N p hp).1)).2.1⟩
  have loop : ∀ s₃ : Shared, s₃ = { s₂ with heap := h₁ } →
      codeAny (model prog w) A (.compLoop (.ListComp elt [⟨.Name x px, iter, [], 0⟩] scope pos) 0 (.ref I) (.ref s₂.heap.objs.size) (compEnvC scope ((x, H2.objs.size + 1) :: cl) H2.objs.size env))
        (RR (.ref s₂.heap.objs.size) H2.objs.size) s₃ := by
    rintro s₃ rfl
    refine codeAny_compLoop_tests
      (fun k s' => ∃ h' tk i ys news' kv, s' = { s₂ with heap := h', toks := tk } ∧ i ≤ n ∧ k = n + 1 - i ∧ ys.length = i ∧ St i h' ∧ Fr h₀ L h' m ∧ h'.Ns H2.objs.size (fun _ => none) ∧ h'.IsCell (H2.objs.size + 1) kv ∧ News h₀ L h' ((s₂.heap.objs.size, lst ys) :: news') ∧
        Off4 I H2.objs.size (H2.objs.size + 1) s₂.heap.objs.size news' ∧ S news' ∧ CompRestC prog w A h₀ L m env elt x scope cl s₂ S P Fin (n - i) i ys news') ?_ (n + 1)
      ⟨h₁, _, 0, [], news, none, rfl, Nat.zero_le _, rfl, rfl, hst₁, F.keeps old, hns₁, hK₁, fun p hp => ?_, off₀, hS, R⟩
    · rintro k s' ⟨h', tk, i, ys, news', kv, rfl, hi, rfl, hyl, hst', F', hn', hK', N', off', hS', R'⟩
      by_cases hlt : i < n
      · obtain ⟨j, hj⟩ : ∃ j, n - i = j + 1 := ⟨n - i - 1, by omega⟩
        rw [hj] at R'
        refine W.item i _ _ _ hlt hst' fun v h₂ tk₂ hPv hst₂ hk₂ => ?_
        have hK₂ : h₂.IsCell (H2.objs.size + 1) kv := let ⟨o, e, hd⟩ := hK'; ⟨o, hk₂ _ o (by simpa using Ne.symm hKI) e, hd⟩
        refine wpAny_assign_Name (wpAny_storeName_cell (c := H2.objs.size + 1) hkind (hx _ _) (by simp [compEnvC]) hK₂ (fun h₃ hK₃ hs₃ => ?_))
        refine wpAny_tests_nil ?_
        simp only [if_true]
        have hst₃ : St (i + 1) h₃ := W.frame _ _ _ hst₂ fun b hb o e => hs₃.extBut b o (fun q => hKf (by have q' : b = H2.objs.size + 1 := q; rw [← q']; exact hb)) e
        obtain ⟨oI, heI⟩ := hIo _ _ hst₃
        have hn₃ : h₃.Ns H2.objs.size (fun _ => none) := (hn'.at' fun o e => hk₂ _ o (by simpa using Ne.symm hCI) e).sameBut hs₃ hCK
        obtain ⟨oC, heC, hoC⟩ := ns_obj hn₃
        obtain ⟨oK, heK, hoK⟩ := hK₃
        have F₃ : Fr h₀ L h₃ m := (fr_but F' hk₂ hIL hI₀).change hs₃ hKL hK₀
        have N₂ : News h₀ L h₂ ((s₂.heap.objs.size, lst ys) :: news') := news_but N' hk₂ fun p hp => by
          rcases List.mem_cons.mp hp with rfl | hp
          · exact Ne.symm hDI
          · exact (off' p hp).1
        have N₃ : News h₀ L h₃ ((I, oI) :: (H2.objs.size, oC) :: (H2.objs.size + 1, oK) :: (s₂.heap.objs.size, lst ys) :: news') := fun p hp => by
          rcases List.mem_cons.mp hp with rfl | hp
          · exact ⟨heI, Ne.symm hIL, hI₀⟩
          · rcases List.mem_cons.mp hp with rfl | hp
            · exact ⟨heC, hCL, hC₀⟩
            · rcases List.mem_cons.mp hp with rfl | hp
              · exact ⟨heK, hKL, hK₀⟩
              · have z := N₂ p hp
                refine ⟨hs₃.extBut _ _ ?_ z.1, z.2⟩
                rcases List.mem_cons.mp hp with rfl | hp
                · exact hDK
                · exact (off' p hp).2.2.1
        refine wpAny_mono (R' v I oI H2.objs.size oC (H2.objs.size + 1) oK s₂.heap.objs.size h₃ _ _ hPv hoK F₃ N₃ off' ⟨hCI, hKI, hDI, hCK, Ne.symm hDC, Ne.symm hDK⟩) (fun y s₄ h₄ => ?_) fun _ _ e => e
        obtain ⟨h₄, tk₄, news₄, rfl, F₄, N₄, off₄, hS₄, R₄⟩ := h₄
        have zI := (N₄ (I, oI) List.mem_cons_self).1
        have zC := (N₄ (H2.objs.size, oC) (List.mem_cons_of_mem _ List.mem_cons_self)).1
        have zK := (N₄ (H2.objs.size + 1, oK) (List.mem_cons_of_mem _ (List.mem_cons_of_mem _ List.mem_cons_self))).1
        have zD := (N₄ (s₂.heap.objs.size, lst ys) (List.mem_cons_of_mem _ (List.mem_cons_of_mem _ (List.mem_cons_of_mem _ List.mem_cons_self)))).1
        have N₄' : News h₀ L h₄ news₄ := fun p hp => N₄ p (List.mem_cons_of_mem _ (List.mem_cons_of_mem _ (List.mem_cons_of_mem _ (List.mem_cons_of_mem _ hp))))
        have hst₄ : St (i + 1) h₄ := hSt _ _ _ _ _ hst₃ heI zI F₄.keep N₄' hS₄
        refine append_at (hsz := by show ys.toArray.size ≤ sizeLine; rw [List.size_toArray, hyl]; exact Nat.le_trans hi hsz) zD fun h₅ hs₅ hD₅ => ?_
        refine ⟨n + 1 - (i + 1), by omega, h₅, tk₄, i + 1, ys ++ [y], news₄, some v, rfl, hlt, rfl, by rw [List.length_append, List.length_singleton, hyl], W.frame _ _ _ hst₄ fun b hb o e => hs₅.extBut b o (fun q => hDf (q ▸ hb)) e, F₄.change hs₅ hDL hD₀,
          (hoC.ns zC).sameBut hs₅ (Ne.symm hDC), ⟨oK, hs₅.extBut _ _ (Ne.symm hDK) zK, hoK⟩, fun p hp => ?_, off₄, hS₄, ?_⟩
        · rcases List.mem_cons.mp hp with rfl | hp
          · exact ⟨hD₅.trans (congrArg some (lst_snoc ys y)), hDL, hD₀⟩
          · exact ⟨hs₅.extBut _ _ (off₄ p hp).2.2.2 (N₄' p hp).1, (N₄' p hp).2⟩
        · rw [show n - (i + 1) = j by omega]
          exact R₄
      · obtain rfl : i = n := Nat.le_antisymm hi (Nat.not_lt.mp hlt)
        rw [Nat.sub_self] at R'
        refine W.done _ _ _ hst' fun h₂ tk₂ hk₂ => ?_
        exact hRR _ _ h₂ tk₂ _ ys news' (fr_but F' hk₂ hIL hI₀) (news_but N' hk₂ fun p hp => by
          rcases List.mem_cons.mp hp with rfl | hp
          · exact Ne.symm hDI
          · exact (off' p hp).1) (fun p hp => (off' p hp).2.2.2) (hn'.at' fun o e => hk₂ _ o (by simpa using Ne.symm hCI) e) hC₀ hD₀ hCL hDL (Ne.symm hDC) (fun p hp => (off' p hp).2.1) R'
    · rcases List.mem_cons.mp hp with rfl | hp
      · exact ⟨hacc, hDL, hD₀⟩
      · exact ⟨old _ _ (N p hp).1, (N p hp).2⟩
  exact codeAny_compStart_list (loop _ rfl) (W.self 0 _ _ _ hst₁ (loop _ rfl))
/-- the elements one after the other, each by a relation; the ledger comes back as it was -/
theorem compC_rest {elt : Expr} {x : Str} {scope : Scope} {cl : List (Str × Addr)} {n : Nat} {a : Int} {Fin : List Value → List (Addr × Obj) → Prop} {news : List (Addr × Obj)} (Rel : Nat → Value → Prop)
    (turn : ∀ i t I oI C oC K oK D ys h tk (E' : Value → Shared → Prop), i < n → oK.data = .cell (some (.int (a + (i : Int)) t)) → Fr h₀ L h m → News h₀ L h ((I, oI) :: (C, oC) :: (K, oK) :: (D, lst ys) :: news) → Off4 I C K D news → (I ≠ C ∧ I ≠ K ∧ I ≠ D ∧ C ≠ K ∧ C ≠ D ∧ K ≠ D) →
      wpAny (model prog w) A (eval elt (compEnvC scope ((x, K) :: cl) C env))
        (fun y s₂ => ∃ h' tk', s₂ = { s with heap := h', toks := tk' } ∧ Fr h₀ L h' m ∧ News h₀ L h' ((I, oI) :: (C, oC) :: (K, oK) :: (D, lst ys) :: news) ∧ Rel i y) E' { s with heap := h, toks := tk })
    (fin : ∀ ys : List Value, ys.length = n → (∀ i y, ys[i]? = some y → Rel i y) → Fin ys news) :
    CompRestC prog w A h₀ L m env elt x scope cl s (fun _ => True) (fun i v => ∃ t, v = .int (a + (i : Int)) t) Fin n 0 [] news := by
  have key : ∀ (j i : Nat) (ys : List Value), i + j = n → ys.length = i → (∀ k y, ys[k]? = some y → Rel k y) → CompRestC prog w A h₀ L m env elt x scope cl s (fun _ => True) (fun i v => ∃ t, v = .int (a + (i : Int)) t) Fin j i ys news := by
    intro j
    induction j with
    | zero =>
      intro i ys hi hl hr
      exact fin ys (by omega) hr
    | succ j ih =>
      intro i ys hi hl hr v I oI C oC K oK D h tk E' hv hK F N off ne
      obtain ⟨t, rfl⟩ := hv
      refine wpAny_mono (turn i t I oI C oC K oK D ys h tk E' (by omega) hK F N off ne) (fun y s₂ hq => ?_) fun _ _ e => e
      obtain ⟨h', tk', e, F', N', hy⟩ := hq
      refine ⟨h', tk', news, e, F', N', off, trivial, ih (i + 1) _ (by omega) (by simp [hl]) ?_⟩
      intro k z hk
      by_cases hki : k < ys.length
      · rw [List.getElem?_append_left hki] at hk
        exact hr k z hk
      · have hk2 : k = ys.length := by
          have : k < (ys ++ [y]).length := by
            rcases Nat.lt_or_ge k (ys ++ [y]).length with h | h
            · exact h
            · rw [List.getElem?_eq_none h] at hk; cases hk
          simp at this
          omega
        subst hk2
        simp at hk
        rw [← hk, hl]
        exact hy
  exact key n 0 [] (by omega) rfl (by intro k y h; simp at h)
/-- the same for a comprehension whose own name is no cell (the library's own block) -/
theorem compU_rest {elt : Expr} {x : Str} {scope : Scope} {cl : List (Str × Addr)} {n : Nat} {a : Int} {Fin : List Value → List (Addr × Obj) → Prop} {news : List (Addr × Obj)} (Rel : Nat → Value → Prop)
    (turn : ∀ i t I oI C oC D m₂ ys h tk (E' : Value → Shared → Prop), i < n → NsObj oC m₂ → m₂ x = some (.int (a + (i : Int)) t) → Fr h₀ L h m → News h₀ L h ((I, oI) :: (C, oC) :: (D, lst ys) :: news) → Off3 I C D news → ((@Ne Nat I C) ∧ (@Ne Nat I D) ∧ (@Ne Nat C D)) →
      wpAny (model prog w) A (eval elt (compEnvC scope cl C env))
        (fun y s₂ => ∃ h' tk', s₂ = { s with heap := h', toks := tk' } ∧ Fr h₀ L h' m ∧ News h₀ L h' ((I, oI) :: (C, oC) :: (D, lst ys) :: news) ∧ Rel i y) E' { s with heap := h, toks := tk })
    (fin : ∀ ys : List Value, ys.length = n → (∀ i y, ys[i]? = some y → Rel i y) → Fin ys news) :
    CompRest prog w A h₀ L m env elt x scope cl s (fun _ => True) (fun i v => ∃ t, v = .int (a + (i : Int)) t) Fin n 0 [] news := by
  have key : ∀ (j i : Nat) (ys : List Value), i + j = n → ys.length = i → (∀ k y, ys[k]? = some y → Rel k y) → CompRest prog w A h₀ L m env elt x scope cl s (fun _ => True) (fun i v => ∃ t, v = .int (a + (i : Int)) t) Fin j i ys news := by
    intro j
    induction j with
    | zero =>
      intro i ys hi hl hr
      exact fin ys (by omega) hr
    | succ j ih =>
      intro i ys hi hl hr v I oI C oC D m₂ h tk E' hv hC hx F N off ne
      obtain ⟨t, rfl⟩ := hv
      refine wpAny_mono (turn i t I oI C oC D m₂ ys h tk E' (by omega) hC hx F N off ne) (fun y s₂ hq => ?_) fun _ _ e => e
      obtain ⟨h', tk', e, F', N', hy⟩ := hq
      refine ⟨h', tk', news, e, F', N', off, trivial, ih (i + 1) _ (by omega) (by simp [hl]) ?_⟩
      intro k z hk
      by_cases hki : k < ys.length
      · rw [List.getElem?_append_left hki] at hk
        exact hr k z hk
      · have hk2 : k = ys.length := by
          have : k < (ys ++ [y]).length := by
            rcases Nat.lt_or_ge k (ys ++ [y]).length with h | h
            · exact h
            · rw [List.getElem?_eq_none h] at hk; cases hk
          simp at this
          omega
        subst hk2
        simp at hk
        rw [← hk, hl]
        exact hy
  exact key n 0 [] (by omega) rfl (by intro k y h; simp at h)
/-- the range that a comprehension (its own name a cell) goes over, and its elements -/
noncomputable def SrcC (prog : Program) (w : World) (A : Around) (h₀ : Heap) (L : Addr) (m : Str → Option Value) (env : Env) (elt : Expr) (x : Str) (scope : Scope) (cl : List (Str × Addr)) (Fin : Shared → List Value → List (Addr × Obj) → Prop) (xv : Value) (s₁ : Shared) : Prop :=
  ∃ r a b t u v n news, xv = .ref r ∧ A.handled = none ∧ Fr h₀ L s₁.heap m ∧ News h₀ L s₁.heap news ∧ IsRange s₁.heap r a b 1 t u v ∧ Builtin.Range.small a b 1 = true ∧ Builtin.Range.rangeSize a b 1 = ((n : Nat) : Int) ∧ n ≤ sizeLine ∧
    ∀ s₂ : Shared, (∃ h, s₂ = { s₁ with heap := h }) → CompRestC prog w A h₀ L m env elt x scope cl s₂ (fun _ => True) (fun i v => ∃ t, v = .int (a + (i : Int)) t) (Fin s₂) n 0 [] news
theorem Assign_ListComp_C {elt iter : Expr} {x y : Str} {px py : Pos} {scope : Scope} {cl : List (Str × Addr)} {pos spos : Pos} {Q : Flow → Shared → Prop} (F₀ : Fr h₀ L s.heap m) (hLe : env.locals = L)
    (hsw : swapsWith (.ListComp elt [⟨.Name x px, iter, [], 0⟩] scope pos) (some (.Name y py)) spos.line env = pure true)
    (hclos : closureFor scope env = pure cl) (hcf : ∀ n, cellsFrom n scope.names cl = (x, n) :: cl) (hpc : ∀ h, pushCells h scope.names = h.push (cellOf none)) (hkind : scope.kind = .function)
    (hnames : ∀ z ∈ scope.names, z.2 = .local → scope.names.lookup z.1 = some .local) (hx : ∀ C K, (compEnvC scope ((x, K) :: cl) C env).kindOf x = some .cell)
    (hy : env.kindOf y = some .local) (hp : (env.scope.kind == .class || (env.scope.kind == .module && env.locals != env.globals)) = false)
    (h : wpAny (model prog w) A (eval iter env) (SrcC prog w A h₀ L m env elt x scope cl (fun s₂ => FinA h₀ L m s₂ y Q)) E s)
    (hs : ∀ x, foldedSetIterable iter env x = pure x := by intro _; rfl) :
    wpAny (model prog w) A (exec (.Assign [.Name y py] (.ListComp elt [⟨.Name x px, iter, [], 0⟩] scope pos) spos) env) Q E s := by
  subst hLe
  rw [exec_Assign_Name_used _ _ _ _ hsw]
  refine wpAny_bind (wpAny_standAt (wpAny_bind ?_))
  show wpAny _ A (do let _ ← comprehension (.ListComp elt [⟨.Name x px, iter, [], 0⟩] scope pos) scope env _ (newList []) false (eval iter env) (some (assign (.Name y py) env))) _ _ s
  refine wpAny_bind (wpAny_mono (wpAny_comprehension_free (use := some (assign (.Name y py) env)) (Q := fun _ s' => Q .next s') rfl hs hclos hkind hnames
    (wpAny_mono h (fun xv s₁ h₁ => ?_) fun _ _ e => e)) (fun _ s' hq => wpAny_pure (wpAny_pure hq)) fun _ _ e => e)
  obtain ⟨r, a, b, t, u, v, n, news, rfl, hh, F, N, hr, hsm, hn, hsz, R⟩ := h₁
  refine wpAny_pyIter_range hr hsm ?_
  refine block_C (range_walks hh a n) hsz (fun i h st => ⟨_, st⟩) range_st hcf hpc hkind hx (by show IsRangeIter _ _ _ _ _; rw [hn]; simpa using Heap.get?_push_size _ rfl) (fun b hb => ?_)
    (F.keeps fun _ _ e => Heap.get?_push_of_some _ e) (N.grown fun _ _ e => Heap.get?_push_of_some _ e) (Nat.ne_of_lt F.ns.lt) (next_is_new F) (fun p hp => Nat.ne_of_lt (Heap.lt_size (N p hp).1)) trivial (R _ ⟨_, rfl⟩) ?_
  · rw [List.mem_singleton.mp hb]
    show s₁.heap.objs.size < (s₁.heap.push _).objs.size
    rw [Heap.size_push]; exact Nat.lt_succ_self _
  · intro D C h' tk m' ys news' F' N' o1 hn hC₀ hD₀ hCL hDL hCD offC fin
    show wpAny _ A (assign (.Name y py) env (.ref D)) _ _ _
    refine wpAny_assign_Name (wpAny_storeName_local hy F'.ns (fun h₂ hn₂ hs₂ => ?_) hp)
    have hL₀ : h₀.get? env.locals = none := Heap.get?_none_of_le F'.above
    have F₂ : Fr h₀ env.locals h₂ (fun z => if z = y then some (.ref D) else m z) := ⟨hn₂, fun b o e => hs₂.extBut b o (fun q => by rw [q, hL₀] at e; cases e) (F'.keep b o e), F'.above⟩
    have off1 : ∀ l : List (Addr × Obj), (∀ p ∈ l, p.1 ≠ D) → Off1 D l := fun l => by
      induction l with
      | nil => intro _; exact trivial
      | cons p l ih => intro hq; exact ⟨hq p (List.mem_cons_self ..), ih fun q hq' => hq q (List.mem_cons_of_mem _ hq')⟩
    refine ⟨m', hn.sameBut hs₂ hCL, fun h'' hs'' => fin D h'' _ (F₂.change hs'' hCL hC₀) (fun p hp => ?_) (off1 _ o1)⟩
    have z : h₂.get? p.1 = some p.2 := hs₂.extBut _ _ (N' p hp).2.1 (N' p hp).1
    refine ⟨hs''.extBut _ _ ?_ z, (N' p hp).2⟩
    rcases List.mem_cons.mp hp with rfl | hp
    · exact Ne.symm hCD
    · exact offC p hp
/-- a for over a range of n turns, by what holds between them -/
theorem rng_iter {body : List Stmt} {Q : Flow → Shared → Prop} {x : Str} {r : Addr} {a₀ b₀ : Int} {t₀ u₀ v₀ : Tok} {n : Nat} {m₀ : Str → Option Value} {news : List (Addr × Obj)} (J : Nat → (Str → Option Value) → List (Addr × Obj) → Prop)
    (hh : A.handled = none) (hr : IsRange s.heap r a₀ b₀ 1 t₀ u₀ v₀) (hsmall : Builtin.Range.small a₀ b₀ 1 = true) (hsz : Builtin.Range.rangeSize a₀ b₀ 1 = (n : Int)) (F : Fr h₀ env.locals s.heap m₀) (N : News h₀ env.locals s.heap news) (hj : J 0 m₀ news)
    (turn : ∀ i t m₁ nx h tk own, i < n → PySem.W.OwnOff own (nx.map (·.1)) → J i m₁ nx → Fr h₀ env.locals h (fun y => if y = x then some (.int (a₀ + (i : Int)) t) else m₁ y) → News h₀ env.locals h (nx ++ own) →
      wpAny (model prog w) A (execs body env) (PySem.W.InvPostG h₀ env.locals (J (i + 1)) own { s with heap := h, toks := tk } Q) E { s with heap := h, toks := tk })
    (done : ∀ m₁ nx h tk, J n m₁ nx → Fr h₀ env.locals h m₁ → News h₀ env.locals h nx → Q .next { s with heap := h, toks := tk }) :
    wpAny (model prog w) A (pyIter (.ref r)) (fun it s₂ => LoopAtV prog w A h₀ env x body Q E it s₂) E s := by
  refine wpAny_pyIter_range hr hsmall ?_
  have Wk : Walks prog w A s.heap.objs.size [s.heap.objs.size] [s.heap.objs.size] n (fun i v => i < n ∧ ∃ t, v = .int (a₀ + i * 1) t)
      (fun i h => IsRangeIter h s.heap.objs.size (a₀ + (i : Nat) * 1) ((n : Int) - (i : Nat)) 1) := (Walks.range hh _ a₀ 1 n).bound
  refine PySem.W.kdr_loop J Wk (fun _ h => h) (fun _ h => h) ?_ ?_ ?_ ?_ (by show IsRangeIter _ _ _ _ _; rw [hsz]; simpa using Heap.get?_push_size _ rfl) (F.push _) (fun p hp => ⟨Heap.get?_push_of_some _ (N p hp).1, (N p hp).2⟩) hj ?_ ?_
  · intro i h hi b hb
    rw [List.mem_singleton.mp hb]
    exact ⟨_, hi⟩
  · intro hm
    exact absurd F.ns.lt ((List.mem_singleton.mp hm) ▸ Nat.lt_irrefl _)
  · intro b hb
    rw [List.mem_singleton.mp hb]
    exact next_is_new F
  · intro p hp hI
    exact absurd (Heap.lt_size (N p hp).1) ((List.mem_singleton.mp hI) ▸ Nat.lt_irrefl _)
  · rintro i v m₁ nx h tk own hin ⟨_, t, rfl⟩ hoff hJ F₁ N₁
    rw [Int.mul_one] at F₁
    exact turn i t m₁ nx h tk own hin hoff hJ F₁ N₁
  · intro m₁ nx h tk hJ F₁ N₁
    exact done m₁ nx h tk hJ F₁ N₁
end
end Mine
end

section
open PySem PySem.Calls PyProof.Rows
set_option Elab.async false
set_option maxRecDepth 100000
namespace Mine
section
variable {prog : Program} {w : World} {A : Around} {E : Value → Shared → Prop} {s : Shared} {h₀ : Heap} {L : Addr} {m : Str → Option Value} {news : List (Addr × Obj)}
theorem rsz {a b : Int} {n : Nat} (h : b = a + (n : Int)) : Builtin.Range.rangeSize a b 1 = (n : Int) := by
  unfold Builtin.Range.rangeSize
  subst h
  simp only [show (1 : Int) > 0 by decide, if_true]
  split <;> omega
theorem item_any {value slice : Expr} {D : Addr} {its : List Value} {n : Nat} {k : Int} {u : Tok} {v : Value} {Q : Value → Shared → Prop} (N : News h₀ L s.heap news) (hD : (D, PySem.W.listOf its.toArray n) ∈ news)
    (h0 : 0 ≤ k) (hhi : k < 2 ^ 63) (hx : its[k.toNat]? = some v) (h : Q v s)
    (hs : subscripted slice false (.ref D) (.int k u) = operate [.ref D, .int k u] (getItem (.ref D) (.int k u)) := by with_unfolding_all rfl) :
    wpAny (model prog w) A (subscriptTail value slice (.ref D) (.int k u)) Q E s :=
  have hl : s.heap.IsList D its.toArray := ⟨_, (N _ hD).1, rfl, n, rfl⟩
  tail_any hl.typeIs slot_list_getitem.lookup (wpAny_getItem_list hl h0 hhi (by simpa using hx) h) hs
theorem fdiv60_n {b : Int} {t u : Tok} {n : Nat} {Q : Value → Shared → Prop} (hb : b = (n : Int)) (h1 : 1 ≤ n) (h6 : n ≤ 6) (h : Q (.int ((60 / n : Nat) : Int) s.toks) { s with toks := s.toks + 1 }) :
    wpAny (model prog w) A (binaryOp .FloorDiv (.int 60 t) (.int b u)) Q E s := by
  subst hb
  have h2 : n = 1 ∨ n = 2 ∨ n = 3 ∨ n = 4 ∨ n = 5 ∨ n = 6 := by omega
  rcases h2 with rfl | rfl | rfl | rfl | rfl | rfl
  all_goals exact PyProof.Rows.floordiv_int (by decide) h
theorem range_any {Q : Value → Shared → Prop} {a b : Int} {t u : Tok} (F : Fr h₀ L s.heap m) (N : News h₀ L s.heap news)
    (h : ∀ h' tk t₁ u₁ v₁, IsRange h' s.heap.objs.size a b 1 t₁ u₁ v₁ → Fr h₀ L h' m → News h₀ L h' news → Q (.ref s.heap.objs.size) { s with heap := h', toks := tk }) :
    wpAny (model prog w) A (call (.type "range") [.int a t, .int b u]) Q E s := range2_rows F N fun h' tk t₁ u₁ v₁ hr F' N' _ => h h' tk t₁ u₁ v₁ hr F' N'
end
theorem range_any1 {prog : Program} {w : World} {A : Around} {E : Value → Shared → Prop} {s : Shared} {h₀ : Heap} {L : Addr} {m : Str → Option Value} {news : List (Addr × Obj)} {Q : Value → Shared → Prop} {b : Int} {u : Tok} (F : Fr h₀ L s.heap m) (N : News h₀ L s.heap news)
    (h : ∀ h' tk t₁ u₁ v₁, IsRange h' s.heap.objs.size 0 b 1 t₁ u₁ v₁ → Fr h₀ L h' m → News h₀ L h' news → Q (.ref s.heap.objs.size) { s with heap := h', toks := tk }) :
    wpAny (model prog w) A (call (.type "range") [.int b u]) Q E s := range1_rows F N fun h' tk t₁ u₁ v₁ hr F' N' _ => h h' tk t₁ u₁ v₁ hr F' N'
theorem small6 {a : Int} (h0 : 0 ≤ a) (h1 : a ≤ 6) {b : Int} (h2 : 0 ≤ b) (h3 : b ≤ 7) : Builtin.Range.small a b 1 = true := by
  obtain ⟨n, rfl⟩ : ∃ n : Nat, a = n := ⟨a.toNat, by omega⟩
  obtain ⟨k, rfl⟩ : ∃ n : Nat, b = n := ⟨b.toNat, by omega⟩
  have hn : n = 0 ∨ n = 1 ∨ n = 2 ∨ n = 3 ∨ n = 4 ∨ n = 5 ∨ n = 6 := by omega
  have hk : k = 0 ∨ k = 1 ∨ k = 2 ∨ k = 3 ∨ k = 4 ∨ k = 5 ∨ k = 6 ∨ k = 7 := by omega
  rcases hn with rfl | rfl | rfl | rfl | rfl | rfl | rfl <;> rcases hk with rfl | rfl | rfl | rfl | rfl | rfl | rfl | rfl <;> rfl
theorem ints_snoc {vs : List Value} {ns : List Int} {k : Int} {t : Tok} (h : IntsAre vs ns) : IntsAre (vs ++ [.int k t]) (ns ++ [k]) := IntsAre.append h (.cons k t .nil)
section
variable {prog : Program} {w : World} {A : Around} {E : Value → Shared → Prop} {s : Shared} {env : Env} {h₀ : Heap}
/-- a turn's end that goes on -/
noncomputable def NextEnd (h₀ : Heap) (L : Addr) (J : (Str → Option Value) → List (Addr × Obj) → Prop) (own : List (Addr × Obj)) (s₁ : Shared) (f : Flow) (s₂ : Shared) : Prop := f = .next ∧ PySem.W.InvEndG h₀ L J own s₁ s₂
/-- a for over a range whose target is any place (a cell), by what holds between the turns -/
theorem rng_iterT {target : Expr} {body : List Stmt} {Q : Flow → Shared → Prop} {r : Addr} {a₀ b₀ : Int} {t₀ u₀ v₀ : Tok} {n : Nat} {m₀ : Str → Option Value} {news : List (Addr × Obj)} (J : Nat → (Str → Option Value) → List (Addr × Obj) → Prop)
    (hh : A.handled = none) (hr : IsRange s.heap r a₀ b₀ 1 t₀ u₀ v₀) (hsmall : Builtin.Range.small a₀ b₀ 1 = true) (hsz : Builtin.Range.rangeSize a₀ b₀ 1 = (n : Int)) (F : Fr h₀ env.locals s.heap m₀) (N : News h₀ env.locals s.heap news) (hj : J 0 m₀ news)
    (hgo : ∀ it v, letOwnedTupleGo target it v = pure ())
    (turn : ∀ i t m₁ nx (s₁ : Shared) own, i < n → PySem.W.OwnOff own (nx.map (·.1)) → J i m₁ nx → Fr h₀ env.locals s₁.heap m₁ → News h₀ env.locals s₁.heap (nx ++ own) →
      wpAny (model prog w) A (assign target env (.int (a₀ + (i : Int)) t)) (fun _ s₃ => wpAny (model prog w) A (execs body env) (NextEnd h₀ env.locals (J (i + 1)) own s₁) E s₃) E s₁)
    (done : ∀ m₁ nx h tk, J n m₁ nx → Fr h₀ env.locals h m₁ → News h₀ env.locals h nx → Q .next { s with heap := h, toks := tk }) :
    wpAny (model prog w) A (pyIter (.ref r)) (fun it s₂ => LoopAtT prog w A h₀ env target body Q E it s₂) E s := by
  refine wpAny_pyIter_range hr hsmall ?_
  have Wk : Walks prog w A s.heap.objs.size [s.heap.objs.size] [s.heap.objs.size] n (fun i v => i < n ∧ ∃ t, v = .int (a₀ + i * 1) t)
      (fun i h => IsRangeIter h s.heap.objs.size (a₀ + (i : Nat) * 1) ((n : Int) - (i : Nat)) 1) := (Walks.range hh _ a₀ 1 n).bound
  refine ⟨s.heap.objs.size, _, _, n, _, _, m₀, news, J, rfl, Wk, ?_, ?_, ?_, (by show IsRangeIter _ _ _ _ _; rw [hsz]; simpa using Heap.get?_push_size _ rfl), F.push _, (fun p hp => ⟨Heap.get?_push_of_some _ (N p hp).1, (N p hp).2⟩), ?_, hj, ?_, ?_⟩
  · intro hm
    exact absurd F.ns.lt ((List.mem_singleton.mp hm) ▸ Nat.lt_irrefl _)
  · intro b hb
    rw [List.mem_singleton.mp hb]
    exact next_is_new F
  · intro p hp hI
    exact absurd (Heap.lt_size (N p hp).1) ((List.mem_singleton.mp hI) ▸ Nat.lt_irrefl _)
  · intro i s' v Q' _ hq
    rw [hgo]
    exact wpAny_pure hq
  · rintro i v m₁ news₁ s₁ own hin ⟨_, t, rfl⟩ hJ hoff hown hget hmem hst' F₁ N₁
    rw [Int.mul_one]
    have hsep : PySem.W.OwnOff own (news₁.map (·.1)) := by
      intro p hp b hb e
      obtain ⟨q, hq, rfl⟩ := List.mem_map.mp hb
      exact hoff q hq (e ▸ hown p hp)
    have N₂ : News h₀ env.locals s₁.heap (news₁ ++ own) := fun p hp => N₁ p ((List.mem_append.mp hp).elim (fun h => List.mem_append.mpr (.inr h)) fun h => List.mem_append.mpr (.inl h))
    refine wpAny_mono (turn i t m₁ news₁ s₁ own hin hsep hJ F₁ N₂) (fun _ s₃ h₃ => wpAny_mono h₃ (fun f s₄ p => ?_) fun _ _ e => e) fun _ _ e => e
    have fin : PySem.W.InvEndG h₀ env.locals (J (i + 1)) own s₁ s₄ → LoopStepU h₀ env.locals [s.heap.objs.size] own (J (i + 1)) s₁ .next s₄ := by
      rintro ⟨h', tk, m', news', nx, e, F', N', hn, ho, ha, hm⟩
      refine ⟨rfl, h', tk, m', nx, e, F', fun p hp => N' p ((List.mem_append.mp hp).elim (ho p) (hn p)), fun p hp hq => ?_, hm⟩
      have st' : IsRangeIter s₁.heap s.heap.objs.size (a₀ + ((i + 1 : Nat) : Int) * 1) ((n : Int) - ((i + 1 : Nat) : Int)) 1 := hst'
      have st2 : s₁.heap.get? s.heap.objs.size = some _ := st'
      have h0 : h₀.get? s.heap.objs.size = none := next_is_new F
      exact ha _ (hmem _ (List.mem_singleton.mpr rfl) h0 _ st2) p.1 (List.mem_map.mpr ⟨p, hp, rfl⟩) (List.mem_singleton.mp hq).symm
    obtain ⟨rfl, p⟩ := p
    exact fin p
  · intro h' tk m' news' F' N' _ hJ
    exact done m' news' h' tk hJ F' N'
end
section
variable {prog : Program} {w : World} {A : Around} {E : Value → Shared → Prop} {s : Shared} {env : Env} {h₀ : Heap} {L : Addr} {m : Str → Option Value} {news : List (Addr × Obj)}
/-- a store into a cell of the ledger -/
theorem store_cell {name : Str} {c : Addr} {oE : Obj} {v₀ : Option Value} {v : Value} {rest : List (Addr × Obj)} {Q : Unit → Shared → Prop} (F : Fr h₀ L s.heap m) (N : News h₀ L s.heap news) (hm : (c, oE) ∈ news) (hd : oE.data = .cell v₀)
    (hrest : ∀ p ∈ rest, p ∈ news ∧ p.1 ≠ c) (hk : env.scope.kind = .function) (hl : env.kindOf name = some .cell) (hc : env.cells.lookup name = some c)
    (h : ∀ h' oE', oE'.data = .cell (some v) → Fr h₀ L h' m → News h₀ L h' ((c, oE') :: rest) → Q () { s with heap := h' }) : wpAny (model prog w) A (storeName env name v) Q E s := by
  have z := N _ hm
  refine wpAny_storeName_cell hk hl hc ⟨oE, z.1, hd⟩ (fun h' hc' hs' => ?_)
  obtain ⟨oE', e, hd'⟩ := hc'
  refine h h' oE' hd' (F.change hs' z.2.1 z.2.2) ?_
  intro p hp
  rcases List.mem_cons.mp hp with rfl | hp
  · exact ⟨e, z.2⟩
  · obtain ⟨h1, h2⟩ := hrest p hp
    exact ⟨(hs'.2 p.1 h2).trans (N p h1).1, (N p h1).2⟩
end
section
variable {prog : Program} {w : World} {A : Around} {E : Value → Shared → Prop} {s : Shared} {h₀ : Heap} {L : Addr} {m : Str → Option Value} {news : List (Addr × Obj)}
/-- a part of a list of ints -/
theorem slice_T {value slice : Expr} {D : Addr} {vals : List Value} {k : Nat} {ns : List Int} {x y : Int} {tx ty : Tok} {Q : Value → Shared → Prop} (F : Fr h₀ L s.heap m) (N : News h₀ L s.heap news) (hD : (D, PySem.W.listOf vals.toArray k) ∈ news)
    (hi : IntsAre vals ns) (h0 : 0 ≤ x ∧ x ≤ y ∧ y ≤ ns.length) (hl : vals.length ≤ 1000)
    (h : ∀ S (us : List Value) h', Fr h₀ L h' m → News h₀ L h' ((S, PySem.W.listOf us.toArray 0) :: news) → IntsAre us ((ns.drop x.toNat).take (y - x).toNat) → Q (.ref S) { s with heap := h' })
    (hs : subscripted slice false (.ref D) (.ref s.heap.objs.size) = operate [.ref s.heap.objs.size, .ref D] (getItem (.ref D) (.ref s.heap.objs.size)) := by with_unfolding_all rfl)
    (ht : ∀ r, letTemporaryGo value (.ref D) r = pure () := by intro _; with_unfolding_all rfl) :
    wpAny (model prog w) A (subscriptTail value slice (.ref D) (.ref s.heap.objs.size)) Q E { s with heap := s.heap.push { cls := .type "slice", data := .fields #[.int x tx, .int y ty, .none] } } := by
  have hl' : s.heap.IsList D vals.toArray := ⟨_, (N _ hD).1, rfl, k, rfl⟩
  refine slice_list F N hl' (.int x tx) (.int y ty) (fun h' F' N' => ?_) hs ht (by rw [sizeLine_eq, List.size_toArray]; omega)
  exact h _ (slicePick vals.toArray (some x) (some y) none).toList h' F' (by simpa using N') (slice_ints hi h0.1 h0.2.1 h0.2.2)
end
end Mine
end

section
open PySem PySem.W PySem.Calls PyProof.Rows
set_option Elab.async false
set_option maxRecDepth 100000
namespace Mine
theorem part_get (g : Nat → Int) {d c e : Nat} (h1 : d ≤ c) (h2 : c ≤ e) (h3 : e < 6) : (((List.range (6 - d)).map fun x => g (d + x)).drop (c - d)).take (e + 1 - c) = (List.range (e + 1 - c)).map fun x => g (c + x) := by
  apply List.ext_getElem?
  intro i
  by_cases hi : i < e + 1 - c
  · rw [List.getElem?_take_of_lt hi, List.getElem?_drop, List.getElem?_map, List.getElem?_range (by omega), List.getElem?_map, List.getElem?_range hi]
    simp only [Option.map_some]
    rw [show d + (c - d + i) = c + i by omega]
  · rw [List.getElem?_eq_none (by simp; omega), List.getElem?_eq_none (by simp; omega)]
/-- the values of a list, each by a relation -/
theorem ints_of_rel {P : Nat → Nat → Prop} {ys : List Value} (h : ∀ i y, ys[i]? = some y → ∃ (M : Nat) (t : Tok), y = .int (M : Int) t ∧ P i M) :
    ∃ f : Nat → Nat, IntsAre ys ((List.range ys.length).map fun i => ((f i : Nat) : Int)) ∧ ∀ i, i < ys.length → P i (f i) := by
  have h' : ∀ i, ∃ M : Nat, i < ys.length → ∃ t : Tok, ys[i]? = some (.int (M : Int) t) ∧ P i M := by
    intro i
    by_cases hi : i < ys.length
    · obtain ⟨M, t, e, p⟩ := h i ys[i] (List.getElem?_eq_getElem hi)
      exact ⟨M, fun _ => ⟨t, by rw [List.getElem?_eq_getElem hi, e], p⟩⟩
    · exact ⟨0, fun h => absurd h hi⟩
  refine ⟨fun i => Classical.choose (h' i), ?_, fun i hi => (Classical.choose_spec (h' i) hi).choose_spec.2⟩
  have key : ∀ (zs : List Value) (f : Nat → Nat), (∀ i, i < zs.length → ∃ t, zs[i]? = some (.int ((f i : Nat) : Int) t)) → IntsAre zs ((List.range zs.length).map fun i => ((f i : Nat) : Int)) := by
    intro zs
    induction zs with
    | nil => intro f _; exact .nil
    | cons v zs ih =>
      intro f hf
      obtain ⟨t, ht⟩ := hf 0 (by simp)
      simp at ht
      subst ht
      rw [List.length_cons, List.range_succ_eq_map, List.map_cons, List.map_map]
      exact .cons _ t (ih (fun i => f (i + 1)) fun i hi => by
        obtain ⟨t, ht⟩ := hf (i + 1) (by simpa using hi)
        exact ⟨t, by simpa using ht⟩)
  exact key ys _ fun i hi => ⟨_, (Classical.choose_spec (h' i) hi).choose_spec.1⟩
section
variable {prog : Program} {w : World} {A : Around} {E : Value → Shared → Prop} {s : Shared} {h₀ : Heap} {L : Addr} {m : Str → Option Value} {news : List (Addr × Obj)}
theorem min_T {D : Addr} {us : List Value} {k : Nat} {ns : List Int} {Q : Value → Shared → Prop} (F : Fr h₀ L s.heap m) (N : News h₀ L s.heap news) (hD : (D, PySem.W.listOf us.toArray k) ∈ news) (hi : IntsAre us ns) (hne : 0 < ns.length) (hh : A.handled = none)
    (h : ∀ h' M (t : Tok) tk, Fr h₀ L h' m → News h₀ L h' news → M ∈ ns → (∀ a, a ∈ ns → M ≤ a) → Q (.int M t) { s with heap := h', toks := tk }) : wpAny (model prog w) A (call (.builtin "min") [.ref D]) Q E s :=
  kso_min F N ⟨_, (N _ hD).1, rfl, k, rfl⟩ hi hne hh h
theorem max_T {D : Addr} {us : List Value} {k : Nat} {ns : List Int} {Q : Value → Shared → Prop} (F : Fr h₀ L s.heap m) (N : News h₀ L s.heap news) (hD : (D, PySem.W.listOf us.toArray k) ∈ news) (hi : IntsAre us ns) (hne : 0 < ns.length) (hh : A.handled = none)
    (h : ∀ h' M (t : Tok) tk, Fr h₀ L h' m → News h₀ L h' news → M ∈ ns → (∀ a, a ∈ ns → a ≤ M) → Q (.int M t) { s with heap := h', toks := tk }) : wpAny (model prog w) A (call (.builtin "max") [.ref D]) Q E s :=
  kso_max F N ⟨_, (N _ hD).1, rfl, k, rfl⟩ hi hne hh h
theorem sum_T {D : Addr} {us : List Value} {k : Nat} {ns : List Int} {Q : Value → Shared → Prop} (F : Fr h₀ L s.heap m) (N : News h₀ L s.heap news) (hD : (D, PySem.W.listOf us.toArray k) ∈ news) (hi : IntsAre us ns) (hh : A.handled = none)
    (h : ∀ h' tk t', Fr h₀ L h' m → News h₀ L h' news → Q (.int ns.sum t') { s with heap := h', toks := tk }) : wpAny (model prog w) A (call (.builtin "sum") [.ref D]) Q E s :=
  LSm.sum_ints F N hh ⟨_, (N _ hD).1, rfl, k, rfl⟩ hi h
theorem count_T {D : Addr} {us : List Value} {k : Nat} {ns : List Int} {x : Int} {t : Tok} {Q : Value → Shared → Prop} (N : News h₀ L s.heap news) (hD : (D, PySem.W.listOf us.toArray k) ∈ news) (hi : IntsAre us ns)
    (h : Q (.int (ns.count x : Nat) s.toks) { s with toks := s.toks + 1 }) : wpAny (model prog w) A (call (.builtin "list.count") [.ref D, .int x t]) Q E s :=
  count_list_ints ⟨_, (N _ hD).1, rfl, k, rfl⟩ hi h
end
/-- the greatest of the least is the fit -/
theorem fit_of {z : Nat → Nat} {e k M : Nat} {f : Nat → Nat} (hf : ∀ j, j < k + 1 → (∀ q, k ≤ q → q < e → f j ≤ Tb z j q) ∧ ∃ q, k ≤ q ∧ q < e ∧ f j = Tb z j q)
    (hM : ∃ j, j < k + 1 ∧ M = f j) (hle : ∀ j, j < k + 1 → f j ≤ M) : IsFit z e k M := by
  obtain ⟨j, hj, rfl⟩ := hM
  refine ⟨⟨j, by omega, (hf j hj).1⟩, fun i hi => ?_⟩
  obtain ⟨q, h1, h2, h3⟩ := (hf i (by omega)).2
  exact ⟨q, h1, h2, h3 ▸ hle i (by omega)⟩
theorem sum_sizes (z : Nat → Nat) (a : Nat) : ∀ n : Nat, ((List.range n).map fun x => ((z (a + x) : Nat) : Int)).sum = ((Sm z a n : Nat) : Int)
  | 0 => rfl
  | n + 1 => by
    rw [List.range_succ, List.map_append, List.sum_append, sum_sizes z a n]
    simp [Sm]
end Mine
end

section
open PySem PySem.W PySem.Calls PyProof.Rows
set_option Elab.async false
set_option maxRecDepth 100000
namespace Mine
section
variable {prog : Program} {w : World} {A : Around} {E : Value → Shared → Prop} {s : Shared} {h₀ : Heap} {L : Addr} {m : Str → Option Value} {news : List (Addr × Obj)}
theorem eq_split {a b : Int} {t u : Tok} {Q : Value → Shared → Prop} (h1 : a = b → Q (.bool true) s) (h2 : ¬ a = b → Q (.bool false) s) : wpAny (model prog w) A (compareOp .Eq (.int a t) (.int b u)) Q E s := by
  refine PyProof.Rows.eq_int ?_
  by_cases h : a = b
  · rw [beq_iff_eq.mpr h]; exact h1 h
  · rw [beq_eq_false_iff_ne.mpr h]; exact h2 h
theorem ne_split {a b : Int} {t u : Tok} {Q : Value → Shared → Prop} (h1 : ¬ a = b → Q (.bool true) s) (h2 : a = b → Q (.bool false) s) : wpAny (model prog w) A (compareOp .NotEq (.int a t) (.int b u)) Q E s := by
  refine PyProof.Rows.ne_int ?_
  by_cases h : a = b
  · rw [bne, beq_iff_eq.mpr h]; exact h2 h
  · rw [bne, beq_eq_false_iff_ne.mpr h]; exact h1 h
theorem count_c {D : Addr} {us : List Value} {k : Nat} {ns : List Int} {x : Int} {t : Tok} {c : Nat} {Q : Value → Shared → Prop} (N : News h₀ L s.heap news) (hD : (D, PySem.W.listOf us.toArray k) ∈ news) (hi : IntsAre us ns) (hc : ns.count x = c)
    (h : Q (.int (c : Int) s.toks) { s with toks := s.toks + 1 }) : wpAny (model prog w) A (call (.builtin "list.count") [.ref D, .int x t]) Q E s := by
  subst hc
  exact count_T N hD hi h
theorem part_sum (z : Nat → Nat) {i c : Nat} (h : i + c ≤ 6) : ((((List.range 6).map fun x => ((z x : Nat) : Int)).drop ((i : Int)).toNat).take ((i : Int) + (c : Int) - (i : Int)).toNat).sum = ((Sm z i c : Nat) : Int) := by
  rw [show ((i : Int)).toNat = i by omega, show ((i : Int) + (c : Int) - (i : Int)).toNat = c by omega, ← sum_sizes]
  congr 1
  apply List.ext_getElem?
  intro x
  by_cases hx : x < c
  · rw [List.getElem?_take_of_lt hx, List.getElem?_drop, List.getElem?_map, List.getElem?_range (by omega), List.getElem?_map, List.getElem?_range hx]
    rfl
  · rw [List.getElem?_eq_none (by simp; omega), List.getElem?_eq_none (by simp; omega)]
theorem sum_part {D : Addr} {us : List Value} {k : Nat} {z : Nat → Nat} {i c : Nat} {Q : Value → Shared → Prop} (F : Fr h₀ L s.heap m) (N : News h₀ L s.heap news) (hD : (D, PySem.W.listOf us.toArray k) ∈ news)
    (hi : IntsAre us ((((List.range 6).map fun x => ((z x : Nat) : Int)).drop ((i : Int)).toNat).take ((i : Int) + (c : Int) - (i : Int)).toNat)) (h6 : i + c ≤ 6) (hh : A.handled = none)
    (h : ∀ h' tk t', Fr h₀ L h' m → News h₀ L h' news → Q (.int ((Sm z i c : Nat) : Int) t') { s with heap := h', toks := tk }) : wpAny (model prog w) A (call (.builtin "sum") [.ref D]) Q E s := by
  refine sum_T F N hD hi hh (fun h' tk t' F' N' => ?_)
  rw [part_sum z h6]
  exact h h' tk t' F' N'
end
theorem clk_len {n : Nat} : (clk n).length = 4 := rfl
end Mine
end

section
open PySem PySem.Spec PySem.Calls PyProof.Rows
set_option Elab.async false
set_option maxRecDepth 100000
namespace Mine
open PyProof.Rows.LCg
section
variable {prog : Program} {w : World} {A : Around} {E : Value → Shared → Prop} {s : Shared} {h₀ : Heap} {L : Addr} {m : Str → Option Value} {env : Env}
/-- the elements of a comprehension over a list, one after the other, each by a relation -/
theorem compUL_rest {elt : Expr} {x : Str} {scope : Scope} {cl : List (Str × Addr)} {its : Array Value} {n : Nat} {S : List (Addr × Obj) → Prop} {Fin : List Value → List (Addr × Obj) → Prop} {news : List (Addr × Obj)} (Rel : Nat → Value → Prop) (hS : S news)
    (turn : ∀ i v I oI C oC D m₂ ys h tk (E' : Value → Shared → Prop), i < n → its[i]? = some v → NsObj oC m₂ → m₂ x = some v → Fr h₀ L h m → News h₀ L h ((I, oI) :: (C, oC) :: (D, lst ys) :: news) → Off3 I C D news → ((@Ne Nat I C) ∧ (@Ne Nat I D) ∧ (@Ne Nat C D)) →
      wpAny (model prog w) A (eval elt (compEnvC scope cl C env))
        (fun y s₂ => ∃ h' tk', s₂ = { s with heap := h', toks := tk' } ∧ Fr h₀ L h' m ∧ News h₀ L h' ((I, oI) :: (C, oC) :: (D, lst ys) :: news) ∧ Rel i y) E' { s with heap := h, toks := tk })
    (fin : ∀ ys : List Value, ys.length = n → (∀ i y, ys[i]? = some y → Rel i y) → Fin ys news) :
    CompRest prog w A h₀ L m env elt x scope cl s S (fun i v => its[i]? = some v) Fin n 0 [] news := by
  have key : ∀ (j i : Nat) (ys : List Value), i + j = n → ys.length = i → (∀ k y, ys[k]? = some y → Rel k y) → CompRest prog w A h₀ L m env elt x scope cl s S (fun i v => its[i]? = some v) Fin j i ys news := by
    intro j
    induction j with
    | zero =>
      intro i ys hi hl hr
      exact fin ys (by omega) hr
    | succ j ih =>
      intro i ys hi hl hr v I oI C oC D m₂ h tk E' hv hC hx F N off ne
      refine wpAny_mono (turn i v I oI C oC D m₂ ys h tk E' (by omega) hv hC hx F N off ne) (fun y s₂ hq => ?_) fun _ _ e => e
      obtain ⟨h', tk', e, F', N', hy⟩ := hq
      refine ⟨h', tk', news, e, F', N', off, hS, ih (i + 1) _ (by omega) (by simp [hl]) ?_⟩
      intro k z hk
      by_cases hki : k < ys.length
      · rw [List.getElem?_append_left hki] at hk
        exact hr k z hk
      · have hk2 : k = ys.length := by
          have : k < (ys ++ [y]).length := by
            rcases Nat.lt_or_ge k (ys ++ [y]).length with h | h
            · exact h
            · rw [List.getElem?_eq_none h] at hk; cases hk
          simp at this
          omega
        subst hk2
        simp at hk
        rw [← hk, hl]
        exact hy
  exact key n 0 [] (by omega) rfl (by intro k y h; simp at h)
end
/-- the values of a list, each an int by a relation -/
theorem zs_of_rel {P : Nat → Int → Prop} {ys : List Value} (h : ∀ i y, ys[i]? = some y → ∃ (M : Int) (t : Tok), y = .int M t ∧ P i M) :
    ∃ ns : List Int, IntsAre ys ns ∧ ns.length = ys.length ∧ ∀ i M, ns[i]? = some M → P i M := by
  have key : ∀ (zs : List Value) (P : Nat → Int → Prop), (∀ i y, zs[i]? = some y → ∃ (M : Int) (t : Tok), y = .int M t ∧ P i M) → ∃ ns : List Int, IntsAre zs ns ∧ ns.length = zs.length ∧ ∀ i M, ns[i]? = some M → P i M := by
    intro zs
    induction zs with
    | nil => intro P _; exact ⟨[], .nil, rfl, fun i M h => by simp at h⟩
    | cons v zs ih =>
      intro P hf
      obtain ⟨M, t, rfl, hp⟩ := hf 0 v (by simp)
      obtain ⟨ns, h1, h2, h3⟩ := ih (fun i M => P (i + 1) M) (fun i y hy => hf (i + 1) y (by simpa using hy))
      refine ⟨M :: ns, .cons M t h1, by simp [h2], fun i N hN => ?_⟩
      cases i with
      | zero => simp at hN; exact hN ▸ hp
      | succ i => exact h3 i N (by simpa using hN)
  exact key ys P h
theorem six_of {us : List Value} {ns : List Int} (h : IntsAre us ns) (h6 : ns.length = 6) (hn : ∀ n ∈ ns, 0 ≤ n ∧ n < 1000000) :
    ∃ (c0 c1 c2 c3 c4 c5 : Nat) (t0 t1 t2 t3 t4 t5 : Tok), us = [.int (c0 : Int) t0, .int (c1 : Int) t1, .int (c2 : Int) t2, .int (c3 : Int) t3, .int (c4 : Int) t4, .int (c5 : Int) t5] ∧
      c0 < 1000000 ∧ c1 < 1000000 ∧ c2 < 1000000 ∧ c3 < 1000000 ∧ c4 < 1000000 ∧ c5 < 1000000 := by
  have step : ∀ {us : List Value} {ns : List Int} {k : Nat}, IntsAre us ns → ns.length = k + 1 → (∀ n ∈ ns, 0 ≤ n ∧ n < 1000000) →
      ∃ (c : Nat) (t : Tok) (us' : List Value) (ns' : List Int), us = .int (c : Int) t :: us' ∧ c < 1000000 ∧ IntsAre us' ns' ∧ ns'.length = k ∧ ∀ n ∈ ns', 0 ≤ n ∧ n < 1000000 := by
    intro us ns k h hl hn
    cases h with
    | nil => simp at hl
    | @cons n t vs' ns' h' =>
      have h1 := hn n (by simp)
      refine ⟨n.toNat, t, vs', ns', by rw [show ((n.toNat : Nat) : Int) = n by omega], by omega, h', by simpa using hl, fun m hm => hn m (by simp [hm])⟩
  obtain ⟨c0, t0, us1, ns1, rfl, b0, h, h6, hn⟩ := step h h6 hn
  obtain ⟨c1, t1, us2, ns2, rfl, b1, h, h6, hn⟩ := step h h6 hn
  obtain ⟨c2, t2, us3, ns3, rfl, b2, h, h6, hn⟩ := step h h6 hn
  obtain ⟨c3, t3, us4, ns4, rfl, b3, h, h6, hn⟩ := step h h6 hn
  obtain ⟨c4, t4, us5, ns5, rfl, b4, h, h6, hn⟩ := step h h6 hn
  obtain ⟨c5, t5, us6, ns6, rfl, b5, h, h6, hn⟩ := step h h6 hn
  cases h with
  | nil => exact ⟨c0, c1, c2, c3, c4, c5, t0, t1, t2, t3, t4, t5, rfl, b0, b1, b2, b3, b4, b5⟩
  | cons => simp at h6
end Mine
end

section
open PySem PySem.W PyProof.Rows
set_option Elab.async false
set_option maxRecDepth 100000
set_option maxHeartbeats 8000000
namespace Mine
section
variable {prog : Program} {w : World} {A : Around} {E : Value → Shared → Prop} {s : Shared} {h₀ : Heap} {L : Addr} {m : Str → Option Value} {news : List (Addr × Obj)}
theorem fdiv_nat {a : Nat} {b : Int} {k : Nat} {t u : Tok} {Q : Value → Shared → Prop} (hb : b = (k : Int)) (hk : 0 < k) (hk2 : k < 1073741824) (h : Q (.int ((a / k : Nat) : Int) s.toks) { s with toks := s.toks + 1 }) :
    wpAny (model prog w) A (binaryOp .FloorDiv (.int (a : Int) t) (.int b u)) Q E s := by
  subst hb
  refine PyProof.Rows.floordiv_int (by omega) ?_ (.inl (PyProof.noPylong_small (by omega)))
  rw [Int.fdiv_eq_ediv_of_nonneg _ (by omega), ← Int.natCast_ediv]
  exact h
theorem mod_nat {a : Nat} {b : Int} {k : Nat} {t u : Tok} {Q : Value → Shared → Prop} (hb : b = (k : Int)) (hk : 0 < k) (h : Q (.int ((a % k : Nat) : Int) s.toks) { s with toks := s.toks + 1 }) :
    wpAny (model prog w) A (binaryOp .Mod (.int (a : Int) t) (.int b u)) Q E s := by
  subst hb
  refine PyProof.Rows.mod_int (by omega) ?_
  rw [Int.fmod_eq_emod_of_nonneg _ (by omega), ← Int.natCast_emod]
  exact h
theorem log_small {n : Nat} (h : n < 1024) : (Int.natAbs (n : Int)).log2 < 1920 := by
  have : (Int.natAbs (n : Int)) < 1024 := by omega
  by_cases h0 : Int.natAbs (n : Int) = 0
  · rw [h0]; decide
  · have h5 := (Nat.log2_lt h0).mpr (show Int.natAbs (n : Int) < 2 ^ 10 by omega)
    omega
theorem str16 : ∀ v : Fin 16, Str.ofString (toString ((v.val : Int))) = T (if v.val < 10 then [48 + v.val] else [48 + v.val / 10, 48 + v.val % 10]) := by decide +kernel
noncomputable def hrs (n : Nat) : List Nat := if n < 10 then [48 + n] else [48 + n / 10, 48 + n % 10]
theorem hrs_len (n : Nat) : (hrs n).length ≤ 2 := by unfold hrs; split <;> simp
theorem hrs_piece {n : Nat} (h : n < 16) : Piece (hrs n) (60 * n) := by
  unfold hrs
  split
  · exact .one (by omega)
  · have := Piece.two (a := n / 10) (b := n % 10) (by omega) (by omega)
    rwa [show 10 * (n / 10) + n % 10 = n by omega] at this
theorem hrs_piece2 {n k : Nat} (h : n < 16) (hk : k < 100) : Piece (hrs n ++ [48 + k / 10, 48 + k % 10]) (60 * n + k) := by
  unfold hrs
  split
  · have := Piece.three (a := n) (b := k / 10) (d := k % 10) (by omega) (by omega) (by omega)
    rwa [show 10 * (k / 10) + k % 10 = k by omega] at this
  · have := Piece.four (a := n / 10) (b := n % 10) (d := k / 10) (e := k % 10) (by omega) (by omega) (by omega) (by omega)
    rwa [show 10 * (n / 10) + n % 10 = n by omega, show 10 * (k / 10) + k % 10 = k by omega] at this
theorem two_piece {n : Nat} (h : n < 16) : Piece [48 + n / 10, 48 + n % 10] (60 * n) := by
  have := Piece.two (a := n / 10) (b := n % 10) (by omega) (by omega)
  rwa [show 10 * (n / 10) + n % 10 = n by omega] at this
theorem four_piece {n k : Nat} (h : n < 16) (hk : k < 100) : Piece ([48 + n / 10, 48 + n % 10] ++ [48 + k / 10, 48 + k % 10]) (60 * n + k) := by
  have := Piece.four (a := n / 10) (b := n % 10) (d := k / 10) (e := k % 10) (by omega) (by omega) (by omega) (by omega)
  rwa [show 10 * (n / 10) + n % 10 = n by omega, show 10 * (k / 10) + k % 10 = k by omega] at this
theorem str_hrs {n : Nat} {t : Tok} {Q : Value → Shared → Prop} (hn : n < 16) (h : ∀ t' k, Q (.str (T (hrs n)) t') { s with toks := k }) : wpAny (model prog w) A (call (.type "str") [.int (n : Int) t]) Q E s := by
  refine P.str_of_int (log_small (by omega)) ?_
  rw [show (Str.ofString (toString ((n : Nat) : Int))) = T (hrs n) from str16 ⟨n, hn⟩]
  exact h _ _
theorem str_100 {n : Nat} {t : Tok} {Q : Value → Shared → Prop} (hn : n < 100) (h : ∀ t' k, Q (.str (Str.ofString (toString ((100 : Int) + (n : Int)))) t') { s with toks := k }) : wpAny (model prog w) A (call (.type "str") [.int ((100 : Int) + (n : Int)) t]) Q E s := by
  refine P.str_of_int ?_ (h _ _)
  have := log_small (n := 100 + n) (by omega)
  rwa [show (((100 + n : Nat) : Nat) : Int) = 100 + (n : Int) by omega] at this
theorem slice_100 {value slice : Expr} {n : Nat} {t ui : Tok} {Q : Value → Shared → Prop} (F : Fr h₀ L s.heap m) (N : News h₀ L s.heap news) (hn : n < 100)
    (h : ∀ h' t' k, Fr h₀ L h' m → News h₀ L h' news → Q (.str (T [48 + n / 10, 48 + n % 10]) t') { s with heap := h', toks := k })
    (hs : subscripted slice false (.str (Str.ofString (toString ((100 : Int) + (n : Int)))) t) (.ref s.heap.objs.size) = operate [.ref s.heap.objs.size, .str (Str.ofString (toString ((100 : Int) + (n : Int)))) t] (getItem (.str (Str.ofString (toString ((100 : Int) + (n : Int)))) t) (.ref s.heap.objs.size)) := by with_unfolding_all rfl)
    (ht : ∀ r, letTemporaryGo value (.str (Str.ofString (toString ((100 : Int) + (n : Int)))) t) r = pure () := by intro _; with_unfolding_all rfl) :
    wpAny (model prog w) A (subscriptTail value slice (.str (Str.ofString (toString ((100 : Int) + (n : Int)))) t) (.ref s.heap.objs.size)) Q E { s with heap := s.heap.push { cls := .type "slice", data := .fields #[.int 1 ui, .none, .none] } } := by
  refine slice_strN_sn F N (fun h' t' k F' N' => ?_) hs ht (str_fits (by omega) (by omega))
  rw [two_of ⟨n, hn⟩]
  exact h h' t' k F' N'
end
local macro_rules | `(tactic| walk_at "binaryOp FloorDiv int int") => `(tactic| (k_here; first
  | ((with_reducible show wpAny _ _ (binaryOp _ (Value.int (Nat.cast _) _) (Value.int 4 _)) _ _ _); k_dflt (refine' fdiv_nat (k := 4) rfl (by decide) (by decide) ?_; k_whole))
  | ((with_reducible show wpAny _ _ (binaryOp _ (Value.int (Nat.cast _) _) (Value.int 64 _)) _ _ _); k_dflt (refine' fdiv_nat (k := 64) rfl (by decide) (by decide) ?_; k_whole))))
local macro_rules | `(tactic| walk_at "binaryOp Mod int int") => `(tactic| (k_here; first
  | ((with_reducible show wpAny _ _ (binaryOp _ (Value.int (Nat.cast _) _) (Value.int 4 _)) _ _ _); k_dflt (refine' mod_nat (k := 4) rfl (by decide) ?_; k_whole))
  | ((with_reducible show wpAny _ _ (binaryOp _ (Value.int (Nat.cast _) _) (Value.int 16 _)) _ _ _); k_dflt (refine' mod_nat (k := 16) rfl (by decide) ?_; k_whole))
  | ((with_reducible show wpAny _ _ (binaryOp _ (Value.int (Nat.cast _) _) (Value.int 100 _)) _ _ _); k_dflt (refine' mod_nat (k := 100) rfl (by decide) ?_; k_whole))))
local macro_rules | `(tactic| walk_at "call type:str") => `(tactic| (k_here; first
  | ((with_reducible show wpAny _ _ (call (Value.type "str") [Value.int (Nat.cast _) _]) _ _ _); k_dflt (refine' str_hrs ?a ?_; (case a => omega); k_whole; intro _ _))
  | ((with_reducible show wpAny _ _ (call (Value.type "str") [Value.int (100 + Nat.cast _) _]) _ _ _); k_dflt (refine' str_100 ?a ?_; (case a => omega); k_whole; intro _ _))))
local macro_rules | `(tactic| walk_at "subscriptTail Call") => `(tactic| (k_here; (with_reducible show wpAny _ _ (subscriptTail _ (Expr.Slice (some _) none none _) (Value.str (Str.ofString _) _) (Value.ref _)) _ _ _); k_dflt (refine' slice_100 (hn := ?hn) (s := ⟨_, _, _, _, _⟩) (by assumption) (by assumption) ?_; (case hn => omega); k_whole; intro _ _ _ _ _)))
local macro_rules | `(tactic| walk_at "binaryOp Add str str") => `(tactic| (k_here; (with_reducible show wpAny _ _ (binaryOp Operator.Add (Value.str (T _) _) (Value.str (T _) _)) _ _ _); k_dflt (refine' add_eq ?hx ?hy ?hf ?_; (case hx => exact rfl); (case hy => exact rfl); (case hf => (try simp only [List.length_cons, List.length_nil]); omega); k_whole; intro t' tk')))
local macro_rules | `(tactic| walk_at "compareOp Eq int int") => `(tactic| (k_here; k_dflt (refine' eq_split ?_ ?_ <;> intro heq)))
theorem drawn_ok {w : World} {mean : ExcName → Option Value} {mg mb : Str → Option Value} {news : List (Addr × Obj)} {c : Nat} {tc : Tok} :
  ∀ (dp un : Nat) (gd : Option (List Code)) (cn : Str) (cs : Scope) (a : Addr) (ccd : Value) (cl : List (Str × Addr)) (outer : List Env) (A₀ : Around) (base h₀ : Heap) (L : Addr) (m : Str → Option Value) (s : Shared) (Q E : Value → Shared → Prop),
    Below A₀ base outer h₀ → Fr h₀ L s.heap m → (hd.heap_39 w.params).In h₀ → News h₀ L s.heap news → Top hd.view_39 loose0 mean mg mb h₀ → cs.kind = .function → dp + 10 < recursionLimit → un + 100 < cLine →
    (∀ (D : Addr) (p : List Nat) (v : Nat) (x : Str) (k : Int) (tp tv : Tok) (h' : Heap) (tk' : Nat), x = T p → k = (v : Int) → Piece p v → v ≤ 999 → Fr h₀ L h' m → News h₀ L h' ((D, { cls := .type "tuple", data := .seq #[.str x tp, .int k tv] }) :: news) → (∀ q ∈ news, q.1 < D) → Q (.ref D) { s with heap := h', toks := tk' }) →
      wpAny (model PySem.Challenge.rw_wb0005_01.row.prog w) (ktrTop dp un gd cn cs L a ccd cl outer) (call (.ref 77) [.int (c : Int) tc]) Q E s := by
  have hl1 := hrs_len (c / 4 % 16)
  k_fill
  intros
  rename_i hret
  refine wpAny_call ?_
  k_dflt cell_enter
  k_steps
  · rename_i l1 kF kN kT kX
    exact hret _ _ (60 * (c / 4 % 16) + c / 64 % 100) _ _ _ _ _ _ rfl (by omega) (four_piece (by omega) (by omega)) (by omega) kF kN l1
  · rename_i l1 kF kN kT kX
    exact hret _ _ (60 * (c / 4 % 16) + c / 64 % 100) _ _ _ _ _ _ rfl (by omega) (hrs_piece2 (by omega) (by omega)) (by omega) kF kN l1
  · rename_i l1 kF kN kT kX
    exact hret _ _ (60 * (c / 4 % 16)) _ _ _ _ _ _ rfl (by omega) (hrs_piece (by omega)) (by omega) kF kN l1
  · rename_i l1 kF kN kT kX
    exact hret _ _ (60 * (c / 4 % 16)) _ _ _ _ _ _ rfl (by omega) (two_piece (by omega)) (by omega) kF kN l1
end Mine
end

section
open PySem PySem.W PyProof.Rows
set_option Elab.async false
set_option maxRecDepth 100000
set_option maxHeartbeats 8000000
namespace Mine
local macro_rules | `(tactic| walk_at "exec Assign cons ListComp") => `(tactic| (refine halt ?_))
local macro_rules | `(tactic| walk_at "call builtin:min") => `(tactic| (refine halt ?_))
local macro_rules | `(tactic| walk_at "call builtin:max") => `(tactic| (refine halt ?_))
local macro_rules | `(tactic| walk_at "eval ListComp") => `(tactic| (refine halt ?_))
local macro_rules | `(tactic| walk_at "CompSrc") => `(tactic| (refine halt ?_))
local macro_rules | `(tactic| walk_at "subscriptTail Name Slice ref ref") => `(tactic| (refine halt ?_))
local macro_rules | `(tactic| walk_at "exec For Name Call cons nil") => `(tactic| (refine halt ?_))
local macro_rules | `(tactic| walk_at "pyIter ref") => `(tactic| (refine halt ?_))
local macro_rules | `(tactic| walk_at "call type:range") => `(tactic| (k_here; (with_reducible show wpAny _ _ (call _ [Value.int _ _, Value.int _ _]) _ _ _); (rename Fr _ _ _ _ => F'); (rename News _ _ _ _ => N'); (with_unfolding_all refine range_any F' N' ?_; intro _ _ _ _ _ hR' F9 N9)))
local macro_rules | `(tactic| walk_at "call type:range") => `(tactic| (k_here; (with_reducible show wpAny _ _ (call _ [Value.int _ _]) _ _ _); (rename Fr _ _ _ _ => F'); (rename News _ _ _ _ => N'); (with_unfolding_all refine range_any1 F' N' ?_; intro _ _ _ _ _ hR' F9 N9)))
local macro_rules | `(tactic| walk_at "subscriptTail") => `(tactic| (k_here; (with_reducible show wpAny _ _ (subscriptTail _ _ (Value.ref _) (Value.int _ _)) _ _ _); k_dflt (refine' item_any ?N ?D ?a ?b ?x ?_ ?s; (case N => k_asm); (case D => k_mem); (case x => assumption); (case a => omega); (case b => omega); (case s => with_unfolding_all rfl); k_whole)))
local macro_rules | `(tactic| walk_at "binaryOp FloorDiv int int") => `(tactic| (k_here; (with_reducible show wpAny _ _ (binaryOp _ (Value.int 60 _) (Value.int _ _)) _ _ _); k_dflt (refine' fdiv60_n ?e ?a ?b ?_; (case e => assumption); (case a => omega); (case b => omega); k_whole)))
local macro_rules | `(tactic| walk_at "binaryOp Mult int int") => `(tactic| (k_here; k_dflt (refine' mul_T ?a ?b ?_; (case a => first | assumption | omega); (case b => first | assumption | omega); k_whole)))
local macro_rules | `(tactic| walk_at "call builtin:list.append") => `(tactic| (k_here; (with_reducible show wpAny _ _ (call (Value.builtin _) [Value.ref _, _]) _ _ _); k_dflt (refine' append_any ?k1 ?k2 ?k3 ?_ ?z; (case k1 => k_asm); (case k2 => k_asm); (case k3 => k_mem); (case z => assumption); k_whole); intro h' F' N'))
local macro_rules | `(tactic| walk_at "compareOp Eq int int") => `(tactic| (k_here; k_dflt (refine' eq_split ?_ ?_ <;> intro heq)))
local macro_rules | `(tactic| walk_at "compareOp NotEq int int") => `(tactic| (k_here; k_dflt (refine' ne_split ?_ ?_ <;> intro heq)))
local macro_rules | `(tactic| walk_at "call builtin:list.count") => `(tactic| (k_here; (with_reducible show wpAny _ _ (call (Value.builtin _) [Value.ref _, Value.int _ _]) _ _ _); k_dflt (refine' count_c ?N ?D ?hi ?hc ?_; (case N => k_asm); (case D => k_mem); (case hi => assumption); (case hc => assumption); k_whole)))
local macro_rules | `(tactic| walk_at "call builtin:sum") => `(tactic| (refine halt ?_))
local macro_rules | `(tactic| walk_at "call ref") => `(tactic| (refine halt ?_))
local macro_rules | `(tactic| walk_at "binaryOp Add str str") => `(tactic| (k_here; (with_reducible show wpAny _ _ (binaryOp Operator.Add (Value.str _ _) (Value.str _ _)) _ _ _); k_dflt (refine' add_eq ?hx ?hy ?hf ?_; (case hx => first | exact dot_T | exact rfl); (case hy => first | exact dot_T | exact rfl); (case hf => first | assumption | ((try simp only [List.length_append, List.length_cons, List.length_nil, clk_len]); omega)); k_whole; intro t' tk')))
local macro_rules | `(tactic| walk_at "call type:str") => `(tactic| (k_here; (with_reducible show wpAny _ _ (call (Value.type "str") [Value.int (Nat.cast _) _]) _ _ _); k_dflt (refine' str1_T ?a ?_; (case a => omega); k_whole; intro _ _)))
/-- the first i rows of the table, each a list of ints in the ledger -/
noncomputable def RowsAre (z : Nat → Nat) (rows : List (Addr × Obj)) : Prop :=
  ∀ j p, rows[j]? = some p → ∃ vals : List Value, p.2 = listOf vals.toArray vals.length ∧ IntsAre vals ((List.range (6 - j)).map fun x => ((Tb z j (j + x) : Nat) : Int))
/-- between two rows -/
noncomputable def J1 (z : Nat → Nat) (TD : Addr) (base : List (Addr × Obj)) (keep : List (Str × Value)) (i : Nat) (m : Str → Option Value) (nx : List (Addr × Obj)) : Prop :=
  ∃ rows : List (Addr × Obj), rows.length = i ∧ RowsAre z rows ∧ (∀ p ∈ rows, p.1 ≠ TD) ∧ (∀ p ∈ rows, ∀ q ∈ base, p.1 ≠ q.1) ∧ nx = (TD, listOf (rows.map fun p => Value.ref p.1).toArray rows.length) :: (base ++ rows) ∧ ∀ p ∈ keep, m p.1 = some p.2
/-- within a row -/
noncomputable def J2 (z : Nat → Nat) (j : Nat) (RD : Addr) (led : List (Addr × Obj)) (keep : List (Str × Value)) (i : Nat) (m : Str → Option Value) (nx : List (Addr × Obj)) : Prop :=
  ∃ (vals : List Value) (tt : Tok), nx = (RD, listOf vals.toArray vals.length) :: led ∧ IntsAre vals ((List.range i).map fun x => ((Tb z j (j + x) : Nat) : Int)) ∧ m "total" = some (.int ((Sm z j i : Nat) : Int) tt) ∧ ∀ p ∈ keep, m p.1 = some p.2
theorem news_app {h₀ h : Heap} {L D : Addr} {us : List Value} {v : Value} {rest led : List (Addr × Obj)} (N : News h₀ L h ((D, listOf (us.toArray.push v) (us.length + 1)) :: led.filter (fun p => p.1 != D)))
    (hled : ∀ p ∈ rest, p ∈ led) (hne : ∀ p ∈ rest, p.1 ≠ D) : News h₀ L h ((D, listOf (us ++ [v]).toArray (us ++ [v]).length) :: rest) := by
  have el : listOf (us.toArray.push v) (us.length + 1) = listOf (us ++ [v]).toArray (us ++ [v]).length := by simp
  rw [el] at N
  intro p hp
  rcases List.mem_cons.mp hp with rfl | hp
  · exact N _ (List.mem_cons_self ..)
  · exact N _ (List.mem_cons_of_mem _ (List.mem_filter.mpr ⟨hled p hp, by simpa using hne p hp⟩))
theorem end_row {g h' : Heap} {L RD : Addr} {m' : Str → Option Value} {z : Nat → Nat} {j i tk : Nat} {vals : List Value} {led own : List (Addr × Obj)} {keep : List (Str × Value)} {s₁ : Shared} {tv tt : Tok}
    (F : Fr g L h' m') (N : News g L h' ((RD, listOf (vals.toArray.push (.int ((((Sm z j i : Nat) : Int) + ((z (j + i) : Nat) : Int)) * ((60 / (i + 1) : Nat) : Int)) tv)) (vals.length + 1)) :: (((RD, listOf vals.toArray vals.length) :: led) ++ own).filter (fun p => p.1 != RD)))
    (hne : ∀ p ∈ led, p.1 ≠ RD) (hoff : OwnOff own (((RD, listOf vals.toArray vals.length) :: led).map (·.1))) (hv : IntsAre vals ((List.range i).map fun x => ((Tb z j (j + x) : Nat) : Int)))
    (ht : m' (Str.ofString "total") = some (.int (((Sm z j i : Nat) : Int) + ((z (j + i) : Nat) : Int)) tt)) (hk : ∀ p ∈ keep, m' p.1 = some p.2) :
    InvEndG g L (J2 z j RD led keep (i + 1)) own s₁ { s₁ with heap := h', toks := tk } := by
  have e : (((Sm z j i : Nat) : Int) + ((z (j + i) : Nat) : Int)) * ((60 / (i + 1) : Nat) : Int) = ((Tb z j (j + i) : Nat) : Int) := by
    unfold Tb
    rw [show j + i + 1 - j = i + 1 by omega, ← Int.natCast_add, ← Int.natCast_mul]
    rfl
  rw [e] at N
  have N' := news_app (rest := led ++ own) N (fun p hp => List.mem_cons_of_mem _ hp) (fun p hp => by
    rcases List.mem_append.mp hp with h | h
    · exact hne p h
    · exact hoff p h RD (List.mem_cons_self ..))
  refine InvEndG.intro (nx := (RD, listOf (vals ++ [Value.int ((Tb z j (j + i) : Nat) : Int) tv]).toArray (vals ++ [Value.int ((Tb z j (j + i) : Nat) : Int) tv]).length) :: led) F N' ⟨_, tt, rfl, ?_, ?_, hk⟩ hoff ?_ ?_
  · rw [List.range_succ, List.map_append]
    exact ints_snoc hv
  · rw [ht]
    rw [show ((Sm z j i : Nat) : Int) + ((z (j + i) : Nat) : Int) = ((Sm z j (i + 1) : Nat) : Int) from (Int.natCast_add _ _).symm]
  · intro p hp
    rcases List.mem_cons.mp hp with rfl | hp
    · exact List.mem_cons_self ..
    · exact List.mem_cons_of_mem _ (List.mem_append.mpr (.inl hp))
  · intro p hp
    exact List.mem_cons_of_mem _ (List.mem_append.mpr (.inr hp))
theorem end_table {g h' : Heap} {L TD RD : Addr} {m' : Str → Option Value} {z : Nat → Nat} {i tk : Nat} {vals : List Value} {base rows own : List (Addr × Obj)} {keep : List (Str × Value)} {s₁ : Shared} {led : List (Addr × Obj)}
    (F : Fr g L h' m') (N : News g L h' ((TD, listOf ((rows.map fun p => Value.ref p.1).toArray.push (.ref RD)) (rows.length + 1)) :: led.filter (fun p => p.1 != TD)))
    (hled : ∀ p ∈ (RD, listOf vals.toArray vals.length) :: (base ++ (rows ++ own)), p ∈ led) (hrl : rows.length = i) (hi : i < 6) (hrows : RowsAre z rows) (hne : ∀ p ∈ rows, p.1 ≠ TD) (hnb : ∀ p ∈ rows, ∀ q ∈ base, p.1 ≠ q.1) (hb : ∀ p ∈ base, p.1 ≠ TD)
    (hRD : ∀ p ∈ ((TD, listOf (rows.map fun p => Value.ref p.1).toArray rows.length) :: (base ++ rows)) ++ own, p.1 < RD)
    (hoff : OwnOff own (((TD, listOf (rows.map fun p => Value.ref p.1).toArray rows.length) :: (base ++ rows)).map (·.1)))
    (hv : IntsAre vals ((List.range (6 - i)).map fun x => ((Tb z i (i + x) : Nat) : Int))) (hk : ∀ p ∈ keep, m' p.1 = some p.2) :
    InvEndG g L (J1 z TD base keep (i + 1)) own s₁ { s₁ with heap := h', toks := tk } := by
  have hTR : TD ≠ RD := Nat.ne_of_lt (hRD _ (List.mem_append.mpr (.inl (List.mem_cons_self ..))))
  have hoR : ∀ p ∈ own, p.1 ≠ RD := fun p hp => Nat.ne_of_lt (hRD p (List.mem_append.mpr (.inr hp)))
  have el : listOf ((rows.map fun p => Value.ref p.1).toArray.push (.ref RD)) (rows.length + 1) = listOf ((rows ++ [(RD, listOf vals.toArray vals.length)]).map fun p => Value.ref p.1).toArray (rows ++ [(RD, listOf vals.toArray vals.length)]).length := by simp
  rw [el] at N
  have hin : ∀ p ∈ led, p.1 ≠ TD → p ∈ led.filter (fun p => p.1 != TD) := fun p hp hne => List.mem_filter.mpr ⟨hp, by simpa using hne⟩
  refine InvEndG.intro (nx := (TD, listOf ((rows ++ [(RD, listOf vals.toArray vals.length)]).map fun p => Value.ref p.1).toArray (rows ++ [(RD, listOf vals.toArray vals.length)]).length) :: (base ++ (rows ++ [(RD, listOf vals.toArray vals.length)]))) F N
    ⟨rows ++ [(RD, listOf vals.toArray vals.length)], by simp [hrl], ?_, ?_, ?_, rfl, hk⟩ ?_ ?_ ?_
  · intro j p hj
    by_cases hji : j < rows.length
    · rw [List.getElem?_append_left hji] at hj
      exact hrows j p hj
    · have hj2 : j = rows.length := by
        have : j < (rows ++ [(RD, listOf vals.toArray vals.length)]).length := by
          rcases Nat.lt_or_ge j (rows ++ [(RD, listOf vals.toArray vals.length)]).length with h | h
          · exact h
          · rw [List.getElem?_eq_none h] at hj; cases hj
        simp at this
        omega
      subst hj2
      simp at hj
      subst hj
      exact ⟨vals, rfl, by rw [hrl]; exact hv⟩
  · intro p hp
    rcases List.mem_append.mp hp with h | h
    · exact hne p h
    · rw [List.mem_singleton.mp h]; exact hTR.symm
  · intro p hp q hq
    rcases List.mem_append.mp hp with h | h
    · exact hnb p h q hq
    · rw [List.mem_singleton.mp h]
      exact (Nat.ne_of_lt (hRD q (List.mem_append.mpr (.inl (List.mem_cons_of_mem _ (List.mem_append.mpr (.inl hq))))))).symm
  · intro p hp b hb' 
    simp only [List.map_cons, List.map_append, List.map_nil, List.mem_cons, List.mem_append, List.not_mem_nil, or_false] at hb'
    rcases hb' with rfl | h | h | rfl
    · exact hoff p hp _ (by simp)
    · exact hoff p hp b (by simp only [List.map_cons, List.map_append, List.mem_cons, List.mem_append]; exact .inr (.inl h))
    · exact hoff p hp b (by simp only [List.map_cons, List.map_append, List.mem_cons, List.mem_append]; exact .inr (.inr h))
    · exact hoR p hp
  · intro p hp
    rcases List.mem_cons.mp hp with rfl | hp
    · exact List.mem_cons_self ..
    · rcases List.mem_append.mp hp with h | h
      · exact List.mem_cons_of_mem _ (hin _ (hled _ (List.mem_cons_of_mem _ (List.mem_append.mpr (.inl h)))) (hb p h))
      · rcases List.mem_append.mp h with h | h
        · exact List.mem_cons_of_mem _ (hin _ (hled _ (List.mem_cons_of_mem _ (List.mem_append.mpr (.inr (List.mem_append.mpr (.inl h)))))) (hne p h))
        · rw [List.mem_singleton.mp h]
          exact List.mem_cons_of_mem _ (hin _ (hled _ (List.mem_cons_self ..)) hTR.symm)
  · intro p hp
    exact List.mem_cons_of_mem _ (hin _ (hled _ (List.mem_cons_of_mem _ (List.mem_append.mpr (.inr (List.mem_append.mpr (.inr hp)))))) (hoff p hp TD (List.mem_cons_self ..)))
noncomputable def zOf (z0 z1 z2 z3 z4 z5 : Nat) : Nat → Nat
  | 0 => z0 | 1 => z1 | 2 => z2 | 3 => z3 | 4 => z4 | 5 => z5 | _ => 0
/-- between two ends -/
noncomputable def J3 (head tail : List Nat) (cks : List (List Nat × Nat)) (HD C2 : Addr) (led : List (Addr × Obj)) (keep : List (Str × Value)) (e : Nat) (m : Str → Option Value) (nx : List (Addr × Obj)) : Prop :=
  ∃ (us : List Value) (oE : Obj) (v₀ : Option Value), nx = (HD, listOf us.toArray us.length) :: (C2, oE) :: led ∧ oE.data = .cell v₀ ∧ StrsAre us ((List.range e).map fun j => T (hostAt head tail cks (j + 1))) ∧ ∀ p ∈ keep, m p.1 = some p.2
theorem sizes_at {z0 z1 z2 z3 z4 z5 : Nat} {u0 u1 u2 u3 u4 u5 : Tok} {q : Nat} (h : q < 6) : ∃ u, [Value.int (z0 : Nat) u0, Value.int (z1 : Nat) u1, Value.int (z2 : Nat) u2, Value.int (z3 : Nat) u3, Value.int (z4 : Nat) u4, Value.int (z5 : Nat) u5][q]? = some (Value.int ((zOf z0 z1 z2 z3 z4 z5 q : Nat) : Int) u) := by
  have h2 : q = 0 ∨ q = 1 ∨ q = 2 ∨ q = 3 ∨ q = 4 ∨ q = 5 := by omega
  rcases h2 with rfl | rfl | rfl | rfl | rfl | rfl <;> exact ⟨_, rfl⟩
theorem z_le {z0 z1 z2 z3 z4 z5 : Nat} (h : z0 ≤ 999 ∧ z1 ≤ 999 ∧ z2 ≤ 999 ∧ z3 ≤ 999 ∧ z4 ≤ 999 ∧ z5 ≤ 999) : ∀ i, zOf z0 z1 z2 z3 z4 z5 i ≤ 999
  | 0 => h.1 | 1 => h.2.1 | 2 => h.2.2.1 | 3 => h.2.2.2.1 | 4 => h.2.2.2.2.1 | 5 => h.2.2.2.2.2 | _ + 6 => Nat.zero_le _
/-- between two places of one end -/
noncomputable def J4 (H : Nat → List Nat) (NW : List (Addr × Obj)) (keep : List (Str × Value)) (i : Nat) (m : Str → Option Value) (nx : List (Addr × Obj)) : Prop :=
  ∃ th : Tok, nx = NW ∧ m "host" = some (.str (T (H i)) th) ∧ ∀ p ∈ keep, m p.1 = some p.2
theorem off1_all {D : Addr} : ∀ {xs : List (Addr × Obj)}, LCg.Off1 D xs → ∀ p ∈ xs, p.1 ≠ D
  | [], _, p, hp => by cases hp
  | q :: xs, h, p, hp => by
    rcases List.mem_cons.mp hp with rfl | hp
    · exact h.1
    · exact off1_all h.2 p hp
theorem end_host {g h' : Heap} {L HD C2 : Addr} {m' : Str → Option Value} {head tail : List Nat} {cks : List (List Nat × Nat)} {e tk : Nat} {us : List Value} {base own led : List (Addr × Obj)} {keep : List (Str × Value)} {s₁ : Shared} {X : Str} {tX : Tok} {oE oE2 : Obj} {v : Option Value}
    (F : Fr g L h' m') (N : News g L h' ((HD, listOf (us.toArray.push (.str X tX)) (us.length + 1)) :: led.filter (fun p => p.1 != HD))) (hX : X = T (hostAt head tail cks (e + 1)))
    (hus : StrsAre us ((List.range e).map fun j => T (hostAt head tail cks (j + 1)))) (hdE : oE2.data = .cell v) (hC : C2 ≠ HD) (hled : ∀ p ∈ (C2, oE2) :: (base ++ own), p ∈ led) (hne : ∀ p ∈ base, p.1 ≠ HD)
    (hoff : OwnOff own (((HD, listOf us.toArray us.length) :: (C2, oE) :: base).map (·.1))) (hk : ∀ p ∈ keep, m' p.1 = some p.2) :
    NextEnd g L (J3 head tail cks HD C2 base keep (e + 1)) own s₁ .next { s₁ with heap := h', toks := tk } := by
  subst hX
  have N' := news_app (rest := (C2, oE2) :: (base ++ own)) N hled (by
    intro p hp
    rcases List.mem_cons.mp hp with rfl | hp
    · exact hC
    · rcases List.mem_append.mp hp with h | h
      · exact hne p h
      · exact hoff p h HD (List.mem_cons_self ..))
  refine ⟨rfl, InvEndG.intro (nx := (HD, listOf (us ++ [Value.str (T (hostAt head tail cks (e + 1))) tX]).toArray (us ++ [Value.str (T (hostAt head tail cks (e + 1))) tX]).length) :: (C2, oE2) :: base) F N' ⟨_, oE2, v, rfl, hdE, ?_, hk⟩ hoff ?_ ?_⟩
  · rw [List.range_succ, List.map_append]
    exact strs_snoc hus
  · intro p hp
    rcases List.mem_cons.mp hp with rfl | hp
    · exact List.mem_cons_self ..
    · rcases List.mem_cons.mp hp with rfl | hp
      · exact List.mem_cons_of_mem _ (List.mem_cons_self ..)
      · exact List.mem_cons_of_mem _ (List.mem_cons_of_mem _ (List.mem_append.mpr (.inl hp)))
  · intro p hp
    exact List.mem_cons_of_mem _ (List.mem_cons_of_mem _ (List.mem_append.mpr (.inr hp)))
theorem end_place {g h' : Heap} {L : Addr} {m' : Str → Option Value} {H : Nat → List Nat} {NW own led : List (Addr × Obj)} {keep : List (Str × Value)} {i tk : Nat} {s₁ : Shared} {X : Str} {tX : Tok}
    (F : Fr g L h' m') (N : News g L h' led) (hled : ∀ p ∈ NW ++ own, p ∈ led) (hoff : OwnOff own (NW.map (·.1))) (hh : m' (Str.ofString "host") = some (.str X tX)) (hX : X = T (H (i + 1))) (hk : ∀ p ∈ keep, m' p.1 = some p.2) :
    InvEndG g L (J4 H NW keep (i + 1)) own s₁ { s₁ with heap := h', toks := tk } := by
  subst hX
  exact InvEndG.intro (nx := NW) F N ⟨tX, rfl, hh, hk⟩ hoff (fun p hp => hled p (List.mem_append.mpr (.inl hp))) (fun p hp => hled p (List.mem_append.mpr (.inr hp)))
theorem told_ok {w : World} {mean : ExcName → Option Value} {mg mb : Str → Option Value} {R : Addr} {oR : Obj} {head tail : List Nat} {t1 t2 : Tok} {l l2 : Addr} {vs : List Value} {nn n2 : Nat} {cks : List (List Nat × Nat)}
    {z0 z1 z2 z3 z4 z5 : Nat} {u0 u1 u2 u3 u4 u5 : Tok}
    (hz : z0 ≤ 999 ∧ z1 ≤ 999 ∧ z2 ≤ 999 ∧ z3 ≤ 999 ∧ z4 ≤ 999 ∧ z5 ≤ 999)
    (hv : StrsAre vs (cks.map fun c => T c.1)) (hc : Cks cks) (h6 : cks.length = 6) (hzc : ∀ i c, cks[i]? = some c → zOf z0 z1 z2 z3 z4 z5 i = c.2) (H : HeadTail head tail) :
  ∀ (dp un : Nat) (gd : Option (List Code)) (cn : Str) (cs : Scope) (a : Addr) (ccd : Value) (cl : List (Str × Addr)) (outer : List Env) (A₀ : Around) (base h₀ : Heap) (L : Addr) (m : Str → Option Value) (s : Shared) (Q E : Value → Shared → Prop),
    Below A₀ base outer h₀ → Fr h₀ L s.heap m → (hd.heap_39 w.params).In h₀ → News h₀ L s.heap [(R, oR), (l, listOf vs.toArray nn), (l2, listOf [Value.int (z0 : Nat) u0, Value.int (z1 : Nat) u1, Value.int (z2 : Nat) u2, Value.int (z3 : Nat) u3, Value.int (z4 : Nat) u4, Value.int (z5 : Nat) u5].toArray n2)] → Top hd.view_39 loose0 mean mg mb h₀ → cs.kind = .function → dp + 10 < recursionLimit → un + 100 < cLine →
    (∀ (D : Addr) (us : List Value) (h' : Heap) (tk' : Nat), Fr h₀ L h' m → News h₀ L h' [(D, listOf us.toArray us.length), (R, oR)] → StrsAre us ((runHosts head tail cks).map T) → Q (.ref D) { s with heap := h', toks := tk' }) →
      wpAny (model PySem.Challenge.rw_wb0005_01.row.prog w) (ktrTop dp un gd cn cs L a ccd cl outer) (call (.ref 89) [.str (T head) t1, .str (T tail) t2, .ref l, .ref l2]) Q E s := by
  have hH1 := H.len
  have hH2 : tail.length ≤ 1 := by rcases H.tl with h | h <;> simp [h]
  have hHT : head.length + tail.length ≤ 1000 := by omega
  have hz9 := z_le hz
  k_fill
  intros
  rename_i hret
  refine wpAny_call ?_
  k_dflt (refine' code_defC ?k1 ?k2 ?k3 ?k4 ?k5 ?kA ?kF ?kK ?k6 ?k7 ?k8 ?k9 ?kB ?kD ?_ ?c2 ?c3 ?c4; (case kA => exact rfl); (case kF => exact rfl); (case kK => assumption); (case k1 => k_asm); (case k2 => k_asm); (case k3 => k_asm); (case k4 => k_asm); (case k5 => k_asm); (case k6 => k_is); (case k7 => k_is); (case k8 => ktr_room); (case k9 => exact BindsTo.of_eq rfl); (case kB => exact rfl); (case kD => decide +kernel); (case c2 => exact rfl); (case c3 => exact rfl); (case c4 => exact rfl); k_whole; intro g' L' h' tk' cells' FG' F' N' Y' B' X' T' l1; (try k_lt l1); k_cells Y'; (try simp only [List.cons_append, List.nil_append] at N'); (try dsimp only); (try k_lift B'); (try k_fold))
  k_steps
  unfold Halt
  rename Fr _ _ _ _ => lF'
  with_unfolding_all refine' For_invVF lF' ?k1 ?k2 ?_; (case k1 => exact rfl); (case k2 => exact rfl)
  k_steps
  unfold Halt
  rename_i oE oT0 dE dT0 TD hx1 hlt hx2 oT Fx Nx dT hx3 tkx r1 r2 r3 hR1 F1 N1
  refine' rng_iter (J1 (zOf z0 z1 z2 z3 z4 z5) TD [(L' + 1 + 1, oE), (L' + 1, oT), (R, oR), (l, listOf vs.toArray nn), (l2, listOf [Value.int (z0 : Nat) u0, Value.int (z1 : Nat) u1, Value.int (z2 : Nat) u2, Value.int (z3 : Nat) u3, Value.int (z4 : Nat) u4, Value.int (z5 : Nat) u5].toArray n2)] [(Str.ofString "head", Value.str (T head) t1), (Str.ofString "tail", Value.str (T tail) t2), (Str.ofString "clocks", Value.ref l), (Str.ofString "sizes", Value.ref l2)]) (n := 6) ?hh hR1 ?hs ?hz F1 N1 ?hj ?turn ?done
  case hh => exact rfl
  case hs => exact rfl
  case hz => exact rfl
  case hj =>
    refine ⟨[], rfl, (fun j p h => by simp at h), (fun p h => by simp at h), (fun p h => by simp at h), rfl, ?_⟩
    simp only [List.forall_mem_cons, List.not_mem_nil, false_implies, implies_true, and_true]
    exact ⟨rfl, rfl, rfl, rfl⟩
  case turn =>
    intro i t m₁ nx h tk own hi hoff hJ F₂ N₂
    obtain ⟨rows, hrl, hrows, hne, hnb, rfl, hkeep⟩ := hJ
    simp only [List.forall_mem_cons, List.not_mem_nil, false_implies, implies_true, and_true] at hkeep
    obtain ⟨e1, e2, e3, e4⟩ := hkeep
    have F₃ := fr_list [(Str.ofString "j", Value.int (0 + (i : Int)) t), (Str.ofString "head", Value.str (T head) t1), (Str.ofString "tail", Value.str (T tail) t2), (Str.ofString "clocks", Value.ref l), (Str.ofString "sizes", Value.ref l2)] F₂ (by
      simp only [List.forall_mem_cons, List.not_mem_nil, false_implies, implies_true, and_true]
      refine ⟨rfl, ?_, ?_, ?_, ?_⟩
      · rw [if_neg (by decide)]; exact e1
      · rw [if_neg (by decide)]; exact e2
      · rw [if_neg (by decide)]; exact e3
      · rw [if_neg (by decide)]; exact e4)
    clear F₂
    rw [Int.zero_add] at F₃
    k_steps
    unfold Halt
    rename Fr _ _ _ _ => lF2
    with_unfolding_all refine' For_invVF lF2 ?k1 ?k2 ?_; (case k1 => exact rfl); (case k2 => exact rfl)
    k_steps
    unfold Halt
    rename_i RD q1 q2 q3 hRD q4 q5 q6 q7 q8 q9 q10 q11 q12 hR2 F4 N4
    obtain ⟨n, hn⟩ : ∃ n, 6 = i + n := ⟨6 - i, by omega⟩
    refine' rng_iter (J2 (zOf z0 z1 z2 z3 z4 z5) i RD (((TD, listOf (rows.map fun p => Value.ref p.1).toArray rows.length) :: ([(L' + 1 + 1, oE), (L' + 1, oT), (R, oR), (l, listOf vs.toArray nn), (l2, listOf [Value.int (z0 : Nat) u0, Value.int (z1 : Nat) u1, Value.int (z2 : Nat) u2, Value.int (z3 : Nat) u3, Value.int (z4 : Nat) u4, Value.int (z5 : Nat) u5].toArray n2)] ++ rows)) ++ own)
      [(Str.ofString "j", Value.int (i : Int) t), (Str.ofString "row", Value.ref RD), (Str.ofString "head", Value.str (T head) t1), (Str.ofString "tail", Value.str (T tail) t2), (Str.ofString "clocks", Value.ref l), (Str.ofString "sizes", Value.ref l2)]) (n := n) ?hh hR2 (small6 (by omega) (by omega) (by omega) (by omega)) (rsz (by omega)) F4 N4 ?hj ?turn2 ?done2
    case hh => exact rfl
    case hj =>
      refine ⟨[], _, rfl, .nil, rfl, ?_⟩
      simp only [List.forall_mem_cons, List.not_mem_nil, false_implies, implies_true, and_true]
      exact ⟨rfl, rfl, rfl, rfl, rfl, rfl⟩
    case turn2 =>
      intro i2 t' m₂ nx2 h2 tk2 own2 hi2 hoff2 hJ2 F5 N5
      obtain ⟨vals, tt, rfl, hvals, etot, hk2⟩ := hJ2
      simp only [List.forall_mem_cons, List.not_mem_nil, false_implies, implies_true, and_true] at hk2
      obtain ⟨g1, g2, g3, g4, g5, g6⟩ := hk2
      have F6 := fr_list [(Str.ofString "k", Value.int ((i : Int) + (i2 : Int)) t'), (Str.ofString "total", Value.int ((Sm (zOf z0 z1 z2 z3 z4 z5) i i2 : Nat) : Int) tt), (Str.ofString "j", Value.int (i : Int) t), (Str.ofString "row", Value.ref RD), (Str.ofString "head", Value.str (T head) t1), (Str.ofString "tail", Value.str (T tail) t2), (Str.ofString "clocks", Value.ref l), (Str.ofString "sizes", Value.ref l2)] F5 (by
        simp only [List.forall_mem_cons, List.not_mem_nil, false_implies, implies_true, and_true]
        refine ⟨rfl, ?_, ?_, ?_, ?_, ?_, ?_, ?_⟩
        · rw [if_neg (by decide)]; exact etot
        · rw [if_neg (by decide)]; exact g1
        · rw [if_neg (by decide)]; exact g2
        · rw [if_neg (by decide)]; exact g3
        · rw [if_neg (by decide)]; exact g4
        · rw [if_neg (by decide)]; exact g5
        · rw [if_neg (by decide)]; exact g6)
      clear F5
      obtain ⟨ux, hx⟩ := sizes_at (z0 := z0) (z1 := z1) (z2 := z2) (z3 := z3) (z4 := z4) (z5 := z5) (u0 := u0) (u1 := u1) (u2 := u2) (u3 := u3) (u4 := u4) (u5 := u5) (q := i + i2) (by omega)
      have hx' : [Value.int (z0 : Nat) u0, Value.int (z1 : Nat) u1, Value.int (z2 : Nat) u2, Value.int (z3 : Nat) u3, Value.int (z4 : Nat) u4, Value.int (z5 : Nat) u5][((i : Int) + (i2 : Int)).toNat]? = some (Value.int ((zOf z0 z1 z2 z3 z4 z5 (i + i2) : Nat) : Int) ux) := by
        rw [show ((i : Int) + (i2 : Int)).toNat = i + i2 by omega]; exact hx
      have hfd : (i : Int) + (i2 : Int) + 1 - (i : Int) = ((i2 + 1 : Nat) : Int) := by omega
      have hm1 : (0 : Int) ≤ ((60 / (i2 + 1) : Nat) : Int) := Int.natCast_nonneg _
      have hm2 : ((60 / (i2 + 1) : Nat) : Int) < 2 ^ 30 := by have := Nat.div_le_self 60 (i2 + 1); omega
      have hvl : vals.length = i2 := by have := hvals.length; simpa using this
      have husz : vals.toArray.size ≤ sizeLine := by rw [sizeLine_eq, List.size_toArray]; omega
      k_steps
      refine' end_row ?F ?N (fun p hp => Nat.ne_of_lt (hRD p hp)) hoff2 hvals ?ht ?hk
      case F => k_asm
      case N => k_asm
      case ht => exact rfl
      case hk =>
        simp only [List.forall_mem_cons, List.not_mem_nil, false_implies, implies_true, and_true]
        exact ⟨rfl, rfl, rfl, rfl, rfl, rfl⟩
    case done2 =>
      intro m₃ nx3 h3 tk3 hJ3 F7 N7
      obtain ⟨vals, tt, rfl, hvals, etot, hk2⟩ := hJ3
      simp only [List.forall_mem_cons, List.not_mem_nil, false_implies, implies_true, and_true] at hk2
      obtain ⟨g1, g2, g3, g4, g5, g6⟩ := hk2
      have F8 := fr_list [(Str.ofString "row", Value.ref RD), (Str.ofString "head", Value.str (T head) t1), (Str.ofString "tail", Value.str (T tail) t2), (Str.ofString "clocks", Value.ref l), (Str.ofString "sizes", Value.ref l2)] F7 (by
        simp only [List.forall_mem_cons, List.not_mem_nil, false_implies, implies_true, and_true]
        exact ⟨g2, g3, g4, g5, g6⟩)
      clear F7
      have N8 : News g' L' h3 ((RD, listOf vals.toArray vals.length) :: (TD, listOf (rows.map fun p => Value.ref p.1).toArray rows.length) :: (L' + 1 + 1, oE) :: (L' + 1, oT) :: (R, oR) :: (l, listOf vs.toArray nn) :: (l2, listOf [Value.int (z0 : Nat) u0, Value.int (z1 : Nat) u1, Value.int (z2 : Nat) u2, Value.int (z3 : Nat) u3, Value.int (z4 : Nat) u4, Value.int (z5 : Nat) u5].toArray n2) :: (rows ++ own)) := N7
      clear N7
      have husz : (rows.map fun p => Value.ref p.1).toArray.size ≤ sizeLine := by rw [sizeLine_eq, List.size_toArray, List.length_map]; omega
      k_steps
      refine' end_table (base := [(L' + 1 + 1, oE), (L' + 1, oT), (R, oR), (l, listOf vs.toArray nn), (l2, listOf [Value.int (z0 : Nat) u0, Value.int (z1 : Nat) u1, Value.int (z2 : Nat) u2, Value.int (z3 : Nat) u3, Value.int (z4 : Nat) u4, Value.int (z5 : Nat) u5].toArray n2)]) (vals := vals) ?F ?N ?hled hrl hi hrows hne hnb ?hb hRD hoff ?hv ?hk
      case F => k_asm
      case N => k_asm
      case hled =>
        intro p hp
        simp only [List.mem_cons, List.mem_append, List.cons_append, List.nil_append] at hp ⊢
        rcases hp with h | h | h | h | h | h | h | h
        · exact .inl h
        · exact .inr (.inr (.inl h))
        · exact .inr (.inr (.inr (.inl h)))
        · exact .inr (.inr (.inr (.inr (.inl h))))
        · exact .inr (.inr (.inr (.inr (.inr (.inl h)))))
        · exact .inr (.inr (.inr (.inr (.inr (.inr (.inl h))))))
        · exact .inr (.inr (.inr (.inr (.inr (.inr (.inr (.inl h)))))))
        · exact .inr (.inr (.inr (.inr (.inr (.inr (.inr (.inr h)))))))
      case hb =>
        simp only [List.forall_mem_cons, List.not_mem_nil, false_implies, implies_true, and_true]
        exact ⟨Nat.ne_of_lt hlt.1, Nat.ne_of_lt hlt.2.1, Nat.ne_of_lt hlt.2.2.1, Nat.ne_of_lt hlt.2.2.2.1, Nat.ne_of_lt hlt.2.2.2.2⟩
      case hv => rw [show 6 - i = n by omega]; exact hvals
      case hk =>
        simp only [List.forall_mem_cons, List.not_mem_nil, false_implies, implies_true, and_true]
        exact ⟨rfl, rfl, rfl, rfl⟩
  case done =>
    intro m₁ nx h tk hJ F₂ N₂
    obtain ⟨rows, hrl, hrows, hne, hnb, rfl, hkeep⟩ := hJ
    simp only [List.forall_mem_cons, List.not_mem_nil, false_implies, implies_true, and_true] at hkeep
    obtain ⟨e1, e2, e3, e4⟩ := hkeep
    have F₃ := fr_list [(Str.ofString "head", Value.str (T head) t1), (Str.ofString "tail", Value.str (T tail) t2), (Str.ofString "clocks", Value.ref l), (Str.ofString "sizes", Value.ref l2)] F₂ (by
      simp only [List.forall_mem_cons, List.not_mem_nil, false_implies, implies_true, and_true]
      exact ⟨e1, e2, e3, e4⟩)
    clear F₂
    have N₃ : News g' L' h ((TD, listOf (rows.map fun p => Value.ref p.1).toArray rows.length) :: (L' + 1 + 1, oE) :: (L' + 1, oT) :: (R, oR) :: (l, listOf vs.toArray nn) :: (l2, listOf [Value.int (z0 : Nat) u0, Value.int (z1 : Nat) u1, Value.int (z2 : Nat) u2, Value.int (z3 : Nat) u3, Value.int (z4 : Nat) u4, Value.int (z5 : Nat) u5].toArray n2) :: rows) := N₂
    clear N₂
    k_steps
    unfold Halt
    rename Fr _ _ _ _ => lF3
    with_unfolding_all refine' For_invTF lF3 ?_ (by intro _; rfl)
    k_steps
    unfold Halt
    rename_i HD q1 q2 q3 hHD q4 q5 q6 q7 q8 q9 q10 q11 hR3 F4 N4
    refine' rng_iterT (J3 head tail cks HD (L' + 1 + 1) ((TD, listOf (rows.map fun p => Value.ref p.1).toArray rows.length) :: (L' + 1, oT) :: (R, oR) :: (l, listOf vs.toArray nn) :: (l2, listOf [Value.int (z0 : Nat) u0, Value.int (z1 : Nat) u1, Value.int (z2 : Nat) u2, Value.int (z3 : Nat) u3, Value.int (z4 : Nat) u4, Value.int (z5 : Nat) u5].toArray n2) :: rows)
      [(Str.ofString "head", Value.str (T head) t1), (Str.ofString "tail", Value.str (T tail) t2), (Str.ofString "clocks", Value.ref l), (Str.ofString "sizes", Value.ref l2), (Str.ofString "hosts", Value.ref HD)]) (n := 6) ?hh hR3 ?hs ?hz F4 (fun p hp => N4 p ?hm) ?hj ?hgo ?turn3 ?done3
    case hh => exact rfl
    case hs => exact rfl
    case hz => exact rfl
    case hgo => intro _ _; rfl
    case hj =>
      refine ⟨[], oE, _, rfl, dE, .nil, ?_⟩
      simp only [List.forall_mem_cons, List.not_mem_nil, false_implies, implies_true, and_true]
      exact ⟨rfl, rfl, rfl, rfl, rfl⟩
    case hm =>
      simp only [List.mem_cons] at hp ⊢
      rcases hp with h | h | h | h | h | h | h | h
      · exact .inl h
      · exact .inr (.inr (.inl h))
      · exact .inr (.inl h)
      · exact .inr (.inr (.inr (.inl h)))
      · exact .inr (.inr (.inr (.inr (.inl h))))
      · exact .inr (.inr (.inr (.inr (.inr (.inl h)))))
      · exact .inr (.inr (.inr (.inr (.inr (.inr (.inl h))))))
      · exact .inr (.inr (.inr (.inr (.inr (.inr (.inr h))))))
    case turn3 =>
      intro e t m₁ nx s₁ own he hoff hJ F₂ N₂
      obtain ⟨us, oE', v₀, rfl, hdE, hus, hkeep⟩ := hJ
      simp only [List.forall_mem_cons, List.not_mem_nil, false_implies, implies_true, and_true] at hkeep
      obtain ⟨e1, e2, e3, e4, e5⟩ := hkeep
      have F₃ := fr_list [(Str.ofString "head", Value.str (T head) t1), (Str.ofString "tail", Value.str (T tail) t2), (Str.ofString "clocks", Value.ref l), (Str.ofString "sizes", Value.ref l2), (Str.ofString "hosts", Value.ref HD)] F₂ (by
        simp only [List.forall_mem_cons, List.not_mem_nil, false_implies, implies_true, and_true]
        exact ⟨e1, e2, e3, e4, e5⟩)
      clear F₂
      have hC2 : ∀ p ∈ (HD, listOf us.toArray us.length) :: (TD, listOf (rows.map fun p => Value.ref p.1).toArray rows.length) :: (L' + 1, oT) :: (R, oR) :: (l, listOf vs.toArray nn) :: (l2, listOf [Value.int (z0 : Nat) u0, Value.int (z1 : Nat) u1, Value.int (z2 : Nat) u2, Value.int (z3 : Nat) u3, Value.int (z4 : Nat) u4, Value.int (z5 : Nat) u5].toArray n2) :: (rows ++ own),
          p ∈ ((HD, listOf us.toArray us.length) :: (L' + 1 + 1, oE') :: (TD, listOf (rows.map fun p => Value.ref p.1).toArray rows.length) :: (L' + 1, oT) :: (R, oR) :: (l, listOf vs.toArray nn) :: (l2, listOf [Value.int (z0 : Nat) u0, Value.int (z1 : Nat) u1, Value.int (z2 : Nat) u2, Value.int (z3 : Nat) u3, Value.int (z4 : Nat) u4, Value.int (z5 : Nat) u5].toArray n2) :: rows) ++ own ∧ p.1 ≠ L' + 1 + 1 := by
        intro p hp
        have hup : ∀ {x : Nat}, x < L' → x ≠ L' + 1 + 1 := fun h => by omega
        simp only [List.mem_cons, List.mem_append, List.cons_append] at hp ⊢
        rcases hp with h | h | h | h | h | h | h | h
        · exact ⟨.inl h, by rw [h]; exact (Nat.ne_of_lt hHD.2.1).symm⟩
        · exact ⟨.inr (.inr (.inl h)), by rw [h]; exact (Nat.ne_of_lt hlt.1).symm⟩
        · exact ⟨.inr (.inr (.inr (.inl h))), by rw [h]; exact Nat.ne_of_lt (Nat.lt_succ_self _)⟩
        · exact ⟨.inr (.inr (.inr (.inr (.inl h)))), by rw [h]; exact hup l1.1⟩
        · exact ⟨.inr (.inr (.inr (.inr (.inr (.inl h))))), by rw [h]; exact hup l1.2.1⟩
        · exact ⟨.inr (.inr (.inr (.inr (.inr (.inr (.inl h)))))), by rw [h]; exact hup l1.2.2⟩
        · exact ⟨.inr (.inr (.inr (.inr (.inr (.inr (.inr (.inl h))))))), hnb p h (L' + 1 + 1, oE) (.head _)⟩
        · exact ⟨.inr (.inr (.inr (.inr (.inr (.inr (.inr (.inr h))))))), hoff p h _ (by simp)⟩
      refine wpAny_assign_Name (store_cell (v₀ := v₀) F₃ N₂ (by simp) hdE hC2 rfl rfl rfl (fun h' oE2 hdE2 F₄ N₄ => ?_))
      k_steps
      unfold Halt
      rename Fr _ _ _ _ => F5
      k_dflt (refine Assign_ListComp_C (F₀ := F5) (by rfl) (by with_unfolding_all rfl) (by with_unfolding_all rfl) (fun n => by rfl) (fun h => by rfl) (by rfl) (by decide) (fun C K => by rfl) (by rfl) (by rfl) ?_)
      k_steps
      rename_i hR4 F6 N6
      refine ⟨_, _, _, _, _, _, e + 1, _, rfl, rfl, F6, N6, hR4, small6 (by omega) (by omega) (by omega) (by omega), rsz (by omega), by rw [sizeLine_eq]; omega, fun s₂ hs₂ => ?_⟩
      obtain ⟨h2', rfl⟩ := hs₂
      refine compC_rest (fun i y => ∃ (f : Nat) (ft : Tok), y = .int (f : Int) ft ∧ IsFit (zOf z0 z1 z2 z3 z4 z5) (e + 1) i f) ?_ ?_
      · intro ci ct I oI C oC K oK D ys ch ctk E' hci hoK F7 N7 hoff4 hne6
        k_steps
        unfold Halt
        rename Fr _ _ _ _ => F8
        k_dflt (refine LCg.ListComp_U (F₀ := F8) (by with_unfolding_all rfl) (by decide) (by rfl) (by decide) (by rfl) ?_)
        k_steps
        unfold Halt
        rename_i hR5 F9 N9
        refine LCg.CompSrc.range (n := ci + 1) rfl F9 N9 hR5 (small6 (by omega) (by omega) (by omega) (by omega)) (rsz (by omega)) (by rw [sizeLine_eq]; omega) (fun g => ?_)
        refine compU_rest (fun j y => ∃ (M : Nat) (mt : Tok), y = .int (M : Int) mt ∧ (∀ q, ci ≤ q → q < e + 1 → M ≤ Tb (zOf z0 z1 z2 z3 z4 z5) j q) ∧ ∃ q, ci ≤ q ∧ q < e + 1 ∧ M = Tb (zOf z0 z1 z2 z3 z4 z5) j q) ?_ ?_
        · intro di dt I2 oI2 C2 oC2 D2 m2 ys2 dh dtk E2 hdi hC2o hm2 F10 N10 hoff3 hne3
          have hdl : di < rows.length := by omega
          have hrow : rows[di]? = some rows[di] := List.getElem?_eq_getElem hdl
          obtain ⟨rvals, hp2, hrvals⟩ := hrows di _ hrow
          have hx1 : (rows.map fun p => Value.ref p.1)[((0 : Int) + (di : Int)).toNat]? = some (Value.ref rows[di].1) := by
            rw [show ((0 : Int) + (di : Int)).toNat = di by omega, List.getElem?_map, hrow]; rfl
          have hrm : (rows[di].1, listOf rvals.toArray rvals.length) ∈ rows := by
            have h1 := List.getElem_mem hdl
            have h2 : rows[di] = (rows[di].1, listOf rvals.toArray rvals.length) := by rw [← hp2]
            rw [h2] at h1
            exact h1
          have hrvl : rvals.length = 6 - di := by have := hrvals.length; simpa using this
          k_steps
          unfold Halt
          rename Fr _ _ _ _ => FS0
          rename News _ _ _ _ => NS0
          refine' slice_T (F := FS0) (N := NS0) (hD := ?D) (hi := hrvals) (h0 := ?h0) (hl := ?hl) (s := ⟨_, _, _, _, _⟩) ?_
          case D => (repeat apply List.mem_cons_of_mem); exact List.mem_append.mpr (.inl hrm)
          case h0 => (refine ⟨by omega, by omega, ?_⟩; simp only [List.length_map, List.length_range]; omega)
          case hl => omega
          intro S usS hS FS NS hus'
          k_steps
          unfold Halt
          have hus2 : IntsAre usS ((List.range (e + 1 - ci)).map fun x => ((Tb (zOf z0 z1 z2 z3 z4 z5) di (ci + x) : Nat) : Int)) := by
            have hp := part_get (fun q => ((Tb (zOf z0 z1 z2 z3 z4 z5) di q : Nat) : Int)) (d := di) (c := ci) (e := e) (by omega) (by omega) (by omega)
            have e1 : ((0 : Int) + (ci : Int) - (0 + (di : Int))).toNat = ci - di := by omega
            have e2 : ((1 : Int) + (e : Int) - (0 + (di : Int)) - (0 + (ci : Int) - (0 + (di : Int)))).toNat = e + 1 - ci := by omega
            rw [e1, e2] at hus'
            rw [← hp]
            exact hus'
          refine min_T FS NS (.head _) hus2 (by simp; omega) rfl ?_
          intro h' M mt tk' F11 N11 hMm hMle
          obtain ⟨x, hx, rfl⟩ := List.mem_map.mp hMm
          have hx' := List.mem_range.mp hx
          refine ⟨h', tk', rfl, F11, fun p hp => N11 p (.tail _ hp), _, mt, rfl, fun q hq1 hq2 => ?_, ci + x, by omega, by omega, rfl⟩
          have := hMle _ (List.mem_map.mpr ⟨q - ci, List.mem_range.mpr (by omega), rfl⟩)
          rw [show ci + (q - ci) = q by omega] at this
          exact Int.ofNat_le.mp this
        · intro ys hyl hyr
          obtain ⟨f, hfi, hfr⟩ := ints_of_rel (P := fun j M => (∀ q, ci ≤ q → q < e + 1 → M ≤ Tb (zOf z0 z1 z2 z3 z4 z5) j q) ∧ ∃ q, ci ≤ q ∧ q < e + 1 ∧ M = Tb (zOf z0 z1 z2 z3 z4 z5) j q) (ys := ys) (fun i y h => by
            obtain ⟨M, t, e1, e2, e3⟩ := hyr i y h
            exact ⟨M, t, e1, e2, e3⟩)
          k_steps
          unfold Halt
          rename_i DD hD tkD FD ND oD
          rw [hyl] at hfi hfr
          refine max_T (k := ys.length) FD ND (.head _) hfi (by simp) rfl ?_
          intro h' M mt tk' F11 N11 hMm hMle
          obtain ⟨x, hx, rfl⟩ := List.mem_map.mp hMm
          have hx' := List.mem_range.mp hx
          refine ⟨h', tk', rfl, F11, fun p hp => N11 p (.tail _ hp), _, mt, rfl, fit_of hfr ⟨x, hx', rfl⟩ fun j hj => ?_⟩
          exact Int.ofNat_le.mp (hMle _ (List.mem_map.mpr ⟨j, List.mem_range.mpr hj, rfl⟩))
      · intro ys hyl hyr
        obtain ⟨f, hfi, hfr⟩ := ints_of_rel (P := fun i M => IsFit (zOf z0 z1 z2 z3 z4 z5) (e + 1) i M) (ys := ys) hyr
        rw [hyl] at hfi hfr
        obtain ⟨H4, c4, hH0, hHe, hHl, hcs, hHs, hHk⟩ := told_all hc h6 hzc hz9 (e := e + 1) (by omega) hfr head
        intro FD hF tkF F12 N12 o12
        simp only [LCg.Off1] at o12
        have hoFD : ∀ p ∈ rows ++ own, p.1 ≠ FD := off1_all o12.2.2.2.2.2.2.2
        k_steps
        unfold Halt
        rename Fr _ _ _ _ => lF4
        with_unfolding_all refine' For_invVF lF4 ?k1 ?k2 ?_; (case k1 => exact rfl); (case k2 => exact rfl)
        k_steps
        unfold Halt
        rename_i hR5 F13 N13
        refine' rng_iter (J4 H4 ((FD, listOf ys.toArray ys.length) :: (L' + 1 + 1, oE2) :: (HD, listOf us.toArray us.length) :: (TD, listOf (rows.map fun p => Value.ref p.1).toArray rows.length) :: (L' + 1, oT) :: (R, oR) :: (l, listOf vs.toArray nn) :: (l2, listOf [Value.int (z0 : Nat) u0, Value.int (z1 : Nat) u1, Value.int (z2 : Nat) u2, Value.int (z3 : Nat) u3, Value.int (z4 : Nat) u4, Value.int (z5 : Nat) u5].toArray n2) :: (rows ++ own))
          [(Str.ofString "head", Value.str (T head) t1), (Str.ofString "tail", Value.str (T tail) t2), (Str.ofString "clocks", Value.ref l), (Str.ofString "sizes", Value.ref l2), (Str.ofString "hosts", Value.ref HD), (Str.ofString "fits", Value.ref FD)]) (n := e + 1) ?hh hR5 (small6 (by omega) (by omega) (by omega) (by omega)) (rsz (by omega)) F13 N13 ?hj ?turn4 ?done4
        case hh => exact rfl
        case hj =>
          refine ⟨_, rfl, by rw [hH0]; rfl, ?_⟩
          simp only [List.forall_mem_cons, List.not_mem_nil, false_implies, implies_true, and_true]
          exact ⟨rfl, rfl, rfl, rfl, rfl, rfl⟩
        case turn4 =>
          intro i2 t' m₂ nx2 h2 tk2 own2 hi2 hoff2 hJ2 F5 N5
          obtain ⟨th, rfl, ehost, hk2⟩ := hJ2
          simp only [List.forall_mem_cons, List.not_mem_nil, false_implies, implies_true, and_true] at hk2
          obtain ⟨g1, g2, g3, g4, g5, g6⟩ := hk2
          have F6 := fr_list [(Str.ofString "i", Value.int (0 + (i2 : Int)) t'), (Str.ofString "host", Value.str (T (H4 i2)) th), (Str.ofString "head", Value.str (T head) t1), (Str.ofString "tail", Value.str (T tail) t2), (Str.ofString "clocks", Value.ref l), (Str.ofString "sizes", Value.ref l2), (Str.ofString "hosts", Value.ref HD), (Str.ofString "fits", Value.ref FD)] F5 (by
            simp only [List.forall_mem_cons, List.not_mem_nil, false_implies, implies_true, and_true]
            refine ⟨rfl, ?_, ?_, ?_, ?_, ?_, ?_, ?_⟩
            · rw [if_neg (by decide)]; exact ehost
            · rw [if_neg (by decide)]; exact g1
            · rw [if_neg (by decide)]; exact g2
            · rw [if_neg (by decide)]; exact g3
            · rw [if_neg (by decide)]; exact g4
            · rw [if_neg (by decide)]; exact g5
            · rw [if_neg (by decide)]; exact g6)
          clear F5
          rw [Int.zero_add] at F6
          obtain ⟨hcn, hc1, hc6, hSm, hfit⟩ := hcs i2 hi2
          have hst1 := hHs i2 hi2
          have hst2 := hHk i2 hi2
          obtain ⟨ti, hti⟩ := hfi.get i2 ((f i2 : Nat) : Int) (by rw [List.getElem?_map, List.getElem?_range (by omega)]; rfl)
          have hxi : ys[((i2 : Nat) : Int).toNat]? = some (.int ((f i2 : Nat) : Int) ti) := by rw [show ((i2 : Nat) : Int).toNat = i2 by omega]; exact hti
          obtain ⟨tp, htp⟩ := hfi.get (i2 - 1) ((f (i2 - 1) : Nat) : Int) (by rw [List.getElem?_map, List.getElem?_range (by omega)]; rfl)
          have hxp : ys[(((i2 : Nat) : Int) - 1).toNat]? = some (.int ((f (i2 - 1) : Nat) : Int) tp) := by rw [show (((i2 : Nat) : Int) - 1).toNat = i2 - 1 by omega]; exact htp
          have hvl : vs.length = 6 := by have := hv.length; simpa [h6] using this
          obtain ⟨xc, tv, hxc, hxv⟩ := strs_get hv (List.getElem?_eq_getElem (show i2 < vs.length by omega))
          rw [List.getElem?_map] at hxc
          have hck : cks[i2]? = some cks[i2] := List.getElem?_eq_getElem (by omega)
          have hxc' : vs[((i2 : Nat) : Int).toNat]? = some (.str (T (clOf cks i2)) tv) := by
            rw [show ((i2 : Nat) : Int).toNat = i2 by omega, List.getElem?_eq_getElem (show i2 < vs.length by omega), hxv]
            rw [hck] at hxc
            unfold clOf
            rw [hck, ← Option.some.inj hxc]
            rfl
          have hcl4 := clOf_len hc i2
          have hHl' := hHl i2
          have hsz : IntsAre [Value.int (z0 : Nat) u0, Value.int (z1 : Nat) u1, Value.int (z2 : Nat) u2, Value.int (z3 : Nat) u3, Value.int (z4 : Nat) u4, Value.int (z5 : Nat) u5] ((List.range 6).map fun x => ((zOf z0 z1 z2 z3 z4 z5 x : Nat) : Int)) := by
            rw [show List.range 6 = [0, 1, 2, 3, 4, 5] from rfl]
            exact .cons _ _ (.cons _ _ (.cons _ _ (.cons _ _ (.cons _ _ (.cons _ _ .nil)))))
          generalize c4 i2 = c at hcn hc1 hc6 hSm hfit hst1
          k_steps
          any_goals (
            unfold Halt
            rename Fr _ _ _ _ => FS0
            rename News _ _ _ _ => NS0
            refine' slice_T (F := FS0) (N := NS0) (hD := ?D) (hi := hsz) (h0 := ?h0) (hl := ?hl) (s := ⟨_, _, _, _, _⟩) ?_
            case D => k_mem
            case h0 => (refine ⟨by omega, by omega, ?_⟩; simp only [List.length_map, List.length_range]; omega)
            case hl => (simp only [List.length_cons, List.length_nil]; omega)
            intro S usS hS FS NS hus'
            k_steps
            unfold Halt
            refine sum_part FS NS (.head _) hus' (by omega) rfl (fun h9 tk9 t9 F9 N9 => ?_)
            k_steps
            unfold Halt
            refine' claim_use (clock ?ha ?hb) trivial ?B F9 ?X N9 ?Tt ?hk ?hd ?hu ?_
            case ha => omega
            case hb => omega
            case B => k_asm
            case X => k_asm
            case Tt => k_asm
            case hk => exact rfl
            case hd => first | ktr_room | omega
            case hu => first | ktr_units | omega
            intro t8 h8 tk8 F8 N8
            try dsimp only
            k_steps)
          all_goals
            refine' end_place ?F ?N ?hled hoff2 ?hh ?hX ?hk
            case F => k_asm
            case N => k_asm
            case hled => intro p hp; repeat (first | exact hp | apply List.mem_cons_of_mem)
            case hh => exact rfl
            case hX => first | (rw [hst1 (by omega), if_pos (by omega)]) | (rw [hst1 (by omega), if_neg (by omega)]; rfl) | (rw [hst2 (by omega)])
            case hk =>
              simp only [List.forall_mem_cons, List.not_mem_nil, false_implies, implies_true, and_true]
              exact ⟨rfl, rfl, rfl, rfl, rfl, rfl⟩
        case done4 =>
          intro m₃ nx3 h3 tk3 hJ3 F7 N7
          obtain ⟨th, rfl, ehost, hk2⟩ := hJ3
          simp only [List.forall_mem_cons, List.not_mem_nil, false_implies, implies_true, and_true] at hk2
          obtain ⟨g1, g2, g3, g4, g5, g6⟩ := hk2
          have F8 := fr_list [(Str.ofString "host", Value.str (T (H4 (e + 1))) th), (Str.ofString "head", Value.str (T head) t1), (Str.ofString "tail", Value.str (T tail) t2), (Str.ofString "clocks", Value.ref l), (Str.ofString "sizes", Value.ref l2), (Str.ofString "hosts", Value.ref HD)] F7 (by
            simp only [List.forall_mem_cons, List.not_mem_nil, false_implies, implies_true, and_true]
            exact ⟨ehost, g1, g2, g3, g4, g5⟩)
          clear F7
          have hHl' := hHl (e + 1)
          have husl : us.length = e := by have := hus.length; simpa using this
          have husz : us.toArray.size ≤ sizeLine := by rw [sizeLine_eq, List.size_toArray]; omega
          k_steps
          refine' end_host (led := (FD, listOf ys.toArray ys.length) :: (L' + 1 + 1, oE2) :: (HD, listOf us.toArray us.length) :: (TD, listOf (rows.map fun p => Value.ref p.1).toArray rows.length) :: (L' + 1, oT) :: (R, oR) :: (l, listOf vs.toArray nn) :: (l2, listOf [Value.int (z0 : Nat) u0, Value.int (z1 : Nat) u1, Value.int (z2 : Nat) u2, Value.int (z3 : Nat) u3, Value.int (z4 : Nat) u4, Value.int (z5 : Nat) u5].toArray n2) :: (rows ++ own)) ?F ?N ?hX hus hdE2 ?hC (fun p hp => ?hled) ?hne hoff ?hk
          case F => k_asm
          case N => k_asm
          case hX => rw [hHe]; rfl
          case hC => exact Nat.ne_of_lt hHD.2.1
          case hled =>
            simp only [List.mem_cons, List.mem_append, List.cons_append] at hp ⊢
            rcases hp with h | h | h | h | h | h | h | h
            · exact .inr (.inl h)
            · exact .inr (.inr (.inr (.inl h)))
            · exact .inr (.inr (.inr (.inr (.inl h))))
            · exact .inr (.inr (.inr (.inr (.inr (.inl h)))))
            · exact .inr (.inr (.inr (.inr (.inr (.inr (.inl h))))))
            · exact .inr (.inr (.inr (.inr (.inr (.inr (.inr (.inl h)))))))
            · exact .inr (.inr (.inr (.inr (.inr (.inr (.inr (.inr (.inl h))))))))
            · exact .inr (.inr (.inr (.inr (.inr (.inr (.inr (.inr (.inr h))))))))
          case hne =>
            simp only [List.forall_mem_cons]
            exact ⟨Nat.ne_of_lt hHD.1, Nat.ne_of_lt hHD.2.2.1, Nat.ne_of_lt hHD.2.2.2.1, Nat.ne_of_lt hHD.2.2.2.2.1, Nat.ne_of_lt hHD.2.2.2.2.2.1, fun p hp => Nat.ne_of_lt (kst_ltOf hHD.2.2.2.2.2.2 p hp)⟩
          case hk =>
            simp only [List.forall_mem_cons, List.not_mem_nil, false_implies, implies_true, and_true]
            exact ⟨rfl, rfl, rfl, rfl, rfl⟩
    case done3 =>
      intro m₁ nx h tk hJ F₂ N₂
      obtain ⟨us, oE', v₀, rfl, hdE, hus, hkeep⟩ := hJ
      simp only [List.forall_mem_cons, List.not_mem_nil, false_implies, implies_true, and_true] at hkeep
      obtain ⟨e1, e2, e3, e4, e5⟩ := hkeep
      have F₃ := fr_list [(Str.ofString "head", Value.str (T head) t1), (Str.ofString "tail", Value.str (T tail) t2), (Str.ofString "hosts", Value.ref HD)] F₂ (by
        simp only [List.forall_mem_cons, List.not_mem_nil, false_implies, implies_true, and_true]
        exact ⟨e1, e2, e5⟩)
      clear F₂
      have husl : us.length = 6 := by have := hus.length; simpa using this
      have husz : us.toArray.size ≤ sizeLine := by rw [sizeLine_eq, List.size_toArray]; omega
      k_steps
      rename_i kF kN kT kX
      refine hret HD _ _ _ kF (news_app (rest := [(R, oR)]) kN (fun p hp => ?_) (fun p hp => ?_)) ?_
      · rw [List.mem_singleton.mp hp]
        exact .tail _ (.tail _ (.tail _ (.tail _ (.head _))))
      · rw [List.mem_singleton.mp hp]
        exact Nat.ne_of_lt hHD.2.2.2.1
      · unfold runHosts
        rw [List.map_append, List.map_map, h6]
        exact strs_snoc hus
end Mine
end

section
open PySem PySem.Spec PySem.Calls PyProof.Rows
set_option Elab.async false
set_option maxRecDepth 100000
namespace Mine
open PyProof.Rows.LCg
theorem off3_all {I C D : Addr} {xs : List (Addr × Obj)} (h : Off3 I C D xs) {A : Addr} {o : Obj} (hI : I < A) (hC : C < A) (hD : D < A) : Off3 I C D ((A, o) :: xs) :=
  ⟨⟨Nat.ne_of_gt hI, Nat.ne_of_gt hC, Nat.ne_of_gt hD⟩, h⟩
section
variable {prog : Program} {w : World} {A : Around} {E : Value → Shared → Prop} {s : Shared} {h₀ : Heap} {L : Addr} {m : Str → Option Value} {env : Env}
/-- the elements of a comprehension over a list, each a new object that stays in the ledger -/
theorem compG_rest {elt : Expr} {x : Str} {scope : Scope} {cl : List (Str × Addr)} {its : Array Value} {n : Nat} {S : List (Addr × Obj) → Prop} {Fin : List Value → List (Addr × Obj) → Prop} {news : List (Addr × Obj)} (Rel : Nat → Obj → Prop) (hS : ∀ tus : List (Addr × Obj), S (tus ++ news))
    (turn : ∀ i v I oI C oC D m₂ ys h tk (tus : List (Addr × Obj)) (E' : Value → Shared → Prop), i < n → its[i]? = some v → NsObj oC m₂ → m₂ x = some v → Fr h₀ L h m → News h₀ L h ((I, oI) :: (C, oC) :: (D, lst ys) :: (tus ++ news)) → Off3 I C D (tus ++ news) → ((@Ne Nat I C) ∧ (@Ne Nat I D) ∧ (@Ne Nat C D)) →
      wpAny (model prog w) A (eval elt (compEnvC scope cl C env))
        (fun y s₂ => ∃ (B : Addr) (o : Obj) (h' : Heap) (tk' : Nat), y = .ref B ∧ s₂ = { s with heap := h', toks := tk' } ∧ Fr h₀ L h' m ∧ News h₀ L h' ((B, o) :: (I, oI) :: (C, oC) :: (D, lst ys) :: (tus ++ news)) ∧ (∀ q ∈ (I, oI) :: (C, oC) :: (D, lst ys) :: (tus ++ news), q.1 < B) ∧ Rel i o) E' { s with heap := h, toks := tk })
    (fin : ∀ tus : List (Addr × Obj), tus.length = n → (∀ i p, tus.reverse[i]? = some p → Rel i p.2) → Fin (tus.reverse.map fun p => .ref p.1) (tus ++ news)) :
    CompRest prog w A h₀ L m env elt x scope cl s S (fun i v => its[i]? = some v) Fin n 0 [] news := by
  have key : ∀ (j i : Nat) (tus : List (Addr × Obj)), i + j = n → tus.length = i → (∀ k p, tus.reverse[k]? = some p → Rel k p.2) → CompRest prog w A h₀ L m env elt x scope cl s S (fun i v => its[i]? = some v) Fin j i (tus.reverse.map fun p => .ref p.1) (tus ++ news) := by
    intro j
    induction j with
    | zero =>
      intro i tus hi hl hr
      exact fin tus (by omega) hr
    | succ j ih =>
      intro i tus hi hl hr v I oI C oC D m₂ h tk E' hv hC hx F N off ne
      refine wpAny_mono (turn i v I oI C oC D m₂ _ h tk tus E' (by omega) hv hC hx F N off ne) (fun y s₂ hq => ?_) fun _ _ e => e
      obtain ⟨B, o, h', tk', rfl, e, F', N', hB, hy⟩ := hq
      have ih' := ih (i + 1) ((B, o) :: tus) (by omega) (by simp [hl]) (by
        intro k p hk
        rw [List.reverse_cons] at hk
        by_cases hki : k < tus.reverse.length
        · rw [List.getElem?_append_left hki] at hk
          exact hr k p hk
        · have hk2 : k = tus.reverse.length := by
            have : k < (tus.reverse ++ [(B, o)]).length := by
              rcases Nat.lt_or_ge k (tus.reverse ++ [(B, o)]).length with h | h
              · exact h
              · rw [List.getElem?_eq_none h] at hk; cases hk
            simp at this ⊢
            simp at hki
            omega
          subst hk2
          simp at hk
          rw [← hk, List.length_reverse, hl]
          exact hy)
      rw [List.reverse_cons, List.map_append] at ih'
      refine ⟨h', tk', (B, o) :: (tus ++ news), e, F', fun p hp => ?_, off3_all off (hB (I, oI) (by simp)) (hB (C, oC) (by simp)) (hB (D, _) (List.mem_cons_of_mem _ (List.mem_cons_of_mem _ (List.mem_cons_self ..)))), hS ((B, o) :: tus), ih'⟩
      simp only [List.mem_cons] at hp
      refine N' p ?_
      simp only [List.mem_cons]
      rcases hp with h | h | h | h | h
      · exact .inr (.inl h)
      · exact .inr (.inr (.inl h))
      · exact .inr (.inr (.inr (.inl h)))
      · exact .inl h
      · exact .inr (.inr (.inr (.inr h)))
  exact key n 0 [] (by omega) rfl (by intro k y h; simp at h)
/-- the elements of a comprehension over a list of pairs, each by a relation; the ledger comes back as it was -/
theorem compP_rest {elt : Expr} {x x₂ : Str} {scope : Scope} {cl : List (Str × Addr)} {its : Array Value} {n : Nat} {S : List (Addr × Obj) → Prop} {Fin : List Value → List (Addr × Obj) → Prop} {news : List (Addr × Obj)} (Rel : Nat → Value → Prop) (hS : S news)
    (turn : ∀ i v, i < n → its[i]? = some v → ∃ (t : Addr) (ot : Obj) (v₁ v₂ : Value) (nt : Nat), v = .ref t ∧ (t, ot) ∈ news ∧ ot.cls = .type "tuple" ∧ ot.data = .seq #[v₁, v₂] nt ∧
      ∀ I oI C oC D m₂ ys h tk (E' : Value → Shared → Prop), NsObj oC m₂ → m₂ x = some v₁ → m₂ x₂ = some v₂ → Fr h₀ L h m → News h₀ L h ((I, oI) :: (C, oC) :: (D, lst ys) :: news) → Off3 I C D news → ((@Ne Nat I C) ∧ (@Ne Nat I D) ∧ (@Ne Nat C D)) →
      wpAny (model prog w) A (eval elt (compEnvC scope cl C env))
        (fun y s₂ => ∃ h' tk', s₂ = { s with heap := h', toks := tk' } ∧ Fr h₀ L h' m ∧ News h₀ L h' ((I, oI) :: (C, oC) :: (D, lst ys) :: news) ∧ Rel i y) E' { s with heap := h, toks := tk })
    (fin : ∀ ys : List Value, ys.length = n → (∀ i y, ys[i]? = some y → Rel i y) → Fin ys news) :
    LCp.CompRestP prog w A h₀ L m env elt x x₂ scope cl s S (fun i v => its[i]? = some v) Fin n 0 [] news := by
  have key : ∀ (j i : Nat) (ys : List Value), i + j = n → ys.length = i → (∀ k y, ys[k]? = some y → Rel k y) → LCp.CompRestP prog w A h₀ L m env elt x x₂ scope cl s S (fun i v => its[i]? = some v) Fin j i ys news := by
    intro j
    induction j with
    | zero =>
      intro i ys hi hl hr
      exact fin ys (by omega) hr
    | succ j ih =>
      intro i ys hi hl hr v hv
      obtain ⟨t, ot, v₁, v₂, nt, e1, e2, e3, e4, go⟩ := turn i v (by omega) hv
      refine ⟨t, ot, v₁, v₂, nt, e1, e2, e3, e4, ?_⟩
      intro I oI C oC D m₂ h tk E' hC hx hx₂ F N off ne
      refine wpAny_mono (go I oI C oC D m₂ ys h tk E' hC hx hx₂ F N off ne) (fun y s₂ hq => ?_) fun _ _ e => e
      obtain ⟨h', tk', e, F', N', hy⟩ := hq
      refine ⟨h', tk', news, e, F', N', off, hS, ih (i + 1) _ (by omega) (by simp [hl]) ?_⟩
      intro k z hk
      by_cases hki : k < ys.length
      · rw [List.getElem?_append_left hki] at hk
        exact hr k z hk
      · have hk2 : k = ys.length := by
          have : k < (ys ++ [y]).length := by
            rcases Nat.lt_or_ge k (ys ++ [y]).length with h | h
            · exact h
            · rw [List.getElem?_eq_none h] at hk; cases hk
          simp at this
          omega
        subst hk2
        simp at hk
        rw [← hk, hl]
        exact hy
  exact key n 0 [] (by omega) rfl (by intro k y h; simp at h)
end
theorem six_tus {tus : List (Addr × Obj)} (h : tus.length = 6) : ∃ e0 e1 e2 e3 e4 e5, tus = [e5, e4, e3, e2, e1, e0] := by
  have step : ∀ {k : Nat} {xs : List (Addr × Obj)}, xs.length = k + 1 → ∃ e ys, xs = e :: ys ∧ ys.length = k := by
    intro k xs h
    cases xs with
    | nil => simp at h
    | cons e ys => exact ⟨e, ys, rfl, by simpa using h⟩
  obtain ⟨e5, t5, r5, h⟩ := step h
  obtain ⟨e4, t4, r4, h⟩ := step h
  obtain ⟨e3, t3, r3, h⟩ := step h
  obtain ⟨e2, t2, r2, h⟩ := step h
  obtain ⟨e1, t1, r1, h⟩ := step h
  obtain ⟨e0, t0, r0, h⟩ := step h
  have hz : t0 = [] := List.eq_nil_of_length_eq_zero h
  exact ⟨e0, e1, e2, e3, e4, e5, by rw [r5, r4, r3, r2, r1, r0, hz]⟩
theorem same_list {ys zs : List Value} (hl : ys.length = zs.length) (h : ∀ (i : Nat) (y : Value), ys[i]? = some y → zs[i]? = some y) : ys = zs := by
  apply List.ext_getElem?
  intro i
  by_cases hi : i < ys.length
  · rw [h i ys[i] (List.getElem?_eq_getElem hi), List.getElem?_eq_getElem hi]
  · rw [List.getElem?_eq_none (by omega), List.getElem?_eq_none (by omega)]
end Mine
end

section
open PySem PySem.Calls PyProof.Rows PyProof.V PySem.Spec PySem.SeqAt
set_option Elab.async false
set_option maxRecDepth 100000
namespace Mine
theorem txt_reads {h : Heap} {vs : List Value} {ss : List Str} (hs : StrsAre vs ss) : ReadsAll h vs (ss.map PyData.str) [] := by
  induction hs with
  | nil => exact .nil
  | cons x t _ ih => simpa using ReadsAll.cons (Reads.str (h := h) x t) ih
theorem txt_canLay {ss : List Str} (h : ∀ x ∈ ss, PyData.strOk x = true) : PyData.canLayAll0 (ss.map PyData.str) = true := by
  induction ss with
  | nil => simp [PyData.canLayAll0]
  | cons x r ih => simp [PyData.canLayAll0, PyData.canLay0, ih fun y hy => h y (List.mem_cons_of_mem _ hy), h x (List.mem_cons_self ..)]
theorem txt_depth (ss : List Str) : PyData.depthAll (ss.map PyData.str) ≤ 1 := by
  induction ss with
  | nil => simp [PyData.depthAll]
  | cons x r ih =>
    simp only [List.map_cons, PyData.depthAll, PyData.depth]
    omega
theorem txt_shaped {ss : List Str} (h : ∀ x ∈ ss, PyData.strOk x = true) : shaped (.list (ss.map PyData.str)) = true := by
  have h2 : PyData.depth (.list (ss.map PyData.str)) ≤ 64 := by
    have := txt_depth ss
    simp only [PyData.depth]
    omega
  show (PyData.canLay0 (.list (ss.map PyData.str)) && decide (PyData.depth (.list (ss.map PyData.str)) ≤ 64)) = true
  rw [Bool.and_eq_true]
  exact ⟨by simp only [PyData.canLay0]; exact txt_canLay h, decide_eq_true h2⟩
theorem txt_noMix (ss : List Str) : noMixAll (ss.map PyData.str) (ss.map PyData.str) = true := by
  induction ss with
  | nil => simp [noMixAll]
  | cons x r ih => simp [noMixAll, noMix, ih]
theorem txt_same (ss : List Str) : sameAll (ss.map PyData.str) (ss.map PyData.str) = true := by
  induction ss with
  | nil => simp [sameAll]
  | cons x r ih => simp [sameAll, same, ih]
section
variable {prog : Program} {w : World} {A : Around} {E : Value → Shared → Prop} {s : Shared}
theorem eq_texts {a b : Addr} {vs us : List Value} {ss : List Str} {Q : Value → Shared → Prop} (hl : s.heap.IsList a vs.toArray) (hi : StrsAre vs ss) (hl' : s.heap.IsList b us.toArray) (hi' : StrsAre us ss) (hok : ∀ x ∈ ss, PyData.strOk x = true) (hu : A.units + 64 < cLine)
    (h : Q (.bool true) s) : wpAny (model prog w) A (compareOp .Eq (.ref a) (.ref b)) Q E s := by
  obtain ⟨o, ho, hc, n, hd⟩ := hl
  obtain ⟨o', ho', hc', n', hd'⟩ := hl'
  have r1 : Reads s.heap (.ref a) (.list (ss.map PyData.str)) [a] := Reads.list ho hc hd (by simpa using txt_reads hi)
  have r2 : Reads s.heap (.ref b) (.list (ss.map PyData.str)) [b] := Reads.list ho' hc' hd' (by simpa using txt_reads hi')
  exact eq_dataH_same r1 r2 (txt_shaped hok) (txt_shaped hok) hu (by simp only [noMix]; exact txt_noMix ss) (by simp only [same]; rw [txt_same]; exact h)
end
noncomputable def heads4 : List (List Nat) := [[97], [55], [97, 46, 55, 46, 98], [48, 46, 120, 55]]
noncomputable def tails2 : List (List Nat) := [[], [10]]
theorem hd_texts : Str.ofString "a" = T [97] ∧ Str.ofString "7" = T [55] ∧ Str.ofString "a.7.b" = T [97, 46, 55, 46, 98] ∧ Str.ofString "0.x7" = T [48, 46, 120, 55] ∧ Str.ofString "" = T [] ∧ Str.ofString "\n" = T [10] := by decide +kernel
section
variable {prog : Program} {w : World} {A : Around} {E : Value → Shared → Prop} {s : Shared} {h₀ : Heap} {L : Addr} {m : Str → Option Value} {news : List (Addr × Obj)}
theorem item_head {value slice : Expr} {D : Addr} {k n : Nat} {u ta tb tc td : Tok} {Q : Value → Shared → Prop} (N : News h₀ L s.heap news)
    (hD : (D, PySem.W.listOf [Value.str (Str.ofString "a") ta, .str (Str.ofString "7") tb, .str (Str.ofString "a.7.b") tc, .str (Str.ofString "0.x7") td].toArray k) ∈ news) (hn : n < 4)
    (h : ∀ x t, x ∈ heads4 → Q (.str (T x) t) s)
    (hs : subscripted slice false (.ref D) (.int (n : Int) u) = operate [.ref D, .int (n : Int) u] (getItem (.ref D) (.int (n : Int) u)) := by with_unfolding_all rfl) :
    wpAny (model prog w) A (subscriptTail value slice (.ref D) (.int (n : Int) u)) Q E s := by
  obtain ⟨e1, e2, e3, e4, _⟩ := hd_texts
  rw [e1, e2, e3, e4] at hD
  have h4 : n = 0 ∨ n = 1 ∨ n = 2 ∨ n = 3 := by omega
  rcases h4 with rfl | rfl | rfl | rfl
  · exact item_any N hD (by decide) (by decide) rfl (h [97] ta (by simp [heads4])) hs
  · exact item_any N hD (by decide) (by decide) rfl (h [55] tb (by simp [heads4])) hs
  · exact item_any N hD (by decide) (by decide) rfl (h [97, 46, 55, 46, 98] tc (by simp [heads4])) hs
  · exact item_any N hD (by decide) (by decide) rfl (h [48, 46, 120, 55] td (by simp [heads4])) hs
theorem item_tail {value slice : Expr} {D : Addr} {k n : Nat} {u ta tb : Tok} {Q : Value → Shared → Prop} (N : News h₀ L s.heap news)
    (hD : (D, PySem.W.listOf [Value.str (Str.ofString "") ta, .str (Str.ofString "\n") tb].toArray k) ∈ news) (hn : n < 2)
    (h : ∀ x t, x ∈ tails2 → Q (.str (T x) t) s)
    (hs : subscripted slice false (.ref D) (.int (n : Int) u) = operate [.ref D, .int (n : Int) u] (getItem (.ref D) (.int (n : Int) u)) := by with_unfolding_all rfl) :
    wpAny (model prog w) A (subscriptTail value slice (.ref D) (.int (n : Int) u)) Q E s := by
  obtain ⟨_, _, _, _, e5, e6⟩ := hd_texts
  rw [e5, e6] at hD
  have h4 : n = 0 ∨ n = 1 := by omega
  rcases h4 with rfl | rfl
  · exact item_any N hD (by decide) (by decide) rfl (h [] ta (by simp [tails2])) hs
  · exact item_any N hD (by decide) (by decide) rfl (h [10] tb (by simp [tails2])) hs
end
theorem head_tail {x y : List Nat} (hx : x ∈ heads4) (hy : y ∈ tails2) : HeadTail x y := by
  simp only [heads4, List.mem_cons, List.not_mem_nil, or_false] at hx
  simp only [tails2, List.mem_cons, List.not_mem_nil, or_false] at hy
  rcases hx with rfl | rfl | rfl | rfl <;> rcases hy with rfl | rfl <;> exact ⟨by decide +kernel, by simp, by simp, by simp⟩
theorem hostP_chars {head : List Nat} (hh : ∀ c ∈ head, c < 1000) : ∀ {ps : List (List Nat)}, Figs ps → ∀ c ∈ hostP head ps, c < 1000
  | [], _, c, hc => hh c hc
  | d :: ps, h, c, hc => by
    simp only [hostP, List.mem_append, List.mem_cons] at hc
    rcases hc with h1 | h1 | h1
    · exact hostP_chars hh (ps := ps) (fun e he => h e (List.mem_cons_of_mem _ he)) c h1
    · omega
    · have := (h d (List.mem_cons_self ..)).1 c h1
      omega
theorem hosts_ok {x y : List Nat} (hx : x ∈ heads4) (hy : y ∈ tails2) {cks : List (List Nat × Nat)} (hc : Cks cks) (h6 : cks.length ≤ 6) : ∀ s ∈ (runHosts x y cks).map T, PyData.strOk s = true := by
  have hh : ∀ c ∈ x, c < 1000 := by
    simp only [heads4, List.mem_cons, List.not_mem_nil, or_false] at hx
    rcases hx with rfl | rfl | rfl | rfl <;> decide
  have ht : ∀ c ∈ y, c < 1000 := by
    simp only [tails2, List.mem_cons, List.not_mem_nil, or_false] at hy
    rcases hy with rfl | rfl <;> decide
  have key : ∀ l : List Nat, (∀ c ∈ l, c < 1000) → PyData.strOk (T l) = true := by
    intro l hl
    show (l.toArray).all (· < 0x110000) = true
    rw [Array.all_eq_true']
    intro c hc
    have := hl c (by simpa using hc)
    simp only [decide_eq_true_eq]
    omega
  intro s hs
  obtain ⟨l, hl, rfl⟩ := List.mem_map.mp hs
  refine key l fun c hcl => ?_
  unfold runHosts at hl
  rcases List.mem_append.mp hl with h | h
  · obtain ⟨i, hi, rfl⟩ := List.mem_map.mp h
    have hi' := List.mem_range.mp hi
    have hf := ((stackAt_good hc h6 (i + 1) (by omega)).figs (by omega)).1
    rcases List.mem_append.mp hcl with h | h
    · exact hostP_chars hh hf c h
    · exact ht c h
  · rw [List.mem_singleton.mp h] at hcl
    rcases List.mem_append.mp hcl with h | h
    · exact hh c h
    · exact ht c h
section
variable {prog : Program} {w : World} {A : Around} {E : Value → Shared → Prop} {s : Shared} {h₀ : Heap} {L : Addr} {m : Str → Option Value} {news : List (Addr × Obj)}
/-- a list of ints from a place on -/
theorem slice_from {value slice : Expr} {D : Addr} {vals : List Value} {k : Nat} {ns : List Int} {x : Int} {tx : Tok} {Q : Value → Shared → Prop} (F : Fr h₀ L s.heap m) (N : News h₀ L s.heap news) (hD : (D, PySem.W.listOf vals.toArray k) ∈ news)
    (hi : IntsAre vals ns) (h0 : 0 ≤ x) (hl : vals.length ≤ 1000)
    (h : ∀ S (us : List Value) h', Fr h₀ L h' m → News h₀ L h' ((S, PySem.W.listOf us.toArray 0) :: news) → IntsAre us (ns.drop x.toNat) → Q (.ref S) { s with heap := h' })
    (hs : subscripted slice false (.ref D) (.ref s.heap.objs.size) = operate [.ref s.heap.objs.size, .ref D] (getItem (.ref D) (.ref s.heap.objs.size)) := by with_unfolding_all rfl)
    (ht : ∀ r, letTemporaryGo value (.ref D) r = pure () := by intro _; with_unfolding_all rfl) :
    wpAny (model prog w) A (subscriptTail value slice (.ref D) (.ref s.heap.objs.size)) Q E { s with heap := s.heap.push { cls := .type "slice", data := .fields #[.int x tx, .none, .none] } } := by
  have hl' : s.heap.IsList D vals.toArray := ⟨_, (N _ hD).1, rfl, k, rfl⟩
  refine slice_list F N hl' (.int x tx) .none (fun h' F' N' => ?_) hs ht (by rw [sizeLine_eq, List.size_toArray]; omega)
  exact h _ (slicePick vals.toArray (some x) none none).toList h' F' (by simpa using N') (PySem.W.kmk_from hi h0)
end
end Mine
end

section
open PySem PySem.W PyProof.Rows
set_option Elab.async false
set_option maxRecDepth 100000
set_option maxHeartbeats 8000000
namespace Mine
theorem drawn_law {w : World} {mean : ExcName → Option Value} {mg mb : Str → Option Value} {news : List (Addr × Obj)} {c : Nat} {tc : Tok} {cn : Str} {cs : Scope} {a : Addr} {ccd : Value} {h₀ : Heap} {L : Addr} {m : Str → Option Value} {s : Shared} {Q E : Value → Shared → Prop}
    (B : Below callerA h₀ [] h₀) (F : Fr h₀ L s.heap m) (X : (hd.heap_39 w.params).In h₀) (N : News h₀ L s.heap news) (T1 : Top hd.view_39 loose0 mean mg mb h₀) (hk : cs.kind = .function)
    (h : ∀ (D : Addr) (p : List Nat) (v : Nat) (x : Str) (k : Int) (tp tv : Tok) (h' : Heap) (tk' : Nat), x = T p → k = (v : Int) → Piece p v → v ≤ 999 → Fr h₀ L h' m → News h₀ L h' ((D, { cls := .type "tuple", data := .seq #[.str x tp, .int k tv] }) :: news) → (∀ q ∈ news, q.1 < D) → Q (.ref D) { s with heap := h', toks := tk' }) :
    wpAny (model PySem.Challenge.rw_wb0005_01.row.prog w) (callerA.deeper (envOf cn cs L a ccd)) (call (.ref 77) [.int (c : Int) tc]) Q E s :=
  drawn_ok (callerA.deeper (envOf cn cs L a ccd)).depth (callerA.deeper (envOf cn cs L a ccd)).units (callerA.deeper (envOf cn cs L a ccd)).guards cn cs a ccd [] [] callerA h₀ h₀ L m s Q E B F X N T1 hk (by simp only [depth_deeper, depth_caller]; decide) (by have hcL9 := cLine_is; simp only [units_deeper, units_caller]; omega) h
theorem run_law {w : World} {mean : ExcName → Option Value} {mg mb : Str → Option Value} {news : List (Addr × Obj)} {head tail : List Nat} {t1 t2 : Tok} {l : Addr} {vs : List Value} {nn : Nat} {cks : List (List Nat × Nat)} {cn : Str} {cs : Scope} {a : Addr} {ccd : Value} {h₀ : Heap} {L : Addr} {m : Str → Option Value} {s : Shared} {Q E : Value → Shared → Prop}
    (hv : StrsAre vs (cks.map fun c => T c.1)) (hc : Cks cks) (h6 : cks.length ≤ 6) (H : HeadTail head tail)
    (B : Below callerA h₀ [] h₀) (F : Fr h₀ L s.heap m) (X : (hd.heap_39 w.params).In h₀) (N : News h₀ L s.heap ((l, listOf vs.toArray nn) :: news)) (T1 : Top hd.view_39 loose0 mean mg mb h₀) (hk : cs.kind = .function)
    (h : ∀ (D : Addr) (us : List Value) (h' : Heap) (tk' : Nat), Fr h₀ L h' m → News h₀ L h' ((D, listOf us.toArray us.length) :: (l, listOf vs.toArray nn) :: news) → StrsAre us ((runHosts head tail cks).map T) → Q (.ref D) { s with heap := h', toks := tk' }) :
    wpAny (model PySem.Challenge.rw_wb0005_01.row.prog w) (callerA.deeper (envOf cn cs L a ccd)) (call (.ref 84) [.str (T head) t1, .str (T tail) t2, .ref l]) Q E s :=
  run_ok hv hc h6 H (callerA.deeper (envOf cn cs L a ccd)).depth (callerA.deeper (envOf cn cs L a ccd)).units (callerA.deeper (envOf cn cs L a ccd)).guards cn cs a ccd [] [] callerA h₀ h₀ L m s Q E B F X N T1 hk (by simp only [depth_deeper, depth_caller]; decide) (by have hcL9 := cLine_is; simp only [units_deeper, units_caller]; omega) h
theorem told_law {w : World} {mean : ExcName → Option Value} {mg mb : Str → Option Value} {R : Addr} {oR : Obj} {head tail : List Nat} {t1 t2 : Tok} {l l2 : Addr} {vs : List Value} {nn n2 : Nat} {cks : List (List Nat × Nat)}
    {z0 z1 z2 z3 z4 z5 : Nat} {u0 u1 u2 u3 u4 u5 : Tok} {cn : Str} {cs : Scope} {a : Addr} {ccd : Value} {h₀ : Heap} {L : Addr} {m : Str → Option Value} {s : Shared} {Q E : Value → Shared → Prop}
    (hz : z0 ≤ 999 ∧ z1 ≤ 999 ∧ z2 ≤ 999 ∧ z3 ≤ 999 ∧ z4 ≤ 999 ∧ z5 ≤ 999)
    (hv : StrsAre vs (cks.map fun c => T c.1)) (hc : Cks cks) (h6 : cks.length = 6) (hzc : ∀ i c, cks[i]? = some c → zOf z0 z1 z2 z3 z4 z5 i = c.2) (H : HeadTail head tail)
    (B : Below callerA h₀ [] h₀) (F : Fr h₀ L s.heap m) (X : (hd.heap_39 w.params).In h₀) (N : News h₀ L s.heap [(R, oR), (l, listOf vs.toArray nn), (l2, listOf [Value.int (z0 : Nat) u0, Value.int (z1 : Nat) u1, Value.int (z2 : Nat) u2, Value.int (z3 : Nat) u3, Value.int (z4 : Nat) u4, Value.int (z5 : Nat) u5].toArray n2)]) (T1 : Top hd.view_39 loose0 mean mg mb h₀) (hk : cs.kind = .function)
    (h : ∀ (D : Addr) (us : List Value) (h' : Heap) (tk' : Nat), Fr h₀ L h' m → News h₀ L h' [(D, listOf us.toArray us.length), (R, oR)] → StrsAre us ((runHosts head tail cks).map T) → Q (.ref D) { s with heap := h', toks := tk' }) :
    wpAny (model PySem.Challenge.rw_wb0005_01.row.prog w) (callerA.deeper (envOf cn cs L a ccd)) (call (.ref 89) [.str (T head) t1, .str (T tail) t2, .ref l, .ref l2]) Q E s :=
  told_ok hz hv hc h6 hzc H (callerA.deeper (envOf cn cs L a ccd)).depth (callerA.deeper (envOf cn cs L a ccd)).units (callerA.deeper (envOf cn cs L a ccd)).guards cn cs a ccd [] [] callerA h₀ h₀ L m s Q E B F X N T1 hk (by simp only [depth_deeper, depth_caller]; decide) (by have hcL9 := cLine_is; simp only [units_deeper, units_caller]; omega) h
end Mine
end

section
open PySem PySem.W PyProof.Rows
set_option Elab.async false
set_option maxRecDepth 100000
set_option maxHeartbeats 8000000
namespace Mine
local macro_rules | `(tactic| walk_at "eval ListComp") => `(tactic| (refine halt ?_))
local macro_rules | `(tactic| walk_at "exec Assign cons ListComp") => `(tactic| (refine halt ?_))
local macro_rules | `(tactic| walk_at "CompSrc") => `(tactic| (refine halt ?_))
local macro_rules | `(tactic| walk_at "SrcLP") => `(tactic| (refine halt ?_))
local macro_rules | `(tactic| walk_at "Exists") => `(tactic| (refine halt ?_))
local macro_rules | `(tactic| walk_at "binaryOp Add ref ref") => `(tactic| (refine halt ?_))
local macro_rules | `(tactic| walk_at "call ref") => `(tactic| (refine halt ?_))
local macro_rules | `(tactic| walk_at "compareOp Eq ref ref") => `(tactic| (refine halt ?_))
local macro_rules | `(tactic| walk_at "subscriptTail") => `(tactic| ((with_reducible show wpAny _ _ (subscriptTail _ _ (Value.ref _) (Value.int (Nat.cast _) _)) _ _ _); refine halt ?_))
local macro_rules | `(tactic| walk_at "binaryOp FloorDiv int int") => `(tactic| (k_here; first
  | ((with_reducible show wpAny _ _ (binaryOp _ (Value.int (Nat.cast _) _) (Value.int 6400 _)) _ _ _); k_dflt (refine' fdiv_nat (k := 6400) rfl (by decide) (by decide) ?_; k_whole))
  | ((with_reducible show wpAny _ _ (binaryOp _ (Value.int (Nat.cast _) _) (Value.int 25600 _)) _ _ _); k_dflt (refine' fdiv_nat (k := 25600) rfl (by decide) (by decide) ?_; k_whole))))
local macro_rules | `(tactic| walk_at "binaryOp Mod int int") => `(tactic| (k_here; first
  | ((with_reducible show wpAny _ _ (binaryOp _ (Value.int (Nat.cast _) _) (Value.int 4 _)) _ _ _); k_dflt (refine' mod_nat (k := 4) rfl (by decide) ?_; k_whole))
  | ((with_reducible show wpAny _ _ (binaryOp _ (Value.int (Nat.cast _) _) (Value.int 2 _)) _ _ _); k_dflt (refine' mod_nat (k := 2) rfl (by decide) ?_; k_whole))))
local macro_rules | `(tactic| walk_at "subscriptTail Name Constant ref int") => `(tactic| (k_here; k_dflt (refine' item_any ?N ?D ?a ?b ?x ?_ ?s; (case N => k_asm); (case D => k_mem); (case x => exact rfl); (case a => decide); (case b => decide); (case s => with_unfolding_all rfl); k_whole)))
local macro_rules | `(tactic| walk_at "subscriptTail Name Slice ref ref") => `(tactic| ((with_reducible show wpAny _ _ (subscriptTail _ (Expr.Slice (some _) none none _) (Value.ref _) (Value.ref _)) _ _ _); refine halt ?_))
theorem t0 : PySem.Challenge.rw_wb0005_01.Holds := hd (by
  k_go0
  all_goals try k_fold
  k_steps
  unfold Halt
  rename Fr _ _ _ _ => F8
  k_dflt (refine LCg.ListComp_U (F₀ := F8) (by with_unfolding_all rfl) (by decide) (by rfl) (by decide) (by rfl) ?_)
  k_steps
  unfold Halt
  rename Fr _ _ _ _ => F9
  rename News _ _ _ _ => N9
  rename_i hI hC hL l1
  refine LCg.CompSrc.ledger rfl F9 N9 (List.mem_cons_self ..) ?hsz (fun g => ?_)
  case hsz => rw [sizeLine_eq, List.size_toArray, hI.length]; omega
  refine compUL_rest (fun i y => ∃ (M : Int) (t : Tok), y = .int M t ∧ 0 ≤ M ∧ M < 1000000) (.inr ⟨_, List.mem_cons_self .., rfl, _, rfl⟩) ?_ ?_
  · intro i v I oI C oC D m₂ ys ch ctk E' hi hv hC2 hm2 F10 N10 hoff3 hne3
    obtain ⟨n, t, rfl, hn⟩ := hI.at i v (by simpa using hv)
    k_steps
    unfold Halt
    refine ⟨_, _, rfl, F10, N10, n.fmod (10 ^ Int.toNat 6), _, rfl, Int.fmod_nonneg_of_pos _ (by decide), Int.fmod_lt_of_pos _ (by decide)⟩
  · intro ys hyl hyr
    obtain ⟨ns, hns, hnl, hnr⟩ := zs_of_rel (P := fun i M => 0 ≤ M ∧ M < 1000000) (ys := ys) hyr
    k_steps
    unfold Halt
    rename_i DY hY tkY FS0 NS0 o1Y
    refine' slice_from (F := FS0) (N := NS0) (hD := ?D) (hi := ?hi) (h0 := Int.natCast_nonneg _) (hl := ?hl) (s := ⟨_, _, _, _, _⟩) ?_
    case D => k_mem
    case hi => exact .cons _ _ (.cons _ _ (.cons _ _ (.cons _ _ (.cons _ _ (.cons _ _ .nil)))))
    case hl => simp only [List.length_cons, List.length_nil]; omega
    intro DS wsS hS FS NS hIS
    k_steps
    unfold Halt
    have hyl2 := hyl
    rw [List.size_toArray, hI.length, hC] at hyl2
    refine kmk_add_ints FS NS ⟨_, (NS (DY, LCg.lst ys) (.tail _ (.head _))).1, rfl, _, rfl⟩ ⟨_, (NS _ (.head _)).1, rfl, _, rfl⟩ hns hIS ?_ ?hz
    case hz => rw [sizeLine_eq, hnl, hyl2, List.length_drop]; simp only [List.length_cons, List.length_nil]; omega
    intro DC us hC FC NC lC hIC
    obtain ⟨c0, c1, c2, c3, c4, c5, t0, t1, t2, t3, t4, t5, rfl, b0, b1, b2, b3, b4, b5⟩ := six_of hIC (by rw [List.length_append, hnl, hyl2, List.length_drop]; simp only [List.length_cons, List.length_nil]; omega) (fun n hn => by
      rcases List.mem_append.mp hn with h | h
      · obtain ⟨i, hi⟩ := List.getElem?_of_mem h
        exact hnr i n hi
      · have := List.mem_of_mem_drop h
        simp at this
        omega)
    have NC1 : News _ _ hC [(DC, listOf [Value.int (c0 : Int) t0, .int (c1 : Int) t1, .int (c2 : Int) t2, .int (c3 : Int) t3, .int (c4 : Int) t4, .int (c5 : Int) t5].toArray 0)] := fun p hp => NC p (by rw [List.mem_singleton.mp hp]; exact .head _)
    clear NC NS FS hIC hIS lC hns hnl hnr hyl2 hyl hyr o1Y
    k_steps
    unfold Halt
    rename Fr _ _ _ _ => FA
    rename News _ _ _ _ => NA
    k_dflt (refine LCg.Assign_ListComp_U (F₀ := FA) (by rfl) (by with_unfolding_all rfl) (by rfl) (by decide) (by rfl) (by decide) (by rfl) (by rfl) (by rfl) ?_)
    k_steps
    unfold Halt
    refine LCg.CompSrc.ledger rfl FA NA (.head _) (by rw [sizeLine_eq]; exact Nat.le_of_ble_eq_true rfl) (fun g2 => ?_)
    refine compG_rest (fun i o => ∃ (p : List Nat) (v : Nat) (tp tv : Tok), Piece p v ∧ v ≤ 999 ∧ o = { cls := .type "tuple", data := .seq #[.str (T p) tp, .int (v : Int) tv] }) (fun tus => .inr ⟨_, List.mem_append.mpr (.inr (.head _)), rfl, _, rfl⟩) ?_ ?_
    · intro i v I oI C oC D m₂ zs ch ctk tus E' hi hv hC2 hm2 F10 N10 hoff3 hne3
      obtain ⟨c, t, rfl⟩ : ∃ (c : Nat) (t : Tok), v = .int (c : Int) t := by
        have h' := List.mem_of_getElem? (by simpa using hv : [Value.int (c0 : Int) t0, .int (c1 : Int) t1, .int (c2 : Int) t2, .int (c3 : Int) t3, .int (c4 : Int) t4, .int (c5 : Int) t5][i]? = some v)
        simp only [List.mem_cons, List.not_mem_nil, or_false] at h'
        rcases h' with h | h | h | h | h | h <;> exact ⟨_, _, h⟩
      k_steps
      unfold Halt
      rename Below callerA _ _ _ => KB
      rename Frag.In _ _ => KX
      rename Top _ _ _ _ _ _ => KT
      refine drawn_law KB F10 KX N10 KT rfl ?_
      intro D9 p9 v9 x9 k9 tp9 tv9 h9 tk9 hx9 hk9 hp9 hv9 F12 N12 hl9
      subst hx9 hk9
      k_steps
      unfold Halt
      exact ⟨D9, _, h9, tk9, rfl, rfl, F12, N12, hl9, p9, v9, tp9, tv9, hp9, hv9, rfl⟩
    · intro tus htl htr
      obtain ⟨e0, e1, e2, e3, e4, e5, rfl⟩ := six_tus htl
      obtain ⟨p0, v0, tp0, tv0, hp0, hv0, ho0⟩ := htr 0 e0 rfl
      obtain ⟨p1, v1, tp1, tv1, hp1, hv1, ho1⟩ := htr 1 e1 rfl
      obtain ⟨p2, v2, tp2, tv2, hp2, hv2, ho2⟩ := htr 2 e2 rfl
      obtain ⟨p3, v3, tp3, tv3, hp3, hv3, ho3⟩ := htr 3 e3 rfl
      obtain ⟨p4, v4, tp4, tv4, hp4, hv4, ho4⟩ := htr 4 e4 rfl
      obtain ⟨p5, v5, tp5, tv5, hp5, hv5, ho5⟩ := htr 5 e5 rfl
      obtain ⟨A0, o0⟩ := e0
      obtain ⟨A1, o1⟩ := e1
      obtain ⟨A2, o2⟩ := e2
      obtain ⟨A3, o3⟩ := e3
      obtain ⟨A4, o4⟩ := e4
      obtain ⟨A5, o5⟩ := e5
      dsimp only at ho0 ho1 ho2 ho3 ho4 ho5
      subst ho0 ho1 ho2 ho3 ho4 ho5
      intro DD hD tkD FD ND oD
      clear oD
      simp only [List.reverse_cons, List.reverse_nil, List.nil_append, List.cons_append, List.map_cons, List.map_nil] at ND
      k_steps
      unfold Halt
      rename News _ _ _ _ => NB
      refine item_head NB (.head _) (by omega) (fun hx thx hhx => ?_)
      k_steps
      unfold Halt
      rename News _ _ _ _ => NB2
      refine item_tail NB2 (.head _) (by omega) (fun tx ttx htx => ?_)
      k_steps
      unfold Halt
      rename Fr _ _ _ _ => FB
      rename News _ _ _ _ => NB3
      have NB4 : News _ _ _ [(DD, listOf [Value.ref A0, Value.ref A1, Value.ref A2, Value.ref A3, Value.ref A4, Value.ref A5].toArray 6),
        (A5, { cls := Value.type "tuple", data := Data.seq #[Value.str (T p5) tp5, Value.int (v5 : Int) tv5] }), (A4, { cls := Value.type "tuple", data := Data.seq #[Value.str (T p4) tp4, Value.int (v4 : Int) tv4] }),
        (A3, { cls := Value.type "tuple", data := Data.seq #[Value.str (T p3) tp3, Value.int (v3 : Int) tv3] }), (A2, { cls := Value.type "tuple", data := Data.seq #[Value.str (T p2) tp2, Value.int (v2 : Int) tv2] }),
        (A1, { cls := Value.type "tuple", data := Data.seq #[Value.str (T p1) tp1, Value.int (v1 : Int) tv1] }), (A0, { cls := Value.type "tuple", data := Data.seq #[Value.str (T p0) tp0, Value.int (v0 : Int) tv0] })] := fun p hp => NB3 p (.tail _ (.tail _ (List.mem_append_left [(DC, _)] hp)))
      clear NB3
      k_dflt (refine LCp.Assign_ListComp_P (F₀ := FB) (by rfl) (by with_unfolding_all rfl) (by rfl) (by decide) (by rfl) (by decide) (by rfl) (by rfl) (by decide) (by rfl) (by rfl) ?_)
      k_steps
      unfold Halt
      refine LCp.SrcLP.ledger rfl FB NB4 (.head _) (by rw [sizeLine_eq]; exact Nat.le_of_ble_eq_true rfl) (fun g3 => ?_)
      refine compP_rest (fun i y => [Value.str (T p0) tp0, .str (T p1) tp1, .str (T p2) tp2, .str (T p3) tp3, .str (T p4) tp4, .str (T p5) tp5][i]? = some y) (.inr ⟨_, List.mem_cons_self .., rfl, _, rfl⟩) ?_ ?_
      · intro i v hi hv
        have hi6 : i = 0 ∨ i = 1 ∨ i = 2 ∨ i = 3 ∨ i = 4 ∨ i = 5 := by
          have : i < 6 := hi
          omega
        rcases hi6 with rfl | rfl | rfl | rfl | rfl | rfl
        all_goals (cases hv)
        all_goals (refine ⟨_, _, _, _, _, rfl, by k_mem, rfl, rfl, ?_⟩)
        all_goals (intro I oI C oC D m₂ zs ch ctk E' hC2 hm1 hm2 F10 N10 hoff3 hne3)
        all_goals k_steps
        all_goals unfold Halt
        all_goals exact ⟨_, _, rfl, F10, N10, rfl⟩
      · intro zs hzl hzr
        have hz := same_list (zs := [Value.str (T p0) tp0, .str (T p1) tp1, .str (T p2) tp2, .str (T p3) tp3, .str (T p4) tp4, .str (T p5) tp5]) hzl hzr
        subst hz
        intro DK hK tkK FK NK oK
        clear oK
        k_steps
        unfold Halt
        have NK2 : News _ _ _ ([(DD, listOf [Value.ref A0, Value.ref A1, Value.ref A2, Value.ref A3, Value.ref A4, Value.ref A5].toArray 6),
          (A5, { cls := Value.type "tuple", data := Data.seq #[Value.str (T p5) tp5, Value.int (v5 : Int) tv5] }), (A4, { cls := Value.type "tuple", data := Data.seq #[Value.str (T p4) tp4, Value.int (v4 : Int) tv4] }),
          (A3, { cls := Value.type "tuple", data := Data.seq #[Value.str (T p3) tp3, Value.int (v3 : Int) tv3] }), (A2, { cls := Value.type "tuple", data := Data.seq #[Value.str (T p2) tp2, Value.int (v2 : Int) tv2] }),
          (A1, { cls := Value.type "tuple", data := Data.seq #[Value.str (T p1) tp1, Value.int (v1 : Int) tv1] }), (A0, { cls := Value.type "tuple", data := Data.seq #[Value.str (T p0) tp0, Value.int (v0 : Int) tv0] })]
          ++ [(DK, listOf [Value.str (T p0) tp0, .str (T p1) tp1, .str (T p2) tp2, .str (T p3) tp3, .str (T p4) tp4, .str (T p5) tp5].toArray 6)]) := fun p hp => by
            rcases List.mem_append.mp hp with h | h
            · exact NK p (.tail _ h)
            · rw [List.mem_singleton.mp h]; exact NK _ (.head _)
        clear NK
        k_dflt (refine LCp.Assign_ListComp_P (F₀ := FK) (by rfl) (by with_unfolding_all rfl) (by rfl) (by decide) (by rfl) (by decide) (by rfl) (by rfl) (by decide) (by rfl) (by rfl) ?_)
        k_steps
        unfold Halt
        refine LCp.SrcLP.ledger rfl FK NK2 (.head _) (by rw [sizeLine_eq]; exact Nat.le_of_ble_eq_true rfl) (fun g4 => ?_)
        refine compP_rest (fun i y => [Value.int (v0 : Int) tv0, .int (v1 : Int) tv1, .int (v2 : Int) tv2, .int (v3 : Int) tv3, .int (v4 : Int) tv4, .int (v5 : Int) tv5][i]? = some y) (.inr ⟨_, List.mem_cons_self .., rfl, _, rfl⟩) ?_ ?_
        · intro i v hi hv
          have hi6 : i = 0 ∨ i = 1 ∨ i = 2 ∨ i = 3 ∨ i = 4 ∨ i = 5 := by
            have : i < 6 := hi
            omega
          rcases hi6 with rfl | rfl | rfl | rfl | rfl | rfl
          all_goals (cases hv)
          all_goals (refine ⟨_, _, _, _, _, rfl, List.mem_append_left _ (by k_mem), rfl, rfl, ?_⟩)
          all_goals (intro I oI C oC D m₂ zs ch ctk E' hC2 hm1 hm2 F10 N10 hoff3 hne3)
          all_goals k_steps
          all_goals unfold Halt
          all_goals exact ⟨_, _, rfl, F10, N10, rfl⟩
        · intro zs hzl hzr
          have hz := same_list (zs := [Value.int (v0 : Int) tv0, .int (v1 : Int) tv1, .int (v2 : Int) tv2, .int (v3 : Int) tv3, .int (v4 : Int) tv4, .int (v5 : Int) tv5]) hzl hzr
          subst hz
          intro DZ hZ tkZ FZ NZ oZ
          clear oZ
          have NZ2 : News _ _ _ [(DK, listOf [Value.str (T p0) tp0, .str (T p1) tp1, .str (T p2) tp2, .str (T p3) tp3, .str (T p4) tp4, .str (T p5) tp5].toArray 6), (DZ, listOf [Value.int (v0 : Int) tv0, .int (v1 : Int) tv1, .int (v2 : Int) tv2, .int (v3 : Int) tv3, .int (v4 : Int) tv4, .int (v5 : Int) tv5].toArray 6)] := fun p hp => by
            rcases List.mem_cons.mp hp with h | h
            · rw [h]; exact NZ _ (.tail _ (List.mem_append_right _ (.head _)))
            · rw [List.mem_singleton.mp h]; exact NZ _ (.head _)
          clear NZ
          k_steps
          unfold Halt
          rename Fr _ _ _ _ => FZ2
          rename Below callerA _ _ _ => KB
          rename Frag.In _ _ => KX
          rename Top _ _ _ _ _ _ => KT
          have hcks : Cks [(p0, v0), (p1, v1), (p2, v2), (p3, v3), (p4, v4), (p5, v5)] := by
            intro c hc
            simp only [List.mem_cons, List.not_mem_nil, or_false] at hc
            rcases hc with rfl | rfl | rfl | rfl | rfl | rfl
            · exact ⟨hp0, hv0⟩
            · exact ⟨hp1, hv1⟩
            · exact ⟨hp2, hv2⟩
            · exact ⟨hp3, hv3⟩
            · exact ⟨hp4, hv4⟩
            · exact ⟨hp5, hv5⟩
          have hzc : ∀ (i : Nat) (c : List Nat × Nat), [(p0, v0), (p1, v1), (p2, v2), (p3, v3), (p4, v4), (p5, v5)][i]? = some c → zOf v0 v1 v2 v3 v4 v5 i = c.2 := by
            intro i c h
            have hi : i < 6 := by
              rcases Nat.lt_or_ge i 6 with h' | h'
              · exact h'
              · rw [List.getElem?_eq_none (by simpa using h')] at h; cases h
            have hi6 : i = 0 ∨ i = 1 ∨ i = 2 ∨ i = 3 ∨ i = 4 ∨ i = 5 := by omega
            rcases hi6 with rfl | rfl | rfl | rfl | rfl | rfl <;> (cases h; rfl)
          have hstr : StrsAre [Value.str (T p0) tp0, .str (T p1) tp1, .str (T p2) tp2, .str (T p3) tp3, .str (T p4) tp4, .str (T p5) tp5] ([(p0, v0), (p1, v1), (p2, v2), (p3, v3), (p4, v4), (p5, v5)].map fun c => T c.1) :=
            .cons _ _ (.cons _ _ (.cons _ _ (.cons _ _ (.cons _ _ (.cons _ _ .nil)))))
          refine run_law (news := [(DZ, listOf [Value.int (v0 : Int) tv0, .int (v1 : Int) tv1, .int (v2 : Int) tv2, .int (v3 : Int) tv3, .int (v4 : Int) tv4, .int (v5 : Int) tv5].toArray 6)]) hstr hcks (Nat.le_refl 6) (head_tail hhx htx) KB FZ2 KX NZ2 KT rfl ?_
          intro DR us1 hR tkR FR NR hus1
          k_steps
          unfold Halt
          rename Fr _ _ _ _ => FR2
          rename News _ _ _ _ => NR2
          refine told_law ⟨hv0, hv1, hv2, hv3, hv4, hv5⟩ hstr hcks rfl hzc (head_tail hhx htx) KB FR2 KX NR2 KT rfl ?_
          intro DT us2 hT tkT FT NT hus2
          k_steps
          unfold Halt
          rename News _ _ _ _ => NT2
          refine eq_texts ⟨_, (NT2 _ (.tail _ (.head _))).1, rfl, _, rfl⟩ hus1 ⟨_, (NT2 _ (.head _)).1, rfl, _, rfl⟩ hus2 (hosts_ok hhx htx hcks (Nat.le_refl 6)) (by have hcL9 := cLine_is; simp only [units_deeper, units_caller]; omega) ?_
          k_steps
          )
end Mine
end

theorem PySem.Challenge.cw_wb0005_01_holds : PySem.Challenge.rw_wb0005_01.Holds := by
  exact Mine.t0
