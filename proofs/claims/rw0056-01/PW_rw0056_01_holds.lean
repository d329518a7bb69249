import PyProof.Rows.All
import Wide.All
import OpenK.AllK
import Wide.FinOn
import Lean
import PySem.Challenge.RW_rw0056_01
open PySem PySem.W PySem.Calls PyProof.Rows
set_option Elab.async false
set_option maxRecDepth 100000
set_option maxHeartbeats 4000000
set_option linter.all false
-- Re1
open PySem PyProof.Rows
namespace Mine
open PySem.Sre (M)
/-! the two pattern codes -/
abbrev code1 : Array Nat := #[14, 4, 0, 1, 1, 6, 1, 16, 46, 1]
abbrev code2 : Array Nat := #[14, 9, 4, 1, 2, 16, 10, 16, 13, 0, 7, 7, 16, 13, 16, 10, 15, 18, 5, 16, 10, 15, 13, 11, 16, 13, 5, 5, 0, 16, 10, 1, 15, 2, 0, 1]
theorem runFor_add (a b : Nat) (m : M) : M.runFor (a + b) m = M.runFor b (M.runFor a m) := by
  induction a generalizing m with
  | zero => simp [M.runFor]
  | succ a ih =>
    rw [Nat.succ_add, M.runFor, M.runFor]
    split
    · rename_i h
      cases b with
      | zero => rfl
      | succ b => rw [M.runFor, if_pos h]
    · exact ih _
theorem runFor_stop {m : M} (h : m.outcome.isSome = true) : ∀ n, M.runFor n m = m
  | 0 => rfl
  | n + 1 => by rw [M.runFor, if_pos h]
/-- the machine comes from m to m' in n steps -/
def Go (n : Nat) (m m' : M) : Prop := M.runFor n m = m'
theorem Go.trans {a b : Nat} {m m' m'' : M} (h : Go a m m') (h' : Go b m' m'') : Go (a + b) m m'' := by
  unfold Go at *; rw [runFor_add, h, h']
theorem Go.step {n : Nat} {m m' : M} (ho : m.outcome = none) (h : Go n m.step m') : Go (n + 1) m m' := by
  unfold Go at *
  rw [M.runFor, ho]; exact h
theorem Go.zero {m : M} : Go 0 m m := rfl
/-- at a start s, by pattern 1 -/
def at1 (t : Array Nat) (s : Nat) (first must : Bool) (se : Sre.Seen) : M :=
  { code := code1, text := t, lim := t.size, start := s, lastStart := t.size, mustAdvance := must, pc := 5, pos := s, handed := s, outermost := first, marks := #[], frames := [{ wait := .nextStart, pc := 5, pos := s, outermost := first }], weight := 1, seen := se }
theorem at1_step (t : Array Nat) (s : Nat) (first must : Bool) (se : Sre.Seen) : (at1 t s first must se).step =
    if (s == 0 || t.getD (s - 1) 0 == 10) = true then { at1 t s first must ((se.add 6).add 44) with pc := 7 } else { at1 t s first must ((se.add 6).add 44) with answer := some false } := rfl
theorem at1_step2 (t : Array Nat) (s : Nat) (first must : Bool) (se : Sre.Seen) : M.step { at1 t s first must se with answer := some false } =
    if s < t.size then at1 t (s + 1) false false se else { at1 t s first must se with answer := some false, frames := [], weight := 0 } := rfl
theorem at1_lit (t : Array Nat) (s : Nat) (first must : Bool) (se : Sre.Seen) : M.step { at1 t s first must se with pc := 7 } =
    if s ≥ t.size then { at1 t s first must (se.add 16) with pc := 7, answer := some false } else if (t.getD s 0 == 46) = true then { at1 t s first must (se.add 16) with pc := 9, pos := s + 1 } else { at1 t s first must (se.add 16) with pc := 7, answer := some false } := by
  show (if s ≥ t.size then _ else match Sre.accepts code1 7 (t.getD s 0) (se.add 16) with | .error why => _ | .ok (false, seen) => _ | .ok (true, seen) => _) = _
  have : Sre.accepts code1 7 (t.getD s 0) (se.add 16) = .ok (t.getD s 0 == 46, se.add 16) := rfl
  rw [this]
  split
  · rfl
  · cases (t.getD s 0 == 46) <;> rfl
theorem at1_won (t : Array Nat) (s : Nat) (first must : Bool) (se : Sre.Seen) (hm : must = false) : ∃ m, Go 3 { at1 t s first must se with pc := 9, pos := s + 1 } m ∧ m.outcome = some .matched ∧ m.start = s ∧ m.handed = s + 1 := by
  subst hm
  cases first <;> exact ⟨_, rfl, rfl, rfl, rfl⟩
def bol (t : Array Nat) (s : Nat) : Bool := s == 0 || t.getD (s - 1) 0 == 10
def hit1 (t : Array Nat) (s : Nat) : Prop := bol t s = true ∧ t.getD s 0 = 46
def found1 (t : Array Nat) (i : Nat) (m : M) : Prop :=
  (m.outcome = some .matched ∧ ∃ b, i ≤ b ∧ b < t.size ∧ hit1 t b ∧ (∀ j, i ≤ j → j < b → ¬ hit1 t j) ∧ m.start = b ∧ m.handed = b + 1) ∨ (m.outcome = some .failed ∧ ∀ j, i ≤ j → j < t.size → ¬ hit1 t j)
theorem found1_next {t : Array Nat} {i : Nat} {m : M} (hn : ¬ hit1 t i) (h : found1 t (i + 1) m) : found1 t i m := by
  rcases h with ⟨h1, b, h2, h3, h4, h5, h6⟩ | ⟨h1, h2⟩
  · refine .inl ⟨h1, b, by omega, h3, h4, fun j hj hb => ?_, h6⟩
    by_cases e : j = i
    · subst e; exact hn
    · exact h5 j (by omega) hb
  · refine .inr ⟨h1, fun j hj hb => ?_⟩
    by_cases e : j = i
    · subst e; exact hn
    · exact h2 j (by omega) hb
theorem at1_go (t : Array Nat) : ∀ (k s : Nat) (first : Bool) (se : Sre.Seen), s + k = t.size → ∃ n m, Go n (at1 t s first false se) m ∧ n ≤ 4 * k + 6 ∧ found1 t s m := by
  intro k
  induction k with
  | zero =>
    intro s first se hs
    have hsz : ¬ s < t.size := by omega
    have hge : s ≥ t.size := by omega
    cases hb : bol t s with
    | false =>
      refine ⟨3, _, Go.step rfl (Go.step ?_ (Go.step ?_ Go.zero)), by omega, ?_⟩
      · rw [at1_step, if_neg (by rw [show (s == 0 || t.getD (s - 1) 0 == 10) = bol t s from rfl, hb]; exact Bool.false_ne_true)]; rfl
      · rw [at1_step, if_neg (by rw [show (s == 0 || t.getD (s - 1) 0 == 10) = bol t s from rfl, hb]; exact Bool.false_ne_true), at1_step2, if_neg hsz]; rfl
      · rw [at1_step, if_neg (by rw [show (s == 0 || t.getD (s - 1) 0 == 10) = bol t s from rfl, hb]; exact Bool.false_ne_true), at1_step2, if_neg hsz]
        exact .inr ⟨rfl, fun j h1 h2 => by omega⟩
    | true =>
      have e1 := (at1_step t s first false se).trans (if_pos hb)
      have e2 := (at1_lit t s first false ((se.add 6).add 44)).trans (if_pos hge)
      have e3 : M.step { at1 t s first false (((se.add 6).add 44).add 16) with pc := 7, answer := some false } = _ := (at1_step2 t s first false (((se.add 6).add 44).add 16)).trans (if_neg hsz)
      refine ⟨4, M.step { at1 t s first false (((se.add 6).add 44).add 16) with answer := some false, frames := [], weight := 0 }, Go.step rfl ?_, by omega, ?_⟩
      · rw [e1]
        refine Go.step rfl ?_
        rw [e2]
        refine Go.step rfl ?_
        rw [e3]
        exact Go.step rfl Go.zero
      · exact .inr ⟨rfl, fun j h1 h2 => by omega⟩
  | succ k ih =>
    intro s first se hs
    have hlt : s < t.size := by omega
    have hnge : ¬ s ≥ t.size := by omega
    cases hb : bol t s with
    | false =>
      have e1 := (at1_step t s first false se).trans (if_neg (by rw [show (s == 0 || t.getD (s - 1) 0 == 10) = bol t s from rfl, hb]; exact Bool.false_ne_true))
      have e2 := (at1_step2 t s first false ((se.add 6).add 44)).trans (if_pos hlt)
      obtain ⟨n, m, h1, h2, h3⟩ := ih (s + 1) false ((se.add 6).add 44) (by omega)
      refine ⟨n + 1 + 1, m, Go.step rfl ?_, by omega, found1_next (fun h => by rw [h.1] at hb; cases hb) h3⟩
      rw [e1]
      refine Go.step rfl ?_
      rw [e2]
      exact h1
    | true =>
      have e1 := (at1_step t s first false se).trans (if_pos hb)
      have e2 := (at1_lit t s first false ((se.add 6).add 44)).trans (if_neg hnge)
      cases hd : t.getD s 0 == 46 with
      | false =>
        rw [if_neg (by rw [hd]; exact Bool.false_ne_true)] at e2
        have e3 : M.step { at1 t s first false (((se.add 6).add 44).add 16) with pc := 7, answer := some false } = _ := (at1_step2 t s first false (((se.add 6).add 44).add 16)).trans (if_pos hlt)
        obtain ⟨n, m, h1, h2, h3⟩ := ih (s + 1) false (((se.add 6).add 44).add 16) (by omega)
        refine ⟨n + 1 + 1 + 1, m, Go.step rfl ?_, by omega, found1_next (fun h => by rw [h.2] at hd; cases hd) h3⟩
        rw [e1]
        refine Go.step rfl ?_
        rw [e2]
        refine Go.step rfl ?_
        rw [e3]
        exact h1
      | true =>
        rw [if_pos hd] at e2
        obtain ⟨m, h1, h2, h3, h4⟩ := at1_won t s first false (((se.add 6).add 44).add 16) rfl
        refine ⟨3 + 1 + 1, m, Go.step rfl ?_, by omega, .inl ⟨h2, s, Nat.le_refl _, hlt, ⟨hb, by simpa using hd⟩, fun j _ _ => by omega, h3, h4⟩⟩
        rw [e1]
        refine Go.step rfl ?_
        rw [e2]
        exact h1
theorem search1 (t : Array Nat) (i : Nat) (hi : i ≤ t.size) : ∃ n m, Go n (Sre.forSearch code1 t 0 i t.size false) m ∧ n ≤ 4 * t.size + 6 ∧ found1 t i m := by
  by_cases he : i = t.size
  · subst he
    have e : Sre.forSearch code1 t 0 t.size t.size false = { code := code1, text := t, lim := t.size, start := t.size, pc := 5, pos := t.size, handed := t.size, marks := #[], seen := ({} : Sre.Seen).add 14, answer := some false } := by
      show (if (t.size > t.size || t.size - t.size < 1) = true then _ else _) = _
      rw [if_pos (by simp)]; rfl
    rw [e]
    exact ⟨1, _, rfl, by omega, .inr ⟨rfl, fun j h1 h2 => by omega⟩⟩
  · have e : Sre.forSearch code1 t 0 i t.size false = at1 t i true false (({} : Sre.Seen).add 14) := by
      show (if (decide (i > t.size) || decide (t.size - i < 1)) = true then _ else _) = _
      rw [if_neg (by simp; omega)]; rfl
    rw [e]
    obtain ⟨n, m, h1, h2, h3⟩ := at1_go t (t.size - i) i true _ (by omega)
    exact ⟨n, m, h1, by omega, h3⟩
end Mine
-- Re2
open PySem PyProof.Rows
namespace Mine
open PySem.Sre (M)
/-- a state of the search by pattern 2 -/
def st2 (t : Array Nat) (s pc pos handed : Nat) (out : Bool) (fr : List Sre.Frame) (wt : Nat) (se : Sre.Seen) (ans : Option Bool) : M :=
  { code := code2, text := t, lim := t.size, start := s, lastStart := t.size, pc, pos, handed, outermost := out, marks := #[], frames := fr, weight := wt, seen := se, answer := ans }
theorem lit2 (t : Array Nat) (s pc pos handed : Nat) (out : Bool) (fr : List Sre.Frame) (wt : Nat) (se : Sre.Seen) (x : Nat) (hpc : (pc, x) ∈ [(12, 13), (14, 10), (19, 10), (24, 13), (29, 10)]) :
    M.step (st2 t s pc pos handed out fr wt se none) = if pos ≥ t.size then st2 t s pc pos handed out fr wt (se.add 16) (some false) else if (t.getD pos 0 == x) = true then st2 t s (pc + 2) (pos + 1) handed out fr wt (se.add 16) none else st2 t s pc pos handed out fr wt (se.add 16) (some false) := by
  simp only [List.mem_cons, Prod.mk.injEq, List.not_mem_nil, or_false] at hpc
  rcases hpc with ⟨rfl, rfl⟩ | ⟨rfl, rfl⟩ | ⟨rfl, rfl⟩ | ⟨rfl, rfl⟩ | ⟨rfl, rfl⟩
  · show (if pos ≥ t.size then _ else match Sre.accepts code2 12 (t.getD pos 0) (se.add 16) with | .error why => _ | .ok (false, seen) => _ | .ok (true, seen) => _) = _
    have : Sre.accepts code2 12 (t.getD pos 0) (se.add 16) = .ok (t.getD pos 0 == 13, se.add 16) := rfl
    rw [this]
    split
    · rfl
    · cases (t.getD pos 0 == 13) <;> rfl
  · show (if pos ≥ t.size then _ else match Sre.accepts code2 14 (t.getD pos 0) (se.add 16) with | .error why => _ | .ok (false, seen) => _ | .ok (true, seen) => _) = _
    have : Sre.accepts code2 14 (t.getD pos 0) (se.add 16) = .ok (t.getD pos 0 == 10, se.add 16) := rfl
    rw [this]
    split
    · rfl
    · cases (t.getD pos 0 == 10) <;> rfl
  · show (if pos ≥ t.size then _ else match Sre.accepts code2 19 (t.getD pos 0) (se.add 16) with | .error why => _ | .ok (false, seen) => _ | .ok (true, seen) => _) = _
    have : Sre.accepts code2 19 (t.getD pos 0) (se.add 16) = .ok (t.getD pos 0 == 10, se.add 16) := rfl
    rw [this]
    split
    · rfl
    · cases (t.getD pos 0 == 10) <;> rfl
  · show (if pos ≥ t.size then _ else match Sre.accepts code2 24 (t.getD pos 0) (se.add 16) with | .error why => _ | .ok (false, seen) => _ | .ok (true, seen) => _) = _
    have : Sre.accepts code2 24 (t.getD pos 0) (se.add 16) = .ok (t.getD pos 0 == 13, se.add 16) := rfl
    rw [this]
    split
    · rfl
    · cases (t.getD pos 0 == 13) <;> rfl
  · show (if pos ≥ t.size then _ else match Sre.accepts code2 29 (t.getD pos 0) (se.add 16) with | .error why => _ | .ok (false, seen) => _ | .ok (true, seen) => _) = _
    have : Sre.accepts code2 29 (t.getD pos 0) (se.add 16) = .ok (t.getD pos 0 == 10, se.add 16) := rfl
    rw [this]
    split
    · rfl
    · cases (t.getD pos 0 == 10) <;> rfl
theorem lit2_yes {t : Array Nat} {s pc pos handed : Nat} {out : Bool} {fr : List Sre.Frame} {wt : Nat} {se : Sre.Seen} (x : Nat) (hpc : (pc, x) ∈ [(12, 13), (14, 10), (19, 10), (24, 13), (29, 10)]) (h1 : pos < t.size) (h2 : t.getD pos 0 = x) :
    M.step (st2 t s pc pos handed out fr wt se none) = st2 t s (pc + 2) (pos + 1) handed out fr wt (se.add 16) none := by
  rw [lit2 t s pc pos handed out fr wt se x hpc, if_neg (by omega), if_pos (by rw [h2]; exact beq_self_eq_true x)]
theorem lit2_no {t : Array Nat} {s pc pos handed : Nat} {out : Bool} {fr : List Sre.Frame} {wt : Nat} {se : Sre.Seen} (x : Nat) (hpc : (pc, x) ∈ [(12, 13), (14, 10), (19, 10), (24, 13), (29, 10)]) (h : pos < t.size → t.getD pos 0 ≠ x) :
    M.step (st2 t s pc pos handed out fr wt se none) = st2 t s pc pos handed out fr wt (se.add 16) (some false) := by
  rw [lit2 t s pc pos handed out fr wt se x hpc]
  split
  · rfl
  · rw [if_neg (by simpa using h (by omega))]
/-- a match at s that ends at e -/
def Won (s e : Nat) (m : M) : Prop := m.outcome = some .matched ∧ m.start = s ∧ m.handed = e
theorem Go.by {n : Nat} {m m₁ m' : M} (ho : m.outcome = none) (e : m.step = m₁) (h : Go n m₁ m') : Go (n + 1) m m' := Go.step ho (e ▸ h)
abbrev f20 (s : Nat) (first : Bool) : Sre.Frame := { wait := .nextStart, pc := 10, pos := s, outermost := first }
abbrev f2b (s k : Nat) (first : Bool) : Sre.Frame := { wait := .nextBranch, pc := k, pos := s, outermost := first }
/-- from the branch's SUCCESS on -/
theorem end2 (t : Array Nat) (s e k : Nat) (first : Bool) (se : Sre.Seen) (hd : Nat) : ∃ m, Go 4 (st2 t s 35 e hd first [f2b s k first, f20 s first] 2 se none) m ∧ Won s e m := by
  cases first <;> exact ⟨_, rfl, rfl, rfl, rfl⟩
theorem run2_crlf {t : Array Nat} {s : Nat} {first : Bool} {se : Sre.Seen} (h1 : s + 1 < t.size) (h2 : t.getD s 0 = 13) (h3 : t.getD (s + 1) 0 = 10) :
    ∃ n m, Go n (st2 t s 10 s s first [f20 s first] 1 se none) m ∧ n ≤ 20 ∧ Won s (s + 2) m := by
  obtain ⟨m, g, h⟩ := end2 t s (s + 2) 11 first (((((se.add 7).add 16).add 16).add 15)) s
  refine ⟨4 + 1 + 1 + 1 + 1, m, Go.by rfl (m₁ := st2 t s 12 s s first [f2b s 11 first, f20 s first] 2 (se.add 7) none) rfl (Go.by rfl (lit2_yes 13 (by decide) (by omega) h2) (Go.by rfl (lit2_yes 10 (by decide) (by omega) h3) (Go.by rfl rfl ?_))), by omega, h⟩
  exact g
theorem run2_lf {t : Array Nat} {s : Nat} {first : Bool} {se : Sre.Seen} (h1 : s < t.size) (h2 : t.getD s 0 = 10) :
    ∃ n m, Go n (st2 t s 10 s s first [f20 s first] 1 se none) m ∧ n ≤ 20 ∧ Won s (s + 1) m := by
  obtain ⟨m, g, h⟩ := end2 t s (s + 1) 18 first (((((se.add 7).add 16).add 16).add 15)) s
  refine ⟨4 + 1 + 1 + 1 + 1 + 1, m, Go.by rfl (m₁ := st2 t s 12 s s first [f2b s 11 first, f20 s first] 2 (se.add 7) none) rfl (Go.by rfl (lit2_no 13 (by decide) (fun _ => by omega)) (Go.by rfl (m₁ := st2 t s 19 s s first [f2b s 18 first, f20 s first] 2 ((se.add 7).add 16) none) rfl (Go.by rfl (lit2_yes 10 (by decide) (by omega) h2) (Go.by rfl rfl ?_)))), by omega, h⟩
  exact g
theorem run2_cr {t : Array Nat} {s : Nat} {first : Bool} {se : Sre.Seen} (h1 : s < t.size) (h2 : t.getD s 0 = 13) (h3 : s + 1 < t.size → t.getD (s + 1) 0 ≠ 10) :
    ∃ n m, Go n (st2 t s 10 s s first [f20 s first] 1 se none) m ∧ n ≤ 20 ∧ Won s (s + 1) m := by
  obtain ⟨m, g, h⟩ := end2 t s (s + 1) 23 first ((((((((se.add 7).add 16).add 16).add 16).add 16).add 5).add 16).add 15) (s + 1)
  refine ⟨4 + 1 + 1 + 1 + 1 + 1 + 1 + 1 + 1 + 1 + 1 + 1, m, Go.by rfl (m₁ := st2 t s 12 s s first [f2b s 11 first, f20 s first] 2 (se.add 7) none) rfl (Go.by rfl (lit2_yes 13 (by decide) (by omega) h2) (Go.by rfl (lit2_no 10 (by decide) h3)
    (Go.by rfl (m₁ := st2 t s 19 s s first [f2b s 18 first, f20 s first] 2 (((se.add 7).add 16).add 16) none) rfl (Go.by rfl (lit2_no 10 (by decide) (fun _ => by omega))
      (Go.by rfl (m₁ := st2 t s 24 s s first [f2b s 23 first, f20 s first] 2 ((((se.add 7).add 16).add 16).add 16) none) rfl (Go.by rfl (lit2_yes 13 (by decide) (by omega) h2)
        (Go.by rfl (m₁ := st2 t s 29 (s + 1) (s + 1) false [{ wait := .lookNot, pc := 26, pos := s + 1, outermost := first }, f2b s 23 first, f20 s first] 3 ((((((se.add 7).add 16).add 16).add 16).add 16).add 5) none) rfl
          (Go.by rfl (lit2_no 10 (by decide) h3) (Go.by rfl rfl (Go.by rfl rfl ?_)))))))))), by omega, h⟩
  exact g
def isEol (c : Nat) : Bool := c == 10 || c == 13
theorem inSet2 (c : Nat) (se : Sre.Seen) : ∃ se', Sre.inSet code2 c 36 5 true se = .ok (isEol c, se') := by
  by_cases h : c = 10
  · subst h; exact ⟨_, rfl⟩
  · by_cases h' : c = 13
    · subst h'; exact ⟨_, rfl⟩
    · have e : Sre.inSet code2 c 36 5 true se = if (c == 10) = true then .ok (true, se.add 16) else if (c == 13) = true then .ok (true, (se.add 16).add 16) else .ok (false, ((se.add 16).add 16).add 0) := rfl
      rw [e, if_neg (by simpa using h), if_neg (by simpa using h')]
      exact ⟨((se.add 16).add 16).add 0, by simp [isEol, h, h']⟩
/-- where the match that begins at b ends -/
def endAt (t : Array Nat) (b : Nat) : Nat := if t.getD b 0 = 13 ∧ b + 1 < t.size ∧ t.getD (b + 1) 0 = 10 then b + 2 else b + 1
def found2 (t : Array Nat) (i : Nat) (m : M) : Prop :=
  (m.outcome = some .matched ∧ ∃ b, i ≤ b ∧ b < t.size ∧ isEol (t.getD b 0) = true ∧ (∀ j, i ≤ j → j < b → isEol (t.getD j 0) = false) ∧ m.start = b ∧ m.handed = endAt t b) ∨ (m.outcome = some .failed ∧ ∀ j, i ≤ j → j < t.size → isEol (t.getD j 0) = false)
theorem admitted2 (m : M) (hc : m.code = code2) : ∀ (k s : Nat) (se : Sre.Seen), s + k = m.lim → ∃ se', (∃ b, s ≤ b ∧ b < m.lim ∧ isEol (m.text.getD b 0) = true ∧ (∀ j, s ≤ j → j < b → isEol (m.text.getD j 0) = false) ∧ M.admitted m (k + 1) s se = .ok (some b, se')) ∨ ((∀ j, s ≤ j → j < m.lim → isEol (m.text.getD j 0) = false) ∧ M.admitted m (k + 1) s se = .ok (none, se')) := by
  intro k
  induction k with
  | zero =>
    intro s se hs
    refine ⟨se, .inr ⟨fun j h1 h2 => by omega, ?_⟩⟩
    rw [M.admitted, if_pos (by omega)]
  | succ k ih =>
    intro s se hs
    obtain ⟨se', h⟩ := inSet2 (m.text.getD s 0) se
    rw [M.admitted, if_neg (by omega), hc, show code2.size = 36 from rfl, h]
    cases he : isEol (m.text.getD s 0) with
    | true => exact ⟨se', .inl ⟨s, Nat.le_refl _, by omega, he, fun j h1 h2 => by omega, rfl⟩⟩
    | false =>
      obtain ⟨se'', h'⟩ := ih (s + 1) se' (by omega)
      refine ⟨se'', ?_⟩
      rcases h' with ⟨b, h1, h2, h3, h4, h5⟩ | ⟨h1, h2⟩
      · refine .inl ⟨b, by omega, h2, h3, fun j hj hb => ?_, h5⟩
        by_cases e : j = s
        · subst e; exact he
        · exact h4 j (by omega) hb
      · refine .inr ⟨fun j hj hb => ?_, h2⟩
        by_cases e : j = s
        · subst e; exact he
        · exact h1 j (by omega) hb
theorem search2 (t : Array Nat) (i : Nat) (hi : i ≤ t.size) : ∃ n m, Go n (Sre.forSearch code2 t 0 i t.size false) m ∧ n ≤ 20 ∧ found2 t i m := by
  by_cases he : i = t.size
  · subst he
    have e : Sre.forSearch code2 t 0 t.size t.size false = { code := code2, text := t, lim := t.size, start := t.size, pc := 10, pos := t.size, handed := t.size, marks := #[], seen := ({} : Sre.Seen).add 14, answer := some false } := by
      show (if (t.size > t.size || t.size - t.size < 1) = true then _ else _) = _
      rw [if_pos (by simp)]; rfl
    rw [e]
    exact ⟨1, _, rfl, by omega, .inr ⟨rfl, fun j h1 h2 => by omega⟩⟩
  · have e : Sre.forSearch code2 t 0 i t.size false = M.attemptFrom { code := code2, text := t, lim := t.size, start := i, lastStart := t.size, pc := 10, pos := i, handed := i, marks := #[], seen := ({} : Sre.Seen).add 14 } i true := by
      show (if (decide (i > t.size) || decide (t.size - i < 1)) = true then _ else _) = _
      rw [if_neg (by simp; omega)]; rfl
    rw [e]
    obtain ⟨se', h⟩ := admitted2 { code := code2, text := t, lim := t.size, start := i, lastStart := t.size, pc := 10, pos := i, handed := i, marks := #[], seen := ({} : Sre.Seen).add 14 } rfl (t.size - i) i (({} : Sre.Seen).add 14) (by show i + (t.size - i) = t.size; omega)
    have hk : t.size - i + 1 = t.size + 1 - i := by omega
    rw [hk] at h
    rcases h with ⟨b, h1, h2, h3, h4, h5⟩ | ⟨h1, h2⟩
    · have e2 : M.attemptFrom { code := code2, text := t, lim := t.size, start := i, lastStart := t.size, pc := 10, pos := i, handed := i, marks := #[], seen := ({} : Sre.Seen).add 14 } i true = st2 t b 10 b b true [f20 b true] 1 se' none := by
        show (match M.admitted _ (t.size + 1 - i) i _ with | .ok (some s, seen) => _ | .ok (none, seen) => _ | .error why => _) = _
        rw [h5]; rfl
      rw [e2]
      have fin : (∃ n m, Go n (st2 t b 10 b b true [f20 b true] 1 se' none) m ∧ n ≤ 20 ∧ Won b (endAt t b) m) := by
        simp only at h2 h3
        by_cases c : t.getD b 0 = 13
        · by_cases c' : b + 1 < t.size ∧ t.getD (b + 1) 0 = 10
          · have : endAt t b = b + 2 := if_pos ⟨c, c'⟩
            rw [this]; exact run2_crlf c'.1 c c'.2
          · have : endAt t b = b + 1 := if_neg fun x => c' x.2
            rw [this]; exact run2_cr h2 c fun hb hq => c' ⟨hb, hq⟩
        · have c2 : t.getD b 0 = 10 := by simp only [isEol, Bool.or_eq_true, beq_iff_eq] at h3; exact h3.resolve_right c
          have : endAt t b = b + 1 := if_neg fun x => c x.1
          rw [this]; exact run2_lf h2 c2
      obtain ⟨n, m, g, hn, hw⟩ := fin
      exact ⟨n, m, g, hn, .inl ⟨hw.1, b, h1, h2, h3, h4, hw.2.1, hw.2.2⟩⟩
    · have e2 : M.attemptFrom { code := code2, text := t, lim := t.size, start := i, lastStart := t.size, pc := 10, pos := i, handed := i, marks := #[], seen := ({} : Sre.Seen).add 14 } i true = { code := code2, text := t, lim := t.size, start := i, lastStart := t.size, pc := 10, pos := i, handed := i, marks := #[], seen := se', answer := some false } := by
        show (match M.admitted _ (t.size + 1 - i) i _ with | .ok (some s, seen) => _ | .ok (none, seen) => _ | .error why => _) = _
        rw [h2]; rfl
      rw [e2]
      exact ⟨1, _, rfl, by omega, .inr ⟨rfl, h1⟩⟩
end Mine
-- Re3
open PySem PySem.W PySem.Calls PyProof.Rows PySem.Builtin.Re
open PySem.Sre (M)
namespace Mine
/-! the built-in re.Pattern.sub -/
theorem rp_plain : PlainAttrs "re.Pattern" :=
  ⟨⟨"object.__getattribute__", by rw [typeLookup_type, builtinLookup_eq_fast]; kernel_rfl, by decide +kernel⟩, by rw [typeLookup_type, builtinLookup_eq_fast]; kernel_rfl⟩
theorem rp_slot : Slot "re.Pattern" "sub" "re.Pattern.sub" :=
  .of (owner := "re.Pattern") (n := "sub") (by rw [typeLookup_type, builtinLookup_eq_fast]; kernel_rfl) (by decide +kernel) (by decide +kernel) (by decide +kernel)
    (by first | exact .inl (by decide +kernel) | exact .inr (by decide +kernel)) (by rw [isSubtype_type]; kernel_rfl)
theorem rp_type : typeOf (.builtin "re.Pattern.sub") = pure (.type "method_descriptor") := by show builtinType _ = _; rw [builtinType_eq_fast]; kernel_rfl
theorem rp_entry : entryFor table "re.Pattern.sub" = some Builtin.«re.Pattern.sub» := entryFor_of_tree (by kernel_rfl)
theorem rp_entryLoop : entryFor table "re.Pattern.sub.loop" = some Builtin.«re.Pattern.sub.loop» := entryFor_of_tree (by kernel_rfl)
theorem rp_args (a b c : Value) : argsOk "re.Pattern.sub" ⟨[a, b, c], []⟩ := by unfold argsOk; kernel_rfl
theorem str_no_call : typeLookup (.type "str") "__call__" = pure none := by rw [typeLookup_type, builtinLookup_eq_fast]; kernel_rfl
theorem rp_named (a b : Value) : reNamed "re.Pattern.sub" "sub" ["repl", "string", "count"] 2 [a, b] [] = pure [some a, some b, none] := by rfl
end Mine
-- Re4
open PySem PySem.W PySem.Calls PyProof.Rows PySem.Builtin.Re
open PySem.Sre (M)
namespace Mine
/-! driving the machine -/
section
variable {Mo : Model} {A : Around} {E : Value → Shared → Prop} {s : Shared}
theorem reDrive_go {m' : M} (ho : m'.outcome.isSome = true) : ∀ (turns n : Nat) (m : M) (Q : M → Shared → Prop), Go n m m' → n ≤ 4 * turns → 0 < turns → Q m' s → wpAny Mo A (reDrive turns m) Q E s := by
  intro turns
  induction turns with
  | zero => intro n m Q _ _ h; omega
  | succ k ih =>
    intro n m Q g hn _ hQ
    show wpAny Mo A (if (m.runFor reTurnSteps).outcome.isSome then pure (m.runFor reTurnSteps) else do rule "sre.turn"; reDrive k (m.runFor reTurnSteps)) Q E s
    have e4 : reTurnSteps = 4 := rfl
    rw [e4]
    by_cases hle : n ≤ 4
    · have e : m.runFor 4 = m' := by
        have : (4 : Nat) = n + (4 - n) := by omega
        rw [this, runFor_add]
        unfold Go at g; rw [g]; exact runFor_stop ho _
      rw [e, if_pos ho]
      exact wpAny_pure hQ
    · have g' : Go (n - 4) (m.runFor 4) m' := by
        unfold Go at g ⊢
        rw [← runFor_add, ← g]; congr 1; omega
      by_cases h4 : (m.runFor 4).outcome.isSome = true
      · have e : m.runFor 4 = m' := by
          unfold Go at g'; rw [runFor_stop h4] at g'; exact g'
        rw [e, if_pos ho]
        exact wpAny_pure hQ
      · rw [if_neg h4]
        exact wpAny_bind (wpAny_rule (ih (n - 4) _ Q g' (by omega) (by omega) hQ))
theorem run_end {m m' : M} {n : Nat} (g : Go n m m') (hn : n ≤ 4 * 2 ^ 64) {Q : Option M → Shared → Prop}
    (h : (m'.outcome = some .matched ∧ Q (some m') s) ∨ (m'.outcome = some .failed ∧ Q none s)) : wpAny Mo A (reRunToEnd m) Q E s := by
  have ho : m'.outcome.isSome = true := by rcases h with h | h <;> simp [h.1]
  unfold reRunToEnd
  refine wpAny_bind (reDrive_go ho _ n m _ g hn (Nat.two_pow_pos _) ?_)
  refine wpAny_bind (wpAny_forIn_list (I := fun _ _ s' => s' = s) (Q := fun _ s' => _) _ (turn := ?_) (fin := ?_) _ _ rfl)
  · rintro x rest b s' rfl
    refine wpAny_ite ?_
    split
    · exact wpAny_bind (wpAny_rule (wpAny_pure rfl))
    · exact wpAny_pure rfl
  · rintro b s' rfl
    rcases h with h | h
    · rw [h.1]; exact wpAny_pure h.2
    · rw [h.1]; exact wpAny_pure h.2
end
/-- a pattern object with this code -/
def PatAt (h : Heap) (a : Addr) (code : Array Nat) : Prop :=
  ∃ (o ot : Obj) (p f : Value) (u v : Tok) (tup : Addr) (items : Array Value) (n : Nat), h.get? a = some o ∧ o.cls = .type "re.Pattern" ∧ o.dict = none ∧ o.data = .fields #[p, f, .int 0 u, .none, .none, .ref tup, .int 0 v] ∧
    h.get? tup = some ot ∧ ot.cls = .type "tuple" ∧ ot.data = .seq items n ∧ (items.map reRawOf).map (·.toNat) = code
theorem PatAt.keeps {h h' : Heap} {a : Addr} {code : Array Nat} (P : PatAt h a code) (k : h.StaysIn h') : PatAt h' a code := by
  obtain ⟨o, ot, p, f, u, v, tup, items, n, h1, h2, h3, h4, h5, h6, h7, h8⟩ := P
  exact ⟨o, ot, p, f, u, v, tup, items, n, k _ _ h1, h2, h3, h4, k _ _ h5, h6, h7, h8⟩
/-- all but the object at D stays -/
def StaysBut (D : Addr) (h h' : Heap) : Prop := ∀ b o, b ≠ D → h.get? b = some o → h'.get? b = some o
theorem PatAt.but {h h' : Heap} {a D : Addr} {code : Array Nat} {oD : Obj} (P : PatAt h a code) (hD : h.get? D = some oD) (hc : oD.cls = .type "list") (k : StaysBut D h h') : PatAt h' a code := by
  obtain ⟨o, ot, p, f, u, v, tup, items, n, h1, h2, h3, h4, h5, h6, h7, h8⟩ := P
  refine ⟨o, ot, p, f, u, v, tup, items, n, k _ _ (fun e => ?_) h1, h2, h3, h4, k _ _ (fun e => ?_) h5, h6, h7, h8⟩
  · subst e; rw [hD] at h1; cases h1; exact absurd (hc.symm.trans h2) (by decide)
  · subst e; rw [hD] at h5; cases h5; exact absurd (hc.symm.trans h6) (by decide)
section
variable {Mo : Model} {A : Around} {E : Value → Shared → Prop} {s : Shared} {a : Addr} {code : Array Nat} {x : Str} {t : Tok}
theorem whole_at {Q : ReTarget → Shared → Prop} (P : PatAt s.heap a code)
    (h : Q { pattern := .ref a, string := .str x t, code, text := x.cps, kind := 0, groups := 0, pos := 0, lim := x.cps.size } s) : wpAny Mo A (reWholeTarget (.ref a) (.str x t)) Q E s := by
  obtain ⟨o, ot, p, f, u, v, tup, items, n, h1, h2, h3, h4, h5, h6, h7, h8⟩ := P
  subst h8
  unfold reWholeTarget
  refine wpAny_bind ?_
  unfold fieldsOf
  refine wpAny_bind (wpAny_load h1 ?_)
  rw [h4]
  refine wpAny_pure ?_
  refine wpAny_bind (wpAny_of_eq (a := (x.cps, 0)) rfl ?_)
  dsimp only
  refine wpAny_bind ?_
  refine wpAny_of_eq (a := ()) rfl ?_
  refine wpAny_bind ?_
  unfold reRawItems
  refine wpAny_bind ?_
  refine wpAny_seqItems h5 h7 ?_
  exact wpAny_pure (wpAny_pure h)
end
end Mine
-- Re5
open PySem PySem.W PySem.Calls PyProof.Rows PySem.Builtin.Re
open PySem.Sre (M)
namespace Mine
/-- what a search by the code finds from each place on: hit b is the end of the match at b -/
def Finds (code t : Array Nat) (hit : Nat → Option Nat) : Prop :=
  ∀ i, i ≤ t.size → ∃ n m, Go n (Sre.forSearch code t 0 i t.size false) m ∧ n ≤ 4 * t.size + 20 ∧
    ((m.outcome = some .matched ∧ ∃ b e, hit b = some e ∧ i ≤ b ∧ b < e ∧ e ≤ t.size ∧ (∀ j, i ≤ j → j < b → hit j = none) ∧ m.start = b ∧ m.handed = e) ∨
     (m.outcome = some .failed ∧ ∀ j, i ≤ j → j < t.size → hit j = none))
/-- the text from i on, each match replaced -/
def subF (hit : Nat → Option Nat) (t : Array Nat) (repl : List Nat) : Nat → Nat → List Nat
  | 0, _ => []
  | f + 1, i => if t.size ≤ i then [] else match hit i with
    | some e => repl ++ subF hit t repl f e
    | none => t.getD i 0 :: subF hit t repl f (i + 1)
theorem subF_end {hit : Nat → Option Nat} {t : Array Nat} {repl : List Nat} {i : Nat} (h : t.size ≤ i) : ∀ f, subF hit t repl f i = []
  | 0 => rfl
  | _ + 1 => if_pos h
theorem subF_fuel {hit : Nat → Option Nat} {t : Array Nat} {repl : List Nat} (hh : ∀ b e, hit b = some e → b < e) : ∀ f g i, t.size ≤ i + f → t.size ≤ i + g → subF hit t repl f i = subF hit t repl g i
  | 0, g, i, h, _ => by rw [subF_end (by omega), subF_end (by omega)]
  | f + 1, 0, i, _, h => by rw [subF_end (by omega), subF_end (by omega)]
  | f + 1, g + 1, i, h, h' => by
    rw [subF, subF]
    split
    · rfl
    · cases e : hit i with
      | none => dsimp only; rw [subF_fuel hh f g (i + 1) (by omega) (by omega)]
      | some e' => dsimp only; have := hh _ _ e; rw [subF_fuel hh f g e' (by omega) (by omega)]
/-- no match from i to b -/
theorem subF_skip {hit : Nat → Option Nat} {t : Array Nat} {repl : List Nat} {b : Nat} (hb : b ≤ t.size) : ∀ (k i f : Nat), i + k = b → (∀ j, i ≤ j → j < b → hit j = none) →
    subF hit t repl (f + k) i = (t.extract i b).toList ++ subF hit t repl f b := by
  intro k
  induction k with
  | zero => intro i f hk _; have : i = b := by omega
            subst this; simp
  | succ k ih =>
    intro i f hk hn
    have hi : i < t.size := by omega
    rw [← Nat.add_assoc, subF, if_neg (by omega), hn i (Nat.le_refl _) (by omega)]
    dsimp only
    rw [ih (i + 1) f (by omega) fun j h1 h2 => hn j (by omega) h2]
    have : (t.extract i b).toList = t.getD i 0 :: (t.extract (i + 1) b).toList := by
      rw [Array.toList_extract, Array.toList_extract]
      simp only [List.extract]
      have e1 : t.toList.drop i = t.getD i 0 :: t.toList.drop (i + 1) := by
        rw [List.drop_eq_getElem_cons (by simpa using hi)]
        simp [hi]
      rw [e1]
      have e2 : b - i = (b - (i + 1)) + 1 := by omega
      rw [e2, List.take_succ_cons]
    rw [this]; rfl
/-- the pieces' codes -/
def flat (ys : List Str) : List Nat := ys.flatMap fun y => y.cps.toList
theorem join_flat : ∀ ys : List Str, (Txt.join ⟨#[]⟩ ys) = ⟨(flat ys).toArray⟩ := by
  intro ys
  show Builtin.Str.glued ⟨#[]⟩ ys = _
  rw [StrLaws.glued_eq_join]
  induction ys with
  | nil => rfl
  | cons y r ih =>
    cases r with
    | nil => show y = _; simp [flat]
    | cons z r =>
      show y ++ (⟨#[]⟩ : Str) ++ Str.join ⟨#[]⟩ (z :: r) = _
      rw [ih]
      refine Str.ext' ?_
      rw [Str.cps_append, Str.cps_append]
      simp [flat]
theorem flat_append (a b : List Str) : flat (a ++ b) = flat a ++ flat b := by simp [flat]
theorem flat_length (ys : List Str) : (ys.map (·.length)).sum = (flat ys).length := by
  induction ys with
  | nil => rfl
  | cons y r ih =>
    rw [List.map_cons, List.sum_cons, ih]
    show y.cps.size + _ = (y.cps.toList ++ flat r).length
    simp
end Mine
-- Re6
open PySem PySem.W PySem.Calls PyProof.Rows PySem.Builtin.Re
open PySem.Sre (M)
namespace Mine
section
variable {prog : Program} {w : World} {A : Around} {E : Value → Shared → Prop} {s : Shared} {a D : Addr} {code : Array Nat} {x repl : Str} {t tr : Tok}
def loopArgs (a D : Addr) (x : Str) (t : Tok) (repl : Str) (tr : Tok) (n : Int) (i : Nat) : Args :=
  ⟨[.ref a, .str x t, .str repl tr, rawInt 0, rawInt 0, rawInt n, rawInt i, rawInt i, .bool false, .ref D, .bool false], []⟩
theorem ite_T {α : Type} {c : Prop} [Decidable c] {X Y : Sem α} {Q : α → Shared → Prop} (hc : c) (h : wpAny (model prog w) A X Q E s) : wpAny (model prog w) A (if c then X else Y) Q E s := by rw [if_pos hc]; exact h
theorem ite_F {α : Type} {c : Prop} [Decidable c] {X Y : Sem α} {Q : α → Shared → Prop} (hc : ¬ c) (h : wpAny (model prog w) A Y Q E s) : wpAny (model prog w) A (if c then X else Y) Q E s := by rw [if_neg hc]; exact h
theorem push_list {vs : List Value} {ys : List Str} {v : Str} {tv : Tok} {n : Nat} {Q : Unit → Shared → Prop} (hD : s.heap.get? D = some { cls := .type "list", data := .seq vs.toArray n }) (hv : StrsAre vs ys) (hsz : ys.length ≤ 1000000)
    (h : ∀ h' n', h'.get? D = some { cls := .type "list", data := .seq (vs ++ [Value.str v tv]).toArray n' } → StaysBut D s.heap h' → StrsAre (vs ++ [Value.str v tv]) (ys ++ [v]) → Q () { s with heap := h' }) :
    wpAny (model prog w) A (updateSeq D (·.push (.str v tv))) Q E s := by
  have hl : vs.length = ys.length := by
    clear hD h
    induction hv with
    | nil => rfl
    | cons y t _ ih => simp only [List.length_cons]; rw [ih (by simp only [List.length_cons] at hsz; omega)]
  refine wpAny_updateSeq hD rfl (h _ (n + 1) ?_ (fun b o hb e => (Heap.get?_update_ne _ _ _ _ hb).trans e) (hv.append' (.cons _ _ .nil))) (by rw [sizeLine_eq, List.size_toArray]; omega) (by rw [sizeLine_eq]; simp; omega)
  rw [Heap.get?_update_self _ hD rfl]
  simp [Obj.mapSeq]
theorem staysBut_trans {h h' h'' : Heap} (a : StaysBut D h h') (b : StaysBut D h' h'') : StaysBut D h h'' := fun x o hx e => b x o hx (a x o hx e)
theorem sub_loop {hit : Nat → Option Nat} (hf : Finds code x.cps hit) (hlt : ∀ b e, hit b = some e → b < e) (hx : x.cps.size ≤ 10000) (hr : repl.cps.size ≤ 16) {R : Result → Shared → Prop} : ∀ (k i : Nat) (n : Int) (vs : List Value) (ys : List Str) (c : Nat) (s : Shared), x.cps.size - i < k → i ≤ x.cps.size →
    PatAt s.heap a code → s.heap.get? D = some { cls := .type "list", data := .seq vs.toArray c } → StrsAre vs ys → ys.length ≤ 2 * i → (flat ys).length ≤ 17 * i →
    (∀ t' h' tk', StaysBut D s.heap h' → R (.ok (.ret (.str ⟨(flat ys ++ subF hit x.cps repl.cps.toList (x.cps.size - i) i).toArray⟩ t'))) { s with heap := h', toks := tk' }) →
    codeAny (model prog w) A (.builtin "re.Pattern.sub.loop" (loopArgs a D x t repl tr n i)) R s := by
  intro k
  induction k with
  | zero => intro i n vs ys c s hk; omega
  | succ k ih =>
    intro i n vs ys c s hk hi hp hD hv hl1 hl2 h
    refine codeAny_builtin rp_entryLoop ?_
    rw [Around.under_plainId (by decide +kernel)]
    unfold Builtin.«re.Pattern.sub.loop» loopArgs rawInt
    dsimp only
    refine wpAny_bind (whole_at hp ?_)
    refine wpAny_bind (wpAny_of_eq (a := ()) rfl ?_)
    refine wpAny_bind ?_
    rw [if_neg (by simp)]
    obtain ⟨nn, m, g, hn, hcase⟩ := hf i hi
    refine run_end g (by omega) ?_
    rcases hcase with ⟨ho, b, e, he, hib, hbe, hes, hno, hs, hd⟩ | ⟨ho, hno⟩
    · refine .inl ⟨ho, ?_⟩
      have hne : (m.handed == m.start) = false := by rw [hd, hs]; simp; omega
      dsimp only
      rw [hne, hs, hd]
      have hsub : subF hit x.cps repl.cps.toList (x.cps.size - i) i = (x.cps.extract i b).toList ++ (repl.cps.toList ++ subF hit x.cps repl.cps.toList (x.cps.size - e) e) := by
        have h1 := subF_skip (hit := hit) (t := x.cps) (repl := repl.cps.toList) (b := b) (by omega) (b - i) i (x.cps.size - i - (b - i)) (by omega) hno
        have e1 : x.cps.size - i - (b - i) + (b - i) = x.cps.size - i := by omega
        rw [e1] at h1
        rw [h1]
        have e2 : x.cps.size - i - (b - i) = (x.cps.size - b - 1) + 1 := by omega
        rw [e2, subF, if_neg (by omega), he]
        dsimp only
        rw [subF_fuel hlt (x.cps.size - b - 1) (x.cps.size - e) e (by omega) (by omega)]
      have tail : ∀ (vs' : List Value) (ys' : List Str) (c' : Nat) (s' : Shared), PatAt s'.heap a code → s'.heap.get? D = some { cls := .type "list", data := .seq vs'.toArray c' } → StrsAre vs' ys' → ys'.length ≤ 2 * i + 1 → (flat ys').length ≤ 17 * i + (b - i) →
          (∀ t' h' tk', StaysBut D s'.heap h' → R (.ok (.ret (.str ⟨(flat ys' ++ (repl.cps.toList ++ subF hit x.cps repl.cps.toList (x.cps.size - e) e)).toArray⟩ t'))) { s' with heap := h', toks := tk' }) →
          wpAny (model prog w) A.in1 (do
              let item ← pure (Value.str repl tr)
              if (item != Value.none) = true then do
                  updateSeq D fun x => x.push item
                  again (Code.builtin "re.Pattern.sub.loop" (loopArgs a D x t repl tr (n + 1) e))
                else again (Code.builtin "re.Pattern.sub.loop" (loopArgs a D x t repl tr (n + 1) e)))
            (fun fin s' => match fin with
              | Fin.done f => R (Except.ok f) s'
              | Fin.again c' => c'.quiet = true ∧ codeAny (model prog w) A c' R s')
            (fun e s' => R (Except.error e) s') s' := by
        intro vs' ys' c' s' hp' hD' hv' hy1 hy2 h'
        refine wpAny_bind (wpAny_pure ?_)
        refine ite_T rfl ?_
        refine wpAny_bind (push_list hD' hv' (by omega) fun h2 n2 hD2 hb2 hv2 => ?_)
        refine wpAny_pure ⟨plainId_quiet (by decide +kernel) _, ?_⟩
        refine ih e (n + 1) _ _ n2 _ (by omega) hes (hp'.but hD' rfl hb2) hD2 hv2 (by rw [List.length_append]; simp; omega) ?_ ?_
        · rw [flat_append, List.length_append]
          have : (flat [repl]).length = repl.cps.size := by simp [flat]
          omega
        · intro t' h3 tk' hb3
          have := h' t' h3 tk' (staysBut_trans hb2 hb3)
          rw [flat_append, List.append_assoc]
          have e3 : flat [repl] = repl.cps.toList := by simp [flat]
          rw [e3]
          exact this
      by_cases hlt' : i < b
      · rw [if_pos (show (i : Int).toNat < b from hlt')]
        refine wpAny_bind ?_
        refine wpAny_mkStr (x := ⟨x.cps.extract i b⟩) ?_ (by show (x.cps.extract i b).size ≤ _; rw [sizeLine_eq]; simp; omega)
        refine wpAny_bind (push_list hD hv (by omega) fun h2 n2 hD2 hb2 hv2 => ?_)
        refine ite_T rfl ?_
        refine tail _ _ n2 _ (hp.but hD rfl hb2) hD2 hv2 (by rw [List.length_append]; simp; omega) ?_ ?_
        · rw [flat_append, List.length_append]
          have : (flat [(⟨x.cps.extract i b⟩ : Str)]).length = b - i := by simp [flat]; omega
          omega
        · intro t' h3 tk' hb3
          have := h t' h3 tk' (staysBut_trans hb2 hb3)
          rw [hsub] at this
          rw [flat_append]
          have e3 : flat [(⟨x.cps.extract i b⟩ : Str)] = (x.cps.extract i b).toList := by simp [flat]
          rw [e3, List.append_assoc]
          exact this
      · rw [if_neg (show ¬ (i : Int).toNat < b from hlt')]
        refine ite_T rfl ?_
        have : i = b := by omega
        refine tail _ _ c _ hp hD hv (by omega) (by omega) ?_
        intro t' h3 tk' hb3
        have h4 := h t' h3 tk' hb3
        rw [hsub] at h4
        have e4 : (x.cps.extract i b).toList = [] := by subst this; simp
        rw [e4, List.nil_append] at h4
        exact h4
    · refine .inr ⟨ho, ?_⟩
      dsimp only
      have hsub : subF hit x.cps repl.cps.toList (x.cps.size - i) i = (x.cps.extract i x.cps.size).toList := by
        have h1 := subF_skip (hit := hit) (t := x.cps) (repl := repl.cps.toList) (b := x.cps.size) (Nat.le_refl _) (x.cps.size - i) i 0 (by omega) hno
        rw [Nat.zero_add] at h1
        rw [h1]; simp [subF]
      rw [hsub] at h
      have fin : ∀ (vs' : List Value) (ys' : List Str) (c' : Nat) (s' : Shared), s'.heap.get? D = some { cls := .type "list", data := .seq vs'.toArray c' } → StrsAre vs' ys' → ys'.length ≤ 30000 → (flat ys').length ≤ 200000 →
          (∀ t' h' tk', StaysBut D s'.heap h' → R (.ok (.ret (.str ⟨(flat ys').toArray⟩ t'))) { s' with heap := h', toks := tk' }) →
          wpAny (model prog w) A.in1 (do
            let joiner ← reSlice x.cps 0 0 0
            let __do_lift ← seqItems? (Value.ref D)
            if (__do_lift.getD #[]).isEmpty = true then do
                let text ← pure joiner
                if false = true then do
                    let __do_lift ←
                      holding [text] do
                          let __do_lift ← mkInt n
                          newTuple [text, __do_lift]
                    ret __do_lift
                  else ret text
              else do
                let text ← call (Value.builtin (if ((0 : Nat) == 0) = true then "str.join" else "bytes.join")) [joiner, Value.ref D]
                if false = true then do
                    let __do_lift ←
                      holding [text] do
                          let __do_lift ← mkInt n
                          newTuple [text, __do_lift]
                    ret __do_lift
                  else ret text)
            (fun fin s' => match fin with
              | Fin.done f => R (Except.ok f) s'
              | Fin.again c' => c'.quiet = true ∧ codeAny (model prog w) A c' R s')
            (fun e s' => R (Except.error e) s') s' := by
        intro vs' ys' c' s' hD' hv' hy1 hy2 h'
        refine wpAny_bind ?_
        refine wpAny_mkStr (x := ⟨x.cps.extract 0 0⟩) ?_ (by show (x.cps.extract 0 0).size ≤ _; rw [sizeLine_eq]; simp)
        refine wpAny_bind (wpAny_seqItems hD' rfl ?_)
        dsimp only [Option.getD_some]
        cases hv' with
        | nil =>
          refine ite_T rfl ?_
          refine wpAny_bind (wpAny_pure ?_)
          refine ite_F Bool.false_ne_true ?_
          refine wpAny_pure ?_
          have := h' s'.toks s'.heap (s'.toks + 1) (fun _ _ _ e => e)
          have e1 : x.cps.extract 0 0 = #[] := by simp
          rw [e1]
          exact this
        | cons y ty hr' =>
          refine ite_F (by simp) ?_
          refine wpAny_bind ?_
          have e1 : x.cps.extract 0 0 = #[] := by simp
          rw [e1]
          refine join_listW ⟨_, hD', rfl, c', rfl⟩ (by simpa using StrsAre.cons y ty hr') (by decide) ?_ ?_
          · rw [flat_length]; omega
          · intro t' k'
            refine ite_F Bool.false_ne_true ?_
            refine wpAny_pure ?_
            rw [join_flat]
            exact h' t' s'.heap k' (fun _ _ _ e => e)
      by_cases hlt' : i < x.cps.size
      · refine ite_T (show (i : Int).toNat < x.cps.size from hlt') ?_
        refine wpAny_bind ?_
        refine wpAny_mkStr (x := ⟨x.cps.extract i x.cps.size⟩) ?_ (by show (x.cps.extract i _).size ≤ _; rw [sizeLine_eq]; simp; omega)
        refine wpAny_bind (push_list hD hv (by omega) fun h2 n2 hD2 hb2 hv2 => ?_)
        have e3 : flat [(⟨x.cps.extract i x.cps.size⟩ : Str)] = (x.cps.extract i x.cps.size).toList := by simp [flat]
        refine fin _ _ n2 _ hD2 hv2 (by rw [List.length_append]; simp; omega) ?_ ?_
        · rw [flat_append, List.length_append, e3]
          simp; omega
        · intro t' h3 tk' hb3
          have := h t' h3 tk' (staysBut_trans hb2 hb3)
          rw [flat_append, e3]
          exact this
      · refine ite_F (show ¬ (i : Int).toNat < x.cps.size from hlt') ?_
        refine fin _ _ c _ hD hv (by omega) (by omega) ?_
        intro t' h3 tk' hb3
        have h4 := h t' h3 tk' hb3
        have e4 : (x.cps.extract i x.cps.size).toList = [] := by
          have : i = x.cps.size := by omega
          subst this; simp
        rw [e4, List.append_nil] at h4
        exact h4
end
end Mine
namespace Mine
section
variable {prog : Program} {w : World} {A : Around} {E : Value → Shared → Prop} {s : Shared} {a : Addr} {code : Array Nat} {x repl : Str} {t tr : Tok}
theorem PatAt.typeIs {h : Heap} (P : PatAt h a code) : ∃ o, h.get? a = some o ∧ o.cls = .type "re.Pattern" := by
  obtain ⟨o, _, _, _, _, _, _, _, _, h1, h2, _⟩ := P; exact ⟨o, h1, h2⟩
theorem sub_call {hit : Nat → Option Nat} (hf : Finds code x.cps hit) (hlt : ∀ b e, hit b = some e → b < e) (hx : x.cps.size ≤ 10000) (hr : repl.cps.size ≤ 16) (hr2 : repl.cps.contains 92 = false) (hp : PatAt s.heap a code) {Q : Value → Shared → Prop}
    (h : ∀ t' h' tk', s.heap.StaysIn h' → Q (.str ⟨(subF hit x.cps repl.cps.toList x.cps.size 0).toArray⟩ t') { s with heap := h', toks := tk' }) :
    wpAny (model prog w) A (call (.builtin "re.Pattern.sub") [.ref a, .str repl tr, .str x t]) Q E s := by
  refine wpAny_call (codeAny_call_builtin rp_slot.plain rp_entry (rp_slot.check _ _ _ _ _ _ _ _ hp.typeIs (rp_args _ _ _) ?_))
  unfold Builtin.«re.Pattern.sub» reSubstitute
  dsimp only
  refine wpAny_bind (wpAny_of_eq (rp_named _ _) ?_)
  dsimp only
  refine wpAny_bind (wpAny_of_eq (a := (0 : Int)) rfl ?_)
  refine wpAny_bind ?_
  refine wpAny_specialOf (T := "str") (typeIs_str _ _ _) str_no_call ?_
  dsimp only [Option.isSome_none]
  refine ite_F Bool.false_ne_true ?_
  refine wpAny_bind (wpAny_of_eq (a := some repl) rfl ?_)
  dsimp only
  refine wpAny_bind (wpAny_pure ?_)
  refine ite_F Bool.false_ne_true ?_
  refine ite_T (by rw [hr2]; rfl) ?_
  refine wpAny_bind (wpAny_pure ?_)
  refine wpAny_bind (wpAny_holding (whole_at hp ?_))
  refine ite_F (show ¬ (((0 : Nat) == 1) = true) from Bool.false_ne_true) ?_
  refine wpAny_bind (wpAny_newObj_type ?_ (by show 0 ≤ _; omega))
  refine wpAny_pure ⟨plainId_quiet (by decide +kernel) _, ?_⟩
  refine sub_loop (s := { s with heap := s.heap.push { cls := .type "list", data := .seq #[] 0 } }) (n := 0) hf hlt hx hr (x.cps.size - 0 + 1) 0 [] [] 0 (by omega) (by omega) (hp.keeps fun b o e => Heap.get?_push_of_some _ e) (Heap.get?_push_size _ rfl) .nil (by simp) (by simp [flat]) ?_
  intro t' h' tk' hb
  exact h t' h' tk' fun b o e => hb b o (Nat.ne_of_lt (Heap.lt_size e)) (Heap.get?_push_of_some _ e)
end
end Mine
-- Re7
open PySem PySem.W PySem.Calls PyProof.Rows PySem.Builtin.Re
open PySem.Sre (M)
namespace Mine
def hitE (t : Array Nat) (b : Nat) : Option Nat := if b < t.size ∧ isEol (t.getD b 0) = true then some (endAt t b) else none
def hitD (t : Array Nat) (b : Nat) : Option Nat := if b < t.size ∧ bol t b = true ∧ t.getD b 0 = 46 then some (b + 1) else none
theorem endAt_le {t : Array Nat} {b : Nat} (h : b < t.size) : b < endAt t b ∧ endAt t b ≤ t.size := by
  unfold endAt; by_cases c : t.getD b 0 = 13 ∧ b + 1 < t.size ∧ t.getD (b + 1) 0 = 10
  · rw [if_pos c]; omega
  · rw [if_neg c]; omega
theorem finds2 (t : Array Nat) : Finds code2 t (hitE t) := by
  intro i hi
  obtain ⟨n, m, g, hn, h⟩ := search2 t i hi
  refine ⟨n, m, g, by omega, ?_⟩
  rcases h with ⟨h1, b, h2, h3, h4, h5, h6, h7⟩ | ⟨h1, h2⟩
  · exact .inl ⟨h1, b, endAt t b, if_pos ⟨h3, h4⟩, h2, (endAt_le h3).1, (endAt_le h3).2, fun j hj hb => if_neg fun q => (by rw [h5 j hj hb] at q; exact Bool.false_ne_true q.2), h6, h7⟩
  · exact .inr ⟨h1, fun j hj hb => if_neg fun q => (by rw [h2 j hj hb] at q; exact Bool.false_ne_true q.2)⟩
theorem finds1 (t : Array Nat) : Finds code1 t (hitD t) := by
  intro i hi
  obtain ⟨n, m, g, hn, h⟩ := search1 t i hi
  refine ⟨n, m, g, by omega, ?_⟩
  rcases h with ⟨h1, b, h2, h3, h4, h5, h6, h7⟩ | ⟨h1, h2⟩
  · exact .inl ⟨h1, b, b + 1, if_pos ⟨h3, h4.1, h4.2⟩, h2, by omega, by omega, fun j hj hb => if_neg fun q => h5 j hj hb ⟨q.2.1, q.2.2⟩, h6, h7⟩
  · exact .inr ⟨h1, fun j hj hb => if_neg fun q => h2 j hj hb ⟨q.2.1, q.2.2⟩⟩
theorem hitE_lt (t : Array Nat) : ∀ b e, hitE t b = some e → b < e := by
  intro b e h
  unfold hitE at h
  split at h
  · rename_i q; cases h; exact (endAt_le q.1).1
  · cases h
theorem hitD_lt (t : Array Nat) : ∀ b e, hitD t b = some e → b < e := by
  intro b e h
  unfold hitD at h
  split at h
  · cases h; omega
  · cases h
/-- every line's end even; b: a return stands right ahead -/
def eolF : Bool → List Nat → List Nat
  | _, [] => []
  | b, c :: r => if c = 10 then (if b = true then eolF false r else 13 :: 10 :: eolF false r) else if c = 13 then 13 :: 10 :: eolF true r else c :: eolF false r
/-- a dot that leads a line doubled -/
def dotF : Bool → List Nat → List Nat
  | _, [] => []
  | b, c :: r => if b = true ∧ c = 46 then 46 :: 46 :: dotF false r else c :: dotF (c == 10) r
theorem drop_cons {t : Array Nat} {i : Nat} (h : i < t.size) : t.toList.drop i = t.getD i 0 :: t.toList.drop (i + 1) := by
  rw [List.drop_eq_getElem_cons (by simpa using h)]; simp [h]
theorem subE (t : Array Nat) : ∀ (f i : Nat), t.size - i ≤ f → subF (hitE t) t [13, 10] f i = eolF false (t.toList.drop i) := by
  intro f
  induction f with
  | zero => intro i h; rw [List.drop_eq_nil_of_le (by simp; omega), eolF]; rfl
  | succ f ih =>
    intro i h
    rw [subF]
    by_cases hi : t.size ≤ i
    · rw [if_pos hi, List.drop_eq_nil_of_le (by simpa using hi), eolF]
    · rw [if_neg hi, drop_cons (by omega), eolF]
      by_cases h10 : t.getD i 0 = 10
      · have hh : hitE t i = some (i + 1) := by
          unfold hitE; rw [if_pos ⟨by omega, by rw [h10]; rfl⟩]
          unfold endAt; rw [if_neg (by rw [h10]; simp)]
        rw [hh, if_pos h10, if_neg Bool.false_ne_true]
        dsimp only
        rw [ih _ (by omega)]; rfl
      · rw [if_neg h10]
        by_cases h13 : t.getD i 0 = 13
        · rw [if_pos h13]
          by_cases hc : i + 1 < t.size ∧ t.getD (i + 1) 0 = 10
          · have hh : hitE t i = some (i + 2) := by
              unfold hitE; rw [if_pos ⟨by omega, by rw [h13]; rfl⟩]
              unfold endAt; rw [if_pos ⟨h13, hc⟩]
            rw [hh, drop_cons hc.1, hc.2, eolF, if_pos rfl, if_pos rfl]
            dsimp only
            rw [ih _ (by omega)]; rfl
          · have hh : hitE t i = some (i + 1) := by
              unfold hitE; rw [if_pos ⟨by omega, by rw [h13]; rfl⟩]
              unfold endAt; rw [if_neg fun q => hc q.2]
            rw [hh]
            dsimp only
            rw [ih _ (by omega)]
            by_cases hl : i + 1 < t.size
            · have hne : t.getD (i + 1) 0 ≠ 10 := fun q => hc ⟨hl, q⟩
              rw [drop_cons hl, eolF, eolF, if_neg hne, if_neg hne]; rfl
            · rw [List.drop_eq_nil_of_le (by simp; omega), eolF, eolF]; rfl
        · have hh : hitE t i = none := by
            unfold hitE; rw [if_neg (fun q => by have := q.2; simp only [isEol, Bool.or_eq_true, beq_iff_eq] at this; exact this.elim h10 h13)]
          rw [hh, if_neg h13]
          dsimp only
          rw [ih _ (by omega)]
theorem subD (t : Array Nat) : ∀ (f i : Nat), t.size - i ≤ f → subF (hitD t) t [46, 46] f i = dotF (bol t i) (t.toList.drop i) := by
  intro f
  induction f with
  | zero => intro i h; rw [List.drop_eq_nil_of_le (by simp; omega), dotF]; rfl
  | succ f ih =>
    intro i h
    rw [subF]
    by_cases hi : t.size ≤ i
    · rw [if_pos hi, List.drop_eq_nil_of_le (by simpa using hi), dotF]
    · rw [if_neg hi, drop_cons (by omega), dotF]
      have hb : bol t (i + 1) = (t.getD i 0 == 10) := by simp [bol]
      by_cases hc : bol t i = true ∧ t.getD i 0 = 46
      · have hh : hitD t i = some (i + 1) := by unfold hitD; rw [if_pos ⟨by omega, hc.1, hc.2⟩]
        rw [hh, if_pos hc]
        dsimp only
        rw [ih _ (by omega), hb, hc.2]; rfl
      · have hh : hitD t i = none := by unfold hitD; rw [if_neg fun q => hc q.2]
        rw [hh, if_neg hc]
        dsimp only
        rw [ih _ (by omega), hb]
section
variable {prog : Program} {w : World} {A : Around} {E : Value → Shared → Prop} {s : Shared} {a : Addr} {x : Str} {t tr : Tok}
theorem sub_eol (hx : x.cps.size ≤ 10000) (hp : PatAt s.heap a code2) {Q : Value → Shared → Prop}
    (h : ∀ t' h' tk', s.heap.StaysIn h' → Q (.str ⟨(eolF false x.cps.toList).toArray⟩ t') { s with heap := h', toks := tk' }) :
    wpAny (model prog w) A (call (.builtin "re.Pattern.sub") [.ref a, .str (Str.ofString "\r\n") tr, .str x t]) Q E s := by
  refine sub_call (finds2 _) (hitE_lt _) hx (by decide +kernel) (by decide +kernel) hp fun t' h' tk' hs => ?_
  have e : (Str.ofString "\r\n").cps.toList = [13, 10] := by decide +kernel
  rw [e, subE _ _ _ (by omega)]
  exact h t' h' tk' hs
theorem sub_dot (hx : x.cps.size ≤ 10000) (hp : PatAt s.heap a code1) {Q : Value → Shared → Prop}
    (h : ∀ t' h' tk', s.heap.StaysIn h' → Q (.str ⟨(dotF true x.cps.toList).toArray⟩ t') { s with heap := h', toks := tk' }) :
    wpAny (model prog w) A (call (.builtin "re.Pattern.sub") [.ref a, .str (Str.ofString "..") tr, .str x t]) Q E s := by
  refine sub_call (finds1 _) (hitD_lt _) hx (by decide +kernel) (by decide +kernel) hp fun t' h' tk' hs => ?_
  have e : (Str.ofString "..").cps.toList = [46, 46] := by decide +kernel
  rw [e, subD _ _ _ (by omega)]
  exact h t' h' tk' hs
end
end Mine
-- Loop1
namespace Mine
/-- what a turn leaves -/
def LEnd {σ : Type} (h₀ : Heap) (L : Addr) (s : Shared) (x : Str) (Led : σ → List (Addr × Obj)) (ps : σ → List (Str × Value)) (stored : List Str) (m₀ : Str → Option Value) (own : List (Addr × Obj)) (Inv : σ → Prop) (s₂ : Shared) : Prop :=
  ∃ (c' : σ) (h' : Heap) (tk : Nat) (m' : Str → Option Value) (news' : List (Addr × Obj)), s₂ = { s with heap := h', toks := tk } ∧ Fr h₀ L h' m' ∧ News h₀ L h' news' ∧ (∀ p ∈ Led c', p ∈ news') ∧ (∀ p ∈ own, p ∈ news') ∧ OwnOff own ((Led c').map (·.1)) ∧
    (∀ p ∈ ps c', m' p.1 = some p.2) ∧ (∀ z, z ≠ x → (∀ p ∈ ps c', z ≠ p.1) → stored.contains z = false → m' z = m₀ z) ∧ Inv c'
def LPost {σ : Type} (h₀ : Heap) (L : Addr) (s : Shared) (x : Str) (Led : σ → List (Addr × Obj)) (ps : σ → List (Str × Value)) (stored : List Str) (m₀ : Str → Option Value) (own : List (Addr × Obj)) (Inv : σ → Prop) (Q : Flow → Shared → Prop) (f : Flow) (s₂ : Shared) : Prop :=
  match f with
  | .ret v => Q (.ret v) s₂
  | .brk => Q .next s₂
  | _ => LEnd h₀ L s x Led ps stored m₀ own Inv s₂
theorem lend {σ : Type} {h₀ : Heap} {L : Addr} {s : Shared} {x : Str} {Led : σ → List (Addr × Obj)} {ps : σ → List (Str × Value)} {stored : List Str} {m₀ m' : Str → Option Value} {own news' : List (Addr × Obj)} {Inv : σ → Prop} {h' : Heap} {tk : Nat} (c' : σ)
    (F : Fr h₀ L h' m') (N : News h₀ L h' news') (hn : ∀ p ∈ Led c', p ∈ news') (ho : ∀ p ∈ own, p ∈ news') (ha : OwnOff own ((Led c').map (·.1))) (hk : ∀ p ∈ ps c', m' p.1 = some p.2)
    (hr : ∀ z, z ≠ x → (∀ p ∈ ps c', z ≠ p.1) → stored.contains z = false → m' z = m₀ z) (hi : Inv c') : LEnd h₀ L s x Led ps stored m₀ own Inv { s with heap := h', toks := tk } :=
  ⟨c', h', tk, m', news', rfl, F, N, hn, ho, ha, hk, hr, hi⟩
theorem ownOff_nil {own : List (Addr × Obj)} : OwnOff own [] := fun _ _ _ h => nomatch h
theorem ownOff_cons {own : List (Addr × Obj)} {b : Addr} {r : List Addr} (h : ∀ p ∈ own, p.1 ≠ b) (hr : OwnOff own r) : OwnOff own (b :: r) := fun p hp c hc => by
  rcases List.mem_cons.mp hc with rfl | hc
  · exact h p hp
  · exact hr p hp c hc
theorem ownOff_lt {own : List (Addr × Obj)} {b : Addr} (h : AllLt b own) : ∀ p ∈ own, p.1 ≠ b := fun p hp => Nat.ne_of_lt (kst_ltOf h p hp)
theorem ownOff_tail {own : List (Addr × Obj)} {b : Addr} {r : List Addr} (h : OwnOff own (b :: r)) : OwnOff own r := fun p hp c hc => h p hp c (.tail _ hc)
section
variable {prog : Program} {w : World} {A : Around} {E : Value → Shared → Prop} {s : Shared} {env : Env} {h₀ : Heap} {x : Str} {body : List Stmt} {Q : Flow → Shared → Prop}
theorem loop_s {σ : Type} {I : Addr} {fp wr : List Addr} {n : Nat} {P : Nat → Value → Prop} {St : Nat → Heap → Prop} {m₀ : Str → Option Value} (Led : σ → List (Addr × Obj)) (ps : σ → List (Str × Value)) (stored : List Str) (Inv : Nat → σ → Prop) (c₀ : σ)
    (W : Walks prog w A I fp wr n P St) (hLf : env.locals ∉ fp) (hwr : ∀ b ∈ wr, h₀.get? b = none) (hlive : ∀ i h, St i h → ∀ b ∈ fp, ∃ o, h.get? b = some o) (hfp : ∀ p ∈ Led c₀, p.1 ∉ fp) (hst : St 0 s.heap)
    (F : Fr h₀ env.locals s.heap m₀) (N : News h₀ env.locals s.heap (Led c₀)) (hk : ∀ p ∈ ps c₀, m₀ p.1 = some p.2) (h0 : Inv 0 c₀)
    (turn : ∀ i v c (u : Str → Option Value) h tk own, i < n → P i v → Inv i c → OwnOff own ((Led c).map (·.1)) → (∀ b ∈ fp, h₀.get? b = none → ∀ o, h.get? b = some o → (b, o) ∈ own) → St (i + 1) h →
      Fr h₀ env.locals h (fun y => if y = x then some v else kstB (fun z => if stored.contains z then u z else m₀ z) (ps c) y) → News h₀ env.locals h (Led c ++ own) →
      wpAny (model prog w) A (execs body env) (LPost h₀ env.locals { s with heap := h, toks := tk } x Led ps stored m₀ own (Inv (i + 1)) Q) E { s with heap := h, toks := tk })
    (done : ∀ c (u : Str → Option Value) h tk, Inv n c → Fr h₀ env.locals h (fun y => if y = x then u y else kstB (fun z => if stored.contains z then u z else m₀ z) (ps c) y) → News h₀ env.locals h (Led c) → Q .next { s with heap := h, toks := tk }) :
    LoopAtV prog w A h₀ env x body Q E (.ref I) s := by
  refine ⟨I, fp, wr, n, P, St, m₀, Led c₀, fun i m nx => ∃ c : σ, nx = Led c ∧ Inv i c ∧ (∀ p ∈ ps c, m p.1 = some p.2) ∧ (∀ z, z ≠ x → (∀ p ∈ ps c, z ≠ p.1) → stored.contains z = false → m z = m₀ z) ∧ (∀ p ∈ Led c, p.1 ∉ fp), rfl, W, hLf, hwr, (fun p hp hb => hfp p hp (W.sub _ hb)), hst, F, N, ⟨c₀, rfl, h0, hk, fun _ _ _ _ => rfl, hfp⟩, ?_, ?_⟩
  · rintro i v m₁ news₁ s₁ own ⟨hh, tk, rfl⟩ hi hP ⟨c, rfl, hI, h1, h2, hoff⟩ _ hsub hget hall hst₁ F₁ N₁
    have hsep : OwnOff own ((Led c).map (·.1)) := fun q hq b hb e => (by obtain ⟨p, hp, rfl⟩ := List.mem_map.mp hb; exact hoff p hp (e ▸ hsub q hq))
    refine wpAny_mono (turn i v c m₁ hh tk own hi hP hI hsep hall hst₁ (kst_fr h1 h2 F₁) (fun p hp => N₁ p ((List.mem_append.mp hp).elim (fun h => List.mem_append.mpr (.inr h)) fun h => List.mem_append.mpr (.inl h)))) (fun f s₂ q => ?_) fun _ _ e => e
    have fin : LEnd h₀ env.locals { s with heap := hh, toks := tk } x Led ps stored m₀ own (Inv (i + 1)) s₂ → LoopStepU h₀ env.locals wr own (fun m nx => ∃ c : σ, nx = Led c ∧ Inv (i + 1) c ∧ (∀ p ∈ ps c, m p.1 = some p.2) ∧ (∀ z, z ≠ x → (∀ p ∈ ps c, z ≠ p.1) → stored.contains z = false → m z = m₀ z) ∧ (∀ p ∈ Led c, p.1 ∉ fp)) { s with heap := hh, toks := tk } .next s₂ := by
      rintro ⟨c', h', tk', m', news', rfl, F', N', hn, ho, ha, hk', hr', hI'⟩
      have hoff' : ∀ p ∈ Led c', p.1 ∉ fp := fun p hp hb => by
        have hp0 := (N' p (hn p hp)).2.2
        obtain ⟨o, hq⟩ := hlive _ _ hst₁ _ hb
        exact ha (p.1, o) (hall _ hb hp0 o hq) p.1 (List.mem_map_of_mem hp) rfl
      exact ⟨rfl, h', tk', m', Led c', rfl, F', fun p hp => (List.mem_append.mp hp).elim (fun h => N' p (ho p h)) fun h => N' p (hn p h), fun p hp hb => hoff' p hp (W.sub _ hb), c', rfl, hI', hk', hr', hoff'⟩
    cases f with
    | ret v => exact .ret q
    | brk => exact .brk q
    | next => exact .next (fin q)
    | cont => exact .cont (fin q)
  · rintro h' tk m' news' F' N' _ ⟨c, rfl, hI, h1, h2, _⟩
    exact done c m' h' tk hI (kst_frOut h1 h2 F') N'
/-- over a text of plain signs -/
theorem loop_text {σ : Type} {xt : Str} {tx : Tok} {m₀ : Str → Option Value} (Led : σ → List (Addr × Obj)) (ps : σ → List (Str × Value)) (stored : List Str) (Inv : Nat → σ → Prop) (c₀ : σ) (ha : xt.cps.all (· < 128) = true) (hh : A.handled = none)
    (F : Fr h₀ env.locals s.heap m₀) (N : News h₀ env.locals s.heap (Led c₀)) (hk : ∀ p ∈ ps c₀, m₀ p.1 = some p.2) (h0 : Inv 0 c₀)
    (turn : ∀ i (k : Nat) t c (u : Str → Option Value) h tk own, xt.cps[i]? = some k → Inv i c → OwnOff own ((Led c).map (·.1)) →
      Fr h₀ env.locals h (fun y => if y = x then some (.str ⟨#[k]⟩ t) else kstB (fun z => if stored.contains z then u z else m₀ z) (ps c) y) → News h₀ env.locals h (Led c ++ own) →
      wpAny (model prog w) A (execs body env) (LPost h₀ env.locals { s with heap := h, toks := tk } x Led ps stored m₀ own (Inv (i + 1)) Q) E { s with heap := h, toks := tk })
    (done : ∀ c (u : Str → Option Value) h tk, Inv xt.cps.size c → Fr h₀ env.locals h (fun y => if y = x then u y else kstB (fun z => if stored.contains z then u z else m₀ z) (ps c) y) → News h₀ env.locals h (Led c) → Q .next { s with heap := h, toks := tk }) :
    wpAny (model prog w) A (pyIter (.str xt tx)) (fun it s₂ => LoopAtV prog w A h₀ env x body Q E it s₂) E s := by
  refine wpAny_pyIter_ascii ha ?_
  have hL := F.ns.lt
  refine loop_s (s := { s with heap := s.heap.push _ }) Led ps stored Inv c₀ (Walks.strAscii hh _ xt tx) ?_ ?_ ?_ ?_ ⟨_, Heap.get?_push_size _ rfl, rfl, rfl⟩ (F.push _) (fun p hp => ⟨Heap.get?_push_of_some _ (N p hp).1, (N p hp).2⟩) hk h0 ?_ done
  · intro hm; exact absurd hL ((List.mem_singleton.mp hm) ▸ Nat.lt_irrefl _)
  · intro b hb; rw [List.mem_singleton.mp hb]; exact next_is_new F
  · rintro i h ⟨o, ho, _⟩ b hb; rw [List.mem_singleton.mp hb]; exact ⟨o, ho⟩
  · intro p hp hI; exact absurd (Heap.lt_size (N p hp).1) ((List.mem_singleton.mp hI) ▸ Nat.lt_irrefl _)
  · rintro i v c u h tk own hi ⟨k, t, hk', rfl⟩ hI hsep _ _ F' N'
    exact turn i k t c u h tk own hk' hI hsep F' N'
/-- over a range by ones -/
theorem loop_range {σ : Type} {r : Addr} {a₀ b₀ : Int} {t₀ u₀ v₀ : Tok} {n : Nat} {m₀ : Str → Option Value} (Led : σ → List (Addr × Obj)) (ps : σ → List (Str × Value)) (stored : List Str) (Inv : Nat → σ → Prop) (c₀ : σ) (hh : A.handled = none)
    (hr : IsRange s.heap r a₀ b₀ 1 t₀ u₀ v₀) (ha : -(2 ^ 62) ≤ a₀ ∧ a₀ < 2 ^ 62) (hb : -(2 ^ 62) ≤ b₀ ∧ b₀ < 2 ^ 62) (hn : (b₀ - a₀).toNat = n)
    (F : Fr h₀ env.locals s.heap m₀) (N : News h₀ env.locals s.heap (Led c₀)) (hk : ∀ p ∈ ps c₀, m₀ p.1 = some p.2) (h0 : Inv 0 c₀)
    (turn : ∀ i t c (u : Str → Option Value) h tk own, i < n → Inv i c → OwnOff own ((Led c).map (·.1)) →
      Fr h₀ env.locals h (fun y => if y = x then some (.int (a₀ + i) t) else kstB (fun z => if stored.contains z then u z else m₀ z) (ps c) y) → News h₀ env.locals h (Led c ++ own) →
      wpAny (model prog w) A (execs body env) (LPost h₀ env.locals { s with heap := h, toks := tk } x Led ps stored m₀ own (Inv (i + 1)) Q) E { s with heap := h, toks := tk })
    (done : ∀ c (u : Str → Option Value) h tk, Inv n c → Fr h₀ env.locals h (fun y => if y = x then u y else kstB (fun z => if stored.contains z then u z else m₀ z) (ps c) y) → News h₀ env.locals h (Led c) → Q .next { s with heap := h, toks := tk }) :
    wpAny (model prog w) A (pyIter (.ref r)) (fun it s₂ => LoopAtV prog w A h₀ env x body Q E it s₂) E s := by
  refine wpAny_pyIter_range hr (small_one ha.1 ha.2 hb.1 hb.2) ?_
  have hL := F.ns.lt
  have hsz : Builtin.Range.rangeSize a₀ b₀ 1 = (n : Int) := by rw [rangeSize_one]; split <;> omega
  refine loop_s (s := { s with heap := s.heap.push _ }) Led ps stored Inv c₀ (Walks.range hh _ a₀ 1 n) ?_ ?_ ?_ ?_ (by show IsRangeIter _ _ _ _ _; rw [hsz]; simpa using Heap.get?_push_size _ rfl) (F.push _) (fun p hp => ⟨Heap.get?_push_of_some _ (N p hp).1, (N p hp).2⟩) hk h0 ?_ done
  · intro hm; exact absurd hL ((List.mem_singleton.mp hm) ▸ Nat.lt_irrefl _)
  · intro b hb; rw [List.mem_singleton.mp hb]; exact next_is_new F
  · intro i h st b hb; rw [List.mem_singleton.mp hb]; exact ⟨_, st⟩
  · intro p hp hI; exact absurd (Heap.lt_size (N p hp).1) ((List.mem_singleton.mp hI) ▸ Nat.lt_irrefl _)
  · rintro i v c u h tk own hi ⟨t, rfl⟩ hI hsep _ _ F' N'
    rw [Int.mul_one] at F'
    exact turn i t c u h tk own hi hI hsep F' N'
/-- over a list that stood before the frame -/
theorem loop_list {σ : Type} {l : Addr} {vs : List Value} {m₀ : Str → Option Value} (Led : σ → List (Addr × Obj)) (ps : σ → List (Str × Value)) (stored : List Str) (Inv : Nat → σ → Prop) (c₀ : σ) (hh : A.handled = none)
    (hl : h₀.IsList l vs.toArray) (F : Fr h₀ env.locals s.heap m₀) (N : News h₀ env.locals s.heap (Led c₀)) (hk : ∀ p ∈ ps c₀, m₀ p.1 = some p.2) (h0 : Inv 0 c₀)
    (turn : ∀ i v c (u : Str → Option Value) h tk own, vs[i]? = some v → Inv i c → OwnOff own ((Led c).map (·.1)) →
      Fr h₀ env.locals h (fun y => if y = x then some v else kstB (fun z => if stored.contains z then u z else m₀ z) (ps c) y) → News h₀ env.locals h (Led c ++ own) →
      wpAny (model prog w) A (execs body env) (LPost h₀ env.locals { s with heap := h, toks := tk } x Led ps stored m₀ own (Inv (i + 1)) Q) E { s with heap := h, toks := tk })
    (done : ∀ c (u : Str → Option Value) h tk, Inv vs.length c → Fr h₀ env.locals h (fun y => if y = x then u y else kstB (fun z => if stored.contains z then u z else m₀ z) (ps c) y) → News h₀ env.locals h (Led c) → Q .next { s with heap := h, toks := tk }) :
    wpAny (model prog w) A (pyIter (.ref l)) (fun it s₂ => LoopAtV prog w A h₀ env x body Q E it s₂) E s := by
  have hls : s.heap.IsList l vs.toArray := hl.at fun o e => F.keep l o e
  obtain ⟨ol, hol, _⟩ := id hl
  have hlt : l < h₀.objs.size := Heap.lt_size hol
  have hne : l ≠ s.heap.objs.size := Nat.ne_of_lt (Nat.lt_trans (Nat.lt_of_lt_of_le hlt F.above) F.ns.lt)
  refine wpAny_pyIter_list hls ?_
  have hL := F.ns.lt
  have W := Walks.list (prog := prog) (w := w) hh s.heap.objs.size l hne vs.toArray
  rw [List.size_toArray] at W
  refine loop_s (s := { s with heap := s.heap.push _ }) Led ps stored Inv c₀ W ?_ ?_ ?_ ?_ ⟨⟨_, Heap.get?_push_size _ rfl, rfl, rfl⟩, hls.at fun o e => Heap.get?_push_of_some _ e⟩ (F.push _) (fun p hp => ⟨Heap.get?_push_of_some _ (N p hp).1, (N p hp).2⟩) hk h0 ?_ done
  · intro hm
    rcases List.mem_cons.mp hm with e | hm
    · exact absurd hL (e ▸ Nat.lt_irrefl _)
    · exact absurd (Nat.lt_of_lt_of_le hlt F.above) ((List.mem_singleton.mp hm) ▸ Nat.lt_irrefl _)
  · intro b hb; rw [List.mem_singleton.mp hb]; exact next_is_new F
  · rintro i h ⟨⟨o, ho, _⟩, ⟨o', ho', _⟩⟩ b hb
    rcases List.mem_cons.mp hb with rfl | hb
    · exact ⟨o, ho⟩
    · rw [List.mem_singleton.mp hb]; exact ⟨o', ho'⟩
  · intro p hp hI
    rcases List.mem_cons.mp hI with e | hI
    · exact absurd (Heap.lt_size (N p hp).1) (e ▸ Nat.lt_irrefl _)
    · have h1 := (N p hp).2.2; rw [List.mem_singleton.mp hI, hol] at h1; cases h1
  · rintro i v c u h tk own hi hP hI hsep _ _ F' N'
    exact turn i v c u h tk own (by simpa using hP) hI hsep F' N'
/-- over a list of the frame's own; it is told at each turn -/
theorem loop_own {σ : Type} {l : Addr} {vs : List Value} {ep : Nat} {m₀ : Str → Option Value} (Led : σ → List (Addr × Obj)) (ps : σ → List (Str × Value)) (stored : List Str) (Inv : Nat → σ → Prop) (c₀ : σ) (hh : A.handled = none)
    (F : Fr h₀ env.locals s.heap m₀) (N : News h₀ env.locals s.heap ((l, listOf vs.toArray ep) :: Led c₀)) (hoff : ∀ p ∈ Led c₀, p.1 ≠ l) (hk : ∀ p ∈ ps c₀, m₀ p.1 = some p.2) (h0 : Inv 0 c₀)
    (turn : ∀ i v c (u : Str → Option Value) h tk own, vs[i]? = some v → Inv i c → OwnOff own ((Led c).map (·.1)) →
      Fr h₀ env.locals h (fun y => if y = x then some v else kstB (fun z => if stored.contains z then u z else m₀ z) (ps c) y) → News h₀ env.locals h (Led c ++ own) → h.IsList l vs.toArray →
      wpAny (model prog w) A (execs body env) (LPost h₀ env.locals { s with heap := h, toks := tk } x Led ps stored m₀ own (Inv (i + 1)) Q) E { s with heap := h, toks := tk })
    (done : ∀ c (u : Str → Option Value) h tk, Inv vs.length c → Fr h₀ env.locals h (fun y => if y = x then u y else kstB (fun z => if stored.contains z then u z else m₀ z) (ps c) y) → News h₀ env.locals h (Led c) → Q .next { s with heap := h, toks := tk }) :
    wpAny (model prog w) A (pyIter (.ref l)) (fun it s₂ => LoopAtV prog w A h₀ env x body Q E it s₂) E s := by
  have hN := N _ (.head _)
  have hls : s.heap.IsList l vs.toArray := ⟨_, hN.1, rfl, ep, rfl⟩
  have hne : l ≠ s.heap.objs.size := Nat.ne_of_lt (Heap.lt_size hN.1)
  refine wpAny_pyIter_list hls ?_
  have hL := F.ns.lt
  have W := Walks.list (prog := prog) (w := w) hh s.heap.objs.size l hne vs.toArray
  rw [List.size_toArray] at W
  refine loop_s (s := { s with heap := s.heap.push _ }) Led ps stored Inv c₀ W ?_ ?_ ?_ ?_ ⟨⟨_, Heap.get?_push_size _ rfl, rfl, rfl⟩, hls.at fun o e => Heap.get?_push_of_some _ e⟩ (F.push _) (fun p hp => ⟨Heap.get?_push_of_some _ (N p (.tail _ hp)).1, (N p (.tail _ hp)).2⟩) hk h0 ?_ done
  · intro hm
    rcases List.mem_cons.mp hm with e | hm
    · exact absurd hL (e ▸ Nat.lt_irrefl _)
    · exact hN.2.1 (List.mem_singleton.mp hm).symm
  · intro b hb; rw [List.mem_singleton.mp hb]; exact next_is_new F
  · rintro i h ⟨⟨o, ho, _⟩, ⟨o', ho', _⟩⟩ b hb
    rcases List.mem_cons.mp hb with rfl | hb
    · exact ⟨o, ho⟩
    · rw [List.mem_singleton.mp hb]; exact ⟨o', ho'⟩
  · intro p hp hI
    rcases List.mem_cons.mp hI with e | hI
    · exact absurd (Heap.lt_size (N p (.tail _ hp)).1) (e ▸ Nat.lt_irrefl _)
    · exact hoff p hp (List.mem_singleton.mp hI)
  · rintro i v c u h tk own hi hP hI hsep _ hst F' N'
    exact turn i v c u h tk own (by simpa using hP) hI hsep F' N' hst.2
end
end Mine
-- Pure1
namespace Mine
/-- the letters that Int2AP writes: fuel, number, what stands behind -/
def apF : Nat → Nat → List UInt8 → List UInt8
  | 0, _, acc => acc
  | f + 1, n, acc => if n = 0 then acc else apF f (n / 16) (UInt8.ofNat (65 + n % 16) :: acc)
theorem apF_zero : ∀ (f : Nat) (acc : List UInt8), apF f 0 acc = acc
  | 0, _ => rfl
  | _ + 1, _ => if_pos rfl
theorem apF_succ {f n : Nat} (acc : List UInt8) (h : n ≠ 0) : apF (f + 1) n acc = apF f (n / 16) (UInt8.ofNat (65 + n % 16) :: acc) := if_neg h
theorem apF_acc : ∀ (f n : Nat) (acc : List UInt8), apF f n acc = apF f n [] ++ acc
  | 0, _, _ => rfl
  | f + 1, n, acc => by
    by_cases h : n = 0
    · subst h; rw [apF_zero, apF_zero]; rfl
    · rw [apF_succ _ h, apF_succ _ h, apF_acc f _ (_ :: acc), apF_acc f _ [_], List.append_assoc]; rfl
/-- the letter at a place of AP, cut out -/
theorem ap_cut (k : Int) (h0 : 0 ≤ k) (h1 : k < 16) : KBy.picked #[65, 66, 67, 68, 69, 70, 71, 72, 73, 74, 75, 76, 77, 78, 79, 80] (some k) (some (k + 1)) = #[UInt8.ofNat (65 + k.toNat)] := by
  have : k = 0 ∨ k = 1 ∨ k = 2 ∨ k = 3 ∨ k = 4 ∨ k = 5 ∨ k = 6 ∨ k = 7 ∨ k = 8 ∨ k = 9 ∨ k = 10 ∨ k = 11 ∨ k = 12 ∨ k = 13 ∨ k = 14 ∨ k = 15 := by omega
  rcases this with rfl | rfl | rfl | rfl | rfl | rfl | rfl | rfl | rfl | rfl | rfl | rfl | rfl | rfl | rfl | rfl <;> decide +kernel
/-- one turn of Int2AP's loop -/
theorem ap_turn {num N : Int} {val : Array UInt8} {f : Nat} (h0 : 0 ≤ num) (hn : num ≠ 0) (hf : num.toNat < 16 ^ f) (he : apF f num.toNat val.toList = apF 8 N.toNat []) (hs : val.size + f = 8) :
    ∃ f', (num.fdiv 16).toNat < 16 ^ f' ∧ apF f' (num.fdiv 16).toNat (KBy.picked #[65, 66, 67, 68, 69, 70, 71, 72, 73, 74, 75, 76, 77, 78, 79, 80] (some (num.fmod 16)) (some (num.fmod 16 + 1)) ++ val).toList = apF 8 N.toNat [] ∧ (KBy.picked #[65, 66, 67, 68, 69, 70, 71, 72, 73, 74, 75, 76, 77, 78, 79, 80] (some (num.fmod 16)) (some (num.fmod 16 + 1)) ++ val).size + f' = 8 := by
  obtain ⟨n, rfl⟩ := Int.eq_ofNat_of_zero_le h0
  have e1 : Int.fdiv (n : Int) 16 = ((n / 16 : Nat) : Int) := by rw [Int.fdiv_eq_ediv_of_nonneg _ (by omega)]; rfl
  have e2 : Int.fmod (n : Int) 16 = ((n % 16 : Nat) : Int) := by rw [Int.fmod_eq_emod_of_nonneg _ (by omega)]; rfl
  rw [e1, e2, ap_cut _ (by omega) (by omega)]
  have hn' : n ≠ 0 := by omega
  cases f with
  | zero => simp at hf; omega
  | succ f =>
    refine ⟨f, ?_, ?_, ?_⟩
    · simp only [Int.toNat_natCast] at hf ⊢
      rw [Nat.pow_succ] at hf
      omega
    · simp only [Int.toNat_natCast] at he ⊢
      rw [apF_succ _ hn'] at he
      rw [← he]; simp
    · simp; omega
def numF (ns : List Int) : Int := ns.foldl (fun a f => 16 * a + f) 0
theorem numF_fold (ns : List Int) : (ns.foldl (fun (σ : Int × Unit) n => (16 * σ.fst + n, ())) (0, ())).fst = numF ns := by
  have : ∀ (ns : List Int) (a : Int), (ns.foldl (fun (σ : Int × Unit) n => (16 * σ.fst + n, ())) (a, ())).fst = ns.foldl (fun a f => 16 * a + f) a := by
    intro ns
    induction ns with
    | nil => intro a; rfl
    | cons n r ih => intro a; exact ih _
  exact this ns 0
theorem numF_snoc (ns : List Int) (v : Int) : numF (ns ++ [v]) = 16 * numF ns + v := by unfold numF; rw [List.foldl_append]; rfl
theorem numF_bound : ∀ (k : Nat) (ns : List Int), ns.length = k → (∀ v ∈ ns, 0 ≤ v ∧ v < 16) → 0 ≤ numF ns ∧ numF ns < (16 ^ k : Nat) := by
  intro k
  induction k with
  | zero => intro ns h _; rw [List.length_eq_zero_iff.mp h]; exact ⟨Int.le_refl _, by decide⟩
  | succ k ih =>
    intro ns h hv
    have hne : ns ≠ [] := by intro e; subst e; cases h
    have e := List.dropLast_concat_getLast hne
    rw [← e, numF_snoc]
    obtain ⟨h1, h2⟩ := ih ns.dropLast (by rw [List.length_dropLast]; omega) fun v hv' => hv v (List.dropLast_subset _ hv')
    have h3 := hv _ (List.getLast_mem hne)
    rw [Nat.pow_succ]
    omega
theorem apF_step (f m v : Nat) (hv : v < 16) (hf : m < 16 ^ f) (h : 16 * m + v ≠ 0) : apF (f + 1) (16 * m + v) [] = apF f m [] ++ [UInt8.ofNat (65 + v)] := by
  rw [apF_succ _ h, apF_acc]
  have e1 : (16 * m + v) / 16 = m := by omega
  have e2 : (16 * m + v) % 16 = v := by omega
  rw [e1, e2]
theorem apF_fuel : ∀ (f g n : Nat) (acc : List UInt8), n < 16 ^ f → n < 16 ^ g → apF f n acc = apF g n acc
  | 0, g, n, acc, h, _ => by have : n = 0 := by omega
                             subst this; rw [apF_zero, apF_zero]
  | f + 1, 0, n, acc, _, h => by have : n = 0 := by omega
                                 subst this; rw [apF_zero, apF_zero]
  | f + 1, g + 1, n, acc, h, h' => by
    by_cases h0 : n = 0
    · subst h0; rw [apF_zero, apF_zero]
    · rw [apF_succ _ h0, apF_succ _ h0]
      rw [Nat.pow_succ] at h h'
      exact apF_fuel f g _ _ (by omega) (by omega)
/-- the letters of the figures: Int2AP's with A's ahead -/
theorem ap_pad : ∀ (k : Nat) (ns : List Int), ns.length = k → (∀ v ∈ ns, 0 ≤ v ∧ v < 16) →
    (apF k (numF ns).toNat []).length ≤ k ∧ List.replicate (k - (apF k (numF ns).toNat []).length) (65 : UInt8) ++ apF k (numF ns).toNat [] = ns.map fun v => UInt8.ofNat (65 + v.toNat) := by
  intro k
  induction k with
  | zero => intro ns h _; rw [List.length_eq_zero_iff.mp h]; exact ⟨Nat.le_refl _, rfl⟩
  | succ k ih =>
    intro ns h hv
    have hne : ns ≠ [] := by intro e; subst e; cases h
    have e := List.dropLast_concat_getLast hne
    have hl : ns.dropLast.length = k := by rw [List.length_dropLast]; omega
    have hv' : ∀ v ∈ ns.dropLast, 0 ≤ v ∧ v < 16 := fun v hm => hv v (List.dropLast_subset _ hm)
    obtain ⟨h1, h2⟩ := ih ns.dropLast hl hv'
    obtain ⟨b1, b2⟩ := numF_bound k ns.dropLast hl hv'
    have h3 := hv _ (List.getLast_mem hne)
    generalize ns.getLast hne = v at *
    rw [← e, numF_snoc, List.map_append, ← h2]
    generalize hm : numF ns.dropLast = m at *
    obtain ⟨m, rfl⟩ := Int.eq_ofNat_of_zero_le b1
    obtain ⟨v, rfl⟩ := Int.eq_ofNat_of_zero_le h3.1
    have e1 : (16 * (m : Int) + (v : Int)).toNat = 16 * m + v := by omega
    rw [e1]
    simp only [Int.toNat_natCast] at h1 h2 ⊢
    by_cases h0 : 16 * m + v = 0
    · have hm0 : m = 0 := by omega
      have hv0 : v = 0 := by omega
      subst hm0; subst hv0
      rw [apF_zero, apF_zero]
      refine ⟨by simp, ?_⟩
      simp only [List.length_nil, Nat.sub_zero, List.append_nil, List.map_cons, List.map_nil]
      rw [List.replicate_succ']; rfl
    · rw [apF_step k m v (by omega) (by omega) h0]
      refine ⟨by rw [List.length_append]; simp; omega, ?_⟩
      rw [List.length_append, ← List.append_assoc]
      have : k + 1 - ((apF k m []).length + [UInt8.ofNat (65 + v)].length) = k - (apF k m []).length := by simp
      rw [this]; rfl
end Mine
-- Came
namespace Mine
/-- behind the wishes ws: how many came to each place, which places are taken -/
structure CamInv (n : Nat) (ws cm tk : List Int) : Prop where
  len : cm.length = n
  rng : ∀ p ∈ tk, 0 ≤ p ∧ p < n
  nd : tk.Nodup
  tl : tk.length = ws.length
  pos : ∀ p : Nat, p < n → ((p : Int) ∈ tk ↔ 0 < cm.getD p 0)
  nn : ∀ p : Nat, p < n → 0 ≤ cm.getD p 0
  flow : ∀ p : Nat, p < n → cm.getD ((p + 1) % n) 0 = (ws.count (((p + 1) % n : Nat) : Int) : Nat) + max (cm.getD p 0 - 1) 0
def one (p q : Nat) : Int := if p = q then 1 else 0
/-- the last car stands at q, counted there -/
structure CamMid (n : Nat) (ws cm tk : List Int) (q : Nat) : Prop where
  hq : q < n
  len : cm.length = n
  rng : ∀ p ∈ tk, 0 ≤ p ∧ p < n
  nd : tk.Nodup
  tl : tk.length + 1 = ws.length
  pos : ∀ p : Nat, p < n → ((p : Int) ∈ tk ↔ 0 < cm.getD p 0 - one p q)
  nn : ∀ p : Nat, p < n → 0 ≤ cm.getD p 0 - one p q
  flow : ∀ p : Nat, p < n → cm.getD ((p + 1) % n) 0 = (ws.count (((p + 1) % n : Nat) : Int) : Nat) + max (cm.getD p 0 - one p q - 1) 0
theorem getD_set (cm : List Int) (q p : Nat) (hq : q < cm.length) (v : Int) : (cm.set q v).getD p 0 = if p = q then v else cm.getD p 0 := by
  by_cases h : p = q
  · subst h; rw [if_pos rfl]; simp [hq]
  · rw [if_neg h]; simp [List.getElem?_set, Ne.symm h]
theorem getD_bump (cm : List Int) (q p : Nat) (hq : q < cm.length) : (cm.set q (cm.getD q 0 + 1)).getD p 0 = cm.getD p 0 + one p q := by
  rw [getD_set _ _ _ hq]; unfold one
  by_cases h : p = q
  · subst h; simp
  · rw [if_neg h, if_neg h]; omega
theorem succ_mod {n p : Nat} (hp : p < n) : (p + 1) % n = if p + 1 = n then 0 else p + 1 := by
  by_cases h : p + 1 = n
  · rw [if_pos h, h, Nat.mod_self]
  · rw [if_neg h, Nat.mod_eq_of_lt (by omega)]
theorem succ_inj {n p q : Nat} (hp : p < n) (hq : q < n) : one ((p + 1) % n) ((q + 1) % n) = one p q := by
  rw [succ_mod hp, succ_mod hq]
  unfold one
  by_cases h : p = q
  · subst h; simp
  · rw [if_neg h]
    by_cases h1 : p + 1 = n <;> by_cases h2 : q + 1 = n <;> simp [h1, h2] <;> omega
theorem CamInv.start {n : Nat} {ws cm tk : List Int} (I : CamInv n ws cm tk) {v : Nat} (hv : v < n) : CamMid n (ws ++ [(v : Int)]) (cm.set v (cm.getD v 0 + 1)) tk v := by
  have hl : v < cm.length := by rw [I.len]; exact hv
  have e : ∀ p, (cm.set v (cm.getD v 0 + 1)).getD p 0 - one p v = cm.getD p 0 := fun p => by rw [getD_bump _ _ _ hl]; omega
  refine ⟨hv, by rw [List.length_set]; exact I.len, I.rng, I.nd, by rw [List.length_append, I.tl]; rfl, fun p hp => by rw [e]; exact I.pos p hp, fun p hp => by rw [e]; exact I.nn p hp, fun p hp => ?_⟩
  rw [e, getD_bump _ _ _ hl, I.flow p hp, List.count_append]
  have : List.count (((p + 1) % n : Nat) : Int) [(v : Int)] = if (p + 1) % n = v then 1 else 0 := by
    by_cases h : (p + 1) % n = v
    · rw [if_pos h, h]; simp
    · rw [if_neg h]; exact List.count_eq_zero.mpr fun hm => h (Int.ofNat.inj (List.mem_singleton.mp hm))
  rw [this]
  unfold one
  split <;> omega
theorem CamMid.step {n : Nat} {ws cm tk : List Int} {q : Nat} (I : CamMid n ws cm tk q) (hm : (q : Int) ∈ tk) : CamMid n ws (cm.set ((q + 1) % n) (cm.getD ((q + 1) % n) 0 + 1)) tk ((q + 1) % n) := by
  have hn : (q + 1) % n < n := Nat.mod_lt _ (Nat.lt_of_le_of_lt (Nat.zero_le _) I.hq)
  have hl : (q + 1) % n < cm.length := by rw [I.len]; exact hn
  have e : ∀ p, (cm.set ((q + 1) % n) (cm.getD ((q + 1) % n) 0 + 1)).getD p 0 - one p ((q + 1) % n) = cm.getD p 0 := fun p => by rw [getD_bump _ _ _ hl]; omega
  have hq2 := (I.pos q I.hq).mp hm
  have h1 : one q q = 1 := if_pos rfl
  refine ⟨hn, by rw [List.length_set]; exact I.len, I.rng, I.nd, I.tl, fun p hp => ?_, fun p hp => ?_, fun p hp => ?_⟩
  · rw [e, I.pos p hp]
    unfold one
    by_cases h : p = q
    · subst h; rw [if_pos rfl]; rw [h1] at hq2; constructor <;> intro _ <;> omega
    · rw [if_neg h]; omega
  · rw [e]; have := I.nn p hp; unfold one at this; split at this <;> omega
  · rw [e, getD_bump _ _ _ hl, I.flow p hp, succ_inj hp I.hq]
    by_cases h : p = q
    · subst h; rw [h1] at hq2 ⊢; omega
    · have : one p q = 0 := if_neg h
      rw [this]; omega
theorem CamMid.finish {n : Nat} {ws cm tk : List Int} {q : Nat} (I : CamMid n ws cm tk q) (hm : (q : Int) ∉ tk) : CamInv n ws cm (tk ++ [(q : Int)]) := by
  have hq2 : ¬ 0 < cm.getD q 0 - one q q := fun h => hm ((I.pos q I.hq).mpr h)
  have hq3 := I.nn q I.hq
  have h1 : one q q = 1 := if_pos rfl
  rw [h1] at hq2 hq3
  refine ⟨I.len, fun p hp => ?_, ?_, by rw [List.length_append]; exact I.tl, fun p hp => ?_, fun p hp => ?_, fun p hp => ?_⟩
  · rcases List.mem_append.mp hp with h | h
    · exact I.rng p h
    · rw [List.mem_singleton.mp h]; have := I.hq; omega
  · rw [List.nodup_append]
    refine ⟨I.nd, by simp, fun a ha b hb e => ?_⟩
    rw [List.mem_singleton] at hb
    subst e; subst hb; exact hm ha
  · rw [List.mem_append, I.pos p hp, List.mem_singleton]
    unfold one
    by_cases h : p = q
    · subst h; rw [if_pos rfl]; constructor
      · intro _; omega
      · intro _; exact .inr rfl
    · rw [if_neg h]; constructor
      · rintro (h2 | h2)
        · omega
        · exact absurd h2 (by omega)
      · intro h2; exact .inl (by omega)
  · have := I.nn p hp; unfold one at this; split at this <;> omega
  · rw [I.flow p hp]
    by_cases h : p = q
    · subst h; rw [h1]; omega
    · have : one p q = 0 := if_neg h
      rw [this]; omega
theorem free_place : ∀ (n : Nat) (tk : List Int), (∀ f : Nat, f < n → (f : Int) ∈ tk) → n ≤ tk.length := by
  intro n
  induction n with
  | zero => intro tk _; exact Nat.zero_le _
  | succ n ih =>
    intro tk h
    have hn := h n (Nat.lt_succ_self n)
    have := ih (tk.erase (n : Int)) fun f hf => (List.mem_erase_of_ne (by omega)).mpr (h f (by omega))
    rw [List.length_erase_of_mem hn] at this
    have hpos : 0 < tk.length := List.length_pos_of_mem hn
    omega
theorem a_free {n : Nat} {tk : List Int} (h : tk.length < n) : ∃ f : Nat, f < n ∧ (f : Int) ∉ tk := by
  by_cases hc : ∃ f : Nat, f < n ∧ (f : Int) ∉ tk
  · exact hc
  · have := free_place n tk fun f hf => by
      by_cases hm : (f : Int) ∈ tk
      · exact hm
      · exact absurd ⟨f, hf, hm⟩ hc
    omega
/-- how far it is from q to f -/
def far (n f q : Nat) : Nat := if q ≤ f then f - q else f + n - q
theorem far_lt {n f q : Nat} (hf : f < n) (hq : q < n) (h : q ≠ f) : far n f ((q + 1) % n) < far n f q := by
  rw [succ_mod hq]; unfold far
  split <;> split <;> split <;> omega
end Mine
-- Rep
namespace Mine
/-- y's places in a text, taken from the left, become z -/
inductive RepR (y z : List Nat) : List Nat → List Nat → Prop
  | nil : RepR y z [] []
  | hit {r r' : List Nat} : RepR y z r r' → RepR y z (y ++ r) (z ++ r')
  | skip {c : Nat} {r r' : List Nat} : ¬ y <+: (c :: r) → RepR y z r r' → RepR y z (c :: r) (c :: r')
theorem RepR.det {y z : List Nat} (hy : y ≠ []) : ∀ {l a : List Nat}, RepR y z l a → ∀ b, RepR y z l b → a = b := by
  intro l a h
  induction h with
  | nil =>
    intro b hb
    generalize hl : ([] : List Nat) = l at hb
    cases hb with
    | nil => rfl
    | hit _ => exact absurd (List.append_eq_nil_iff.mp hl.symm).1 hy
    | skip _ _ => cases hl
  | @hit r r' hr ih =>
    intro b hb
    generalize hl : y ++ r = l at hb
    cases hb with
    | nil => exact absurd (List.append_eq_nil_iff.mp hl).1 hy
    | hit h2 => rw [ih _ ((List.append_cancel_left hl) ▸ h2)]
    | skip hn _ => exact absurd ⟨r, hl⟩ hn
  | @skip c r r' hn hr ih =>
    intro b hb
    generalize hl : c :: r = l at hb
    cases hb with
    | nil => cases hl
    | hit _ => exact absurd ⟨_, hl.symm⟩ hn
    | skip _ h2 => cases hl; rw [ih _ h2]
open Builtin Builtin.Str StrLaws
theorem at_prefix (l y : List Nat) (i : Nat) (hy : y ≠ []) : At ⟨l.toArray⟩ ⟨y.toArray⟩ (⟨l.toArray⟩ : Str).length i ↔ y <+: l.drop i := by
  have e1 : (⟨l.toArray⟩ : Str).length = l.length := by show l.toArray.size = _; simp
  have e2 : (⟨y.toArray⟩ : Str).length = y.length := by show y.toArray.size = _; simp
  unfold At
  rw [subAt_eq, e1, e2]
  simp only [List.toList_toArray, beq_iff_eq]
  constructor
  · rintro ⟨_, h⟩; exact ⟨(l.drop i).drop y.length, (congrArg (· ++ (l.drop i).drop y.length) h.symm).trans (List.take_append_drop _ _)⟩
  · rintro ⟨t, h⟩
    have hl := congrArg List.length h
    have hp := List.length_pos_iff.mpr hy
    simp at hl
    refine ⟨by omega, ?_⟩
    rw [← h, List.take_left']; rfl
theorem rep_skip {y z l : List Nat} {d : List Nat} : ∀ (m a : Nat), a + m ≤ l.length → (∀ k, a ≤ k → k < a + m → ¬ y <+: l.drop k) → RepR y z (l.drop (a + m)) d → RepR y z (l.drop a) ((l.drop a).take m ++ d)
  | 0, a, _, _, h => by simpa using h
  | m + 1, a, hl, hn, h => by
    have e : l.drop a = l[a] :: l.drop (a + 1) := List.drop_eq_getElem_cons (by omega)
    have h1 := rep_skip m (a + 1) (by omega) (fun k h1 h2 => hn k (by omega) (by omega)) (by rw [show a + 1 + m = a + (m + 1) by omega]; exact h)
    have h2 := hn a (Nat.le_refl _) (by omega)
    rw [e] at h2 ⊢
    rw [List.take_succ_cons, List.cons_append]
    exact .skip h2 h1
theorem rep_chain (l y z : List Nat) (hy : y ≠ []) : ∀ (cuts : List Nat) (a f : Nat), a ≤ l.length → ChainG ⟨l.toArray⟩ ⟨y.toArray⟩ (⟨l.toArray⟩ : Str).length a cuts f → (∀ k, f ≤ k → ¬ At ⟨l.toArray⟩ ⟨y.toArray⟩ (⟨l.toArray⟩ : Str).length k) →
    RepR y z (l.drop a) (Str.join ⟨z.toArray⟩ (partsFrom ⟨l.toArray⟩ (⟨y.toArray⟩ : Str).length a cuts)).cps.toList
  | [], a, f, ha, h, hn => by
    have e : f = a := h
    subst e
    show RepR y z _ (strSub ⟨l.toArray⟩ f (⟨l.toArray⟩ : Str).length).cps.toList
    have e1 : (⟨l.toArray⟩ : Str).length = l.length := by show l.toArray.size = _; simp
    rw [strSub_toList, e1]
    have h1 := rep_skip (y := y) (z := z) (l := l) (d := []) (l.length - f) f (by omega) (fun k h1 _ hp => hn k h1 ((at_prefix l y k hy).mpr hp)) (by rw [show f + (l.length - f) = l.length by omega, List.drop_length]; exact .nil)
    rw [List.append_nil] at h1
    exact h1
  | c :: r, a, f, ha, h, hn => by
    obtain ⟨h1, h2, h3, h4⟩ := h
    obtain ⟨p, q, e⟩ := partsFrom_ne ⟨l.toArray⟩ (⟨y.toArray⟩ : Str).length (c + (⟨y.toArray⟩ : Str).length) r
    have e1 : (⟨l.toArray⟩ : Str).length = l.length := by show l.toArray.size = _; simp
    have e2 : (⟨y.toArray⟩ : Str).length = y.length := by show y.toArray.size = _; simp
    have hb : c + y.length ≤ l.length := by have := h2.1; rw [e1, e2] at this; exact this
    have ih := rep_chain l y z hy r (c + (⟨y.toArray⟩ : Str).length) f (by rw [e2]; exact hb) h4 hn
    show RepR y z _ (Str.join ⟨z.toArray⟩ (strSub ⟨l.toArray⟩ a c :: partsFrom ⟨l.toArray⟩ (⟨y.toArray⟩ : Str).length (c + (⟨y.toArray⟩ : Str).length) r)).cps.toList
    rw [e] at ih ⊢
    show RepR y z _ (strSub ⟨l.toArray⟩ a c ++ ⟨z.toArray⟩ ++ Str.join ⟨z.toArray⟩ (p :: q)).cps.toList
    simp only [Str.cps_append, Array.toList_append, strSub_toList, List.append_assoc]
    rw [e2] at ih
    obtain ⟨t, ht⟩ := (at_prefix l y c hy).mp h2
    have et : t = l.drop (c + y.length) := by rw [← List.drop_drop, ← ht, List.drop_left']; rfl
    have h5 : RepR y z (l.drop c) (z ++ (Str.join ⟨z.toArray⟩ (p :: q)).cps.toList) := by rw [← ht, et]; exact .hit ih
    have h6 := rep_skip (y := y) (z := z) (l := l) (c - a) a (by omega) (fun k h1 h2' hp => h3 k h1 (by omega) ((at_prefix l y k hy).mpr hp)) (by rw [show a + (c - a) = c by omega]; exact h5)
    exact h6
theorem rep_txt {l y z d : List Nat} (hy : y ≠ []) (h : RepR y z l d) : Txt.replace ⟨l.toArray⟩ ⟨y.toArray⟩ ⟨z.toArray⟩ = ⟨d.toArray⟩ := by
  have e2 : (⟨y.toArray⟩ : Str).length = y.length := by show y.toArray.size = _; simp
  have hp := List.length_pos_iff.mpr hy
  obtain ⟨f, hG, hn⟩ := occ_tight ⟨l.toArray⟩ ⟨y.toArray⟩ (by rw [e2]; exact hp)
  have h1 := rep_chain l y z hy _ 0 f (Nat.zero_le _) hG hn
  rw [List.drop_zero] at h1
  have h2 := h1.det hy _ h
  have h3 : ((⟨y.toArray⟩ : Str).length == 0) = false := by rw [e2]; simp; exact hy
  unfold Txt.replace
  rw [h3, Bool.false_and, Bool.or_false]
  rw [← h2]
  cases he : (occurrences ⟨l.toArray⟩ ⟨y.toArray⟩ 0 (⟨l.toArray⟩ : Str).length ((⟨l.toArray⟩ : Str).length + 1)) with
  | nil =>
    simp only [List.isEmpty_nil, if_true]
    show _ = (⟨(strSub ⟨l.toArray⟩ 0 (⟨l.toArray⟩ : Str).length).cps.toList.toArray⟩ : Str)
    rw [sub_whole]
  | cons a r =>
    rw [if_neg (by simp), glued_eq_join, partsBetween_eq]
end Mine
-- Toks
namespace Mine
/-- a run takes tokens and gives none back -/
theorem runs_toks {M : Model} {Γ : Ctx} {p : Pos} {t : Sem Fin} {fs : List Frame} {s : Shared} {e : End} {s' : Shared} (h : Runs M Γ p t fs s e s') : s.toks ≤ s'.toks := by
  induction h <;> (try simp only [Shared.setGen] at *) <;> (try dsimp only at *) <;> omega
theorem wakes_toks {M : Model} {Γ : Ctx} {p : Pos} {g : Nat} {r : Resume} {s s' : Shared} {res : GenResult} (h : Wakes M Γ p g r s res s') : s.toks ≤ s'.toks := by
  unfold Wakes at h
  split at h
  · exact h.elim
  · split at h
    · obtain ⟨e, s₁, h1, _, _, rfl⟩ := h
      have := runs_toks h1
      simp only [Shared.setGen] at *; exact this
    · rw [h.2]; exact Nat.le_refl _
    · rw [h.2]; exact Nat.le_refl _
  · obtain ⟨e, s₁, h1, _, _, rfl⟩ := h
    have := runs_toks h1
    simp only [Shared.setGen] at *; exact this
  · rw [h.2]; exact Nat.le_refl _
  · rw [h.2]; exact Nat.le_refl _
theorem wp_toks {α : Type} {M : Model} {Γ : Ctx} (t : Sem α) {Q : α → Pos → Shared → Prop} {E : Value → Pos → Shared → Prop} {n : Nat} : ∀ (p : Pos) (s : Shared), n ≤ s.toks →
    Sem.wp M Γ t (fun a p' s' => n ≤ s'.toks → Q a p' s') (fun e p' s' => n ≤ s'.toks → E e p' s') p s → Sem.wp M Γ t Q E p s := by
  induction t with
  | pure a => intro p s hn h; exact h hn
  | raise e => intro p s hn h; exact h hn
  | unsupported _ => intro p s hn h; exact h
  | finish _ => intro p s hn h; exact h
  | register _ _ => intro p s hn h; exact h
  | yield _ _ _ _ => intro p s hn h; exact h
  | fork _ _ => intro p s hn h; exact h
  | await _ _ _ _ _ => intro p s hn h; exact h
  | rule _ k ih => intro p s hn h; exact ih _ _ _ hn h
  | «at» p' k ih => intro p s hn h; exact ih _ _ _ hn h
  | load a part k ih => rintro p s hn ⟨o, h1, h2⟩; exact ⟨o, h1, ih _ _ _ hn h2⟩
  | update a part f k ih => rintro p s hn ⟨h1, h2⟩; exact ⟨h1, ih _ _ _ hn h2⟩
  | loadIfAlive a k ih => intro p s hn h; exact ih _ _ _ hn h
  | point _ k ih => intro p s hn h; exact ih _ _ _ hn h
  | alloc o k ih => intro p s hn h; exact ih _ p { s with heap := s.heap.push o } hn h
  | fresh k ih => intro p s hn h; exact ih _ p { s with toks := s.toks + 1 } (Nat.le_succ_of_le hn) h
  | ask k ih => intro p s hn h; exact ih _ _ _ hn h
  | choose src m k ih => rintro p s hn ⟨h1, h2⟩; exact ⟨h1, ih _ p { s with drawn := s.drawn.bump src } hn h2⟩
  | os q l k ih => intro p s hn h; exact ih _ p { s with os := (Os.step s.os q).1 } hn h
  | call c hd g l k ih =>
    rintro p s hn ⟨r, s₁, h1, h2⟩
    exact ⟨r, s₁, h1, ih _ _ _ (Nat.le_trans hn (runs_toks h1)) h2⟩
  | handled own k ih => intro p s hn h; exact ih _ _ _ hn h
  | genState g k ih => rintro p s hn ⟨o, h1, h2⟩; exact ⟨o, h1, ih _ _ _ hn h2⟩
  | newGen c k ih => intro p s hn h; exact ih _ p { s with gens := s.gens.push (.fresh c) } hn h
  | resume g r l k ih => rintro p s hn ⟨res, s₁, h1, h2⟩; exact ⟨res, s₁, h1, ih _ _ _ (Nat.le_trans hn (wakes_toks h1)) h2⟩
  | stack k ih => intro p s hn h; exact ih _ _ _ hn h
  | thread k ih => intro p s hn h; exact ih _ _ _ hn h
/-- what is wanted behind a step may lean on this: the tokens have not become fewer -/
theorem wpAny_toks {α : Type} {M : Model} {A : Around} {t : Sem α} {Q : α → Shared → Prop} {E : Value → Shared → Prop} {s : Shared}
    (h : wpAny M A t (fun a s' => s.toks ≤ s'.toks → Q a s') E s) : wpAny M A t Q E s := fun Γ p hΓ =>
  have h1 : Sem.wp M Γ t (fun a _ s' => s.toks ≤ s'.toks → Q a s') (fun e _ s' => s.toks ≤ s'.toks → E e s') p s :=
    Sem.wp_mono M Γ t (post := fun a _ s' => s.toks ≤ s'.toks → Q a s') (post' := fun a _ s' => s.toks ≤ s'.toks → Q a s') (exc := fun e _ s' => E e s') (exc' := fun e _ s' => s.toks ≤ s'.toks → E e s') (fun _ _ _ x => x) (fun _ _ _ x _ => x) p s (h Γ p hΓ)
  wp_toks t p s (Nat.le_refl _) h1
/-- the tokens by a name -/
theorem wpAny_gen {α : Type} {M : Model} {A : Around} {t : Sem α} {Q : α → Shared → Prop} {E : Value → Shared → Prop} {s : Shared} (h : ∀ n, s.toks ≤ n → wpAny M A t Q E { s with toks := n }) : wpAny M A t Q E s := h s.toks (Nat.le_refl _)
section
open Builtin Builtin.Str Builtin.Int
variable {prog : Program} {w : World} {A : Around} {E : Value → Shared → Prop} {s : Shared} {x : Str} {t u : Tok} {Q : Value → Shared → Prop}
theorem mul_fresh {n : Int} (hn : 2 ≤ n) (hx : 1 ≤ x.length) (hok : MulOk x n) (h : Q (.str (Txt.mul x n) s.toks) { s with toks := s.toks + 1 }) : wpAny (model prog w) A (binaryOp .Mult (.str x t) (.int n u)) Q E s := by
  have h1 : ¬ n < 1 := by omega
  have h2 : (n == 1 || x.length == 0) = false := by
    rw [Bool.or_eq_false_iff]; constructor
    · rw [beq_eq_false_iff_ne]; omega
    · rw [beq_eq_false_iff_ne]; omega
  refine P.mul_str hok.1 hok.2.1 hok.2.2 ?_
  unfold Txt.mul at h
  rw [if_neg h1, h2] at h ⊢
  exact ⟨fits_reps (hok.2.2 h1 h2), h⟩
end
end Mine
-- Top01
set_option maxHeartbeats 0
namespace Mine
open_top hd01 for PySem.Challenge.rw_rw0056_01
end Mine
set_option maxHeartbeats 4000000
theorem Mine.topOff : True := by
  w_top off
  trivial
-- Base1
set_option maxHeartbeats 4000000
namespace Mine
abbrev prog1 := PySem.Challenge.pw_rw0056_01
section
variable {prog : Program} {w : World} {A : Around} {s : Shared} {K : Frag} {mg mb : Str → Option Value} {p : Program} {loose : List Str} {mean : ExcName → Option Value}
theorem call_fn {R : Result → Shared → Prop} {name qual : Str} {params : Arguments} {body : List Stmt} {scope : Scope} {dV kV doc pm cdv ct oc : Value} {an od : Option Addr} {osl : Array (Option Value)} {f : Addr} {args : Args} {binds : List (Str × Value)}
    (X : K.In s.heap) (ho : K.lookup f = some ⟨oc, od, .func (fnOf name qual params body scope dV kV doc pm an cdv ct), osl⟩) (hcd : codeIn K cdv qual = true) (hlim : s.heap.NoLimit) (hroom : A.depth < recursionLimit)
    (hbind : BindsTo s (fnOf name qual params body scope dV kV doc pm an cdv ct) args binds) (hloc : ∀ y ∈ binds, scope.names.lookup y.1 = some .local)
    (h : ∀ h₁, Fr s.heap s.heap.objs.size h₁ (fun y => binds.reverse.lookup y) → News s.heap s.heap.objs.size h₁ [] →
      wpAny (model prog w) (A.deeper (envOf qual scope s.heap.objs.size f cdv)) (execs body (envOf qual scope s.heap.objs.size f cdv))
        (fun fl s' => R (.ok (.ret (match fl with | .ret v => v | _ => .none))) s') (fun _ _ => False)
        { s with heap := h₁, toks := s.toks + binds.length })
    (hco : scope.isCoroutine = false := by rfl) (hgen : scope.isGenerator = false := by rfl) (hk : scope.kind = .function := by rfl)
    (hcell : ∀ x ∈ scope.names, x.2 ≠ .cell := by decide) : codeAny (model prog w) A (.call (.ref f) args) R s := by
  refine codeAny_call_def (fd := fnOf name qual params body scope dV kV doc pm an cdv ct) (body := body) (binds := binds) hroom (X _ _ ho) rfl hlim (codeRec_of X hcd) rfl hbind hcell hloc (fun h₁ hns hk₁ => ?_) hco hgen hk
  exact wpAny_mono (h h₁ ⟨hns, hk₁, Nat.le_refl _⟩ News.nil) (fun _ _ x => x) fun _ _ x => x.elim
end
end Mine
-- Base2
set_option maxHeartbeats 4000000
namespace Mine
theorem fr_stays {h₀ h h' : Heap} {L : Addr} {m : Str → Option Value} (F : Fr h₀ L h m) (k : h.StaysIn h') : Fr h₀ L h' m :=
  let ⟨oL, es, ep, hL, r⟩ := F.ns; ⟨⟨oL, es, ep, k _ _ hL, r⟩, fun b o e => k b o (F.keep b o e), F.above⟩
theorem news_stays {h₀ h h' : Heap} {L : Addr} {news : List (Addr × Obj)} (N : News h₀ L h news) (k : h.StaysIn h') : News h₀ L h' news := fun p hp => ⟨k _ _ (N p hp).1, (N p hp).2⟩
theorem hide_stays {h₀ h1 : Heap} {L : Addr} {m : Str → Option Value} {led : List (Addr × Obj)} (F1 : Fr h₀ L h1 m) (N1 : News h₀ L h1 led) : h₀.StaysIn (hideAll h1 (led.map (·.1))) := fun b o e =>
  hideAll_get _ (F1.keep b o e) fun hm => by
    obtain ⟨p, hp, rfl⟩ := List.mem_map.mp hm
    rw [(N1 p hp).2.2] at e; cases e
/-- back in the caller's frame; what was led is told anew -/
theorem back_led {h₀ h1 h5 : Heap} {L L' : Addr} {m m5 : Str → Option Value} {led news news5 : List (Addr × Obj)} (F1 : Fr h₀ L h1 m) (N2 : News h₀ L h1 news) (hm : ∀ p ∈ led, p ∈ news)
    (F5 : Fr (hideAll h1 (led.map (·.1))) L' h5 m5) (N5 : News (hideAll h1 (led.map (·.1))) L' h5 news5) (hl : ∀ p ∈ led, p ∈ news5) : Fr h₀ L h5 m ∧ News h₀ L h5 (news5 ++ news) := by
  have N1 : News h₀ L h1 led := fun p hp => N2 p (hm p hp)
  have hst := hide_stays F1 N1
  have up : ∀ b o, h1.get? b = some o → b ∉ led.map (·.1) → h5.get? b = some o := fun b o e hb => F5.keep b o (hideAll_get _ e hb)
  obtain ⟨oL, es, ep, hL, r⟩ := F1.ns
  have hLn : L ∉ led.map (·.1) := fun hm => by
    obtain ⟨p, hp, e⟩ := List.mem_map.mp hm
    exact (N1 p hp).2.1 e
  have hLg := hideAll_get (led.map (·.1)) hL hLn
  refine ⟨⟨⟨oL, es, ep, up _ _ hL hLn, r⟩, fun b o e => F5.keep b o (hst b o e), F1.above⟩, fun p hp => ?_⟩
  rcases List.mem_append.mp hp with h | h
  · have h5' := N5 p h
    refine ⟨h5'.1, fun e => ?_, ?_⟩
    · have := h5'.2.2; rw [e, hLg] at this; cases this
    · cases q : h₀.get? p.1 with
      | none => rfl
      | some o => have := h5'.2.2; rw [hst _ _ q] at this; cases this
  · refine ⟨?_, (N2 p h).2⟩
    by_cases hb : p.1 ∈ led.map (·.1)
    · obtain ⟨q, hq, e⟩ := List.mem_map.mp hb
      have h1' := (N1 q hq).1
      rw [e, (N2 p h).1] at h1'
      have := (N5 q (hl q hq)).1
      rw [e] at this
      rw [this, ← Option.some.inj h1']
    · exact up _ _ (N2 p h).1 hb
section
variable {prog : Program} {w : World} {A : Around} {s : Shared} {K : Frag}
/-- a def entered; what is led may be read (and changed) within -/
theorem call_led {h₀ : Heap} {L : Addr} {m : Str → Option Value} {news : List (Addr × Obj)} {R : Result → Shared → Prop} {name qual : Str} {params : Arguments} {body : List Stmt} {scope : Scope} {dV kV doc pm cdv ct oc : Value} {an od : Option Addr} {osl : Array (Option Value)} {f : Addr} {args : Args} {binds : List (Str × Value)} (led : List (Addr × Obj))
    (F : Fr h₀ L s.heap m) (X : K.In h₀) (N : News h₀ L s.heap news) (hm : ∀ p ∈ led, p ∈ news) (ho : K.lookup f = some ⟨oc, od, .func (fnOf name qual params body scope dV kV doc pm an cdv ct), osl⟩) (hcd : codeIn K cdv qual = true) (hlim : h₀.NoLimit) (hroom : A.depth < recursionLimit)
    (hbind : BindsTo s (fnOf name qual params body scope dV kV doc pm an cdv ct) args binds) (hloc : ∀ y ∈ binds, scope.names.lookup y.1 = some .local)
    (h : ∀ g L' h₁, h₀.StaysIn g → Fr g L' h₁ (fun y => binds.reverse.lookup y) → News g L' h₁ led →
      (∀ {h5 : Heap} {m5 : Str → Option Value} {news5 : List (Addr × Obj)}, Fr g L' h5 m5 → News g L' h5 news5 → (∀ p ∈ led, p ∈ news5) → Fr h₀ L h5 m ∧ News h₀ L h5 (news5 ++ news)) →
      wpAny (model prog w) (A.deeper (envOf qual scope L' f cdv)) (execs body (envOf qual scope L' f cdv))
        (fun fl s' => R (.ok (.ret (match fl with | .ret v => v | _ => .none))) s') (fun _ _ => False)
        { s with heap := h₁, toks := s.toks + binds.length })
    (hco : scope.isCoroutine = false := by rfl) (hgen : scope.isGenerator = false := by rfl) (hk : scope.kind = .function := by rfl)
    (hcell : ∀ x ∈ scope.names, x.2 ≠ .cell := by decide) : codeAny (model prog w) A (.call (.ref f) args) R s := by
  have N1 : News h₀ L s.heap led := fun p hp => N p (hm p hp)
  refine codeAny_call_def (fd := fnOf name qual params body scope dV kV doc pm an cdv ct) (body := body) (binds := binds) hroom (X.keeps F.keep _ _ ho) rfl (hlim.keeps F.keep) (codeRec_of (X.keeps F.keep) hcd) rfl hbind hcell hloc (fun h₁ hns hk₁ => ?_) hco hgen hk
  refine wpAny_mono (h (hideAll s.heap (led.map (·.1))) s.heap.objs.size h₁ (hide_stays F N1) ⟨hns, fun b o e => hk₁ b o (of_hideAll _ e), Nat.le_of_eq (hideAll_size _ _)⟩ (fun p hp => ⟨hk₁ _ _ (N1 p hp).1, Nat.ne_of_lt (Heap.lt_size (N1 p hp).1), hideAll_none _ (List.mem_map_of_mem hp)⟩) fun F5 N5 hl => back_led F N hm F5 N5 hl) (fun _ _ x => x) fun _ _ x => x.elim
end
section
variable {prog : Program} {w : World} {A : Around} {s : Shared} {K : Frag}
/-- a def entered; the led objects may be changed within -/
theorem call_fnH {R : Result → Shared → Prop} {name qual : Str} {params : Arguments} {body : List Stmt} {scope : Scope} {dV kV doc pm cdv ct oc : Value} {an od : Option Addr} {osl : Array (Option Value)} {f : Addr} {args : Args} {binds : List (Str × Value)} (led : List (Addr × Obj))
    (hled : ∀ p ∈ led, s.heap.get? p.1 = some p.2) (X : K.In s.heap) (ho : K.lookup f = some ⟨oc, od, .func (fnOf name qual params body scope dV kV doc pm an cdv ct), osl⟩) (hcd : codeIn K cdv qual = true) (hlim : s.heap.NoLimit) (hroom : A.depth < recursionLimit)
    (hbind : BindsTo s (fnOf name qual params body scope dV kV doc pm an cdv ct) args binds) (hloc : ∀ y ∈ binds, scope.names.lookup y.1 = some .local)
    (h : ∀ h₁, Fr (hideAll s.heap (led.map (·.1))) s.heap.objs.size h₁ (fun y => binds.reverse.lookup y) → News (hideAll s.heap (led.map (·.1))) s.heap.objs.size h₁ led →
      wpAny (model prog w) (A.deeper (envOf qual scope s.heap.objs.size f cdv)) (execs body (envOf qual scope s.heap.objs.size f cdv))
        (fun fl s' => R (.ok (.ret (match fl with | .ret v => v | _ => .none))) s') (fun _ _ => False)
        { s with heap := h₁, toks := s.toks + binds.length })
    (hco : scope.isCoroutine = false := by rfl) (hgen : scope.isGenerator = false := by rfl) (hk : scope.kind = .function := by rfl)
    (hcell : ∀ x ∈ scope.names, x.2 ≠ .cell := by decide) : codeAny (model prog w) A (.call (.ref f) args) R s := by
  refine codeAny_call_def (fd := fnOf name qual params body scope dV kV doc pm an cdv ct) (body := body) (binds := binds) hroom (X _ _ ho) rfl hlim (codeRec_of X hcd) rfl hbind hcell hloc (fun h₁ hns hk₁ => ?_) hco hgen hk
  refine wpAny_mono (h h₁ ⟨hns, fun b o e => hk₁ b o (of_hideAll _ e), Nat.le_of_eq (hideAll_size _ _)⟩ fun p hp => ⟨hk₁ _ _ (hled p hp), Nat.ne_of_lt (Heap.lt_size (hled p hp)), hideAll_none _ (List.mem_map_of_mem hp)⟩) (fun _ _ x => x) fun _ _ x => x.elim
end
end Mine
-- WsPure
namespace Mine
/-- one sign of a Whitespace: the counts, the blanks since the last tab, the tabs -/
def wsBump (c : List Int) (b : Nat) : List Int := let c' := if c.length ≤ b then c ++ List.replicate (b - c.length + 1) 0 else c; c'.set b (c'.getD b 0 + 1)
def wsStep (z : List Int × Nat × Nat) (k : Nat) : List Int × Nat × Nat := if k = 32 then (z.1, z.2.1 + 1, z.2.2) else (wsBump z.1 z.2.1, 0, z.2.2 + 1)
def wsF (l : List Nat) : List Int × Nat × Nat := l.foldl wsStep ([], 0, 0)
theorem bump_grown {ns : List Int} {b : Nat} (h : ns.length ≤ b) :
    wsBump ns b = (ns ++ (List.replicate ((b : Int) - (ns.length : Nat) + 1).toNat [(0 : Int)]).flatten).set (b : Int).toNat ((ns ++ (List.replicate ((b : Int) - (ns.length : Nat) + 1).toNat [(0 : Int)]).flatten).getD (b : Int).toNat 0 + 1) := by
  have e1 : ((b : Int) - (ns.length : Nat) + 1).toNat = b - ns.length + 1 := by omega
  have e2 : ∀ k : Nat, (List.replicate k [(0 : Int)]).flatten = List.replicate k 0 := by
    intro k; induction k with
    | zero => rfl
    | succ k ih => rw [List.replicate_succ, List.flatten_cons, ih]; rfl
  unfold wsBump
  rw [e1, e2, if_pos h, Int.toNat_natCast]
theorem bump_in {ns : List Int} {b : Nat} (h : ¬ ns.length ≤ b) : wsBump ns b = ns.set (b : Int).toNat (ns.getD (b : Int).toNat 0 + 1) := by
  unfold wsBump; rw [if_neg h, Int.toNat_natCast]
theorem bump_len (ns : List Int) (b : Nat) : (wsBump ns b).length = max ns.length (b + 1) := by
  unfold wsBump
  by_cases h : ns.length ≤ b
  · rw [if_pos h]; simp; omega
  · rw [if_neg h]; simp; omega
theorem news_ne {h₀ h : Heap} {L a b : Addr} {o o' : Obj} {news : List (Addr × Obj)} (N : News h₀ L h news) (ha : (a, o) ∈ news) (hb : (b, o') ∈ news) (hc : o.cls ≠ o'.cls) : a ≠ b := fun e => by
  subst e
  have h1 := (N _ ha).1
  rw [(N _ hb).1] at h1
  exact hc (congrArg Obj.cls (Option.some.inj h1).symm)
theorem news_drop3 {h₀ h : Heap} {L : Addr} {a b c : Addr × Obj} {r : List (Addr × Obj)} (N : News h₀ L h (a :: b :: c :: r)) : News h₀ L h (a :: b :: r) := fun p hp => by
  rcases List.mem_cons.mp hp with rfl | hp
  · exact N _ (.head _)
  · rcases List.mem_cons.mp hp with rfl | hp
    · exact N _ (.tail _ (.head _))
    · exact N _ (.tail _ (.tail _ (.tail _ hp)))
theorem wsF_snoc (l : List Nat) (k : Nat) : wsF (l ++ [k]) = wsStep (wsF l) k := by unfold wsF; rw [List.foldl_append]; rfl
theorem bump_bound {c : List Int} {b : Nat} {n : Int} (hn : 0 ≤ n) (h : ∀ v ∈ c, 0 ≤ v ∧ v ≤ n) : ∀ v ∈ wsBump c b, 0 ≤ v ∧ v ≤ n + 1 := by
  have hg : ∀ c' : List Int, (∀ v ∈ c', 0 ≤ v ∧ v ≤ n) → ∀ v ∈ c'.set b (c'.getD b 0 + 1), 0 ≤ v ∧ v ≤ n + 1 := by
    intro c' h' v hv
    rcases List.mem_or_eq_of_mem_set hv with h1 | h1
    · have := h' v h1; omega
    · subst h1
      by_cases hb : b < c'.length
      · have := h' c'[b] (List.getElem_mem hb)
        have e : c'.getD b 0 = c'[b] := by simp [hb]
        rw [e]; omega
      · have e : c'.getD b 0 = 0 := by simp [hb]
        rw [e]; omega
  unfold wsBump
  split
  · refine hg _ fun v hv => ?_
    rcases List.mem_append.mp hv with h1 | h1
    · exact h v h1
    · rw [List.eq_of_mem_replicate h1]; omega
  · exact hg _ h
theorem wsF_bound : ∀ (n : Nat) (l : List Nat), l.length = n → (wsF l).1.length ≤ n ∧ (∀ v ∈ (wsF l).1, 0 ≤ v ∧ v ≤ (n : Int)) ∧ (wsF l).2.1 ≤ n ∧ (wsF l).2.2 ≤ n := by
  intro n
  induction n with
  | zero => intro l h; rw [List.length_eq_zero_iff.mp h]; exact ⟨Nat.le_refl _, (fun v hv => nomatch hv), Nat.le_refl _, Nat.le_refl _⟩
  | succ n ih =>
    intro l h
    have hne : l ≠ [] := by intro e; subst e; cases h
    rw [← List.dropLast_concat_getLast hne, wsF_snoc]
    obtain ⟨h1, h2, h3, h4⟩ := ih l.dropLast (by rw [List.length_dropLast]; omega)
    unfold wsStep
    split
    · exact ⟨by dsimp only; omega, fun v hv => by have := h2 v hv; omega, by dsimp only; omega, by dsimp only; omega⟩
    · refine ⟨by dsimp only; rw [bump_len]; omega, fun v hv => by have := bump_bound (by omega) h2 v hv; omega, by dsimp only; omega, by dsimp only; omega⟩
/-- il behind n steps -/
def ilF (ns : List Int) (ts : Nat) : Nat → Int
  | 0 => 0
  | n + 1 => ilF ns ts n + (((ts + n) / ts : Nat) : Int) * ns.getD (ts + n) 0
def indentF (l : List Nat) (ts : Nat) : Int := ((wsF l).2.1 : Nat) + (ts : Int) * (ilF (wsF l).1 ts ((wsF l).1.length - ts) + ((wsF l).2.2 : Nat))
/-- a Whitespace as the heap bears it -/
structure WsI where
  x : Str
  t : Tok
  y : Addr
  d : Addr
  D : Addr
  D' : Addr
  vs : List Value
  tb : Tok
  t1 : Tok
  t2 : Tok
  t3 : Tok
  t4 : Tok
  t5 : Tok
  tn : Tok
  tnt : Tok
abbrev wsDict (P : Params) (x : Str) (t : Tok) (n nt : Int) (simple : Bool) (D' : Addr) (t1 t2 t3 t4 t5 tn tnt : Tok) : List DictEntry :=
  [⟨PyData.keyHash P (Str.ofString "raw"), .str (Str.ofString "raw") t1, .str x t⟩, ⟨PyData.keyHash P (Str.ofString "n"), .str (Str.ofString "n") t2, .int n tn⟩, ⟨PyData.keyHash P (Str.ofString "nt"), .str (Str.ofString "nt") t3, .int nt tnt⟩,
   ⟨PyData.keyHash P (Str.ofString "norm"), .str (Str.ofString "norm") t4, .ref D'⟩, ⟨PyData.keyHash P (Str.ofString "is_simple"), .str (Str.ofString "is_simple") t5, .bool simple⟩]
abbrev tupOf (vs : List Value) : Obj := { cls := .type "tuple", data := .seq vs.toArray }
abbrev wsLed (C : Addr) (P : Params) (i : WsI) : List (Addr × Obj) :=
  [(i.D', tupOf [.ref i.D, .int ((wsF i.x.cps.toList).2.1 : Nat) i.tb]), (i.D, tupOf i.vs), (i.y, instObj C i.d), (i.d, dictOf (wsDict P i.x i.t (i.x.cps.size : Nat) ((wsF i.x.cps.toList).2.2 : Nat) (decide ((((wsF i.x.cps.toList).1.length : Nat) : Int) ≤ 1)) i.D' i.t1 i.t2 i.t3 i.t4 i.t5 i.tn i.tnt) 5)]
theorem ints_length {vs : List Value} {ns : List Int} (h : IntsAre vs ns) : vs.length = ns.length := h.length
section
variable {prog : Program} {w : World} {A : Around} {E : Value → Shared → Prop} {s : Shared} {h₀ : Heap} {L D : Addr} {news : List (Addr × Obj)} {vs : List Value} {ns : List Int}
theorem len_tupN {Q : Value → Shared → Prop} (N : News h₀ L s.heap news) (hm : (D, tupOf vs) ∈ news) (hi : IntsAre vs ns) (hl : ns.length ≤ 1000000) (h : ∀ t k, Q (.int (ns.length : Nat) t) { s with toks := k }) :
    wpAny (model prog w) A (call (.builtin "len") [.ref D]) Q E s := by
  have e := ints_length hi
  refine PyProof.Rows.len_tuple (items := vs.toArray) ⟨_, (N _ hm).1, rfl, _, rfl⟩ (by rw [List.size_toArray]; omega) ?_
  rw [List.size_toArray, e]; exact h _ _
theorem item_tupN {value slice : Expr} {Q : Value → Shared → Prop} {k : Int} {u : Tok} (N : News h₀ L s.heap news) (hm : (D, tupOf vs) ∈ news) (hi : IntsAre vs ns) (hl : ns.length ≤ 1000000) (h0 : 0 ≤ k) (hk : k < ns.length) (h : ∀ t, Q (.int (ns.getD k.toNat 0) t) s)
    (hs : subscripted slice false (.ref D) (.int k u) = operate [.ref D, .int k u] (getItem (.ref D) (.int k u)) := by with_unfolding_all rfl) :
    wpAny (model prog w) A (subscriptTail value slice (.ref D) (.int k u)) Q E s := by
  have e := ints_length hi
  have hlt : k.toNat < ns.length := by omega
  obtain ⟨t, ht⟩ := hi.get k.toNat (ns.getD k.toNat 0) (by simp [hlt])
  refine item_tupleT (l := vs) ⟨_, (N _ hm).1, rfl, _, rfl⟩ (by omega) (by omega) (j := k.toNat) ?_ ht (h t) hs
  unfold seqIndex?
  rw [e]
  simp only [show ¬ k < 0 by omega, if_false]
  simp; omega
end
end Mine
-- C01a
set_option maxHeartbeats 4000000
namespace Mine
local macro_rules | `(tactic| walk_at "MY:w") => `(tactic| repeat' (first | (k_unfold; (try dsimp only)) | (k_end; fail) | ((fail_if_success (with_reducible show wpAny _ _ (exec (Stmt.While _ _ _ _) _) _ _ _)); (fail_if_success (with_reducible show wpAny _ _ (pyIter _) _ _ _)); (first | walk1 | (dsimp only; walk1)))))
theorem int2ap_1 {w : World} {dp : Nat} {fr : Option (List Env)} {gd : Option (List Code)} {un : Nat} {s : Shared} {mg mb : Str → Option Value} {p : Program} {loose : List Str} {mean : ExcName → Option Value} {n : Int} {t : Tok} {R : Result → Shared → Prop}
    (X : (hd01.heap_39 w.params).In s.heap) (T : Top p loose mean mg mb s.heap) (hroom : dp < recursionLimit) (hn : n ≤ 0) (hlo : -(16 ^ 8) < n)
    (h : ∀ t' h' tk', s.heap.StaysIn h' → R (.ok (.ret (.bytes (apF 8 (-n).toNat []).toArray t'))) { s with heap := h', toks := tk' }) :
    codeAny (model prog1 w) { handled := none, depth := dp, frames := fr, guards := gd, units := un } (.call (.ref 111) ⟨[.int n t], []⟩) R s := by
  refine call_fn (binds := [(Str.ofString "num", .int n t)]) X rfl rfl T.nolimit hroom (BindsTo.of_eq rfl) (locs rfl) ?_
  intro h₁ F N
  walk_at "MY:w"
  rename Fr _ _ _ _ => F'
  rename News _ _ _ _ => N'
  have hne : (if n < 0 then -n else n) = -n := by split <;> omega
  rw [hne] at F'
  refine' ksw_while (σ := Int × Tok × Array UInt8 × Tok) (fun _ => []) (fun c => [(Str.ofString "num", .int c.1 c.2.1), (Str.ofString "val", .bytes c.2.2.1 c.2.2.2)]) (fun _ => True) [Str.ofString "mod"]
    (fun c => 0 ≤ c.1 ∧ ∃ f, c.1.toNat < 16 ^ f ∧ apF f c.1.toNat c.2.2.1.toList = apF 8 (-n).toNat [] ∧ c.2.2.1.size + f = 8) (fun c => c.1.toNat) (-n, _, #[], _) F' N' trivial (List.forall_mem_cons.mpr ⟨rfl, List.forall_mem_cons.mpr ⟨rfl, List.forall_mem_nil _⟩⟩) ?_ ?_
  · dsimp only; exact ⟨by omega, 8, by omega, rfl, rfl⟩
  · clear F' N'
    rintro ⟨num, t1, val, t2⟩ u h2 tk2 - ⟨hP1, f, hP2, hP3, hP4⟩ F2 N2
    dsimp only [kstB, List.contains_cons] at F2 hP1 hP2 hP3 hP4
    walk_at "MY:w"
    · rename ¬ _ => hnum
      rename Fr _ _ _ _ => F'
      rename News _ _ _ _ => N'
      refine KBc.slice_K (s := ⟨_, _, _, _, _⟩) F' N' rfl (by constructor) (by constructor) (by decide) ?_
      clear F' N'
      intro h3 t3 k3 F3 N3 hk3
      obtain ⟨f', q1, q2, q3⟩ := ap_turn hP1 hnum hP2 hP3 hP4
      dsimp only
      generalize KBy.picked #[65, 66, 67, 68, 69, 70, 71, 72, 73, 74, 75, 76, 77, 78, 79, 80] (some (num.fmod 16)) (some (num.fmod 16 + 1)) = cut at *
      walk_at "MY:w"
      have hcs : cut.size + val.size ≤ 16777216 := by rw [Array.size_append] at q3; omega
      refine KBy.add_bytes hcs ?_
      intro t4 k4
      walk_at "MY:w"
      rename Fr _ _ _ _ => F4
      rename News _ _ _ _ => N4
      refine ksw_end (num.fdiv 16, _, cut ++ val, _) F4 N4 (fun _ h => nomatch h) trivial (List.forall_mem_cons.mpr ⟨rfl, List.forall_mem_cons.mpr ⟨rfl, List.forall_mem_nil _⟩⟩) (by ksw_same) ⟨?_, f', q1, q2, q3⟩ ?_
      · rw [Int.fdiv_eq_ediv_of_nonneg _ (by omega)]; omega
      · dsimp only; rw [Int.fdiv_eq_ediv_of_nonneg _ (by omega)]; omega
    · subst_vars
      have e : val = (apF 8 (-n).toNat []).toArray := by rw [← hP3]; simp [apF_zero]
      rw [e]
      exact h _ _ _ F2.keep
end Mine
-- C01b
set_option maxHeartbeats 4000000
namespace Mine
theorem PatAt.sub {M : Model} {A : Around} {E : Value → Shared → Prop} {s : Shared} {a : Addr} {code : Array Nat} {pl : Sem Bool} {Q : Value × List Value → Shared → Prop} (P : PatAt s.heap a code) (h : Q (.builtin "re.Pattern.sub", [.ref a]) s) :
    wpAny M A (getMethod (.ref a) (Str.ofString "sub") pl) Q E s := by
  obtain ⟨o, ot, p, f, u, v, tup, items, n, h1, h2, h3, _⟩ := P
  exact getMethod_builtin (T := "re.Pattern") ⟨o, h1, h2⟩ rp_plain rp_slot rp_type (fun b e => by cases e; exact ⟨o, h1, h3⟩) h
local macro_rules | `(tactic| walk_at "getMethod ref") => `(tactic| (refine PatAt.sub (by assumption) ?_))
local macro_rules | `(tactic| walk_at "MY:w") => `(tactic| repeat' (first | (k_unfold; (try dsimp only)) | (k_end; fail) | (
  (fail_if_success (with_reducible show wpAny _ _ (exec (Stmt.While _ _ _ _) _) _ _ _));
  (fail_if_success (with_reducible show wpAny _ _ (pyIter _) _ _ _));
  (fail_if_success (with_reducible show wpAny _ _ (call (Value.ref _) _) _ _ _));
  (fail_if_success (with_reducible show wpAny _ _ (call (Value.builtin "re.Pattern.sub") _) _ _ _));
  (first | walk1 | (dsimp only; walk1)))))
theorem eolF_len : ∀ (b : Bool) (l : List Nat), (eolF b l).length ≤ 2 * l.length
  | _, [] => Nat.le_refl _
  | b, c :: r => by
    rw [eolF]
    have h1 := eolF_len true r
    have h2 := eolF_len false r
    split
    · split <;> simp <;> omega
    · split <;> simp <;> omega
theorem pat1_1 {w : World} {h : Heap} (X : (hd01.heap_39 w.params).In h) : PatAt h 116 code1 :=
  ⟨_, _, _, _, _, _, 115, _, _, X 116 _ rfl, rfl, rfl, rfl, X 115 _ rfl, rfl, rfl, by decide +kernel⟩
theorem pat2_1 {w : World} {h : Heap} (X : (hd01.heap_39 w.params).In h) : PatAt h 121 code2 :=
  ⟨_, _, _, _, _, _, 120, _, _, X 121 _ rfl, rfl, rfl, rfl, X 120 _ rfl, rfl, rfl, by decide +kernel⟩
theorem eols_1 {w : World} {dp : Nat} {fr : Option (List Env)} {gd : Option (List Code)} {un : Nat} {s : Shared} {mg mb : Str → Option Value} {p : Program} {loose : List Str} {mean : ExcName → Option Value} {x : Str} {t : Tok} {R : Result → Shared → Prop}
    (X : (hd01.heap_39 w.params).In s.heap) (T : Top p loose mean mg mb s.heap) (hroom : dp < recursionLimit) (hx : x.cps.size ≤ 10000)
    (h : ∀ t' h' tk', s.heap.StaysIn h' → R (.ok (.ret (.str ⟨(eolF false x.cps.toList).toArray⟩ t'))) { s with heap := h', toks := tk' }) :
    codeAny (model prog1 w) { handled := none, depth := dp, frames := fr, guards := gd, units := un } (.call (.ref 135) ⟨[.str x t], []⟩) R s := by
  refine call_fn (binds := [(Str.ofString "data", .str x t)]) X rfl rfl T.nolimit hroom (BindsTo.of_eq rfl) (locs rfl) ?_
  intro h₁ F N
  have P1 := pat1_1 (X.keeps F.keep)
  have P2 := pat2_1 (X.keeps F.keep)
  walk_at "MY:w"
  refine sub_eol hx P2 ?_
  intro t' h' tk' hs
  exact h _ _ _ fun b o e => hs b o (F.keep b o e)
theorem quote_1 {w : World} {dp : Nat} {fr : Option (List Env)} {gd : Option (List Code)} {un : Nat} {s : Shared} {mg mb : Str → Option Value} {p : Program} {loose : List Str} {mean : ExcName → Option Value} {x : Str} {t : Tok} {R : Result → Shared → Prop}
    (X : (hd01.heap_39 w.params).In s.heap) (T : Top p loose mean mg mb s.heap) (hroom : dp < recursionLimit) (hx : x.cps.size ≤ 5000)
    (h : ∀ t' h' tk', s.heap.StaysIn h' → R (.ok (.ret (.str ⟨(dotF true (eolF false x.cps.toList)).toArray⟩ t'))) { s with heap := h', toks := tk' }) :
    codeAny (model prog1 w) { handled := none, depth := dp, frames := fr, guards := gd, units := un } (.call (.ref 128) ⟨[.str x t], []⟩) R s := by
  refine call_fn (binds := [(Str.ofString "data", .str x t)]) X rfl rfl T.nolimit hroom (BindsTo.of_eq rfl) (locs rfl) ?_
  intro h₁ F N
  have P1 := pat1_1 (X.keeps F.keep)
  have P2 := pat2_1 (X.keeps F.keep)
  walk_at "MY:w"
  refine sub_eol (by omega) P2 ?_
  intro t' h' tk' hs
  walk_at "MY:w"
  refine sub_dot ?_ (P1.keeps hs) ?_
  · show (eolF false x.cps.toList).toArray.size ≤ _
    have := eolF_len false x.cps.toList
    simp at this ⊢; omega
  intro t2 h2 tk2 hs2
  refine h _ _ _ fun b o e => hs2 b o (hs b o (F.keep b o e))
end Mine
-- C01c
set_option maxHeartbeats 4000000
namespace Mine
local macro_rules | `(tactic| walk_at "MY:w") => `(tactic| repeat' (first | (k_unfold; (try dsimp only)) | (k_end; fail) | (
  (fail_if_success (with_reducible show wpAny _ _ (exec (Stmt.While _ _ _ _) _) _ _ _));
  (fail_if_success (with_reducible show wpAny _ _ (pyIter _) _ _ _));
  (fail_if_success (with_reducible show wpAny _ _ (call (Value.ref _) _) _ _ _));
  (fail_if_success (with_reducible show wpAny _ _ (call (Value.builtin "re.Pattern.sub") _) _ _ _));
  (first | walk1 | (dsimp only; walk1)))))
local macro_rules | `(tactic| walk_at "MY:same") => `(tactic| (intro z hz h2 h3; (simp only [List.forall_mem_cons, List.not_mem_nil, false_implies, implies_true, and_true, ne_eq] at h2); (simp only [List.contains_cons, List.contains_nil, Bool.or_false, Bool.or_eq_false_iff, beq_eq_false_iff_ne, ne_eq] at h3); (simp [hz, h2, h3])))
structure WsSt where
  b : Nat
  n : Int
  nt : Nat
  tb : Tok
  tn : Tok
  tnt : Tok
  ns : List Int
  vs : List Value
  c : Addr
  k : Nat
theorem stays_hide {h₀ h1 : Heap} {L : Addr} {m : Str → Option Value} {led : List (Addr × Obj)} (F1 : Fr h₀ L h1 m) (N1 : News h₀ L h1 led) : h₀.StaysIn (hideAll h1 (led.map (·.1))) := fun b o e =>
  hideAll_get _ (F1.keep b o e) fun hm => by
    obtain ⟨p, hp, rfl⟩ := List.mem_map.mp hm
    rw [(N1 p hp).2.2] at e; cases e
/-- back in the caller's frame -/
theorem back {h₀ h1 h5 : Heap} {L L' : Addr} {m m5 : Str → Option Value} {led news news5 : List (Addr × Obj)} (F1 : Fr h₀ L h1 m) (N1 : News h₀ L h1 led) (N2 : News h₀ L h1 news) (hoff : ∀ p ∈ news, p.1 ∉ led.map (·.1))
    (F5 : Fr (hideAll h1 (led.map (·.1))) L' h5 m5) (N5 : News (hideAll h1 (led.map (·.1))) L' h5 news5) : Fr h₀ L h5 m ∧ News h₀ L h5 (news5 ++ news) := by
  have hst := stays_hide F1 N1
  have up : ∀ b o, h1.get? b = some o → b ∉ led.map (·.1) → h5.get? b = some o := fun b o e hb => F5.keep b o (hideAll_get _ e hb)
  obtain ⟨oL, es, ep, hL, r⟩ := F1.ns
  have hLn : L ∉ led.map (·.1) := fun hm => by
    obtain ⟨p, hp, e⟩ := List.mem_map.mp hm
    exact (N1 p hp).2.1 e
  have hLg := hideAll_get (led.map (·.1)) hL hLn
  refine ⟨⟨⟨oL, es, ep, up _ _ hL hLn, r⟩, fun b o e => F5.keep b o (hst b o e), F1.above⟩, fun p hp => ?_⟩
  rcases List.mem_append.mp hp with h | h
  · have h5' := N5 p h
    refine ⟨h5'.1, fun e => ?_, ?_⟩
    · have := h5'.2.2; rw [e, hLg] at this; cases this
    · cases q : h₀.get? p.1 with
      | none => rfl
      | some o => have := h5'.2.2; rw [hst _ _ q] at this; cases this
  · exact ⟨up _ _ (N2 p h).1 (hoff p h), (N2 p h).2⟩
theorem ws_fin {C : Addr} {P : Params} {s : Shared} {h₀ h6 : Heap} {tk6 : Nat} {L : Addr} {m : Str → Option Value} {news : List (Addr × Obj)} {x : Str} {t : Tok} {Q : Value → Shared → Prop}
    (h : ∀ (i : WsI) h' tk', i.x = x → IntsAre i.vs (wsF i.x.cps.toList).1 → Fr h₀ L h' m → News h₀ L h' (wsLed C P i ++ news) → Q (.ref i.y) { s with heap := h', toks := tk' })
    {y d D D' : Addr} {vs : List Value} {ns : List Int} {b nt : Nat} {tb t1 t2 t3 t4 t5 tn tnt : Tok} (hz : wsF x.cps.toList = (ns, b, nt)) (hi : IntsAre vs ns) (F : Fr h₀ L h6 m)
    (N : News h₀ L h6 ((D', tupOf [.ref D, .int (b : Nat) tb]) :: (D, tupOf vs) :: (y, instObj C d) :: (d, dictOf (wsDict P x t (x.cps.size : Nat) (nt : Nat) (decide (((ns.length : Nat) : Int) ≤ 1)) D' t1 t2 t3 t4 t5 tn tnt) 5) :: news)) :
    Q (.ref y) { s with heap := h6, toks := tk6 } := by
  refine h ⟨x, t, y, d, D, D', vs, tb, t1, t2, t3, t4, t5, tn, tnt⟩ h6 tk6 rfl ?_ F ?_
  · dsimp only; rw [hz]; exact hi
  · dsimp only [wsLed]; rw [hz]; exact N
theorem ws_1 {w : World} {dp : Nat} {fr : Option (List Env)} {gd : Option (List Code)} {un : Nat} {s : Shared} {mg mb : Str → Option Value} {p : Program} {loose : List Str} {mean : ExcName → Option Value} {h₀ : Heap} {L : Addr} {m : Str → Option Value} {news : List (Addr × Obj)} {x : Str} {t : Tok} {Q E : Value → Shared → Prop}
    (F : Fr h₀ L s.heap m) (X : (hd01.heap_39 w.params).In h₀) (T : Top p loose mean mg mb h₀) (N : News h₀ L s.heap news) (hroom : dp + 2 < recursionLimit) (hx : x.cps.all (fun c => c == 32 || c == 9) = true) (hx2 : x.cps.size ≤ 10000)
    (h : ∀ (i : WsI) h' tk', i.x = x → IntsAre i.vs (wsF i.x.cps.toList).1 → Fr h₀ L h' m → News h₀ L h' (wsLed 100 w.params i ++ news) → Q (.ref i.y) { s with heap := h', toks := tk' }) :
    wpAny (model prog1 w) { handled := none, depth := dp, frames := fr, guards := gd, units := un } (call (.ref 100) [.str x t]) Q E s := by
  refine call_cls F X N (by k_is) (by k_is) (by k_is) ?_
  intro y d h1 F1 N1 l1 l2
  clear F N
  refine call_fnH (binds := [(Str.ofString "self", .ref y), (Str.ofString "ws", .str x t)]) [(y, instObj 100 d), (d, dictOf [] 0)] ?_ (X.keeps F1.keep) rfl rfl (T.nolimit.keeps F1.keep) ?_ (BindsTo.of_eq rfl) (locs rfl) ?_
  · exact List.forall_mem_cons.mpr ⟨(N1 _ (.head _)).1, List.forall_mem_cons.mpr ⟨(N1 _ (.tail _ (.head _))).1, List.forall_mem_nil _⟩⟩
  · simp only [depth_under_make]; omega
  intro h2 F2 N2
  have NL : News h₀ L h1 [(y, instObj 100 d), (d, dictOf [] 0)] := kst_newsOf N1 (List.forall_mem_cons.mpr ⟨.head _, List.forall_mem_cons.mpr ⟨.tail _ (.head _), List.forall_mem_nil _⟩⟩)
  have hst : h₀.StaysIn (hideAll h1 (List.map (fun x => x.fst) [(y, instObj 100 d), (d, dictOf [] 0)])) := stays_hide F1 NL
  have hback : ∀ {h5 : Heap} {L' : Addr} {m5 : Str → Option Value} {news5 : List (Addr × Obj)}, Fr (hideAll h1 (List.map (fun x => x.fst) [(y, instObj 100 d), (d, dictOf [] 0)])) L' h5 m5 → News (hideAll h1 (List.map (fun x => x.fst) [(y, instObj 100 d), (d, dictOf [] 0)])) L' h5 news5 → Fr h₀ L h5 m ∧ News h₀ L h5 (news5 ++ news) :=
    fun F5 N5 => back F1 NL (fun p hp => N1 p (.tail _ (.tail _ hp))) (fun p hp hm => by
      have h1 := l1 p hp
      rcases List.mem_cons.mp hm with e | hm
      · rw [e] at h1; exact absurd (Nat.lt_trans l2 h1) (Nat.lt_irrefl _)
      · rw [List.mem_singleton.mp hm] at h1; exact absurd h1 (Nat.lt_irrefl _)) F5 N5
  clear NL
  dsimp only at F2 N2
  have X2 := X.keeps hst
  have T2 := T.keeps hst
  generalize hideAll h1 _ = g at *
  replace l2 := ltN l2
  clear X T
  walk_at "MY:w"
  rename Fr _ _ _ _ => F3
  rename News _ _ _ _ => N3
  rename _ ∧ _ ∧ _ => l3
  refine' loop_text (σ := WsSt) (fun c => [(c.c, PySem.W.listOf c.vs.toArray c.k), (y, instObj 100 d), (d, dictOf [⟨PyData.keyHash w.params (Str.ofString "raw"), .str (Str.ofString "raw") (s.toks + 2 + 1), .str x t⟩] 1)])
    (fun c => [(Str.ofString "b", .int c.b c.tb), (Str.ofString "n", .int c.n c.tn), (Str.ofString "nt", .int c.nt c.tnt), (Str.ofString "count", .ref c.c)]) []
    (fun i c => IntsAre c.vs c.ns ∧ wsF (x.cps.toList.take i) = (c.ns, c.b, c.nt) ∧ c.n = i ∧ y < c.c ∧ d < c.c ∧ c.ns.length ≤ i ∧ c.b ≤ i) ⟨0, 0, 0, _, _, _, [], [], _, 0⟩ ?ha rfl F3 (kst_newsOf N3 (List.forall_mem_cons.mpr ⟨.head _, List.forall_mem_cons.mpr ⟨.tail _ (.tail _ (.head _)), List.forall_mem_cons.mpr ⟨.tail _ (.tail _ (.tail _ (.head _))), List.forall_mem_nil _⟩⟩⟩))
    (List.forall_mem_cons.mpr ⟨rfl, List.forall_mem_cons.mpr ⟨rfl, List.forall_mem_cons.mpr ⟨rfl, List.forall_mem_cons.mpr ⟨rfl, List.forall_mem_nil _⟩⟩⟩⟩) ⟨.nil, rfl, rfl, l3.2.1, l3.2.2, Nat.le_refl _, Nat.le_refl _⟩ ?_ ?_
  case ha =>
    rw [Array.all_eq_true] at hx ⊢
    intro i hi
    have := hx i hi
    simp only [Bool.or_eq_true, beq_iff_eq] at this
    simp only [decide_eq_true_eq]; omega
  · rintro i k tk ⟨b, n, nt, tb, tn, tnt, ns, vs, c, e⟩ u h4 tk4 own hk ⟨hi1, hi2, hi3, hi4, hi5, hi6, hi7⟩ hsep F4 N4
    have hil : i < x.cps.size := by
      obtain ⟨h, _⟩ := Array.getElem?_eq_some_iff.mp hk; exact h
    have hk' : k = 32 ∨ k = 9 := by
      obtain ⟨h, e⟩ := Array.getElem?_eq_some_iff.mp hk
      rw [Array.all_eq_true] at hx
      have := hx i h
      rw [e] at this
      simpa using this
    have hF : wsF (x.cps.toList.take (i + 1)) = wsStep (ns, b, nt) k := by
      unfold wsF at hi2 ⊢
      rw [List.take_add_one, Array.getElem?_toList, hk, List.foldl_append, hi2]; rfl
    clear F3 N3
    dsimp only [kstB, List.contains_nil, List.cons_append, List.nil_append, List.map] at F4 N4 hi1 hi2 hi3 hi4 hi5 hi6 hi7 hsep
    replace hi4 := ltN hi4
    replace hi5 := ltN hi5
    rcases hk' with rfl | rfl
    · walk_at "MY:w"
      rename Fr _ _ _ _ => F5
      rename News _ _ _ _ => N5
      refine lend ⟨b + 1, n + 1, nt, _, _, tnt, ns, vs, c, e⟩ F5 N5 ?_ ?_ hsep (List.forall_mem_cons.mpr ⟨rfl, List.forall_mem_cons.mpr ⟨rfl, List.forall_mem_cons.mpr ⟨rfl, List.forall_mem_cons.mpr ⟨rfl, List.forall_mem_nil _⟩⟩⟩⟩) (by walk_at "MY:same") ⟨hi1, ?_, ?_, hi4, hi5, ?_, ?_⟩
      · exact List.forall_mem_cons.mpr ⟨.head _, List.forall_mem_cons.mpr ⟨.tail _ (.head _), List.forall_mem_cons.mpr ⟨.tail _ (.tail _ (.head _)), List.forall_mem_nil _⟩⟩⟩
      · intro p hp; exact .tail _ (.tail _ (.tail _ hp))
      · rw [hF]; rfl
      · dsimp only; omega
      · dsimp only; omega
      · dsimp only; omega
    · walk_at "MY:w"
      · rename Fr _ _ _ _ => F5
        rename News _ _ _ _ => N5
        rename (_ : Int) ≤ _ => hle
        rename _ ∧ _ ∧ _ ∧ _ ∧ _ ∧ AllLt _ own => lD
        rename IntsAre (List.set _ _ _) _ => hI
        refine lend ⟨0, n + 1, nt + 1, _, _, _, _, _, _, _⟩ F5 N5 (List.forall_mem_cons.mpr ⟨.head _, List.forall_mem_cons.mpr ⟨by k_mem, List.forall_mem_cons.mpr ⟨by k_mem, List.forall_mem_nil _⟩⟩⟩) ?_ ?_ (List.forall_mem_cons.mpr ⟨rfl, List.forall_mem_cons.mpr ⟨rfl, List.forall_mem_cons.mpr ⟨rfl, List.forall_mem_cons.mpr ⟨rfl, List.forall_mem_nil _⟩⟩⟩⟩) (by walk_at "MY:same") ⟨hI, ?_, ?_, ?_, ?_, ?_, ?_⟩
        · intro p hp; exact .tail _ (.tail _ (.tail _ (.tail _ (.tail _ (.tail _ hp)))))
        · exact ownOff_cons (ownOff_lt lD.2.2.2.2.2) (ownOff_tail hsep)
        · rw [hF, wsStep, if_neg (by decide), bump_grown (show ns.length ≤ b by omega)]
        · dsimp only; omega
        · exact lD.2.2.2.1
        · exact lD.2.2.2.2.1
        · dsimp only; rw [← bump_grown (by omega)]; have := bump_len ns b; omega
        · dsimp only; omega
      · rename Fr _ _ _ _ => F5
        rename News _ _ _ _ => N5
        rename ¬ _ => hle
        rename IntsAre (List.set _ _ _) _ => hI
        refine lend ⟨0, n + 1, nt + 1, _, _, _, _, _, _, _⟩ F5 N5 (List.forall_mem_cons.mpr ⟨.head _, List.forall_mem_cons.mpr ⟨by k_mem, List.forall_mem_cons.mpr ⟨by k_mem, List.forall_mem_nil _⟩⟩⟩) ?_ hsep (List.forall_mem_cons.mpr ⟨rfl, List.forall_mem_cons.mpr ⟨rfl, List.forall_mem_cons.mpr ⟨rfl, List.forall_mem_cons.mpr ⟨rfl, List.forall_mem_nil _⟩⟩⟩⟩) (by walk_at "MY:same") ⟨hI, ?_, ?_, hi4, hi5, ?_, ?_⟩
        · intro p hp; exact .tail _ (.tail _ (.tail _ hp))
        · rw [hF, wsStep, if_neg (by decide), bump_in (show ¬ ns.length ≤ b by omega)]
        · dsimp only; omega
        · dsimp only; rw [← bump_in (by omega)]; have := bump_len ns b; omega
        · dsimp only; omega
  · rintro ⟨b, n, nt, tb, tn, tnt, ns, vs, c, e⟩ u h4 tk4 ⟨hi1, hi2, hi3, hi4, hi5, hi6, hi7⟩ F4 N4
    clear F3 N3
    dsimp only [kstB, List.contains_nil, List.cons_append, List.nil_append, List.map] at F4 N4 hi1 hi2 hi3 hi4 hi5 hi6 hi7
    replace hi4 := ltN hi4
    replace hi5 := ltN hi5
    walk_at "MY:w"
    rename Fr _ _ _ _ => F5
    rename News _ _ _ _ => N5
    have ne1 := neN (news_ne N5 (.tail _ (.head _)) (.tail _ (.tail _ (.tail _ (.head _)))) (by intro e; cases e))
    have ne2 := neN (news_ne N5 (.tail _ (.head _)) (.tail _ (.tail _ (.tail _ (.tail _ (.head _))))) (show Value.type "tuple" ≠ Value.type "dict" by decide))
    walk_at "MY:w"
    rename Fr _ _ _ _ => F5
    rename News _ _ _ _ => N5
    obtain ⟨F6, N6⟩ := hback F5 N5
    have hz : wsF x.cps.toList = (ns, b, nt) := by rw [← hi2, List.take_of_length_le (by simp)]
    subst hi3
    refine ⟨rfl, ?_⟩
    simp only [List.cons_append, List.nil_append] at N6
    have N7 := news_drop3 N6
    exact ws_fin h hz hi1 F6 N7
end Mine
-- C01d
set_option maxHeartbeats 4000000
namespace Mine
local macro_rules | `(tactic| walk_at "MY:w") => `(tactic| repeat' (first | (k_unfold; (try dsimp only)) | (k_end; fail) | (
  (fail_if_success (with_reducible show wpAny _ _ (exec (Stmt.While _ _ _ _) _) _ _ _));
  (fail_if_success (with_reducible show wpAny _ _ (pyIter _) _ _ _));
  (fail_if_success (with_reducible show wpAny _ _ (call (Value.ref _) _) _ _ _));
  (fail_if_success (with_reducible show wpAny _ _ (call (Value.builtin "re.Pattern.sub") _) _ _ _));
  (first | walk1 | (dsimp only; walk1)))))
local macro_rules | `(tactic| walk_at "MY:same") => `(tactic| (intro z hz h2 h3; (simp only [List.forall_mem_cons, List.not_mem_nil, false_implies, implies_true, and_true, ne_eq] at h2); (simp only [List.contains_cons, List.contains_nil, Bool.or_false, Bool.or_eq_false_iff, beq_eq_false_iff_ne, ne_eq] at h3); (simp [hz, h2, h3])))
theorem indent_1 {w : World} {dp : Nat} {fr : Option (List Env)} {gd : Option (List Code)} {un : Nat} {s : Shared} {mg mb : Str → Option Value} {p : Program} {loose : List Str} {mean : ExcName → Option Value} {h₀ : Heap} {L : Addr} {m : Str → Option Value} {news : List (Addr × Obj)} {i : WsI} {ts : Nat} {tt : Tok} {Q E : Value → Shared → Prop}
    (F : Fr h₀ L s.heap m) (X : (hd01.heap_39 w.params).In h₀) (T : Top p loose mean mg mb h₀) (N : News h₀ L s.heap news) (hm : ∀ p ∈ wsLed 100 w.params i, p ∈ news) (hi : IntsAre i.vs (wsF i.x.cps.toList).1) (hroom : dp < recursionLimit) (hx2 : i.x.cps.size ≤ 10000) (h1 : 1 ≤ ts) (h2 : ts ≤ 100)
    (h : ∀ t' h' tk', Fr h₀ L h' m → News h₀ L h' news → Q (.int (indentF i.x.cps.toList ts) t') { s with heap := h', toks := tk' }) :
    wpAny (model prog1 w) { handled := none, depth := dp, frames := fr, guards := gd, units := un } (call (.ref 69) [.ref i.y, .int (ts : Nat) tt]) Q E s := by
  refine wpAny_call (call_led (binds := [(Str.ofString "self", .ref i.y), (Str.ofString "tabsize", .int (ts : Nat) tt)]) _ F X N hm rfl rfl T.nolimit hroom (BindsTo.of_eq rfl) (locs rfl) ?_)
  intro g L' h3 hst F3 N3 hback
  have X2 := X.keeps hst
  have T2 := T.keeps hst
  obtain ⟨hb1, hb2, hb3, hb4⟩ := wsF_bound _ _ (rfl : i.x.cps.toList.length = _)
  rw [Array.length_toList] at hb1 hb2 hb3 hb4
  clear X T F N
  obtain ⟨x, t, y, d, D, D', vs, tb, t1, t2, t3, t4, t5, tn, tnt⟩ := i
  dsimp only at F3 hi hx2 h hm hb1 hb2 hb3 hb4
  dsimp only [wsLed] at N3
  walk_at "MY:w"
  rename News _ _ _ _ => N4
  refine len_tupN N4 (.tail _ (.head _)) hi (by omega) ?_
  intro t6 k6
  walk_at "MY:w"
  rename IsRange _ _ _ _ _ _ _ _ => hr
  rename Fr _ _ _ _ => F4
  rename News _ _ _ _ => N4
  generalize hz1 : (wsF x.cps.toList).1 = ns at *
  generalize hz2 : (wsF x.cps.toList).2.1 = tr at *
  generalize hz3 : (wsF x.cps.toList).2.2 = nt at *
  refine' loop_range (σ := Int × Tok) (n := ns.length - ts) (fun _ => [(D', tupOf [.ref D, .int (tr : Nat) tb]), (D, tupOf vs), (y, instObj 100 d), (d, dictOf (wsDict w.params x t (x.cps.size : Nat) (nt : Nat) (decide ((((ns.length : Nat) : Int) ≤ 1))) D' t1 t2 t3 t4 t5 tn tnt) 5)])
    (fun c => [(Str.ofString "il", .int c.1 c.2)]) [] (fun k c => c.1 = ilF ns ts k) (0, _) rfl hr ⟨by omega, by omega⟩ ⟨by omega, by omega⟩ (by omega) F4 N4 (List.forall_mem_cons.mpr ⟨rfl, List.forall_mem_nil _⟩) rfl ?_ ?_
  · rintro k tk ⟨il, til⟩ u h5 tk5 own hk hI hsep F5 N5
    clear F4 N4
    dsimp only [kstB, List.contains_nil, List.cons_append, List.nil_append, List.map] at F5 N5 hI hsep
    have hlt : ts + k < ns.length := by omega
    walk_at "MY:w"
    have hq : ((ts : Int) + (k : Int)).fdiv (ts : Int) = (((ts + k) / ts : Nat) : Int) := by
      rw [Int.fdiv_eq_ediv_of_nonneg _ (by omega)]; push_cast; rfl
    have hq2 : (ts + k) / ts ≤ ts + k := Nat.div_le_self _ _
    have hq3 : ((ts : Int) + (k : Int)).toNat = ts + k := by omega
    have hb : ∀ qq : Nat, qq ≤ ts + k → -(2 ^ 64) < (qq : Int) ∧ (qq : Int) < 2 ^ 64 := fun qq h => ⟨by omega, by omega⟩
    rw [hq, hq3]
    refine mul_int ?_ (PySem.IntMulOk.of_left (PySem.intBits_le_64 (hb _ hq2).1 (hb _ hq2).2))
    walk_at "MY:w"
    rename Fr _ _ _ _ => F6
    rename News _ _ _ _ => N6
    refine lend (_, _) F6 N6 (List.forall_mem_cons.mpr ⟨.head _, List.forall_mem_cons.mpr ⟨by k_mem, List.forall_mem_cons.mpr ⟨by k_mem, List.forall_mem_cons.mpr ⟨by k_mem, List.forall_mem_nil _⟩⟩⟩⟩) (fun p hp => .tail _ (.tail _ (.tail _ (.tail _ hp)))) hsep (List.forall_mem_cons.mpr ⟨rfl, List.forall_mem_nil _⟩) (by walk_at "MY:same") ?_
    rw [hI]; rfl
  · rintro ⟨il, til⟩ u h5 tk5 hI F5 N5
    clear F4 N4
    dsimp only [kstB, List.contains_nil] at F5 N5 hI
    walk_at "MY:w"
    obtain ⟨F6, N6⟩ := hback F5 N5 (fun p hp => by dsimp only [wsLed] at hp; rw [hz1, hz2, hz3] at hp; exact hp)
    have e : indentF x.cps.toList ts = (tr : Nat) + (ts : Int) * (il + (nt : Nat)) := by unfold indentF; rw [hz1, hz2, hz3, hI]
    rw [e] at h
    exact h _ _ _ F6 (kst_newsOf N6 fun p hp => List.mem_append_right _ hp)
end Mine
-- C01e
set_option maxHeartbeats 4000000
namespace Mine
local macro_rules | `(tactic| walk_at "MY:w") => `(tactic| repeat' (first | (k_unfold; (try dsimp only)) | (k_end; fail) | (
  (fail_if_success (with_reducible show wpAny _ _ (exec (Stmt.While _ _ _ _) _) _ _ _));
  (fail_if_success (with_reducible show wpAny _ _ (pyIter _) _ _ _));
  (fail_if_success (with_reducible show wpAny _ _ (call (Value.ref _) _) _ _ _));
  (fail_if_success (with_reducible show wpAny _ _ (call (Value.builtin "re.Pattern.sub") _) _ _ _));
  (first | walk1 | (dsimp only; walk1)))))
local macro_rules | `(tactic| walk_at "MY:same") => `(tactic| (intro z hz h2 h3; (simp only [List.forall_mem_cons, List.not_mem_nil, false_implies, implies_true, and_true, ne_eq] at h2); (simp only [List.contains_cons, List.contains_nil, Bool.or_false, Bool.or_eq_false_iff, beq_eq_false_iff_ne, ne_eq] at h3); (simp [hz, h2, h3])))
def runF (l : List Nat) : Int := if (((wsF l).2.1 : Nat) : Int) > (((wsF l).1.length : Nat) : Int) - 1 then (((wsF l).2.1 : Nat) : Int) else (((wsF l).1.length : Nat) : Int) - 1
theorem run_1 {w : World} {dp : Nat} {fr : Option (List Env)} {gd : Option (List Code)} {un : Nat} {s : Shared} {mg mb : Str → Option Value} {p : Program} {loose : List Str} {mean : ExcName → Option Value} {h₀ : Heap} {L : Addr} {m : Str → Option Value} {news : List (Addr × Obj)} {i : WsI} {Q E : Value → Shared → Prop}
    (F : Fr h₀ L s.heap m) (X : (hd01.heap_39 w.params).In h₀) (T : Top p loose mean mg mb h₀) (N : News h₀ L s.heap news) (hm : ∀ p ∈ wsLed 100 w.params i, p ∈ news) (hi : IntsAre i.vs (wsF i.x.cps.toList).1) (hroom : dp < recursionLimit) (hx2 : i.x.cps.size ≤ 10000)
    (h : ∀ t' h' tk', Fr h₀ L h' m → News h₀ L h' news → Q (.int (runF i.x.cps.toList) t') { s with heap := h', toks := tk' }) :
    wpAny (model prog1 w) { handled := none, depth := dp, frames := fr, guards := gd, units := un } (call (.ref 62) [.ref i.y]) Q E s := by
  refine wpAny_call (call_led (binds := [(Str.ofString "self", .ref i.y)]) _ F X N hm rfl rfl T.nolimit hroom (BindsTo.of_eq rfl) (locs rfl) ?_)
  intro g L' h3 hst F3 N3 hback
  have X2 := X.keeps hst
  have T2 := T.keeps hst
  obtain ⟨hb1, hb2, hb3, hb4⟩ := wsF_bound _ _ (rfl : i.x.cps.toList.length = _)
  rw [Array.length_toList] at hb1 hb2 hb3 hb4
  clear X T F N
  obtain ⟨x, t, y, d, D, D', vs, tb, t1, t2, t3, t4, t5, tn, tnt⟩ := i
  dsimp only at F3 hi hx2 h hm hb1 hb2 hb3 hb4
  dsimp only [wsLed] at N3
  walk_at "MY:w"
  rename News _ _ _ _ => N4
  refine len_tupN N4 (.tail _ (.head _)) hi (by omega) ?_
  intro t6 k6
  walk_at "MY:w"
  rename Fr _ _ _ _ => F5
  rename News _ _ _ _ => N5
  obtain ⟨F6, N6⟩ := hback F5 N5 (fun p hp => hp)
  exact h _ _ _ F6 (kst_newsOf N6 fun p hp => List.mem_append_right _ hp)
def simpleF (l : List Nat) : Bool := decide ((((wsF l).1.length : Nat) : Int) ≤ 1)
def lessF (a b : List Nat) : Bool :=
  if a.length ≥ b.length then false else if simpleF a = true ∧ simpleF b = true then decide ((wsF a).2.2 ≤ (wsF b).2.2)
  else (List.range ((if runF b > runF a then runF b else runF a) + 1 - 1).toNat).all fun k => decide (indentF a (2 + k) < indentF b (2 + k))
theorem less_1 {w : World} {dp : Nat} {fr : Option (List Env)} {gd : Option (List Code)} {un : Nat} {s : Shared} {mg mb : Str → Option Value} {p : Program} {loose : List Str} {mean : ExcName → Option Value} {h₀ : Heap} {L : Addr} {m : Str → Option Value} {news : List (Addr × Obj)} {i j : WsI} {Q E : Value → Shared → Prop}
    (F : Fr h₀ L s.heap m) (X : (hd01.heap_39 w.params).In h₀) (T : Top p loose mean mg mb h₀) (N : News h₀ L s.heap news) (hm : ∀ p ∈ wsLed 100 w.params i ++ wsLed 100 w.params j, p ∈ news) (hi : IntsAre i.vs (wsF i.x.cps.toList).1) (hj : IntsAre j.vs (wsF j.x.cps.toList).1) (hroom : dp + 2 < recursionLimit) (hx : i.x.cps.size ≤ 90) (hx2 : j.x.cps.size ≤ 90)
    (h : ∀ h' tk', Fr h₀ L h' m → News h₀ L h' news → Q (.bool (lessF i.x.cps.toList j.x.cps.toList)) { s with heap := h', toks := tk' }) :
    wpAny (model prog1 w) { handled := none, depth := dp, frames := fr, guards := gd, units := un } (call (.ref 90) [.ref i.y, .ref j.y]) Q E s := by
  refine wpAny_call (call_led (binds := [(Str.ofString "self", .ref i.y), (Str.ofString "other", .ref j.y)]) _ F X N hm rfl rfl T.nolimit (by show dp < _; omega) (BindsTo.of_eq rfl) (locs rfl) ?_)
  intro g L' h3 hst F3 N3 hback
  have X2 := X.keeps hst
  have T2 := T.keeps hst
  obtain ⟨hb1, hb2, hb3, hb4⟩ := wsF_bound _ _ (rfl : i.x.cps.toList.length = _)
  rw [Array.length_toList] at hb1 hb2 hb3 hb4
  obtain ⟨hc1, hc2, hc3, hc4⟩ := wsF_bound _ _ (rfl : j.x.cps.toList.length = _)
  rw [Array.length_toList] at hc1 hc2 hc3 hc4
  clear X T F N
  dsimp only [wsLed, List.cons_append, List.nil_append] at N3
  have hmi : ∀ p ∈ wsLed 100 w.params i, p ∈ wsLed 100 w.params i ++ wsLed 100 w.params j := fun p hp => List.mem_append_left _ hp
  have hmj : ∀ p ∈ wsLed 100 w.params j, p ∈ wsLed 100 w.params i ++ wsLed 100 w.params j := fun p hp => List.mem_append_right _ hp
  walk_at "MY:w"
  · rename Fr _ _ _ _ => F5
    rename News _ _ _ _ => N5
    rename (_ : Int) ≤ _ => hle
    obtain ⟨F6, N6⟩ := hback F5 N5 (fun p hp => hp)
    have e : lessF i.x.cps.toList j.x.cps.toList = false := if_pos (by simp only [Array.length_toList]; omega)
    rw [e] at h
    exact h _ _ F6 (kst_newsOf N6 fun p hp => List.mem_append_right _ hp)
  · rename Fr _ _ _ _ => F5
    rename News _ _ _ _ => N5
    rename ¬ _ => hle
    rename (_ : Int) ≤ 1 => hs1
    rename (_ : Int) ≤ 1 => hs2
    obtain ⟨F6, N6⟩ := hback F5 N5 (fun p hp => hp)
    have e : lessF i.x.cps.toList j.x.cps.toList = decide ((wsF i.x.cps.toList).2.2 ≤ (wsF j.x.cps.toList).2.2) := by
      unfold lessF simpleF
      rw [if_neg (by simp only [Array.length_toList]; omega), if_pos (by simp only [decide_eq_true_eq]; omega)]
    have e2 : decide ((((wsF i.x.cps.toList).2.2 : Nat) : Int) ≤ (((wsF j.x.cps.toList).2.2 : Nat) : Int)) = decide ((wsF i.x.cps.toList).2.2 ≤ (wsF j.x.cps.toList).2.2) := by simp
    rw [e, ← e2] at h
    exact h _ _ F6 (kst_newsOf N6 fun p hp => List.mem_append_right _ hp)
  all_goals
    have hns : ¬ (simpleF i.x.cps.toList = true ∧ simpleF j.x.cps.toList = true) := by
      unfold simpleF; simp only [decide_eq_true_eq]; omega
    have hlt : ¬ i.x.cps.toList.length ≥ j.x.cps.toList.length := by simp only [Array.length_toList]; omega
    rename Fr _ _ _ _ => F5
    rename News _ _ _ _ => N5
    refine run_1 (i := i) F5 X2 T2 N5 hmi hi (show dp + 1 < recursionLimit by omega) (by omega) ?_
    clear F5 N5
    intro t6 h6 k6 F6 N6
    walk_at "MY:w"
    refine run_1 (i := j) F6 X2 T2 N6 hmj hj (show dp + 1 < recursionLimit by omega) (by omega) ?_
    clear F6 N6
    intro t7 h7 k7 F7 N7
    walk_at "MY:w"
    rename IsRange _ _ _ _ _ _ _ _ => hr
    rename Fr _ _ _ _ => F8
    rename News _ _ _ _ => N8
    have hR1 : -1 ≤ runF i.x.cps.toList ∧ runF i.x.cps.toList ≤ 90 := by unfold runF; constructor <;> (split <;> omega)
    have hR2 : -1 ≤ runF j.x.cps.toList ∧ runF j.x.cps.toList ≤ 90 := by unfold runF; constructor <;> (split <;> omega)
    generalize hM : (if runF j.x.cps.toList > runF i.x.cps.toList then runF j.x.cps.toList else runF i.x.cps.toList) = M at *
    have hM2 : -1 ≤ M ∧ M ≤ 90 := by rw [← hM]; constructor <;> (split <;> omega)
    have eL : lessF i.x.cps.toList j.x.cps.toList = (List.range (M + 1 - 1).toNat).all fun k => decide (indentF i.x.cps.toList (2 + k) < indentF j.x.cps.toList (2 + k)) := by
      unfold lessF; rw [if_neg hlt, if_neg hns, hM]
    refine loop_range (σ := Unit) (n := (M + 1 - 1).toNat) (fun _ => wsLed 100 w.params i ++ wsLed 100 w.params j) (fun _ => []) [] (fun k _ => ∀ q < k, indentF i.x.cps.toList (2 + q) < indentF j.x.cps.toList (2 + q)) () rfl hr ⟨by omega, by omega⟩ ⟨by omega, by omega⟩ (by omega) F8 N8 (List.forall_mem_nil _) (fun q hq => absurd hq (Nat.not_lt_zero _)) ?_ ?_
    · rintro k tk ⟨⟩ u h9 tk9 own hk hI hsep F9 N9
      clear F8 N8
      dsimp only [kstB, List.contains_nil, wsLed, List.cons_append, List.nil_append, List.map] at F9 N9 hsep
      walk_at "MY:w"
      rename Fr _ _ _ _ => F9
      rename News _ _ _ _ => N9
      have e2k : (2 : Int) + (k : Int) = ((2 + k : Nat) : Int) := by push_cast; rfl
      rw [e2k]
      refine indent_1 (i := i) F9 X2 T2 N9 (fun p hp => List.mem_append_left own (hmi p hp)) hi (show dp + 1 < recursionLimit by omega) (by omega) (by omega) (by omega) ?_
      clear F9 N9
      intro t10 h10 k10 F10 N10
      walk_at "MY:w"
      rw [e2k]
      refine indent_1 (i := j) F10 X2 T2 N10 (fun p hp => List.mem_append_left own (hmj p hp)) hj (show dp + 1 < recursionLimit by omega) (by omega) (by omega) (by omega) ?_
      clear F10 N10
      intro t11 h11 k11 F11 N11
      walk_at "MY:w"
      · rename (_ : Int) ≤ _ => hge
        obtain ⟨F6, N6⟩ := hback F11 N11 (fun p hp => List.mem_append_left own hp)
        have e3 : lessF i.x.cps.toList j.x.cps.toList = false := by
          rw [eL, List.all_eq_false]; exact ⟨k, List.mem_range.mpr hk, by simp only [decide_eq_true_eq]; omega⟩
        rw [e3] at h
        exact h _ _ F6 (kst_newsOf N6 fun p hp => List.mem_append_right _ hp)
      · rename ¬ _ => hge
        refine lend () F11 N11 (fun p hp => List.mem_append_left own hp) (fun p hp => List.mem_append_right (wsLed 100 w.params i ++ wsLed 100 w.params j) hp) hsep (List.forall_mem_nil _) (by walk_at "MY:same") ?_
        intro q hq
        by_cases e : q = k
        · subst e; omega
        · exact hI q (by omega)
    · rintro ⟨⟩ u h9 tk9 hI F9 N9
      clear F8 N8
      dsimp only [kstB, List.contains_nil, wsLed, List.cons_append, List.nil_append] at F9 N9
      walk_at "MY:w"
      obtain ⟨F6, N6⟩ := hback F9 N9 (fun p hp => hp)
      have e3 : lessF i.x.cps.toList j.x.cps.toList = true := by rw [eL, List.all_eq_true]; intro q hq; exact decide_eq_true (hI q (List.mem_range.mp hq))
      rw [e3] at h
      exact h _ _ F6 (kst_newsOf N6 fun p hp => List.mem_append_right _ hp)
end Mine
-- C01f
set_option maxHeartbeats 4000000
namespace Mine
local macro_rules | `(tactic| walk_at "MY:f") => `(tactic| repeat' (first | (k_unfold; (try dsimp only)) | (k_end; fail) | (
  (fail_if_success (with_reducible show wpAny _ _ (exec (Stmt.While _ _ _ _) _) _ _ _));
  (fail_if_success (with_reducible show wpAny _ _ (exec (Stmt.For _ _ _ _ _) _) _ _ _));
  (fail_if_success (with_reducible show wpAny _ _ (call (Value.ref _) _) _ _ _));
  (first | walk1 | (dsimp only; walk1)))))
local macro_rules | `(tactic| walk_at "MY:w") => `(tactic| repeat' (first | (k_unfold; (try dsimp only)) | (k_end; fail) | (
  (fail_if_success (with_reducible show wpAny _ _ (exec (Stmt.While _ _ _ _) _) _ _ _));
  (fail_if_success (with_reducible show wpAny _ _ (pyIter _) _ _ _));
  (fail_if_success (with_reducible show wpAny _ _ (call (Value.ref _) _) _ _ _));
  (fail_if_success (with_reducible show wpAny _ _ (call (Value.builtin "re.Pattern.sub") _) _ _ _));
  (first | walk1 | (dsimp only; walk1)))))
local macro_rules | `(tactic| walk_at "MY:same") => `(tactic| (intro z hz h2 h3; (simp only [List.forall_mem_cons, List.not_mem_nil, false_implies, implies_true, and_true, ne_eq] at h2); (simp only [List.contains_cons, List.contains_nil, Bool.or_false, Bool.or_eq_false_iff, beq_eq_false_iff_ne, ne_eq] at h3); (simp [hz, h2, h3])))
theorem word_1 {w : World} {dp : Nat} {fr : Option (List Env)} {gd : Option (List Code)} {un : Nat} {s : Shared} {mg mb : Str → Option Value} {p : Program} {loose : List Str} {mean : ExcName → Option Value} {l : Addr} {vs : List Value} {ns : List Int} {Q E : Value → Shared → Prop}
    (X : (hd01.heap_39 w.params).In s.heap) (T : Top p loose mean mg mb s.heap) (hl : s.heap.IsList l vs.toArray) (hi : IntsAre vs ns) (hroom : dp + 1 < recursionLimit) (hn : ∀ v ∈ ns, 0 ≤ v ∧ v < 16) (hlen : ns.length ≤ 8)
    (h : ∀ t' h' tk', s.heap.StaysIn h' → Q (.bytes (ns.map fun v => UInt8.ofNat (65 + v.toNat)).toArray t') { s with heap := h', toks := tk' }) :
    wpAny (model prog1 w) { handled := none, depth := dp, frames := fr, guards := gd, units := un } (call (.ref 142) [.ref l]) Q E s := by
  refine wpAny_call (call_fn (binds := [(Str.ofString "figures", .ref l)]) X rfl rfl T.nolimit (by show dp < _; omega) (BindsTo.of_eq rfl) (locs rfl) ?_)
  intro h3 F3 N3
  walk_at "MY:f"
  refine For_invV s.heap rfl rfl ?_
  walk_at "MY:w"
  rename Fr _ _ _ _ => F4
  rename News _ _ _ _ => N4
  refine' loop_list (σ := Int × Tok) (fun _ => []) (fun c => [(Str.ofString "number", .int c.1 c.2)]) [] (fun k c => c.1 = numF (ns.take k)) (0, _) rfl hl F4 N4 (List.forall_mem_cons.mpr ⟨rfl, List.forall_mem_nil _⟩) rfl ?_ ?_
  · rintro k v ⟨nu, tn⟩ u h5 tk5 own hk hI1 hsep F5 N5
    have hkl : k < ns.length := by
      have := (List.getElem?_eq_some_iff.mp hk).1; rw [hi.length] at this; exact this
    obtain ⟨tv, hv⟩ := hi.get k ns[k] (by simp [hkl])
    rw [hk] at hv
    cases hv
    have hv2 := hn ns[k] (List.getElem_mem hkl)
    have e1 : ns.take (k + 1) = ns.take k ++ [ns[k]] := by rw [List.take_add_one]; simp [hkl]
    generalize ns[k] = v at *
    clear F4 N4
    dsimp only [kstB, List.contains_nil, List.nil_append, List.map] at F5 N5 hI1 hsep
    walk_at "MY:w"
    rename Fr _ _ _ _ => F6
    rename News _ _ _ _ => N6
    refine lend (_, _) F6 N6 (List.forall_mem_nil _) (fun p hp => hp) ownOff_nil (List.forall_mem_cons.mpr ⟨rfl, List.forall_mem_nil _⟩) (by walk_at "MY:same") ?_
    dsimp only
    rw [e1, numF_snoc, hI1]
  · rintro ⟨nu, tn⟩ u h5 tk5 hI1 F5 N5
    clear F4 N4
    dsimp only [kstB, List.contains_nil] at F5 N5 hI1
    rw [hi.length, List.take_length] at hI1
    subst hI1
    obtain ⟨hb1, hb2⟩ := numF_bound _ ns rfl hn
    have hb3 : numF ns < (16 ^ 8 : Nat) := Int.lt_of_lt_of_le hb2 (Int.ofNat_le.mpr (Nat.pow_le_pow_right (by decide) hlen))
    walk_at "MY:w"
    rename Fr _ _ _ _ => F4
    rename News _ _ _ _ => N4
    refine wpAny_call (int2ap_1 (X.keeps F4.keep) (T.keeps F4.keep) (show dp + 1 < _ from hroom) (by omega) (by simp only [Nat.reducePow] at hb3; omega) ?_)
    intro t5 h5 k5 hs
    have F5 := fr_stays F4 hs
    have N5 := news_stays N4 hs
    rw [Int.neg_neg]
    have e8 : apF 8 (numF ns).toNat [] = apF ns.length (numF ns).toNat [] := apF_fuel _ _ _ _ (by omega) (by omega)
    obtain ⟨ha1, ha2⟩ := ap_pad _ ns rfl hn
    rw [e8]
    generalize apF ns.length (numF ns).toNat [] = ap at *
    walk_at "MY:w"
    have hsz : ap.toArray.size = ap.length := by simp
    rw [hsz]
    have hnn : ((ns.length : Nat) : Int) - ((ap.length : Nat) : Int) = ((ns.length - ap.length : Nat) : Int) := by omega
    rw [hnn]
    refine bytes_mul_any (b := [65]) (by simp) (by omega) (by omega) (by simp) ?_
    intro t6 k6
    have hfl : (List.replicate (((ns.length - ap.length : Nat) : Int)).toNat [(65 : UInt8)]).flatten = List.replicate (ns.length - ap.length) 65 := by
      rw [Int.toNat_natCast]
      generalize ns.length - ap.length = q
      induction q with
      | zero => rfl
      | succ q ih => rw [List.replicate_succ, List.flatten_cons, ih]; rfl
    rw [hfl]
    walk_at "MY:w"
    refine KBy.add_bytes (by simp; omega) ?_
    intro t7 k7
    have hfin : (List.replicate (ns.length - ap.length) (65 : UInt8)).toArray ++ ap.toArray = (ns.map fun v => UInt8.ofNat (65 + v.toNat)).toArray := by rw [← ha2]; simp
    rw [hfin]
    rename Fr _ _ _ _ => F8
    exact h _ _ _ F8.keep
end Mine
-- C01g
set_option maxHeartbeats 4000000
namespace Mine
local macro_rules | `(tactic| walk_at "MY:f") => `(tactic| repeat' (first | (k_unfold; (try dsimp only)) | (k_end; fail) | (
  (fail_if_success (with_reducible show wpAny _ _ (exec (Stmt.While _ _ _ _) _) _ _ _));
  (fail_if_success (with_reducible show wpAny _ _ (exec (Stmt.For _ _ _ _ _) _) _ _ _));
  (fail_if_success (with_reducible show wpAny _ _ (call (Value.ref _) _) _ _ _));
  (first | walk1 | (dsimp only; walk1)))))
local macro_rules | `(tactic| walk_at "MY:s") => `(tactic| repeat' (first | (k_unfold; (try dsimp only)) | (k_end; fail) | (
  (fail_if_success (with_reducible show wpAny _ _ (subscriptTail _ _ _ _) _ _ _));
  (fail_if_success (with_reducible show wpAny _ _ (exec (Stmt.Expr _ _) _) _ _ _));
  (first | walk1 | (dsimp only; walk1)))))
local macro_rules | `(tactic| walk_at "MY:w") => `(tactic| repeat' (first | (k_unfold; (try dsimp only)) | (k_end; fail) | (
  (fail_if_success (with_reducible show wpAny _ _ (exec (Stmt.While _ _ _ _) _) _ _ _));
  (fail_if_success (with_reducible show wpAny _ _ (pyIter _) _ _ _));
  (fail_if_success (with_reducible show wpAny _ _ (call (Value.ref _) _) _ _ _));
  (fail_if_success (with_reducible show wpAny _ _ (call (Value.builtin "re.Pattern.sub") _) _ _ _));
  (first | walk1 | (dsimp only; walk1)))))
local macro_rules | `(tactic| walk_at "MY:same") => `(tactic| (intro z hz h2 h3; (simp only [List.forall_mem_cons, List.not_mem_nil, false_implies, implies_true, and_true, ne_eq] at h2); (simp only [List.contains_cons, List.contains_nil, Bool.or_false, Bool.or_eq_false_iff, beq_eq_false_iff_ne, ne_eq] at h3); (simp [hz, h2, h3])))
theorem came_1 {w : World} {dp : Nat} {fr : Option (List Env)} {gd : Option (List Code)} {un : Nat} {s : Shared} {mg mb : Str → Option Value} {p : Program} {loose : List Str} {mean : ExcName → Option Value} {l : Addr} {vs : List Value} {ws : List Int} {n : Nat} {tn : Tok} {Q E : Value → Shared → Prop}
    (X : (hd01.heap_39 w.params).In s.heap) (T : Top p loose mean mg mb s.heap) (hl : s.heap.IsList l vs.toArray) (hi : IntsAre vs ws) (hroom : dp + 1 < recursionLimit) (hn : 2 ≤ n ∧ n ≤ 10) (hw : ∀ v ∈ ws, 0 ≤ v ∧ v < n) (hlen : ws.length < n)
    (h : ∀ a vs' ep cm tk h' tk', CamInv n ws cm tk → IntsAre vs' cm → s.heap.StaysIn h' → h'.get? a = some (PySem.W.listOf vs'.toArray ep) → s.heap.get? a = none → Q (.ref a) { s with heap := h', toks := tk' }) :
    wpAny (model prog1 w) { handled := none, depth := dp, frames := fr, guards := gd, units := un } (call (.ref 149) [.ref l, .int (n : Nat) tn]) Q E s := by
  refine wpAny_call (call_fn (binds := [(Str.ofString "wishes", .ref l), (Str.ofString "around", .int (n : Nat) tn)]) X rfl rfl T.nolimit (by show dp < _; omega) (BindsTo.of_eq rfl) (locs rfl) ?_)
  intro h3 F3 N3
  walk_at "MY:f"
  refine For_invV s.heap rfl rfl ?_
  walk_at "MY:w"
  rename_i a _ ia n1 s1 e1 e2 e3 la _ b _ lb _ F4 N4
  have lb1 := ltN lb.1
  have hz : (List.replicate ((n : Int)).toNat [(0 : Int)]).flatten = List.replicate n 0 := by
    rw [Int.toNat_natCast]
    generalize n = q
    induction q with
    | zero => rfl
    | succ q ih => rw [List.replicate_succ, List.flatten_cons, ih]; rfl
  rw [hz] at ia
  generalize (List.replicate ((n : Int)).toNat [Value.int 0 _]).flatten = va at *
  clear s1 e1 e2 e3 hz n1
  have I0 : CamInv n [] (List.replicate n 0) [] := ⟨by simp, (fun p hp => nomatch hp), .nil, rfl, (fun p hp => by simp [hp]), (fun p hp => by simp [hp]), (fun p hp => by simp [hp, Nat.mod_lt _ (Nat.lt_of_le_of_lt (Nat.zero_le _) hp)]; decide)⟩
  refine' loop_list (σ := List Value × List Int × Nat × List Value × List Int × Nat) (fun c => [(b, PySem.W.listOf c.2.2.2.1.toArray c.2.2.2.2.2), (a, PySem.W.listOf c.1.toArray c.2.2.1)]) (fun _ => []) [Str.ofString "place"] (fun k c => CamInv n (ws.take k) c.2.1 c.2.2.2.2.1 ∧ IntsAre c.1 c.2.1 ∧ IntsAre c.2.2.2.1 c.2.2.2.2.1) (va, List.replicate n 0, 0, [], [], 0) rfl hl F4 (kst_newsOf N4 (List.forall_mem_cons.mpr ⟨.head _, List.forall_mem_cons.mpr ⟨.tail _ (.head _), List.forall_mem_nil _⟩⟩)) (List.forall_mem_nil _) ⟨I0, ia, .nil⟩ ?_ ?_
  · rintro k v ⟨vc, cm, ec, vt, tks, et⟩ u h5 tk5 own hk ⟨hI, hc, ht⟩ hsep F5 N5
    have hkl : k < ws.length := by
      have := (List.getElem?_eq_some_iff.mp hk).1; rw [hi.length] at this; exact this
    obtain ⟨tv, hv⟩ := hi.get k ws[k] (by simp [hkl])
    rw [hk] at hv
    cases hv
    have hv2 := hw ws[k] (List.getElem_mem hkl)
    have e1 : ws.take (k + 1) = ws.take k ++ [ws[k]] := by rw [List.take_add_one]; simp [hkl]
    generalize ws[k] = v at *
    obtain ⟨v, rfl⟩ := Int.eq_ofNat_of_zero_le hv2.1
    clear F4 N4
    dsimp only [kstB, List.cons_append, List.nil_append, List.map] at F5 N5 hI hc ht hsep
    have hcl := hI.len
    walk_at "MY:w"
    rename IntsAre (List.set _ _ _) _ => hc1
    rename Fr _ _ _ _ => F6
    rename News _ _ _ _ => N6
    simp only [Int.toNat_natCast] at hc1 N6
    have hM := hI.start (v := v) (by omega)
    rw [← e1] at hM
    have htl : tks.length < n := by rw [hI.tl, List.length_take]; omega
    obtain ⟨f, hf1, hf2⟩ := a_free htl
    generalize hv0 : List.set vc v _ = vc1 at *
    generalize hc0 : List.set cm v _ = cm1 at *
    refine' ksw_while (σ := Nat × Tok × List Value × List Int × Nat) (fun c => (b, PySem.W.listOf vt.toArray et) :: (a, PySem.W.listOf c.2.2.1.toArray c.2.2.2.2) :: own) (fun c => [(Str.ofString "place", .int (c.1 : Nat) c.2.1)]) (fun _ => True) []
      (fun c => CamMid n (ws.take (k + 1)) c.2.2.2.1 tks c.1 ∧ IntsAre c.2.2.1 c.2.2.2.1) (fun c => far n f c.1) (v, tv, vc1, cm1, _) F6 N6 trivial (List.forall_mem_cons.mpr ⟨rfl, List.forall_mem_nil _⟩) ⟨hM, hc1⟩ ?_
    rintro ⟨q, tq, vc2, cm2, ec2⟩ u2 h7 tk7 - ⟨hM2, hc2⟩ F7 N7
    clear F6 N6 F5 N5
    dsimp only [kstB] at F7 N7 hM2 hc2
    have hq := hM2.hq
    have hcl2 := hM2.len
    walk_at "MY:s"
    · rename (_ : Bool) = true => hin
      have hin2 : (q : Int) ∈ tks := by
        obtain ⟨x, hx, e⟩ := List.any_eq_true.mp hin
        have : x = (q : Int) := by simpa using e
        rw [← this]; exact hx
      have hq3 : ((q : Int) + 1).fmod (n : Int) = (((q + 1) % n : Nat) : Int) := by
        rw [Int.fmod_eq_emod_of_nonneg _ (by omega)]; push_cast; rfl
      have hS := hM2.step hin2
      have hF := far_lt hf1 hq (fun e => hf2 (by rw [← e]; exact hin2))
      rw [hq3]
      generalize (q + 1) % n = q' at *
      have hq4 := hS.hq
      rename Fr _ _ _ _ => F8
      rw [hq3] at F8
      clear hq3
      rename News _ _ _ _ => N8
      walk_at "MY:w"
    · rename (_ : Bool) = false => hin
      have hin2 : (q : Int) ∉ tks := by
        intro hx
        rw [List.any_eq_false] at hin
        exact hin _ hx (by simp)
      walk_at "MY:w"
      rename Fr _ _ _ _ => F8
      rename News _ _ _ _ => N8
      rw [List.push_toArray] at N8
      refine lend (vc2, cm2, ec2, vt ++ [Value.int (q : Nat) tq], tks ++ [(q : Int)], et + 1) F8 N8 (List.forall_mem_cons.mpr ⟨.head _, List.forall_mem_cons.mpr ⟨.tail _ (.head _), List.forall_mem_nil _⟩⟩) (fun p hp => .tail _ (.tail _ hp)) hsep (List.forall_mem_nil _) (by walk_at "MY:same") ⟨hM2.finish hin2, hc2, ?_⟩
      exact ht.append (.cons _ _ .nil)
  · rintro ⟨vc, cm, ec, vt, tk, et⟩ u h5 tk5 ⟨hI, hc, ht⟩ F5 N5
    clear F4 N4
    dsimp only [kstB] at F5 N5 hI hc ht
    rw [hi.length, List.take_length] at hI
    walk_at "MY:w"
    exact h a vc ec cm tk _ _ hI hc F5.keep (N5 _ (.tail _ (.head _))).1 (N5 _ (.tail _ (.head _))).2.2
end Mine
-- L01a
set_option maxHeartbeats 4000000
namespace Mine
local macro_rules | `(tactic| walk_at "MY:f") => `(tactic| repeat' (first | (k_unfold; (try dsimp only)) | (k_end; fail) | (
  (fail_if_success (with_reducible show wpAny _ _ (exec (Stmt.While _ _ _ _) _) _ _ _));
  (fail_if_success (with_reducible show wpAny _ _ (exec (Stmt.For _ _ _ _ _) _) _ _ _));
  (fail_if_success (with_reducible show wpAny _ _ (call (Value.ref _) _) _ _ _));
  (first | walk1 | (dsimp only; walk1)))))
local macro_rules | `(tactic| walk_at "MY:s") => `(tactic| repeat' (first | (k_unfold; (try dsimp only)) | (k_end; fail) | (
  (fail_if_success (with_reducible show wpAny _ _ (subscriptTail _ _ _ _) _ _ _));
  (fail_if_success (with_reducible show wpAny _ _ (exec (Stmt.Expr _ _) _) _ _ _));
  (first | walk1 | (dsimp only; walk1)))))
local macro_rules | `(tactic| walk_at "MY:w") => `(tactic| repeat' (first | (k_unfold; (try dsimp only)) | (k_end; fail) | (
  (fail_if_success (with_reducible show wpAny _ _ (exec (Stmt.While _ _ _ _) _) _ _ _));
  (fail_if_success (with_reducible show wpAny _ _ (pyIter _) _ _ _));
  (fail_if_success (with_reducible show wpAny _ _ (call (Value.ref _) _) _ _ _));
  (fail_if_success (with_reducible show wpAny _ _ (call (Value.builtin "re.Pattern.sub") _) _ _ _));
  (first | walk1 | (dsimp only; walk1)))))
local macro_rules | `(tactic| walk_at "MY:same") => `(tactic| (intro z hz h2 h3; (simp only [List.forall_mem_cons, List.not_mem_nil, false_implies, implies_true, and_true, ne_eq] at h2); (simp only [List.contains_cons, List.contains_nil, Bool.or_false, Bool.or_eq_false_iff, beq_eq_false_iff_ne, ne_eq] at h3); (simp [hz, h2, h3])))
/-- the law's own statements and names, out of the given program -/
def law1 : List Stmt × Scope := match PySem.Challenge.pw_rw0056_01.main.body.getLast? with
  | some (.FunctionDef _ _ body _ _ _ scope _ _ _) => (body, scope)
  | _ => ([], { kind := .function, names := [], isGenerator := false, isCoroutine := false })
abbrev env1 (L fa : Addr) (cd : Value) : Env := envOfC (Str.ofString "law") law1.2 L fa cd
theorem fr_kst {h₀ h : Heap} {L : Addr} {m : Str → Option Value} {ps : List (Str × Value)} (F : Fr h₀ L h m) (hk : ∀ p ∈ ps, m p.1 = some p.2) : Fr h₀ L h (kstB m ps) := by
  have e : kstB m ps = m := funext fun z => kstB_eq hk fun _ => rfl
  rw [e]; exact F
theorem sectA {w : World} {dp : Nat} {fr : Option (List Env)} {gd : Option (List Code)} {un : Nat} {s : Shared} {mg mb : Str → Option Value} {p : Program} {loose : List Str} {mean : ExcName → Option Value} {h₀ : Heap} {L fa l : Addr} {cd : Value} {vs : List Value} {ns : List Int} {o0 o1 o2 o3 o4 o5 : Obj} {Q : Flow → Shared → Prop} {E : Value → Shared → Prop}
    (F : Fr h₀ L s.heap (fun y => if y = Str.ofString "script" then some (Value.ref l) else none)) (X : (hd01.heap_39 w.params).In h₀) (T : Top p loose mean mg mb h₀)
    (N : News h₀ L s.heap [(L + 1 + 1 + 1 + 1 + 1 + 1, o5), (L + 1 + 1 + 1 + 1 + 1, o4), (L + 1 + 1 + 1 + 1, o3), (L + 1 + 1 + 1, o2), (L + 1 + 1, o1), (L + 1, o0)])
    (hl : h₀.IsList l vs.toArray) (hi : IntsAre vs ns) (hlen : ns.length ≤ 63)
    (next : ∀ hp vh eh hs u h' tk', Fr h₀ L h' (kstB u [(Str.ofString "heaps", Value.ref hp)]) → News h₀ L h' [(hp, PySem.W.listOf vh eh), (L + 1 + 1 + 1 + 1 + 1 + 1, o5), (L + 1 + 1 + 1 + 1 + 1, o4), (L + 1 + 1 + 1 + 1, o3), (L + 1 + 1 + 1, o2), (L + 1 + 1, o1), (L + 1, o0)] →
      IntsAre vh.toList hs → hs.length = 5 → (∀ v ∈ hs, 0 ≤ v) → L + 1 + 1 + 1 + 1 + 1 + 1 < hp → wpAny (model prog1 w) { handled := none, depth := dp, frames := fr, guards := gd, units := un } (execs (law1.1.drop 2) (env1 L fa cd)) Q (fun _ _ => False) { s with heap := h', toks := tk' }) :
    wpAny (model prog1 w) { handled := none, depth := dp, frames := fr, guards := gd, units := un } (execs law1.1 (env1 L fa cd)) Q (fun _ _ => False) s := by
  have hb : law1 = (_, _) := rfl
  rw [hb]
  clear hb
  dsimp only
  walk_at "MY:f"
  refine For_invV h₀ rfl rfl ?_
  walk_at "MY:w"
  rename_i hp _ lp _ D ws _ Fx Nx hI hC hL lD _ _ _ _ _ hr F4 N4 _
  clear Fx Nx
  have lp1 := ltN lp.1
  have hT : (List.take 15 ns).length ≤ 15 ∧ (List.take 15 ns).length ≤ ns.length := ⟨by rw [hC]; omega, hL⟩
  generalize hm : (List.take 15 ns).length = m15 at *
  refine' loop_range (σ := List Value × List Int × Nat) (n := m15) (fun c => [(hp, PySem.W.listOf c.1.toArray c.2.2), (L + 1 + 1 + 1 + 1 + 1 + 1, o5), (L + 1 + 1 + 1 + 1 + 1, o4), (L + 1 + 1 + 1 + 1, o3), (L + 1 + 1 + 1, o2), (L + 1 + 1, o1), (L + 1, o0)]) (fun _ => []) []
    (fun k c => IntsAre c.1 c.2.1 ∧ c.2.1.length = 5 ∧ ∀ v ∈ c.2.1, 0 ≤ v) ([Value.int 6 s.toks, Value.int 3 (s.toks + 1), Value.int 7 (s.toks + 1 + 1), Value.int 6 (s.toks + 1 + 1 + 1), Value.int 0 (s.toks + 1 + 1 + 1 + 1)], [6, 3, 7, 6, 0], 0) rfl hr ⟨by omega, by omega⟩ ⟨by omega, by omega⟩ (by omega) F4
    (kst_newsOf N4 fun p hp => .tail _ hp) (List.forall_mem_nil _) ⟨.cons _ _ (.cons _ _ (.cons _ _ (.cons _ _ (.cons _ _ .nil)))), rfl, by dsimp only; decide⟩ ?_ ?_
  · rintro k tk ⟨vh, hs, eh⟩ u h5 tk5 own hk ⟨hJ1, hJ2, hJ3⟩ hsep F5 N5
    clear F4 N4
    dsimp only [kstB, List.contains_nil, List.cons_append, List.nil_append, List.map] at F5 N5 hJ1 hJ2 hJ3 hsep
    simp only [Int.zero_add] at F5
    walk_at "MY:w"
    rename IntsAre (List.set _ _ _) _ => hI2
    rename Fr _ _ _ _ => F6
    rename News _ _ _ _ => N6
    refine lend (_, _, _) F6 N6 (List.forall_mem_cons.mpr ⟨.head _, List.forall_mem_cons.mpr ⟨by k_mem, List.forall_mem_cons.mpr ⟨by k_mem, List.forall_mem_cons.mpr ⟨by k_mem, List.forall_mem_cons.mpr ⟨by k_mem, List.forall_mem_cons.mpr ⟨by k_mem, List.forall_mem_cons.mpr ⟨by k_mem, List.forall_mem_nil _⟩⟩⟩⟩⟩⟩⟩) (fun p hp => .tail _ (.tail _ (.tail _ (.tail _ (.tail _ (.tail _ (.tail _ hp))))))) hsep (List.forall_mem_nil _) (by walk_at "MY:same") ⟨hI2, by dsimp only; rw [List.length_set]; exact hJ2, ?_⟩
    intro v hv
    rcases List.mem_or_eq_of_mem_set hv with h1 | h1
    · exact hJ3 v h1
    · have h2 : 0 ≤ hs.getD ((k : Int).fmod 5).toNat 0 := by
        by_cases hb : ((k : Int).fmod 5).toNat < hs.length
        · have := hJ3 _ (List.getElem_mem hb)
          rw [List.getD_eq_getElem?_getD, List.getElem?_eq_getElem hb]; exact this
        · rw [List.getD_eq_getElem?_getD, List.getElem?_eq_none (by omega)]; exact Int.le_refl _
      have h3 := fmod_lo (ns.getD (k : Int).toNat 0) (n := 10 ^ Int.toNat 6) (by decide)
      omega
  · rintro ⟨vh, hs, eh⟩ u h5 tk5 ⟨hJ1, hJ2, hJ3⟩ F5 N5
    clear F4 N4
    dsimp only [kstB, List.contains_nil] at F5 N5 hJ1 hJ2 hJ3
    exact next hp vh.toArray eh hs _ h5 tk5 (fr_kst F5 (List.forall_mem_cons.mpr ⟨rfl, List.forall_mem_nil _⟩)) N5 hJ1 hJ2 hJ3 lp.1
end Mine
-- L01k
set_option maxHeartbeats 4000000
namespace Mine
local macro_rules | `(tactic| walk_at "MY:f") => `(tactic| repeat' (first | (k_unfold; (try dsimp only)) | (k_end; fail) | (
  (fail_if_success (with_reducible show wpAny _ _ (exec (Stmt.While _ _ _ _) _) _ _ _));
  (fail_if_success (with_reducible show wpAny _ _ (exec (Stmt.For _ _ _ _ _) _) _ _ _));
  (fail_if_success (with_reducible show wpAny _ _ (call (Value.ref _) _) _ _ _));
  (first | walk1 | (dsimp only; walk1)))))
local macro_rules | `(tactic| walk_at "MY:s") => `(tactic| repeat' (first | (k_unfold; (try dsimp only)) | (k_end; fail) | (
  (fail_if_success (with_reducible show wpAny _ _ (subscriptTail _ _ _ _) _ _ _));
  (fail_if_success (with_reducible show wpAny _ _ (exec (Stmt.Expr _ _) _) _ _ _));
  (first | walk1 | (dsimp only; walk1)))))
local macro_rules | `(tactic| walk_at "MY:w") => `(tactic| repeat' (first | (k_unfold; (try dsimp only)) | (k_end; fail) | (
  (fail_if_success (with_reducible show LCg.CompSrc _ _ _ _ _ _ _ _ _ _ _ _ _ _));
  (fail_if_success (with_reducible show wpAny _ _ (exec (Stmt.For _ _ _ _ _) _) _ _ _));
  (fail_if_success (with_reducible show wpAny _ _ (exec (Stmt.While _ _ _ _) _) _ _ _));
  (fail_if_success (with_reducible show wpAny _ _ (pyIter _) _ _ _));
  (fail_if_success (with_reducible show wpAny _ _ (call (Value.ref _) _) _ _ _));
  (fail_if_success (with_reducible show wpAny _ _ (call (Value.builtin "re.Pattern.sub") _) _ _ _));
  (first | walk1 | (dsimp only; walk1)))))
local macro_rules | `(tactic| walk_at "MY:same") => `(tactic| (intro z hz h2 h3; (simp only [List.forall_mem_cons, List.not_mem_nil, false_implies, implies_true, and_true, ne_eq] at h2); (simp only [List.contains_cons, List.contains_nil, Bool.or_false, Bool.or_eq_false_iff, beq_eq_false_iff_ne, ne_eq] at h3); (simp [hz, h2, h3])))
def AllNeA (a : Nat) : List (Addr × Obj) → Prop
  | [] => True
  | p :: r => @Ne Nat p.1 a ∧ AllNeA a r
theorem news_off {h₀ h : Heap} {L a : Addr} : ∀ {news : List (Addr × Obj)}, News h₀ L h news → h.get? a = none → AllNeA a news
  | [], _, _ => trivial
  | p :: r, N, ha => And.intro (fun e => by have h1 := (N p (.head _)).1; rw [show p.1 = a from e, ha] at h1; cases h1) (news_off (fun q hq => N q (.tail _ hq)) ha)
theorem news_add {h₀ h h' : Heap} {L a : Addr} {o : Obj} {m : Str → Option Value} {news : List (Addr × Obj)} (F : Fr h₀ L h m) (N : News h₀ L h news) (k : h.StaysIn h') (ha : h'.get? a = some o) (hn : h.get? a = none) : News h₀ L h' ((a, o) :: news) := fun p hp => by
  rcases List.mem_cons.mp hp with rfl | hp
  · refine ⟨ha, fun e => ?_, ?_⟩
    · obtain ⟨oL, _, _, hL, _⟩ := F.ns
      rw [show a = L from e, hL] at hn; cases hn
    · cases q : h₀.get? a with
      | none => rfl
      | some o' => rw [F.keep _ _ q] at hn; cases hn
  · exact news_stays N k p hp
def Off6 (L a : Nat) : Prop := L + 1 ≠ a ∧ L + 1 + 1 ≠ a ∧ L + 1 + 1 + 1 ≠ a ∧ L + 1 + 1 + 1 + 1 ≠ a ∧ L + 1 + 1 + 1 + 1 + 1 ≠ a ∧ L + 1 + 1 + 1 + 1 + 1 + 1 ≠ a
theorem ne_cell {h₀ h : Heap} {L' a b : Addr} {o ob : Obj} {v : Option Value} {news : List (Addr × Obj)} (N : News h₀ L' h news) (hb : (b, ob) ∈ news) (d : ob.data = .cell v) (ha : (a, o) ∈ news) (ho : ∀ v, o.data ≠ .cell v) : @Ne Nat b a := fun e => by
  have h1 := (N _ ha).1
  have h2 := (N _ hb).1
  dsimp only at h1 h2
  rw [show b = a from e, h1] at h2
  exact ho v ((congrArg Obj.data (Option.some.inj h2)).trans d)
theorem off6 {h₀ h : Heap} {L' : Addr} {L a : Addr} {o o0 o1 o2 o3 o4 o5 : Obj} {v0 v1 v2 v3 v4 v5 : Option Value} {news : List (Addr × Obj)} (N : News h₀ L' h news)
    (hc : ∀ p ∈ [(L + 1 + 1 + 1 + 1 + 1 + 1, o5), (L + 1 + 1 + 1 + 1 + 1, o4), (L + 1 + 1 + 1 + 1, o3), (L + 1 + 1 + 1, o2), (L + 1 + 1, o1), (L + 1, o0)], p ∈ news)
    (d0 : o0.data = .cell v0) (d1 : o1.data = .cell v1) (d2 : o2.data = .cell v2) (d3 : o3.data = .cell v3) (d4 : o4.data = .cell v4) (d5 : o5.data = .cell v5) (ha : (a, o) ∈ news) (ho : ∀ v, o.data ≠ .cell v) : Off6 L a :=
  ⟨ne_cell N (hc _ (by simp)) d0 ha ho, ne_cell N (hc _ (by simp)) d1 ha ho, ne_cell N (hc _ (by simp)) d2 ha ho, ne_cell N (hc _ (by simp)) d3 ha ho, ne_cell N (hc _ (by simp)) d4 ha ho, ne_cell N (hc _ (by simp)) d5 ha ho⟩
end Mine
-- L01b
set_option maxHeartbeats 4000000
namespace Mine
local macro_rules | `(tactic| walk_at "MY:f") => `(tactic| repeat' (first | (k_unfold; (try dsimp only)) | (k_end; fail) | (
  (fail_if_success (with_reducible show wpAny _ _ (exec (Stmt.While _ _ _ _) _) _ _ _));
  (fail_if_success (with_reducible show wpAny _ _ (exec (Stmt.For _ _ _ _ _) _) _ _ _));
  (fail_if_success (with_reducible show wpAny _ _ (call (Value.ref _) _) _ _ _));
  (first | walk1 | (dsimp only; walk1)))))
local macro_rules | `(tactic| walk_at "MY:s") => `(tactic| repeat' (first | (k_unfold; (try dsimp only)) | (k_end; fail) | (
  (fail_if_success (with_reducible show wpAny _ _ (subscriptTail _ _ _ _) _ _ _));
  (fail_if_success (with_reducible show wpAny _ _ (exec (Stmt.Expr _ _) _) _ _ _));
  (first | walk1 | (dsimp only; walk1)))))
local macro_rules | `(tactic| walk_at "MY:n") => `(tactic| ((first | walk1 | (dsimp only; walk1))))
local macro_rules | `(tactic| walk_at "MY:w") => `(tactic| repeat' (first | (k_unfold; (try dsimp only)) | (k_end; fail) | (
  (fail_if_success (with_reducible show LCg.CompSrc _ _ _ _ _ _ _ _ _ _ _ _ _ _));
  (fail_if_success (with_reducible show wpAny _ _ (exec (Stmt.For _ _ _ _ _) _) _ _ _));
  (fail_if_success (with_reducible show wpAny _ _ (exec (Stmt.While _ _ _ _) _) _ _ _));
  (fail_if_success (with_reducible show wpAny _ _ (pyIter _) _ _ _));
  (fail_if_success (with_reducible show wpAny _ _ (call (Value.ref _) _) _ _ _));
  (fail_if_success (with_reducible show wpAny _ _ (call (Value.builtin "re.Pattern.sub") _) _ _ _));
  (first | walk1 | (dsimp only; walk1)))))
local macro_rules | `(tactic| walk_at "MY:same") => `(tactic| (intro z hz h2 h3; (simp only [List.forall_mem_cons, List.not_mem_nil, false_implies, implies_true, and_true, ne_eq] at h2); (simp only [List.contains_cons, List.contains_nil, Bool.or_false, Bool.or_eq_false_iff, beq_eq_false_iff_ne, ne_eq] at h3); (simp [hz, h2, h3])))
theorem sectB {w : World} {dp : Nat} {fr : Option (List Env)} {gd : Option (List Code)} {un : Nat} {s : Shared} {mg mb : Str → Option Value} {p : Program} {loose : List Str} {mean : ExcName → Option Value} {h₀ : Heap} {L fa hp : Addr} {cd : Value} {vh : Array Value} {eh : Nat} {hs : List Int} {u : Str → Option Value} {o0 o1 o2 o3 o4 o5 : Obj} {Q : Flow → Shared → Prop}
    (F : Fr h₀ L s.heap (kstB u [(Str.ofString "heaps", Value.ref hp)])) (X : (hd01.heap_39 w.params).In h₀) (T : Top p loose mean mg mb h₀)
    (N : News h₀ L s.heap [(hp, PySem.W.listOf vh eh), (L + 1 + 1 + 1 + 1 + 1 + 1, o5), (L + 1 + 1 + 1 + 1 + 1, o4), (L + 1 + 1 + 1 + 1, o3), (L + 1 + 1 + 1, o2), (L + 1 + 1, o1), (L + 1, o0)])
    (d0 : o0.data = .cell none) (d1 : o1.data = .cell none) (d2 : o2.data = .cell none) (d3 : o3.data = .cell none) (d4 : o4.data = .cell none) (d5 : o5.data = .cell none)
    (next : ∀ (c : Nat) (W cm tks : List Int) (wi a : Addr) (yw vc : List Value) (ew ec : Nat) (o0 o1 : Obj) (t0 t1 : Tok) u h' tk', 3 ≤ c → c ≤ 5 → 3 + hs.sum.fmod 3 = (c : Int) → W.length = c → (∀ v ∈ W, 0 ≤ v ∧ v < ((2 * c : Nat) : Int)) → W = (hs.take c).map (fun k => k.fmod (2 * (c : Int))) → CamInv (2 * c) W cm tks → IntsAre yw W → IntsAre vc cm →
      o0.data = .cell (some (.int (c : Nat) t0)) → o1.data = .cell (some (.int (2 * c : Nat) t1)) → Fr h₀ L h' (kstB u [(Str.ofString "heaps", Value.ref hp), (Str.ofString "wishes", Value.ref wi), (Str.ofString "came", Value.ref a)]) →
      News h₀ L h' [(a, PySem.W.listOf vc.toArray ec), (wi, PySem.W.listOf yw.toArray ew), (hp, PySem.W.listOf vh eh), (L + 1 + 1 + 1 + 1 + 1 + 1, o5), (L + 1 + 1 + 1 + 1 + 1, o4), (L + 1 + 1 + 1 + 1, o3), (L + 1 + 1 + 1, o2), (L + 1 + 1, o1), (L + 1, o0)] →
      wpAny (model prog1 w) { handled := none, depth := dp, frames := fr, guards := gd, units := un } (execs (law1.1.drop 6) (env1 L fa cd)) Q (fun _ _ => False) { s with heap := h', toks := tk' })
    (hi : IntsAre vh.toList hs) (hlen : hs.length = 5) (hpos : ∀ v ∈ hs, 0 ≤ v) (hlt : L + 1 + 1 + 1 + 1 + 1 + 1 < hp) (hroom : dp + 5 < recursionLimit) :
    wpAny (model prog1 w) { handled := none, depth := dp, frames := fr, guards := gd, units := un } (execs (law1.1.drop 2) (env1 L fa cd)) Q (fun _ _ => False) s := by
  have hb : law1 = (_, _) := rfl
  rw [hb]
  clear hb
  dsimp only [List.drop, kstB] at F ⊢
  replace hlt := ltN hlt
  walk_at "MY:f"
  rename Fr _ _ _ _ => F1
  rename News _ _ _ _ => N1
  rename IntsAre _ (List.map _ _) => hW
  have hC0 : 0 ≤ hs.sum.fmod 3 ∧ hs.sum.fmod 3 < 3 := ⟨fmod_lo _ (by decide), fmod_hi _ (by decide)⟩
  generalize hCS : 3 + hs.sum.fmod 3 = C at *
  have hC1 : 3 ≤ C ∧ C ≤ 5 := by omega
  obtain ⟨c, rfl⟩ := Int.eq_ofNat_of_zero_le (show 0 ≤ C by omega)
  have e2c : (2 : Int) * (c : Int) = ((2 * c : Nat) : Int) := by push_cast; rfl
  rw [e2c] at *
  refine came_1 (X.keeps F1.keep) (T.keeps F1.keep) ⟨_, (N1 _ (.head _)).1, rfl, _, rfl⟩ hW (hroom := by omega) ⟨by omega, by omega⟩ ?_ ?_ ?_
  · intro v hv
    obtain ⟨k, _, rfl⟩ := List.mem_map.mp hv
    exact ⟨fmod_lo _ (by omega), fmod_hi _ (by omega)⟩
  · rw [List.length_map, List.length_take]; omega
  intro a vc ec cm tk h5 tk5 hI hc hst ha han
  have F2 := fr_stays F1 hst
  have hne := news_off N1 han
  have N2 := news_add F1 N1 hst ha han
  simp only [AllNeA, and_true] at hne
  clear F1 N1 hst ha han
  walk_at "MY:n"
  rename Fr _ _ _ _ => F3
  rename News _ _ _ _ => N3
  rename_i h6
  refine next c _ cm tk _ a _ vc _ ec _ _ _ _ _ h6 _ (by omega) (by omega) rfl ?_ ?_ ?_ hI hW hc (by assumption) (by assumption) (fr_kst F3 (List.forall_mem_cons.mpr ⟨rfl, List.forall_mem_cons.mpr ⟨rfl, List.forall_mem_cons.mpr ⟨rfl, List.forall_mem_nil _⟩⟩⟩)) (kst_newsOf N3 (List.forall_mem_cons.mpr ⟨.head _, List.forall_mem_cons.mpr ⟨.tail _ (.head _), fun p hp => .tail _ (.tail _ (.tail _ hp))⟩⟩))
  · rw [List.length_map, List.length_take]; omega
  · intro v hv
    obtain ⟨k, _, rfl⟩ := List.mem_map.mp hv
    exact ⟨fmod_lo _ (by omega), fmod_hi _ (by omega)⟩
  · rw [Int.toNat_natCast]
end Mine
-- TxtPure
namespace Mine
abbrev tx (l : List Nat) : Str := ⟨l.toArray⟩
theorem tx_sp : Str.ofString " " = tx [32] := by rfl
theorem tx_tab : Str.ofString "\t" = tx [9] := by rfl
theorem tx_dot : Str.ofString "." = tx [46] := by rfl
theorem tx_crlf : Str.ofString "\x0d\n" = tx [13, 10] := by rfl
theorem foldl_app (l : List Nat) : ∀ (n : Nat) (a : Array Nat), ((List.replicate n l.toArray).foldl (· ++ ·) a).toList = a.toList ++ (List.replicate n l).flatten
  | 0, a => by simp
  | n + 1, a => by
    rw [List.replicate_succ, List.foldl_cons, foldl_app l n]
    simp [List.replicate_succ]
theorem flat_one (c : Nat) : ∀ n : Nat, (List.replicate n [c]).flatten = List.replicate n c
  | 0 => rfl
  | n + 1 => by rw [List.replicate_succ, List.flatten_cons, flat_one c n]; rfl
theorem mul_tx {x : Str} {c : Nat} (hx : x = tx [c]) (n : Int) : Txt.mul x n = tx (List.replicate n.toNat c) := by
  subst hx
  unfold Txt.mul
  split
  · rw [show n.toNat = 0 by omega]; rfl
  · split
    · next h1 h2 =>
      have e : n = 1 := by
        simp only [Bool.or_eq_true, beq_iff_eq] at h2
        rcases h2 with h2 | h2
        · exact h2
        · cases h2
      subst e; rfl
    · have e := foldl_app [c] n.toNat #[]
      rw [flat_one] at e
      simp only [List.nil_append] at e
      show (⟨_⟩ : Str) = ⟨_⟩
      congr 1
      rw [← e]
theorem app_tx (a b : List Nat) : (tx a ++ tx b : Str) = tx (a ++ b) := by
  show (⟨a.toArray ++ b.toArray⟩ : Str) = _
  rw [List.append_toArray]
theorem glue_fold : ∀ (r : List Str) (a : Array Nat), (r.foldl (fun acc p => acc ++ (Str.ofString "").cps ++ p.cps) a).toList = a.toList ++ (r.map fun p => p.cps.toList).flatten
  | [], a => by simp
  | p :: r, a => by
    rw [List.foldl_cons, glue_fold r]
    have e : (Str.ofString "").cps = #[] := by rfl
    simp [e]
theorem join_tx {α : Type} (l : List α) (f : α → List Nat) : Txt.join (Str.ofString "") (l.map fun a => tx (f a)) = tx (l.map f).flatten := by
  show (⟨_⟩ : Str) = ⟨_⟩
  congr 1
  apply Array.ext'
  rw [glue_fold]
  cases l with
  | nil => rfl
  | cons x r => simp [Function.comp_def]
theorem tx_len (l : List Nat) : (tx l).length = l.length := by
  show l.toArray.size = _
  rw [List.size_toArray]
section
variable {prog : Program} {w : World} {A : Around} {E : Value → Shared → Prop} {s : Shared} {x y : Str} {t u : Tok} {Q : Value → Shared → Prop}
theorem addT {a b : List Nat} (hx : x = tx a) (hy : y = tx b) (hl : a.length + b.length ≤ 1000000) (h : ∀ t' k, Q (.str (tx (a ++ b)) t') { s with toks := k }) : wpAny (model prog w) A (binaryOp .Add (.str x t) (.str y u)) Q E s := by
  subst hx hy
  refine KXadd.add (K := a.length) (L := b.length) (Nat.le_of_eq (tx_len a)) (Nat.le_of_eq (tx_len b)) (by omega) fun t' k _ => ?_
  rw [app_tx]
  exact h t' k
theorem mulT {c : Nat} {n : Int} (hx : x = tx [c]) (h0 : -100000 ≤ n) (h1 : n ≤ 100000) (h : ∀ t' k, Q (.str (tx (List.replicate n.toNat c)) t') { s with toks := k }) : wpAny (model prog w) A (binaryOp .Mult (.str x t) (.int n u)) Q E s := by
  refine SB.mul (mulOk_of 16 1048576 (by rw [hx, tx_len]; show 1 ≤ 16; omega) (by omega) (by omega) (by decide) (by decide)) fun t' k => ?_
  rw [mul_tx hx]
  exact h t' k
theorem joinT {α : Type} {D : Addr} {ys : List Value} {l : List α} {f : α → List Nat} (hl : s.heap.IsList D ys.toArray) (hc : CarriedAll ys (l.map fun a => PyData.str (tx (f a)))) (hB : ∀ a ∈ l, (f a).length ≤ 15) (hn : l.length ≤ 100000)
    (h : ∀ t' k, Q (.str (tx (l.map f).flatten) t') { s with toks := k }) : wpAny (model prog w) A (call (.builtin "str.join") [.str (Str.ofString "") t, .ref D]) Q E s := by
  refine KT.join_B (g := fun a => tx (f a)) 15 hl hc (fun a ha => by rw [tx_len]; exact hB a ha) (by omega) (by decide) fun t' k => ?_
  rw [join_tx]
  exact h t' k
end
end Mine
-- L01d
set_option maxHeartbeats 4000000
namespace Mine
local macro_rules | `(tactic| walk_at "MY:f") => `(tactic| repeat' (first | (k_unfold; (try dsimp only)) | (k_end; fail) | (
  (fail_if_success (with_reducible show wpAny _ _ (exec (Stmt.While _ _ _ _) _) _ _ _));
  (fail_if_success (with_reducible show wpAny _ _ (exec (Stmt.For _ _ _ _ _) _) _ _ _));
  (fail_if_success (with_reducible show wpAny _ _ (call (Value.ref _) _) _ _ _));
  (first | walk1 | (dsimp only; walk1)))))
local macro_rules | `(tactic| walk_at "MY:s") => `(tactic| repeat' (first | (k_unfold; (try dsimp only)) | (k_end; fail) | (
  (fail_if_success (with_reducible show wpAny _ _ (subscriptTail _ _ _ _) _ _ _));
  (fail_if_success (with_reducible show wpAny _ _ (exec (Stmt.Expr _ _) _) _ _ _));
  (first | walk1 | (dsimp only; walk1)))))
local macro_rules | `(tactic| walk_at "MY:n") => `(tactic| ((first | walk1 | (dsimp only; walk1))))
local macro_rules | `(tactic| walk_at "MY:w") => `(tactic| repeat' (first | (k_unfold; (try dsimp only)) | (k_end; fail) | (
  (fail_if_success (with_reducible show wpAny _ _ (storeName _ (Str.ofString "stairs") _) _ _ _));
  (fail_if_success (with_reducible show wpAny _ _ (storeName _ (Str.ofString "bounds") _) _ _ _));
  (fail_if_success (with_reducible show wpAny _ _ (storeName _ (Str.ofString "lead") _) _ _ _));
  (fail_if_success (with_reducible show wpAny _ _ (storeName _ (Str.ofString "shift") _) _ _ _));
  (fail_if_success (with_reducible show LCg.CompEnd _ _ _ _ _ _ _ _ _ _ _ _ _ _));
  (fail_if_success (with_reducible show KCtEl _ _ _ _));
  (fail_if_success (with_reducible show KCfEl _ _ _ _));
  (fail_if_success (with_reducible show KPfDone _));
  (fail_if_success (with_reducible show wpAny _ _ (binaryOp Operator.Mult _ _) _ _ _));
  (fail_if_success (with_reducible show wpAny _ _ (binaryOp Operator.Add (Value.str _ _) _) _ _ _));
  (fail_if_success (with_reducible show wpAny _ _ (call (Value.builtin "str.join") _) _ _ _));
  (fail_if_success (with_reducible show LCg.CompSrc _ _ _ _ _ _ _ _ _ _ _ _ _ _));
  (fail_if_success (with_reducible show wpAny _ _ (exec (Stmt.For _ _ _ _ _) _) _ _ _));
  (fail_if_success (with_reducible show wpAny _ _ (exec (Stmt.While _ _ _ _) _) _ _ _));
  (fail_if_success (with_reducible show wpAny _ _ (pyIter _) _ _ _));
  (fail_if_success (with_reducible show wpAny _ _ (call (Value.ref _) _) _ _ _));
  (fail_if_success (with_reducible show wpAny _ _ (call (Value.builtin "re.Pattern.sub") _) _ _ _));
  (first | walk1 | (dsimp only; walk1)))))
local macro_rules | `(tactic| walk_at "MY:same") => `(tactic| (intro z hz h2 h3; (simp only [List.forall_mem_cons, List.not_mem_nil, false_implies, implies_true, and_true, ne_eq] at h2); (simp only [List.contains_cons, List.contains_nil, Bool.or_false, Bool.or_eq_false_iff, beq_eq_false_iff_ne, ne_eq] at h3); (simp [hz, h2, h3])))
/-- the stairs' text -/
def stepL (c : Nat) (k : Int) : List Nat := List.replicate (2 * (c : Int) - 1 - k).toNat 32 ++ [9]
def stairsL (c : Nat) : List Nat := ((rangeKs 1 c).map (stepL c)).flatten ++ [32]
theorem stairs_ok : ∀ c, 3 ≤ c → c ≤ 5 → (tx (stairsL c)).cps.all (fun c => c == 32 || c == 9) = true ∧ (stairsL c).length ≤ 90 := by
  intro c h1 h2
  have e : (tx (stairsL c)).cps.all (fun c => c == 32 || c == 9) = (stairsL c).all (fun c => c == 32 || c == 9) := by simp
  rw [e]
  rcases (show c = 3 ∨ c = 4 ∨ c = 5 by omega) with rfl | rfl | rfl <;> decide
def nonCell (o : Obj) : Bool := match o.data with | .cell _ => false | _ => true
theorem nu {a b : Nat} (h : b < a) : @Ne Nat a b := by omega
theorem nd {a b : Nat} (h : a < b) : @Ne Nat a b := by omega
theorem l1 (a : Nat) : a < a + 1 := by omega
theorem l2 {a b : Nat} (h : a < b) : a < b + 1 := by omega
theorem apart2a {L : Addr} {o5 o4 o3 : Obj} : AllNeA (L + 1 + 1 + 1) [(L + 1 + 1 + 1 + 1 + 1 + 1, o5), (L + 1 + 1 + 1 + 1 + 1, o4), (L + 1 + 1 + 1 + 1, o3)] := ⟨nu (l2 (l2 (l1 _))), nu (l2 (l1 _)), nu (l1 _), trivial⟩
theorem apart2b {L : Addr} {o1 o0 : Obj} : AllNeA (L + 1 + 1 + 1) [(L + 1 + 1, o1), (L + 1, o0)] := ⟨nd (l1 _), nd (l2 (l1 _)), trivial⟩
theorem apart3a {L : Addr} {o5 o4 : Obj} : AllNeA (L + 1 + 1 + 1 + 1) [(L + 1 + 1 + 1 + 1 + 1 + 1, o5), (L + 1 + 1 + 1 + 1 + 1, o4)] := ⟨nu (l2 (l1 _)), nu (l1 _), trivial⟩
theorem apart3b {L : Addr} {o2 o1 o0 : Obj} : AllNeA (L + 1 + 1 + 1 + 1) [(L + 1 + 1 + 1, o2), (L + 1 + 1, o1), (L + 1, o0)] := ⟨nd (l1 _), nd (l2 (l1 _)), nd (l2 (l2 (l1 _))), trivial⟩
theorem apart4a {L : Addr} {o5 : Obj} : AllNeA (L + 1 + 1 + 1 + 1 + 1) [(L + 1 + 1 + 1 + 1 + 1 + 1, o5)] := ⟨nu (l1 _), trivial⟩
theorem apart4b {L : Addr} {o3 o2 o1 o0 : Obj} : AllNeA (L + 1 + 1 + 1 + 1 + 1) [(L + 1 + 1 + 1 + 1, o3), (L + 1 + 1 + 1, o2), (L + 1 + 1, o1), (L + 1, o0)] := ⟨nd (l1 _), nd (l2 (l1 _)), nd (l2 (l2 (l1 _))), nd (l2 (l2 (l2 (l1 _)))), trivial⟩
theorem apart5a {L : Addr} : AllNeA (L + 1 + 1 + 1 + 1 + 1 + 1) [] := trivial
theorem apart5b {L : Addr} {o4 o3 o2 o1 o0 : Obj} : AllNeA (L + 1 + 1 + 1 + 1 + 1 + 1) [(L + 1 + 1 + 1 + 1 + 1, o4), (L + 1 + 1 + 1 + 1, o3), (L + 1 + 1 + 1, o2), (L + 1 + 1, o1), (L + 1, o0)] := ⟨nd (l1 _), nd (l2 (l1 _)), nd (l2 (l2 (l1 _))), nd (l2 (l2 (l2 (l1 _)))), nd (l2 (l2 (l2 (l2 (l1 _))))), trivial⟩
theorem allNeA_mem {a : Addr} {l : List (Addr × Obj)} (h : AllNeA a l) : ∀ p ∈ l, p.1 ≠ a := by
  induction l with
  | nil => intro p hp; cases hp
  | cons q r ih =>
    intro p hp
    rcases List.mem_cons.mp hp with e | hp
    · rw [e]; exact h.1
    · exact ih h.2 p hp
theorem stCell {M : Model} {A : Around} {E : Value → Shared → Prop} {s : Shared} {name : Str} {scope : Scope} {L fa : Addr} {cd : Value} {h₀ : Heap} {m : Str → Option Value} {x : Str} {cc : Addr} {o : Obj} {v₀ : Option Value} {v : Value} (own pre post : List (Addr × Obj)) {Q : Unit → Shared → Prop} (F : Fr h₀ L s.heap m) (N : News h₀ L s.heap (own ++ (pre ++ (cc, o) :: post)))
    (hc : (cellsFrom (L + 1) scope.names []).lookup x = some cc) (hd : o.data = .cell v₀) (h0 : own.all (fun p => nonCell p.2) = true) (h1 : AllNeA cc pre) (h2 : AllNeA cc post)
    (h : ∀ h' o', Fr h₀ L h' m → News h₀ L h' (own ++ (pre ++ (cc, o') :: post)) → o'.data = .cell (some v) → Q () { s with heap := h' })
    (hk : scope.kind = .function := by rfl) (hl : (envOfC name scope L fa cd).kindOf x = some .cell := by rfl) :
    wpAny M A (storeName (envOfC name scope L fa cd) x v) Q E s := by
  refine stCN (own := own ++ pre) (rest := post) F (by rw [List.append_assoc]; exact N) hc hd ?_ (allNeA_mem h2) (fun h' o' F' N' d' => h h' o' F' (by rw [List.append_assoc] at N'; exact N') d') hk hl
  intro p hp
  rcases List.mem_append.mp hp with hp | hp
  · intro e
    have e1 := (N p (List.mem_append_left _ hp)).1
    have e2 := (N (cc, o) (List.mem_append_right _ (List.mem_append_right _ (.head _)))).1
    rw [e] at e1
    have e3 := List.all_eq_true.mp h0 p hp
    have e4 : p.2 = o := Option.some.inj (e1.symm.trans e2)
    unfold nonCell at e3
    rw [e4, hd] at e3
    cases e3
  · exact allNeA_mem h1 p hp
abbrev cells6 (L : Addr) (o0 o1 o2 o3 o4 o5 : Obj) : List (Addr × Obj) := [(L + 1 + 1 + 1 + 1 + 1 + 1, o5), (L + 1 + 1 + 1 + 1 + 1, o4), (L + 1 + 1 + 1 + 1, o3), (L + 1 + 1 + 1, o2), (L + 1 + 1, o1), (L + 1, o0)]
section
variable {M : Model} {A : Around} {E : Value → Shared → Prop} {s : Shared} {L fa : Addr} {cd : Value} {h₀ : Heap} {m : Str → Option Value} {o0 o1 o2 o3 o4 o5 : Obj} {v₀ : Option Value} {v : Value} {Q : Unit → Shared → Prop}
theorem st_stairs (own : List (Addr × Obj)) (F : Fr h₀ L s.heap m) (N : News h₀ L s.heap (own ++ cells6 L o0 o1 o2 o3 o4 o5)) (hd : o2.data = .cell v₀) (h0 : own.all (fun p => nonCell p.2) = true)
    (h : ∀ h' o2, Fr h₀ L h' m → News h₀ L h' (own ++ cells6 L o0 o1 o2 o3 o4 o5) → o2.data = .cell (some v) → Q () { s with heap := h' }) :
    wpAny M A (storeName (env1 L fa cd) (Str.ofString "stairs") v) Q E s :=
  stCell own [(L + 1 + 1 + 1 + 1 + 1 + 1, o5), (L + 1 + 1 + 1 + 1 + 1, o4), (L + 1 + 1 + 1 + 1, o3)] [(L + 1 + 1, o1), (L + 1, o0)] F N (by rfl) hd h0 apart2a apart2b h (by rfl) (by rfl)
theorem st_bounds (own : List (Addr × Obj)) (F : Fr h₀ L s.heap m) (N : News h₀ L s.heap (own ++ cells6 L o0 o1 o2 o3 o4 o5)) (hd : o3.data = .cell v₀) (h0 : own.all (fun p => nonCell p.2) = true)
    (h : ∀ h' o3, Fr h₀ L h' m → News h₀ L h' (own ++ cells6 L o0 o1 o2 o3 o4 o5) → o3.data = .cell (some v) → Q () { s with heap := h' }) :
    wpAny M A (storeName (env1 L fa cd) (Str.ofString "bounds") v) Q E s :=
  stCell own [(L + 1 + 1 + 1 + 1 + 1 + 1, o5), (L + 1 + 1 + 1 + 1 + 1, o4)] [(L + 1 + 1 + 1, o2), (L + 1 + 1, o1), (L + 1, o0)] F N (by rfl) hd h0 apart3a apart3b h (by rfl) (by rfl)
theorem st_shift (own : List (Addr × Obj)) (F : Fr h₀ L s.heap m) (N : News h₀ L s.heap (own ++ cells6 L o0 o1 o2 o3 o4 o5)) (hd : o4.data = .cell v₀) (h0 : own.all (fun p => nonCell p.2) = true)
    (h : ∀ h' o4, Fr h₀ L h' m → News h₀ L h' (own ++ cells6 L o0 o1 o2 o3 o4 o5) → o4.data = .cell (some v) → Q () { s with heap := h' }) :
    wpAny M A (storeName (env1 L fa cd) (Str.ofString "shift") v) Q E s :=
  stCell own [(L + 1 + 1 + 1 + 1 + 1 + 1, o5)] [(L + 1 + 1 + 1 + 1, o3), (L + 1 + 1 + 1, o2), (L + 1 + 1, o1), (L + 1, o0)] F N (by rfl) hd h0 apart4a apart4b h (by rfl) (by rfl)
theorem st_lead (own : List (Addr × Obj)) (F : Fr h₀ L s.heap m) (N : News h₀ L s.heap (own ++ cells6 L o0 o1 o2 o3 o4 o5)) (hd : o5.data = .cell v₀) (h0 : own.all (fun p => nonCell p.2) = true)
    (h : ∀ h' o5, Fr h₀ L h' m → News h₀ L h' (own ++ cells6 L o0 o1 o2 o3 o4 o5) → o5.data = .cell (some v) → Q () { s with heap := h' }) :
    wpAny M A (storeName (env1 L fa cd) (Str.ofString "lead") v) Q E s :=
  stCell own [] [(L + 1 + 1 + 1 + 1 + 1, o4), (L + 1 + 1 + 1 + 1, o3), (L + 1 + 1 + 1, o2), (L + 1 + 1, o1), (L + 1, o0)] F N (by rfl) hd h0 apart5a apart5b h (by rfl) (by rfl)
end
end Mine
-- L01c
set_option maxHeartbeats 4000000
namespace Mine
local macro_rules | `(tactic| walk_at "MY:f") => `(tactic| repeat' (first | (k_unfold; (try dsimp only)) | (k_end; fail) | (
  (fail_if_success (with_reducible show wpAny _ _ (exec (Stmt.While _ _ _ _) _) _ _ _));
  (fail_if_success (with_reducible show wpAny _ _ (exec (Stmt.For _ _ _ _ _) _) _ _ _));
  (fail_if_success (with_reducible show wpAny _ _ (call (Value.ref _) _) _ _ _));
  (first | walk1 | (dsimp only; walk1)))))
local macro_rules | `(tactic| walk_at "MY:s") => `(tactic| repeat' (first | (k_unfold; (try dsimp only)) | (k_end; fail) | (
  (fail_if_success (with_reducible show wpAny _ _ (subscriptTail _ _ _ _) _ _ _));
  (fail_if_success (with_reducible show wpAny _ _ (exec (Stmt.Expr _ _) _) _ _ _));
  (first | walk1 | (dsimp only; walk1)))))
local macro_rules | `(tactic| walk_at "MY:n") => `(tactic| ((first | walk1 | (dsimp only; walk1))))
local macro_rules | `(tactic| walk_at "MY:w") => `(tactic| repeat' (first | (k_unfold; (try dsimp only)) | (k_end; fail) | (
  (fail_if_success (with_reducible show wpAny _ _ (storeName _ (Str.ofString "stairs") _) _ _ _));
  (fail_if_success (with_reducible show wpAny _ _ (storeName _ (Str.ofString "bounds") _) _ _ _));
  (fail_if_success (with_reducible show wpAny _ _ (storeName _ (Str.ofString "lead") _) _ _ _));
  (fail_if_success (with_reducible show wpAny _ _ (storeName _ (Str.ofString "shift") _) _ _ _));
  (fail_if_success (with_reducible show LCg.CompEnd _ _ _ _ _ _ _ _ _ _ _ _ _ _));
  (fail_if_success (with_reducible show KCtEl _ _ _ _));
  (fail_if_success (with_reducible show KCfEl _ _ _ _));
  (fail_if_success (with_reducible show KPfDone _));
  (fail_if_success (with_reducible show wpAny _ _ (binaryOp Operator.Mult _ _) _ _ _));
  (fail_if_success (with_reducible show wpAny _ _ (binaryOp Operator.Add (Value.str _ _) _) _ _ _));
  (fail_if_success (with_reducible show wpAny _ _ (call (Value.builtin "str.join") _) _ _ _));
  (fail_if_success (with_reducible show LCg.CompSrc _ _ _ _ _ _ _ _ _ _ _ _ _ _));
  (fail_if_success (with_reducible show wpAny _ _ (exec (Stmt.For _ _ _ _ _) _) _ _ _));
  (fail_if_success (with_reducible show wpAny _ _ (exec (Stmt.While _ _ _ _) _) _ _ _));
  (fail_if_success (with_reducible show wpAny _ _ (pyIter _) _ _ _));
  (fail_if_success (with_reducible show wpAny _ _ (call (Value.ref _) _) _ _ _));
  (fail_if_success (with_reducible show wpAny _ _ (call (Value.builtin "re.Pattern.sub") _) _ _ _));
  (first | walk1 | (dsimp only; walk1)))))
local macro_rules | `(tactic| walk_at "MY:same") => `(tactic| (intro z hz h2 h3; (simp only [List.forall_mem_cons, List.not_mem_nil, false_implies, implies_true, and_true, ne_eq] at h2); (simp only [List.contains_cons, List.contains_nil, Bool.or_false, Bool.or_eq_false_iff, beq_eq_false_iff_ne, ne_eq] at h3); (simp [hz, h2, h3])))
theorem sectC {w : World} {dp : Nat} {fr : Option (List Env)} {gd : Option (List Code)} {un : Nat} {s : Shared} {mg mb : Str → Option Value} {p : Program} {loose : List Str} {mean : ExcName → Option Value} {h₀ : Heap} {L fa hp wi a : Addr} {cd : Value} {vh : Array Value} {eh ew ec c : Nat} {hs W cm tks : List Int} {yw vc : List Value} {t0 t1 : Tok} {u : Str → Option Value} {o0 o1 o2 o3 o4 o5 : Obj} {Q : Flow → Shared → Prop}
    (F : Fr h₀ L s.heap (kstB u [(Str.ofString "heaps", Value.ref hp), (Str.ofString "wishes", Value.ref wi), (Str.ofString "came", Value.ref a)])) (X : (hd01.heap_39 w.params).In h₀) (T : Top p loose mean mg mb h₀)
    (N : News h₀ L s.heap [(a, PySem.W.listOf vc.toArray ec), (wi, PySem.W.listOf yw.toArray ew), (hp, PySem.W.listOf vh eh), (L + 1 + 1 + 1 + 1 + 1 + 1, o5), (L + 1 + 1 + 1 + 1 + 1, o4), (L + 1 + 1 + 1 + 1, o3), (L + 1 + 1 + 1, o2), (L + 1 + 1, o1), (L + 1, o0)])
    (d0 : o0.data = .cell (some (.int (c : Nat) t0))) (d1 : o1.data = .cell (some (.int (2 * c : Nat) t1))) (d2 : o2.data = .cell none) (d3 : o3.data = .cell none) (d4 : o4.data = .cell none) (d5 : o5.data = .cell none)
    (next : ∀ (i : WsI) (b : Addr) (yb : List Value) (eb : Nat) (o2 o3 : Obj) u h' tk', i.x = tx (stairsL c) → IntsAre i.vs (wsF i.x.cps.toList).1 → IntsAre yb ((rangeKs c c).map fun k => indentF (stairsL c) k.toNat) → o2.data = .cell (some (.ref i.y)) → o3.data = .cell (some (.ref b)) →
      Fr h₀ L h' (kstB u [(Str.ofString "heaps", Value.ref hp), (Str.ofString "wishes", Value.ref wi), (Str.ofString "came", Value.ref a)]) →
      News h₀ L h' ((b, PySem.W.listOf yb.toArray eb) :: (wsLed 100 w.params i ++ [(a, PySem.W.listOf vc.toArray ec), (wi, PySem.W.listOf yw.toArray ew), (hp, PySem.W.listOf vh eh), (L + 1 + 1 + 1 + 1 + 1 + 1, o5), (L + 1 + 1 + 1 + 1 + 1, o4), (L + 1 + 1 + 1 + 1, o3), (L + 1 + 1 + 1, o2), (L + 1 + 1, o1), (L + 1, o0)])) →
      wpAny (model prog1 w) { handled := none, depth := dp, frames := fr, guards := gd, units := un } (execs (law1.1.drop 8) (env1 L fa cd)) Q (fun _ _ => False) { s with heap := h', toks := tk' })
    (h3 : 3 ≤ c) (h5 : c ≤ 5) (hroom : dp + 5 < recursionLimit) :
    wpAny (model prog1 w) { handled := none, depth := dp, frames := fr, guards := gd, units := un } (execs (law1.1.drop 6) (env1 L fa cd)) Q (fun _ _ => False) s := by
  have hX := X
  have hb : law1 = (_, _) := rfl
  rw [hb] at next ⊢
  clear hb
  dsimp only [List.drop, kstB] at F next ⊢
  walk_at "MY:w"
  rename Fr _ _ _ _ => F1
  rename News _ _ _ _ => N1
  rename IsRange _ _ _ _ _ _ _ _ => hr
  have hcn : ((c : Int) + 1 - 1).toNat = c := by omega
  refine LCg.CompSrc.range (by rfl) F1 N1 hr (small_one (by omega) (by omega) (by omega) (by omega)) (rangeSize_nat _ _) (by rw [PySem.sizeLine_eq]; omega) ?_
  intro g'
  rw [hcn]
  refine' kct_range (fun k => tx (stepL c k)) (fun k' t' I' oI' C' oC' D' m' ys' h' tk' E' hlo' hhi' hC' hx' F' N' off' ne' mk' => ?_) ?_
  · clear F1 N1 hr
    have hb1 : -100000 ≤ (2 * c : Nat) - 1 - k' ∧ (2 * c : Nat) - 1 - k' ≤ 20 := by omega
    dsimp only
    walk_at "MY:w"
    refine mulT tx_sp hb1.1 (Int.le_trans hb1.2 (by decide)) ?_
    intro t6 k6
    walk_at "MY:w"
    refine addT rfl tx_tab (by rw [List.length_replicate]; show _ + 1 ≤ _; clear off' ne'; omega) ?_
    intro t7 k7
    walk_at "MY:w"
    exact LCg.CompEnd.intro F' N' _ (fun p hp => hp) off' trivial ⟨rfl, t7, rfl⟩
  · unfold KPfDone
    clear F1 N1 hr
    intro ys hC hK D h6 tk6 F2 N2 off2
    dsimp only
    walk_at "MY:w"
    have hlen : ∀ k ∈ rangeKs 1 c, (stepL c k).length ≤ 15 := by
      intro k hk
      have := mem_rangeKs hk
      unfold stepL
      rw [List.length_append, List.length_replicate]
      show _ + 1 ≤ _
      omega
    obtain ⟨hst1, hst2⟩ := stairs_ok c h3 h5
    refine joinT (News.isList N2 (.head _)) hC hlen (by omega) ?_
    intro t8 k8
    walk_at "MY:w"
    refine addT rfl tx_sp (by unfold stairsL at hst2; rw [List.length_append] at hst2; show _ + 1 ≤ _; rw [show ([32] : List Nat).length = 1 from rfl] at hst2; omega) ?_
    intro t9 k9
    walk_at "MY:w"
    show wpAny _ _ (call (.ref 100) [.str (tx (stairsL c)) t9]) _ _ _
    refine ws_1 F2 hX T N2 (by omega) hst1 (by show (stairsL c).toArray.size ≤ _; rw [List.size_toArray]; omega) ?_
    intro i h7 tk7 hix hiv F3 N3
    replace N3 := kst_newsOf (l' := (wsLed 100 w.params i ++ [(a, PySem.W.listOf vc.toArray ec), (wi, PySem.W.listOf yw.toArray ew), (hp, PySem.W.listOf vh eh)]) ++ cells6 L o0 o1 o2 o3 o4 o5) N3 (fun p hp => by
      rw [List.append_assoc] at hp
      rcases List.mem_append.mp hp with h | h
      · exact List.mem_append_left _ h
      · exact List.mem_append_right _ (.tail _ h))
    clear N2 F2
    refine st_stairs (wsLed 100 w.params i ++ [(a, PySem.W.listOf vc.toArray ec), (wi, PySem.W.listOf yw.toArray ew), (hp, PySem.W.listOf vh eh)]) F3 N3 d2 rfl ?_
    clear N3 F3
    intro h8 o2' F4 N4 d2'
    dsimp only [cells6, wsLed, List.cons_append, List.nil_append] at N4
    walk_at "MY:w"
    skip
    rename Fr _ _ _ _ => F5
    rename News _ _ _ _ => N5
    rename IsRange _ _ _ _ _ _ _ _ => hr
    refine LCg.CompSrc.range (by rfl) F5 N5 hr (small_one (by omega) (by omega) (by omega) (by omega)) (rangeSize_nat _ _) (by rw [PySem.sizeLine_eq]; omega) ?_
    intro g'
    rw [show (((2 * c : Nat) : Int) - c).toNat = c by omega]
    refine' kcf_range (fun k => indentF (stairsL c) k.toNat) (fun k' t' I' oI' C' oC' D' m' ys' h' tk' E' hlo' hhi' hC' hx' F' N' off' ne' mk' => ?_) ?_
    · clear F5 N5 hr
      obtain ⟨ts, rfl⟩ := Int.eq_ofNat_of_zero_le (show 0 ≤ k' by clear ne'; omega)
      have hts : 1 ≤ ts ∧ ts ≤ 100 := by clear ne'; omega
      have hsz : i.x.cps.size ≤ 10000 := by rw [hix]; show (stairsL c).toArray.size ≤ _; rw [List.size_toArray]; clear ne'; omega
      dsimp only
      walk_at "MY:w"
      refine indent_1 (i := i) F' hX T N' (fun p hp => .tail _ (.tail _ (.tail _ (List.mem_append_left _ hp)))) hiv (by clear ne' off'; omega) hsz hts.1 hts.2 ?_
      intro t6 h9 tk9 F6 N6
      refine LCg.CompEnd.intro F6 N6 _ (fun p hp => hp) off' trivial ⟨rfl, t6, ?_⟩
      rw [hix]; rfl
    · unfold KPfDone
      clear F5 N5 hr
      intro yb hC2 D2 h9 tk9 F6 N6 off3
      dsimp only
      refine st_bounds ((D2, LCg.lst yb) :: (wsLed 100 w.params i ++ [(a, PySem.W.listOf vc.toArray ec), (wi, PySem.W.listOf yw.toArray ew), (hp, PySem.W.listOf vh eh)])) F6 N6 d3 rfl ?_
      intro h10 o3' F7 N7 d3'
      walk_at "MY:n"
      exact next i D2 yb _ o2' o3' u _ _ hix hiv hC2 d2' d3' F7 N7
end Mine
-- L01e
set_option maxHeartbeats 4000000
namespace Mine
local macro_rules | `(tactic| walk_at "MY:f") => `(tactic| repeat' (first | (k_unfold; (try dsimp only)) | (k_end; fail) | (
  (fail_if_success (with_reducible show wpAny _ _ (exec (Stmt.While _ _ _ _) _) _ _ _));
  (fail_if_success (with_reducible show wpAny _ _ (exec (Stmt.For _ _ _ _ _) _) _ _ _));
  (fail_if_success (with_reducible show wpAny _ _ (call (Value.ref _) _) _ _ _));
  (first | walk1 | (dsimp only; walk1)))))
local macro_rules | `(tactic| walk_at "MY:s") => `(tactic| repeat' (first | (k_unfold; (try dsimp only)) | (k_end; fail) | (
  (fail_if_success (with_reducible show wpAny _ _ (subscriptTail _ _ _ _) _ _ _));
  (fail_if_success (with_reducible show wpAny _ _ (exec (Stmt.Expr _ _) _) _ _ _));
  (first | walk1 | (dsimp only; walk1)))))
local macro_rules | `(tactic| walk_at "MY:n") => `(tactic| ((first | walk1 | (dsimp only; walk1))))
local macro_rules | `(tactic| walk_at "MY:w") => `(tactic| repeat' (first | (k_unfold; (try dsimp only)) | (k_end; fail) | (
  (fail_if_success (with_reducible show wpAny _ _ (storeName _ (Str.ofString "stairs") _) _ _ _));
  (fail_if_success (with_reducible show wpAny _ _ (storeName _ (Str.ofString "bounds") _) _ _ _));
  (fail_if_success (with_reducible show wpAny _ _ (storeName _ (Str.ofString "lead") _) _ _ _));
  (fail_if_success (with_reducible show wpAny _ _ (storeName _ (Str.ofString "shift") _) _ _ _));
  (fail_if_success (with_reducible show wpAny _ _ (subscriptTail _ _ _ _) _ _ _));
  (fail_if_success (with_reducible show LCg.CompEnd _ _ _ _ _ _ _ _ _ _ _ _ _ _));
  (fail_if_success (with_reducible show KCtEl _ _ _ _));
  (fail_if_success (with_reducible show KCfEl _ _ _ _));
  (fail_if_success (with_reducible show KPfDone _));
  (fail_if_success (with_reducible show wpAny _ _ (binaryOp Operator.Mult _ _) _ _ _));
  (fail_if_success (with_reducible show wpAny _ _ (binaryOp Operator.Add (Value.str _ _) _) _ _ _));
  (fail_if_success (with_reducible show wpAny _ _ (call (Value.builtin "str.join") _) _ _ _));
  (fail_if_success (with_reducible show LCg.CompSrc _ _ _ _ _ _ _ _ _ _ _ _ _ _));
  (fail_if_success (with_reducible show wpAny _ _ (exec (Stmt.For _ _ _ _ _) _) _ _ _));
  (fail_if_success (with_reducible show wpAny _ _ (exec (Stmt.While _ _ _ _) _) _ _ _));
  (fail_if_success (with_reducible show wpAny _ _ (pyIter _) _ _ _));
  (fail_if_success (with_reducible show wpAny _ _ (call (Value.ref _) _) _ _ _));
  (fail_if_success (with_reducible show wpAny _ _ (call (Value.builtin "re.Pattern.sub") _) _ _ _));
  (first | walk1 | (dsimp only; walk1)))))
local macro_rules | `(tactic| walk_at "MY:same") => `(tactic| (intro z hz h2 h3; (simp only [List.forall_mem_cons, List.not_mem_nil, false_implies, implies_true, and_true, ne_eq] at h2); (simp only [List.contains_cons, List.contains_nil, Bool.or_false, Bool.or_eq_false_iff, beq_eq_false_iff_ne, ne_eq] at h3); (simp [hz, h2, h3])))
theorem pick_from (items : Array Value) {x : Int} (h : 0 ≤ x) : slicePick items (some x) none none = (items.toList.drop x.toNat).toArray := by
  have e : sliceBounds (some x) none none items.size = (((min x.toNat items.size : Nat) : Int), ((items.size : Nat) : Int), 1) := by
    simp only [sliceBounds, Option.getD_none, show (1 : Int) > 0 by decide, if_true, if_neg (show ¬ (x < 0) by omega)]
    congr 1
    omega
  rw [kmk_pick_nat _ e, ← Array.length_toList, kmk_drop_min, List.take_of_length_le]
  rw [List.length_drop]; omega
theorem slice_tmp {prog : Program} {w : World} {A : Around} {E : Value → Shared → Prop} {s : Shared} {h₀ : Heap} {L : Addr} {m : Str → Option Value} {news : List (Addr × Obj)} {value slice : Expr} {l : Addr} {items : Array Value} {vl vu : Value} {lo hi : Option Int} {Q : Value → Shared → Prop}
    (F : Fr h₀ L s.heap m) (N : News h₀ L s.heap news) (hl : s.heap.IsList l items) (pl : IsPart vl lo) (pu : IsPart vu hi)
    (h : ∀ D h', Fr h₀ L h' m → News h₀ L h' ((D, PySem.W.listOf (slicePick items lo hi none) 0) :: news) → Q (.ref D) { s with heap := h' })
    (hs : subscripted slice false (.ref l) (.ref s.heap.objs.size) = operate [.ref s.heap.objs.size, .ref l] (getItem (.ref l) (.ref s.heap.objs.size))) (hsz : items.size ≤ sizeLine) :
    wpAny (model prog w) A (subscriptTail value slice (.ref l) (.ref s.heap.objs.size)) Q E { s with heap := s.heap.push { cls := .type "slice", data := .fields #[vl, vu, .none] } } := by
  refine tail_any (Heap.IsList.typeIs (s := { s with heap := s.heap.push { cls := .type "slice", data := .fields #[vl, vu, .none] } }) (hl.push _)) list_getitem_lookup
    (wpAny_getItem_list_slice (hl.push _) (Heap.IsSliceOf.new ..) pl pu .none (by simp) ?_ hsz) hs
  have N1 := News.push (F.push { cls := .type "slice", data := .fields #[vl, vu, .none] }) (N.grown fun _ _ e => Heap.get?_push_of_some _ e) { cls := .type "list", data := .seq (slicePick items lo hi none) }
  exact h _ _ ((F.push _).push _) N1
def ends7 : List (List Nat) := [[10], [13], [13, 10], [10], [13], [13, 10], [10]]
theorem ends_at {t0 t1 t2 t3 t4 t5 t6 : Tok} (r j : Nat) (hr : r < 3) (hj : j < 5) : ∃ t, (([Value.str (Str.ofString "\n") t0, .str (Str.ofString "\x0d") t1, .str (Str.ofString "\x0d\n") t2, .str (Str.ofString "\n") t3, .str (Str.ofString "\x0d") t4, .str (Str.ofString "\x0d\n") t5, .str (Str.ofString "\n") t6] : List Value).drop r)[j]? = some (.str (tx ((ends7.drop r).getD j [])) t) := by
  rcases (show r = 0 ∨ r = 1 ∨ r = 2 by omega) with rfl | rfl | rfl <;> rcases (show j = 0 ∨ j = 1 ∨ j = 2 ∨ j = 3 ∨ j = 4 by omega) with rfl | rfl | rfl | rfl | rfl <;> exact ⟨_, rfl⟩
def rowsL (W : List Int) (r k : Nat) : List Nat := ((List.range k).map fun j => List.replicate ((W.getD j 0).toNat + 1) 46 ++ (ends7.drop r).getD j []).flatten
theorem sectD {w : World} {dp : Nat} {fr : Option (List Env)} {gd : Option (List Code)} {un : Nat} {s : Shared} {mg mb : Str → Option Value} {p : Program} {loose : List Str} {mean : ExcName → Option Value} {h₀ : Heap} {L fa hp wi a b : Addr} {i : WsI} {cd : Value} {vh : Array Value} {eh ew ec eb c : Nat} {hs W cm tks : List Int} {yw vc yb : List Value} {t0 t1 : Tok} {u : Str → Option Value} {o0 o1 o2 o3 o4 o5 : Obj} {Q : Flow → Shared → Prop}
    (F : Fr h₀ L s.heap (kstB u [(Str.ofString "heaps", Value.ref hp), (Str.ofString "wishes", Value.ref wi), (Str.ofString "came", Value.ref a)])) (X : (hd01.heap_39 w.params).In h₀) (T : Top p loose mean mg mb h₀)
    (N : News h₀ L s.heap ((b, PySem.W.listOf yb.toArray eb) :: (wsLed 100 w.params i ++ [(a, PySem.W.listOf vc.toArray ec), (wi, PySem.W.listOf yw.toArray ew), (hp, PySem.W.listOf vh eh), (L + 1 + 1 + 1 + 1 + 1 + 1, o5), (L + 1 + 1 + 1 + 1 + 1, o4), (L + 1 + 1 + 1 + 1, o3), (L + 1 + 1 + 1, o2), (L + 1 + 1, o1), (L + 1, o0)])))
    (d0 : o0.data = .cell (some (.int (c : Nat) t0))) (d1 : o1.data = .cell (some (.int (2 * c : Nat) t1))) (hi : IntsAre vh.toList hs) (hlen : hs.length = 5) (hpos : ∀ v ∈ hs, 0 ≤ v) (hW : IntsAre yw W) (hWl : W.length = c) (hWb : ∀ v ∈ W, 0 ≤ v ∧ v < ((2 * c : Nat) : Int))
    (next : ∀ r tm ts u h' tk', r < 3 → (rowsL W r c).length ≤ 20 * c → Fr h₀ L h' (kstB u [(Str.ofString "heaps", Value.ref hp), (Str.ofString "wishes", Value.ref wi), (Str.ofString "came", Value.ref a), (Str.ofString "mail", Value.str (tx (rowsL W r c)) tm), (Str.ofString "sent", Value.str (tx (eolF false (rowsL W r c))) ts), (Str.ofString "start", Value.str (tx (eolF false (rowsL W r c))) ts)]) →
      News h₀ L h' [(b, PySem.W.listOf yb.toArray eb), (i.D', tupOf [Value.ref i.D, Value.int ((wsF i.x.cps.toList).2.1 : Nat) i.tb]), (i.D, tupOf i.vs), (i.y, instObj 100 i.d), (i.d, dictOf (wsDict w.params i.x i.t (i.x.cps.size : Nat) ((wsF i.x.cps.toList).2.2 : Nat) (decide ((((wsF i.x.cps.toList).1.length : Nat) : Int) ≤ 1)) i.D' i.t1 i.t2 i.t3 i.t4 i.t5 i.tn i.tnt) 5), (a, PySem.W.listOf vc.toArray ec), (wi, PySem.W.listOf yw.toArray ew), (hp, PySem.W.listOf vh eh), (L + 1 + 1 + 1 + 1 + 1 + 1, o5), (L + 1 + 1 + 1 + 1 + 1, o4), (L + 1 + 1 + 1 + 1, o3), (L + 1 + 1 + 1, o2), (L + 1 + 1, o1), (L + 1, o0)] →
      wpAny (model prog1 w) { handled := none, depth := dp, frames := fr, guards := gd, units := un } (execs (law1.1.drop 14) (env1 L fa cd)) Q (fun _ _ => False) { s with heap := h', toks := tk' })
    (h3 : 3 ≤ c) (h5 : c ≤ 5) (hroom : dp + 5 < recursionLimit) :
    wpAny (model prog1 w) { handled := none, depth := dp, frames := fr, guards := gd, units := un } (execs (law1.1.drop 8) (env1 L fa cd)) Q (fun _ _ => False) s := by
  have hX := X
  have hb : law1 = (_, _) := rfl
  rw [hb]
  clear hb
  dsimp only [List.drop, kstB] at F ⊢
  dsimp only [wsLed, List.cons_append, List.nil_append] at N
  walk_at "MY:w"
  rename Fr _ _ _ _ => F1
  rename News _ _ _ _ => N1
  have hr0 : 0 ≤ (hs.sum.fdiv 3).fmod 3 ∧ (hs.sum.fdiv 3).fmod 3 < 3 := ⟨fmod_lo _ (by decide), fmod_hi _ (by decide)⟩
  obtain ⟨r, hr⟩ := Int.eq_ofNat_of_zero_le hr0.1
  refine' slice_tmp ?yF ?yN ?yl ?yp ?yq ?_ ?ys ?yz
  case yF => exact F1
  case yN => exact N1
  case yl => exact News.isList N1 (.head _)
  case yp => exact IsPart.int _ _
  case yq => exact IsPart.none
  case ys => with_unfolding_all rfl
  case yz => (rw [PySem.sizeLine_eq]; show 7 ≤ 16777216; omega)
  intro D h6 F2 N2
  rw [hr, pick_from _ (by omega), Int.toNat_natCast] at N2
  have hzs := fun j hj => ends_at (t0 := s.toks) (t1 := s.toks + 1) (t2 := s.toks + 1 + 1) (t3 := s.toks + 1 + 1 + 1) (t4 := s.toks + 1 + 1 + 1 + 1) (t5 := s.toks + 1 + 1 + 1 + 1 + 1) (t6 := s.toks + 1 + 1 + 1 + 1 + 1 + 1) r j (by omega) hj
  dsimp only at N2
  generalize List.drop r [Value.str (Str.ofString "\n") s.toks, _, _, _, _, _, _] = zs at N2 hzs
  clear F1 N1
  walk_at "MY:w"
  rename Fr _ _ _ _ => F2
  rename News _ _ _ _ => N2
  have hlw : ((W.map fun v => UInt8.ofNat (65 + v.toNat))).length = c := by rw [List.length_map, hWl]
  refine word_1 (X.keeps F2.keep) (T.keeps F2.keep) (News.isList N2 (by k_mem)) hW (by omega) (fun v hv => by have := hWb v hv; omega) (by omega) ?_
  intro t6 h7 tk7 hst
  have F3 := fr_stays F2 hst
  have N3 := news_stays N2 hst
  clear F2 N2 hst
  walk_at "MY:w"
  refine For_invV h₀ rfl rfl ?_
  walk_at "MY:w"
  rename Fr _ _ _ _ => F4
  rename News _ _ _ _ => N4
  rename IsRange _ _ _ _ _ _ _ _ => hrg
  refine' loop_range (σ := List Nat × Tok) (n := c) (fun _ => [(D, PySem.W.listOf zs.toArray 0), (b, PySem.W.listOf yb.toArray eb), (i.D', tupOf [Value.ref i.D, Value.int ((wsF i.x.cps.toList).2.1 : Nat) i.tb]), (i.D, tupOf i.vs), (i.y, instObj 100 i.d), (i.d, dictOf (wsDict w.params i.x i.t (i.x.cps.size : Nat) ((wsF i.x.cps.toList).2.2 : Nat) (decide ((((wsF i.x.cps.toList).1.length : Nat) : Int) ≤ 1)) i.D' i.t1 i.t2 i.t3 i.t4 i.t5 i.tn i.tnt) 5), (a, PySem.W.listOf vc.toArray ec), (wi, PySem.W.listOf yw.toArray ew), (hp, PySem.W.listOf vh eh), (L + 1 + 1 + 1 + 1 + 1 + 1, o5), (L + 1 + 1 + 1 + 1 + 1, o4), (L + 1 + 1 + 1 + 1, o3), (L + 1 + 1 + 1, o2), (L + 1 + 1, o1), (L + 1, o0)])
    (fun c => [(Str.ofString "mail", .str (tx c.1) c.2)]) [] (fun k c => c.1 = rowsL W r k ∧ c.1.length ≤ 20 * k) ([], _) rfl hrg ⟨by omega, by omega⟩ ⟨by omega, by omega⟩ (by omega) F4
    (kst_newsOf N4 (List.forall_mem_cons.mpr ⟨.head _, fun p hp' => .tail _ (.tail _ hp')⟩)) (List.forall_mem_cons.mpr ⟨rfl, List.forall_mem_nil _⟩) ⟨rfl, Nat.le_refl _⟩ ?_ ?_
  · rintro k tk ⟨ml, tm⟩ u h8 tk8 own hk ⟨hJ1, hJ2⟩ hsep F5 N5
    clear F4 N4 hrg
    dsimp only [kstB, List.contains_nil, List.cons_append, List.nil_append, List.map] at F5 N5 hJ1 hJ2 hsep
    simp only [Int.zero_add] at F5
    have hkW : k < W.length := by omega
    have hgW : W.getD k 0 = W[k] := by rw [List.getD_eq_getElem?_getD, List.getElem?_eq_getElem hkW]; rfl
    have hWk := hWb _ (List.getElem_mem hkW)
    have hbyte : ((((W.map fun v => UInt8.ofNat (65 + v.toNat)).getD (k : Int).toNat 0).toNat : Nat) : Int) = 65 + W[k] := by
      rw [Int.toNat_natCast, List.getD_eq_getElem?_getD, List.getElem?_map, List.getElem?_eq_getElem hkW]
      simp only [Option.map_some, Option.getD_some]
      rw [UInt8.toNat_ofNat']
      omega
    walk_at "MY:w"
    refine bytes_item_K (by omega) (by omega) (by omega) hbyte ?_
    walk_at "MY:w"
    refine mulT tx_dot (by omega) (by omega) ?_
    intro t9 k9
    walk_at "MY:w"
    refine addT rfl rfl (by rw [List.length_replicate]; omega) ?_
    intro t10 k10
    walk_at "MY:w"
    obtain ⟨te, he⟩ := hzs k (by omega)
    rename Fr _ _ _ _ => F6
    rename News _ _ _ _ => N6
    refine item_list (News.isList N6 (.head _)) (by omega) (by omega) (by rw [Int.toNat_natCast, List.getElem?_toArray]; exact he) ?_
    walk_at "MY:w"
    have he3 : ((ends7.drop r).getD k []).length ≤ 2 := by
      rcases (show r = 0 ∨ r = 1 ∨ r = 2 by omega) with rfl | rfl | rfl <;> rcases (show k = 0 ∨ k = 1 ∨ k = 2 ∨ k = 3 ∨ k = 4 by omega) with rfl | rfl | rfl | rfl | rfl <;> decide
    have hlr : (ml ++ List.replicate (65 + W[k] - 64).toNat 46).length ≤ 20 * k + 15 := by rw [List.length_append, List.length_replicate]; omega
    refine addT rfl rfl (by omega) ?_
    intro t11 k11
    walk_at "MY:w"
    rename Fr _ _ _ _ => F7
    rename News _ _ _ _ => N7
    refine lend (_, _) F7 N7 (fun p hp' => List.mem_append_left own hp') (fun p hp' => .tail _ (.tail _ (.tail _ (.tail _ (.tail _ (.tail _ (.tail _ (.tail _ (.tail _ (.tail _ (.tail _ (.tail _ (.tail _ (.tail _ (.tail _ hp'))))))))))))))) hsep (List.forall_mem_cons.mpr ⟨rfl, List.forall_mem_nil _⟩) (by walk_at "MY:same") ⟨?_, ?_⟩
    · dsimp only
      unfold rowsL at hJ1 ⊢
      rw [List.range_succ, List.map_append, List.flatten_append, ← hJ1, List.map_singleton, List.flatten_singleton, List.append_assoc, hgW, show (65 + W[k] - 64).toNat = W[k].toNat + 1 by omega]
    · dsimp only
      rw [List.length_append]; omega
  · rintro ⟨ml, tm⟩ u h8 tk8 ⟨hJ1, hJ2⟩ F5 N5
    clear F4 N4 hrg
    dsimp only [kstB, List.contains_nil] at F5 N5 hJ1 hJ2
    subst hJ1
    walk_at "MY:w"
    rename Fr _ _ _ _ => F6
    rename News _ _ _ _ => N6
    refine wpAny_call (eols_1 (X.keeps F6.keep) (T.keeps F6.keep) (by omega) (by show (rowsL W r c).toArray.size ≤ _; rw [List.size_toArray]; omega) ?_)
    intro t12 h12 tk12 hst
    have F7 := fr_stays F6 hst
    have N7 := news_stays N6 hst
    clear F6 N6 hst
    walk_at "MY:n"
    walk_at "MY:n"
    iterate 4 (walk_at "MY:n")
    rename Fr _ _ _ _ => F8
    rename News _ _ _ _ => N8
    refine next r tm t12 _ _ _ (by omega) hJ2 (fr_kst F8 (List.forall_mem_cons.mpr ⟨rfl, List.forall_mem_cons.mpr ⟨rfl, List.forall_mem_cons.mpr ⟨rfl, List.forall_mem_cons.mpr ⟨rfl, List.forall_mem_cons.mpr ⟨rfl, List.forall_mem_cons.mpr ⟨rfl, List.forall_mem_nil _⟩⟩⟩⟩⟩⟩)) (kst_newsOf N8 (fun p hp' => .tail _ hp'))
end Mine
-- L01f
set_option maxHeartbeats 4000000
namespace Mine
/-- neither an iterator's nor a cell's object -/
def plainO (o : Obj) : Bool := match o.data with | .fields _ => false | .cell _ => false | _ => true
def CEnd {σ : Type} (h₀ : Heap) (L : Addr) (s : Shared) (base : σ → List (Addr × Obj)) (ps : σ → List (Str × Value)) (stored : List Str) (m₀ : Str → Option Value) (keep : σ → List (Addr × Obj)) (Inv : σ → Prop) (s₂ : Shared) : Prop :=
  ∃ (c' : σ) (h' : Heap) (tk : Nat) (m' : Str → Option Value) (news' : List (Addr × Obj)), s₂ = { s with heap := h', toks := tk } ∧ Fr h₀ L h' m' ∧ News h₀ L h' news' ∧ (∀ p ∈ base c', p ∈ news') ∧ (∀ p ∈ keep c', p ∈ news') ∧
    (∀ p ∈ ps c', m' p.1 = some p.2) ∧ (∀ z, (∀ p ∈ ps c', z ≠ p.1) → stored.contains z = false → m' z = m₀ z) ∧ Inv c'
theorem kst_fr2 {h₀ h : Heap} {L : Addr} {m m₀ : Str → Option Value} {stored : List Str} {ps : List (Str × Value)} (h1 : ∀ p ∈ ps, m p.1 = some p.2) (h2 : ∀ z, (∀ p ∈ ps, z ≠ p.1) → stored.contains z = false → m z = m₀ z) (F : Fr h₀ L h m) : Fr h₀ L h (kstB (fun z => if stored.contains z then m z else m₀ z) ps) := by
  have e : kstB (fun z => if stored.contains z then m z else m₀ z) ps = m := by
    funext z
    refine kstB_eq h1 fun hz => ?_
    cases hb : stored.contains z with
    | true => simp
    | false => simp [h2 z hz hb]
  rw [e]; exact F
section
variable {prog : Program} {w : World} {A : Around} {s : Shared} {h₀ : Heap} {L fa : Addr} {cd : Value} {body : List Stmt}
theorem forLoop_shift {σ : Type} {R : Result → Shared → Prop} {px : Pos} {I : Addr} {n : Nat} {m₀ : Str → Option Value} {o0 o1 o2 o3 o4 : Obj} (o5 : σ → Obj) (base : σ → List (Addr × Obj)) (ps : σ → List (Str × Value)) (stored : List Str) (Inv : Nat → σ → Prop) (c₀ : σ) (hh : A.handled = none)
    (hst : IsRangeIter s.heap I (0 + ((0 : Nat) : Int) * 1) ((n : Int) - ((0 : Nat) : Int)) 1) (hI : h₀.get? I = none) (hIL : I ≠ L) (hIc : ∀ b ∈ (cells6 L o0 o1 o2 o3 o4 (o5 c₀)).map (·.1), b ≠ I)
    (F : Fr h₀ L s.heap m₀) (N : News h₀ L s.heap (base c₀ ++ cells6 L o0 o1 o2 o3 o4 (o5 c₀))) (hd : ∃ v, o4.data = .cell v) (hk : ∀ p ∈ ps c₀, m₀ p.1 = some p.2) (h0 : Inv 0 c₀) (hnb : ∀ c, (base c).all (fun p => plainO p.2) = true)
    (turn : ∀ i t c (u : Str → Option Value) h tk oI o4, i < n → Inv i c → nonCell oI = true → o4.data = .cell (some (.int (i : Nat) t)) → Fr h₀ L h (kstB (fun z => if stored.contains z then u z else m₀ z) (ps c)) → News h₀ L h ((I, oI) :: (base c ++ cells6 L o0 o1 o2 o3 o4 (o5 c))) →
      wpAny (model prog w) A (execs body (env1 L fa cd)) (fun f s₂ => f = .next ∧ CEnd h₀ L { s with heap := h, toks := tk } base ps stored m₀ (fun c => (I, oI) :: cells6 L o0 o1 o2 o3 o4 (o5 c)) (Inv (i + 1)) s₂) (notedBy (model prog w) A (env1 L fa cd) fun e s' => R (.error e) s') { s with heap := h, toks := tk })
    (done : ∀ c (u : Str → Option Value) h tk o4, Inv n c → Fr h₀ L h (kstB (fun z => if stored.contains z then u z else m₀ z) (ps c)) → News h₀ L h (base c ++ cells6 L o0 o1 o2 o3 o4 (o5 c)) → R (.ok .next) { s with heap := h, toks := tk }) :
    codeAny (model prog w) A (.forLoop (.Name (Str.ofString "shift") px) (.ref I) body [] (env1 L fa cd)) R s := by
  have W := Walks.range (prog := prog) (w := w) hh I 0 1 n
  refine codeAny_forLoop
    (fun k s' => ∃ (i : Nat) (c : σ) (h' : Heap) (tk : Nat) (m' : Str → Option Value) (o4 : Obj), s' = { s with heap := h', toks := tk } ∧ IsRangeIter h' I (0 + (i : Int) * 1) ((n : Int) - (i : Int)) 1 ∧ Fr h₀ L h' m' ∧ News h₀ L h' (base c ++ cells6 L o0 o1 o2 o3 o4 (o5 c)) ∧ (∃ v, o4.data = .cell v) ∧
      (∀ p ∈ ps c, m' p.1 = some p.2) ∧ (∀ z, (∀ p ∈ ps c, z ≠ p.1) → stored.contains z = false → m' z = m₀ z) ∧ Inv i c ∧ i ≤ n ∧ k = n + 1 - i) ?_ (n + 1)
    ⟨0, c₀, s.heap, s.toks, m₀, o4, rfl, hst, F, N, hd, hk, fun _ _ _ => rfl, h0, Nat.zero_le _, rfl⟩
  rintro k s' ⟨i, c, h', tk, m', o4, rfl, hst', F', N', ⟨v0, hd'⟩, hk', hr', hJ, hi, rfl⟩
  have hne : ∀ p ∈ base c ++ cells6 L o0 o1 o2 o3 o4 (o5 c), p.1 ≠ I := by
    intro p hp e
    rcases List.mem_append.mp hp with hp | hp
    · have e1 := (N' p (List.mem_append_left _ hp)).1
      rw [e, hst'] at e1
      have e3 := List.all_eq_true.mp (hnb c) p hp
      rw [← Option.some.inj e1] at e3
      cases e3
    · exact hIc p.1 (List.mem_map_of_mem (f := (·.1)) hp) e
  have next : ∀ h₁ : Heap, (∀ b o, b ∉ [I] → h'.get? b = some o → h₁.get? b = some o) → Fr h₀ L h₁ m' ∧ News h₀ L h₁ (base c ++ cells6 L o0 o1 o2 o3 o4 (o5 c)) := fun h₁ hk₁ =>
    ⟨⟨F'.ns.at' fun o e => hk₁ _ o (fun hm => hIL (List.mem_singleton.mp hm).symm) e, fun b o e => hk₁ b o (fun hm => by rw [List.mem_singleton.mp hm, hI] at e; cases e) (F'.keep b o e), F'.above⟩,
      fun p hp => ⟨hk₁ _ _ (fun hm => hne p hp (List.mem_singleton.mp hm)) (N' p hp).1, (N' p hp).2⟩⟩
  by_cases hlt : i < n
  · refine W.item i _ _ _ hlt hst' fun v h₁ tk₁ hP hst₁ hk₁ => ?_
    obtain ⟨t, rfl⟩ := hP
    obtain ⟨F₁, N₁⟩ := next h₁ hk₁
    have N2 : News h₀ L h₁ (((I, _) :: base c) ++ cells6 L o0 o1 o2 o3 o4 (o5 c)) := fun p hp => by
      rcases List.mem_cons.mp hp with e | hp
      · rw [e]; exact ⟨hst₁, hIL, hI⟩
      · exact N₁ p hp
    refine wpAny_assign_Name (st_shift ((I, _) :: base c) F₁ N2 hd' ?_ fun h₂ o4' F₂ N₂ d₂ => ?_)
    · rw [List.all_cons]
      refine Bool.and_eq_true_iff.mpr ⟨rfl, List.all_eq_true.mpr fun p hp => ?_⟩
      have e3 := List.all_eq_true.mp (hnb c) p hp
      unfold plainO at e3
      unfold nonCell
      split
      · next e => rw [e] at e3; cases e3
      · rfl
    · refine wpAny_mono (turn i t c m' h₂ _ _ o4' hlt hJ rfl (by rw [d₂]; simp) (kst_fr2 hk' hr' F₂) N₂) (fun f s₃ h₃ => ?_) fun _ _ e => e
      obtain ⟨rfl, c', h', tk', m2, news', rfl, F₃, N₃, hb₃, hkeep, hk₃, hr₃, hJ₃⟩ := h₃
      exact ⟨n + 1 - (i + 1), by omega, i + 1, c', h', tk', m2, o4', rfl, (N₃ _ (hkeep _ (.head _))).1, F₃, fun p hp => N₃ p ((List.mem_append.mp hp).elim (hb₃ p) fun h => hkeep p (.tail _ h)), ⟨_, d₂⟩, hk₃, hr₃, hJ₃, hlt, rfl⟩
  · have hin : i = n := by omega
    subst hin
    refine W.done _ _ _ hst' fun h₁ tk₁ hk₁ => wpAny_execs_nil ?_
    obtain ⟨F₁, N₁⟩ := next h₁ hk₁
    exact done c m' h₁ tk₁ o4 hJ (kst_fr2 hk' hr' F₁) N₁
abbrev ShiftLoop (prog : Program) (w : World) (A : Around) (env : Env) (px : Pos) (body : List Stmt) (Q : Flow → Shared → Prop) (E : Value → Shared → Prop) (it : Value) (s₂ : Shared) : Prop :=
  codeAny (model prog w) A (.forLoop (.Name (Str.ofString "shift") px) it body [] env) (fun r s' => match r with | .ok f => Q f s' | .error e => cameBackBy (model prog w) A env E e s') s₂
theorem For_shift {E : Value → Shared → Prop} {Q : Flow → Shared → Prop} {px pos : Pos} {iter : Expr} {env : Env}
    (h : wpAny (model prog w) A (eval iter env) (fun xv s₁ => wpAny (model prog w) A (pyIter xv) (fun it s₂ => ShiftLoop prog w A env px body Q E it s₂) E s₁) E s)
    (hs : ∀ x, foldedSetIterable iter env x = pure x := by intro _; rfl) :
    wpAny (model prog w) A (exec (.For (.Name (Str.ofString "shift") px) iter body [] pos) env) Q E s := wpAny_For h hs
theorem shift_range {σ : Type} {E : Value → Shared → Prop} {Q : Flow → Shared → Prop} {px : Pos} {r : Addr} {n : Nat} {b₀ : Int} {t₀ u₀ v₀ : Tok} {m₀ : Str → Option Value} {o0 o1 o2 o3 o4 : Obj} (o5 : σ → Obj) (base : σ → List (Addr × Obj)) (ps : σ → List (Str × Value)) (stored : List Str) (Inv : Nat → σ → Prop) (c₀ : σ) (hh : A.handled = none)
    (hr : IsRange s.heap r 0 b₀ 1 t₀ u₀ v₀) (hb : b₀ = (n : Int)) (hn : n ≤ 1000000)
    (F : Fr h₀ L s.heap m₀) (N : News h₀ L s.heap (base c₀ ++ cells6 L o0 o1 o2 o3 o4 (o5 c₀))) (hd : ∃ v, o4.data = .cell v) (hk : ∀ p ∈ ps c₀, m₀ p.1 = some p.2) (h0 : Inv 0 c₀) (hnb : ∀ c, (base c).all (fun p => plainO p.2) = true)
    (turn : ∀ i t c (u : Str → Option Value) h tk I oI o4, i < n → Inv i c → nonCell oI = true → o4.data = .cell (some (.int (i : Nat) t)) → Fr h₀ L h (kstB (fun z => if stored.contains z then u z else m₀ z) (ps c)) → News h₀ L h ((I, oI) :: (base c ++ cells6 L o0 o1 o2 o3 o4 (o5 c))) →
      wpAny (model prog w) A (execs body (env1 L fa cd)) (fun f s₂ => f = .next ∧ CEnd h₀ L { s with heap := h, toks := tk } base ps stored m₀ (fun c => (I, oI) :: cells6 L o0 o1 o2 o3 o4 (o5 c)) (Inv (i + 1)) s₂) E { s with heap := h, toks := tk })
    (done : ∀ c (u : Str → Option Value) h tk o4, Inv n c → Fr h₀ L h (kstB (fun z => if stored.contains z then u z else m₀ z) (ps c)) → News h₀ L h (base c ++ cells6 L o0 o1 o2 o3 o4 (o5 c)) → Q .next { s with heap := h, toks := tk })
    (hE : PassesOwn (model prog w) A (env1 L fa cd) E := by passes_own) :
    wpAny (model prog w) A (pyIter (.ref r)) (fun it s₂ => ShiftLoop prog w A (env1 L fa cd) px body Q E it s₂) E s := by
  subst hb
  refine wpAny_pyIter_range hr (small_one (by omega) (by omega) (by omega) (by omega)) ?_
  have hL := F.ns.lt
  have hsz : Builtin.Range.rangeSize 0 (n : Int) 1 = (n : Int) := by rw [rangeSize_one]; split <;> omega
  refine forLoop_shift (s := { s with heap := s.heap.push _ }) o5 base ps stored Inv c₀ hh ?_ ?_ ?_ ?_ (F.push _) (fun p hp => ⟨Heap.get?_push_of_some _ (N p hp).1, (N p hp).2⟩) hd hk h0 hnb ?_ done
  · show IsRangeIter _ _ _ _ _; rw [hsz]; simpa using Heap.get?_push_size _ rfl
  · exact next_is_new F
  · intro e; exact absurd hL (e ▸ Nat.lt_irrefl _)
  · intro b hb e
    obtain ⟨p, hp, rfl⟩ := List.mem_map.mp hb
    exact absurd (Heap.lt_size (N p (List.mem_append_right _ hp)).1) (e ▸ Nat.lt_irrefl _)
  · intro i t c u h tk oI o4 hi hJ hoI hd' F' N'
    exact wpAny_passesOwn hE (turn i t c u h tk _ oI o4 hi hJ hoI hd' F' N')
end
end Mine
-- BytesComp
set_option maxHeartbeats 4000000
namespace Mine
section
variable {prog : Program} {w : World} {A : Around} {E : Value → Shared → Prop} {s : Shared} {h₀ : Heap} {L : Addr} {m : Str → Option Value} {env : Env}
theorem ListComp_bytes {elt iter : Expr} {x : Str} {px : Pos} {scope : Scope} {cl : List (Str × Addr)} {pos : Pos} {Q : Value → Shared → Prop} (_F₀ : Fr h₀ L s.heap m)
    (hclos : closureFor scope env = pure cl) (hcell : ∀ y ∈ scope.names, y.2 ≠ .cell) (hkind : scope.kind = .function)
    (hnames : ∀ y ∈ scope.names, y.2 = .local → scope.names.lookup y.1 = some .local) (hx : scope.names.lookup x = some .local)
    (h : wpAny (model prog w) A (eval iter env) (fun xv s₁ => ∃ (b : Array UInt8) (t : Tok) (news : List (Addr × Obj)), xv = .bytes b t ∧ A.handled = none ∧ Fr h₀ L s₁.heap m ∧ News h₀ L s₁.heap news ∧ b.size ≤ sizeLine ∧
      ∀ g, LCg.CompRest prog w A h₀ L m env elt x scope cl { s₁ with heap := g } (fun _ => True) (fun i v => ∃ c u, b[i]? = some c ∧ v = .int ((c.toNat : Nat) : Int) u) (LCg.FinE h₀ L m { s₁ with heap := g } Q) b.size 0 [] news) E s)
    (hs : ∀ x, foldedSetIterable iter env x = pure x := by intro _; rfl) :
    wpAny (model prog w) A (eval (.ListComp elt [⟨.Name x px, iter, [], 0⟩] scope pos) env) Q E s := by
  rw [eval_ListComp]
  refine wpAny_comprehension_free (use := none) rfl hs hclos hkind hnames (wpAny_mono h (fun xv s₁ h₁ => ?_) fun _ _ e => e)
  obtain ⟨b, t, news, rfl, hh, F, N, hsz, R⟩ := h₁
  refine KBw.pyIter_bytes ?_
  refine LCg.block_U (KBw.walks hh s₁.heap.objs.size b t) hsz (fun i h st => by obtain ⟨o, e, _⟩ := st; exact ⟨o, e⟩)
    (fun i h h' o nw st e e' _ _ _ => by obtain ⟨o', q, r⟩ := st; rw [e] at q; cases q; exact ⟨o, e', r⟩) hcell hkind hx ⟨_, Heap.get?_push_size _ rfl, rfl, rfl⟩ (fun b hb => ?_)
    (F.keeps fun _ _ e => Heap.get?_push_of_some _ e) (N.grown fun _ _ e => Heap.get?_push_of_some _ e) (Nat.ne_of_lt F.ns.lt) (next_is_new F) (fun p hp => Nat.ne_of_lt (Heap.lt_size (N p hp).1)) trivial (R _) ?_
  · rw [List.mem_singleton.mp hb]
    show s₁.heap.objs.size < (s₁.heap.push _).objs.size
    rw [Heap.size_push]; exact Nat.lt_succ_self _
  · intro D C h tk m' ys news' F' N' o1 hn hC₀ hD₀ hCL hDL hCD offC fin
    refine ⟨m', hn, fun h'' hs'' => fin D h'' tk (F'.change hs'' hCL hC₀) (fun p hp => ?_) o1⟩
    refine ⟨hs''.extBut _ _ ?_ (N' p hp).1, (N' p hp).2⟩
    rcases List.mem_cons.mp hp with rfl | hp
    · exact Ne.symm hCD
    · exact offC p hp
end
end Mine
-- Ne2
set_option maxHeartbeats 4000000
namespace Mine
theorem ne_two {prog : Program} {w : World} {A : Around} {E : Value → Shared → Prop} {s : Shared} {h₀ : Heap} {L a b : Addr} {news : List (Addr × Obj)} {p q p' q' : Bool} {ka kb : Nat} {Q : Value → Shared → Prop}
    (N : News h₀ L s.heap news) (ma : (a, PySem.W.listOf #[.bool p, .bool q] ka) ∈ news) (mb : (b, PySem.W.listOf #[.bool p', .bool q'] kb) ∈ news) (hp : p = p') (hq : q = q') (hu : A.units + 64 < cLine) (h : Q (.bool false) s) :
    wpAny (model prog w) A (compareOp .NotEq (.ref a) (.ref b)) Q E s := by
  subst hp hq
  refine ne_dataH (reads_list_at (News.get N ma) rfl rfl (.cons (Reads.bool _) (.cons (Reads.bool _) .nil))) (reads_list_at (News.get N mb) rfl rfl (.cons (Reads.bool _) (.cons (Reads.bool _) .nil))) (by rfl) (by rfl) hu ?_
  simp only [PyData.eqv, PyData.eqvAll, beq_self_eq_true, Bool.and_true, Bool.not_true]
  exact h
end Mine
-- L01g
set_option maxHeartbeats 4000000
namespace Mine
local macro_rules | `(tactic| walk_at "MY:f") => `(tactic| repeat' (first | (k_unfold; (try dsimp only)) | (k_end; fail) | (
  (fail_if_success (with_reducible show wpAny _ _ (exec (Stmt.While _ _ _ _) _) _ _ _));
  (fail_if_success (with_reducible show wpAny _ _ (exec (Stmt.For _ _ _ _ _) _) _ _ _));
  (fail_if_success (with_reducible show wpAny _ _ (call (Value.ref _) _) _ _ _));
  (first | walk1 | (dsimp only; walk1)))))
local macro_rules | `(tactic| walk_at "MY:s") => `(tactic| repeat' (first | (k_unfold; (try dsimp only)) | (k_end; fail) | (
  (fail_if_success (with_reducible show wpAny _ _ (subscriptTail _ _ _ _) _ _ _));
  (fail_if_success (with_reducible show wpAny _ _ (exec (Stmt.Expr _ _) _) _ _ _));
  (first | walk1 | (dsimp only; walk1)))))
local macro_rules | `(tactic| walk_at "MY:n") => `(tactic| ((first | walk1 | (dsimp only; walk1))))
local macro_rules | `(tactic| walk_at "MY:w") => `(tactic| repeat' (first | (k_unfold; (try dsimp only)) | (k_end; fail) | (
  (fail_if_success (with_reducible show wpAny _ _ (storeName _ (Str.ofString "stairs") _) _ _ _));
  (fail_if_success (with_reducible show wpAny _ _ (storeName _ (Str.ofString "bounds") _) _ _ _));
  (fail_if_success (with_reducible show wpAny _ _ (storeName _ (Str.ofString "lead") _) _ _ _));
  (fail_if_success (with_reducible show wpAny _ _ (storeName _ (Str.ofString "shift") _) _ _ _));
  (fail_if_success (with_reducible show wpAny _ _ (subscriptTail _ _ _ _) _ _ _));
  (fail_if_success (with_reducible show wpAny _ _ (eval (Expr.ListComp _ _ _ _) _) _ _ _));
  (fail_if_success (with_reducible show wpAny _ _ (call (Value.builtin "str.replace") _) _ _ _));
  (fail_if_success (with_reducible show wpAny _ _ (compareOp CmpOp.NotEq (Value.ref _) (Value.ref _)) _ _ _));
  (fail_if_success (with_reducible show LCg.CompEnd _ _ _ _ _ _ _ _ _ _ _ _ _ _));
  (fail_if_success (with_reducible show KCtEl _ _ _ _));
  (fail_if_success (with_reducible show KCfEl _ _ _ _));
  (fail_if_success (with_reducible show KPfDone _));
  (fail_if_success (with_reducible show wpAny _ _ (binaryOp Operator.Mult _ _) _ _ _));
  (fail_if_success (with_reducible show wpAny _ _ (binaryOp Operator.Add (Value.str _ _) _) _ _ _));
  (fail_if_success (with_reducible show wpAny _ _ (call (Value.builtin "str.join") _) _ _ _));
  (fail_if_success (with_reducible show LCg.CompSrc _ _ _ _ _ _ _ _ _ _ _ _ _ _));
  (fail_if_success (with_reducible show wpAny _ _ (exec (Stmt.For _ _ _ _ _) _) _ _ _));
  (fail_if_success (with_reducible show wpAny _ _ (exec (Stmt.While _ _ _ _) _) _ _ _));
  (fail_if_success (with_reducible show wpAny _ _ (pyIter _) _ _ _));
  (fail_if_success (with_reducible show wpAny _ _ (call (Value.ref _) _) _ _ _));
  (fail_if_success (with_reducible show wpAny _ _ (call (Value.builtin "re.Pattern.sub") _) _ _ _));
  (first | walk1 | (dsimp only; walk1)))))
local macro_rules | `(tactic| walk_at "MY:a") => `(tactic| repeat' (first | (k_unfold; (try dsimp only)) | (k_end; fail) | (
  (fail_if_success (with_reducible show wpAny _ _ (storeName _ (Str.ofString "stairs") _) _ _ _));
  (fail_if_success (with_reducible show wpAny _ _ (storeName _ (Str.ofString "bounds") _) _ _ _));
  (fail_if_success (with_reducible show wpAny _ _ (storeName _ (Str.ofString "lead") _) _ _ _));
  (fail_if_success (with_reducible show wpAny _ _ (storeName _ (Str.ofString "shift") _) _ _ _));
  (fail_if_success (with_reducible show wpAny _ _ (subscriptTail _ _ _ _) _ _ _));
  (fail_if_success (with_reducible show wpAny _ _ (eval (Expr.ListComp _ _ _ _) _) _ _ _));
  (fail_if_success (with_reducible show wpAny _ _ (call (Value.builtin "str.replace") _) _ _ _));
  (fail_if_success (with_reducible show wpAny _ _ (compareOp CmpOp.NotEq (Value.ref _) (Value.ref _)) _ _ _));
  (fail_if_success (with_reducible show wpAny _ _ (exec (Stmt.Assign _ (Expr.ListComp _ _ _ _) _) _) _ _ _));
  (fail_if_success (with_reducible show LCg.CompEnd _ _ _ _ _ _ _ _ _ _ _ _ _ _));
  (fail_if_success (with_reducible show KCtEl _ _ _ _));
  (fail_if_success (with_reducible show KCfEl _ _ _ _));
  (fail_if_success (with_reducible show KPfDone _));
  (fail_if_success (with_reducible show wpAny _ _ (binaryOp Operator.Mult _ _) _ _ _));
  (fail_if_success (with_reducible show wpAny _ _ (binaryOp Operator.Add (Value.str _ _) _) _ _ _));
  (fail_if_success (with_reducible show wpAny _ _ (call (Value.builtin "str.join") _) _ _ _));
  (fail_if_success (with_reducible show LCg.CompSrc _ _ _ _ _ _ _ _ _ _ _ _ _ _));
  (fail_if_success (with_reducible show wpAny _ _ (exec (Stmt.For _ _ _ _ _) _) _ _ _));
  (fail_if_success (with_reducible show wpAny _ _ (exec (Stmt.While _ _ _ _) _) _ _ _));
  (fail_if_success (with_reducible show wpAny _ _ (pyIter _) _ _ _));
  (fail_if_success (with_reducible show wpAny _ _ (call (Value.ref _) _) _ _ _));
  (fail_if_success (with_reducible show wpAny _ _ (call (Value.builtin "re.Pattern.sub") _) _ _ _));
  (first | walk1 | (dsimp only; walk1)))))
local macro_rules | `(tactic| walk_at "MY:same") => `(tactic| (intro z hz h2 h3; (simp only [List.forall_mem_cons, List.not_mem_nil, false_implies, implies_true, and_true, ne_eq] at h2); (simp only [List.contains_cons, List.contains_nil, Bool.or_false, Bool.or_eq_false_iff, beq_eq_false_iff_ne, ne_eq] at h3); (simp [hz, h2, h3])))
def Vk (W : List Int) (c k : Nat) : List Int := W.map fun v => (v + (k : Int)).fmod ((2 * c : Nat) : Int)
def sentL (W : List Int) (c k : Nat) : List Nat := ((Vk W c k).map fun v => List.replicate (v.toNat + 1) 46 ++ [13, 10]).flatten
def midL (W : List Int) (c k : Nat) : List Nat := ((Vk W c k).map fun v => List.replicate v.toNat 46 ++ [9]).flatten
def leadL (W : List Int) (c k : Nat) : List Nat := ((Vk W c k).map fun v => List.replicate v.toNat 32 ++ [9]).flatten
theorem bytes_of {V : List Int} {n : Nat} (hb : ∀ v ∈ V, 0 ≤ v ∧ v < ((2 * n : Nat) : Int)) (h5 : n ≤ 5) : ∀ (i : Nat) (v : Value), (∃ (c : UInt8) (u : Tok), (V.map fun v => UInt8.ofNat (65 + v.toNat)).toArray[i]? = some c ∧ v = .int ((c.toNat : Nat) : Int) u) → ∃ (k : Int) (t : Tok), (V.map fun v => 65 + v)[i]? = some k ∧ v = .int k t := by
  rintro i v ⟨c, u, hc, rfl⟩
  rw [List.getElem?_toArray, List.getElem?_map] at hc
  rw [List.getElem?_map]
  cases hv : V[i]? with
  | none => rw [hv] at hc; cases hc
  | some q =>
    rw [hv] at hc
    have hq := hb q (List.mem_of_getElem? hv)
    refine ⟨65 + q, u, rfl, ?_⟩
    rw [← Option.some.inj hc]
    dsimp only
    rw [UInt8.toNat_ofNat']
    congr 1
    omega
theorem sent_join (V : List Int) (hb : ∀ v ∈ V, 0 ≤ v) : ((V.map fun v => 65 + v).map fun k => List.replicate (k - 64).toNat 46 ++ [13, 10]).flatten = (V.map fun v => List.replicate (v.toNat + 1) 46 ++ [13, 10]).flatten := by
  rw [List.map_map]
  congr 1
  refine List.map_congr_left fun v hv => ?_
  have := hb v hv
  show List.replicate (65 + v - 64).toNat 46 ++ _ = _
  rw [show (65 + v - 64).toNat = v.toNat + 1 by omega]
theorem ranges_get {g : Int → Int} {c ts : Nat} (h : c ≤ ts) (h2 : ts < c + c) : ((rangeKs c c).map g)[ts - c]? = some (g ts) := by
  have e1 : ts - c < c := by omega
  have e2 : (c : Int) + ((ts - c : Nat) : Int) = ts := by omega
  rw [List.getElem?_map]
  unfold rangeKs
  rw [List.getElem?_map, List.getElem?_range e1]
  simp only [Option.map_some]
  rw [e2]
theorem sectE {w : World} {dp : Nat} {fr : Option (List Env)} {gd : Option (List Code)} {un : Nat} {s : Shared} {mg mb : Str → Option Value} {p : Program} {loose : List Str} {mean : ExcName → Option Value} {h₀ : Heap} {L fa hp wi a b : Addr} {i : WsI} {cd : Value} {vh : Array Value} {eh ew ec eb c r : Nat} {hs W cm tks : List Int} {yw vc yb : List Value} {t0 t1 tm ts : Tok} {u : Str → Option Value} {o0 o1 o2 o3 o4 o5 : Obj} {Q : Flow → Shared → Prop}
    (F : Fr h₀ L s.heap (kstB u [(Str.ofString "heaps", Value.ref hp), (Str.ofString "wishes", Value.ref wi), (Str.ofString "came", Value.ref a), (Str.ofString "mail", Value.str (tx (rowsL W r c)) tm), (Str.ofString "sent", Value.str (tx (eolF false (rowsL W r c))) ts), (Str.ofString "start", Value.str (tx (eolF false (rowsL W r c))) ts)])) (X : (hd01.heap_39 w.params).In h₀) (T : Top p loose mean mg mb h₀)
    (N : News h₀ L s.heap ([(b, PySem.W.listOf yb.toArray eb), (i.D', tupOf [Value.ref i.D, Value.int ((wsF i.x.cps.toList).2.1 : Nat) i.tb]), (i.D, tupOf i.vs), (i.y, instObj 100 i.d), (i.d, dictOf (wsDict w.params i.x i.t (i.x.cps.size : Nat) ((wsF i.x.cps.toList).2.2 : Nat) (decide ((((wsF i.x.cps.toList).1.length : Nat) : Int) ≤ 1)) i.D' i.t1 i.t2 i.t3 i.t4 i.t5 i.tn i.tnt) 5), (a, PySem.W.listOf vc.toArray ec), (wi, PySem.W.listOf yw.toArray ew), (hp, PySem.W.listOf vh eh)] ++ cells6 L o0 o1 o2 o3 o4 o5))
    (d0 : o0.data = .cell (some (.int (c : Nat) t0))) (d1 : o1.data = .cell (some (.int (2 * c : Nat) t1))) (d2 : o2.data = .cell (some (.ref i.y))) (d3 : o3.data = .cell (some (.ref b))) (d4 : o4.data = .cell none) (d5 : o5.data = .cell none)
    (hrl : (rowsL W r c).length ≤ 20 * c) (hW : IntsAre yw W) (hWl : W.length = c) (hWb : ∀ v ∈ W, 0 ≤ v ∧ v < ((2 * c : Nat) : Int)) (hcm : IntsAre vc cm) (hyb : IntsAre yb ((rangeKs c c).map fun k => indentF (stairsL c) k.toNat) ∧ True) (hcl : cm.length = 2 * c) (hix : i.x = tx (stairsL c)) (hiv : IntsAre i.vs (wsF i.x.cps.toList).1)
    (hless : ∀ k, k < 2 * c → lessF (leadL W c k) (stairsL c) = decide (cm.getD (2 * c - 1 - k) 0 = 0)) (hmax : ∀ k, k < 2 * c → cm.getD (2 * c - 1 - k) 0 ∈ (rangeKs (c : Int) c).map (fun q => (indentF (leadL W c k) q.toNat - indentF (stairsL c) q.toNat + 1).fdiv q) ∧ ∀ v ∈ (rangeKs (c : Int) c).map (fun q => (indentF (leadL W c k) q.toNat - indentF (stairsL c) q.toNat + 1).fdiv q), v ≤ cm.getD (2 * c - 1 - k) 0)
    (hcm0 : ∀ k, k < 2 * c → 0 ≤ cm.getD (2 * c - 1 - k) 0)
    (r1 : ∀ k, Txt.replace (tx (sentL W c k)) (Str.ofString ".\x0d\n") (Str.ofString "\t") = tx (midL W c k)) (r2 : ∀ k, Txt.replace (tx (midL W c k)) (Str.ofString ".") (Str.ofString " ") = tx (leadL W c k))
    (r3 : ∀ k, k < 2 * c → Txt.replace (tx (dotF true (sentL W c k))) (tx (List.replicate (2 * c + 1) 46)) (Str.ofString ".") = tx (sentL W c (k + 1))) (bQ : ∀ k, (dotF true (sentL W c k)).length ≤ 120)
    (bS : ∀ k, (sentL W c k).length ≤ 60) (bM : ∀ k, (midL W c k).length ≤ 60) (bL : ∀ k, (leadL W c k).length ≤ 60 ∧ (tx (leadL W c k)).cps.all (fun c => c == 32 || c == 9) = true)
    (e0 : eolF false (rowsL W r c) = sentL W c 0) (e1 : ∀ k, eolF false (sentL W c k) = sentL W c k) (e2 : sentL W c (2 * c) = sentL W c 0)
    (h3 : 3 ≤ c) (h5 : c ≤ 5) (hroom : dp + 5 < recursionLimit) (hun : un + 64 < cLine) (fin : ∀ h' tk' m', Fr h₀ L h' m' → Q (.ret (.bool true)) { s with heap := h', toks := tk' }) :
    wpAny (model prog1 w) { handled := none, depth := dp, frames := fr, guards := gd, units := un } (execs (law1.1.drop 14) (env1 L fa cd)) Q (fun _ _ => False) s := by
  have hX := X
  have hb : law1 = (_, _) := rfl
  rw [hb]
  clear hb
  rw [e0] at F
  dsimp only [List.drop, kstB] at F ⊢
  dsimp only [cells6, List.cons_append, List.nil_append] at N
  walk_at "MY:w"
  refine For_shift ?_
  walk_at "MY:w"
  rename Fr _ _ _ _ => F4
  rename News _ _ _ _ => N4
  rename IsRange _ _ _ _ _ _ _ _ => hrg
  refine' shift_range (σ := List Nat × List Nat × Tok × Tok × Obj) (n := 2 * c) (fun q => q.2.2.2.2) (fun _ => [(b, PySem.W.listOf yb.toArray eb), (i.D', tupOf [Value.ref i.D, Value.int ((wsF i.x.cps.toList).2.1 : Nat) i.tb]), (i.D, tupOf i.vs), (i.y, instObj 100 i.d), (i.d, dictOf (wsDict w.params i.x i.t (i.x.cps.size : Nat) ((wsF i.x.cps.toList).2.2 : Nat) (decide ((((wsF i.x.cps.toList).1.length : Nat) : Int) ≤ 1)) i.D' i.t1 i.t2 i.t3 i.t4 i.t5 i.tn i.tnt) 5), (a, PySem.W.listOf vc.toArray ec), (wi, PySem.W.listOf yw.toArray ew), (hp, PySem.W.listOf vh eh)]) (fun c => [(Str.ofString "mail", .str (tx c.1) c.2.2.1), (Str.ofString "sent", .str (tx c.2.1) c.2.2.2.1)]) [Str.ofString "word", Str.ofString "due", Str.ofString "told", Str.ofString "beyond"]
    (fun k q => (∃ v, q.2.2.2.2.data = .cell v) ∧ q.2.1 = sentL W c k ∧ eolF false q.1 = sentL W c k ∧ q.1.length ≤ 150) (rowsL W r c, sentL W c 0, tm, ts, o5) rfl hrg rfl (by omega) F4 N4 ⟨_, d4⟩ (List.forall_mem_cons.mpr ⟨rfl, List.forall_mem_cons.mpr ⟨rfl, List.forall_mem_nil _⟩⟩) ⟨⟨_, d5⟩, rfl, e0, by dsimp only; omega⟩ (fun _ => rfl) ?_ ?_
  · clear F4 N4 hrg
    rintro k tk ⟨ml, sl, tm, ts, ob⟩ u h6 tk6 I oI o4 hk ⟨⟨v5, d5'⟩, hJ1, hJ2, hJ3⟩ hoI d4' F5 N5
    dsimp only at F5 N5 hJ1 hJ2 hJ3 d5'
    subst hJ1
    walk_at "MY:w"
    refine LCg.ListComp_U (F₀ := F5) (by with_unfolding_all rfl) (by decide) (by rfl) (by decide) (by rfl) ?_
    walk_at "MY:w"
    refine LCg.CompSrc.ledger (by rfl) F5 N5 (k := ew) (by k_mem) (by rw [PySem.sizeLine_eq, List.size_toArray, hW.length]; omega) ?_
    intro g'
    refine' kcf_list (fun v => (v + (k : Int)).fmod ((2 * c : Nat) : Int)) hW (fun k' t' I' oI' C' oC' D' m' ys' h' tk' E' hk' hC' hx' F' N' off' ne' mk' => ?_) ?_
    · have hk2 := hWb _ hk'
      clear F5 N5
      dsimp only
      walk_at "MY:w"
      exact LCg.CompEnd.intro F' N' _ (fun p hp => hp) off' (.inr ⟨_, by k_mem, rfl, _, rfl⟩) ⟨rfl, _, rfl⟩
    · unfold KPfDone
      intro yv hV D h7 tk7 F6 N6 off6
      clear F5 N5
      dsimp only
      change IntsAre yv (Vk W c k) at hV
      have hVl : (Vk W c k).length = c := by unfold Vk; rw [List.length_map, hWl]
      have hVb : ∀ v ∈ Vk W c k, 0 ≤ v ∧ v < ((2 * c : Nat) : Int) := by
        intro v hv
        obtain ⟨q, _, rfl⟩ := List.mem_map.mp hv
        exact ⟨fmod_lo _ (by omega), fmod_hi _ (by omega)⟩
      generalize hVe : Vk W c k = V at hV hVl hVb
      walk_at "MY:w"
      refine word_1 (X.keeps F6.keep) (T.keeps F6.keep) (News.isList N6 (by k_mem)) hV (by omega) (fun v hv => by have := hVb v hv; omega) (by omega) ?_
      intro t8 h8 tk8 hst
      have F7 := fr_stays F6 hst
      have N7 := news_stays N6 hst
      clear F6 N6 hst off6
      walk_at "MY:w"
      rename Fr _ _ _ _ => F8
      rename News _ _ _ _ => N8
      refine wpAny_toks ?_
      refine ListComp_bytes F8 (by with_unfolding_all rfl) (by decide) (by rfl) (by decide) (by rfl) ?_
      walk_at "MY:n"
      refine ⟨_, _, _, rfl, rfl, F8, N8, by rw [PySem.sizeLine_eq, List.size_toArray, List.length_map]; omega, fun g' => ?_⟩
      refine' kct_rest (ks := V.map fun v => 65 + v) (fun k => tx (List.replicate (k - 64).toNat 46 ++ [13, 10])) (by rw [List.size_toArray, List.length_map, List.length_map]) (fun i v _ hP => bytes_of hVb h5 i v hP) (fun k' t' I' oI' C' oC' D' m' ys' h' tk' E' hk' hC' hx' F' N' off' ne' mk' => ?_) ?_
      · obtain ⟨q, hq, rfl⟩ := List.mem_map.mp hk'
        have hq2 := hVb q hq
        have hb1 : -100000 ≤ 65 + q - 64 ∧ 65 + q - 64 ≤ 20 := by clear ne' off'; omega
        clear F8 N8
        dsimp only
        walk_at "MY:w"
        refine mulT tx_dot hb1.1 (Int.le_trans hb1.2 (by decide)) ?_
        intro t9 k9
        walk_at "MY:w"
        refine addT rfl tx_crlf (by rw [List.length_replicate]; show _ + 2 ≤ _; clear off' ne'; omega) ?_
        intro t10 k10
        walk_at "MY:w"
        exact LCg.CompEnd.intro F' N' _ (fun p hp => hp) off' trivial ⟨rfl, t10, rfl⟩
      · unfold KPfDone
        clear F8 N8
        intro ys hC hK D2 h9 tk9 F9 N9 off9
        dsimp only
        intro hk9
        walk_at "MY:w"
        refine wpAny_toks ?_
        refine joinT (News.isList N9 (.head _)) hC (by
          intro q hq
          obtain ⟨v, hv, rfl⟩ := List.mem_map.mp hq
          have := hVb v hv
          rw [List.length_append, List.length_replicate]
          show _ + 2 ≤ _
          clear off9
          omega) (by rw [List.length_map, hVl]; omega) ?_
        intro t11 k11 hk11
        dsimp only at hk11
        rw [sent_join V (fun v hv => (hVb v hv).1), ← hVe]
        change wpAny _ _ (compareOp .NotEq (.str (tx (sentL W c k)) _) (.str (tx (sentL W c k)) _)) _ _ _
        refine P.ne_str ?_
        rw [bne_self_eq_false]
        walk_at "MY:w"
        have hk12 : 0 < k11 := Nat.lt_of_lt_of_le (Nat.lt_of_lt_of_le (Nat.succ_pos _) hk9) hk11
        refine wpAny_toks ?_
        refine SC.replaceW (Nat.ne_of_gt hk12) (Nat.succ_ne_zero _) (Nat.ne_of_lt (Nat.lt_succ_self _)) (by decide) (by rw [tx_len]; exact Nat.le_trans (bS k) (by decide)) (by decide) ?_
        intro t12 k12 hk12'
        dsimp only at hk12'
        rw [r1]
        walk_at "MY:w"
        refine SC.replaceW (Nat.ne_of_gt (Nat.lt_of_lt_of_le (Nat.succ_pos (k11 + 1)) hk12')) (Nat.succ_ne_zero _) (Nat.ne_of_lt (Nat.lt_succ_self _)) (by decide) (by rw [tx_len]; exact Nat.le_trans (bM k) (by decide)) (by decide) ?_
        intro t13 k13
        rw [r2]
        walk_at "MY:w"
        refine ws_1 F9 X T N9 (by clear off9; omega) (bL k).2 (by show (leadL W c k).toArray.size ≤ _; rw [List.size_toArray]; exact Nat.le_trans (bL k).1 (by decide)) ?_
        intro j h10 tk10 hjx hjv F10 N10
        replace N10 := kst_newsOf (l' := (wsLed 100 w.params j ++ ((I, oI) :: [(b, PySem.W.listOf yb.toArray eb), (i.D', tupOf [Value.ref i.D, Value.int ((wsF i.x.cps.toList).2.1 : Nat) i.tb]), (i.D, tupOf i.vs), (i.y, instObj 100 i.d), (i.d, dictOf (wsDict w.params i.x i.t (i.x.cps.size : Nat) ((wsF i.x.cps.toList).2.2 : Nat) (decide ((((wsF i.x.cps.toList).1.length : Nat) : Int) ≤ 1)) i.D' i.t1 i.t2 i.t3 i.t4 i.t5 i.tn i.tnt) 5), (a, PySem.W.listOf vc.toArray ec), (wi, PySem.W.listOf yw.toArray ew), (hp, PySem.W.listOf vh eh)])) ++ cells6 L o0 o1 o2 o3 o4 ob) N10 (fun p hp => by
          rw [List.append_assoc] at hp
          rcases List.mem_append.mp hp with h | h
          · exact List.mem_append_left _ h
          · exact List.mem_append_right _ (.tail _ (.tail _ h)))
        clear N9 F9 off9
        refine st_lead (wsLed 100 w.params j ++ ((I, oI) :: [(b, PySem.W.listOf yb.toArray eb), (i.D', tupOf [Value.ref i.D, Value.int ((wsF i.x.cps.toList).2.1 : Nat) i.tb]), (i.D, tupOf i.vs), (i.y, instObj 100 i.d), (i.d, dictOf (wsDict w.params i.x i.t (i.x.cps.size : Nat) ((wsF i.x.cps.toList).2.2 : Nat) (decide ((((wsF i.x.cps.toList).1.length : Nat) : Int) ≤ 1)) i.D' i.t1 i.t2 i.t3 i.t4 i.t5 i.tn i.tnt) 5), (a, PySem.W.listOf vc.toArray ec), (wi, PySem.W.listOf yw.toArray ew), (hp, PySem.W.listOf vh eh)])) F10 N10 d5' (by rw [List.all_append]; exact Bool.and_eq_true_iff.mpr ⟨rfl, by rw [List.all_cons]; exact Bool.and_eq_true_iff.mpr ⟨hoI, rfl⟩⟩) ?_
        clear N10 F10
        intro h11 ob' F11 N11 d5''
        walk_at "MY:w"
        obtain ⟨tX, hX⟩ := hcm.get (2 * c - 1 - k) (cm.getD (2 * c - 1 - k) 0) (by rw [List.getD_eq_getElem?_getD, List.getElem?_eq_getElem (by omega)]; rfl)
        generalize hXe : cm.getD (2 * c - 1 - k) 0 = X0 at *
        dsimp only
        refine item_list (News.isList N11 (by k_mem)) (by omega) (by omega) (by rw [show ((2 * c : Nat) - 1 - (k : Int)).toNat = 2 * c - 1 - k by omega, List.getElem?_toArray]; exact hX) ?_
        walk_at "MY:w"
        rename Fr _ _ _ _ => F12
        rename News _ _ _ _ => N12
        refine less_1 (i := j) (j := i) F12 X T N12 (fun p hp => (List.mem_append.mp hp).elim (fun h => List.mem_append_left _ (List.mem_append_left _ h)) fun h => List.mem_append_left _ (List.mem_append_right _ (.tail _ (.tail _ (List.mem_append_left _ h))))) hjv hiv (by omega) (by rw [hjx]; show (leadL W c k).toArray.size ≤ _; rw [List.size_toArray]; exact Nat.le_trans (bL k).1 (by decide)) (by rw [hix]; show (stairsL c).toArray.size ≤ _; rw [List.size_toArray]; exact (stairs_ok c h3 h5).2) ?_
        clear F12 N12
        intro h12 tk12 F12 N12
        have hjvK : IntsAre j.vs (wsF j.x.cps.toList).1 ∧ True := ⟨hjv, trivial⟩
        have hlk := hless k hk
        rw [hXe] at hlk
        have hlk2 : lessF j.x.cps.toList i.x.cps.toList = decide (X0 = 0) := by rw [hjx, hix]; exact hlk
        rw [hlk2]
        walk_at "MY:w"
        rename Fr _ _ _ _ => F13
        rename News _ _ _ _ => N13
        have hX1 : 0 ≤ X0 := by have := hcm0 k hk; rw [hXe] at this; exact this
        refine ne_two N13 (.tail _ (.head _)) (.head _) ?_ ?_ hun ?_
        · by_cases h0 : X0 = 0
          · rw [h0]; rfl
          · rw [decide_eq_false h0, beq_eq_false_iff_ne.mpr h0]; rfl
        · by_cases h0 : X0 = 0
          · rw [h0]; rfl
          · rw [decide_eq_false h0, decide_eq_true (show 0 < X0 by omega)]; rfl
        replace N13 := kst_newsOf N13 (fun p hp => .tail _ (.tail _ hp))
        refine wpAny_gen ?_
        intro tk13 hk13
        have hk13' : 0 < tk13 := Nat.lt_of_lt_of_le (Nat.succ_pos _) hk13
        clear hk13
        dsimp only
        walk_at "MY:a"
        refine wpAny_toks ?_
        walk_at "MY:w"
        rename Fr _ _ _ _ => F14
        rename News _ _ _ _ => N14
        rename IsRange _ _ _ _ _ _ _ _ => hr
        refine LCg.CompSrc.range (by rfl) F14 N14 hr (small_one (by omega) (by omega) (by omega) (by omega)) (rangeSize_nat _ _) (by rw [PySem.sizeLine_eq]; omega) ?_
        intro g'
        rw [show (((2 * c : Nat) : Int) - c).toNat = c by omega]
        refine' kcf_range (fun q => (indentF (leadL W c k) q.toNat - indentF (stairsL c) q.toNat + 1).fdiv q) (fun k' t' I' oI' C' oC' D' m' ys' h' tk' E' hlo' hhi' hC' hx' F' N' off' ne' mk' => ?_) ?_
        · clear F14 N14 hr
          obtain ⟨ts, rfl⟩ := Int.eq_ofNat_of_zero_le (show 0 ≤ k' by clear ne' off'; omega)
          have hts : 1 ≤ ts ∧ ts ≤ 100 := by clear ne' off'; omega
          have hsz : j.x.cps.size ≤ 10000 := by rw [hjx]; show (leadL W c k).toArray.size ≤ _; rw [List.size_toArray]; exact Nat.le_trans (bL k).1 (by decide)
          dsimp only
          walk_at "MY:w"
          refine indent_1 (i := j) F' X T N' (fun p hp => .tail _ (.tail _ (.tail _ (List.mem_append_left _ (List.mem_append_left _ hp))))) hjvK.1 (by clear ne' off'; omega) hsz hts.1 hts.2 ?_
          intro t6 h16 tk16 F16 N16
          rw [hjx]
          change wpAny _ _ _ _ _ _
          clear F' N' ne'
          walk_at "MY:w"
          obtain ⟨tb, hb⟩ := hyb.1.get (ts - c) (indentF (stairsL c) ts) (ranges_get (by clear off'; omega) (by clear off'; omega))
          dsimp only
          refine item_list (News.isList N16 (by k_mem)) (by clear off'; omega) (by clear off'; omega) (by rw [show ((ts : Int) - (c : Int)).toNat = ts - c by clear off'; omega, List.getElem?_toArray]; exact hb) ?_
          change wpAny _ _ (binaryOp .Sub (.int (indentF (leadL W c k) ts) t6) _) _ _ _
          walk_at "MY:w"
          exact LCg.CompEnd.intro F16 N16 _ (fun p hp => hp) off' trivial ⟨rfl, _, rfl⟩
        · unfold KPfDone
          clear F14 N14 hr
          intro yB hB D3 h15 tk15 F15 N15 off15
          dsimp only
          intro hk15
          walk_at "MY:w"
          clear off15
          refine wpAny_toks ?_
          refine kso_max F15 N15 (News.isList N15 (.head _)) hB (by rw [List.length_map, rangeKs_length]; omega) rfl ?_
          intro h16 M tM tk16 F16 N16 hM1 hM2 hk16
          dsimp only at hk16
          have hk16' : 0 < tk16 := Nat.lt_of_lt_of_le (Nat.lt_of_lt_of_le hk13' hk15) hk16
          have hMX : M = X0 := by
            have hq := hmax k hk
            rw [hXe] at hq
            have h1 := hM2 _ hq.1
            have h2 := hq.2 _ hM1
            omega
          subst hMX
          clear hM1 hM2 hB F15 N15
          walk_at "MY:w"
          all_goals (first | (exfalso; refine (show ¬ (M ≠ M) from fun h => h rfl) ?_; assumption) | skip)
          refine wpAny_toks ?_
          refine wpAny_call (quote_1 (X.keeps F16.keep) (T.keeps F16.keep) (by omega) (by show ml.toArray.size ≤ _; rw [List.size_toArray]; omega) ?_)
          intro t17 h17 tk17 hst hk17
          dsimp only at hk17
          have hk17' : 0 < tk17 := Nat.lt_of_lt_of_le hk16' hk17
          have F17 := fr_stays F16 hst
          have N17 := news_stays N16 hst
          clear F16 N16 hst
          rw [show (tx ml).cps.toList = ml from rfl, hJ2]
          change wpAny _ _ _ _ _ _
          walk_at "MY:w"
          dsimp only
          refine mul_fresh (by omega) (by decide) (mulOk_of 16 1048576 (by decide) (by omega) (by omega) (by decide) (by decide)) ?_
          rw [mul_tx tx_dot, show ((2 * c : Nat) + 1 : Int).toNat = 2 * c + 1 by omega]
          refine wpAny_gen ?_
          intro tk18 hk18
          dsimp only at hk18 ⊢
          walk_at "MY:w"
          change wpAny _ _ (call (.builtin "str.replace") [.str (tx (dotF true (sentL W c k))) t17, _, _]) _ _ _
          refine SC.replaceW (Nat.succ_ne_zero _) (Nat.ne_of_gt (Nat.lt_of_lt_of_le (Nat.succ_pos _) hk18)) (Nat.ne_of_lt (Nat.lt_of_lt_of_le (Nat.lt_succ_self _) hk18)) (by
            refine beq_eq_false_iff_ne.mpr fun e => ?_
            have e1 := congrArg Str.length e
            rw [tx_len, List.length_replicate] at e1
            have e2 : (Str.ofString ".").length = 1 := by rfl
            omega) (by rw [tx_len]; exact Nat.le_trans (bQ k) (by decide)) (by decide) ?_
          intro t19 k19
          rw [r3 k hk]
          walk_at "MY:w"
          rename Fr _ _ _ _ => F19
          rename News _ _ _ _ => N19
          refine ⟨(sentL W c (k + 1), sentL W c (k + 1), t19, t19, ob'), _, _, _, _, rfl, F19, N19, (fun p hp => .tail _ (List.mem_append_left _ (List.mem_append_right _ (.tail _ hp)))), List.forall_mem_cons.mpr ⟨.tail _ (List.mem_append_left _ (List.mem_append_right _ (.head _))), fun p hp => .tail _ (List.mem_append_right _ hp)⟩,
            List.forall_mem_cons.mpr ⟨rfl, List.forall_mem_cons.mpr ⟨rfl, List.forall_mem_nil _⟩⟩, ?_, ⟨⟨_, d5''⟩, rfl, e1 (k + 1), Nat.le_trans (bS (k + 1)) (by decide)⟩⟩
          intro z h2 h3'
          have h4 := h3'
          simp only [List.forall_mem_cons, List.not_mem_nil, false_implies, implies_true, and_true, ne_eq] at h2
          simp only [List.contains_cons, List.contains_nil, Bool.or_false, Bool.or_eq_false_iff, beq_eq_false_iff_ne, ne_eq] at h4
          dsimp only [kstB]
          simp [h2, h4, h3']
  · rintro ⟨ml, sl, tm, ts, ob⟩ u h6 tk6 o4 ⟨⟨v5, d5'⟩, hJ1, hJ2, hJ3⟩ F5 N5
    clear F4 N4 hrg
    dsimp only [kstB] at F5 N5 hJ1 hJ2 hJ3 d5'
    subst hJ1
    walk_at "MY:w"
    show Q (.ret (.bool (tx (sentL W c (2 * c)) == tx (sentL W c 0)))) _
    rw [e2, beq_self_eq_true]
    exact fin _ _ _ F5
end Mine
-- PlainA
namespace Mine
/-! the texts -/
theorem rep1_row : ∀ (v : Nat) (r r' : List Nat), RepR [46, 13, 10] [9] r r' → RepR [46, 13, 10] [9] (List.replicate (v + 1) 46 ++ [13, 10] ++ r) (List.replicate v 46 ++ [9] ++ r')
  | 0, r, r', h => RepR.hit (y := [46, 13, 10]) (z := [9]) h
  | v + 1, r, r', h => by
    have h1 := rep1_row v r r' h
    refine RepR.skip ?_ h1
    rintro ⟨t, ht⟩
    have := (List.cons.inj (List.cons.inj ht).2).1
    cases this
theorem rep1 : ∀ V : List Int, RepR [46, 13, 10] [9] (V.map fun v => List.replicate (v.toNat + 1) 46 ++ [13, 10]).flatten (V.map fun v => List.replicate v.toNat 46 ++ [9]).flatten
  | [] => .nil
  | v :: V => by
    rw [List.map_cons, List.map_cons, List.flatten_cons, List.flatten_cons]
    exact rep1_row _ _ _ (rep1 V)
theorem rep2_row : ∀ (v : Nat) (r r' : List Nat), RepR [46] [32] r r' → RepR [46] [32] (List.replicate v 46 ++ [9] ++ r) (List.replicate v 32 ++ [9] ++ r')
  | 0, r, r', h => RepR.skip (by rintro ⟨t, ht⟩; have := (List.cons.inj ht).1; cases this) h
  | v + 1, r, r', h => RepR.hit (y := [46]) (z := [32]) (rep2_row v r r' h)
theorem rep2 : ∀ V : List Int, RepR [46] [32] (V.map fun v => List.replicate v.toNat 46 ++ [9]).flatten (V.map fun v => List.replicate v.toNat 32 ++ [9]).flatten
  | [] => .nil
  | v :: V => by
    rw [List.map_cons, List.map_cons, List.flatten_cons, List.flatten_cons]
    exact rep2_row _ _ _ (rep2 V)
theorem no_pre {n c : Nat} (hc : c ≠ 46) : ∀ (j : Nat) (r : List Nat), j < n → ¬ List.replicate n 46 <+: (List.replicate j 46 ++ c :: r)
  | 0, r, h => by
    rintro ⟨t, ht⟩
    cases n with
    | zero => omega
    | succ n => rw [List.replicate_succ] at ht; exact hc (List.cons.inj ht).1.symm
  | j + 1, r, h => by
    rintro ⟨t, ht⟩
    cases n with
    | zero => omega
    | succ n =>
      rw [List.replicate_succ, List.replicate_succ] at ht
      exact no_pre hc j r (by omega) ⟨t, (List.cons.inj ht).2⟩
theorem rep3_keep {n : Nat} (hn : 1 ≤ n) {r r' : List Nat} (h : RepR (List.replicate n 46) [46] r r') : ∀ j : Nat, j < n → RepR (List.replicate n 46) [46] (List.replicate j 46 ++ 13 :: 10 :: r) (List.replicate j 46 ++ 13 :: 10 :: r')
  | 0, _ => by
    exact .skip (no_pre (n := n) (c := 13) (by decide) 0 (10 :: r) hn) (.skip (no_pre (n := n) (c := 10) (by decide) 0 r hn) h)
  | j + 1, hj => by
    have h1 := rep3_keep hn h j (by omega)
    exact .skip (no_pre (n := n) (c := 13) (by decide) (j + 1) (10 :: r) hj) h1
/-- a row with one dot more, in a circle of n -/
theorem rep3_row {n : Nat} (hn : 1 ≤ n) {r r' : List Nat} (h : RepR (List.replicate (n + 1) 46) [46] r r') (v : Nat) (hv : v < n) :
    RepR (List.replicate (n + 1) 46) [46] (List.replicate (v + 2) 46 ++ [13, 10] ++ r) (List.replicate ((v + 1) % n + 1) 46 ++ [13, 10] ++ r') := by
  by_cases e : v + 1 = n
  · rw [e, Nat.mod_self, show v + 2 = n + 1 by omega, List.append_assoc, List.append_assoc]
    have h1 := RepR.hit (rep3_keep (n := n + 1) (by omega) h 0 (by omega))
    exact h1
  · rw [Nat.mod_eq_of_lt (by omega), List.append_assoc, List.append_assoc]
    exact rep3_keep (by omega) h (v + 2) (by omega)
theorem rep3 {n : Nat} (hn : 1 ≤ n) : ∀ V : List Nat, (∀ v ∈ V, v < n) → RepR (List.replicate (n + 1) 46) [46] (V.map fun v => List.replicate (v + 2) 46 ++ [13, 10]).flatten (V.map fun v => List.replicate ((v + 1) % n + 1) 46 ++ [13, 10]).flatten
  | [], _ => .nil
  | v :: V, h => by
    rw [List.map_cons, List.map_cons, List.flatten_cons, List.flatten_cons]
    exact rep3_row hn (rep3 hn V fun u hu => h u (.tail _ hu)) v (h v (.head _))
theorem dot_run : ∀ (v : Nat) (r : List Nat), dotF false (List.replicate v 46 ++ 13 :: 10 :: r) = List.replicate v 46 ++ 13 :: 10 :: dotF true r
  | 0, r => by rfl
  | v + 1, r => by
    rw [List.replicate_succ, List.cons_append, dotF, if_neg (by simp), List.cons_append]
    rw [show ((46 : Nat) == 10) = false from rfl, dot_run v r]
theorem dot_rows : ∀ V : List Nat, dotF true (V.map fun v => List.replicate (v + 1) 46 ++ [13, 10]).flatten = (V.map fun v => List.replicate (v + 2) 46 ++ [13, 10]).flatten
  | [] => by rfl
  | v :: V => by
    rw [List.map_cons, List.map_cons, List.flatten_cons, List.flatten_cons, List.append_assoc, List.append_assoc]
    rw [List.replicate_succ, List.cons_append, dotF, if_pos ⟨rfl, rfl⟩]
    simp only [List.cons_append, List.nil_append]
    rw [dot_run, dot_rows V]
    rfl
theorem eol_dots : ∀ (v : Nat) (b : Bool) (r : List Nat), eolF b (List.replicate (v + 1) 46 ++ r) = List.replicate (v + 1) 46 ++ eolF false r
  | 0, b, r => by
    show eolF b (46 :: r) = 46 :: eolF false r
    rw [eolF, if_neg (by decide), if_neg (by decide)]
  | v + 1, b, r => by
    rw [List.replicate_succ, List.cons_append, eolF, if_neg (by decide), if_neg (by decide), eol_dots v false r, List.cons_append]
def isEnd (e : List Nat) : Prop := e = [10] ∨ e = [13] ∨ e = [13, 10]
theorem eol_rows {α : Type} (f : α → Nat) (e : α → List Nat) : ∀ (V : List α), (∀ a ∈ V, isEnd (e a)) → ∀ b, eolF b (V.map fun a => List.replicate (f a + 1) 46 ++ e a).flatten = (V.map fun a => List.replicate (f a + 1) 46 ++ [13, 10]).flatten
  | [], _, b => by rfl
  | a :: V, h, b => by
    have ih := eol_rows f e V fun u hu => h u (.tail _ hu)
    rw [List.map_cons, List.map_cons, List.flatten_cons, List.flatten_cons, List.append_assoc, List.append_assoc, eol_dots]
    congr 1
    rcases h a (.head _) with e1 | e1 | e1 <;> rw [e1] <;> simp only [List.cons_append, List.nil_append]
    · rw [eolF, if_pos rfl, if_neg (by decide), ih]
    · rw [eolF, if_neg (by decide), if_pos rfl, ih]
    · rw [eolF, if_neg (by decide), if_pos rfl, eolF, if_pos rfl, if_pos rfl, ih]
theorem ends_are (r j : Nat) (hr : r < 3) (hj : j < 5) : isEnd ((ends7.drop r).getD j []) := by
  rcases (show r = 0 ∨ r = 1 ∨ r = 2 by omega) with rfl | rfl | rfl <;> rcases (show j = 0 ∨ j = 1 ∨ j = 2 ∨ j = 3 ∨ j = 4 by omega) with rfl | rfl | rfl | rfl | rfl <;> unfold isEnd <;> decide
theorem range_getD {β : Type} (g : Int → β) (W : List Int) : (List.range W.length).map (fun j => g (W.getD j 0)) = W.map g := by
  apply List.ext_getElem
  · simp
  · intro i h1 h2
    simp at h1 h2 ⊢
    rw [List.getElem?_eq_getElem h1]; rfl
section
variable {W : List Int} {c : Nat}
theorem Vk_bound (h3 : 3 ≤ c) (k : Nat) : ∀ v ∈ Vk W c k, 0 ≤ v ∧ v < ((2 * c : Nat) : Int) := by
  intro v hv
  obtain ⟨q, _, rfl⟩ := List.mem_map.mp hv
  exact ⟨fmod_lo _ (by omega), fmod_hi _ (by omega)⟩
theorem Vk_zero (hWb : ∀ v ∈ W, 0 ≤ v ∧ v < ((2 * c : Nat) : Int)) : Vk W c 0 = W := by
  unfold Vk
  rw [List.map_congr_left (g := id) fun v hv => ?_, List.map_id]
  have := hWb v hv
  show (v + 0).fmod _ = v
  rw [Int.add_zero, Int.fmod_eq_emod_of_nonneg _ (by omega), Int.emod_eq_of_lt this.1 this.2]
theorem Vk_full (hWb : ∀ v ∈ W, 0 ≤ v ∧ v < ((2 * c : Nat) : Int)) : Vk W c (2 * c) = W := by
  unfold Vk
  rw [List.map_congr_left (g := id) fun v hv => ?_, List.map_id]
  have := hWb v hv
  show (v + _).fmod _ = v
  rw [Int.fmod_eq_emod_of_nonneg _ (by omega), Int.add_emod_right, Int.emod_eq_of_lt this.1 this.2]
theorem Vk_succ (h3 : 3 ≤ c) (k : Nat) : (Vk W c (k + 1)).map Int.toNat = ((Vk W c k).map Int.toNat).map fun v => (v + 1) % (2 * c) := by
  unfold Vk
  rw [List.map_map, List.map_map, List.map_map]
  refine List.map_congr_left fun v _ => ?_
  show ((v + ((k + 1 : Nat) : Int)).fmod _).toNat = (((v + (k : Int)).fmod _).toNat + 1) % (2 * c)
  have h0 : (0 : Int) ≤ ((2 * c : Nat) : Int) := by omega
  rw [Int.fmod_eq_emod_of_nonneg _ h0, Int.fmod_eq_emod_of_nonneg _ h0]
  have h1 := Int.emod_nonneg (v + (k : Int)) (show ((2 * c : Nat) : Int) ≠ 0 by omega)
  have h2 := Int.emod_lt_of_pos (v + (k : Int)) (show (0 : Int) < ((2 * c : Nat) : Int) by omega)
  have e1 : (v + ((k + 1 : Nat) : Int)) % ((2 * c : Nat) : Int) = ((v + (k : Int)) % ((2 * c : Nat) : Int) + 1) % ((2 * c : Nat) : Int) := by
    rw [Int.emod_add_emod]; congr 1; omega
  rw [e1]
  generalize (v + (k : Int)) % ((2 * c : Nat) : Int) = q at *
  obtain ⟨q, rfl⟩ := Int.eq_ofNat_of_zero_le h1
  rw [Int.toNat_natCast, show ((q : Int) + 1) = ((q + 1 : Nat) : Int) by omega, ← Int.natCast_emod, Int.toNat_natCast]
theorem sent_nat (k : Nat) : sentL W c k = (((Vk W c k).map Int.toNat).map fun v => List.replicate (v + 1) 46 ++ [13, 10]).flatten := by
  unfold sentL; rw [List.map_map]; rfl
theorem lead_nat (k : Nat) : leadL W c k = (((Vk W c k).map Int.toNat).map fun v => List.replicate v 32 ++ [9]).flatten := by
  unfold leadL; rw [List.map_map]; rfl
theorem Vn_bound (h3 : 3 ≤ c) (k : Nat) : ∀ v ∈ (Vk W c k).map Int.toNat, v < 2 * c := by
  intro v hv
  obtain ⟨q, hq, rfl⟩ := List.mem_map.mp hv
  have := Vk_bound h3 k q hq
  omega
theorem fact_r1 (k : Nat) : Txt.replace (tx (sentL W c k)) (Str.ofString ".\x0d\n") (Str.ofString "\t") = tx (midL W c k) :=
  rep_txt (l := sentL W c k) (y := [46, 13, 10]) (z := [9]) (by decide) (rep1 (Vk W c k))
theorem fact_r2 (k : Nat) : Txt.replace (tx (midL W c k)) (Str.ofString ".") (Str.ofString " ") = tx (leadL W c k) :=
  rep_txt (l := midL W c k) (y := [46]) (z := [32]) (by decide) (rep2 (Vk W c k))
theorem fact_r3 (h3 : 3 ≤ c) (k : Nat) : Txt.replace (tx (dotF true (sentL W c k))) (tx (List.replicate (2 * c + 1) 46)) (Str.ofString ".") = tx (sentL W c (k + 1)) := by
  have hb := Vn_bound (W := W) h3 k
  rw [sent_nat, dot_rows, sent_nat, Vk_succ h3]
  generalize (Vk W c k).map Int.toNat = V at *
  rw [List.map_map]
  exact rep_txt (z := [46]) (by rw [List.replicate_succ]; simp) (rep3 (n := 2 * c) (by omega) V hb)
theorem fact_e1 (k : Nat) : eolF false (sentL W c k) = sentL W c k := by
  rw [sent_nat]; exact eol_rows (fun v => v) (fun _ => [13, 10]) _ (fun _ _ => .inr (.inr rfl)) false
theorem fact_e2 (hWb : ∀ v ∈ W, 0 ≤ v ∧ v < ((2 * c : Nat) : Int)) : sentL W c (2 * c) = sentL W c 0 := by
  unfold sentL; rw [Vk_full hWb, Vk_zero hWb]
theorem fact_e0 (hWl : W.length = c) (h5 : c ≤ 5) (hWb : ∀ v ∈ W, 0 ≤ v ∧ v < ((2 * c : Nat) : Int)) {r : Nat} (hr : r < 3) : eolF false (rowsL W r c) = sentL W c 0 := by
  unfold sentL rowsL
  rw [Vk_zero hWb, eol_rows (fun j => (W.getD j 0).toNat) (fun j => (ends7.drop r).getD j []) (List.range c) (fun j hj => ends_are r j hr (by have := List.mem_range.mp hj; omega)) false, ← hWl]
  rw [range_getD (fun v => List.replicate (v.toNat + 1) 46 ++ [13, 10])]
theorem flat_len (g : Nat → List Nat) (m : Nat) : ∀ V : List Nat, (∀ v ∈ V, (g v).length ≤ m) → (V.map g).flatten.length ≤ V.length * m
  | [], _ => by simp
  | v :: V, h => by
    rw [List.map_cons, List.flatten_cons, List.length_append, List.length_cons, Nat.add_mul]
    have := flat_len g m V fun u hu => h u (.tail _ hu)
    have := h v (.head _)
    omega
theorem Vn_len (hWl : W.length = c) (k : Nat) : ((Vk W c k).map Int.toNat).length = c := by unfold Vk; rw [List.length_map, List.length_map, hWl]
theorem mul_le5 {c m q : Nat} (h5 : c ≤ 5) (h : 5 * m ≤ q) : c * m ≤ q := Nat.le_trans (Nat.mul_le_mul_right m h5) h
theorem fact_bS (hWl : W.length = c) (h3 : 3 ≤ c) (h5 : c ≤ 5) (k : Nat) : (sentL W c k).length ≤ 60 := by
  rw [sent_nat]
  refine Nat.le_trans (flat_len _ 12 _ fun v hv => ?_) (by rw [Vn_len hWl]; exact mul_le5 h5 (by decide))
  have := Vn_bound h3 k v hv
  rw [List.length_append, List.length_replicate]; show v + 1 + 2 ≤ _; omega
theorem fact_bQ (hWl : W.length = c) (h3 : 3 ≤ c) (h5 : c ≤ 5) (k : Nat) : (dotF true (sentL W c k)).length ≤ 120 := by
  rw [sent_nat, dot_rows]
  refine Nat.le_trans (flat_len _ 13 _ fun v hv => ?_) (by rw [Vn_len hWl]; exact mul_le5 h5 (by decide))
  have := Vn_bound h3 k v hv
  rw [List.length_append, List.length_replicate]; show v + 2 + 2 ≤ _; omega
theorem fact_bM (hWl : W.length = c) (h3 : 3 ≤ c) (h5 : c ≤ 5) (k : Nat) : (midL W c k).length ≤ 60 := by
  have e : midL W c k = (((Vk W c k).map Int.toNat).map fun v => List.replicate v 46 ++ [9]).flatten := by unfold midL; rw [List.map_map]; rfl
  rw [e]
  refine Nat.le_trans (flat_len _ 11 _ fun v hv => ?_) (by rw [Vn_len hWl]; exact mul_le5 h5 (by decide))
  have := Vn_bound h3 k v hv
  rw [List.length_append, List.length_replicate]; show v + 1 ≤ _; omega
theorem fact_bL (hWl : W.length = c) (h3 : 3 ≤ c) (h5 : c ≤ 5) (k : Nat) : (leadL W c k).length ≤ 60 ∧ (tx (leadL W c k)).cps.all (fun c => c == 32 || c == 9) = true := by
  rw [lead_nat]
  refine ⟨Nat.le_trans (flat_len _ 11 _ fun v hv => ?_) (by rw [Vn_len hWl]; exact mul_le5 h5 (by decide)), ?_⟩
  · have := Vn_bound h3 k v hv
    rw [List.length_append, List.length_replicate]; show v + 1 ≤ _; omega
  · rw [← Array.all_toList, List.all_eq_true]
    intro x hx
    obtain ⟨l, hl, hx⟩ := List.mem_flatten.mp hx
    obtain ⟨v, _, rfl⟩ := List.mem_map.mp hl
    rcases List.mem_append.mp hx with h | h
    · rw [List.eq_of_mem_replicate h]; rfl
    · rw [List.mem_singleton.mp h]; rfl
end
end Mine
-- PlainB
namespace Mine
/-! the columns -/
theorem bump_getD (cs : List Int) (b i : Nat) : (wsBump cs b).getD i 0 = cs.getD i 0 + if i = b then 1 else 0 := by
  have pad : ∀ j : Nat, (cs ++ List.replicate (b - cs.length + 1) 0).getD j 0 = cs.getD j 0 := by
    intro j
    by_cases h : j < cs.length
    · simp [List.getElem?_append_left h]
    · rw [List.getD_eq_getElem?_getD, List.getD_eq_getElem?_getD, List.getElem?_append_right (by omega), List.getElem?_eq_none (l := cs) (by omega), List.getElem?_replicate]
      split <;> rfl
  unfold wsBump
  by_cases h : cs.length ≤ b
  · rw [if_pos h]
    dsimp only
    rw [getD_set _ _ _ (by simp; omega), pad, pad]
    split
    · next e => subst e; rfl
    · omega
  · rw [if_neg h]
    dsimp only
    rw [getD_set _ _ _ (by omega)]
    split
    · next e => subst e; rfl
    · omega
theorem ilF_bump (cs : List Int) (b ts : Nat) : ∀ m : Nat, ilF (wsBump cs b) ts m = ilF cs ts m + if ts ≤ b ∧ b < ts + m then ((b / ts : Nat) : Int) else 0
  | 0 => by rw [if_neg (by omega)]; rfl
  | m + 1 => by
    rw [ilF, ilF, ilF_bump cs b ts m, bump_getD]
    by_cases e : ts + m = b
    · subst e
      rw [if_neg (by omega), if_pos rfl, if_pos (by omega), Int.mul_add, Int.mul_one]; omega
    · rw [if_neg e]
      by_cases h : ts ≤ b ∧ b < ts + m
      · rw [if_pos h, if_pos (by omega)]; simp only [Int.add_zero]; omega
      · rw [if_neg h, if_neg (by omega)]; simp only [Int.add_zero]
theorem ilF_ext (cs : List Int) (ts : Nat) : ∀ m : Nat, cs.length - ts ≤ m → ilF cs ts m = ilF cs ts (cs.length - ts) := by
  intro m
  induction m with
  | zero => intro h; rw [show cs.length - ts = 0 by omega]
  | succ m ih =>
    intro h
    by_cases e : cs.length - ts = m + 1
    · rw [e]
    · have e0 : cs.getD (ts + m) 0 = 0 := by rw [List.getD_eq_getElem?_getD, List.getElem?_eq_none (by omega)]; rfl
      rw [ilF, ih (by omega), e0, Int.mul_zero, Int.add_zero]
def colF (cs : List Int) (ts : Nat) : Int := ilF cs ts (cs.length - ts)
theorem colF_bump (cs : List Int) (b ts : Nat) (h : 1 ≤ ts) : colF (wsBump cs b) ts = colF cs ts + ((b / ts : Nat) : Int) := by
  have hl := bump_len cs b
  unfold colF
  rw [← ilF_ext (wsBump cs b) ts (wsBump cs b).length (by omega), ← ilF_ext cs ts (wsBump cs b).length (by omega), ilF_bump]
  by_cases e : ts ≤ b
  · rw [if_pos ⟨e, by omega⟩]
  · rw [if_neg (by omega), Nat.div_eq_of_lt (by omega)]; rfl
def divS (V : List Nat) (ts : Nat) : Nat := (V.map (· / ts)).sum
theorem colF_bumps (ts : Nat) (h : 1 ≤ ts) : ∀ (V : List Nat) (cs : List Int), colF (V.foldl wsBump cs) ts = colF cs ts + (divS V ts : Nat)
  | [], cs => by simp [divS]
  | v :: V, cs => by
    rw [List.foldl_cons, colF_bumps ts h V, colF_bump _ _ _ h]
    unfold divS
    rw [List.map_cons, List.sum_cons]; omega
abbrev rowT (v : Nat) : List Nat := List.replicate v 32 ++ [9]
def rowsT (V : List Nat) : List Nat := (V.map rowT).flatten
theorem ws_run (cs : List Int) (nt : Nat) : ∀ (v b : Nat), (List.replicate v 32).foldl wsStep (cs, b, nt) = (cs, b + v, nt)
  | 0, b => rfl
  | v + 1, b => by
    rw [List.replicate_succ, List.foldl_cons]
    show (List.replicate v 32).foldl wsStep (cs, b + 1, nt) = _
    rw [ws_run cs nt v, show b + 1 + v = b + (v + 1) by omega]
theorem ws_rows : ∀ (V : List Nat) (cs : List Int) (nt : Nat), (rowsT V).foldl wsStep (cs, 0, nt) = (V.foldl wsBump cs, 0, nt + V.length)
  | [], cs, nt => rfl
  | v :: V, cs, nt => by
    unfold rowsT
    rw [List.map_cons, List.flatten_cons, List.foldl_append, List.foldl_append, ws_run, Nat.zero_add]
    show (rowsT V).foldl wsStep (wsBump cs v, 0, nt + 1) = _
    rw [ws_rows V, List.foldl_cons, List.length_cons, show nt + 1 + V.length = nt + (V.length + 1) by omega]
theorem wsF_rows (V : List Nat) : wsF (rowsT V) = (V.foldl wsBump [], 0, V.length) := by
  unfold wsF; rw [ws_rows, Nat.zero_add]
theorem wsF_stairs (U : List Nat) : wsF (rowsT U ++ [32]) = (U.foldl wsBump [], 1, U.length) := by
  rw [wsF_snoc, wsF_rows]; rfl
theorem indent_rows (V : List Nat) (ts : Nat) (h : 1 ≤ ts) : indentF (rowsT V) ts = (ts : Int) * ((divS V ts : Nat) + (V.length : Nat)) := by
  unfold indentF
  rw [wsF_rows]
  dsimp only
  have e := colF_bumps ts h V []
  unfold colF at e
  rw [e]
  show ((0 : Nat) : Int) + (ts : Int) * (ilF [] ts (0 - ts) + _ + _) = _
  rw [Nat.zero_sub]
  show ((0 : Nat) : Int) + (ts : Int) * (0 + _ + _) = _
  rw [Int.zero_add]
  simp
theorem indent_stairs (U : List Nat) (ts : Nat) (h : 1 ≤ ts) : indentF (rowsT U ++ [32]) ts = 1 + (ts : Int) * ((divS U ts : Nat) + (U.length : Nat)) := by
  have h1 := indent_rows U ts h
  unfold indentF at h1 ⊢
  rw [wsF_stairs]
  rw [wsF_rows] at h1
  dsimp only at h1 ⊢
  omega
theorem rowsT_len : ∀ V : List Nat, (rowsT V).length = V.sum + V.length
  | [] => rfl
  | v :: V => by
    unfold rowsT
    rw [List.map_cons, List.flatten_cons, List.length_append]
    have := rowsT_len V
    unfold rowsT at this
    rw [this, List.sum_cons, List.length_cons]
    simp; omega
theorem divS_one (V : List Nat) : divS V 1 = V.sum := by unfold divS; simp
/-- how many are t or more -/
def geC (V : List Nat) (t : Nat) : Nat := V.countP (fun v => decide (t ≤ v))
theorem div_count (n ts v : Nat) (h : 1 ≤ ts) (hv : v < n) : v / ts = (List.range n).countP (fun m => decide ((m + 1) * ts ≤ v)) := by
  have key : ∀ k : Nat, (List.range k).countP (fun m => decide ((m + 1) * ts ≤ v)) = min k (v / ts) := by
    intro k
    induction k with
    | zero => simp
    | succ k ih =>
      rw [List.range_succ, List.countP_append, ih, List.countP_singleton]
      have hd := Nat.le_div_iff_mul_le (x := k + 1) (y := v) (k := ts) (by omega)
      by_cases e : (k + 1) * ts ≤ v
      · rw [decide_eq_true e]; have := hd.mpr e; simp; omega
      · rw [decide_eq_false e]; have : ¬ k + 1 ≤ v / ts := fun x => e (hd.mp x)
        simp; omega
  rw [key]
  have := Nat.div_le_self v ts
  omega
theorem sum_add {α : Type} (f g : α → Nat) : ∀ l : List α, (l.map fun m => f m + g m).sum = (l.map f).sum + (l.map g).sum
  | [] => rfl
  | a :: l => by rw [List.map_cons, List.map_cons, List.map_cons, List.sum_cons, List.sum_cons, List.sum_cons, sum_add f g l]; omega
theorem countP_sum {α : Type} (p : α → Bool) : ∀ l : List α, l.countP p = (l.map fun m => if p m then 1 else 0).sum
  | [] => rfl
  | a :: l => by
    rw [List.countP_cons, List.map_cons, List.sum_cons, countP_sum p l]; omega
theorem divS_sum (n ts : Nat) (h : 1 ≤ ts) : ∀ V : List Nat, (∀ v ∈ V, v < n) → divS V ts = ((List.range n).map fun m => geC V ((m + 1) * ts)).sum
  | [], _ => by
    have z : ∀ l : List Nat, (l.map fun _ => (0 : Nat)).sum = 0 := fun l => by
      induction l with
      | nil => rfl
      | cons a l ih => rw [List.map_cons, List.sum_cons, ih]
    exact (z _).symm
  | v :: V, hv => by
    have ih := divS_sum n ts h V fun u hu => hv u (.tail _ hu)
    unfold divS at ih ⊢
    rw [List.map_cons, List.sum_cons, ih, div_count n ts v h (hv v (.head _)), countP_sum, ← sum_add]
    congr 1
    refine List.map_congr_left fun m _ => ?_
    unfold geC
    rw [List.countP_cons]; omega
theorem sum_le {α : Type} (f g : α → Nat) : ∀ l : List α, (∀ a ∈ l, f a ≤ g a) → (l.map f).sum ≤ (l.map g).sum
  | [], _ => Nat.le_refl _
  | a :: l, h => by
    rw [List.map_cons, List.map_cons, List.sum_cons, List.sum_cons]
    exact Nat.add_le_add (h a (.head _)) (sum_le f g l fun b hb => h b (.tail _ hb))
theorem divS_le {n : Nat} {V U : List Nat} (hV : ∀ v ∈ V, v < n) (hU : ∀ v ∈ U, v < n) (hg : ∀ t, 1 ≤ t → geC V t ≤ geC U t) (ts : Nat) (h : 1 ≤ ts) : divS V ts ≤ divS U ts := by
  rw [divS_sum n ts h V hV, divS_sum n ts h U hU]
  refine sum_le _ _ _ fun m _ => hg _ ?_
  have := Nat.mul_le_mul (show 1 ≤ m + 1 by omega) h
  omega
/-- a size that goes into no row twice -/
theorem divS_big {c ts : Nat} (h : 1 ≤ ts) (hc : c ≤ ts) : ∀ V : List Nat, (∀ v ∈ V, v < 2 * c) → divS V ts = geC V ts
  | [], _ => rfl
  | v :: V, hv => by
    have ih := divS_big h hc V fun u hu => hv u (.tail _ hu)
    have h1 := hv v (.head _)
    unfold divS geC at ih ⊢
    rw [List.map_cons, List.sum_cons, ih, List.countP_cons]
    by_cases e : ts ≤ v
    · rw [decide_eq_true e, Nat.div_eq_sub_div (by omega) e, Nat.div_eq_of_lt (by omega)]; simp; omega
    · rw [decide_eq_false e, Nat.div_eq_of_lt (by omega)]; simp
def stU (c : Nat) : List Nat := (List.range c).map fun i => 2 * c - 2 - i
theorem stairs_rows (c : Nat) : stairsL c = rowsT (stU c) ++ [32] := by
  unfold stairsL rowsT stU rangeKs
  rw [List.map_map, List.map_map]
  congr 2
  refine List.map_congr_left fun i hi => ?_
  show List.replicate (2 * (c : Int) - 1 - (1 + (i : Int))).toNat 32 ++ [9] = List.replicate (2 * c - 2 - i) 32 ++ [9]
  rw [show (2 * (c : Int) - 1 - (1 + (i : Int))).toNat = 2 * c - 2 - i by omega]
theorem stU_facts (c : Nat) (h3 : 3 ≤ c) (h5 : c ≤ 5) : (stU c).length = c ∧ (∀ u ∈ stU c, u < 2 * c) ∧ (∀ t, t < 2 * c → geC (stU c) t = min c (2 * c - 1 - t)) ∧ ((stU c).foldl wsBump []).length = 2 * c - 1 := by
  rcases (show c = 3 ∨ c = 4 ∨ c = 5 by omega) with rfl | rfl | rfl <;> decide
theorem runF_stairs (c : Nat) (h3 : 3 ≤ c) (h5 : c ≤ 5) : runF (stairsL c) = 2 * (c : Int) - 2 := by
  rw [stairs_rows]
  unfold runF
  rw [wsF_stairs]
  dsimp only
  rw [(stU_facts c h3 h5).2.2.2, if_neg (by omega)]; omega
/-- what less tells of two such leads -/
theorem less_rows (c : Nat) (h3 : 3 ≤ c) (h5 : c ≤ 5) (V : List Nat) (hV : V.length = c) (hb : ∀ v ∈ V, v < 2 * c) :
    lessF (rowsT V) (stairsL c) = true ↔ ∀ t, c ≤ t → t < 2 * c → geC V t ≤ 2 * c - 1 - t := by
  obtain ⟨u1, u2, u3, u4⟩ := stU_facts c h3 h5
  have hI : ∀ ts, 1 ≤ ts → (indentF (rowsT V) ts < indentF (stairsL c) ts ↔ divS V ts ≤ divS (stU c) ts) := by
    intro ts h
    rw [stairs_rows, indent_rows V ts h, indent_stairs _ ts h, hV, u1]
    constructor
    · intro hlt
      refine Decidable.byContradiction fun hn => ?_
      have h1 : ((divS (stU c) ts : Nat) : Int) + (c : Int) + 1 ≤ (divS V ts : Nat) + (c : Int) := by omega
      have h2 := Int.mul_le_mul_of_nonneg_left h1 (show (0 : Int) ≤ ts by omega)
      rw [Int.mul_add, Int.mul_one] at h2
      omega
    · intro hle
      have h1 : ((divS V ts : Nat) : Int) + (c : Int) ≤ (divS (stU c) ts : Nat) + (c : Int) := by omega
      have h2 := Int.mul_le_mul_of_nonneg_left h1 (show (0 : Int) ≤ ts by omega)
      omega
  have hG : ∀ t, c ≤ t → t < 2 * c → divS (stU c) t = 2 * c - 1 - t := by
    intro t h1 h2
    rw [divS_big (by omega) h1 _ u2, u3 t h2]; omega
  have hS : simpleF (stairsL c) = false := by
    unfold simpleF; rw [stairs_rows, wsF_stairs, u4]; exact decide_eq_false (by omega)
  have hlen : (stairsL c).length = (stU c).sum + c + 1 := by rw [stairs_rows, List.length_append, rowsT_len, u1]; rfl
  have hM : 2 * (c : Int) - 2 ≤ (if runF (stairsL c) > runF (rowsT V) then runF (stairsL c) else runF (rowsT V)) := by
    have := runF_stairs c h3 h5
    split <;> omega
  generalize hMe : (if runF (stairsL c) > runF (rowsT V) then runF (stairsL c) else runF (rowsT V)) = M at hM
  have e : lessF (rowsT V) (stairsL c) = if (rowsT V).length ≥ (stairsL c).length then false else (List.range (M + 1 - 1).toNat).all fun k => decide (indentF (rowsT V) (2 + k) < indentF (stairsL c) (2 + k)) := by
    unfold lessF
    rw [hMe]
    split
    · rfl
    · rw [if_neg (by rw [hS]; simp)]
  rw [e]
  constructor
  · intro h t h1 h2
    split at h
    · cases h
    · have h4 := List.all_eq_true.mp h (t - 2) (List.mem_range.mpr (by omega))
      have h5' := (hI _ (by omega)).mp (of_decide_eq_true h4)
      rw [show 2 + (t - 2) = t by omega, hG t h1 h2, divS_big (by omega) h1 V hb] at h5'
      exact h5'
  · intro h
    have hg : ∀ t, 1 ≤ t → geC V t ≤ geC (stU c) t := by
      intro t ht
      by_cases h1 : t < 2 * c
      · rw [u3 t h1]
        have h6 : geC V t ≤ c := by rw [← hV]; exact List.countP_le_length
        by_cases h2 : c ≤ t
        · have := h t h2 h1; omega
        · omega
      · have : geC V t = 0 := List.countP_eq_zero.mpr fun v hv => by have := hb v hv; simp; omega
        omega
    have hd := fun ts hts => divS_le hb u2 hg ts hts
    have h1 := hd 1 (Nat.le_refl _)
    rw [divS_one, divS_one] at h1
    rw [if_neg (by rw [hlen, rowsT_len, hV]; omega), List.all_eq_true]
    intro k hk
    exact decide_eq_true ((hI _ (by omega)).mpr (hd _ (by omega)))
/-- how far a lead is beyond the stairs -/
theorem beyond_rows (c : Nat) (h3 : 3 ≤ c) (h5 : c ≤ 5) (V : List Nat) (hV : V.length = c) (hb : ∀ v ∈ V, v < 2 * c) (t : Nat) (h1 : c ≤ t) (h2 : t < 2 * c) :
    (indentF (rowsT V) t - indentF (stairsL c) t + 1).fdiv (t : Int) = (geC V t : Int) - ((2 * c - 1 - t : Nat) : Int) := by
  obtain ⟨u1, u2, u3, u4⟩ := stU_facts c h3 h5
  rw [stairs_rows, indent_rows V t (by omega), indent_stairs _ t (by omega), hV, u1, divS_big (by omega) h1 V hb, divS_big (by omega) h1 _ u2, u3 t h2]
  rw [show min c (2 * c - 1 - t) = 2 * c - 1 - t by omega]
  have e : (t : Int) * ((geC V t : Nat) + (c : Nat)) - (1 + (t : Int) * (((2 * c - 1 - t : Nat) : Int) + (c : Nat))) + 1 = (t : Int) * ((geC V t : Int) - ((2 * c - 1 - t : Nat) : Int)) := by
    rw [Int.mul_sub, Int.mul_add, Int.mul_add]; omega
  rw [e, Int.fdiv_eq_ediv_of_nonneg _ (by omega), Int.mul_ediv_cancel_left _ (by omega)]
end Mine
-- PlainC
namespace Mine
/-! the circle -/
def preS (a : Nat → Int) : Nat → Int
  | 0 => 0
  | j + 1 => preS a j + a j
/-- a chain x i = a i + max (x (i + 1) - 1) 0 once round a circle of n places that has fewer than n cars -/
theorem chain_max {n : Nat} {x a : Nat → Int} (_hn : 1 ≤ n) (hx : ∀ i, i < n → x i = a i + max (x (i + 1) - 1) 0) (hc : x n = x 0) (hs : preS a n < n) :
    (∀ j, j < n → preS a (j + 1) - j ≤ x 0) ∧ ∃ j, j < n ∧ x 0 = preS a (j + 1) - j := by
  have lo : ∀ j, j ≤ n → preS a j + x j - j ≤ x 0 := by
    intro j
    induction j with
    | zero => intro _; show 0 + x 0 - 0 ≤ x 0; omega
    | succ j ih =>
      intro hj
      have h1 := ih (by omega)
      have h2 := hx j (by omega)
      show preS a j + a j + x (j + 1) - ((j + 1 : Nat) : Int) ≤ x 0
      omega
  have hi : ∀ m, m ≤ n → (∃ j, j < m ∧ x 0 = preS a (j + 1) - j) ∨ x 0 = preS a m + x m - m := by
    intro m
    induction m with
    | zero => intro _; right; show x 0 = 0 + x 0 - 0; omega
    | succ m ih =>
      intro hm
      rcases ih (by omega) with ⟨j, h1, h2⟩ | h
      · exact .inl ⟨j, by omega, h2⟩
      · have h2 := hx m (by omega)
        by_cases e : x (m + 1) - 1 ≤ 0
        · left
          refine ⟨m, by omega, ?_⟩
          show x 0 = preS a m + a m - m
          omega
        · right
          show x 0 = preS a m + a m + x (m + 1) - ((m + 1 : Nat) : Int)
          omega
  refine ⟨fun j hj => ?_, ?_⟩
  · have h1 := lo j (by omega)
    have h2 := hx j hj
    show preS a j + a j - j ≤ x 0
    omega
  · rcases hi n (Nat.le_refl _) with h | h
    · exact h
    · omega
theorem count_le_len (W : List Int) (v : Int) : W.count v ≤ W.length := List.count_le_length
/-- those at the places n - 1, n - 2, .. down -/
theorem geC_sum {n : Nat} {V : List Nat} (hb : ∀ v ∈ V, v < n) : ∀ j, j ≤ n → preS (fun i => ((V.count (n - 1 - i) : Nat) : Int)) j = (geC V (n - j) : Nat)
  | 0, _ => by
    have : geC V (n - 0) = 0 := List.countP_eq_zero.mpr fun v hv => by have := hb v hv; simp; omega
    rw [this]; rfl
  | j + 1, h => by
    show preS _ j + ((V.count (n - 1 - j) : Nat) : Int) = _
    rw [geC_sum hb j (by omega)]
    have : ∀ V : List Nat, geC V (n - (j + 1)) = geC V (n - j) + V.count (n - 1 - j) := by
      intro V
      unfold geC
      induction V with
      | nil => rfl
      | cons v V ih =>
        rw [List.countP_cons, List.countP_cons, List.count_cons, ih]
        by_cases e : v = n - 1 - j
        · subst e
          rw [decide_eq_true (by omega), decide_eq_false (by omega)]; simp; omega
        · have e2 : (v == n - 1 - j) = false := beq_eq_false_iff_ne.mpr e
          rw [e2]
          by_cases h1 : n - j ≤ v
          · rw [decide_eq_true h1, decide_eq_true (by omega)]; simp; omega
          · rw [decide_eq_false h1, decide_eq_false (by omega)]; simp
    rw [this]; omega
theorem count_shift {n : Nat} (W : List Int) (hW : ∀ v ∈ W, 0 ≤ v ∧ v < (n : Int)) (k i : Nat) (hk : k < n) (hi : i < n) :
    (((W.map fun v => (v + (k : Int)).fmod (n : Int)).map Int.toNat).count (n - 1 - i)) = W.count (((2 * n - 1 - k - i) % n : Nat) : Int) := by
  induction W with
  | nil => rfl
  | cons v W ih =>
    have ih' := ih fun u hu => hW u (.tail _ hu)
    have hv := hW v (.head _)
    rw [List.map_cons, List.map_cons, List.count_cons, List.count_cons, ih']
    congr 1
    obtain ⟨v, rfl⟩ := Int.eq_ofNat_of_zero_le hv.1
    have hv2 : v < n := by omega
    rw [Int.fmod_eq_emod_of_nonneg _ (by omega), ← Int.natCast_add, ← Int.natCast_emod, Int.toNat_natCast]
    have e : (v + k) % n = n - 1 - i ↔ v = (2 * n - 1 - k - i) % n := by
      have a1 : (v + k) % n = if v + k < n then v + k else v + k - n := by
        split
        · exact Nat.mod_eq_of_lt (by omega)
        · rw [Nat.mod_eq_sub_mod (by omega)]; exact Nat.mod_eq_of_lt (by omega)
      have a2 : (2 * n - 1 - k - i) % n = if 2 * n - 1 - k - i < n then 2 * n - 1 - k - i else 2 * n - 1 - k - i - n := by
        split
        · exact Nat.mod_eq_of_lt (by omega)
        · rw [Nat.mod_eq_sub_mod (by omega)]; exact Nat.mod_eq_of_lt (by omega)
      rw [a1, a2]
      split <;> split <;> omega
    by_cases h : (v + k) % n = n - 1 - i
    · have h2 := e.mp h
      rw [beq_iff_eq.mpr h, if_pos rfl, if_pos (by rw [beq_iff_eq]; omega)]
    · rw [if_neg (by rw [beq_iff_eq]; exact h), if_neg (by rw [beq_iff_eq]; intro q; exact h (e.mpr (by omega)))]
section
variable {W cm tks : List Int} {c : Nat}
theorem came_chain (h3 : 3 ≤ c) (hWl : W.length = c) (hWb : ∀ v ∈ W, 0 ≤ v ∧ v < ((2 * c : Nat) : Int)) (I : CamInv (2 * c) W cm tks) (k : Nat) (hk : k < 2 * c) :
    (∀ t, c ≤ t → t < 2 * c → (geC ((Vk W c k).map Int.toNat) t : Int) - ((2 * c - 1 - t : Nat) : Int) ≤ cm.getD (2 * c - 1 - k) 0) ∧
    ∃ t, c ≤ t ∧ t < 2 * c ∧ cm.getD (2 * c - 1 - k) 0 = (geC ((Vk W c k).map Int.toNat) t : Int) - ((2 * c - 1 - t : Nat) : Int) := by
  have hb := Vn_bound (W := W) h3 k
  have hl := Vn_len hWl k
  have hsum := fun j hj => geC_sum hb j hj
  have hcnt := fun i hi => count_shift W hWb k i hk hi
  change ∀ i, i < 2 * c → ((Vk W c k).map Int.toNat).count (2 * c - 1 - i) = _ at hcnt
  generalize (Vk W c k).map Int.toNat = V at *
  have hpl : ∀ j, j ≤ 2 * c → preS (fun i => ((V.count (2 * c - 1 - i) : Nat) : Int)) j ≤ c := by
    intro j hj
    rw [hsum j hj]
    have : geC V (2 * c - j) ≤ V.length := List.countP_le_length
    omega
  obtain ⟨h1, j, hj, h2⟩ := chain_max (n := 2 * c) (x := fun i => cm.getD ((2 * (2 * c) - 1 - k - i) % (2 * c)) 0) (a := fun i => ((V.count (2 * c - 1 - i) : Nat) : Int)) (by omega)
    (fun i hi => by
      have hp : (2 * (2 * c) - 1 - k - (i + 1)) % (2 * c) < 2 * c := Nat.mod_lt _ (by omega)
      have hf := I.flow _ hp
      have e : ((2 * (2 * c) - 1 - k - (i + 1)) % (2 * c) + 1) % (2 * c) = (2 * (2 * c) - 1 - k - i) % (2 * c) := by
        rw [Nat.mod_add_mod]; congr 1; omega
      rw [e] at hf
      show cm.getD ((2 * (2 * c) - 1 - k - i) % (2 * c)) 0 = ((V.count (2 * c - 1 - i) : Nat) : Int) + max (cm.getD ((2 * (2 * c) - 1 - k - (i + 1)) % (2 * c)) 0 - 1) 0
      rw [hf, hcnt i hi])
    (by
      show cm.getD ((2 * (2 * c) - 1 - k - 2 * c) % (2 * c)) 0 = cm.getD ((2 * (2 * c) - 1 - k - 0) % (2 * c)) 0
      congr 1
      rw [show 2 * (2 * c) - 1 - k - 0 = (2 * (2 * c) - 1 - k - 2 * c) + 2 * c by omega, Nat.add_mod_right])
    (by have := hpl (2 * c) (Nat.le_refl _); omega)
  have e0 : (2 * (2 * c) - 1 - k - 0) % (2 * c) = 2 * c - 1 - k := by
    rw [show 2 * (2 * c) - 1 - k - 0 = (2 * c - 1 - k) + 2 * c by omega, Nat.add_mod_right, Nat.mod_eq_of_lt (by omega)]
  rw [e0] at h1 h2
  have hg : ∀ t, c ≤ t → t < 2 * c → (geC V t : Int) - ((2 * c - 1 - t : Nat) : Int) ≤ cm.getD (2 * c - 1 - k) 0 := by
    intro t ht1 ht2
    have := h1 (2 * c - 1 - t) (by omega)
    rw [hsum _ (by omega), show 2 * c - (2 * c - 1 - t + 1) = t by omega] at this
    exact this
  refine ⟨hg, ?_⟩
  rw [hsum (j + 1) (by omega)] at h2
  by_cases hj2 : j < c
  · refine ⟨2 * c - (j + 1), by omega, by omega, ?_⟩
    rw [show 2 * c - 1 - (2 * c - (j + 1)) = j by omega]; exact h2
  · have h4 := hg (2 * c - 1) (by omega) (by omega)
    rw [show 2 * c - 1 - (2 * c - 1) = 0 by omega] at h4
    have h5 : geC V (2 * c - (j + 1)) ≤ V.length := List.countP_le_length
    refine ⟨2 * c - 1, by omega, by omega, ?_⟩
    rw [show 2 * c - 1 - (2 * c - 1) = 0 by omega]
    omega
theorem fact_cm0 (I : CamInv (2 * c) W cm tks) (k : Nat) (hk : k < 2 * c) : 0 ≤ cm.getD (2 * c - 1 - k) 0 := I.nn _ (by omega)
theorem lead_rows (k : Nat) : leadL W c k = rowsT ((Vk W c k).map Int.toNat) := lead_nat k
theorem fact_less (h3 : 3 ≤ c) (h5 : c ≤ 5) (hWl : W.length = c) (hWb : ∀ v ∈ W, 0 ≤ v ∧ v < ((2 * c : Nat) : Int)) (I : CamInv (2 * c) W cm tks) (k : Nat) (hk : k < 2 * c) :
    lessF (leadL W c k) (stairsL c) = decide (cm.getD (2 * c - 1 - k) 0 = 0) := by
  have hL := less_rows c h3 h5 _ (Vn_len hWl k) (Vn_bound h3 k)
  obtain ⟨hg, t, ht1, ht2, ht3⟩ := came_chain h3 hWl hWb I k hk
  have h0 := fact_cm0 I k hk
  rw [← lead_rows] at hL
  by_cases e : cm.getD (2 * c - 1 - k) 0 = 0
  · rw [decide_eq_true e, hL]
    intro u hu1 hu2
    have := hg u hu1 hu2
    omega
  · rw [decide_eq_false e, Bool.eq_false_iff]
    intro hl
    have := hL.mp hl t ht1 ht2
    omega
theorem fact_max (h3 : 3 ≤ c) (h5 : c ≤ 5) (hWl : W.length = c) (hWb : ∀ v ∈ W, 0 ≤ v ∧ v < ((2 * c : Nat) : Int)) (I : CamInv (2 * c) W cm tks) (k : Nat) (hk : k < 2 * c) :
    cm.getD (2 * c - 1 - k) 0 ∈ (rangeKs (c : Int) c).map (fun q => (indentF (leadL W c k) q.toNat - indentF (stairsL c) q.toNat + 1).fdiv q) ∧ ∀ v ∈ (rangeKs (c : Int) c).map (fun q => (indentF (leadL W c k) q.toNat - indentF (stairsL c) q.toNat + 1).fdiv q), v ≤ cm.getD (2 * c - 1 - k) 0 := by
  have hB := fun t h1 h2 => beyond_rows c h3 h5 _ (Vn_len hWl k) (Vn_bound h3 k) t h1 h2
  obtain ⟨hg, t, ht1, ht2, ht3⟩ := came_chain h3 hWl hWb I k hk
  rw [← lead_rows] at hB
  constructor
  · rw [ht3, ← hB t ht1 ht2]
    have := ranges_get (g := fun q => (indentF (leadL W c k) q.toNat - indentF (stairsL c) q.toNat + 1).fdiv q) ht1 (show t < c + c by omega)
    exact List.mem_of_getElem? this
  · intro v hv
    obtain ⟨q, hq, rfl⟩ := List.mem_map.mp hv
    have hm := mem_rangeKs hq
    obtain ⟨u, rfl⟩ := Int.eq_ofNat_of_zero_le (show 0 ≤ q by omega)
    have := hg u (by omega) (by omega)
    rw [← hB u (by omega) (by omega)] at this
    exact this
end
end Mine
-- M01
set_option maxHeartbeats 4000000
namespace Mine
theorem main01 : PySem.Challenge.rw_rw0056_01.Holds := Mine.hd01 (by
  k_go0
  rename World => w
  rename Ground _ _ _ _ _ _ _ _ _ => hG
  rename Hook.says _ _ _ => hY
  rename Frag.In _ _ => X
  rename Flt.MathXP _ _ _ => hMx
  rename LooseAre _ _ _ => hV
  rename Glob _ _ _ _ _ _ _ _ => hGL
  rename Top _ _ _ _ _ _ => T
  rename Tables _ _ _ _ => hB
  rename TopE _ _ _ _ => hTE
  rename TopW _ _ _ => hTW
  rename BMod _ _ _ _ _ => hBM
  rename Heap.CodeRec _ _ _ => hcd
  rename Dflts _ _ _ _ _ _ => hD
  rename Fr _ _ _ _ => F
  rename News _ _ _ _ => N
  rename CellsAre _ _ _ => hC
  rename IntsAre _ _ => hi
  rename Heap.IsList _ _ _ => hl
  rename Below _ _ _ _ => B0
  rename Reads _ _ _ _ => hR0
  rename ReadsAll _ _ _ _ => hR1
  rename ReadsAllW _ _ _ _ _ _ => hR2
  rename Well _ _ _ _ => hW
  clear hG hY hMx hV hB hTE hTW hBM hcd hD hC hGL hR0 hR1 hR2 hW
  rename_i o5 o4 o3 o2 o1 o0 c5 c4 c3 c2 c1 c0
  have d5 : o5.data = .cell none := c5
  have d4 : o4.data = .cell none := c4
  have d3 : o3.data = .cell none := c3
  have d2 : o2.data = .cell none := c2
  have d1 : o1.data = .cell none := c1
  have d0 : o0.data = .cell none := c0
  clear c5 c4 c3 c2 c1 c0
  rename_i h1 tk1
  have F0 : Fr _ _ h1 (fun y => if y = Str.ofString "script" then some (Value.ref _) else none) := F
  clear F
  dsimp only at N ⊢
  rename _ = #[] => hgens
  rename ¬ _ => hlen
  rename Shared => s1
  refine wpAny_mono (sectA (E := fun _ _ => False) (s := { heap := h1, gens := s1.gens, drawn := s1.drawn, toks := tk1, os := s1.os }) (L := s1.heap.objs.size) F0 X T N hl hi (by omega) ?_) (fun _ _ h => h) (fun _ _ h => h.elim)
  intro hp vh eh hs u h' tk' F1 N1 hi1 hlen1 hpos1 hlt1
  refine sectB F1 X T N1 d0 d1 d2 d3 d4 d5 ?_ hi1 hlen1 hpos1 hlt1 (by decide)
  intro c W cm tks wi a yw vc ew ec o0' o1' t0 t1 u2 h2 tk2 h3 h5 hcs hWl hWb hWe hI hyw hvc d0' d1' F2 N2
  refine sectC (hs := hs) (W := W) (cm := cm) (tks := tks) F2 X T N2 d0' d1' d2 d3 d4 d5 ?_ h3 h5 (by decide)
  intro i b yb eb o2' o3' u3 h33 tk3 hix hiv hyb d2' d3' F3 N3
  refine sectD (hs := hs) (W := W) (cm := cm) (tks := tks) F3 X T N3 d0' d1' hi1 hlen1 hpos1 hyw hWl hWb ?_ h3 h5 (by decide)
  intro r tm ts u4 h4 tk4 hr hrl F4 N4
  refine sectE (hs := hs) (W := W) (cm := cm) (tks := tks) F4 X T N4 d0' d1' d2' d3' d4 d5 hrl hyw hWl hWb hvc ⟨hyb, trivial⟩ hI.len hix hiv (fun k hk => fact_less h3 h5 hWl hWb hI k hk) (fun k hk => fact_max h3 h5 hWl hWb hI k hk) (fun k hk => fact_cm0 hI k hk)
    fact_r1 fact_r2 (fun k _ => fact_r3 h3 k) (fact_bQ hWl h3 h5) (fact_bS hWl h3 h5) (fact_bM hWl h3 h5) (fact_bL hWl h3 h5) (fact_e0 hWl h5 hWb hr) fact_e1 (fact_e2 hWb) h3 h5 (by decide) (by decide) ?_
  intro h9 tk9 m9 F9
  exact goodW_bool F9 hgens (raisesW_false (by wrow_none_raised)) (by kc_post))
end Mine

theorem PySem.Challenge.cw_rw0056_01_holds : PySem.Challenge.rw_rw0056_01.Holds :=
  Mine.main01
