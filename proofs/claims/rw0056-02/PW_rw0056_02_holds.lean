import PyProof.Rows.All
import Wide.All
import OpenK.AllK
import Wide.FinOn
import Lean
import PySem.Challenge.RW_rw0056_02
open PySem PySem.W PySem.Calls PyProof.Rows
set_option Elab.async false
set_option maxRecDepth 100000
set_option maxHeartbeats 4000000
set_option linter.all false
-- Re1
open PySem PyProof.Rows
namespace Mine
open PySem.Sre (M)
/-! the two pattern codes -/
abbrev code1 : Array Nat := #[14, 4, 0, 1, 1, 6, 1, 16, 46, 1]
abbrev code2 : Array Nat := #[14, 9, 4, 1, 2, 16, 10, 16, 13, 0, 7, 7, 16, 13, 16, 10, 15, 18, 5, 16, 10, 15, 13, 11, 16, 13, 5, 5, 0, 16, 10, 1, 15, 2, 0, 1]
theorem runFor_add (a b : Nat) (m : M) : M.runFor (a + b) m = M.runFor b (M.runFor a m) := by
  induction a generalizing m with
  | zero => simp [M.runFor]
  | succ a ih =>
    rw [Nat.succ_add, M.runFor, M.runFor]
    split
    · rename_i h
      cases b with
      | zero => rfl
      | succ b => rw [M.runFor, if_pos h]
    · exact ih _
theorem runFor_stop {m : M} (h : m.outcome.isSome = true) : ∀ n, M.runFor n m = m
  | 0 => rfl
  | n + 1 => by rw [M.runFor, if_pos h]
/-- the machine comes from m to m' in n steps -/
def Go (n : Nat) (m m' : M) : Prop := M.runFor n m = m'
theorem Go.trans {a b : Nat} {m m' m'' : M} (h : Go a m m') (h' : Go b m' m'') : Go (a + b) m m'' := by
  unfold Go at *; rw [runFor_add, h, h']
theorem Go.step {n : Nat} {m m' : M} (ho : m.outcome = none) (h : Go n m.step m') : Go (n + 1) m m' := by
  unfold Go at *
  rw [M.runFor, ho]; exact h
theorem Go.zero {m : M} : Go 0 m m := rfl
/-- at a start s, by pattern 1 -/
def at1 (t : Array Nat) (s : Nat) (first must : Bool) (se : Sre.Seen) : M :=
  { code := code1, text := t, lim := t.size, start := s, lastStart := t.size, mustAdvance := must, pc := 5, pos := s, handed := s, outermost := first, marks := #[], frames := [{ wait := .nextStart, pc := 5, pos := s, outermost := first }], weight := 1, seen := se }
theorem at1_step (t : Array Nat) (s : Nat) (first must : Bool) (se : Sre.Seen) : (at1 t s first must se).step =
    if (s == 0 || t.getD (s - 1) 0 == 10) = true then { at1 t s first must ((se.add 6).add 44) with pc := 7 } else { at1 t s first must ((se.add 6).add 44) with answer := some false } := rfl
theorem at1_step2 (t : Array Nat) (s : Nat) (first must : Bool) (se : Sre.Seen) : M.step { at1 t s first must se with answer := some false } =
    if s < t.size then at1 t (s + 1) false false se else { at1 t s first must se with answer := some false, frames := [], weight := 0 } := rfl
theorem at1_lit (t : Array Nat) (s : Nat) (first must : Bool) (se : Sre.Seen) : M.step { at1 t s first must se with pc := 7 } =
    if s ≥ t.size then { at1 t s first must (se.add 16) with pc := 7, answer := some false } else if (t.getD s 0 == 46) = true then { at1 t s first must (se.add 16) with pc := 9, pos := s + 1 } else { at1 t s first must (se.add 16) with pc := 7, answer := some false } := by
  show (if s ≥ t.size then _ else match Sre.accepts code1 7 (t.getD s 0) (se.add 16) with | .error why => _ | .ok (false, seen) => _ | .ok (true, seen) => _) = _
  have : Sre.accepts code1 7 (t.getD s 0) (se.add 16) = .ok (t.getD s 0 == 46, se.add 16) := rfl
  rw [this]
  split
  · rfl
  · cases (t.getD s 0 == 46) <;> rfl
theorem at1_won (t : Array Nat) (s : Nat) (first must : Bool) (se : Sre.Seen) (hm : must = false) : ∃ m, Go 3 { at1 t s first must se with pc := 9, pos := s + 1 } m ∧ m.outcome = some .matched ∧ m.start = s ∧ m.handed = s + 1 := by
  subst hm
  cases first <;> exact ⟨_, rfl, rfl, rfl, rfl⟩
def bol (t : Array Nat) (s : Nat) : Bool := s == 0 || t.getD (s - 1) 0 == 10
def hit1 (t : Array Nat) (s : Nat) : Prop := bol t s = true ∧ t.getD s 0 = 46
def found1 (t : Array Nat) (i : Nat) (m : M) : Prop :=
  (m.outcome = some .matched ∧ ∃ b, i ≤ b ∧ b < t.size ∧ hit1 t b ∧ (∀ j, i ≤ j → j < b → ¬ hit1 t j) ∧ m.start = b ∧ m.handed = b + 1) ∨ (m.outcome = some .failed ∧ ∀ j, i ≤ j → j < t.size → ¬ hit1 t j)
theorem found1_next {t : Array Nat} {i : Nat} {m : M} (hn : ¬ hit1 t i) (h : found1 t (i + 1) m) : found1 t i m := by
  rcases h with ⟨h1, b, h2, h3, h4, h5, h6⟩ | ⟨h1, h2⟩
  · refine .inl ⟨h1, b, by omega, h3, h4, fun j hj hb => ?_, h6⟩
    by_cases e : j = i
    · subst e; exact hn
    · exact h5 j (by omega) hb
  · refine .inr ⟨h1, fun j hj hb => ?_⟩
    by_cases e : j = i
    · subst e; exact hn
    · exact h2 j (by omega) hb
theorem at1_go (t : Array Nat) : ∀ (k s : Nat) (first : Bool) (se : Sre.Seen), s + k = t.size → ∃ n m, Go n (at1 t s first false se) m ∧ n ≤ 4 * k + 6 ∧ found1 t s m := by
  intro k
  induction k with
  | zero =>
    intro s first se hs
    have hsz : ¬ s < t.size := by omega
    have hge : s ≥ t.size := by omega
    cases hb : bol t s with
    | false =>
      refine ⟨3, _, Go.step rfl (Go.step ?_ (Go.step ?_ Go.zero)), by omega, ?_⟩
      · rw [at1_step, if_neg (by rw [show (s == 0 || t.getD (s - 1) 0 == 10) = bol t s from rfl, hb]; exact Bool.false_ne_true)]; rfl
      · rw [at1_step, if_neg (by rw [show (s == 0 || t.getD (s - 1) 0 == 10) = bol t s from rfl, hb]; exact Bool.false_ne_true), at1_step2, if_neg hsz]; rfl
      · rw [at1_step, if_neg (by rw [show (s == 0 || t.getD (s - 1) 0 == 10) = bol t s from rfl, hb]; exact Bool.false_ne_true), at1_step2, if_neg hsz]
        exact .inr ⟨rfl, fun j h1 h2 => by omega⟩
    | true =>
      have e1 := (at1_step t s first false se).trans (if_pos hb)
      have e2 := (at1_lit t s first false ((se.add 6).add 44)).trans (if_pos hge)
      have e3 : M.step { at1 t s first false (((se.add 6).add 44).add 16) with pc := 7, answer := some false } = _ := (at1_step2 t s first false (((se.add 6).add 44).add 16)).trans (if_neg hsz)
      refine ⟨4, M.step { at1 t s first false (((se.add 6).add 44).add 16) with answer := some false, frames := [], weight := 0 }, Go.step rfl ?_, by omega, ?_⟩
      · rw [e1]
        refine Go.step rfl ?_
        rw [e2]
        refine Go.step rfl ?_
        rw [e3]
        exact Go.step rfl Go.zero
      · exact .inr ⟨rfl, fun j h1 h2 => by omega⟩
  | succ k ih =>
    intro s first se hs
    have hlt : s < t.size := by omega
    have hnge : ¬ s ≥ t.size := by omega
    cases hb : bol t s with
    | false =>
      have e1 := (at1_step t s first false se).trans (if_neg (by rw [show (s == 0 || t.getD (s - 1) 0 == 10) = bol t s from rfl, hb]; exact Bool.false_ne_true))
      have e2 := (at1_step2 t s first false ((se.add 6).add 44)).trans (if_pos hlt)
      obtain ⟨n, m, h1, h2, h3⟩ := ih (s + 1) false ((se.add 6).add 44) (by omega)
      refine ⟨n + 1 + 1, m, Go.step rfl ?_, by omega, found1_next (fun h => by rw [h.1] at hb; cases hb) h3⟩
      rw [e1]
      refine Go.step rfl ?_
      rw [e2]
      exact h1
    | true =>
      have e1 := (at1_step t s first false se).trans (if_pos hb)
      have e2 := (at1_lit t s first false ((se.add 6).add 44)).trans (if_neg hnge)
      cases hd : t.getD s 0 == 46 with
      | false =>
        rw [if_neg (by rw [hd]; exact Bool.false_ne_true)] at e2
        have e3 : M.step { at1 t s first false (((se.add 6).add 44).add 16) with pc := 7, answer := some false } = _ := (at1_step2 t s first false (((se.add 6).add 44).add 16)).trans (if_pos hlt)
        obtain ⟨n, m, h1, h2, h3⟩ := ih (s + 1) false (((se.add 6).add 44).add 16) (by omega)
        refine ⟨n + 1 + 1 + 1, m, Go.step rfl ?_, by omega, found1_next (fun h => by rw [h.2] at hd; cases hd) h3⟩
        rw [e1]
        refine Go.step rfl ?_
        rw [e2]
        refine Go.step rfl ?_
        rw [e3]
        exact h1
      | true =>
        rw [if_pos hd] at e2
        obtain ⟨m, h1, h2, h3, h4⟩ := at1_won t s first false (((se.add 6).add 44).add 16) rfl
        refine ⟨3 + 1 + 1, m, Go.step rfl ?_, by omega, .inl ⟨h2, s, Nat.le_refl _, hlt, ⟨hb, by simpa using hd⟩, fun j _ _ => by omega, h3, h4⟩⟩
        rw [e1]
        refine Go.step rfl ?_
        rw [e2]
        exact h1
theorem search1 (t : Array Nat) (i : Nat) (hi : i ≤ t.size) : ∃ n m, Go n (Sre.forSearch code1 t 0 i t.size false) m ∧ n ≤ 4 * t.size + 6 ∧ found1 t i m := by
  by_cases he : i = t.size
  · subst he
    have e : Sre.forSearch code1 t 0 t.size t.size false = { code := code1, text := t, lim := t.size, start := t.size, pc := 5, pos := t.size, handed := t.size, marks := #[], seen := ({} : Sre.Seen).add 14, answer := some false } := by
      show (if (t.size > t.size || t.size - t.size < 1) = true then _ else _) = _
      rw [if_pos (by simp)]; rfl
    rw [e]
    exact ⟨1, _, rfl, by omega, .inr ⟨rfl, fun j h1 h2 => by omega⟩⟩
  · have e : Sre.forSearch code1 t 0 i t.size false = at1 t i true false (({} : Sre.Seen).add 14) := by
      show (if (decide (i > t.size) || decide (t.size - i < 1)) = true then _ else _) = _
      rw [if_neg (by simp; omega)]; rfl
    rw [e]
    obtain ⟨n, m, h1, h2, h3⟩ := at1_go t (t.size - i) i true _ (by omega)
    exact ⟨n, m, h1, by omega, h3⟩
end Mine
-- Re2
open PySem PyProof.Rows
namespace Mine
open PySem.Sre (M)
/-- a state of the search by pattern 2 -/
def st2 (t : Array Nat) (s pc pos handed : Nat) (out : Bool) (fr : List Sre.Frame) (wt : Nat) (se : Sre.Seen) (ans : Option Bool) : M :=
  { code := code2, text := t, lim := t.size, start := s, lastStart := t.size, pc, pos, handed, outermost := out, marks := #[], frames := fr, weight := wt, seen := se, answer := ans }
theorem lit2 (t : Array Nat) (s pc pos handed : Nat) (out : Bool) (fr : List Sre.Frame) (wt : Nat) (se : Sre.Seen) (x : Nat) (hpc : (pc, x) ∈ [(12, 13), (14, 10), (19, 10), (24, 13), (29, 10)]) :
    M.step (st2 t s pc pos handed out fr wt se none) = if pos ≥ t.size then st2 t s pc pos handed out fr wt (se.add 16) (some false) else if (t.getD pos 0 == x) = true then st2 t s (pc + 2) (pos + 1) handed out fr wt (se.add 16) none else st2 t s pc pos handed out fr wt (se.add 16) (some false) := by
  simp only [List.mem_cons, Prod.mk.injEq, List.not_mem_nil, or_false] at hpc
  rcases hpc with ⟨rfl, rfl⟩ | ⟨rfl, rfl⟩ | ⟨rfl, rfl⟩ | ⟨rfl, rfl⟩ | ⟨rfl, rfl⟩
  · show (if pos ≥ t.size then _ else match Sre.accepts code2 12 (t.getD pos 0) (se.add 16) with | .error why => _ | .ok (false, seen) => _ | .ok (true, seen) => _) = _
    have : Sre.accepts code2 12 (t.getD pos 0) (se.add 16) = .ok (t.getD pos 0 == 13, se.add 16) := rfl
    rw [this]
    split
    · rfl
    · cases (t.getD pos 0 == 13) <;> rfl
  · show (if pos ≥ t.size then _ else match Sre.accepts code2 14 (t.getD pos 0) (se.add 16) with | .error why => _ | .ok (false, seen) => _ | .ok (true, seen) => _) = _
    have : Sre.accepts code2 14 (t.getD pos 0) (se.add 16) = .ok (t.getD pos 0 == 10, se.add 16) := rfl
    rw [this]
    split
    · rfl
    · cases (t.getD pos 0 == 10) <;> rfl
  · show (if pos ≥ t.size then _ else match Sre.accepts code2 19 (t.getD pos 0) (se.add 16) with | .error why => _ | .ok (false, seen) => _ | .ok (true, seen) => _) = _
    have : Sre.accepts code2 19 (t.getD pos 0) (se.add 16) = .ok (t.getD pos 0 == 10, se.add 16) := rfl
    rw [this]
    split
    · rfl
    · cases (t.getD pos 0 == 10) <;> rfl
  · show (if pos ≥ t.size then _ else match Sre.accepts code2 24 (t.getD pos 0) (se.add 16) with | .error why => _ | .ok (false, seen) => _ | .ok (true, seen) => _) = _
    have : Sre.accepts code2 24 (t.getD pos 0) (se.add 16) = .ok (t.getD pos 0 == 13, se.add 16) := rfl
    rw [this]
    split
    · rfl
    · cases (t.getD pos 0 == 13) <;> rfl
  · show (if pos ≥ t.size then _ else match Sre.accepts code2 29 (t.getD pos 0) (se.add 16) with | .error why => _ | .ok (false, seen) => _ | .ok (true, seen) => _) = _
    have : Sre.accepts code2 29 (t.getD pos 0) (se.add 16) = .ok (t.getD pos 0 == 10, se.add 16) := rfl
    rw [this]
    split
    · rfl
    · cases (t.getD pos 0 == 10) <;> rfl
theorem lit2_yes {t : Array Nat} {s pc pos handed : Nat} {out : Bool} {fr : List Sre.Frame} {wt : Nat} {se : Sre.Seen} (x : Nat) (hpc : (pc, x) ∈ [(12, 13), (14, 10), (19, 10), (24, 13), (29, 10)]) (h1 : pos < t.size) (h2 : t.getD pos 0 = x) :
    M.step (st2 t s pc pos handed out fr wt se none) = st2 t s (pc + 2) (pos + 1) handed out fr wt (se.add 16) none := by
  rw [lit2 t s pc pos handed out fr wt se x hpc, if_neg (by omega), if_pos (by rw [h2]; exact beq_self_eq_true x)]
theorem lit2_no {t : Array Nat} {s pc pos handed : Nat} {out : Bool} {fr : List Sre.Frame} {wt : Nat} {se : Sre.Seen} (x : Nat) (hpc : (pc, x) ∈ [(12, 13), (14, 10), (19, 10), (24, 13), (29, 10)]) (h : pos < t.size → t.getD pos 0 ≠ x) :
    M.step (st2 t s pc pos handed out fr wt se none) = st2 t s pc pos handed out fr wt (se.add 16) (some false) := by
  rw [lit2 t s pc pos handed out fr wt se x hpc]
  split
  · rfl
  · rw [if_neg (by simpa using h (by omega))]
/-- a match at s that ends at e -/
def Won (s e : Nat) (m : M) : Prop := m.outcome = some .matched ∧ m.start = s ∧ m.handed = e
theorem Go.by {n : Nat} {m m₁ m' : M} (ho : m.outcome = none) (e : m.step = m₁) (h : Go n m₁ m') : Go (n + 1) m m' := Go.step ho (e ▸ h)
abbrev f20 (s : Nat) (first : Bool) : Sre.Frame := { wait := .nextStart, pc := 10, pos := s, outermost := first }
abbrev f2b (s k : Nat) (first : Bool) : Sre.Frame := { wait := .nextBranch, pc := k, pos := s, outermost := first }
/-- from the branch's SUCCESS on -/
theorem end2 (t : Array Nat) (s e k : Nat) (first : Bool) (se : Sre.Seen) (hd : Nat) : ∃ m, Go 4 (st2 t s 35 e hd first [f2b s k first, f20 s first] 2 se none) m ∧ Won s e m := by
  cases first <;> exact ⟨_, rfl, rfl, rfl, rfl⟩
theorem run2_crlf {t : Array Nat} {s : Nat} {first : Bool} {se : Sre.Seen} (h1 : s + 1 < t.size) (h2 : t.getD s 0 = 13) (h3 : t.getD (s + 1) 0 = 10) :
    ∃ n m, Go n (st2 t s 10 s s first [f20 s first] 1 se none) m ∧ n ≤ 20 ∧ Won s (s + 2) m := by
  obtain ⟨m, g, h⟩ := end2 t s (s + 2) 11 first (((((se.add 7).add 16).add 16).add 15)) s
  refine ⟨4 + 1 + 1 + 1 + 1, m, Go.by rfl (m₁ := st2 t s 12 s s first [f2b s 11 first, f20 s first] 2 (se.add 7) none) rfl (Go.by rfl (lit2_yes 13 (by decide) (by omega) h2) (Go.by rfl (lit2_yes 10 (by decide) (by omega) h3) (Go.by rfl rfl ?_))), by omega, h⟩
  exact g
theorem run2_lf {t : Array Nat} {s : Nat} {first : Bool} {se : Sre.Seen} (h1 : s < t.size) (h2 : t.getD s 0 = 10) :
    ∃ n m, Go n (st2 t s 10 s s first [f20 s first] 1 se none) m ∧ n ≤ 20 ∧ Won s (s + 1) m := by
  obtain ⟨m, g, h⟩ := end2 t s (s + 1) 18 first (((((se.add 7).add 16).add 16).add 15)) s
  refine ⟨4 + 1 + 1 + 1 + 1 + 1, m, Go.by rfl (m₁ := st2 t s 12 s s first [f2b s 11 first, f20 s first] 2 (se.add 7) none) rfl (Go.by rfl (lit2_no 13 (by decide) (fun _ => by omega)) (Go.by rfl (m₁ := st2 t s 19 s s first [f2b s 18 first, f20 s first] 2 ((se.add 7).add 16) none) rfl (Go.by rfl (lit2_yes 10 (by decide) (by omega) h2) (Go.by rfl rfl ?_)))), by omega, h⟩
  exact g
theorem run2_cr {t : Array Nat} {s : Nat} {first : Bool} {se : Sre.Seen} (h1 : s < t.size) (h2 : t.getD s 0 = 13) (h3 : s + 1 < t.size → t.getD (s + 1) 0 ≠ 10) :
    ∃ n m, Go n (st2 t s 10 s s first [f20 s first] 1 se none) m ∧ n ≤ 20 ∧ Won s (s + 1) m := by
  obtain ⟨m, g, h⟩ := end2 t s (s + 1) 23 first ((((((((se.add 7).add 16).add 16).add 16).add 16).add 5).add 16).add 15) (s + 1)
  refine ⟨4 + 1 + 1 + 1 + 1 + 1 + 1 + 1 + 1 + 1 + 1 + 1, m, Go.by rfl (m₁ := st2 t s 12 s s first [f2b s 11 first, f20 s first] 2 (se.add 7) none) rfl (Go.by rfl (lit2_yes 13 (by decide) (by omega) h2) (Go.by rfl (lit2_no 10 (by decide) h3)
    (Go.by rfl (m₁ := st2 t s 19 s s first [f2b s 18 first, f20 s first] 2 (((se.add 7).add 16).add 16) none) rfl (Go.by rfl (lit2_no 10 (by decide) (fun _ => by omega))
      (Go.by rfl (m₁ := st2 t s 24 s s first [f2b s 23 first, f20 s first] 2 ((((se.add 7).add 16).add 16).add 16) none) rfl (Go.by rfl (lit2_yes 13 (by decide) (by omega) h2)
        (Go.by rfl (m₁ := st2 t s 29 (s + 1) (s + 1) false [{ wait := .lookNot, pc := 26, pos := s + 1, outermost := first }, f2b s 23 first, f20 s first] 3 ((((((se.add 7).add 16).add 16).add 16).add 16).add 5) none) rfl
          (Go.by rfl (lit2_no 10 (by decide) h3) (Go.by rfl rfl (Go.by rfl rfl ?_)))))))))), by omega, h⟩
  exact g
def isEol (c : Nat) : Bool := c == 10 || c == 13
theorem inSet2 (c : Nat) (se : Sre.Seen) : ∃ se', Sre.inSet code2 c 36 5 true se = .ok (isEol c, se') := by
  by_cases h : c = 10
  · subst h; exact ⟨_, rfl⟩
  · by_cases h' : c = 13
    · subst h'; exact ⟨_, rfl⟩
    · have e : Sre.inSet code2 c 36 5 true se = if (c == 10) = true then .ok (true, se.add 16) else if (c == 13) = true then .ok (true, (se.add 16).add 16) else .ok (false, ((se.add 16).add 16).add 0) := rfl
      rw [e, if_neg (by simpa using h), if_neg (by simpa using h')]
      exact ⟨((se.add 16).add 16).add 0, by simp [isEol, h, h']⟩
/-- where the match that begins at b ends -/
def endAt (t : Array Nat) (b : Nat) : Nat := if t.getD b 0 = 13 ∧ b + 1 < t.size ∧ t.getD (b + 1) 0 = 10 then b + 2 else b + 1
def found2 (t : Array Nat) (i : Nat) (m : M) : Prop :=
  (m.outcome = some .matched ∧ ∃ b, i ≤ b ∧ b < t.size ∧ isEol (t.getD b 0) = true ∧ (∀ j, i ≤ j → j < b → isEol (t.getD j 0) = false) ∧ m.start = b ∧ m.handed = endAt t b) ∨ (m.outcome = some .failed ∧ ∀ j, i ≤ j → j < t.size → isEol (t.getD j 0) = false)
theorem admitted2 (m : M) (hc : m.code = code2) : ∀ (k s : Nat) (se : Sre.Seen), s + k = m.lim → ∃ se', (∃ b, s ≤ b ∧ b < m.lim ∧ isEol (m.text.getD b 0) = true ∧ (∀ j, s ≤ j → j < b → isEol (m.text.getD j 0) = false) ∧ M.admitted m (k + 1) s se = .ok (some b, se')) ∨ ((∀ j, s ≤ j → j < m.lim → isEol (m.text.getD j 0) = false) ∧ M.admitted m (k + 1) s se = .ok (none, se')) := by
  intro k
  induction k with
  | zero =>
    intro s se hs
    refine ⟨se, .inr ⟨fun j h1 h2 => by omega, ?_⟩⟩
    rw [M.admitted, if_pos (by omega)]
  | succ k ih =>
    intro s se hs
    obtain ⟨se', h⟩ := inSet2 (m.text.getD s 0) se
    rw [M.admitted, if_neg (by omega), hc, show code2.size = 36 from rfl, h]
    cases he : isEol (m.text.getD s 0) with
    | true => exact ⟨se', .inl ⟨s, Nat.le_refl _, by omega, he, fun j h1 h2 => by omega, rfl⟩⟩
    | false =>
      obtain ⟨se'', h'⟩ := ih (s + 1) se' (by omega)
      refine ⟨se'', ?_⟩
      rcases h' with ⟨b, h1, h2, h3, h4, h5⟩ | ⟨h1, h2⟩
      · refine .inl ⟨b, by omega, h2, h3, fun j hj hb => ?_, h5⟩
        by_cases e : j = s
        · subst e; exact he
        · exact h4 j (by omega) hb
      · refine .inr ⟨fun j hj hb => ?_, h2⟩
        by_cases e : j = s
        · subst e; exact he
        · exact h1 j (by omega) hb
theorem search2 (t : Array Nat) (i : Nat) (hi : i ≤ t.size) : ∃ n m, Go n (Sre.forSearch code2 t 0 i t.size false) m ∧ n ≤ 20 ∧ found2 t i m := by
  by_cases he : i = t.size
  · subst he
    have e : Sre.forSearch code2 t 0 t.size t.size false = { code := code2, text := t, lim := t.size, start := t.size, pc := 10, pos := t.size, handed := t.size, marks := #[], seen := ({} : Sre.Seen).add 14, answer := some false } := by
      show (if (t.size > t.size || t.size - t.size < 1) = true then _ else _) = _
      rw [if_pos (by simp)]; rfl
    rw [e]
    exact ⟨1, _, rfl, by omega, .inr ⟨rfl, fun j h1 h2 => by omega⟩⟩
  · have e : Sre.forSearch code2 t 0 i t.size false = M.attemptFrom { code := code2, text := t, lim := t.size, start := i, lastStart := t.size, pc := 10, pos := i, handed := i, marks := #[], seen := ({} : Sre.Seen).add 14 } i true := by
      show (if (decide (i > t.size) || decide (t.size - i < 1)) = true then _ else _) = _
      rw [if_neg (by simp; omega)]; rfl
    rw [e]
    obtain ⟨se', h⟩ := admitted2 { code := code2, text := t, lim := t.size, start := i, lastStart := t.size, pc := 10, pos := i, handed := i, marks := #[], seen := ({} : Sre.Seen).add 14 } rfl (t.size - i) i (({} : Sre.Seen).add 14) (by show i + (t.size - i) = t.size; omega)
    have hk : t.size - i + 1 = t.size + 1 - i := by omega
    rw [hk] at h
    rcases h with ⟨b, h1, h2, h3, h4, h5⟩ | ⟨h1, h2⟩
    · have e2 : M.attemptFrom { code := code2, text := t, lim := t.size, start := i, lastStart := t.size, pc := 10, pos := i, handed := i, marks := #[], seen := ({} : Sre.Seen).add 14 } i true = st2 t b 10 b b true [f20 b true] 1 se' none := by
        show (match M.admitted _ (t.size + 1 - i) i _ with | .ok (some s, seen) => _ | .ok (none, seen) => _ | .error why => _) = _
        rw [h5]; rfl
      rw [e2]
      have fin : (∃ n m, Go n (st2 t b 10 b b true [f20 b true] 1 se' none) m ∧ n ≤ 20 ∧ Won b (endAt t b) m) := by
        simp only at h2 h3
        by_cases c : t.getD b 0 = 13
        · by_cases c' : b + 1 < t.size ∧ t.getD (b + 1) 0 = 10
          · have : endAt t b = b + 2 := if_pos ⟨c, c'⟩
            rw [this]; exact run2_crlf c'.1 c c'.2
          · have : endAt t b = b + 1 := if_neg fun x => c' x.2
            rw [this]; exact run2_cr h2 c fun hb hq => c' ⟨hb, hq⟩
        · have c2 : t.getD b 0 = 10 := by simp only [isEol, Bool.or_eq_true, beq_iff_eq] at h3; exact h3.resolve_right c
          have : endAt t b = b + 1 := if_neg fun x => c x.1
          rw [this]; exact run2_lf h2 c2
      obtain ⟨n, m, g, hn, hw⟩ := fin
      exact ⟨n, m, g, hn, .inl ⟨hw.1, b, h1, h2, h3, h4, hw.2.1, hw.2.2⟩⟩
    · have e2 : M.attemptFrom { code := code2, text := t, lim := t.size, start := i, lastStart := t.size, pc := 10, pos := i, handed := i, marks := #[], seen := ({} : Sre.Seen).add 14 } i true = { code := code2, text := t, lim := t.size, start := i, lastStart := t.size, pc := 10, pos := i, handed := i, marks := #[], seen := se', answer := some false } := by
        show (match M.admitted _ (t.size + 1 - i) i _ with | .ok (some s, seen) => _ | .ok (none, seen) => _ | .error why => _) = _
        rw [h2]; rfl
      rw [e2]
      exact ⟨1, _, rfl, by omega, .inr ⟨rfl, h1⟩⟩
end Mine
-- Re3
open PySem PySem.W PySem.Calls PyProof.Rows PySem.Builtin.Re
open PySem.Sre (M)
namespace Mine
/-! the built-in re.Pattern.sub -/
theorem rp_plain : PlainAttrs "re.Pattern" :=
  ⟨⟨"object.__getattribute__", by rw [typeLookup_type, builtinLookup_eq_fast]; kernel_rfl, by decide +kernel⟩, by rw [typeLookup_type, builtinLookup_eq_fast]; kernel_rfl⟩
theorem rp_slot : Slot "re.Pattern" "sub" "re.Pattern.sub" :=
  .of (owner := "re.Pattern") (n := "sub") (by rw [typeLookup_type, builtinLookup_eq_fast]; kernel_rfl) (by decide +kernel) (by decide +kernel) (by decide +kernel)
    (by first | exact .inl (by decide +kernel) | exact .inr (by decide +kernel)) (by rw [isSubtype_type]; kernel_rfl)
theorem rp_type : typeOf (.builtin "re.Pattern.sub") = pure (.type "method_descriptor") := by show builtinType _ = _; rw [builtinType_eq_fast]; kernel_rfl
theorem rp_entry : entryFor table "re.Pattern.sub" = some Builtin.«re.Pattern.sub» := entryFor_of_tree (by kernel_rfl)
theorem rp_entryLoop : entryFor table "re.Pattern.sub.loop" = some Builtin.«re.Pattern.sub.loop» := entryFor_of_tree (by kernel_rfl)
theorem rp_args (a b c : Value) : argsOk "re.Pattern.sub" ⟨[a, b, c], []⟩ := by unfold argsOk; kernel_rfl
theorem str_no_call : typeLookup (.type "str") "__call__" = pure none := by rw [typeLookup_type, builtinLookup_eq_fast]; kernel_rfl
theorem rp_named (a b : Value) : reNamed "re.Pattern.sub" "sub" ["repl", "string", "count"] 2 [a, b] [] = pure [some a, some b, none] := by rfl
end Mine
-- Re4
open PySem PySem.W PySem.Calls PyProof.Rows PySem.Builtin.Re
open PySem.Sre (M)
namespace Mine
/-! driving the machine -/
section
variable {Mo : Model} {A : Around} {E : Value → Shared → Prop} {s : Shared}
theorem reDrive_go {m' : M} (ho : m'.outcome.isSome = true) : ∀ (turns n : Nat) (m : M) (Q : M → Shared → Prop), Go n m m' → n ≤ 4 * turns → 0 < turns → Q m' s → wpAny Mo A (reDrive turns m) Q E s := by
  intro turns
  induction turns with
  | zero => intro n m Q _ _ h; omega
  | succ k ih =>
    intro n m Q g hn _ hQ
    show wpAny Mo A (if (m.runFor reTurnSteps).outcome.isSome then pure (m.runFor reTurnSteps) else do rule "sre.turn"; reDrive k (m.runFor reTurnSteps)) Q E s
    have e4 : reTurnSteps = 4 := rfl
    rw [e4]
    by_cases hle : n ≤ 4
    · have e : m.runFor 4 = m' := by
        have : (4 : Nat) = n + (4 - n) := by omega
        rw [this, runFor_add]
        unfold Go at g; rw [g]; exact runFor_stop ho _
      rw [e, if_pos ho]
      exact wpAny_pure hQ
    · have g' : Go (n - 4) (m.runFor 4) m' := by
        unfold Go at g ⊢
        rw [← runFor_add, ← g]; congr 1; omega
      by_cases h4 : (m.runFor 4).outcome.isSome = true
      · have e : m.runFor 4 = m' := by
          unfold Go at g'; rw [runFor_stop h4] at g'; exact g'
        rw [e, if_pos ho]
        exact wpAny_pure hQ
      · rw [if_neg h4]
        exact wpAny_bind (wpAny_rule (ih (n - 4) _ Q g' (by omega) (by omega) hQ))
theorem run_end {m m' : M} {n : Nat} (g : Go n m m') (hn : n ≤ 4 * 2 ^ 64) {Q : Option M → Shared → Prop}
    (h : (m'.outcome = some .matched ∧ Q (some m') s) ∨ (m'.outcome = some .failed ∧ Q none s)) : wpAny Mo A (reRunToEnd m) Q E s := by
  have ho : m'.outcome.isSome = true := by rcases h with h | h <;> simp [h.1]
  unfold reRunToEnd
  refine wpAny_bind (reDrive_go ho _ n m _ g hn (Nat.two_pow_pos _) ?_)
  refine wpAny_bind (wpAny_forIn_list (I := fun _ _ s' => s' = s) (Q := fun _ s' => _) _ (turn := ?_) (fin := ?_) _ _ rfl)
  · rintro x rest b s' rfl
    refine wpAny_ite ?_
    split
    · exact wpAny_bind (wpAny_rule (wpAny_pure rfl))
    · exact wpAny_pure rfl
  · rintro b s' rfl
    rcases h with h | h
    · rw [h.1]; exact wpAny_pure h.2
    · rw [h.1]; exact wpAny_pure h.2
end
/-- a pattern object with this code -/
def PatAt (h : Heap) (a : Addr) (code : Array Nat) : Prop :=
  ∃ (o ot : Obj) (p f : Value) (u v : Tok) (tup : Addr) (items : Array Value) (n : Nat), h.get? a = some o ∧ o.cls = .type "re.Pattern" ∧ o.dict = none ∧ o.data = .fields #[p, f, .int 0 u, .none, .none, .ref tup, .int 0 v] ∧
    h.get? tup = some ot ∧ ot.cls = .type "tuple" ∧ ot.data = .seq items n ∧ (items.map reRawOf).map (·.toNat) = code
theorem PatAt.keeps {h h' : Heap} {a : Addr} {code : Array Nat} (P : PatAt h a code) (k : h.StaysIn h') : PatAt h' a code := by
  obtain ⟨o, ot, p, f, u, v, tup, items, n, h1, h2, h3, h4, h5, h6, h7, h8⟩ := P
  exact ⟨o, ot, p, f, u, v, tup, items, n, k _ _ h1, h2, h3, h4, k _ _ h5, h6, h7, h8⟩
/-- all but the object at D stays -/
def StaysBut (D : Addr) (h h' : Heap) : Prop := ∀ b o, b ≠ D → h.get? b = some o → h'.get? b = some o
theorem PatAt.but {h h' : Heap} {a D : Addr} {code : Array Nat} {oD : Obj} (P : PatAt h a code) (hD : h.get? D = some oD) (hc : oD.cls = .type "list") (k : StaysBut D h h') : PatAt h' a code := by
  obtain ⟨o, ot, p, f, u, v, tup, items, n, h1, h2, h3, h4, h5, h6, h7, h8⟩ := P
  refine ⟨o, ot, p, f, u, v, tup, items, n, k _ _ (fun e => ?_) h1, h2, h3, h4, k _ _ (fun e => ?_) h5, h6, h7, h8⟩
  · subst e; rw [hD] at h1; cases h1; exact absurd (hc.symm.trans h2) (by decide)
  · subst e; rw [hD] at h5; cases h5; exact absurd (hc.symm.trans h6) (by decide)
section
variable {Mo : Model} {A : Around} {E : Value → Shared → Prop} {s : Shared} {a : Addr} {code : Array Nat} {x : Str} {t : Tok}
theorem whole_at {Q : ReTarget → Shared → Prop} (P : PatAt s.heap a code)
    (h : Q { pattern := .ref a, string := .str x t, code, text := x.cps, kind := 0, groups := 0, pos := 0, lim := x.cps.size } s) : wpAny Mo A (reWholeTarget (.ref a) (.str x t)) Q E s := by
  obtain ⟨o, ot, p, f, u, v, tup, items, n, h1, h2, h3, h4, h5, h6, h7, h8⟩ := P
  subst h8
  unfold reWholeTarget
  refine wpAny_bind ?_
  unfold fieldsOf
  refine wpAny_bind (wpAny_load h1 ?_)
  rw [h4]
  refine wpAny_pure ?_
  refine wpAny_bind (wpAny_of_eq (a := (x.cps, 0)) rfl ?_)
  dsimp only
  refine wpAny_bind ?_
  refine wpAny_of_eq (a := ()) rfl ?_
  refine wpAny_bind ?_
  unfold reRawItems
  refine wpAny_bind ?_
  refine wpAny_seqItems h5 h7 ?_
  exact wpAny_pure (wpAny_pure h)
end
end Mine
-- Re5
open PySem PySem.W PySem.Calls PyProof.Rows PySem.Builtin.Re
open PySem.Sre (M)
namespace Mine
/-- what a search by the code finds from each place on: hit b is the end of the match at b -/
def Finds (code t : Array Nat) (hit : Nat → Option Nat) : Prop :=
  ∀ i, i ≤ t.size → ∃ n m, Go n (Sre.forSearch code t 0 i t.size false) m ∧ n ≤ 4 * t.size + 20 ∧
    ((m.outcome = some .matched ∧ ∃ b e, hit b = some e ∧ i ≤ b ∧ b < e ∧ e ≤ t.size ∧ (∀ j, i ≤ j → j < b → hit j = none) ∧ m.start = b ∧ m.handed = e) ∨
     (m.outcome = some .failed ∧ ∀ j, i ≤ j → j < t.size → hit j = none))
/-- the text from i on, each match replaced -/
def subF (hit : Nat → Option Nat) (t : Array Nat) (repl : List Nat) : Nat → Nat → List Nat
  | 0, _ => []
  | f + 1, i => if t.size ≤ i then [] else match hit i with
    | some e => repl ++ subF hit t repl f e
    | none => t.getD i 0 :: subF hit t repl f (i + 1)
theorem subF_end {hit : Nat → Option Nat} {t : Array Nat} {repl : List Nat} {i : Nat} (h : t.size ≤ i) : ∀ f, subF hit t repl f i = []
  | 0 => rfl
  | _ + 1 => if_pos h
theorem subF_fuel {hit : Nat → Option Nat} {t : Array Nat} {repl : List Nat} (hh : ∀ b e, hit b = some e → b < e) : ∀ f g i, t.size ≤ i + f → t.size ≤ i + g → subF hit t repl f i = subF hit t repl g i
  | 0, g, i, h, _ => by rw [subF_end (by omega), subF_end (by omega)]
  | f + 1, 0, i, _, h => by rw [subF_end (by omega), subF_end (by omega)]
  | f + 1, g + 1, i, h, h' => by
    rw [subF, subF]
    split
    · rfl
    · cases e : hit i with
      | none => dsimp only; rw [subF_fuel hh f g (i + 1) (by omega) (by omega)]
      | some e' => dsimp only; have := hh _ _ e; rw [subF_fuel hh f g e' (by omega) (by omega)]
/-- no match from i to b -/
theorem subF_skip {hit : Nat → Option Nat} {t : Array Nat} {repl : List Nat} {b : Nat} (hb : b ≤ t.size) : ∀ (k i f : Nat), i + k = b → (∀ j, i ≤ j → j < b → hit j = none) →
    subF hit t repl (f + k) i = (t.extract i b).toList ++ subF hit t repl f b := by
  intro k
  induction k with
  | zero => intro i f hk _; have : i = b := by omega
            subst this; simp
  | succ k ih =>
    intro i f hk hn
    have hi : i < t.size := by omega
    rw [← Nat.add_assoc, subF, if_neg (by omega), hn i (Nat.le_refl _) (by omega)]
    dsimp only
    rw [ih (i + 1) f (by omega) fun j h1 h2 => hn j (by omega) h2]
    have : (t.extract i b).toList = t.getD i 0 :: (t.extract (i + 1) b).toList := by
      rw [Array.toList_extract, Array.toList_extract]
      simp only [List.extract]
      have e1 : t.toList.drop i = t.getD i 0 :: t.toList.drop (i + 1) := by
        rw [List.drop_eq_getElem_cons (by simpa using hi)]
        simp [hi]
      rw [e1]
      have e2 : b - i = (b - (i + 1)) + 1 := by omega
      rw [e2, List.take_succ_cons]
    rw [this]; rfl
/-- the pieces' codes -/
def flat (ys : List Str) : List Nat := ys.flatMap fun y => y.cps.toList
theorem join_flat : ∀ ys : List Str, (Txt.join ⟨#[]⟩ ys) = ⟨(flat ys).toArray⟩ := by
  intro ys
  show Builtin.Str.glued ⟨#[]⟩ ys = _
  rw [StrLaws.glued_eq_join]
  induction ys with
  | nil => rfl
  | cons y r ih =>
    cases r with
    | nil => show y = _; simp [flat]
    | cons z r =>
      show y ++ (⟨#[]⟩ : Str) ++ Str.join ⟨#[]⟩ (z :: r) = _
      rw [ih]
      refine Str.ext' ?_
      rw [Str.cps_append, Str.cps_append]
      simp [flat]
theorem flat_append (a b : List Str) : flat (a ++ b) = flat a ++ flat b := by simp [flat]
theorem flat_length (ys : List Str) : (ys.map (·.length)).sum = (flat ys).length := by
  induction ys with
  | nil => rfl
  | cons y r ih =>
    rw [List.map_cons, List.sum_cons, ih]
    show y.cps.size + _ = (y.cps.toList ++ flat r).length
    simp
end Mine
-- Re6
open PySem PySem.W PySem.Calls PyProof.Rows PySem.Builtin.Re
open PySem.Sre (M)
namespace Mine
section
variable {prog : Program} {w : World} {A : Around} {E : Value → Shared → Prop} {s : Shared} {a D : Addr} {code : Array Nat} {x repl : Str} {t tr : Tok}
def loopArgs (a D : Addr) (x : Str) (t : Tok) (repl : Str) (tr : Tok) (n : Int) (i : Nat) : Args :=
  ⟨[.ref a, .str x t, .str repl tr, rawInt 0, rawInt 0, rawInt n, rawInt i, rawInt i, .bool false, .ref D, .bool false], []⟩
theorem ite_T {α : Type} {c : Prop} [Decidable c] {X Y : Sem α} {Q : α → Shared → Prop} (hc : c) (h : wpAny (model prog w) A X Q E s) : wpAny (model prog w) A (if c then X else Y) Q E s := by rw [if_pos hc]; exact h
theorem ite_F {α : Type} {c : Prop} [Decidable c] {X Y : Sem α} {Q : α → Shared → Prop} (hc : ¬ c) (h : wpAny (model prog w) A Y Q E s) : wpAny (model prog w) A (if c then X else Y) Q E s := by rw [if_neg hc]; exact h
theorem push_list {vs : List Value} {ys : List Str} {v : Str} {tv : Tok} {n : Nat} {Q : Unit → Shared → Prop} (hD : s.heap.get? D = some { cls := .type "list", data := .seq vs.toArray n }) (hv : StrsAre vs ys) (hsz : ys.length ≤ 1000000)
    (h : ∀ h' n', h'.get? D = some { cls := .type "list", data := .seq (vs ++ [Value.str v tv]).toArray n' } → StaysBut D s.heap h' → StrsAre (vs ++ [Value.str v tv]) (ys ++ [v]) → Q () { s with heap := h' }) :
    wpAny (model prog w) A (updateSeq D (·.push (.str v tv))) Q E s := by
  have hl : vs.length = ys.length := by
    clear hD h
    induction hv with
    | nil => rfl
    | cons y t _ ih => simp only [List.length_cons]; rw [ih (by simp only [List.length_cons] at hsz; omega)]
  refine wpAny_updateSeq hD rfl (h _ (n + 1) ?_ (fun b o hb e => (Heap.get?_update_ne _ _ _ _ hb).trans e) (hv.append' (.cons _ _ .nil))) (by rw [sizeLine_eq, List.size_toArray]; omega) (by rw [sizeLine_eq]; simp; omega)
  rw [Heap.get?_update_self _ hD rfl]
  simp [Obj.mapSeq]
theorem staysBut_trans {h h' h'' : Heap} (a : StaysBut D h h') (b : StaysBut D h' h'') : StaysBut D h h'' := fun x o hx e => b x o hx (a x o hx e)
theorem sub_loop {hit : Nat → Option Nat} (hf : Finds code x.cps hit) (hlt : ∀ b e, hit b = some e → b < e) (hx : x.cps.size ≤ 10000) (hr : repl.cps.size ≤ 16) {R : Result → Shared → Prop} : ∀ (k i : Nat) (n : Int) (vs : List Value) (ys : List Str) (c : Nat) (s : Shared), x.cps.size - i < k → i ≤ x.cps.size →
    PatAt s.heap a code → s.heap.get? D = some { cls := .type "list", data := .seq vs.toArray c } → StrsAre vs ys → ys.length ≤ 2 * i → (flat ys).length ≤ 17 * i →
    (∀ t' h' tk', StaysBut D s.heap h' → R (.ok (.ret (.str ⟨(flat ys ++ subF hit x.cps repl.cps.toList (x.cps.size - i) i).toArray⟩ t'))) { s with heap := h', toks := tk' }) →
    codeAny (model prog w) A (.builtin "re.Pattern.sub.loop" (loopArgs a D x t repl tr n i)) R s := by
  intro k
  induction k with
  | zero => intro i n vs ys c s hk; omega
  | succ k ih =>
    intro i n vs ys c s hk hi hp hD hv hl1 hl2 h
    refine codeAny_builtin rp_entryLoop ?_
    rw [Around.under_plainId (by decide +kernel)]
    unfold Builtin.«re.Pattern.sub.loop» loopArgs rawInt
    dsimp only
    refine wpAny_bind (whole_at hp ?_)
    refine wpAny_bind (wpAny_of_eq (a := ()) rfl ?_)
    refine wpAny_bind ?_
    rw [if_neg (by simp)]
    obtain ⟨nn, m, g, hn, hcase⟩ := hf i hi
    refine run_end g (by omega) ?_
    rcases hcase with ⟨ho, b, e, he, hib, hbe, hes, hno, hs, hd⟩ | ⟨ho, hno⟩
    · refine .inl ⟨ho, ?_⟩
      have hne : (m.handed == m.start) = false := by rw [hd, hs]; simp; omega
      dsimp only
      rw [hne, hs, hd]
      have hsub : subF hit x.cps repl.cps.toList (x.cps.size - i) i = (x.cps.extract i b).toList ++ (repl.cps.toList ++ subF hit x.cps repl.cps.toList (x.cps.size - e) e) := by
        have h1 := subF_skip (hit := hit) (t := x.cps) (repl := repl.cps.toList) (b := b) (by omega) (b - i) i (x.cps.size - i - (b - i)) (by omega) hno
        have e1 : x.cps.size - i - (b - i) + (b - i) = x.cps.size - i := by omega
        rw [e1] at h1
        rw [h1]
        have e2 : x.cps.size - i - (b - i) = (x.cps.size - b - 1) + 1 := by omega
        rw [e2, subF, if_neg (by omega), he]
        dsimp only
        rw [subF_fuel hlt (x.cps.size - b - 1) (x.cps.size - e) e (by omega) (by omega)]
      have tail : ∀ (vs' : List Value) (ys' : List Str) (c' : Nat) (s' : Shared), PatAt s'.heap a code → s'.heap.get? D = some { cls := .type "list", data := .seq vs'.toArray c' } → StrsAre vs' ys' → ys'.length ≤ 2 * i + 1 → (flat ys').length ≤ 17 * i + (b - i) →
          (∀ t' h' tk', StaysBut D s'.heap h' → R (.ok (.ret (.str ⟨(flat ys' ++ (repl.cps.toList ++ subF hit x.cps repl.cps.toList (x.cps.size - e) e)).toArray⟩ t'))) { s' with heap := h', toks := tk' }) →
          wpAny (model prog w) A.in1 (do
              let item ← pure (Value.str repl tr)
              if (item != Value.none) = true then do
                  updateSeq D fun x => x.push item
                  again (Code.builtin "re.Pattern.sub.loop" (loopArgs a D x t repl tr (n + 1) e))
                else again (Code.builtin "re.Pattern.sub.loop" (loopArgs a D x t repl tr (n + 1) e)))
            (fun fin s' => match fin with
              | Fin.done f => R (Except.ok f) s'
              | Fin.again c' => c'.quiet = true ∧ codeAny (model prog w) A c' R s')
            (fun e s' => R (Except.error e) s') s' := by
        intro vs' ys' c' s' hp' hD' hv' hy1 hy2 h'
        refine wpAny_bind (wpAny_pure ?_)
        refine ite_T rfl ?_
        refine wpAny_bind (push_list hD' hv' (by omega) fun h2 n2 hD2 hb2 hv2 => ?_)
        refine wpAny_pure ⟨plainId_quiet (by decide +kernel) _, ?_⟩
        refine ih e (n + 1) _ _ n2 _ (by omega) hes (hp'.but hD' rfl hb2) hD2 hv2 (by rw [List.length_append]; simp; omega) ?_ ?_
        · rw [flat_append, List.length_append]
          have : (flat [repl]).length = repl.cps.size := by simp [flat]
          omega
        · intro t' h3 tk' hb3
          have := h' t' h3 tk' (staysBut_trans hb2 hb3)
          rw [flat_append, List.append_assoc]
          have e3 : flat [repl] = repl.cps.toList := by simp [flat]
          rw [e3]
          exact this
      by_cases hlt' : i < b
      · rw [if_pos (show (i : Int).toNat < b from hlt')]
        refine wpAny_bind ?_
        refine wpAny_mkStr (x := ⟨x.cps.extract i b⟩) ?_ (by show (x.cps.extract i b).size ≤ _; rw [sizeLine_eq]; simp; omega)
        refine wpAny_bind (push_list hD hv (by omega) fun h2 n2 hD2 hb2 hv2 => ?_)
        refine ite_T rfl ?_
        refine tail _ _ n2 _ (hp.but hD rfl hb2) hD2 hv2 (by rw [List.length_append]; simp; omega) ?_ ?_
        · rw [flat_append, List.length_append]
          have : (flat [(⟨x.cps.extract i b⟩ : Str)]).length = b - i := by simp [flat]; omega
          omega
        · intro t' h3 tk' hb3
          have := h t' h3 tk' (staysBut_trans hb2 hb3)
          rw [hsub] at this
          rw [flat_append]
          have e3 : flat [(⟨x.cps.extract i b⟩ : Str)] = (x.cps.extract i b).toList := by simp [flat]
          rw [e3, List.append_assoc]
          exact this
      · rw [if_neg (show ¬ (i : Int).toNat < b from hlt')]
        refine ite_T rfl ?_
        have : i = b := by omega
        refine tail _ _ c _ hp hD hv (by omega) (by omega) ?_
        intro t' h3 tk' hb3
        have h4 := h t' h3 tk' hb3
        rw [hsub] at h4
        have e4 : (x.cps.extract i b).toList = [] := by subst this; simp
        rw [e4, List.nil_append] at h4
        exact h4
    · refine .inr ⟨ho, ?_⟩
      dsimp only
      have hsub : subF hit x.cps repl.cps.toList (x.cps.size - i) i = (x.cps.extract i x.cps.size).toList := by
        have h1 := subF_skip (hit := hit) (t := x.cps) (repl := repl.cps.toList) (b := x.cps.size) (Nat.le_refl _) (x.cps.size - i) i 0 (by omega) hno
        rw [Nat.zero_add] at h1
        rw [h1]; simp [subF]
      rw [hsub] at h
      have fin : ∀ (vs' : List Value) (ys' : List Str) (c' : Nat) (s' : Shared), s'.heap.get? D = some { cls := .type "list", data := .seq vs'.toArray c' } → StrsAre vs' ys' → ys'.length ≤ 30000 → (flat ys').length ≤ 200000 →
          (∀ t' h' tk', StaysBut D s'.heap h' → R (.ok (.ret (.str ⟨(flat ys').toArray⟩ t'))) { s' with heap := h', toks := tk' }) →
          wpAny (model prog w) A.in1 (do
            let joiner ← reSlice x.cps 0 0 0
            let __do_lift ← seqItems? (Value.ref D)
            if (__do_lift.getD #[]).isEmpty = true then do
                let text ← pure joiner
                if false = true then do
                    let __do_lift ←
                      holding [text] do
                          let __do_lift ← mkInt n
                          newTuple [text, __do_lift]
                    ret __do_lift
                  else ret text
              else do
                let text ← call (Value.builtin (if ((0 : Nat) == 0) = true then "str.join" else "bytes.join")) [joiner, Value.ref D]
                if false = true then do
                    let __do_lift ←
                      holding [text] do
                          let __do_lift ← mkInt n
                          newTuple [text, __do_lift]
                    ret __do_lift
                  else ret text)
            (fun fin s' => match fin with
              | Fin.done f => R (Except.ok f) s'
              | Fin.again c' => c'.quiet = true ∧ codeAny (model prog w) A c' R s')
            (fun e s' => R (Except.error e) s') s' := by
        intro vs' ys' c' s' hD' hv' hy1 hy2 h'
        refine wpAny_bind ?_
        refine wpAny_mkStr (x := ⟨x.cps.extract 0 0⟩) ?_ (by show (x.cps.extract 0 0).size ≤ _; rw [sizeLine_eq]; simp)
        refine wpAny_bind (wpAny_seqItems hD' rfl ?_)
        dsimp only [Option.getD_some]
        cases hv' with
        | nil =>
          refine ite_T rfl ?_
          refine wpAny_bind (wpAny_pure ?_)
          refine ite_F Bool.false_ne_true ?_
          refine wpAny_pure ?_
          have := h' s'.toks s'.heap (s'.toks + 1) (fun _ _ _ e => e)
          have e1 : x.cps.extract 0 0 = #[] := by simp
          rw [e1]
          exact this
        | cons y ty hr' =>
          refine ite_F (by simp) ?_
          refine wpAny_bind ?_
          have e1 : x.cps.extract 0 0 = #[] := by simp
          rw [e1]
          refine join_listW ⟨_, hD', rfl, c', rfl⟩ (by simpa using StrsAre.cons y ty hr') (by decide) ?_ ?_
          · rw [flat_length]; omega
          · intro t' k'
            refine ite_F Bool.false_ne_true ?_
            refine wpAny_pure ?_
            rw [join_flat]
            exact h' t' s'.heap k' (fun _ _ _ e => e)
      by_cases hlt' : i < x.cps.size
      · refine ite_T (show (i : Int).toNat < x.cps.size from hlt') ?_
        refine wpAny_bind ?_
        refine wpAny_mkStr (x := ⟨x.cps.extract i x.cps.size⟩) ?_ (by show (x.cps.extract i _).size ≤ _; rw [sizeLine_eq]; simp; omega)
        refine wpAny_bind (push_list hD hv (by omega) fun h2 n2 hD2 hb2 hv2 => ?_)
        have e3 : flat [(⟨x.cps.extract i x.cps.size⟩ : Str)] = (x.cps.extract i x.cps.size).toList := by simp [flat]
        refine fin _ _ n2 _ hD2 hv2 (by rw [List.length_append]; simp; omega) ?_ ?_
        · rw [flat_append, List.length_append, e3]
          simp; omega
        · intro t' h3 tk' hb3
          have := h t' h3 tk' (staysBut_trans hb2 hb3)
          rw [flat_append, e3]
          exact this
      · refine ite_F (show ¬ (i : Int).toNat < x.cps.size from hlt') ?_
        refine fin _ _ c _ hD hv (by omega) (by omega) ?_
        intro t' h3 tk' hb3
        have h4 := h t' h3 tk' hb3
        have e4 : (x.cps.extract i x.cps.size).toList = [] := by
          have : i = x.cps.size := by omega
          subst this; simp
        rw [e4, List.append_nil] at h4
        exact h4
end
end Mine
namespace Mine
section
variable {prog : Program} {w : World} {A : Around} {E : Value → Shared → Prop} {s : Shared} {a : Addr} {code : Array Nat} {x repl : Str} {t tr : Tok}
theorem PatAt.typeIs {h : Heap} (P : PatAt h a code) : ∃ o, h.get? a = some o ∧ o.cls = .type "re.Pattern" := by
  obtain ⟨o, _, _, _, _, _, _, _, _, h1, h2, _⟩ := P; exact ⟨o, h1, h2⟩
theorem sub_call {hit : Nat → Option Nat} (hf : Finds code x.cps hit) (hlt : ∀ b e, hit b = some e → b < e) (hx : x.cps.size ≤ 10000) (hr : repl.cps.size ≤ 16) (hr2 : repl.cps.contains 92 = false) (hp : PatAt s.heap a code) {Q : Value → Shared → Prop}
    (h : ∀ t' h' tk', s.heap.StaysIn h' → Q (.str ⟨(subF hit x.cps repl.cps.toList x.cps.size 0).toArray⟩ t') { s with heap := h', toks := tk' }) :
    wpAny (model prog w) A (call (.builtin "re.Pattern.sub") [.ref a, .str repl tr, .str x t]) Q E s := by
  refine wpAny_call (codeAny_call_builtin rp_slot.plain rp_entry (rp_slot.check _ _ _ _ _ _ _ _ hp.typeIs (rp_args _ _ _) ?_))
  unfold Builtin.«re.Pattern.sub» reSubstitute
  dsimp only
  refine wpAny_bind (wpAny_of_eq (rp_named _ _) ?_)
  dsimp only
  refine wpAny_bind (wpAny_of_eq (a := (0 : Int)) rfl ?_)
  refine wpAny_bind ?_
  refine wpAny_specialOf (T := "str") (typeIs_str _ _ _) str_no_call ?_
  dsimp only [Option.isSome_none]
  refine ite_F Bool.false_ne_true ?_
  refine wpAny_bind (wpAny_of_eq (a := some repl) rfl ?_)
  dsimp only
  refine wpAny_bind (wpAny_pure ?_)
  refine ite_F Bool.false_ne_true ?_
  refine ite_T (by rw [hr2]; rfl) ?_
  refine wpAny_bind (wpAny_pure ?_)
  refine wpAny_bind (wpAny_holding (whole_at hp ?_))
  refine ite_F (show ¬ (((0 : Nat) == 1) = true) from Bool.false_ne_true) ?_
  refine wpAny_bind (wpAny_newObj_type ?_ (by show 0 ≤ _; omega))
  refine wpAny_pure ⟨plainId_quiet (by decide +kernel) _, ?_⟩
  refine sub_loop (s := { s with heap := s.heap.push { cls := .type "list", data := .seq #[] 0 } }) (n := 0) hf hlt hx hr (x.cps.size - 0 + 1) 0 [] [] 0 (by omega) (by omega) (hp.keeps fun b o e => Heap.get?_push_of_some _ e) (Heap.get?_push_size _ rfl) .nil (by simp) (by simp [flat]) ?_
  intro t' h' tk' hb
  exact h t' h' tk' fun b o e => hb b o (Nat.ne_of_lt (Heap.lt_size e)) (Heap.get?_push_of_some _ e)
end
end Mine
-- Re7
open PySem PySem.W PySem.Calls PyProof.Rows PySem.Builtin.Re
open PySem.Sre (M)
namespace Mine
def hitE (t : Array Nat) (b : Nat) : Option Nat := if b < t.size ∧ isEol (t.getD b 0) = true then some (endAt t b) else none
def hitD (t : Array Nat) (b : Nat) : Option Nat := if b < t.size ∧ bol t b = true ∧ t.getD b 0 = 46 then some (b + 1) else none
theorem endAt_le {t : Array Nat} {b : Nat} (h : b < t.size) : b < endAt t b ∧ endAt t b ≤ t.size := by
  unfold endAt; by_cases c : t.getD b 0 = 13 ∧ b + 1 < t.size ∧ t.getD (b + 1) 0 = 10
  · rw [if_pos c]; omega
  · rw [if_neg c]; omega
theorem finds2 (t : Array Nat) : Finds code2 t (hitE t) := by
  intro i hi
  obtain ⟨n, m, g, hn, h⟩ := search2 t i hi
  refine ⟨n, m, g, by omega, ?_⟩
  rcases h with ⟨h1, b, h2, h3, h4, h5, h6, h7⟩ | ⟨h1, h2⟩
  · exact .inl ⟨h1, b, endAt t b, if_pos ⟨h3, h4⟩, h2, (endAt_le h3).1, (endAt_le h3).2, fun j hj hb => if_neg fun q => (by rw [h5 j hj hb] at q; exact Bool.false_ne_true q.2), h6, h7⟩
  · exact .inr ⟨h1, fun j hj hb => if_neg fun q => (by rw [h2 j hj hb] at q; exact Bool.false_ne_true q.2)⟩
theorem finds1 (t : Array Nat) : Finds code1 t (hitD t) := by
  intro i hi
  obtain ⟨n, m, g, hn, h⟩ := search1 t i hi
  refine ⟨n, m, g, by omega, ?_⟩
  rcases h with ⟨h1, b, h2, h3, h4, h5, h6, h7⟩ | ⟨h1, h2⟩
  · exact .inl ⟨h1, b, b + 1, if_pos ⟨h3, h4.1, h4.2⟩, h2, by omega, by omega, fun j hj hb => if_neg fun q => h5 j hj hb ⟨q.2.1, q.2.2⟩, h6, h7⟩
  · exact .inr ⟨h1, fun j hj hb => if_neg fun q => h2 j hj hb ⟨q.2.1, q.2.2⟩⟩
theorem hitE_lt (t : Array Nat) : ∀ b e, hitE t b = some e → b < e := by
  intro b e h
  unfold hitE at h
  split at h
  · rename_i q; cases h; exact (endAt_le q.1).1
  · cases h
theorem hitD_lt (t : Array Nat) : ∀ b e, hitD t b = some e → b < e := by
  intro b e h
  unfold hitD at h
  split at h
  · cases h; omega
  · cases h
/-- every line's end even; b: a return stands right ahead -/
def eolF : Bool → List Nat → List Nat
  | _, [] => []
  | b, c :: r => if c = 10 then (if b = true then eolF false r else 13 :: 10 :: eolF false r) else if c = 13 then 13 :: 10 :: eolF true r else c :: eolF false r
/-- a dot that leads a line doubled -/
def dotF : Bool → List Nat → List Nat
  | _, [] => []
  | b, c :: r => if b = true ∧ c = 46 then 46 :: 46 :: dotF false r else c :: dotF (c == 10) r
theorem drop_cons {t : Array Nat} {i : Nat} (h : i < t.size) : t.toList.drop i = t.getD i 0 :: t.toList.drop (i + 1) := by
  rw [List.drop_eq_getElem_cons (by simpa using h)]; simp [h]
theorem subE (t : Array Nat) : ∀ (f i : Nat), t.size - i ≤ f → subF (hitE t) t [13, 10] f i = eolF false (t.toList.drop i) := by
  intro f
  induction f with
  | zero => intro i h; rw [List.drop_eq_nil_of_le (by simp; omega), eolF]; rfl
  | succ f ih =>
    intro i h
    rw [subF]
    by_cases hi : t.size ≤ i
    · rw [if_pos hi, List.drop_eq_nil_of_le (by simpa using hi), eolF]
    · rw [if_neg hi, drop_cons (by omega), eolF]
      by_cases h10 : t.getD i 0 = 10
      · have hh : hitE t i = some (i + 1) := by
          unfold hitE; rw [if_pos ⟨by omega, by rw [h10]; rfl⟩]
          unfold endAt; rw [if_neg (by rw [h10]; simp)]
        rw [hh, if_pos h10, if_neg Bool.false_ne_true]
        dsimp only
        rw [ih _ (by omega)]; rfl
      · rw [if_neg h10]
        by_cases h13 : t.getD i 0 = 13
        · rw [if_pos h13]
          by_cases hc : i + 1 < t.size ∧ t.getD (i + 1) 0 = 10
          · have hh : hitE t i = some (i + 2) := by
              unfold hitE; rw [if_pos ⟨by omega, by rw [h13]; rfl⟩]
              unfold endAt; rw [if_pos ⟨h13, hc⟩]
            rw [hh, drop_cons hc.1, hc.2, eolF, if_pos rfl, if_pos rfl]
            dsimp only
            rw [ih _ (by omega)]; rfl
          · have hh : hitE t i = some (i + 1) := by
              unfold hitE; rw [if_pos ⟨by omega, by rw [h13]; rfl⟩]
              unfold endAt; rw [if_neg fun q => hc q.2]
            rw [hh]
            dsimp only
            rw [ih _ (by omega)]
            by_cases hl : i + 1 < t.size
            · have hne : t.getD (i + 1) 0 ≠ 10 := fun q => hc ⟨hl, q⟩
              rw [drop_cons hl, eolF, eolF, if_neg hne, if_neg hne]; rfl
            · rw [List.drop_eq_nil_of_le (by simp; omega), eolF, eolF]; rfl
        · have hh : hitE t i = none := by
            unfold hitE; rw [if_neg (fun q => by have := q.2; simp only [isEol, Bool.or_eq_true, beq_iff_eq] at this; exact this.elim h10 h13)]
          rw [hh, if_neg h13]
          dsimp only
          rw [ih _ (by omega)]
theorem subD (t : Array Nat) : ∀ (f i : Nat), t.size - i ≤ f → subF (hitD t) t [46, 46] f i = dotF (bol t i) (t.toList.drop i) := by
  intro f
  induction f with
  | zero => intro i h; rw [List.drop_eq_nil_of_le (by simp; omega), dotF]; rfl
  | succ f ih =>
    intro i h
    rw [subF]
    by_cases hi : t.size ≤ i
    · rw [if_pos hi, List.drop_eq_nil_of_le (by simpa using hi), dotF]
    · rw [if_neg hi, drop_cons (by omega), dotF]
      have hb : bol t (i + 1) = (t.getD i 0 == 10) := by simp [bol]
      by_cases hc : bol t i = true ∧ t.getD i 0 = 46
      · have hh : hitD t i = some (i + 1) := by unfold hitD; rw [if_pos ⟨by omega, hc.1, hc.2⟩]
        rw [hh, if_pos hc]
        dsimp only
        rw [ih _ (by omega), hb, hc.2]; rfl
      · have hh : hitD t i = none := by unfold hitD; rw [if_neg fun q => hc q.2]
        rw [hh, if_neg hc]
        dsimp only
        rw [ih _ (by omega), hb]
section
variable {prog : Program} {w : World} {A : Around} {E : Value → Shared → Prop} {s : Shared} {a : Addr} {x : Str} {t tr : Tok}
theorem sub_eol (hx : x.cps.size ≤ 10000) (hp : PatAt s.heap a code2) {Q : Value → Shared → Prop}
    (h : ∀ t' h' tk', s.heap.StaysIn h' → Q (.str ⟨(eolF false x.cps.toList).toArray⟩ t') { s with heap := h', toks := tk' }) :
    wpAny (model prog w) A (call (.builtin "re.Pattern.sub") [.ref a, .str (Str.ofString "\r\n") tr, .str x t]) Q E s := by
  refine sub_call (finds2 _) (hitE_lt _) hx (by decide +kernel) (by decide +kernel) hp fun t' h' tk' hs => ?_
  have e : (Str.ofString "\r\n").cps.toList = [13, 10] := by decide +kernel
  rw [e, subE _ _ _ (by omega)]
  exact h t' h' tk' hs
theorem sub_dot (hx : x.cps.size ≤ 10000) (hp : PatAt s.heap a code1) {Q : Value → Shared → Prop}
    (h : ∀ t' h' tk', s.heap.StaysIn h' → Q (.str ⟨(dotF true x.cps.toList).toArray⟩ t') { s with heap := h', toks := tk' }) :
    wpAny (model prog w) A (call (.builtin "re.Pattern.sub") [.ref a, .str (Str.ofString "..") tr, .str x t]) Q E s := by
  refine sub_call (finds1 _) (hitD_lt _) hx (by decide +kernel) (by decide +kernel) hp fun t' h' tk' hs => ?_
  have e : (Str.ofString "..").cps.toList = [46, 46] := by decide +kernel
  rw [e, subD _ _ _ (by omega)]
  exact h t' h' tk' hs
end
end Mine
-- Loop1
namespace Mine
/-- what a turn leaves -/
def LEnd {σ : Type} (h₀ : Heap) (L : Addr) (s : Shared) (x : Str) (Led : σ → List (Addr × Obj)) (ps : σ → List (Str × Value)) (stored : List Str) (m₀ : Str → Option Value) (own : List (Addr × Obj)) (Inv : σ → Prop) (s₂ : Shared) : Prop :=
  ∃ (c' : σ) (h' : Heap) (tk : Nat) (m' : Str → Option Value) (news' : List (Addr × Obj)), s₂ = { s with heap := h', toks := tk } ∧ Fr h₀ L h' m' ∧ News h₀ L h' news' ∧ (∀ p ∈ Led c', p ∈ news') ∧ (∀ p ∈ own, p ∈ news') ∧ OwnOff own ((Led c').map (·.1)) ∧
    (∀ p ∈ ps c', m' p.1 = some p.2) ∧ (∀ z, z ≠ x → (∀ p ∈ ps c', z ≠ p.1) → stored.contains z = false → m' z = m₀ z) ∧ Inv c'
def LPost {σ : Type} (h₀ : Heap) (L : Addr) (s : Shared) (x : Str) (Led : σ → List (Addr × Obj)) (ps : σ → List (Str × Value)) (stored : List Str) (m₀ : Str → Option Value) (own : List (Addr × Obj)) (Inv : σ → Prop) (Q : Flow → Shared → Prop) (f : Flow) (s₂ : Shared) : Prop :=
  match f with
  | .ret v => Q (.ret v) s₂
  | .brk => Q .next s₂
  | _ => LEnd h₀ L s x Led ps stored m₀ own Inv s₂
theorem lend {σ : Type} {h₀ : Heap} {L : Addr} {s : Shared} {x : Str} {Led : σ → List (Addr × Obj)} {ps : σ → List (Str × Value)} {stored : List Str} {m₀ m' : Str → Option Value} {own news' : List (Addr × Obj)} {Inv : σ → Prop} {h' : Heap} {tk : Nat} (c' : σ)
    (F : Fr h₀ L h' m') (N : News h₀ L h' news') (hn : ∀ p ∈ Led c', p ∈ news') (ho : ∀ p ∈ own, p ∈ news') (ha : OwnOff own ((Led c').map (·.1))) (hk : ∀ p ∈ ps c', m' p.1 = some p.2)
    (hr : ∀ z, z ≠ x → (∀ p ∈ ps c', z ≠ p.1) → stored.contains z = false → m' z = m₀ z) (hi : Inv c') : LEnd h₀ L s x Led ps stored m₀ own Inv { s with heap := h', toks := tk } :=
  ⟨c', h', tk, m', news', rfl, F, N, hn, ho, ha, hk, hr, hi⟩
theorem ownOff_nil {own : List (Addr × Obj)} : OwnOff own [] := fun _ _ _ h => nomatch h
theorem ownOff_cons {own : List (Addr × Obj)} {b : Addr} {r : List Addr} (h : ∀ p ∈ own, p.1 ≠ b) (hr : OwnOff own r) : OwnOff own (b :: r) := fun p hp c hc => by
  rcases List.mem_cons.mp hc with rfl | hc
  · exact h p hp
  · exact hr p hp c hc
theorem ownOff_lt {own : List (Addr × Obj)} {b : Addr} (h : AllLt b own) : ∀ p ∈ own, p.1 ≠ b := fun p hp => Nat.ne_of_lt (kst_ltOf h p hp)
theorem ownOff_tail {own : List (Addr × Obj)} {b : Addr} {r : List Addr} (h : OwnOff own (b :: r)) : OwnOff own r := fun p hp c hc => h p hp c (.tail _ hc)
section
variable {prog : Program} {w : World} {A : Around} {E : Value → Shared → Prop} {s : Shared} {env : Env} {h₀ : Heap} {x : Str} {body : List Stmt} {Q : Flow → Shared → Prop}
theorem loop_s {σ : Type} {I : Addr} {fp wr : List Addr} {n : Nat} {P : Nat → Value → Prop} {St : Nat → Heap → Prop} {m₀ : Str → Option Value} (Led : σ → List (Addr × Obj)) (ps : σ → List (Str × Value)) (stored : List Str) (Inv : Nat → σ → Prop) (c₀ : σ)
    (W : Walks prog w A I fp wr n P St) (hLf : env.locals ∉ fp) (hwr : ∀ b ∈ wr, h₀.get? b = none) (hlive : ∀ i h, St i h → ∀ b ∈ fp, ∃ o, h.get? b = some o) (hfp : ∀ p ∈ Led c₀, p.1 ∉ fp) (hst : St 0 s.heap)
    (F : Fr h₀ env.locals s.heap m₀) (N : News h₀ env.locals s.heap (Led c₀)) (hk : ∀ p ∈ ps c₀, m₀ p.1 = some p.2) (h0 : Inv 0 c₀)
    (turn : ∀ i v c (u : Str → Option Value) h tk own, i < n → P i v → Inv i c → OwnOff own ((Led c).map (·.1)) → (∀ b ∈ fp, h₀.get? b = none → ∀ o, h.get? b = some o → (b, o) ∈ own) → St (i + 1) h →
      Fr h₀ env.locals h (fun y => if y = x then some v else kstB (fun z => if stored.contains z then u z else m₀ z) (ps c) y) → News h₀ env.locals h (Led c ++ own) →
      wpAny (model prog w) A (execs body env) (LPost h₀ env.locals { s with heap := h, toks := tk } x Led ps stored m₀ own (Inv (i + 1)) Q) E { s with heap := h, toks := tk })
    (done : ∀ c (u : Str → Option Value) h tk, Inv n c → Fr h₀ env.locals h (fun y => if y = x then u y else kstB (fun z => if stored.contains z then u z else m₀ z) (ps c) y) → News h₀ env.locals h (Led c) → Q .next { s with heap := h, toks := tk }) :
    LoopAtV prog w A h₀ env x body Q E (.ref I) s := by
  refine ⟨I, fp, wr, n, P, St, m₀, Led c₀, fun i m nx => ∃ c : σ, nx = Led c ∧ Inv i c ∧ (∀ p ∈ ps c, m p.1 = some p.2) ∧ (∀ z, z ≠ x → (∀ p ∈ ps c, z ≠ p.1) → stored.contains z = false → m z = m₀ z) ∧ (∀ p ∈ Led c, p.1 ∉ fp), rfl, W, hLf, hwr, (fun p hp hb => hfp p hp (W.sub _ hb)), hst, F, N, ⟨c₀, rfl, h0, hk, fun _ _ _ _ => rfl, hfp⟩, ?_, ?_⟩
  · rintro i v m₁ news₁ s₁ own ⟨hh, tk, rfl⟩ hi hP ⟨c, rfl, hI, h1, h2, hoff⟩ _ hsub hget hall hst₁ F₁ N₁
    have hsep : OwnOff own ((Led c).map (·.1)) := fun q hq b hb e => (by obtain ⟨p, hp, rfl⟩ := List.mem_map.mp hb; exact hoff p hp (e ▸ hsub q hq))
    refine wpAny_mono (turn i v c m₁ hh tk own hi hP hI hsep hall hst₁ (kst_fr h1 h2 F₁) (fun p hp => N₁ p ((List.mem_append.mp hp).elim (fun h => List.mem_append.mpr (.inr h)) fun h => List.mem_append.mpr (.inl h)))) (fun f s₂ q => ?_) fun _ _ e => e
    have fin : LEnd h₀ env.locals { s with heap := hh, toks := tk } x Led ps stored m₀ own (Inv (i + 1)) s₂ → LoopStepU h₀ env.locals wr own (fun m nx => ∃ c : σ, nx = Led c ∧ Inv (i + 1) c ∧ (∀ p ∈ ps c, m p.1 = some p.2) ∧ (∀ z, z ≠ x → (∀ p ∈ ps c, z ≠ p.1) → stored.contains z = false → m z = m₀ z) ∧ (∀ p ∈ Led c, p.1 ∉ fp)) { s with heap := hh, toks := tk } .next s₂ := by
      rintro ⟨c', h', tk', m', news', rfl, F', N', hn, ho, ha, hk', hr', hI'⟩
      have hoff' : ∀ p ∈ Led c', p.1 ∉ fp := fun p hp hb => by
        have hp0 := (N' p (hn p hp)).2.2
        obtain ⟨o, hq⟩ := hlive _ _ hst₁ _ hb
        exact ha (p.1, o) (hall _ hb hp0 o hq) p.1 (List.mem_map_of_mem hp) rfl
      exact ⟨rfl, h', tk', m', Led c', rfl, F', fun p hp => (List.mem_append.mp hp).elim (fun h => N' p (ho p h)) fun h => N' p (hn p h), fun p hp hb => hoff' p hp (W.sub _ hb), c', rfl, hI', hk', hr', hoff'⟩
    cases f with
    | ret v => exact .ret q
    | brk => exact .brk q
    | next => exact .next (fin q)
    | cont => exact .cont (fin q)
  · rintro h' tk m' news' F' N' _ ⟨c, rfl, hI, h1, h2, _⟩
    exact done c m' h' tk hI (kst_frOut h1 h2 F') N'
/-- over a text of plain signs -/
theorem loop_text {σ : Type} {xt : Str} {tx : Tok} {m₀ : Str → Option Value} (Led : σ → List (Addr × Obj)) (ps : σ → List (Str × Value)) (stored : List Str) (Inv : Nat → σ → Prop) (c₀ : σ) (ha : xt.cps.all (· < 128) = true) (hh : A.handled = none)
    (F : Fr h₀ env.locals s.heap m₀) (N : News h₀ env.locals s.heap (Led c₀)) (hk : ∀ p ∈ ps c₀, m₀ p.1 = some p.2) (h0 : Inv 0 c₀)
    (turn : ∀ i (k : Nat) t c (u : Str → Option Value) h tk own, xt.cps[i]? = some k → Inv i c → OwnOff own ((Led c).map (·.1)) →
      Fr h₀ env.locals h (fun y => if y = x then some (.str ⟨#[k]⟩ t) else kstB (fun z => if stored.contains z then u z else m₀ z) (ps c) y) → News h₀ env.locals h (Led c ++ own) →
      wpAny (model prog w) A (execs body env) (LPost h₀ env.locals { s with heap := h, toks := tk } x Led ps stored m₀ own (Inv (i + 1)) Q) E { s with heap := h, toks := tk })
    (done : ∀ c (u : Str → Option Value) h tk, Inv xt.cps.size c → Fr h₀ env.locals h (fun y => if y = x then u y else kstB (fun z => if stored.contains z then u z else m₀ z) (ps c) y) → News h₀ env.locals h (Led c) → Q .next { s with heap := h, toks := tk }) :
    wpAny (model prog w) A (pyIter (.str xt tx)) (fun it s₂ => LoopAtV prog w A h₀ env x body Q E it s₂) E s := by
  refine wpAny_pyIter_ascii ha ?_
  have hL := F.ns.lt
  refine loop_s (s := { s with heap := s.heap.push _ }) Led ps stored Inv c₀ (Walks.strAscii hh _ xt tx) ?_ ?_ ?_ ?_ ⟨_, Heap.get?_push_size _ rfl, rfl, rfl⟩ (F.push _) (fun p hp => ⟨Heap.get?_push_of_some _ (N p hp).1, (N p hp).2⟩) hk h0 ?_ done
  · intro hm; exact absurd hL ((List.mem_singleton.mp hm) ▸ Nat.lt_irrefl _)
  · intro b hb; rw [List.mem_singleton.mp hb]; exact next_is_new F
  · rintro i h ⟨o, ho, _⟩ b hb; rw [List.mem_singleton.mp hb]; exact ⟨o, ho⟩
  · intro p hp hI; exact absurd (Heap.lt_size (N p hp).1) ((List.mem_singleton.mp hI) ▸ Nat.lt_irrefl _)
  · rintro i v c u h tk own hi ⟨k, t, hk', rfl⟩ hI hsep _ _ F' N'
    exact turn i k t c u h tk own hk' hI hsep F' N'
/-- over a range by ones -/
theorem loop_range {σ : Type} {r : Addr} {a₀ b₀ : Int} {t₀ u₀ v₀ : Tok} {n : Nat} {m₀ : Str → Option Value} (Led : σ → List (Addr × Obj)) (ps : σ → List (Str × Value)) (stored : List Str) (Inv : Nat → σ → Prop) (c₀ : σ) (hh : A.handled = none)
    (hr : IsRange s.heap r a₀ b₀ 1 t₀ u₀ v₀) (ha : -(2 ^ 62) ≤ a₀ ∧ a₀ < 2 ^ 62) (hb : -(2 ^ 62) ≤ b₀ ∧ b₀ < 2 ^ 62) (hn : (b₀ - a₀).toNat = n)
    (F : Fr h₀ env.locals s.heap m₀) (N : News h₀ env.locals s.heap (Led c₀)) (hk : ∀ p ∈ ps c₀, m₀ p.1 = some p.2) (h0 : Inv 0 c₀)
    (turn : ∀ i t c (u : Str → Option Value) h tk own, i < n → Inv i c → OwnOff own ((Led c).map (·.1)) →
      Fr h₀ env.locals h (fun y => if y = x then some (.int (a₀ + i) t) else kstB (fun z => if stored.contains z then u z else m₀ z) (ps c) y) → News h₀ env.locals h (Led c ++ own) →
      wpAny (model prog w) A (execs body env) (LPost h₀ env.locals { s with heap := h, toks := tk } x Led ps stored m₀ own (Inv (i + 1)) Q) E { s with heap := h, toks := tk })
    (done : ∀ c (u : Str → Option Value) h tk, Inv n c → Fr h₀ env.locals h (fun y => if y = x then u y else kstB (fun z => if stored.contains z then u z else m₀ z) (ps c) y) → News h₀ env.locals h (Led c) → Q .next { s with heap := h, toks := tk }) :
    wpAny (model prog w) A (pyIter (.ref r)) (fun it s₂ => LoopAtV prog w A h₀ env x body Q E it s₂) E s := by
  refine wpAny_pyIter_range hr (small_one ha.1 ha.2 hb.1 hb.2) ?_
  have hL := F.ns.lt
  have hsz : Builtin.Range.rangeSize a₀ b₀ 1 = (n : Int) := by rw [rangeSize_one]; split <;> omega
  refine loop_s (s := { s with heap := s.heap.push _ }) Led ps stored Inv c₀ (Walks.range hh _ a₀ 1 n) ?_ ?_ ?_ ?_ (by show IsRangeIter _ _ _ _ _; rw [hsz]; simpa using Heap.get?_push_size _ rfl) (F.push _) (fun p hp => ⟨Heap.get?_push_of_some _ (N p hp).1, (N p hp).2⟩) hk h0 ?_ done
  · intro hm; exact absurd hL ((List.mem_singleton.mp hm) ▸ Nat.lt_irrefl _)
  · intro b hb; rw [List.mem_singleton.mp hb]; exact next_is_new F
  · intro i h st b hb; rw [List.mem_singleton.mp hb]; exact ⟨_, st⟩
  · intro p hp hI; exact absurd (Heap.lt_size (N p hp).1) ((List.mem_singleton.mp hI) ▸ Nat.lt_irrefl _)
  · rintro i v c u h tk own hi ⟨t, rfl⟩ hI hsep _ _ F' N'
    rw [Int.mul_one] at F'
    exact turn i t c u h tk own hi hI hsep F' N'
/-- over a list that stood before the frame -/
theorem loop_list {σ : Type} {l : Addr} {vs : List Value} {m₀ : Str → Option Value} (Led : σ → List (Addr × Obj)) (ps : σ → List (Str × Value)) (stored : List Str) (Inv : Nat → σ → Prop) (c₀ : σ) (hh : A.handled = none)
    (hl : h₀.IsList l vs.toArray) (F : Fr h₀ env.locals s.heap m₀) (N : News h₀ env.locals s.heap (Led c₀)) (hk : ∀ p ∈ ps c₀, m₀ p.1 = some p.2) (h0 : Inv 0 c₀)
    (turn : ∀ i v c (u : Str → Option Value) h tk own, vs[i]? = some v → Inv i c → OwnOff own ((Led c).map (·.1)) →
      Fr h₀ env.locals h (fun y => if y = x then some v else kstB (fun z => if stored.contains z then u z else m₀ z) (ps c) y) → News h₀ env.locals h (Led c ++ own) →
      wpAny (model prog w) A (execs body env) (LPost h₀ env.locals { s with heap := h, toks := tk } x Led ps stored m₀ own (Inv (i + 1)) Q) E { s with heap := h, toks := tk })
    (done : ∀ c (u : Str → Option Value) h tk, Inv vs.length c → Fr h₀ env.locals h (fun y => if y = x then u y else kstB (fun z => if stored.contains z then u z else m₀ z) (ps c) y) → News h₀ env.locals h (Led c) → Q .next { s with heap := h, toks := tk }) :
    wpAny (model prog w) A (pyIter (.ref l)) (fun it s₂ => LoopAtV prog w A h₀ env x body Q E it s₂) E s := by
  have hls : s.heap.IsList l vs.toArray := hl.at fun o e => F.keep l o e
  obtain ⟨ol, hol, _⟩ := id hl
  have hlt : l < h₀.objs.size := Heap.lt_size hol
  have hne : l ≠ s.heap.objs.size := Nat.ne_of_lt (Nat.lt_trans (Nat.lt_of_lt_of_le hlt F.above) F.ns.lt)
  refine wpAny_pyIter_list hls ?_
  have hL := F.ns.lt
  have W := Walks.list (prog := prog) (w := w) hh s.heap.objs.size l hne vs.toArray
  rw [List.size_toArray] at W
  refine loop_s (s := { s with heap := s.heap.push _ }) Led ps stored Inv c₀ W ?_ ?_ ?_ ?_ ⟨⟨_, Heap.get?_push_size _ rfl, rfl, rfl⟩, hls.at fun o e => Heap.get?_push_of_some _ e⟩ (F.push _) (fun p hp => ⟨Heap.get?_push_of_some _ (N p hp).1, (N p hp).2⟩) hk h0 ?_ done
  · intro hm
    rcases List.mem_cons.mp hm with e | hm
    · exact absurd hL (e ▸ Nat.lt_irrefl _)
    · exact absurd (Nat.lt_of_lt_of_le hlt F.above) ((List.mem_singleton.mp hm) ▸ Nat.lt_irrefl _)
  · intro b hb; rw [List.mem_singleton.mp hb]; exact next_is_new F
  · rintro i h ⟨⟨o, ho, _⟩, ⟨o', ho', _⟩⟩ b hb
    rcases List.mem_cons.mp hb with rfl | hb
    · exact ⟨o, ho⟩
    · rw [List.mem_singleton.mp hb]; exact ⟨o', ho'⟩
  · intro p hp hI
    rcases List.mem_cons.mp hI with e | hI
    · exact absurd (Heap.lt_size (N p hp).1) (e ▸ Nat.lt_irrefl _)
    · have h1 := (N p hp).2.2; rw [List.mem_singleton.mp hI, hol] at h1; cases h1
  · rintro i v c u h tk own hi hP hI hsep _ _ F' N'
    exact turn i v c u h tk own (by simpa using hP) hI hsep F' N'
/-- over a list of the frame's own; it is told at each turn -/
theorem loop_own {σ : Type} {l : Addr} {vs : List Value} {ep : Nat} {m₀ : Str → Option Value} (Led : σ → List (Addr × Obj)) (ps : σ → List (Str × Value)) (stored : List Str) (Inv : Nat → σ → Prop) (c₀ : σ) (hh : A.handled = none)
    (F : Fr h₀ env.locals s.heap m₀) (N : News h₀ env.locals s.heap ((l, listOf vs.toArray ep) :: Led c₀)) (hoff : ∀ p ∈ Led c₀, p.1 ≠ l) (hk : ∀ p ∈ ps c₀, m₀ p.1 = some p.2) (h0 : Inv 0 c₀)
    (turn : ∀ i v c (u : Str → Option Value) h tk own, vs[i]? = some v → Inv i c → OwnOff own ((Led c).map (·.1)) →
      Fr h₀ env.locals h (fun y => if y = x then some v else kstB (fun z => if stored.contains z then u z else m₀ z) (ps c) y) → News h₀ env.locals h (Led c ++ own) → h.IsList l vs.toArray →
      wpAny (model prog w) A (execs body env) (LPost h₀ env.locals { s with heap := h, toks := tk } x Led ps stored m₀ own (Inv (i + 1)) Q) E { s with heap := h, toks := tk })
    (done : ∀ c (u : Str → Option Value) h tk, Inv vs.length c → Fr h₀ env.locals h (fun y => if y = x then u y else kstB (fun z => if stored.contains z then u z else m₀ z) (ps c) y) → News h₀ env.locals h (Led c) → Q .next { s with heap := h, toks := tk }) :
    wpAny (model prog w) A (pyIter (.ref l)) (fun it s₂ => LoopAtV prog w A h₀ env x body Q E it s₂) E s := by
  have hN := N _ (.head _)
  have hls : s.heap.IsList l vs.toArray := ⟨_, hN.1, rfl, ep, rfl⟩
  have hne : l ≠ s.heap.objs.size := Nat.ne_of_lt (Heap.lt_size hN.1)
  refine wpAny_pyIter_list hls ?_
  have hL := F.ns.lt
  have W := Walks.list (prog := prog) (w := w) hh s.heap.objs.size l hne vs.toArray
  rw [List.size_toArray] at W
  refine loop_s (s := { s with heap := s.heap.push _ }) Led ps stored Inv c₀ W ?_ ?_ ?_ ?_ ⟨⟨_, Heap.get?_push_size _ rfl, rfl, rfl⟩, hls.at fun o e => Heap.get?_push_of_some _ e⟩ (F.push _) (fun p hp => ⟨Heap.get?_push_of_some _ (N p (.tail _ hp)).1, (N p (.tail _ hp)).2⟩) hk h0 ?_ done
  · intro hm
    rcases List.mem_cons.mp hm with e | hm
    · exact absurd hL (e ▸ Nat.lt_irrefl _)
    · exact hN.2.1 (List.mem_singleton.mp hm).symm
  · intro b hb; rw [List.mem_singleton.mp hb]; exact next_is_new F
  · rintro i h ⟨⟨o, ho, _⟩, ⟨o', ho', _⟩⟩ b hb
    rcases List.mem_cons.mp hb with rfl | hb
    · exact ⟨o, ho⟩
    · rw [List.mem_singleton.mp hb]; exact ⟨o', ho'⟩
  · intro p hp hI
    rcases List.mem_cons.mp hI with e | hI
    · exact absurd (Heap.lt_size (N p (.tail _ hp)).1) (e ▸ Nat.lt_irrefl _)
    · exact hoff p hp (List.mem_singleton.mp hI)
  · rintro i v c u h tk own hi hP hI hsep _ hst F' N'
    exact turn i v c u h tk own (by simpa using hP) hI hsep F' N' hst.2
end
end Mine
-- LoopK
namespace Mine
section
variable {prog : Program} {w : World} {A : Around} {E : Value → Shared → Prop} {s : Shared} {env : Env} {h₀ : Heap} {x : Str} {body : List Stmt} {Q : Flow → Shared → Prop}
/-- over a list of the frame's own, told behind the loop too -/
theorem loop_own2 {σ : Type} {l : Addr} {vs : List Value} {ep : Nat} {m₀ : Str → Option Value} (Led : σ → List (Addr × Obj)) (ps : σ → List (Str × Value)) (stored : List Str) (Inv : Nat → σ → Prop) (c₀ : σ) (hh : A.handled = none)
    (F : Fr h₀ env.locals s.heap m₀) (N : News h₀ env.locals s.heap ((l, listOf vs.toArray ep) :: Led c₀)) (hoff : ∀ p ∈ Led c₀, p.1 ≠ l) (hk : ∀ p ∈ ps c₀, m₀ p.1 = some p.2) (h0 : Inv 0 c₀)
    (turn : ∀ i v c (u : Str → Option Value) h tk own, vs[i]? = some v → Inv i c → OwnOff own ((Led c).map (·.1)) →
      Fr h₀ env.locals h (fun y => if y = x then some v else kstB (fun z => if stored.contains z then u z else m₀ z) (ps c) y) → News h₀ env.locals h (Led c ++ own) → h.IsList l vs.toArray →
      wpAny (model prog w) A (execs body env) (LPost h₀ env.locals { s with heap := h, toks := tk } x Led ps stored m₀ own (Inv (i + 1)) Q) E { s with heap := h, toks := tk })
    (done : ∀ c (u : Str → Option Value) h tk, Inv vs.length c → Fr h₀ env.locals h (fun y => if y = x then u y else kstB (fun z => if stored.contains z then u z else m₀ z) (ps c) y) → News h₀ env.locals h ((l, listOf vs.toArray ep) :: Led c) → Q .next { s with heap := h, toks := tk }) :
    wpAny (model prog w) A (pyIter (.ref l)) (fun it s₂ => LoopAtV prog w A h₀ env x body Q E it s₂) E s := by
  have hN := N _ (.head _)
  have hls : s.heap.IsList l vs.toArray := ⟨_, hN.1, rfl, ep, rfl⟩
  have hne : l ≠ s.heap.objs.size := Nat.ne_of_lt (Heap.lt_size hN.1)
  refine wpAny_pyIter_list hls ?_
  have hL := F.ns.lt
  generalize hI : s.heap.objs.size = I at *
  have W := Walks.list (prog := prog) (w := w) hh I l hne vs.toArray
  have hvs : vs.toArray.size = vs.length := by simp
  rw [hvs] at W
  refine ⟨I, [I, l], [I], vs.length, _, _, m₀, (l, listOf vs.toArray ep) :: Led c₀, fun i m nx => ∃ c : σ, nx = (l, listOf vs.toArray ep) :: Led c ∧ Inv i c ∧ (∀ p ∈ ps c, m p.1 = some p.2) ∧ (∀ z, z ≠ x → (∀ p ∈ ps c, z ≠ p.1) → stored.contains z = false → m z = m₀ z) ∧ (∀ p ∈ Led c, p.1 ∉ [I, l]), rfl, W, ?_, ?_, ?_, ⟨⟨_, hI ▸ Heap.get?_push_size _ rfl, rfl, rfl⟩, hls.at fun o e => Heap.get?_push_of_some _ e⟩, F.push _, (fun p hp => ⟨Heap.get?_push_of_some _ (N p hp).1, (N p hp).2⟩), ⟨c₀, rfl, h0, hk, fun _ _ _ _ => rfl, ?_⟩, ?_, ?_⟩
  · intro hm
    rcases List.mem_cons.mp hm with e | hm
    · exact absurd hL (e ▸ Nat.lt_irrefl _)
    · exact hN.2.1 (List.mem_singleton.mp hm).symm
  · intro b hb; rw [List.mem_singleton.mp hb, ← hI]; exact next_is_new F
  · intro p hp hm
    have := Heap.lt_size (N p hp).1
    rw [hI] at this
    exact absurd this ((List.mem_singleton.mp hm) ▸ Nat.lt_irrefl _)
  · intro p hp hm
    rcases List.mem_cons.mp hm with e | hm
    · have := Heap.lt_size (N p (.tail _ hp)).1
      rw [hI] at this
      exact absurd this (e ▸ Nat.lt_irrefl _)
    · exact hoff p hp (List.mem_singleton.mp hm)
  · rintro i v m₁ news₁ s₁ own ⟨hh', tk, rfl⟩ hi hP ⟨c, rfl, hI', h1, h2, hoff'⟩ hwr hsub hget hall hst₁ F₁ N₁
    have hl0 : h₀.get? l = none := hN.2.2
    have hlo : (l, listOf vs.toArray ep) ∈ own := hall l (.tail _ (.head _)) hl0 _ (N₁ _ (List.mem_append_right _ (.head _))).1
    have hsep : OwnOff own ((Led c).map (·.1)) := fun q hq b hb e => (by obtain ⟨p, hp, rfl⟩ := List.mem_map.mp hb; exact hoff' p hp (e ▸ hsub q hq))
    refine wpAny_mono (turn i v c m₁ hh' tk own (by simpa using hP) hI' hsep (kst_fr h1 h2 F₁) (fun p hp => N₁ p ((List.mem_append.mp hp).elim (fun h => List.mem_append.mpr (.inr (.tail _ h))) fun h => List.mem_append.mpr (.inl h))) hst₁.2) (fun f s₂ q => ?_) fun _ _ e => e
    have fin : LEnd h₀ env.locals { s with heap := hh', toks := tk } x Led ps stored m₀ own (Inv (i + 1)) s₂ → LoopStepU h₀ env.locals [I] own (fun m nx => ∃ c : σ, nx = (l, listOf vs.toArray ep) :: Led c ∧ Inv (i + 1) c ∧ (∀ p ∈ ps c, m p.1 = some p.2) ∧ (∀ z, z ≠ x → (∀ p ∈ ps c, z ≠ p.1) → stored.contains z = false → m z = m₀ z) ∧ (∀ p ∈ Led c, p.1 ∉ [I, l])) { s with heap := hh', toks := tk } .next s₂ := by
      rintro ⟨c', h', tk', m', news', rfl, F', N', hn, ho, ha, hk', hr', hI''⟩
      have hoff'' : ∀ p ∈ Led c', p.1 ∉ [I, l] := fun p hp hb => by
        have hp0 := (N' p (hn p hp)).2.2
        have : ∃ o, hh'.get? p.1 = some o := by
          rcases List.mem_cons.mp hb with e | hb
          · obtain ⟨o, ho, _⟩ := hst₁.1; exact ⟨o, e ▸ ho⟩
          · obtain ⟨o, ho, _⟩ := hst₁.2; exact ⟨o, (List.mem_singleton.mp hb) ▸ ho⟩
        obtain ⟨o, hq⟩ := this
        exact ha (p.1, o) (hall _ hb hp0 o hq) p.1 (List.mem_map_of_mem hp) rfl
      have hll : ∀ p ∈ (l, listOf vs.toArray ep) :: Led c', p ∈ news' := fun p hp => (List.mem_cons.mp hp).elim (fun e => e ▸ ho _ hlo) fun h => hn p h
      refine ⟨rfl, h', tk', m', (l, listOf vs.toArray ep) :: Led c', rfl, F', fun p hp => (List.mem_append.mp hp).elim (fun h => N' p (ho p h)) fun h => N' p (hll p h), fun p hp hb => ?_, c', rfl, hI'', hk', hr', hoff''⟩
      rcases List.mem_cons.mp hp with e | hp
      · rw [e] at hb; exact hne (List.mem_singleton.mp hb)
      · exact hoff'' p hp (W.sub _ hb)
    cases f with
    | ret v => exact .ret q
    | brk => exact .brk q
    | next => exact .next (fin q)
    | cont => exact .cont (fin q)
  · rintro h' tk m' news' F' N' _ ⟨c, rfl, hI', h1, h2, _⟩
    exact done c m' h' tk hI' (kst_frOut h1 h2 F') N'
end
end Mine
-- Pure1
namespace Mine
/-- the letters that Int2AP writes: fuel, number, what stands behind -/
def apF : Nat → Nat → List UInt8 → List UInt8
  | 0, _, acc => acc
  | f + 1, n, acc => if n = 0 then acc else apF f (n / 16) (UInt8.ofNat (65 + n % 16) :: acc)
theorem apF_zero : ∀ (f : Nat) (acc : List UInt8), apF f 0 acc = acc
  | 0, _ => rfl
  | _ + 1, _ => if_pos rfl
theorem apF_succ {f n : Nat} (acc : List UInt8) (h : n ≠ 0) : apF (f + 1) n acc = apF f (n / 16) (UInt8.ofNat (65 + n % 16) :: acc) := if_neg h
theorem apF_acc : ∀ (f n : Nat) (acc : List UInt8), apF f n acc = apF f n [] ++ acc
  | 0, _, _ => rfl
  | f + 1, n, acc => by
    by_cases h : n = 0
    · subst h; rw [apF_zero, apF_zero]; rfl
    · rw [apF_succ _ h, apF_succ _ h, apF_acc f _ (_ :: acc), apF_acc f _ [_], List.append_assoc]; rfl
/-- the letter at a place of AP, cut out -/
theorem ap_cut (k : Int) (h0 : 0 ≤ k) (h1 : k < 16) : KBy.picked #[65, 66, 67, 68, 69, 70, 71, 72, 73, 74, 75, 76, 77, 78, 79, 80] (some k) (some (k + 1)) = #[UInt8.ofNat (65 + k.toNat)] := by
  have : k = 0 ∨ k = 1 ∨ k = 2 ∨ k = 3 ∨ k = 4 ∨ k = 5 ∨ k = 6 ∨ k = 7 ∨ k = 8 ∨ k = 9 ∨ k = 10 ∨ k = 11 ∨ k = 12 ∨ k = 13 ∨ k = 14 ∨ k = 15 := by omega
  rcases this with rfl | rfl | rfl | rfl | rfl | rfl | rfl | rfl | rfl | rfl | rfl | rfl | rfl | rfl | rfl | rfl <;> decide +kernel
/-- one turn of Int2AP's loop -/
theorem ap_turn {num N : Int} {val : Array UInt8} {f : Nat} (h0 : 0 ≤ num) (hn : num ≠ 0) (hf : num.toNat < 16 ^ f) (he : apF f num.toNat val.toList = apF 8 N.toNat []) (hs : val.size + f = 8) :
    ∃ f', (num.fdiv 16).toNat < 16 ^ f' ∧ apF f' (num.fdiv 16).toNat (KBy.picked #[65, 66, 67, 68, 69, 70, 71, 72, 73, 74, 75, 76, 77, 78, 79, 80] (some (num.fmod 16)) (some (num.fmod 16 + 1)) ++ val).toList = apF 8 N.toNat [] ∧ (KBy.picked #[65, 66, 67, 68, 69, 70, 71, 72, 73, 74, 75, 76, 77, 78, 79, 80] (some (num.fmod 16)) (some (num.fmod 16 + 1)) ++ val).size + f' = 8 := by
  obtain ⟨n, rfl⟩ := Int.eq_ofNat_of_zero_le h0
  have e1 : Int.fdiv (n : Int) 16 = ((n / 16 : Nat) : Int) := by rw [Int.fdiv_eq_ediv_of_nonneg _ (by omega)]; rfl
  have e2 : Int.fmod (n : Int) 16 = ((n % 16 : Nat) : Int) := by rw [Int.fmod_eq_emod_of_nonneg _ (by omega)]; rfl
  rw [e1, e2, ap_cut _ (by omega) (by omega)]
  have hn' : n ≠ 0 := by omega
  cases f with
  | zero => simp at hf; omega
  | succ f =>
    refine ⟨f, ?_, ?_, ?_⟩
    · simp only [Int.toNat_natCast] at hf ⊢
      rw [Nat.pow_succ] at hf
      omega
    · simp only [Int.toNat_natCast] at he ⊢
      rw [apF_succ _ hn'] at he
      rw [← he]; simp
    · simp; omega
def numF (ns : List Int) : Int := ns.foldl (fun a f => 16 * a + f) 0
theorem numF_fold (ns : List Int) : (ns.foldl (fun (σ : Int × Unit) n => (16 * σ.fst + n, ())) (0, ())).fst = numF ns := by
  have : ∀ (ns : List Int) (a : Int), (ns.foldl (fun (σ : Int × Unit) n => (16 * σ.fst + n, ())) (a, ())).fst = ns.foldl (fun a f => 16 * a + f) a := by
    intro ns
    induction ns with
    | nil => intro a; rfl
    | cons n r ih => intro a; exact ih _
  exact this ns 0
theorem numF_snoc (ns : List Int) (v : Int) : numF (ns ++ [v]) = 16 * numF ns + v := by unfold numF; rw [List.foldl_append]; rfl
theorem numF_bound : ∀ (k : Nat) (ns : List Int), ns.length = k → (∀ v ∈ ns, 0 ≤ v ∧ v < 16) → 0 ≤ numF ns ∧ numF ns < (16 ^ k : Nat) := by
  intro k
  induction k with
  | zero => intro ns h _; rw [List.length_eq_zero_iff.mp h]; exact ⟨Int.le_refl _, by decide⟩
  | succ k ih =>
    intro ns h hv
    have hne : ns ≠ [] := by intro e; subst e; cases h
    have e := List.dropLast_concat_getLast hne
    rw [← e, numF_snoc]
    obtain ⟨h1, h2⟩ := ih ns.dropLast (by rw [List.length_dropLast]; omega) fun v hv' => hv v (List.dropLast_subset _ hv')
    have h3 := hv _ (List.getLast_mem hne)
    rw [Nat.pow_succ]
    omega
theorem apF_step (f m v : Nat) (hv : v < 16) (hf : m < 16 ^ f) (h : 16 * m + v ≠ 0) : apF (f + 1) (16 * m + v) [] = apF f m [] ++ [UInt8.ofNat (65 + v)] := by
  rw [apF_succ _ h, apF_acc]
  have e1 : (16 * m + v) / 16 = m := by omega
  have e2 : (16 * m + v) % 16 = v := by omega
  rw [e1, e2]
theorem apF_fuel : ∀ (f g n : Nat) (acc : List UInt8), n < 16 ^ f → n < 16 ^ g → apF f n acc = apF g n acc
  | 0, g, n, acc, h, _ => by have : n = 0 := by omega
                             subst this; rw [apF_zero, apF_zero]
  | f + 1, 0, n, acc, _, h => by have : n = 0 := by omega
                                 subst this; rw [apF_zero, apF_zero]
  | f + 1, g + 1, n, acc, h, h' => by
    by_cases h0 : n = 0
    · subst h0; rw [apF_zero, apF_zero]
    · rw [apF_succ _ h0, apF_succ _ h0]
      rw [Nat.pow_succ] at h h'
      exact apF_fuel f g _ _ (by omega) (by omega)
/-- the letters of the figures: Int2AP's with A's ahead -/
theorem ap_pad : ∀ (k : Nat) (ns : List Int), ns.length = k → (∀ v ∈ ns, 0 ≤ v ∧ v < 16) →
    (apF k (numF ns).toNat []).length ≤ k ∧ List.replicate (k - (apF k (numF ns).toNat []).length) (65 : UInt8) ++ apF k (numF ns).toNat [] = ns.map fun v => UInt8.ofNat (65 + v.toNat) := by
  intro k
  induction k with
  | zero => intro ns h _; rw [List.length_eq_zero_iff.mp h]; exact ⟨Nat.le_refl _, rfl⟩
  | succ k ih =>
    intro ns h hv
    have hne : ns ≠ [] := by intro e; subst e; cases h
    have e := List.dropLast_concat_getLast hne
    have hl : ns.dropLast.length = k := by rw [List.length_dropLast]; omega
    have hv' : ∀ v ∈ ns.dropLast, 0 ≤ v ∧ v < 16 := fun v hm => hv v (List.dropLast_subset _ hm)
    obtain ⟨h1, h2⟩ := ih ns.dropLast hl hv'
    obtain ⟨b1, b2⟩ := numF_bound k ns.dropLast hl hv'
    have h3 := hv _ (List.getLast_mem hne)
    generalize ns.getLast hne = v at *
    rw [← e, numF_snoc, List.map_append, ← h2]
    generalize hm : numF ns.dropLast = m at *
    obtain ⟨m, rfl⟩ := Int.eq_ofNat_of_zero_le b1
    obtain ⟨v, rfl⟩ := Int.eq_ofNat_of_zero_le h3.1
    have e1 : (16 * (m : Int) + (v : Int)).toNat = 16 * m + v := by omega
    rw [e1]
    simp only [Int.toNat_natCast] at h1 h2 ⊢
    by_cases h0 : 16 * m + v = 0
    · have hm0 : m = 0 := by omega
      have hv0 : v = 0 := by omega
      subst hm0; subst hv0
      rw [apF_zero, apF_zero]
      refine ⟨by simp, ?_⟩
      simp only [List.length_nil, Nat.sub_zero, List.append_nil, List.map_cons, List.map_nil]
      rw [List.replicate_succ']; rfl
    · rw [apF_step k m v (by omega) (by omega) h0]
      refine ⟨by rw [List.length_append]; simp; omega, ?_⟩
      rw [List.length_append, ← List.append_assoc]
      have : k + 1 - ((apF k m []).length + [UInt8.ofNat (65 + v)].length) = k - (apF k m []).length := by simp
      rw [this]; rfl
end Mine
-- Rep
namespace Mine
/-- y's places in a text, taken from the left, become z -/
inductive RepR (y z : List Nat) : List Nat → List Nat → Prop
  | nil : RepR y z [] []
  | hit {r r' : List Nat} : RepR y z r r' → RepR y z (y ++ r) (z ++ r')
  | skip {c : Nat} {r r' : List Nat} : ¬ y <+: (c :: r) → RepR y z r r' → RepR y z (c :: r) (c :: r')
theorem RepR.det {y z : List Nat} (hy : y ≠ []) : ∀ {l a : List Nat}, RepR y z l a → ∀ b, RepR y z l b → a = b := by
  intro l a h
  induction h with
  | nil =>
    intro b hb
    generalize hl : ([] : List Nat) = l at hb
    cases hb with
    | nil => rfl
    | hit _ => exact absurd (List.append_eq_nil_iff.mp hl.symm).1 hy
    | skip _ _ => cases hl
  | @hit r r' hr ih =>
    intro b hb
    generalize hl : y ++ r = l at hb
    cases hb with
    | nil => exact absurd (List.append_eq_nil_iff.mp hl).1 hy
    | hit h2 => rw [ih _ ((List.append_cancel_left hl) ▸ h2)]
    | skip hn _ => exact absurd ⟨r, hl⟩ hn
  | @skip c r r' hn hr ih =>
    intro b hb
    generalize hl : c :: r = l at hb
    cases hb with
    | nil => cases hl
    | hit _ => exact absurd ⟨_, hl.symm⟩ hn
    | skip _ h2 => cases hl; rw [ih _ h2]
open Builtin Builtin.Str StrLaws
theorem at_prefix (l y : List Nat) (i : Nat) (hy : y ≠ []) : At ⟨l.toArray⟩ ⟨y.toArray⟩ (⟨l.toArray⟩ : Str).length i ↔ y <+: l.drop i := by
  have e1 : (⟨l.toArray⟩ : Str).length = l.length := by show l.toArray.size = _; simp
  have e2 : (⟨y.toArray⟩ : Str).length = y.length := by show y.toArray.size = _; simp
  unfold At
  rw [subAt_eq, e1, e2]
  simp only [List.toList_toArray, beq_iff_eq]
  constructor
  · rintro ⟨_, h⟩; exact ⟨(l.drop i).drop y.length, (congrArg (· ++ (l.drop i).drop y.length) h.symm).trans (List.take_append_drop _ _)⟩
  · rintro ⟨t, h⟩
    have hl := congrArg List.length h
    have hp := List.length_pos_iff.mpr hy
    simp at hl
    refine ⟨by omega, ?_⟩
    rw [← h, List.take_left']; rfl
theorem rep_skip {y z l : List Nat} {d : List Nat} : ∀ (m a : Nat), a + m ≤ l.length → (∀ k, a ≤ k → k < a + m → ¬ y <+: l.drop k) → RepR y z (l.drop (a + m)) d → RepR y z (l.drop a) ((l.drop a).take m ++ d)
  | 0, a, _, _, h => by simpa using h
  | m + 1, a, hl, hn, h => by
    have e : l.drop a = l[a] :: l.drop (a + 1) := List.drop_eq_getElem_cons (by omega)
    have h1 := rep_skip m (a + 1) (by omega) (fun k h1 h2 => hn k (by omega) (by omega)) (by rw [show a + 1 + m = a + (m + 1) by omega]; exact h)
    have h2 := hn a (Nat.le_refl _) (by omega)
    rw [e] at h2 ⊢
    rw [List.take_succ_cons, List.cons_append]
    exact .skip h2 h1
theorem rep_chain (l y z : List Nat) (hy : y ≠ []) : ∀ (cuts : List Nat) (a f : Nat), a ≤ l.length → ChainG ⟨l.toArray⟩ ⟨y.toArray⟩ (⟨l.toArray⟩ : Str).length a cuts f → (∀ k, f ≤ k → ¬ At ⟨l.toArray⟩ ⟨y.toArray⟩ (⟨l.toArray⟩ : Str).length k) →
    RepR y z (l.drop a) (Str.join ⟨z.toArray⟩ (partsFrom ⟨l.toArray⟩ (⟨y.toArray⟩ : Str).length a cuts)).cps.toList
  | [], a, f, ha, h, hn => by
    have e : f = a := h
    subst e
    show RepR y z _ (strSub ⟨l.toArray⟩ f (⟨l.toArray⟩ : Str).length).cps.toList
    have e1 : (⟨l.toArray⟩ : Str).length = l.length := by show l.toArray.size = _; simp
    rw [strSub_toList, e1]
    have h1 := rep_skip (y := y) (z := z) (l := l) (d := []) (l.length - f) f (by omega) (fun k h1 _ hp => hn k h1 ((at_prefix l y k hy).mpr hp)) (by rw [show f + (l.length - f) = l.length by omega, List.drop_length]; exact .nil)
    rw [List.append_nil] at h1
    exact h1
  | c :: r, a, f, ha, h, hn => by
    obtain ⟨h1, h2, h3, h4⟩ := h
    obtain ⟨p, q, e⟩ := partsFrom_ne ⟨l.toArray⟩ (⟨y.toArray⟩ : Str).length (c + (⟨y.toArray⟩ : Str).length) r
    have e1 : (⟨l.toArray⟩ : Str).length = l.length := by show l.toArray.size = _; simp
    have e2 : (⟨y.toArray⟩ : Str).length = y.length := by show y.toArray.size = _; simp
    have hb : c + y.length ≤ l.length := by have := h2.1; rw [e1, e2] at this; exact this
    have ih := rep_chain l y z hy r (c + (⟨y.toArray⟩ : Str).length) f (by rw [e2]; exact hb) h4 hn
    show RepR y z _ (Str.join ⟨z.toArray⟩ (strSub ⟨l.toArray⟩ a c :: partsFrom ⟨l.toArray⟩ (⟨y.toArray⟩ : Str).length (c + (⟨y.toArray⟩ : Str).length) r)).cps.toList
    rw [e] at ih ⊢
    show RepR y z _ (strSub ⟨l.toArray⟩ a c ++ ⟨z.toArray⟩ ++ Str.join ⟨z.toArray⟩ (p :: q)).cps.toList
    simp only [Str.cps_append, Array.toList_append, strSub_toList, List.append_assoc]
    rw [e2] at ih
    obtain ⟨t, ht⟩ := (at_prefix l y c hy).mp h2
    have et : t = l.drop (c + y.length) := by rw [← List.drop_drop, ← ht, List.drop_left']; rfl
    have h5 : RepR y z (l.drop c) (z ++ (Str.join ⟨z.toArray⟩ (p :: q)).cps.toList) := by rw [← ht, et]; exact .hit ih
    have h6 := rep_skip (y := y) (z := z) (l := l) (c - a) a (by omega) (fun k h1 h2' hp => h3 k h1 (by omega) ((at_prefix l y k hy).mpr hp)) (by rw [show a + (c - a) = c by omega]; exact h5)
    exact h6
theorem rep_txt {l y z d : List Nat} (hy : y ≠ []) (h : RepR y z l d) : Txt.replace ⟨l.toArray⟩ ⟨y.toArray⟩ ⟨z.toArray⟩ = ⟨d.toArray⟩ := by
  have e2 : (⟨y.toArray⟩ : Str).length = y.length := by show y.toArray.size = _; simp
  have hp := List.length_pos_iff.mpr hy
  obtain ⟨f, hG, hn⟩ := occ_tight ⟨l.toArray⟩ ⟨y.toArray⟩ (by rw [e2]; exact hp)
  have h1 := rep_chain l y z hy _ 0 f (Nat.zero_le _) hG hn
  rw [List.drop_zero] at h1
  have h2 := h1.det hy _ h
  have h3 : ((⟨y.toArray⟩ : Str).length == 0) = false := by rw [e2]; simp; exact hy
  unfold Txt.replace
  rw [h3, Bool.false_and, Bool.or_false]
  rw [← h2]
  cases he : (occurrences ⟨l.toArray⟩ ⟨y.toArray⟩ 0 (⟨l.toArray⟩ : Str).length ((⟨l.toArray⟩ : Str).length + 1)) with
  | nil =>
    simp only [List.isEmpty_nil, if_true]
    show _ = (⟨(strSub ⟨l.toArray⟩ 0 (⟨l.toArray⟩ : Str).length).cps.toList.toArray⟩ : Str)
    rw [sub_whole]
  | cons a r =>
    rw [if_neg (by simp), glued_eq_join, partsBetween_eq]
end Mine
-- Toks
namespace Mine
/-- a run takes tokens and gives none back -/
theorem runs_toks {M : Model} {Γ : Ctx} {p : Pos} {t : Sem Fin} {fs : List Frame} {s : Shared} {e : End} {s' : Shared} (h : Runs M Γ p t fs s e s') : s.toks ≤ s'.toks := by
  induction h <;> (try simp only [Shared.setGen] at *) <;> (try dsimp only at *) <;> omega
theorem wakes_toks {M : Model} {Γ : Ctx} {p : Pos} {g : Nat} {r : Resume} {s s' : Shared} {res : GenResult} (h : Wakes M Γ p g r s res s') : s.toks ≤ s'.toks := by
  unfold Wakes at h
  split at h
  · exact h.elim
  · split at h
    · obtain ⟨e, s₁, h1, _, _, rfl⟩ := h
      have := runs_toks h1
      simp only [Shared.setGen] at *; exact this
    · rw [h.2]; exact Nat.le_refl _
    · rw [h.2]; exact Nat.le_refl _
  · obtain ⟨e, s₁, h1, _, _, rfl⟩ := h
    have := runs_toks h1
    simp only [Shared.setGen] at *; exact this
  · rw [h.2]; exact Nat.le_refl _
  · rw [h.2]; exact Nat.le_refl _
theorem wp_toks {α : Type} {M : Model} {Γ : Ctx} (t : Sem α) {Q : α → Pos → Shared → Prop} {E : Value → Pos → Shared → Prop} {n : Nat} : ∀ (p : Pos) (s : Shared), n ≤ s.toks →
    Sem.wp M Γ t (fun a p' s' => n ≤ s'.toks → Q a p' s') (fun e p' s' => n ≤ s'.toks → E e p' s') p s → Sem.wp M Γ t Q E p s := by
  induction t with
  | pure a => intro p s hn h; exact h hn
  | raise e => intro p s hn h; exact h hn
  | unsupported _ => intro p s hn h; exact h
  | finish _ => intro p s hn h; exact h
  | register _ _ => intro p s hn h; exact h
  | yield _ _ _ _ => intro p s hn h; exact h
  | fork _ _ => intro p s hn h; exact h
  | await _ _ _ _ _ => intro p s hn h; exact h
  | rule _ k ih => intro p s hn h; exact ih _ _ _ hn h
  | «at» p' k ih => intro p s hn h; exact ih _ _ _ hn h
  | load a part k ih => rintro p s hn ⟨o, h1, h2⟩; exact ⟨o, h1, ih _ _ _ hn h2⟩
  | update a part f k ih => rintro p s hn ⟨h1, h2⟩; exact ⟨h1, ih _ _ _ hn h2⟩
  | loadIfAlive a k ih => intro p s hn h; exact ih _ _ _ hn h
  | point _ k ih => intro p s hn h; exact ih _ _ _ hn h
  | alloc o k ih => intro p s hn h; exact ih _ p { s with heap := s.heap.push o } hn h
  | fresh k ih => intro p s hn h; exact ih _ p { s with toks := s.toks + 1 } (Nat.le_succ_of_le hn) h
  | ask k ih => intro p s hn h; exact ih _ _ _ hn h
  | choose src m k ih => rintro p s hn ⟨h1, h2⟩; exact ⟨h1, ih _ p { s with drawn := s.drawn.bump src } hn h2⟩
  | os q l k ih => intro p s hn h; exact ih _ p { s with os := (Os.step s.os q).1 } hn h
  | call c hd g l k ih =>
    rintro p s hn ⟨r, s₁, h1, h2⟩
    exact ⟨r, s₁, h1, ih _ _ _ (Nat.le_trans hn (runs_toks h1)) h2⟩
  | handled own k ih => intro p s hn h; exact ih _ _ _ hn h
  | genState g k ih => rintro p s hn ⟨o, h1, h2⟩; exact ⟨o, h1, ih _ _ _ hn h2⟩
  | newGen c k ih => intro p s hn h; exact ih _ p { s with gens := s.gens.push (.fresh c) } hn h
  | resume g r l k ih => rintro p s hn ⟨res, s₁, h1, h2⟩; exact ⟨res, s₁, h1, ih _ _ _ (Nat.le_trans hn (wakes_toks h1)) h2⟩
  | stack k ih => intro p s hn h; exact ih _ _ _ hn h
  | thread k ih => intro p s hn h; exact ih _ _ _ hn h
/-- what is wanted behind a step may lean on this: the tokens have not become fewer -/
theorem wpAny_toks {α : Type} {M : Model} {A : Around} {t : Sem α} {Q : α → Shared → Prop} {E : Value → Shared → Prop} {s : Shared}
    (h : wpAny M A t (fun a s' => s.toks ≤ s'.toks → Q a s') E s) : wpAny M A t Q E s := fun Γ p hΓ =>
  have h1 : Sem.wp M Γ t (fun a _ s' => s.toks ≤ s'.toks → Q a s') (fun e _ s' => s.toks ≤ s'.toks → E e s') p s :=
    Sem.wp_mono M Γ t (post := fun a _ s' => s.toks ≤ s'.toks → Q a s') (post' := fun a _ s' => s.toks ≤ s'.toks → Q a s') (exc := fun e _ s' => E e s') (exc' := fun e _ s' => s.toks ≤ s'.toks → E e s') (fun _ _ _ x => x) (fun _ _ _ x _ => x) p s (h Γ p hΓ)
  wp_toks t p s (Nat.le_refl _) h1
/-- the tokens by a name -/
theorem wpAny_gen {α : Type} {M : Model} {A : Around} {t : Sem α} {Q : α → Shared → Prop} {E : Value → Shared → Prop} {s : Shared} (h : ∀ n, s.toks ≤ n → wpAny M A t Q E { s with toks := n }) : wpAny M A t Q E s := h s.toks (Nat.le_refl _)
section
open Builtin Builtin.Str Builtin.Int
variable {prog : Program} {w : World} {A : Around} {E : Value → Shared → Prop} {s : Shared} {x : Str} {t u : Tok} {Q : Value → Shared → Prop}
theorem mul_fresh {n : Int} (hn : 2 ≤ n) (hx : 1 ≤ x.length) (hok : MulOk x n) (h : Q (.str (Txt.mul x n) s.toks) { s with toks := s.toks + 1 }) : wpAny (model prog w) A (binaryOp .Mult (.str x t) (.int n u)) Q E s := by
  have h1 : ¬ n < 1 := by omega
  have h2 : (n == 1 || x.length == 0) = false := by
    rw [Bool.or_eq_false_iff]; constructor
    · rw [beq_eq_false_iff_ne]; omega
    · rw [beq_eq_false_iff_ne]; omega
  refine P.mul_str hok.1 hok.2.1 hok.2.2 ?_
  unfold Txt.mul at h
  rw [if_neg h1, h2] at h ⊢
  exact ⟨fits_reps (hok.2.2 h1 h2), h⟩
end
end Mine
-- Top02
set_option maxHeartbeats 0
namespace Mine
open_top hd02 for PySem.Challenge.rw_rw0056_02
end Mine
set_option maxHeartbeats 4000000
theorem Mine.topOff : True := by
  w_top off
  trivial
-- Bq1
set_option maxHeartbeats 4000000
namespace Mine
abbrev prog2 := PySem.Challenge.pw_rw0056_02
section
variable {prog : Program} {w : World} {A : Around} {s : Shared} {K : Frag} {mg mb : Str → Option Value} {p : Program} {loose : List Str} {mean : ExcName → Option Value}
theorem call_fn {R : Result → Shared → Prop} {name qual : Str} {params : Arguments} {body : List Stmt} {scope : Scope} {dV kV doc pm cdv ct oc : Value} {an od : Option Addr} {osl : Array (Option Value)} {f : Addr} {args : Args} {binds : List (Str × Value)}
    (X : K.In s.heap) (ho : K.lookup f = some ⟨oc, od, .func (fnOf name qual params body scope dV kV doc pm an cdv ct), osl⟩) (hcd : codeIn K cdv qual = true) (hlim : s.heap.NoLimit) (hroom : A.depth < recursionLimit)
    (hbind : BindsTo s (fnOf name qual params body scope dV kV doc pm an cdv ct) args binds) (hloc : ∀ y ∈ binds, scope.names.lookup y.1 = some .local)
    (h : ∀ h₁, Fr s.heap s.heap.objs.size h₁ (fun y => binds.reverse.lookup y) → News s.heap s.heap.objs.size h₁ [] →
      wpAny (model prog w) (A.deeper (envOf qual scope s.heap.objs.size f cdv)) (execs body (envOf qual scope s.heap.objs.size f cdv))
        (fun fl s' => R (.ok (.ret (match fl with | .ret v => v | _ => .none))) s') (fun _ _ => False)
        { s with heap := h₁, toks := s.toks + binds.length })
    (hco : scope.isCoroutine = false := by rfl) (hgen : scope.isGenerator = false := by rfl) (hk : scope.kind = .function := by rfl)
    (hcell : ∀ x ∈ scope.names, x.2 ≠ .cell := by decide) : codeAny (model prog w) A (.call (.ref f) args) R s := by
  refine codeAny_call_def (fd := fnOf name qual params body scope dV kV doc pm an cdv ct) (body := body) (binds := binds) hroom (X _ _ ho) rfl hlim (codeRec_of X hcd) rfl hbind hcell hloc (fun h₁ hns hk₁ => ?_) hco hgen hk
  exact wpAny_mono (h h₁ ⟨hns, hk₁, Nat.le_refl _⟩ News.nil) (fun _ _ x => x) fun _ _ x => x.elim
end
end Mine
-- Bq2
set_option maxHeartbeats 4000000
namespace Mine
theorem fr_stays {h₀ h h' : Heap} {L : Addr} {m : Str → Option Value} (F : Fr h₀ L h m) (k : h.StaysIn h') : Fr h₀ L h' m :=
  let ⟨oL, es, ep, hL, r⟩ := F.ns; ⟨⟨oL, es, ep, k _ _ hL, r⟩, fun b o e => k b o (F.keep b o e), F.above⟩
theorem news_stays {h₀ h h' : Heap} {L : Addr} {news : List (Addr × Obj)} (N : News h₀ L h news) (k : h.StaysIn h') : News h₀ L h' news := fun p hp => ⟨k _ _ (N p hp).1, (N p hp).2⟩
theorem hide_stays {h₀ h1 : Heap} {L : Addr} {m : Str → Option Value} {led : List (Addr × Obj)} (F1 : Fr h₀ L h1 m) (N1 : News h₀ L h1 led) : h₀.StaysIn (hideAll h1 (led.map (·.1))) := fun b o e =>
  hideAll_get _ (F1.keep b o e) fun hm => by
    obtain ⟨p, hp, rfl⟩ := List.mem_map.mp hm
    rw [(N1 p hp).2.2] at e; cases e
/-- back in the caller's frame; what was led is told anew -/
theorem back_led {h₀ h1 h5 : Heap} {L L' : Addr} {m m5 : Str → Option Value} {led news news5 : List (Addr × Obj)} (F1 : Fr h₀ L h1 m) (N2 : News h₀ L h1 news) (hm : ∀ p ∈ led, p ∈ news)
    (F5 : Fr (hideAll h1 (led.map (·.1))) L' h5 m5) (N5 : News (hideAll h1 (led.map (·.1))) L' h5 news5) (hl : ∀ p ∈ led, p ∈ news5) : Fr h₀ L h5 m ∧ News h₀ L h5 (news5 ++ news) := by
  have N1 : News h₀ L h1 led := fun p hp => N2 p (hm p hp)
  have hst := hide_stays F1 N1
  have up : ∀ b o, h1.get? b = some o → b ∉ led.map (·.1) → h5.get? b = some o := fun b o e hb => F5.keep b o (hideAll_get _ e hb)
  obtain ⟨oL, es, ep, hL, r⟩ := F1.ns
  have hLn : L ∉ led.map (·.1) := fun hm => by
    obtain ⟨p, hp, e⟩ := List.mem_map.mp hm
    exact (N1 p hp).2.1 e
  have hLg := hideAll_get (led.map (·.1)) hL hLn
  refine ⟨⟨⟨oL, es, ep, up _ _ hL hLn, r⟩, fun b o e => F5.keep b o (hst b o e), F1.above⟩, fun p hp => ?_⟩
  rcases List.mem_append.mp hp with h | h
  · have h5' := N5 p h
    refine ⟨h5'.1, fun e => ?_, ?_⟩
    · have := h5'.2.2; rw [e, hLg] at this; cases this
    · cases q : h₀.get? p.1 with
      | none => rfl
      | some o => have := h5'.2.2; rw [hst _ _ q] at this; cases this
  · refine ⟨?_, (N2 p h).2⟩
    by_cases hb : p.1 ∈ led.map (·.1)
    · obtain ⟨q, hq, e⟩ := List.mem_map.mp hb
      have h1' := (N1 q hq).1
      rw [e, (N2 p h).1] at h1'
      have := (N5 q (hl q hq)).1
      rw [e] at this
      rw [this, ← Option.some.inj h1']
    · exact up _ _ (N2 p h).1 hb
section
variable {prog : Program} {w : World} {A : Around} {s : Shared} {K : Frag}
/-- a def entered; what is led may be read (and changed) within -/
theorem call_led {h₀ : Heap} {L : Addr} {m : Str → Option Value} {news : List (Addr × Obj)} {R : Result → Shared → Prop} {name qual : Str} {params : Arguments} {body : List Stmt} {scope : Scope} {dV kV doc pm cdv ct oc : Value} {an od : Option Addr} {osl : Array (Option Value)} {f : Addr} {args : Args} {binds : List (Str × Value)} (led : List (Addr × Obj))
    (F : Fr h₀ L s.heap m) (X : K.In h₀) (N : News h₀ L s.heap news) (hm : ∀ p ∈ led, p ∈ news) (ho : K.lookup f = some ⟨oc, od, .func (fnOf name qual params body scope dV kV doc pm an cdv ct), osl⟩) (hcd : codeIn K cdv qual = true) (hlim : h₀.NoLimit) (hroom : A.depth < recursionLimit)
    (hbind : BindsTo s (fnOf name qual params body scope dV kV doc pm an cdv ct) args binds) (hloc : ∀ y ∈ binds, scope.names.lookup y.1 = some .local)
    (h : ∀ g L' h₁, h₀.StaysIn g → Fr g L' h₁ (fun y => binds.reverse.lookup y) → News g L' h₁ led →
      (∀ {h5 : Heap} {m5 : Str → Option Value} {news5 : List (Addr × Obj)}, Fr g L' h5 m5 → News g L' h5 news5 → (∀ p ∈ led, p ∈ news5) → Fr h₀ L h5 m ∧ News h₀ L h5 (news5 ++ news)) →
      wpAny (model prog w) (A.deeper (envOf qual scope L' f cdv)) (execs body (envOf qual scope L' f cdv))
        (fun fl s' => R (.ok (.ret (match fl with | .ret v => v | _ => .none))) s') (fun _ _ => False)
        { s with heap := h₁, toks := s.toks + binds.length })
    (hco : scope.isCoroutine = false := by rfl) (hgen : scope.isGenerator = false := by rfl) (hk : scope.kind = .function := by rfl)
    (hcell : ∀ x ∈ scope.names, x.2 ≠ .cell := by decide) : codeAny (model prog w) A (.call (.ref f) args) R s := by
  have N1 : News h₀ L s.heap led := fun p hp => N p (hm p hp)
  refine codeAny_call_def (fd := fnOf name qual params body scope dV kV doc pm an cdv ct) (body := body) (binds := binds) hroom (X.keeps F.keep _ _ ho) rfl (hlim.keeps F.keep) (codeRec_of (X.keeps F.keep) hcd) rfl hbind hcell hloc (fun h₁ hns hk₁ => ?_) hco hgen hk
  refine wpAny_mono (h (hideAll s.heap (led.map (·.1))) s.heap.objs.size h₁ (hide_stays F N1) ⟨hns, fun b o e => hk₁ b o (of_hideAll _ e), Nat.le_of_eq (hideAll_size _ _)⟩ (fun p hp => ⟨hk₁ _ _ (N1 p hp).1, Nat.ne_of_lt (Heap.lt_size (N1 p hp).1), hideAll_none _ (List.mem_map_of_mem hp)⟩) fun F5 N5 hl => back_led F N hm F5 N5 hl) (fun _ _ x => x) fun _ _ x => x.elim
end
section
variable {prog : Program} {w : World} {A : Around} {s : Shared} {K : Frag}
/-- a def entered; the led objects may be changed within -/
theorem call_fnH {R : Result → Shared → Prop} {name qual : Str} {params : Arguments} {body : List Stmt} {scope : Scope} {dV kV doc pm cdv ct oc : Value} {an od : Option Addr} {osl : Array (Option Value)} {f : Addr} {args : Args} {binds : List (Str × Value)} (led : List (Addr × Obj))
    (hled : ∀ p ∈ led, s.heap.get? p.1 = some p.2) (X : K.In s.heap) (ho : K.lookup f = some ⟨oc, od, .func (fnOf name qual params body scope dV kV doc pm an cdv ct), osl⟩) (hcd : codeIn K cdv qual = true) (hlim : s.heap.NoLimit) (hroom : A.depth < recursionLimit)
    (hbind : BindsTo s (fnOf name qual params body scope dV kV doc pm an cdv ct) args binds) (hloc : ∀ y ∈ binds, scope.names.lookup y.1 = some .local)
    (h : ∀ h₁, Fr (hideAll s.heap (led.map (·.1))) s.heap.objs.size h₁ (fun y => binds.reverse.lookup y) → News (hideAll s.heap (led.map (·.1))) s.heap.objs.size h₁ led →
      wpAny (model prog w) (A.deeper (envOf qual scope s.heap.objs.size f cdv)) (execs body (envOf qual scope s.heap.objs.size f cdv))
        (fun fl s' => R (.ok (.ret (match fl with | .ret v => v | _ => .none))) s') (fun _ _ => False)
        { s with heap := h₁, toks := s.toks + binds.length })
    (hco : scope.isCoroutine = false := by rfl) (hgen : scope.isGenerator = false := by rfl) (hk : scope.kind = .function := by rfl)
    (hcell : ∀ x ∈ scope.names, x.2 ≠ .cell := by decide) : codeAny (model prog w) A (.call (.ref f) args) R s := by
  refine codeAny_call_def (fd := fnOf name qual params body scope dV kV doc pm an cdv ct) (body := body) (binds := binds) hroom (X _ _ ho) rfl hlim (codeRec_of X hcd) rfl hbind hcell hloc (fun h₁ hns hk₁ => ?_) hco hgen hk
  refine wpAny_mono (h h₁ ⟨hns, fun b o e => hk₁ b o (of_hideAll _ e), Nat.le_of_eq (hideAll_size _ _)⟩ fun p hp => ⟨hk₁ _ _ (hled p hp), Nat.ne_of_lt (Heap.lt_size (hled p hp)), hideAll_none _ (List.mem_map_of_mem hp)⟩) (fun _ _ x => x) fun _ _ x => x.elim
end
end Mine
-- WsPq
namespace Mine
/-- one sign of a Whitespace: the counts, the blanks since the last tab, the tabs -/
def wsBump (c : List Int) (b : Nat) : List Int := let c' := if c.length ≤ b then c ++ List.replicate (b - c.length + 1) 0 else c; c'.set b (c'.getD b 0 + 1)
def wsStep (z : List Int × Nat × Nat) (k : Nat) : List Int × Nat × Nat := if k = 32 then (z.1, z.2.1 + 1, z.2.2) else (wsBump z.1 z.2.1, 0, z.2.2 + 1)
def wsF (l : List Nat) : List Int × Nat × Nat := l.foldl wsStep ([], 0, 0)
theorem bump_grown {ns : List Int} {b : Nat} (h : ns.length ≤ b) :
    wsBump ns b = (ns ++ (List.replicate ((b : Int) - (ns.length : Nat) + 1).toNat [(0 : Int)]).flatten).set (b : Int).toNat ((ns ++ (List.replicate ((b : Int) - (ns.length : Nat) + 1).toNat [(0 : Int)]).flatten).getD (b : Int).toNat 0 + 1) := by
  have e1 : ((b : Int) - (ns.length : Nat) + 1).toNat = b - ns.length + 1 := by omega
  have e2 : ∀ k : Nat, (List.replicate k [(0 : Int)]).flatten = List.replicate k 0 := by
    intro k; induction k with
    | zero => rfl
    | succ k ih => rw [List.replicate_succ, List.flatten_cons, ih]; rfl
  unfold wsBump
  rw [e1, e2, if_pos h, Int.toNat_natCast]
theorem bump_in {ns : List Int} {b : Nat} (h : ¬ ns.length ≤ b) : wsBump ns b = ns.set (b : Int).toNat (ns.getD (b : Int).toNat 0 + 1) := by
  unfold wsBump; rw [if_neg h, Int.toNat_natCast]
theorem bump_len (ns : List Int) (b : Nat) : (wsBump ns b).length = max ns.length (b + 1) := by
  unfold wsBump
  by_cases h : ns.length ≤ b
  · rw [if_pos h]; simp; omega
  · rw [if_neg h]; simp; omega
theorem news_ne {h₀ h : Heap} {L a b : Addr} {o o' : Obj} {news : List (Addr × Obj)} (N : News h₀ L h news) (ha : (a, o) ∈ news) (hb : (b, o') ∈ news) (hc : o.cls ≠ o'.cls) : a ≠ b := fun e => by
  subst e
  have h1 := (N _ ha).1
  rw [(N _ hb).1] at h1
  exact hc (congrArg Obj.cls (Option.some.inj h1).symm)
theorem news_drop3 {h₀ h : Heap} {L : Addr} {a b c : Addr × Obj} {r : List (Addr × Obj)} (N : News h₀ L h (a :: b :: c :: r)) : News h₀ L h (a :: b :: r) := fun p hp => by
  rcases List.mem_cons.mp hp with rfl | hp
  · exact N _ (.head _)
  · rcases List.mem_cons.mp hp with rfl | hp
    · exact N _ (.tail _ (.head _))
    · exact N _ (.tail _ (.tail _ (.tail _ hp)))
theorem wsF_snoc (l : List Nat) (k : Nat) : wsF (l ++ [k]) = wsStep (wsF l) k := by unfold wsF; rw [List.foldl_append]; rfl
theorem bump_bound {c : List Int} {b : Nat} {n : Int} (hn : 0 ≤ n) (h : ∀ v ∈ c, 0 ≤ v ∧ v ≤ n) : ∀ v ∈ wsBump c b, 0 ≤ v ∧ v ≤ n + 1 := by
  have hg : ∀ c' : List Int, (∀ v ∈ c', 0 ≤ v ∧ v ≤ n) → ∀ v ∈ c'.set b (c'.getD b 0 + 1), 0 ≤ v ∧ v ≤ n + 1 := by
    intro c' h' v hv
    rcases List.mem_or_eq_of_mem_set hv with h1 | h1
    · have := h' v h1; omega
    · subst h1
      by_cases hb : b < c'.length
      · have := h' c'[b] (List.getElem_mem hb)
        have e : c'.getD b 0 = c'[b] := by simp [hb]
        rw [e]; omega
      · have e : c'.getD b 0 = 0 := by simp [hb]
        rw [e]; omega
  unfold wsBump
  split
  · refine hg _ fun v hv => ?_
    rcases List.mem_append.mp hv with h1 | h1
    · exact h v h1
    · rw [List.eq_of_mem_replicate h1]; omega
  · exact hg _ h
theorem wsF_bound : ∀ (n : Nat) (l : List Nat), l.length = n → (wsF l).1.length ≤ n ∧ (∀ v ∈ (wsF l).1, 0 ≤ v ∧ v ≤ (n : Int)) ∧ (wsF l).2.1 ≤ n ∧ (wsF l).2.2 ≤ n := by
  intro n
  induction n with
  | zero => intro l h; rw [List.length_eq_zero_iff.mp h]; exact ⟨Nat.le_refl _, (fun v hv => nomatch hv), Nat.le_refl _, Nat.le_refl _⟩
  | succ n ih =>
    intro l h
    have hne : l ≠ [] := by intro e; subst e; cases h
    rw [← List.dropLast_concat_getLast hne, wsF_snoc]
    obtain ⟨h1, h2, h3, h4⟩ := ih l.dropLast (by rw [List.length_dropLast]; omega)
    unfold wsStep
    split
    · exact ⟨by dsimp only; omega, fun v hv => by have := h2 v hv; omega, by dsimp only; omega, by dsimp only; omega⟩
    · refine ⟨by dsimp only; rw [bump_len]; omega, fun v hv => by have := bump_bound (by omega) h2 v hv; omega, by dsimp only; omega, by dsimp only; omega⟩
/-- il behind n steps -/
def ilF (ns : List Int) (ts : Nat) : Nat → Int
  | 0 => 0
  | n + 1 => ilF ns ts n + (((ts + n) / ts : Nat) : Int) * ns.getD (ts + n) 0
def indentF (l : List Nat) (ts : Nat) : Int := ((wsF l).2.1 : Nat) + (ts : Int) * (ilF (wsF l).1 ts ((wsF l).1.length - ts) + ((wsF l).2.2 : Nat))
/-- a Whitespace as the heap bears it -/
structure WsI where
  x : Str
  t : Tok
  y : Addr
  d : Addr
  D : Addr
  D' : Addr
  vs : List Value
  tb : Tok
  t1 : Tok
  t2 : Tok
  t3 : Tok
  t4 : Tok
  t5 : Tok
  tn : Tok
  tnt : Tok
abbrev wsDict (P : Params) (x : Str) (t : Tok) (n nt : Int) (simple : Bool) (D' : Addr) (t1 t2 t3 t4 t5 tn tnt : Tok) : List DictEntry :=
  [⟨PyData.keyHash P (Str.ofString "raw"), .str (Str.ofString "raw") t1, .str x t⟩, ⟨PyData.keyHash P (Str.ofString "n"), .str (Str.ofString "n") t2, .int n tn⟩, ⟨PyData.keyHash P (Str.ofString "nt"), .str (Str.ofString "nt") t3, .int nt tnt⟩,
   ⟨PyData.keyHash P (Str.ofString "norm"), .str (Str.ofString "norm") t4, .ref D'⟩, ⟨PyData.keyHash P (Str.ofString "is_simple"), .str (Str.ofString "is_simple") t5, .bool simple⟩]
abbrev tupOf (vs : List Value) : Obj := { cls := .type "tuple", data := .seq vs.toArray }
abbrev wsLed (C : Addr) (P : Params) (i : WsI) : List (Addr × Obj) :=
  [(i.D', tupOf [.ref i.D, .int ((wsF i.x.cps.toList).2.1 : Nat) i.tb]), (i.D, tupOf i.vs), (i.y, instObj C i.d), (i.d, dictOf (wsDict P i.x i.t (i.x.cps.size : Nat) ((wsF i.x.cps.toList).2.2 : Nat) (decide ((((wsF i.x.cps.toList).1.length : Nat) : Int) ≤ 1)) i.D' i.t1 i.t2 i.t3 i.t4 i.t5 i.tn i.tnt) 5)]
theorem ints_length {vs : List Value} {ns : List Int} (h : IntsAre vs ns) : vs.length = ns.length := h.length
section
variable {prog : Program} {w : World} {A : Around} {E : Value → Shared → Prop} {s : Shared} {h₀ : Heap} {L D : Addr} {news : List (Addr × Obj)} {vs : List Value} {ns : List Int}
theorem len_tupN {Q : Value → Shared → Prop} (N : News h₀ L s.heap news) (hm : (D, tupOf vs) ∈ news) (hi : IntsAre vs ns) (hl : ns.length ≤ 1000000) (h : ∀ t k, Q (.int (ns.length : Nat) t) { s with toks := k }) :
    wpAny (model prog w) A (call (.builtin "len") [.ref D]) Q E s := by
  have e := ints_length hi
  refine PyProof.Rows.len_tuple (items := vs.toArray) ⟨_, (N _ hm).1, rfl, _, rfl⟩ (by rw [List.size_toArray]; omega) ?_
  rw [List.size_toArray, e]; exact h _ _
theorem item_tupN {value slice : Expr} {Q : Value → Shared → Prop} {k : Int} {u : Tok} (N : News h₀ L s.heap news) (hm : (D, tupOf vs) ∈ news) (hi : IntsAre vs ns) (hl : ns.length ≤ 1000000) (h0 : 0 ≤ k) (hk : k < ns.length) (h : ∀ t, Q (.int (ns.getD k.toNat 0) t) s)
    (hs : subscripted slice false (.ref D) (.int k u) = operate [.ref D, .int k u] (getItem (.ref D) (.int k u)) := by with_unfolding_all rfl) :
    wpAny (model prog w) A (subscriptTail value slice (.ref D) (.int k u)) Q E s := by
  have e := ints_length hi
  have hlt : k.toNat < ns.length := by omega
  obtain ⟨t, ht⟩ := hi.get k.toNat (ns.getD k.toNat 0) (by simp [hlt])
  refine item_tupleT (l := vs) ⟨_, (N _ hm).1, rfl, _, rfl⟩ (by omega) (by omega) (j := k.toNat) ?_ ht (h t) hs
  unfold seqIndex?
  rw [e]
  simp only [show ¬ k < 0 by omega, if_false]
  simp; omega
end
end Mine
-- C02a
set_option maxHeartbeats 4000000
namespace Mine
local macro_rules | `(tactic| walk_at "MY:w") => `(tactic| repeat' (first | (k_unfold; (try dsimp only)) | (k_end; fail) | ((fail_if_success (with_reducible show wpAny _ _ (exec (Stmt.While _ _ _ _) _) _ _ _)); (fail_if_success (with_reducible show wpAny _ _ (pyIter _) _ _ _)); (first | walk1 | (dsimp only; walk1)))))
theorem int2ap_1 {w : World} {dp : Nat} {fr : Option (List Env)} {gd : Option (List Code)} {un : Nat} {s : Shared} {mg mb : Str → Option Value} {p : Program} {loose : List Str} {mean : ExcName → Option Value} {n : Int} {t : Tok} {R : Result → Shared → Prop}
    (X : (hd02.heap_39 w.params).In s.heap) (T : Top p loose mean mg mb s.heap) (hroom : dp < recursionLimit) (hn : n ≤ 0) (hlo : -(16 ^ 8) < n)
    (h : ∀ t' h' tk', s.heap.StaysIn h' → R (.ok (.ret (.bytes (apF 8 (-n).toNat []).toArray t'))) { s with heap := h', toks := tk' }) :
    codeAny (model prog2 w) { handled := none, depth := dp, frames := fr, guards := gd, units := un } (.call (.ref 111) ⟨[.int n t], []⟩) R s := by
  refine call_fn (binds := [(Str.ofString "num", .int n t)]) X rfl rfl T.nolimit hroom (BindsTo.of_eq rfl) (locs rfl) ?_
  intro h₁ F N
  walk_at "MY:w"
  rename Fr _ _ _ _ => F'
  rename News _ _ _ _ => N'
  have hne : (if n < 0 then -n else n) = -n := by split <;> omega
  rw [hne] at F'
  refine' ksw_while (σ := Int × Tok × Array UInt8 × Tok) (fun _ => []) (fun c => [(Str.ofString "num", .int c.1 c.2.1), (Str.ofString "val", .bytes c.2.2.1 c.2.2.2)]) (fun _ => True) [Str.ofString "mod"]
    (fun c => 0 ≤ c.1 ∧ ∃ f, c.1.toNat < 16 ^ f ∧ apF f c.1.toNat c.2.2.1.toList = apF 8 (-n).toNat [] ∧ c.2.2.1.size + f = 8) (fun c => c.1.toNat) (-n, _, #[], _) F' N' trivial (List.forall_mem_cons.mpr ⟨rfl, List.forall_mem_cons.mpr ⟨rfl, List.forall_mem_nil _⟩⟩) ?_ ?_
  · dsimp only; exact ⟨by omega, 8, by omega, rfl, rfl⟩
  · clear F' N'
    rintro ⟨num, t1, val, t2⟩ u h2 tk2 - ⟨hP1, f, hP2, hP3, hP4⟩ F2 N2
    dsimp only [kstB, List.contains_cons] at F2 hP1 hP2 hP3 hP4
    walk_at "MY:w"
    · rename ¬ _ => hnum
      rename Fr _ _ _ _ => F'
      rename News _ _ _ _ => N'
      refine KBc.slice_K (s := ⟨_, _, _, _, _⟩) F' N' rfl (by constructor) (by constructor) (by decide) ?_
      clear F' N'
      intro h3 t3 k3 F3 N3 hk3
      obtain ⟨f', q1, q2, q3⟩ := ap_turn hP1 hnum hP2 hP3 hP4
      dsimp only
      generalize KBy.picked #[65, 66, 67, 68, 69, 70, 71, 72, 73, 74, 75, 76, 77, 78, 79, 80] (some (num.fmod 16)) (some (num.fmod 16 + 1)) = cut at *
      walk_at "MY:w"
      have hcs : cut.size + val.size ≤ 16777216 := by rw [Array.size_append] at q3; omega
      refine KBy.add_bytes hcs ?_
      intro t4 k4
      walk_at "MY:w"
      rename Fr _ _ _ _ => F4
      rename News _ _ _ _ => N4
      refine ksw_end (num.fdiv 16, _, cut ++ val, _) F4 N4 (fun _ h => nomatch h) trivial (List.forall_mem_cons.mpr ⟨rfl, List.forall_mem_cons.mpr ⟨rfl, List.forall_mem_nil _⟩⟩) (by ksw_same) ⟨?_, f', q1, q2, q3⟩ ?_
      · rw [Int.fdiv_eq_ediv_of_nonneg _ (by omega)]; omega
      · dsimp only; rw [Int.fdiv_eq_ediv_of_nonneg _ (by omega)]; omega
    · subst_vars
      have e : val = (apF 8 (-n).toNat []).toArray := by rw [← hP3]; simp [apF_zero]
      rw [e]
      exact h _ _ _ F2.keep
end Mine
-- C02b
set_option maxHeartbeats 4000000
namespace Mine
theorem PatAt.sub {M : Model} {A : Around} {E : Value → Shared → Prop} {s : Shared} {a : Addr} {code : Array Nat} {pl : Sem Bool} {Q : Value × List Value → Shared → Prop} (P : PatAt s.heap a code) (h : Q (.builtin "re.Pattern.sub", [.ref a]) s) :
    wpAny M A (getMethod (.ref a) (Str.ofString "sub") pl) Q E s := by
  obtain ⟨o, ot, p, f, u, v, tup, items, n, h1, h2, h3, _⟩ := P
  exact getMethod_builtin (T := "re.Pattern") ⟨o, h1, h2⟩ rp_plain rp_slot rp_type (fun b e => by cases e; exact ⟨o, h1, h3⟩) h
local macro_rules | `(tactic| walk_at "getMethod ref") => `(tactic| (refine PatAt.sub (by assumption) ?_))
local macro_rules | `(tactic| walk_at "MY:w") => `(tactic| repeat' (first | (k_unfold; (try dsimp only)) | (k_end; fail) | (
  (fail_if_success (with_reducible show wpAny _ _ (exec (Stmt.While _ _ _ _) _) _ _ _));
  (fail_if_success (with_reducible show wpAny _ _ (pyIter _) _ _ _));
  (fail_if_success (with_reducible show wpAny _ _ (call (Value.ref _) _) _ _ _));
  (fail_if_success (with_reducible show wpAny _ _ (call (Value.builtin "re.Pattern.sub") _) _ _ _));
  (first | walk1 | (dsimp only; walk1)))))
theorem eolF_len : ∀ (b : Bool) (l : List Nat), (eolF b l).length ≤ 2 * l.length
  | _, [] => Nat.le_refl _
  | b, c :: r => by
    rw [eolF]
    have h1 := eolF_len true r
    have h2 := eolF_len false r
    split
    · split <;> simp <;> omega
    · split <;> simp <;> omega
theorem pat1_1 {w : World} {h : Heap} (X : (hd02.heap_39 w.params).In h) : PatAt h 116 code1 :=
  ⟨_, _, _, _, _, _, 115, _, _, X 116 _ rfl, rfl, rfl, rfl, X 115 _ rfl, rfl, rfl, by decide +kernel⟩
theorem pat2_1 {w : World} {h : Heap} (X : (hd02.heap_39 w.params).In h) : PatAt h 121 code2 :=
  ⟨_, _, _, _, _, _, 120, _, _, X 121 _ rfl, rfl, rfl, rfl, X 120 _ rfl, rfl, rfl, by decide +kernel⟩
theorem eols_1 {w : World} {dp : Nat} {fr : Option (List Env)} {gd : Option (List Code)} {un : Nat} {s : Shared} {mg mb : Str → Option Value} {p : Program} {loose : List Str} {mean : ExcName → Option Value} {x : Str} {t : Tok} {R : Result → Shared → Prop}
    (X : (hd02.heap_39 w.params).In s.heap) (T : Top p loose mean mg mb s.heap) (hroom : dp < recursionLimit) (hx : x.cps.size ≤ 10000)
    (h : ∀ t' h' tk', s.heap.StaysIn h' → R (.ok (.ret (.str ⟨(eolF false x.cps.toList).toArray⟩ t'))) { s with heap := h', toks := tk' }) :
    codeAny (model prog2 w) { handled := none, depth := dp, frames := fr, guards := gd, units := un } (.call (.ref 135) ⟨[.str x t], []⟩) R s := by
  refine call_fn (binds := [(Str.ofString "data", .str x t)]) X rfl rfl T.nolimit hroom (BindsTo.of_eq rfl) (locs rfl) ?_
  intro h₁ F N
  have P1 := pat1_1 (X.keeps F.keep)
  have P2 := pat2_1 (X.keeps F.keep)
  walk_at "MY:w"
  refine sub_eol hx P2 ?_
  intro t' h' tk' hs
  exact h _ _ _ fun b o e => hs b o (F.keep b o e)
theorem quote_1 {w : World} {dp : Nat} {fr : Option (List Env)} {gd : Option (List Code)} {un : Nat} {s : Shared} {mg mb : Str → Option Value} {p : Program} {loose : List Str} {mean : ExcName → Option Value} {x : Str} {t : Tok} {R : Result → Shared → Prop}
    (X : (hd02.heap_39 w.params).In s.heap) (T : Top p loose mean mg mb s.heap) (hroom : dp < recursionLimit) (hx : x.cps.size ≤ 5000)
    (h : ∀ t' h' tk', s.heap.StaysIn h' → R (.ok (.ret (.str ⟨(dotF true (eolF false x.cps.toList)).toArray⟩ t'))) { s with heap := h', toks := tk' }) :
    codeAny (model prog2 w) { handled := none, depth := dp, frames := fr, guards := gd, units := un } (.call (.ref 128) ⟨[.str x t], []⟩) R s := by
  refine call_fn (binds := [(Str.ofString "data", .str x t)]) X rfl rfl T.nolimit hroom (BindsTo.of_eq rfl) (locs rfl) ?_
  intro h₁ F N
  have P1 := pat1_1 (X.keeps F.keep)
  have P2 := pat2_1 (X.keeps F.keep)
  walk_at "MY:w"
  refine sub_eol (by omega) P2 ?_
  intro t' h' tk' hs
  walk_at "MY:w"
  refine sub_dot ?_ (P1.keeps hs) ?_
  · show (eolF false x.cps.toList).toArray.size ≤ _
    have := eolF_len false x.cps.toList
    simp at this ⊢; omega
  intro t2 h2 tk2 hs2
  refine h _ _ _ fun b o e => hs2 b o (hs b o (F.keep b o e))
end Mine
-- C02c
set_option maxHeartbeats 4000000
namespace Mine
local macro_rules | `(tactic| walk_at "MY:w") => `(tactic| repeat' (first | (k_unfold; (try dsimp only)) | (k_end; fail) | (
  (fail_if_success (with_reducible show wpAny _ _ (exec (Stmt.While _ _ _ _) _) _ _ _));
  (fail_if_success (with_reducible show wpAny _ _ (pyIter _) _ _ _));
  (fail_if_success (with_reducible show wpAny _ _ (call (Value.ref _) _) _ _ _));
  (fail_if_success (with_reducible show wpAny _ _ (call (Value.builtin "re.Pattern.sub") _) _ _ _));
  (first | walk1 | (dsimp only; walk1)))))
local macro_rules | `(tactic| walk_at "MY:same") => `(tactic| (intro z hz h2 h3; (simp only [List.forall_mem_cons, List.not_mem_nil, false_implies, implies_true, and_true, ne_eq] at h2); (simp only [List.contains_cons, List.contains_nil, Bool.or_false, Bool.or_eq_false_iff, beq_eq_false_iff_ne, ne_eq] at h3); (simp [hz, h2, h3])))
structure WsSt where
  b : Nat
  n : Int
  nt : Nat
  tb : Tok
  tn : Tok
  tnt : Tok
  ns : List Int
  vs : List Value
  c : Addr
  k : Nat
theorem stays_hide {h₀ h1 : Heap} {L : Addr} {m : Str → Option Value} {led : List (Addr × Obj)} (F1 : Fr h₀ L h1 m) (N1 : News h₀ L h1 led) : h₀.StaysIn (hideAll h1 (led.map (·.1))) := fun b o e =>
  hideAll_get _ (F1.keep b o e) fun hm => by
    obtain ⟨p, hp, rfl⟩ := List.mem_map.mp hm
    rw [(N1 p hp).2.2] at e; cases e
/-- back in the caller's frame -/
theorem back {h₀ h1 h5 : Heap} {L L' : Addr} {m m5 : Str → Option Value} {led news news5 : List (Addr × Obj)} (F1 : Fr h₀ L h1 m) (N1 : News h₀ L h1 led) (N2 : News h₀ L h1 news) (hoff : ∀ p ∈ news, p.1 ∉ led.map (·.1))
    (F5 : Fr (hideAll h1 (led.map (·.1))) L' h5 m5) (N5 : News (hideAll h1 (led.map (·.1))) L' h5 news5) : Fr h₀ L h5 m ∧ News h₀ L h5 (news5 ++ news) := by
  have hst := stays_hide F1 N1
  have up : ∀ b o, h1.get? b = some o → b ∉ led.map (·.1) → h5.get? b = some o := fun b o e hb => F5.keep b o (hideAll_get _ e hb)
  obtain ⟨oL, es, ep, hL, r⟩ := F1.ns
  have hLn : L ∉ led.map (·.1) := fun hm => by
    obtain ⟨p, hp, e⟩ := List.mem_map.mp hm
    exact (N1 p hp).2.1 e
  have hLg := hideAll_get (led.map (·.1)) hL hLn
  refine ⟨⟨⟨oL, es, ep, up _ _ hL hLn, r⟩, fun b o e => F5.keep b o (hst b o e), F1.above⟩, fun p hp => ?_⟩
  rcases List.mem_append.mp hp with h | h
  · have h5' := N5 p h
    refine ⟨h5'.1, fun e => ?_, ?_⟩
    · have := h5'.2.2; rw [e, hLg] at this; cases this
    · cases q : h₀.get? p.1 with
      | none => rfl
      | some o => have := h5'.2.2; rw [hst _ _ q] at this; cases this
  · exact ⟨up _ _ (N2 p h).1 (hoff p h), (N2 p h).2⟩
theorem ws_fin {C : Addr} {P : Params} {s : Shared} {h₀ h6 : Heap} {tk6 : Nat} {L : Addr} {m : Str → Option Value} {news : List (Addr × Obj)} {x : Str} {t : Tok} {Q : Value → Shared → Prop}
    (h : ∀ (i : WsI) h' tk', i.x = x → IntsAre i.vs (wsF i.x.cps.toList).1 → Fr h₀ L h' m → News h₀ L h' (wsLed C P i ++ news) → Q (.ref i.y) { s with heap := h', toks := tk' })
    {y d D D' : Addr} {vs : List Value} {ns : List Int} {b nt : Nat} {tb t1 t2 t3 t4 t5 tn tnt : Tok} (hz : wsF x.cps.toList = (ns, b, nt)) (hi : IntsAre vs ns) (F : Fr h₀ L h6 m)
    (N : News h₀ L h6 ((D', tupOf [.ref D, .int (b : Nat) tb]) :: (D, tupOf vs) :: (y, instObj C d) :: (d, dictOf (wsDict P x t (x.cps.size : Nat) (nt : Nat) (decide (((ns.length : Nat) : Int) ≤ 1)) D' t1 t2 t3 t4 t5 tn tnt) 5) :: news)) :
    Q (.ref y) { s with heap := h6, toks := tk6 } := by
  refine h ⟨x, t, y, d, D, D', vs, tb, t1, t2, t3, t4, t5, tn, tnt⟩ h6 tk6 rfl ?_ F ?_
  · dsimp only; rw [hz]; exact hi
  · dsimp only [wsLed]; rw [hz]; exact N
theorem ws_1 {w : World} {dp : Nat} {fr : Option (List Env)} {gd : Option (List Code)} {un : Nat} {s : Shared} {mg mb : Str → Option Value} {p : Program} {loose : List Str} {mean : ExcName → Option Value} {h₀ : Heap} {L : Addr} {m : Str → Option Value} {news : List (Addr × Obj)} {x : Str} {t : Tok} {Q E : Value → Shared → Prop}
    (F : Fr h₀ L s.heap m) (X : (hd02.heap_39 w.params).In h₀) (T : Top p loose mean mg mb h₀) (N : News h₀ L s.heap news) (hroom : dp + 2 < recursionLimit) (hx : x.cps.all (fun c => c == 32 || c == 9) = true) (hx2 : x.cps.size ≤ 10000)
    (h : ∀ (i : WsI) h' tk', i.x = x → IntsAre i.vs (wsF i.x.cps.toList).1 → Fr h₀ L h' m → News h₀ L h' (wsLed 100 w.params i ++ news) → Q (.ref i.y) { s with heap := h', toks := tk' }) :
    wpAny (model prog2 w) { handled := none, depth := dp, frames := fr, guards := gd, units := un } (call (.ref 100) [.str x t]) Q E s := by
  refine call_cls F X N (by k_is) (by k_is) (by k_is) ?_
  intro y d h1 F1 N1 l1 l2
  clear F N
  refine call_fnH (binds := [(Str.ofString "self", .ref y), (Str.ofString "ws", .str x t)]) [(y, instObj 100 d), (d, dictOf [] 0)] ?_ (X.keeps F1.keep) rfl rfl (T.nolimit.keeps F1.keep) ?_ (BindsTo.of_eq rfl) (locs rfl) ?_
  · exact List.forall_mem_cons.mpr ⟨(N1 _ (.head _)).1, List.forall_mem_cons.mpr ⟨(N1 _ (.tail _ (.head _))).1, List.forall_mem_nil _⟩⟩
  · simp only [depth_under_make]; omega
  intro h2 F2 N2
  have NL : News h₀ L h1 [(y, instObj 100 d), (d, dictOf [] 0)] := kst_newsOf N1 (List.forall_mem_cons.mpr ⟨.head _, List.forall_mem_cons.mpr ⟨.tail _ (.head _), List.forall_mem_nil _⟩⟩)
  have hst : h₀.StaysIn (hideAll h1 (List.map (fun x => x.fst) [(y, instObj 100 d), (d, dictOf [] 0)])) := stays_hide F1 NL
  have hback : ∀ {h5 : Heap} {L' : Addr} {m5 : Str → Option Value} {news5 : List (Addr × Obj)}, Fr (hideAll h1 (List.map (fun x => x.fst) [(y, instObj 100 d), (d, dictOf [] 0)])) L' h5 m5 → News (hideAll h1 (List.map (fun x => x.fst) [(y, instObj 100 d), (d, dictOf [] 0)])) L' h5 news5 → Fr h₀ L h5 m ∧ News h₀ L h5 (news5 ++ news) :=
    fun F5 N5 => back F1 NL (fun p hp => N1 p (.tail _ (.tail _ hp))) (fun p hp hm => by
      have h1 := l1 p hp
      rcases List.mem_cons.mp hm with e | hm
      · rw [e] at h1; exact absurd (Nat.lt_trans l2 h1) (Nat.lt_irrefl _)
      · rw [List.mem_singleton.mp hm] at h1; exact absurd h1 (Nat.lt_irrefl _)) F5 N5
  clear NL
  dsimp only at F2 N2
  have X2 := X.keeps hst
  have T2 := T.keeps hst
  generalize hideAll h1 _ = g at *
  replace l2 := ltN l2
  clear X T
  walk_at "MY:w"
  rename Fr _ _ _ _ => F3
  rename News _ _ _ _ => N3
  rename _ ∧ _ ∧ _ => l3
  refine' loop_text (σ := WsSt) (fun c => [(c.c, PySem.W.listOf c.vs.toArray c.k), (y, instObj 100 d), (d, dictOf [⟨PyData.keyHash w.params (Str.ofString "raw"), .str (Str.ofString "raw") (s.toks + 2 + 1), .str x t⟩] 1)])
    (fun c => [(Str.ofString "b", .int c.b c.tb), (Str.ofString "n", .int c.n c.tn), (Str.ofString "nt", .int c.nt c.tnt), (Str.ofString "count", .ref c.c)]) []
    (fun i c => IntsAre c.vs c.ns ∧ wsF (x.cps.toList.take i) = (c.ns, c.b, c.nt) ∧ c.n = i ∧ y < c.c ∧ d < c.c ∧ c.ns.length ≤ i ∧ c.b ≤ i) ⟨0, 0, 0, _, _, _, [], [], _, 0⟩ ?ha rfl F3 (kst_newsOf N3 (List.forall_mem_cons.mpr ⟨.head _, List.forall_mem_cons.mpr ⟨.tail _ (.tail _ (.head _)), List.forall_mem_cons.mpr ⟨.tail _ (.tail _ (.tail _ (.head _))), List.forall_mem_nil _⟩⟩⟩))
    (List.forall_mem_cons.mpr ⟨rfl, List.forall_mem_cons.mpr ⟨rfl, List.forall_mem_cons.mpr ⟨rfl, List.forall_mem_cons.mpr ⟨rfl, List.forall_mem_nil _⟩⟩⟩⟩) ⟨.nil, rfl, rfl, l3.2.1, l3.2.2, Nat.le_refl _, Nat.le_refl _⟩ ?_ ?_
  case ha =>
    rw [Array.all_eq_true] at hx ⊢
    intro i hi
    have := hx i hi
    simp only [Bool.or_eq_true, beq_iff_eq] at this
    simp only [decide_eq_true_eq]; omega
  · rintro i k tk ⟨b, n, nt, tb, tn, tnt, ns, vs, c, e⟩ u h4 tk4 own hk ⟨hi1, hi2, hi3, hi4, hi5, hi6, hi7⟩ hsep F4 N4
    have hil : i < x.cps.size := by
      obtain ⟨h, _⟩ := Array.getElem?_eq_some_iff.mp hk; exact h
    have hk' : k = 32 ∨ k = 9 := by
      obtain ⟨h, e⟩ := Array.getElem?_eq_some_iff.mp hk
      rw [Array.all_eq_true] at hx
      have := hx i h
      rw [e] at this
      simpa using this
    have hF : wsF (x.cps.toList.take (i + 1)) = wsStep (ns, b, nt) k := by
      unfold wsF at hi2 ⊢
      rw [List.take_add_one, Array.getElem?_toList, hk, List.foldl_append, hi2]; rfl
    clear F3 N3
    dsimp only [kstB, List.contains_nil, List.cons_append, List.nil_append, List.map] at F4 N4 hi1 hi2 hi3 hi4 hi5 hi6 hi7 hsep
    replace hi4 := ltN hi4
    replace hi5 := ltN hi5
    rcases hk' with rfl | rfl
    · walk_at "MY:w"
      rename Fr _ _ _ _ => F5
      rename News _ _ _ _ => N5
      refine lend ⟨b + 1, n + 1, nt, _, _, tnt, ns, vs, c, e⟩ F5 N5 ?_ ?_ hsep (List.forall_mem_cons.mpr ⟨rfl, List.forall_mem_cons.mpr ⟨rfl, List.forall_mem_cons.mpr ⟨rfl, List.forall_mem_cons.mpr ⟨rfl, List.forall_mem_nil _⟩⟩⟩⟩) (by walk_at "MY:same") ⟨hi1, ?_, ?_, hi4, hi5, ?_, ?_⟩
      · exact List.forall_mem_cons.mpr ⟨.head _, List.forall_mem_cons.mpr ⟨.tail _ (.head _), List.forall_mem_cons.mpr ⟨.tail _ (.tail _ (.head _)), List.forall_mem_nil _⟩⟩⟩
      · intro p hp; exact .tail _ (.tail _ (.tail _ hp))
      · rw [hF]; rfl
      · dsimp only; omega
      · dsimp only; omega
      · dsimp only; omega
    · walk_at "MY:w"
      · rename Fr _ _ _ _ => F5
        rename News _ _ _ _ => N5
        rename (_ : Int) ≤ _ => hle
        rename _ ∧ _ ∧ _ ∧ _ ∧ _ ∧ AllLt _ own => lD
        rename IntsAre (List.set _ _ _) _ => hI
        refine lend ⟨0, n + 1, nt + 1, _, _, _, _, _, _, _⟩ F5 N5 (List.forall_mem_cons.mpr ⟨.head _, List.forall_mem_cons.mpr ⟨by k_mem, List.forall_mem_cons.mpr ⟨by k_mem, List.forall_mem_nil _⟩⟩⟩) ?_ ?_ (List.forall_mem_cons.mpr ⟨rfl, List.forall_mem_cons.mpr ⟨rfl, List.forall_mem_cons.mpr ⟨rfl, List.forall_mem_cons.mpr ⟨rfl, List.forall_mem_nil _⟩⟩⟩⟩) (by walk_at "MY:same") ⟨hI, ?_, ?_, ?_, ?_, ?_, ?_⟩
        · intro p hp; exact .tail _ (.tail _ (.tail _ (.tail _ (.tail _ (.tail _ hp)))))
        · exact ownOff_cons (ownOff_lt lD.2.2.2.2.2) (ownOff_tail hsep)
        · rw [hF, wsStep, if_neg (by decide), bump_grown (show ns.length ≤ b by omega)]
        · dsimp only; omega
        · exact lD.2.2.2.1
        · exact lD.2.2.2.2.1
        · dsimp only; rw [← bump_grown (by omega)]; have := bump_len ns b; omega
        · dsimp only; omega
      · rename Fr _ _ _ _ => F5
        rename News _ _ _ _ => N5
        rename ¬ _ => hle
        rename IntsAre (List.set _ _ _) _ => hI
        refine lend ⟨0, n + 1, nt + 1, _, _, _, _, _, _, _⟩ F5 N5 (List.forall_mem_cons.mpr ⟨.head _, List.forall_mem_cons.mpr ⟨by k_mem, List.forall_mem_cons.mpr ⟨by k_mem, List.forall_mem_nil _⟩⟩⟩) ?_ hsep (List.forall_mem_cons.mpr ⟨rfl, List.forall_mem_cons.mpr ⟨rfl, List.forall_mem_cons.mpr ⟨rfl, List.forall_mem_cons.mpr ⟨rfl, List.forall_mem_nil _⟩⟩⟩⟩) (by walk_at "MY:same") ⟨hI, ?_, ?_, hi4, hi5, ?_, ?_⟩
        · intro p hp; exact .tail _ (.tail _ (.tail _ hp))
        · rw [hF, wsStep, if_neg (by decide), bump_in (show ¬ ns.length ≤ b by omega)]
        · dsimp only; omega
        · dsimp only; rw [← bump_in (by omega)]; have := bump_len ns b; omega
        · dsimp only; omega
  · rintro ⟨b, n, nt, tb, tn, tnt, ns, vs, c, e⟩ u h4 tk4 ⟨hi1, hi2, hi3, hi4, hi5, hi6, hi7⟩ F4 N4
    clear F3 N3
    dsimp only [kstB, List.contains_nil, List.cons_append, List.nil_append, List.map] at F4 N4 hi1 hi2 hi3 hi4 hi5 hi6 hi7
    replace hi4 := ltN hi4
    replace hi5 := ltN hi5
    walk_at "MY:w"
    rename Fr _ _ _ _ => F5
    rename News _ _ _ _ => N5
    have ne1 := neN (news_ne N5 (.tail _ (.head _)) (.tail _ (.tail _ (.tail _ (.head _)))) (by intro e; cases e))
    have ne2 := neN (news_ne N5 (.tail _ (.head _)) (.tail _ (.tail _ (.tail _ (.tail _ (.head _))))) (show Value.type "tuple" ≠ Value.type "dict" by decide))
    walk_at "MY:w"
    rename Fr _ _ _ _ => F5
    rename News _ _ _ _ => N5
    obtain ⟨F6, N6⟩ := hback F5 N5
    have hz : wsF x.cps.toList = (ns, b, nt) := by rw [← hi2, List.take_of_length_le (by simp)]
    subst hi3
    refine ⟨rfl, ?_⟩
    simp only [List.cons_append, List.nil_append] at N6
    have N7 := news_drop3 N6
    exact ws_fin h hz hi1 F6 N7
end Mine
-- TxtPq
namespace Mine
abbrev tx (l : List Nat) : Str := ⟨l.toArray⟩
theorem tx_sp : Str.ofString " " = tx [32] := by rfl
theorem tx_tab : Str.ofString "\t" = tx [9] := by rfl
theorem tx_dot : Str.ofString "." = tx [46] := by rfl
theorem tx_crlf : Str.ofString "\x0d\n" = tx [13, 10] := by rfl
theorem foldl_app (l : List Nat) : ∀ (n : Nat) (a : Array Nat), ((List.replicate n l.toArray).foldl (· ++ ·) a).toList = a.toList ++ (List.replicate n l).flatten
  | 0, a => by simp
  | n + 1, a => by
    rw [List.replicate_succ, List.foldl_cons, foldl_app l n]
    simp [List.replicate_succ]
theorem flat_one (c : Nat) : ∀ n : Nat, (List.replicate n [c]).flatten = List.replicate n c
  | 0 => rfl
  | n + 1 => by rw [List.replicate_succ, List.flatten_cons, flat_one c n]; rfl
theorem mul_tx {x : Str} {c : Nat} (hx : x = tx [c]) (n : Int) : Txt.mul x n = tx (List.replicate n.toNat c) := by
  subst hx
  unfold Txt.mul
  split
  · rw [show n.toNat = 0 by omega]; rfl
  · split
    · next h1 h2 =>
      have e : n = 1 := by
        simp only [Bool.or_eq_true, beq_iff_eq] at h2
        rcases h2 with h2 | h2
        · exact h2
        · cases h2
      subst e; rfl
    · have e := foldl_app [c] n.toNat #[]
      rw [flat_one] at e
      simp only [List.nil_append] at e
      show (⟨_⟩ : Str) = ⟨_⟩
      congr 1
      rw [← e]
theorem app_tx (a b : List Nat) : (tx a ++ tx b : Str) = tx (a ++ b) := by
  show (⟨a.toArray ++ b.toArray⟩ : Str) = _
  rw [List.append_toArray]
theorem glue_fold : ∀ (r : List Str) (a : Array Nat), (r.foldl (fun acc p => acc ++ (Str.ofString "").cps ++ p.cps) a).toList = a.toList ++ (r.map fun p => p.cps.toList).flatten
  | [], a => by simp
  | p :: r, a => by
    rw [List.foldl_cons, glue_fold r]
    have e : (Str.ofString "").cps = #[] := by rfl
    simp [e]
theorem join_tx {α : Type} (l : List α) (f : α → List Nat) : Txt.join (Str.ofString "") (l.map fun a => tx (f a)) = tx (l.map f).flatten := by
  show (⟨_⟩ : Str) = ⟨_⟩
  congr 1
  apply Array.ext'
  rw [glue_fold]
  cases l with
  | nil => rfl
  | cons x r => simp [Function.comp_def]
theorem tx_len (l : List Nat) : (tx l).length = l.length := by
  show l.toArray.size = _
  rw [List.size_toArray]
section
variable {prog : Program} {w : World} {A : Around} {E : Value → Shared → Prop} {s : Shared} {x y : Str} {t u : Tok} {Q : Value → Shared → Prop}
theorem addT {a b : List Nat} (hx : x = tx a) (hy : y = tx b) (hl : a.length + b.length ≤ 1000000) (h : ∀ t' k, Q (.str (tx (a ++ b)) t') { s with toks := k }) : wpAny (model prog w) A (binaryOp .Add (.str x t) (.str y u)) Q E s := by
  subst hx hy
  refine KXadd.add (K := a.length) (L := b.length) (Nat.le_of_eq (tx_len a)) (Nat.le_of_eq (tx_len b)) (by omega) fun t' k _ => ?_
  rw [app_tx]
  exact h t' k
theorem mulT {c : Nat} {n : Int} (hx : x = tx [c]) (h0 : -100000 ≤ n) (h1 : n ≤ 100000) (h : ∀ t' k, Q (.str (tx (List.replicate n.toNat c)) t') { s with toks := k }) : wpAny (model prog w) A (binaryOp .Mult (.str x t) (.int n u)) Q E s := by
  refine SB.mul (mulOk_of 16 1048576 (by rw [hx, tx_len]; show 1 ≤ 16; omega) (by omega) (by omega) (by decide) (by decide)) fun t' k => ?_
  rw [mul_tx hx]
  exact h t' k
theorem joinT {α : Type} {D : Addr} {ys : List Value} {l : List α} {f : α → List Nat} (hl : s.heap.IsList D ys.toArray) (hc : CarriedAll ys (l.map fun a => PyData.str (tx (f a)))) (hB : ∀ a ∈ l, (f a).length ≤ 15) (hn : l.length ≤ 100000)
    (h : ∀ t' k, Q (.str (tx (l.map f).flatten) t') { s with toks := k }) : wpAny (model prog w) A (call (.builtin "str.join") [.str (Str.ofString "") t, .ref D]) Q E s := by
  refine KT.join_B (g := fun a => tx (f a)) 15 hl hc (fun a ha => by rw [tx_len]; exact hB a ha) (by omega) (by decide) fun t' k => ?_
  rw [join_tx]
  exact h t' k
end
end Mine
-- RowsQ
set_option maxHeartbeats 4000000
namespace Mine
theorem pick_from (items : Array Value) {x : Int} (h : 0 ≤ x) : slicePick items (some x) none none = (items.toList.drop x.toNat).toArray := by
  have e : sliceBounds (some x) none none items.size = (((min x.toNat items.size : Nat) : Int), ((items.size : Nat) : Int), 1) := by
    simp only [sliceBounds, Option.getD_none, show (1 : Int) > 0 by decide, if_true, if_neg (show ¬ (x < 0) by omega)]
    congr 1
    omega
  rw [kmk_pick_nat _ e, ← Array.length_toList, kmk_drop_min, List.take_of_length_le]
  rw [List.length_drop]; omega
theorem slice_tmp {prog : Program} {w : World} {A : Around} {E : Value → Shared → Prop} {s : Shared} {h₀ : Heap} {L : Addr} {m : Str → Option Value} {news : List (Addr × Obj)} {value slice : Expr} {l : Addr} {items : Array Value} {vl vu : Value} {lo hi : Option Int} {Q : Value → Shared → Prop}
    (F : Fr h₀ L s.heap m) (N : News h₀ L s.heap news) (hl : s.heap.IsList l items) (pl : IsPart vl lo) (pu : IsPart vu hi)
    (h : ∀ D h', Fr h₀ L h' m → News h₀ L h' ((D, PySem.W.listOf (slicePick items lo hi none) 0) :: news) → Q (.ref D) { s with heap := h' })
    (hs : subscripted slice false (.ref l) (.ref s.heap.objs.size) = operate [.ref s.heap.objs.size, .ref l] (getItem (.ref l) (.ref s.heap.objs.size))) (hsz : items.size ≤ sizeLine) :
    wpAny (model prog w) A (subscriptTail value slice (.ref l) (.ref s.heap.objs.size)) Q E { s with heap := s.heap.push { cls := .type "slice", data := .fields #[vl, vu, .none] } } := by
  refine tail_any (Heap.IsList.typeIs (s := { s with heap := s.heap.push { cls := .type "slice", data := .fields #[vl, vu, .none] } }) (hl.push _)) list_getitem_lookup
    (wpAny_getItem_list_slice (hl.push _) (Heap.IsSliceOf.new ..) pl pu .none (by simp) ?_ hsz) hs
  have N1 := News.push (F.push { cls := .type "slice", data := .fields #[vl, vu, .none] }) (N.grown fun _ _ e => Heap.get?_push_of_some _ e) { cls := .type "list", data := .seq (slicePick items lo hi none) }
  exact h _ _ ((F.push _).push _) N1
theorem rep1_row : ∀ (v : Nat) (r r' : List Nat), RepR [46, 13, 10] [9] r r' → RepR [46, 13, 10] [9] (List.replicate (v + 1) 46 ++ [13, 10] ++ r) (List.replicate v 46 ++ [9] ++ r')
  | 0, r, r', h => RepR.hit (y := [46, 13, 10]) (z := [9]) h
  | v + 1, r, r', h => by
    have h1 := rep1_row v r r' h
    refine RepR.skip ?_ h1
    rintro ⟨t, ht⟩
    have := (List.cons.inj (List.cons.inj ht).2).1
    cases this
theorem rep1 : ∀ V : List Int, RepR [46, 13, 10] [9] (V.map fun v => List.replicate (v.toNat + 1) 46 ++ [13, 10]).flatten (V.map fun v => List.replicate v.toNat 46 ++ [9]).flatten
  | [] => .nil
  | v :: V => by
    rw [List.map_cons, List.map_cons, List.flatten_cons, List.flatten_cons]
    exact rep1_row _ _ _ (rep1 V)
theorem rep2_row : ∀ (v : Nat) (r r' : List Nat), RepR [46] [32] r r' → RepR [46] [32] (List.replicate v 46 ++ [9] ++ r) (List.replicate v 32 ++ [9] ++ r')
  | 0, r, r', h => RepR.skip (by rintro ⟨t, ht⟩; have := (List.cons.inj ht).1; cases this) h
  | v + 1, r, r', h => RepR.hit (y := [46]) (z := [32]) (rep2_row v r r' h)
theorem rep2 : ∀ V : List Int, RepR [46] [32] (V.map fun v => List.replicate v.toNat 46 ++ [9]).flatten (V.map fun v => List.replicate v.toNat 32 ++ [9]).flatten
  | [] => .nil
  | v :: V => by
    rw [List.map_cons, List.map_cons, List.flatten_cons, List.flatten_cons]
    exact rep2_row _ _ _ (rep2 V)
theorem no_pre {n c : Nat} (hc : c ≠ 46) : ∀ (j : Nat) (r : List Nat), j < n → ¬ List.replicate n 46 <+: (List.replicate j 46 ++ c :: r)
  | 0, r, h => by
    rintro ⟨t, ht⟩
    cases n with
    | zero => omega
    | succ n => rw [List.replicate_succ] at ht; exact hc (List.cons.inj ht).1.symm
  | j + 1, r, h => by
    rintro ⟨t, ht⟩
    cases n with
    | zero => omega
    | succ n =>
      rw [List.replicate_succ, List.replicate_succ] at ht
      exact no_pre hc j r (by omega) ⟨t, (List.cons.inj ht).2⟩
theorem rep3_keep {n : Nat} (hn : 1 ≤ n) {r r' : List Nat} (h : RepR (List.replicate n 46) [46] r r') : ∀ j : Nat, j < n → RepR (List.replicate n 46) [46] (List.replicate j 46 ++ 13 :: 10 :: r) (List.replicate j 46 ++ 13 :: 10 :: r')
  | 0, _ => by
    exact .skip (no_pre (n := n) (c := 13) (by decide) 0 (10 :: r) hn) (.skip (no_pre (n := n) (c := 10) (by decide) 0 r hn) h)
  | j + 1, hj => by
    have h1 := rep3_keep hn h j (by omega)
    exact .skip (no_pre (n := n) (c := 13) (by decide) (j + 1) (10 :: r) hj) h1
/-- a row with one dot more, in a circle of n -/
theorem rep3_row {n : Nat} (hn : 1 ≤ n) {r r' : List Nat} (h : RepR (List.replicate (n + 1) 46) [46] r r') (v : Nat) (hv : v < n) :
    RepR (List.replicate (n + 1) 46) [46] (List.replicate (v + 2) 46 ++ [13, 10] ++ r) (List.replicate ((v + 1) % n + 1) 46 ++ [13, 10] ++ r') := by
  by_cases e : v + 1 = n
  · rw [e, Nat.mod_self, show v + 2 = n + 1 by omega, List.append_assoc, List.append_assoc]
    have h1 := RepR.hit (rep3_keep (n := n + 1) (by omega) h 0 (by omega))
    exact h1
  · rw [Nat.mod_eq_of_lt (by omega), List.append_assoc, List.append_assoc]
    exact rep3_keep (by omega) h (v + 2) (by omega)
theorem rep3 {n : Nat} (hn : 1 ≤ n) : ∀ V : List Nat, (∀ v ∈ V, v < n) → RepR (List.replicate (n + 1) 46) [46] (V.map fun v => List.replicate (v + 2) 46 ++ [13, 10]).flatten (V.map fun v => List.replicate ((v + 1) % n + 1) 46 ++ [13, 10]).flatten
  | [], _ => .nil
  | v :: V, h => by
    rw [List.map_cons, List.map_cons, List.flatten_cons, List.flatten_cons]
    exact rep3_row hn (rep3 hn V fun u hu => h u (.tail _ hu)) v (h v (.head _))
theorem dot_run : ∀ (v : Nat) (r : List Nat), dotF false (List.replicate v 46 ++ 13 :: 10 :: r) = List.replicate v 46 ++ 13 :: 10 :: dotF true r
  | 0, r => by rfl
  | v + 1, r => by
    rw [List.replicate_succ, List.cons_append, dotF, if_neg (by simp), List.cons_append]
    rw [show ((46 : Nat) == 10) = false from rfl, dot_run v r]
theorem dot_rows : ∀ V : List Nat, dotF true (V.map fun v => List.replicate (v + 1) 46 ++ [13, 10]).flatten = (V.map fun v => List.replicate (v + 2) 46 ++ [13, 10]).flatten
  | [] => by rfl
  | v :: V => by
    rw [List.map_cons, List.map_cons, List.flatten_cons, List.flatten_cons, List.append_assoc, List.append_assoc]
    rw [List.replicate_succ, List.cons_append, dotF, if_pos ⟨rfl, rfl⟩]
    simp only [List.cons_append, List.nil_append]
    rw [dot_run, dot_rows V]
    rfl
theorem eol_dots : ∀ (v : Nat) (b : Bool) (r : List Nat), eolF b (List.replicate (v + 1) 46 ++ r) = List.replicate (v + 1) 46 ++ eolF false r
  | 0, b, r => by
    show eolF b (46 :: r) = 46 :: eolF false r
    rw [eolF, if_neg (by decide), if_neg (by decide)]
  | v + 1, b, r => by
    rw [List.replicate_succ, List.cons_append, eolF, if_neg (by decide), if_neg (by decide), eol_dots v false r, List.cons_append]
def isEnd (e : List Nat) : Prop := e = [10] ∨ e = [13] ∨ e = [13, 10]
theorem eol_rows {α : Type} (f : α → Nat) (e : α → List Nat) : ∀ (V : List α), (∀ a ∈ V, isEnd (e a)) → ∀ b, eolF b (V.map fun a => List.replicate (f a + 1) 46 ++ e a).flatten = (V.map fun a => List.replicate (f a + 1) 46 ++ [13, 10]).flatten
  | [], _, b => by rfl
  | a :: V, h, b => by
    have ih := eol_rows f e V fun u hu => h u (.tail _ hu)
    rw [List.map_cons, List.map_cons, List.flatten_cons, List.flatten_cons, List.append_assoc, List.append_assoc, eol_dots]
    congr 1
    rcases h a (.head _) with e1 | e1 | e1 <;> rw [e1] <;> simp only [List.cons_append, List.nil_append]
    · rw [eolF, if_pos rfl, if_neg (by decide), ih]
    · rw [eolF, if_neg (by decide), if_pos rfl, ih]
    · rw [eolF, if_neg (by decide), if_pos rfl, eolF, if_pos rfl, if_pos rfl, ih]
abbrev rowT (v : Nat) : List Nat := List.replicate v 32 ++ [9]
def rowsT (V : List Nat) : List Nat := (V.map rowT).flatten
theorem ws_run (cs : List Int) (nt : Nat) : ∀ (v b : Nat), (List.replicate v 32).foldl wsStep (cs, b, nt) = (cs, b + v, nt)
  | 0, b => rfl
  | v + 1, b => by
    rw [List.replicate_succ, List.foldl_cons]
    show (List.replicate v 32).foldl wsStep (cs, b + 1, nt) = _
    rw [ws_run cs nt v, show b + 1 + v = b + (v + 1) by omega]
theorem ws_rows : ∀ (V : List Nat) (cs : List Int) (nt : Nat), (rowsT V).foldl wsStep (cs, 0, nt) = (V.foldl wsBump cs, 0, nt + V.length)
  | [], cs, nt => rfl
  | v :: V, cs, nt => by
    unfold rowsT
    rw [List.map_cons, List.flatten_cons, List.foldl_append, List.foldl_append, ws_run, Nat.zero_add]
    show (rowsT V).foldl wsStep (wsBump cs v, 0, nt + 1) = _
    rw [ws_rows V, List.foldl_cons, List.length_cons, show nt + 1 + V.length = nt + (V.length + 1) by omega]
theorem wsF_rows (V : List Nat) : wsF (rowsT V) = (V.foldl wsBump [], 0, V.length) := by
  unfold wsF; rw [ws_rows, Nat.zero_add]
end Mine
-- Fc
set_option maxHeartbeats 4000000
namespace Mine
/-- neither an iterator's nor a cell's object -/
def plainO (o : Obj) : Bool := match o.data with | .fields _ => false | .cell _ => false | _ => true
def nonCell (o : Obj) : Bool := match o.data with | .cell _ => false | _ => true
theorem plain_non {o : Obj} (h : plainO o = true) : nonCell o = true := by
  unfold plainO at h
  unfold nonCell
  split
  · next e => rw [e] at h; cases h
  · rfl
def CEnd {σ : Type} (h₀ : Heap) (L : Addr) (s : Shared) (base : σ → List (Addr × Obj)) (ps : σ → List (Str × Value)) (stored : List Str) (m₀ : Str → Option Value) (keep : List (Addr × Obj)) (Inv : σ → Prop) (s₂ : Shared) : Prop :=
  ∃ (c' : σ) (h' : Heap) (tk : Nat) (m' : Str → Option Value) (news' : List (Addr × Obj)), s₂ = { s with heap := h', toks := tk } ∧ Fr h₀ L h' m' ∧ News h₀ L h' news' ∧ (∀ p ∈ base c', p ∈ news') ∧ (∀ p ∈ keep, p ∈ news') ∧
    (∀ p ∈ ps c', m' p.1 = some p.2) ∧ (∀ z, (∀ p ∈ ps c', z ≠ p.1) → stored.contains z = false → m' z = m₀ z) ∧ Inv c'
theorem kst_fr2 {h₀ h : Heap} {L : Addr} {m m₀ : Str → Option Value} {stored : List Str} {ps : List (Str × Value)} (h1 : ∀ p ∈ ps, m p.1 = some p.2) (h2 : ∀ z, (∀ p ∈ ps, z ≠ p.1) → stored.contains z = false → m z = m₀ z) (F : Fr h₀ L h m) : Fr h₀ L h (kstB (fun z => if stored.contains z then m z else m₀ z) ps) := by
  have e : kstB (fun z => if stored.contains z then m z else m₀ z) ps = m := by
    funext z
    refine kstB_eq h1 fun hz => ?_
    cases hb : stored.contains z with
    | true => simp
    | false => simp [h2 z hz hb]
  rw [e]; exact F
section
variable {prog : Program} {w : World} {A : Around} {s : Shared} {h₀ : Heap} {L fa : Addr} {cd : Value} {body : List Stmt} {name : Str} {scope : Scope} {x : Str} {cc : Addr}
/-- a for whose name is the frame's one cell, over a list that stood before the frame -/
theorem forLoop_cell {σ : Type} {R : Result → Shared → Prop} {px : Pos} {I l : Addr} {vs : List Value} {m₀ : Str → Option Value} {oc : Obj} (base : σ → List (Addr × Obj)) (ps : σ → List (Str × Value)) (stored : List Str) (Inv : Nat → σ → Prop) (c₀ : σ) (hh : A.handled = none)
    (hc : (cellsFrom (L + 1) scope.names []).lookup x = some cc) (hk : scope.kind = .function) (hkx : (envOfC name scope L fa cd).kindOf x = some .cell)
    (hst : s.heap.IsListIter I l 0 ∧ s.heap.IsList l vs.toArray) (hl₀ : h₀.IsList l vs.toArray) (hI : h₀.get? I = none) (hIL : I ≠ L) (hIc : cc ≠ I) (hIl : l ≠ I)
    (F : Fr h₀ L s.heap m₀) (N : News h₀ L s.heap (base c₀ ++ [(cc, oc)])) (hd : ∃ v, oc.data = .cell v) (hps : ∀ p ∈ ps c₀, m₀ p.1 = some p.2) (h0 : Inv 0 c₀) (hnb : ∀ i c, Inv i c → (base c).all (fun p => plainO p.2) = true)
    (turn : ∀ i v c (u : Str → Option Value) h tk oI oc, vs[i]? = some v → Inv i c → nonCell oI = true → oc.data = .cell (some v) → Fr h₀ L h (kstB (fun z => if stored.contains z then u z else m₀ z) (ps c)) → News h₀ L h ((I, oI) :: (base c ++ [(cc, oc)])) →
      wpAny (model prog w) A (execs body (envOfC name scope L fa cd)) (fun f s₂ => f = .next ∧ CEnd h₀ L { s with heap := h, toks := tk } base ps stored m₀ [(I, oI), (cc, oc)] (Inv (i + 1)) s₂) (notedBy (model prog w) A (envOfC name scope L fa cd) fun e s' => R (.error e) s') { s with heap := h, toks := tk })
    (done : ∀ c (u : Str → Option Value) h tk oc, Inv vs.length c → Fr h₀ L h (kstB (fun z => if stored.contains z then u z else m₀ z) (ps c)) → News h₀ L h (base c ++ [(cc, oc)]) → R (.ok .next) { s with heap := h, toks := tk }) :
    codeAny (model prog w) A (.forLoop (.Name x px) (.ref I) body [] (envOfC name scope L fa cd)) R s := by
  have W := Walks.list (prog := prog) (w := w) hh I l hIl vs.toArray
  rw [List.size_toArray] at W
  refine codeAny_forLoop
    (fun k s' => ∃ (i : Nat) (c : σ) (h' : Heap) (tk : Nat) (m' : Str → Option Value) (oc : Obj), s' = { s with heap := h', toks := tk } ∧ (h'.IsListIter I l i ∧ h'.IsList l vs.toArray) ∧ Fr h₀ L h' m' ∧ News h₀ L h' (base c ++ [(cc, oc)]) ∧ (∃ v, oc.data = .cell v) ∧
      (∀ p ∈ ps c, m' p.1 = some p.2) ∧ (∀ z, (∀ p ∈ ps c, z ≠ p.1) → stored.contains z = false → m' z = m₀ z) ∧ Inv i c ∧ i ≤ vs.length ∧ k = vs.length + 1 - i) ?_ (vs.length + 1)
    ⟨0, c₀, s.heap, s.toks, m₀, oc, rfl, hst, F, N, hd, hps, fun _ _ _ => rfl, h0, Nat.zero_le _, rfl⟩
  rintro k s' ⟨i, c, h', tk, m', oc, rfl, hst', F', N', ⟨v0, hd'⟩, hk', hr', hJ, hi, rfl⟩
  have hplain := fun p hp => List.all_eq_true.mp (hnb i c hJ) p hp
  have hne : ∀ p ∈ base c ++ [(cc, oc)], p.1 ≠ I := by
    intro p hp e
    rcases List.mem_append.mp hp with hp | hp
    · have e1 := (N' p (List.mem_append_left _ hp)).1
      obtain ⟨o, ho, _, hdt⟩ := hst'.1
      rw [e, ho] at e1
      have e3 := hplain p hp
      unfold plainO at e3
      rw [← Option.some.inj e1, hdt] at e3
      cases e3
    · rw [List.mem_singleton.mp hp] at e; exact hIc e
  have next : ∀ h₁ : Heap, (∀ b o, b ∉ [I] → h'.get? b = some o → h₁.get? b = some o) → Fr h₀ L h₁ m' ∧ News h₀ L h₁ (base c ++ [(cc, oc)]) := fun h₁ hk₁ =>
    ⟨⟨F'.ns.at' fun o e => hk₁ _ o (fun hm => hIL (List.mem_singleton.mp hm).symm) e, fun b o e => hk₁ b o (fun hm => by rw [List.mem_singleton.mp hm, hI] at e; cases e) (F'.keep b o e), F'.above⟩,
      fun p hp => ⟨hk₁ _ _ (fun hm => hne p hp (List.mem_singleton.mp hm)) (N' p hp).1, (N' p hp).2⟩⟩
  by_cases hlt : i < vs.length
  · refine W.item i _ _ _ hlt hst' fun v h₁ tk₁ hP hst₁ hk₁ => ?_
    obtain ⟨F₁, N₁⟩ := next h₁ hk₁
    obtain ⟨oI, hoI, hcI, hdI⟩ := hst₁.1
    have hoIn : nonCell oI = true := by unfold nonCell; rw [hdI]
    have N2 : News h₀ L h₁ (((I, oI) :: base c) ++ [(cc, oc)]) := fun p hp => by
      rcases List.mem_cons.mp hp with e | hp
      · rw [e]; exact ⟨hoI, hIL, hI⟩
      · exact N₁ p hp
    have off : ∀ p ∈ (I, oI) :: base c, p.1 ≠ cc := by
      intro p hp e
      have e1 := (N2 p (List.mem_append_left _ hp)).1
      have e2 := (N2 (cc, oc) (List.mem_append_right _ (.head _))).1
      rw [e] at e1
      have e4 : p.2 = oc := Option.some.inj (e1.symm.trans e2)
      have e3 : nonCell p.2 = true := by
        rcases List.mem_cons.mp hp with q | hp
        · rw [q]; exact hoIn
        · exact plain_non (hplain p hp)
      unfold nonCell at e3
      rw [e4, hd'] at e3
      cases e3
    refine wpAny_assign_Name (stCN (own := (I, oI) :: base c) (rest := []) F₁ N2 hc hd' off (fun p hp => nomatch hp) (fun h₂ oc' F₂ N₂ d₂ => ?_) hk hkx)
    refine wpAny_mono (turn i v c m' h₂ _ oI oc' (by simpa using hP) hJ hoIn d₂ (kst_fr2 hk' hr' F₂) N₂) (fun f s₃ h₃ => ?_) fun _ _ e => e
    obtain ⟨rfl, c', h', tk', m2, news', rfl, F₃, N₃, hb₃, hkeep, hk₃, hr₃, hJ₃⟩ := h₃
    have hI3 := (N₃ _ (hkeep _ (.head _))).1
    exact ⟨vs.length + 1 - (i + 1), by omega, i + 1, c', h', tk', m2, oc', rfl, ⟨⟨oI, hI3, hcI, hdI⟩, hl₀.at fun o e => F₃.keep _ o e⟩, F₃, fun p hp => N₃ p ((List.mem_append.mp hp).elim (hb₃ p) fun h => hkeep p (.tail _ h)), ⟨_, d₂⟩, hk₃, hr₃, hJ₃, hlt, rfl⟩
  · have hin : i = vs.length := by omega
    subst hin
    refine W.done _ _ _ hst' fun h₁ tk₁ hk₁ => wpAny_execs_nil ?_
    obtain ⟨F₁, N₁⟩ := next h₁ hk₁
    exact done c m' h₁ tk₁ oc hJ (kst_fr2 hk' hr' F₁) N₁
/-- the same at its statement -/
theorem For_cell {σ : Type} {E : Value → Shared → Prop} {Q : Flow → Shared → Prop} {px fpos : Pos} {iter : Expr} {l : Addr} {vs : List Value} {m₀ : Str → Option Value} {oc : Obj} (base : σ → List (Addr × Obj)) (ps : σ → List (Str × Value)) (stored : List Str) (Inv : Nat → σ → Prop) (c₀ : σ) (hh : A.handled = none)
    (hc : (cellsFrom (L + 1) scope.names []).lookup x = some cc) (hk : scope.kind = .function) (hkx : (envOfC name scope L fa cd).kindOf x = some .cell)
    (hl₀ : h₀.IsList l vs.toArray) (F : Fr h₀ L s.heap m₀) (N : News h₀ L s.heap (base c₀ ++ [(cc, oc)])) (hd : ∃ v, oc.data = .cell v) (hps : ∀ p ∈ ps c₀, m₀ p.1 = some p.2) (h0 : Inv 0 c₀) (hnb : ∀ i c, Inv i c → (base c).all (fun p => plainO p.2) = true)
    (hit : ∀ (P : Value → Shared → Prop), P (.ref l) s → wpAny (model prog w) A (eval iter (envOfC name scope L fa cd)) P E s)
    (turn : ∀ i v c (u : Str → Option Value) h tk I oI oc, vs[i]? = some v → Inv i c → nonCell oI = true → oc.data = .cell (some v) → Fr h₀ L h (kstB (fun z => if stored.contains z then u z else m₀ z) (ps c)) → News h₀ L h ((I, oI) :: (base c ++ [(cc, oc)])) →
      wpAny (model prog w) A (execs body (envOfC name scope L fa cd)) (fun f s₂ => f = .next ∧ CEnd h₀ L { s with heap := h, toks := tk } base ps stored m₀ [(I, oI), (cc, oc)] (Inv (i + 1)) s₂) E { s with heap := h, toks := tk })
    (done : ∀ c (u : Str → Option Value) h tk oc, Inv vs.length c → Fr h₀ L h (kstB (fun z => if stored.contains z then u z else m₀ z) (ps c)) → News h₀ L h (base c ++ [(cc, oc)]) → Q .next { s with heap := h, toks := tk })
    (hE : PassesOwn (model prog w) A (envOfC name scope L fa cd) E := by passes_own) (hs : ∀ x, foldedSetIterable iter (envOfC name scope L fa cd) x = pure x := by intro _; rfl) :
    wpAny (model prog w) A (exec (.For (.Name x px) iter body [] fpos) (envOfC name scope L fa cd)) Q E s := by
  refine wpAny_For (hit _ ?_) hs
  have hls : s.heap.IsList l vs.toArray := hl₀.at fun o e => F.keep l o e
  have hlt : l < s.heap.objs.size := by obtain ⟨_, e, _⟩ := hls; exact Heap.lt_size e
  refine wpAny_pyIter_list hls ?_
  refine forLoop_cell (s := { s with heap := s.heap.push _ }) base ps stored Inv c₀ hh hc hk hkx ⟨⟨_, Heap.get?_push_size _ rfl, rfl, rfl⟩, hls.push _⟩ hl₀ (next_is_new F) (Nat.ne_of_gt F.ns.lt) (Nat.ne_of_lt (Heap.lt_size (N _ (List.mem_append_right _ (.head _))).1)) (Nat.ne_of_lt hlt)
    (F.push _) (fun p hp => ⟨Heap.get?_push_of_some _ (N p hp).1, (N p hp).2⟩) hd hps h0 hnb ?_ done
  intro i v c u h tk oI oc hv hJ hoI hd' F' N'
  exact wpAny_passesOwn hE (turn i v c u h tk _ oI oc hv hJ hoI hd' F' N')
end
section
variable {prog : Program} {w : World} {A : Around} {s : Shared} {K : Frag}
/-- a def with cells of its own entered -/
theorem call_cells {R : Result → Shared → Prop} {name qual : Str} {params : Arguments} {body : List Stmt} {scope : Scope} {dV kV doc pm cdv ct oc : Value} {an od : Option Addr} {osl : Array (Option Value)} {f : Addr} {args : Args} {binds : List (Str × Value)}
    (X : K.In s.heap) (ho : K.lookup f = some ⟨oc, od, .func (fnOf name qual params body scope dV kV doc pm an cdv ct), osl⟩) (hcd : codeIn K cdv qual = true) (hlim : s.heap.NoLimit) (hroom : A.depth < recursionLimit)
    (hbind : BindsTo s (fnOf name qual params body scope dV kV doc pm an cdv ct) args binds)
    (hkind : ∀ n, ∀ x ∈ binds, scope.names.lookup x.1 = some .local ∨ (scope.names.lookup x.1 = some .cell ∧ ((cellsFrom n scope.names []).lookup x.1).isSome = true))
    (hnd : ((cellsFrom 0 scope.names []).map (·.1)).Nodup)
    (h : ∀ h₁ tk cells, Fr s.heap s.heap.objs.size h₁ (bindL (envOfC qual scope s.heap.objs.size f cdv).kindOf binds fun _ => none) → News s.heap s.heap.objs.size h₁ cells →
      CellsAre (bindC (envOfC qual scope s.heap.objs.size f cdv).kindOf binds fun _ => none) (cellsFrom (s.heap.objs.size + 1) scope.names []) cells →
      wpAny (model prog w) (A.deeper (envOfC qual scope s.heap.objs.size f cdv)) (execs body (envOfC qual scope s.heap.objs.size f cdv))
        (fun fl s' => R (.ok (.ret (match fl with | .ret v => v | _ => .none))) s') (fun _ _ => False) { s with heap := h₁, toks := tk })
    (hco : scope.isCoroutine = false := by rfl) (hgen : scope.isGenerator = false := by rfl) (hk : scope.kind = .function := by rfl) : codeAny (model prog w) A (.call (.ref f) args) R s := by
  refine codeAny_call_function hroom (X _ _ ho) rfl hco hgen rfl (codeRec_of X hcd) (hbind _ _ _ _ ?_)
  refine wpAny_newFunctionEnv_cells hk (hkind _) fun env' he s' x => ?_
  subst he
  refine ⟨hlim.keeps x.toInCall.keep, codeAny_func ?_⟩
  obtain ⟨h₁, tk, rfl, _⟩ := x.done
  have hk₁ := x.toInCall.keep
  obtain ⟨cells, NC, Y⟩ := Cl.news (h₀ := s.heap) (Nat.le_refl _) fun n c hm => ⟨x.cell n c (lookup_of_mem_nodup (cellsFrom_names scope.names 0 (s.heap.objs.size + 1) [] [] rfl ▸ hnd) hm), x.above n c hm⟩
  exact wpAny_mono (h h₁ tk cells ⟨x.toInCall.ns, hk₁, Nat.le_refl _⟩ (fun p hp => NC p hp) Y) (fun _ _ y => y) fun _ _ y => y.elim
end
theorem add_D {prog : Program} {w : World} {A : Around} {E : Value → Shared → Prop} {s : Shared} {h₀ : Heap} {L : Addr} {m : Str → Option Value} {news : List (Addr × Obj)} {l b : Addr} {vs ws : List Value} {Q : Value → Shared → Prop} (F : Fr h₀ L s.heap m) (N : News h₀ L s.heap news) (hl : s.heap.IsList l vs.toArray) (hb : s.heap.IsList b ws.toArray)
    (hsz : vs.length + ws.length ≤ sizeLine) (h : ∀ D h', Fr h₀ L h' m → News h₀ L h' ((D, PySem.W.listOf (vs ++ ws).toArray 0) :: news) → (∀ p ∈ news, p.1 < D) → Q (.ref D) { s with heap := h' }) :
    wpAny (model prog w) A (binaryOp .Add (.ref l) (.ref b)) Q E s :=
  PyProof.Rows.add_lists (hsz := hsz) F N hl hb fun h' F' N' => h _ h' F' N' fun p hp => Heap.lt_size (N p hp).1
theorem off1_of {D : Addr} : ∀ {l : List (Addr × Obj)}, (∀ p ∈ l, p.1 ≠ D) → LCg.Off1 D l
  | [], _ => trivial
  | _ :: _, h => ⟨h _ (.head _), off1_of fun p hp => h p (.tail _ hp)⟩
theorem off1_mem {D : Addr} {l : List (Addr × Obj)} (h : LCg.Off1 D l) : ∀ p ∈ l, p.1 ≠ D := by
  induction l with
  | nil => intro p hp; cases hp
  | cons q r ih =>
    intro p hp
    rcases List.mem_cons.mp hp with e | hp
    · rw [e]; exact h.1
    · exact ih h.2 p hp
end Mine
-- Comp2
set_option maxHeartbeats 4000000
namespace Mine
open LCg
abbrev two (elt t1 i1 t2 i2 test : Expr) (scope : Scope) (pos : Pos) : Expr := .ListComp elt [⟨t1, i1, [], 0⟩, ⟨t2, i2, [test], 0⟩] scope pos
theorem compTurn_two0 (elt t1 i1 t2 i2 test : Expr) (scope : Scope) (pos : Pos) (it acc : Value) (env : Env) :
    compTurn (two elt t1 i1 t2 i2 test scope pos) 0 it acc env = (do
      standAt i1.pos
      match ← pyNext it with
      | none => pure (.done .next)
      | some v =>
        letOwnedTupleGo t1 it v
        assign t1 env v
        let x ← eval i2 env
        standAt i2.pos
        let x ← foldedSetIterable i2 env x
        let _ ← runOwn (.compStart (two elt t1 i1 t2 i2 test scope pos) 1 (← holding [x] (pyIter x)) acc env) env
        again (.compLoop (two elt t1 i1 t2 i2 test scope pos) 0 it acc env)) := by rfl
theorem compTurn_two1 (elt t1 i1 t2 i2 test : Expr) (scope : Scope) (pos : Pos) (it acc : Value) (env : Env) :
    compTurn (two elt t1 i1 t2 i2 test scope pos) 1 it acc env = (do
      standAt i2.pos
      match ← pyNext it with
      | none => pure (.done .next)
      | some v =>
        letOwnedTupleGo t2 it v
        assign t2 env v
        let mut ok := true
        for c in [test] do
          if ok then ok ← isTrue c env (eval c env)
        if ok then
          (do let _ ← call (.builtin "list.append") [acc, ← eval elt env])
        again (.compLoop (two elt t1 i1 t2 i2 test scope pos) 1 it acc env)) := by rfl
section
variable {prog : Program} {w : World} {A : Around} {s : Shared} {R : Result → Shared → Prop} {elt t1 i1 t2 i2 test : Expr} {scope : Scope} {pos : Pos} {it acc : Value} {env : Env}
theorem loop_two1 (I : Nat → Shared → Prop)
    (turn : ∀ n s, I n s → wpAny (model prog w) A (pyNext it) (fun r s₁ => match r with
      | none => R (.ok .next) s₁
      | some v => wpAny (model prog w) A (assign t2 env v) (fun _ s₂ =>
          wpAny (model prog w) A (isTrue test env (eval test env)) (fun ok s₃ =>
            if ok = true then wpAny (model prog w) A (eval elt env) (fun x s₄ =>
              wpAny (model prog w) A (call (.builtin "list.append") [acc, x]) (fun _ s₅ => ∃ m, m < n ∧ I m s₅) (notedBy (model prog w) A env fun e s' => R (.error e) s') s₄) (notedBy (model prog w) A env fun e s' => R (.error e) s') s₃
            else ∃ m, m < n ∧ I m s₃) (notedBy (model prog w) A env fun e s' => R (.error e) s') s₂) (notedBy (model prog w) A env fun e s' => R (.error e) s') s₁) (notedBy (model prog w) A env fun e s' => R (.error e) s') s)
    (n : Nat) (h : I n s) (ht : ∀ v, letOwnedTupleGo t2 it v = pure () := by intro _; rfl) :
    codeAny (model prog w) A (.compLoop (two elt t1 i1 t2 i2 test scope pos) 1 it acc env) R s := by
  refine codeAny_loop rfl I (fun n s hI => ?_) n h
  show wpAny _ A ((compTurn (two elt t1 i1 t2 i2 test scope pos) 1 it acc env).onRaise (fun x => do noteFrame x env; theTreesLotGoes x)) _ _ s
  refine wpAny_noted ?_
  rw [compTurn_two1]
  refine wpAny_bind (wpAny_standAt (wpAny_bind (wpAny_mono (turn n s hI) (fun r s₁ h₁ => ?_) fun _ _ h' => h')))
  cases r with
  | none => exact wpAny_pure h₁
  | some v =>
    refine wpAny_bind (wpAny_of_eq (ht v) ?_)
    refine wpAny_bind (wpAny_mono h₁ (fun _ s₂ h₂ => wpAny_bind (wpAny_mono (wpAny_tests_one h₂) (fun ok s₃ h₃ => ?_) fun _ _ h' => h')) fun _ _ h' => h')
    cases ok with
    | false => exact wpAny_pure ⟨rfl, h₃⟩
    | true =>
      exact wpAny_bind (wpAny_bind (wpAny_mono h₃ (fun x s₄ h₄ => wpAny_bind (wpAny_mono h₄ (fun _ s₅ h₅ => wpAny_pure (wpAny_pure ⟨rfl, h₅⟩)) fun _ _ h' => h')) fun _ _ h' => h'))
theorem loop_two0 (I : Nat → Shared → Prop)
    (turn : ∀ n s, I n s → wpAny (model prog w) A (pyNext it) (fun r s₁ => match r with
      | none => R (.ok .next) s₁
      | some v => wpAny (model prog w) A (assign t1 env v) (fun _ s₂ =>
          wpAny (model prog w) A (eval i2 env) (fun x s₃ => wpAny (model prog w) A (pyIter x) (fun it2 s₄ =>
            codeAny (model prog w) A (.compStart (two elt t1 i1 t2 i2 test scope pos) 1 it2 acc env) (fun r s' => match r with
              | .ok _ => ∃ m, m < n ∧ I m s'
              | .error e => cameBackBy (model prog w) A env (notedBy (model prog w) A env fun e s' => R (.error e) s') e s') s₄) (notedBy (model prog w) A env fun e s' => R (.error e) s') s₃) (notedBy (model prog w) A env fun e s' => R (.error e) s') s₂)
          (notedBy (model prog w) A env fun e s' => R (.error e) s') s₁) (notedBy (model prog w) A env fun e s' => R (.error e) s') s)
    (n : Nat) (h : I n s) (ht : ∀ v, letOwnedTupleGo t1 it v = pure () := by intro _; rfl) (hs : ∀ x, foldedSetIterable i2 env x = pure x := by intro _; rfl) :
    codeAny (model prog w) A (.compLoop (two elt t1 i1 t2 i2 test scope pos) 0 it acc env) R s := by
  refine codeAny_loop rfl I (fun n s hI => ?_) n h
  show wpAny _ A ((compTurn (two elt t1 i1 t2 i2 test scope pos) 0 it acc env).onRaise (fun x => do noteFrame x env; theTreesLotGoes x)) _ _ s
  refine wpAny_noted ?_
  rw [compTurn_two0]
  refine wpAny_bind (wpAny_standAt (wpAny_bind (wpAny_mono (turn n s hI) (fun r s₁ h₁ => ?_) fun _ _ h' => h')))
  cases r with
  | none => exact wpAny_pure h₁
  | some v =>
    refine wpAny_bind (wpAny_of_eq (ht v) ?_)
    refine wpAny_bind (wpAny_mono h₁ (fun _ s₂ h₂ => wpAny_bind (wpAny_mono h₂ (fun x s₃ h₃ => wpAny_bind (wpAny_standAt (wpAny_bind (wpAny_of_eq (hs x) (wpAny_bind (wpAny_holding (wpAny_mono h₃ (fun it2 s₄ h₄ =>
      wpAny_bind (wpAny_mono (wpAny_runOwn (Q := fun _ s' => ∃ m, m < n ∧ I m s') (E := notedBy (model prog w) A env fun e s' => R (.error e) s') (codeAny_mono h₄ (fun r s' hr => ?_))) (fun _ s₅ h₅ => wpAny_pure ⟨rfl, h₅⟩) fun _ _ h' => h')) fun _ _ h' => h'))))))) fun _ _ h' => h')) fun _ _ h' => h')
    cases r <;> exact hr
theorem start_two1 (h0 : codeAny (model prog w) A (.compLoop (two elt t1 i1 t2 i2 test scope pos) 1 it acc env) R s)
    (h : wpAny (model prog w) A (pyIter it) (fun it' s' => codeAny (model prog w) A (.compLoop (two elt t1 i1 t2 i2 test scope pos) 1 it' acc env) R s') (notedBy (model prog w) A env fun x s' => R (.error x) s') s) :
    codeAny (model prog w) A (.compStart (two elt t1 i1 t2 i2 test scope pos) 1 it acc env) R s := by
  refine codeAny_of_tree ?_
  show wpAny _ _ ((compStart (two elt t1 i1 t2 i2 test scope pos) 1 it acc env).onRaise (fun x => do noteFrame x env; standAt theWindowsPlace)) _ _ s
  refine wpAny_notedAt ?_
  unfold compStart
  show wpAny _ _ (ask >>= _) _ _ s
  refine wpAny_bind (wpAny_askSetting (wpAny_ite ?_))
  split
  · first
      | exact wpAny_bind (wpAny_pure (wpAny_pure (And.intro rfl h0)))
      | exact wpAny_pure (And.intro rfl h0)
  · refine wpAny_bind (wpAny_rule ?_)
    show wpAny _ _ (standAt i2.pos >>= _) _ _ s
    exact wpAny_bind (wpAny_standAt (wpAny_bind (wpAny_mono h (fun it' s' h' => wpAny_pure (And.intro rfl h')) fun _ _ x => x)))
end
end Mine
-- Comp3
set_option maxHeartbeats 4000000
namespace Mine
open LCg
section
variable {prog : Program} {w : World} {A : Around} {E : Value → Shared → Prop} {s : Shared} {h₀ : Heap} {L : Addr} {m : Str → Option Value} {env : Env} {elt i1 i2 test : Expr} {x1 x2 : Str} {px1 px2 : Pos} {scope : Scope} {cl : List (Str × Addr)} {pos : Pos}
/-- the inner loop: over a range by ones from nought -/
theorem inner_two {I2 C D : Addr} {K B : Nat} {v1 : Value} {R : Result → Shared → Prop} {m₁ : Str → Option Value} {ys₀ : List Value} {news₀ : List (Addr × Obj)} (Inv : Nat → List Value → List (Addr × Obj) → Prop)
    (hh : A.handled = none) (hkind : scope.kind = .function) (hx2 : scope.names.lookup x2 = some .local) (hx12 : x1 ≠ x2) (hB : B ≤ sizeLine) (hlen : ∀ j ys nw, Inv j ys nw → ys.length ≤ B)
    (hst : IsRangeIter s.heap I2 (0 + ((0 : Nat) : Int) * 1) ((K : Int) - ((0 : Nat) : Int)) 1) (F : Fr h₀ L s.heap m) (N : News h₀ L s.heap ((D, lst ys₀) :: news₀)) (hn : s.heap.Ns C m₁) (hm1 : m₁ x1 = some v1) (off : Off3 I2 C D news₀)
    (hI₀ : h₀.get? I2 = none) (hC₀ : h₀.get? C = none) (hD₀ : h₀.get? D = none) (hIL : L ≠ I2) (hCL : C ≠ L) (hDL : D ≠ L) (hCI : I2 ≠ C) (hDI : I2 ≠ D) (hDC : D ≠ C) (h0 : Inv 0 ys₀ news₀)
    (turn : ∀ j t ys news oI oC m₂ h tk (E' : Value → Shared → Prop), j < K → Inv j ys news → NsObj oC m₂ → m₂ x1 = some v1 → m₂ x2 = some (.int (j : Nat) t) → Fr h₀ L h m → News h₀ L h ((I2, oI) :: (C, oC) :: (D, lst ys) :: news) → Off3 I2 C D news →
      ((@Ne Nat I2 C) ∧ (@Ne Nat I2 D) ∧ (@Ne Nat C D)) →
      wpAny (model prog w) A (isTrue test (compEnvC scope cl C env) (eval test (compEnvC scope cl C env))) (fun ok s₃ =>
        if ok = true then wpAny (model prog w) A (eval elt (compEnvC scope cl C env)) (CompEnd h₀ L m { s with heap := h, toks := tk } I2 oI C oC D (lst ys) (fun _ => True) (fun y nw => Inv (j + 1) (ys ++ [y]) nw)) E' s₃
        else CompEnd h₀ L m { s with heap := h, toks := tk } I2 oI C oC D (lst ys) (fun _ => True) (fun _ nw => Inv (j + 1) ys nw) .none s₃) E' { s with heap := h, toks := tk })
    (done : ∀ ys news h tk m', Inv K ys news → Fr h₀ L h m → News h₀ L h ((D, lst ys) :: news) → h.Ns C m' → Off3 I2 C D news → R (.ok .next) { s with heap := h, toks := tk }) :
    codeAny (model prog w) A (.compLoop (two elt (.Name x1 px1) i1 (.Name x2 px2) i2 test scope pos) 1 (.ref I2) (.ref D) (compEnvC scope cl C env)) R s := by
  have W := Walks.range (prog := prog) (w := w) hh I2 0 1 K
  refine loop_two1
    (fun k s' => ∃ h' tk i ys m' news', s' = { s with heap := h', toks := tk } ∧ i ≤ K ∧ k = K + 1 - i ∧ IsRangeIter h' I2 (0 + (i : Int) * 1) ((K : Int) - (i : Int)) 1 ∧ Fr h₀ L h' m ∧ h'.Ns C m' ∧ m' x1 = some v1 ∧ News h₀ L h' ((D, lst ys) :: news') ∧
      Off3 I2 C D news' ∧ Inv i ys news') ?_ (K + 1)
    ⟨s.heap, s.toks, 0, ys₀, m₁, news₀, rfl, Nat.zero_le _, rfl, hst, F, hn, hm1, N, off, h0⟩
  rintro k s' ⟨h', tk, i, ys, m', news', rfl, hi, rfl, hst', F', hn', hm', N', off', hJ⟩
  have off3 := off'.mem
  by_cases hlt : i < K
  · refine W.item i _ _ _ hlt hst' fun v h₂ tk₂ hPv hst₂ hk₂ => ?_
    obtain ⟨t, rfl⟩ := hPv
    refine wpAny_assign_Name (wpAny_storeName_local (lookup_relabel_local hx2) (hn'.at' fun o e => hk₂ _ o (by simpa using Ne.symm hCI) e) (fun h₃ hn₃ hs₃ => ?_) (by simp [compEnvC, relabel, hkind]))
    have hst₃ : IsRangeIter h₃ I2 (0 + ((i + 1 : Nat) : Int) * 1) ((K : Int) - ((i + 1 : Nat) : Int)) 1 := by
      have e : h₂.get? I2 = some _ := hst₂
      exact hs₃.extBut _ _ (show I2 ≠ C from hCI) e
    have heI : h₃.get? I2 = some _ := hst₃
    obtain ⟨oC, heC, hoC⟩ := ns_obj hn₃
    have F₃ : Fr h₀ L h₃ m := (fr_but F' hk₂ hIL hI₀).change hs₃ hCL hC₀
    have N₂ : News h₀ L h₂ ((D, lst ys) :: news') := news_but N' hk₂ fun p hp => by
      rcases List.mem_cons.mp hp with rfl | hp
      · exact Ne.symm hDI
      · exact (off3 p hp).1
    have N₃ : News h₀ L h₃ ((I2, _) :: (C, oC) :: (D, lst ys) :: news') := fun p hp => by
      rcases List.mem_cons.mp hp with rfl | hp
      · exact ⟨heI, Ne.symm hIL, hI₀⟩
      · rcases List.mem_cons.mp hp with rfl | hp
        · exact ⟨heC, hCL, hC₀⟩
        · have z := N₂ p hp
          refine ⟨hs₃.extBut _ _ ?_ z.1, z.2⟩
          rcases List.mem_cons.mp hp with rfl | hp
          · exact hDC
          · exact (off3 p hp).2.1
    have back : ∀ {h₄ : Heap} {oI : Obj} {ys' : List Value} {news₄ : List (Addr × Obj)}, oI = _ → News h₀ L h₄ ((I2, oI) :: (C, oC) :: (D, lst ys') :: news₄) → IsRangeIter h₄ I2 (0 + ((i + 1 : Nat) : Int) * 1) ((K : Int) - ((i + 1 : Nat) : Int)) 1 ∧ h₄.Ns C (fun x => if x = x2 then some (.int (0 + (i : Int) * 1) t) else m' x) ∧ News h₀ L h₄ ((D, lst ys') :: news₄) := fun e N₄ =>
      ⟨by have := (N₄ _ List.mem_cons_self).1; rw [e] at this; exact this, hoC.ns (N₄ _ (List.mem_cons_of_mem _ List.mem_cons_self)).1, fun p hp => N₄ p (List.mem_cons_of_mem _ (List.mem_cons_of_mem _ hp))⟩
    refine wpAny_mono (turn i t ys news' _ oC _ h₃ _ _ hlt hJ hoC (by rw [if_neg hx12]; exact hm') (by simp) F₃ N₃ off' ⟨hCI, hDI, Ne.symm hDC⟩) (fun ok s₃ h₃' => ?_) fun _ _ e => e
    cases ok with
    | true =>
      simp only [if_true] at h₃' ⊢
      refine wpAny_mono h₃' (fun y s₄ h₄ => ?_) fun _ _ e => e
      obtain ⟨h₄, tk₄, news₄, rfl, F₄, N₄, off₄, _, J₄⟩ := h₄
      obtain ⟨hst₄, hn₄, N₄'⟩ := back rfl N₄
      have zD := (N₄' (D, lst ys) List.mem_cons_self).1
      have hB2 : ys.length ≤ B := hlen _ _ _ hJ
      refine append_at (hsz := by show ys.toArray.size ≤ sizeLine; rw [List.size_toArray]; exact Nat.le_trans hB2 hB) zD fun h₅ hs₅ hD₅ => ?_
      have off4 := off₄.mem
      refine ⟨K + 1 - (i + 1), by omega, h₅, tk₄, i + 1, ys ++ [y], _, news₄, rfl, hlt, rfl, ?_, F₄.change hs₅ hDL hD₀, hn₄.sameBut hs₅ (Ne.symm hDC), ?_, fun p hp => ?_, off₄, J₄⟩
      · have e : h₄.get? I2 = some _ := hst₄
        exact hs₅.extBut _ _ (show I2 ≠ D from hDI) e
      · show (if x1 = x2 then _ else m' x1) = _
        rw [if_neg hx12]; exact hm'
      · rcases List.mem_cons.mp hp with rfl | hp
        · exact ⟨hD₅.trans (congrArg some (lst_snoc ys y)), hDL, hD₀⟩
        · have z := N₄' p (List.mem_cons_of_mem _ hp)
          exact ⟨hs₅.extBut _ _ (off4 p hp).2.2 z.1, z.2⟩
    | false =>
      rw [if_neg (by decide)] at h₃' ⊢
      obtain ⟨h₄, tk₄, news₄, rfl, F₄, N₄, off₄, _, J₄⟩ := h₃'
      obtain ⟨hst₄, hn₄, N₄'⟩ := back rfl N₄
      refine ⟨K + 1 - (i + 1), by omega, h₄, tk₄, i + 1, ys, _, news₄, rfl, hlt, rfl, hst₄, F₄, hn₄, ?_, N₄', off₄, J₄⟩
      show (if x1 = x2 then _ else m' x1) = _
      rw [if_neg hx12]; exact hm'
  · obtain rfl : i = K := Nat.le_antisymm hi (Nat.not_lt.mp hlt)
    refine W.done _ _ _ hst' fun h₂ tk₂ hk₂ => ?_
    exact done ys news' h₂ tk₂ _ hJ (fr_but F' hk₂ hIL hI₀) (news_but N' hk₂ fun p hp => by
      rcases List.mem_cons.mp hp with rfl | hp
      · exact Ne.symm hDI
      · exact (off3 p hp).1) (hn'.at' fun o e => hk₂ _ o (by simpa using Ne.symm hCI) e) off'
end
end Mine
-- Comp4
set_option maxHeartbeats 4000000
namespace Mine
open LCg
section
variable {prog : Program} {w : World} {A : Around} {E : Value → Shared → Prop} {s : Shared} {h₀ : Heap} {L : Addr} {m : Str → Option Value} {env : Env} {elt i1 i2 test : Expr} {x1 x2 : Str} {px1 px2 : Pos} {scope : Scope} {cl : List (Str × Addr)} {pos : Pos}
/-- a list comprehension with two fors and a test; the first over a list, the second over a range(K) -/
theorem ListComp_two {ax : Addr} {its : Array Value} {K B : Nat} {Q : Value → Shared → Prop} (F₀ : Fr h₀ L s.heap m) (Inv : Nat → Nat → List Value → List (Addr × Obj) → Prop)
    (hclos : closureFor scope env = pure cl) (hcell : ∀ y ∈ scope.names, y.2 ≠ .cell) (hkind : scope.kind = .function)
    (hnames : ∀ y ∈ scope.names, y.2 = .local → scope.names.lookup y.1 = some .local) (hx1 : scope.names.lookup x1 = some .local) (hx2 : scope.names.lookup x2 = some .local) (hx12 : x1 ≠ x2) (hB : B ≤ sizeLine) (hK : K ≤ 1000)
    (hlen : ∀ i j ys nw, Inv i j ys nw → ys.length ≤ B) (hS : ∀ i j ys nw, Inv i j ys nw → SrcAt h₀ ax its nw) (step : ∀ i ys nw, i < its.size → Inv i K ys nw → Inv (i + 1) 0 ys nw)
    (h : wpAny (model prog w) A (eval i1 env) (fun xv s₁ => ∃ news, xv = .ref ax ∧ A.handled = none ∧ Fr h₀ L s₁.heap m ∧ News h₀ L s₁.heap news ∧ Inv 0 0 [] news ∧
      (∀ i v ys news I oI C oC D m₂ h tk (E' : Value → Shared → Prop), its[i]? = some v → Inv i 0 ys news → NsObj oC m₂ → m₂ x1 = some v → Fr h₀ L h m → News h₀ L h ((I, oI) :: (C, oC) :: (D, lst ys) :: news) → Off3 I C D news → ((@Ne Nat I C) ∧ (@Ne Nat I D) ∧ (@Ne Nat C D)) →
        wpAny (model prog w) A (eval i2 (compEnvC scope cl C env)) (fun xv s₂ => ∃ r t u z h' tk', xv = .ref r ∧ s₂ = { s₁ with heap := h', toks := tk' } ∧ IsRange h' r 0 (K : Nat) 1 t u z ∧ Fr h₀ L h' m ∧ News h₀ L h' ((I, oI) :: (C, oC) :: (D, lst ys) :: news)) E' { s₁ with heap := h, toks := tk }) ∧
      (∀ i j v t ys news I oI I2 oI2 C oC D m₂ h tk (E' : Value → Shared → Prop), its[i]? = some v → j < K → Inv i j ys news → NsObj oC m₂ → m₂ x1 = some v → m₂ x2 = some (.int (j : Nat) t) → Fr h₀ L h m → News h₀ L h ((I2, oI2) :: (C, oC) :: (D, lst ys) :: (I, oI) :: news) → Off3 I2 C D ((I, oI) :: news) →
        ((@Ne Nat I2 C) ∧ (@Ne Nat I2 D) ∧ (@Ne Nat C D)) → Off1 I news →
        wpAny (model prog w) A (isTrue test (compEnvC scope cl C env) (eval test (compEnvC scope cl C env))) (fun ok s₃ =>
          if ok = true then wpAny (model prog w) A (eval elt (compEnvC scope cl C env)) (CompEnd h₀ L m { s₁ with heap := h, toks := tk } I2 oI2 C oC D (lst ys) (fun _ => True) (fun y nw => ∃ news', nw = (I, oI) :: news' ∧ Off1 I news' ∧ Inv i (j + 1) (ys ++ [y]) news')) E' s₃
          else CompEnd h₀ L m { s₁ with heap := h, toks := tk } I2 oI2 C oC D (lst ys) (fun _ => True) (fun _ nw => ∃ news', nw = (I, oI) :: news' ∧ Off1 I news' ∧ Inv i (j + 1) ys news') .none s₃) E' { s₁ with heap := h, toks := tk }) ∧
      (∀ D ys news h tk, Inv its.size 0 ys news → Fr h₀ L h m → News h₀ L h ((D, lst ys) :: news) → Off1 D news → Q (.ref D) { s₁ with heap := h, toks := tk })) E s)
    (hs : ∀ x, foldedSetIterable i1 env x = pure x := by intro _; rfl) (hs2 : ∀ cenv x, foldedSetIterable i2 cenv x = pure x := by intro _ _; rfl) :
    wpAny (model prog w) A (eval (.ListComp elt [⟨.Name x1 px1, i1, [], 0⟩, ⟨.Name x2 px2, i2, [test], 0⟩] scope pos) env) Q E s := by
  rw [eval_ListComp]
  refine wpAny_comprehension_free (use := none) rfl hs hclos hkind hnames (wpAny_mono h (fun xv s₁ h₁ => ?_) fun _ _ e => e)
  obtain ⟨news, rfl, hh, F, N, hJ0, T1, T2, fin⟩ := h₁
  have hl := (hS _ _ _ _ hJ0).list F.keep N
  have hlt : ax < s₁.heap.objs.size := by obtain ⟨_, e, _⟩ := hl; exact Heap.lt_size e
  refine wpAny_pyIter_list hl ?_
  generalize hI : s₁.heap.objs.size = I
  have W := Walks.list (prog := prog) (w := w) hh I ax (by rw [← hI]; exact Nat.ne_of_lt hlt) its
  have up : ∀ b o, s₁.heap.get? b = some o → (s₁.heap.push { cls := .type "list_iterator", data := .fields #[.ref ax, .int 0 0] }).get? b = some o := fun b o e => Heap.get?_push_of_some _ e
  refine wpAny_newObj_type (wpAny_newFunctionEnv hcell (by intro y hy; simp at hy) (fun h₁ hns₁ hsb₁ => ?_) hkind)
  dsimp only at hns₁ hsb₁ ⊢
  generalize hHb : s₁.heap.push { cls := .type "list_iterator", data := .fields #[.ref ax, .int 0 0] } = Hb at up hns₁ hsb₁ ⊢
  have hItI : Hb.IsListIter I ax 0 := by rw [← hHb, ← hI]; exact ⟨_, Heap.get?_push_size _ rfl, rfl, rfl⟩
  have hHbs : Hb.objs.size = I + 1 := by rw [← hHb, Heap.size_push, hI]
  generalize hH2 : Hb.push { cls := .type "list", dict := none, data := .seq ([] : List Value).toArray } = H2 at hns₁ hsb₁ ⊢
  have hC : H2.objs.size = Hb.objs.size + 1 := by rw [← hH2, Heap.size_push]
  have hDC : Hb.objs.size ≠ H2.objs.size := by rw [hC]; exact Nat.ne_of_lt (Nat.lt_succ_self _)
  have below : ∀ b, b < Hb.objs.size → b ≠ H2.objs.size ∧ b ≠ Hb.objs.size := fun b hb => ⟨by rw [hC]; exact Nat.ne_of_lt (Nat.lt_succ_of_lt hb), Nat.ne_of_lt hb⟩
  have hIlt : I < Hb.objs.size := by rw [hHbs]; exact Nat.lt_succ_self _
  have old : ∀ b o, Hb.get? b = some o → h₁.get? b = some o := fun b o e => hsb₁.extBut b o (below b (Heap.lt_size e)).1 (Heap.get?_push_of_some _ (hH2 ▸ Heap.get?_push_of_some _ e))
  have hacc : h₁.get? Hb.objs.size = some (lst []) := hsb₁.extBut _ _ hDC (Heap.get?_push_of_some _ (hH2 ▸ Heap.get?_push_size _ rfl))
  have fresh : ∀ a, Hb.objs.size ≤ a → Hb.get? a = none := fun a ha => by
    cases e : Hb.get? a with
    | none => rfl
    | some o' => exact absurd (Heap.lt_size e) (Nat.not_lt.mpr ha)
  have fresh₀ : ∀ a, I ≤ a → h₀.get? a = none := fun a ha => by
    cases e : h₀.get? a with
    | none => rfl
    | some o' => have := F.keep a o' e; exact absurd (Heap.lt_size this) (Nat.not_lt.mpr (by rw [hI]; exact ha))
  have hI₀ : h₀.get? I = none := fresh₀ _ (Nat.le_refl _)
  have hD₀ : h₀.get? Hb.objs.size = none := fresh₀ _ (Nat.le_of_lt hIlt)
  have hC₀ : h₀.get? H2.objs.size = none := fresh₀ _ (by rw [hC]; exact Nat.le_succ_of_le (Nat.le_of_lt hIlt))
  have hLI : L < I := by rw [← hI]; exact F.ns.lt
  have hIL : L ≠ I := Nat.ne_of_lt hLI
  have hDL : Hb.objs.size ≠ L := Ne.symm (below L (Nat.lt_trans hLI hIlt)).2
  have hCL : H2.objs.size ≠ L := Ne.symm (below L (Nat.lt_trans hLI hIlt)).1
  have hCI : I ≠ H2.objs.size := (below I hIlt).1
  have hDI : I ≠ Hb.objs.size := (below I hIlt).2
  have hDf : Hb.objs.size ∉ [I, ax] := fun hm => by
    rcases List.mem_cons.mp hm with e | hm
    · exact hDI e.symm
    · rw [hHbs] at hm; have := List.mem_singleton.mp hm; rw [← hI] at this; exact absurd hlt (by rw [← this]; exact Nat.not_lt.mpr (Nat.le_succ _))
  have hCf : H2.objs.size ∉ [I, ax] := fun hm => by
    rcases List.mem_cons.mp hm with e | hm
    · exact hCI e.symm
    · rw [hC, hHbs] at hm; have := List.mem_singleton.mp hm; rw [← hI] at this; exact absurd hlt (by rw [← this]; exact Nat.not_lt.mpr (Nat.le_succ_of_le (Nat.le_succ _)))
  have hst₁ : h₁.IsListIter I ax 0 ∧ h₁.IsList ax its := ⟨by obtain ⟨o, e, r⟩ := hItI; exact ⟨o, old _ _ e, r⟩, hl.at fun o e => old _ _ (up _ _ e)⟩
  have newsI : ∀ p ∈ news, p.1 < I := fun p hp => by rw [← hI]; exact Heap.lt_size (N p hp).1
  have off₀ : Off3 I H2.objs.size Hb.objs.size news := Off3.of fun p hp => ⟨Nat.ne_of_lt (newsI p hp), (below _ (Nat.lt_trans (newsI p hp) hIlt)).1, (below _ (Nat.lt_trans (newsI p hp) hIlt)).2⟩
  have loop : ∀ s₃ : Shared, s₃ = { s₁ with heap := h₁, toks := s₁.toks + ([] : List (Str × Value)).length } →
      codeAny (model prog w) A (.compLoop (two elt (.Name x1 px1) i1 (.Name x2 px2) i2 test scope pos) 0 (.ref I) (.ref Hb.objs.size) (compEnvC scope cl H2.objs.size env))
        (compPost (model prog w) A E none Q (.ref Hb.objs.size) H2.objs.size) s₃ := by
    rintro s₃ rfl
    refine loop_two0
      (fun k s' => ∃ h' tk i ys m' news', s' = { s₁ with heap := h', toks := tk } ∧ i ≤ its.size ∧ k = its.size + 1 - i ∧ (h'.IsListIter I ax i ∧ h'.IsList ax its) ∧ Fr h₀ L h' m ∧ h'.Ns H2.objs.size m' ∧ News h₀ L h' ((Hb.objs.size, lst ys) :: news') ∧
        Off3 I H2.objs.size Hb.objs.size news' ∧ Inv i 0 ys news') ?_ (its.size + 1)
      ⟨h₁, _, 0, [], _, news, rfl, Nat.zero_le _, rfl, hst₁, F.keeps fun b o e => old _ _ (up b o e), hns₁, fun p hp => ?_, off₀, hJ0⟩ (hs := hs2 _)
    · rintro k s' ⟨h', tk, i, ys, m', news', rfl, hi, rfl, hst', F', hn', N', off', hJ⟩
      have off3 := off'.mem
      by_cases hlt : i < its.size
      · refine W.item i _ _ _ hlt hst' fun v h₂ tk₂ hPv hst₂ hk₂ => ?_
        refine wpAny_assign_Name (wpAny_storeName_local (lookup_relabel_local hx1) (hn'.at' fun o e => hk₂ _ o (by simpa using Ne.symm hCI) e) (fun h₃ hn₃ hs₃ => ?_) (by simp [compEnvC, relabel, hkind]))
        have hst₃ : h₃.IsListIter I ax (i + 1) ∧ h₃.IsList ax its := W.frame _ _ _ hst₂ fun b hb o e => hs₃.extBut b o (fun q => hCf (by have q' : b = H2.objs.size := q; rw [← q']; exact hb)) e
        obtain ⟨oI, heI, rI⟩ := id hst₃.1
        obtain ⟨oC, heC, hoC⟩ := ns_obj hn₃
        have F₃ : Fr h₀ L h₃ m := (fr_but F' hk₂ hIL hI₀).change hs₃ hCL hC₀
        have N₂ : News h₀ L h₂ ((Hb.objs.size, lst ys) :: news') := news_but N' hk₂ fun p hp => by
          rcases List.mem_cons.mp hp with rfl | hp
          · exact Ne.symm hDI
          · exact (off3 p hp).1
        have N₃ : News h₀ L h₃ ((I, oI) :: (H2.objs.size, oC) :: (Hb.objs.size, lst ys) :: news') := fun p hp => by
          rcases List.mem_cons.mp hp with rfl | hp
          · exact ⟨heI, Ne.symm hIL, hI₀⟩
          · rcases List.mem_cons.mp hp with rfl | hp
            · exact ⟨heC, hCL, hC₀⟩
            · have z := N₂ p hp
              refine ⟨hs₃.extBut _ _ ?_ z.1, z.2⟩
              rcases List.mem_cons.mp hp with rfl | hp
              · exact hDC
              · exact (off3 p hp).2.1
        refine wpAny_mono (T1 i v ys news' I oI H2.objs.size oC Hb.objs.size _ h₃ _ _ hPv hJ hoC (by simp) F₃ N₃ off' ⟨hCI, hDI, Ne.symm hDC⟩) (fun xv s₄ h₄ => ?_) fun _ _ e => e
        obtain ⟨r, t, u, z, h₄, tk₄, rfl, rfl, hr, F₄, N₄⟩ := h₄
        refine wpAny_pyIter_range hr (small_one (by omega) (by omega) (by omega) (by omega)) ?_
        generalize hI2 : h₄.objs.size = I2
        have hI2' : ∀ p ∈ (I, oI) :: (H2.objs.size, oC) :: (Hb.objs.size, lst ys) :: news', p.1 < I2 := fun p hp => by rw [← hI2]; exact Heap.lt_size (N₄ p hp).1
        have hIl := hI2' _ (.head _)
        have hCl := hI2' _ (.tail _ (.head _))
        have hDl := hI2' _ (.tail _ (.tail _ (.head _)))
        have hI2₀ : h₀.get? I2 = none := by
          cases e : h₀.get? I2 with
          | none => rfl
          | some o' => have := F₄.keep _ o' e; exact absurd (Heap.lt_size this) (by rw [hI2]; exact Nat.lt_irrefl _)
        have hLI2 : L ≠ I2 := by rw [← hI2]; exact Nat.ne_of_lt F₄.ns.lt
        have up4 : ∀ b o, h₄.get? b = some o → (h₄.push { cls := .type "range_iterator", data := .fields #[rawInt 0, rawInt (Builtin.Range.rangeSize 0 (K : Nat) 1), rawInt 1] }).get? b = some o := fun b o e => Heap.get?_push_of_some _ e
        have hsz2 : Builtin.Range.rangeSize 0 (K : Int) 1 = (K : Int) := by rw [rangeSize_one]; split <;> omega
        have hR : IsRangeIter (h₄.push { cls := .type "range_iterator", data := .fields #[rawInt 0, rawInt (Builtin.Range.rangeSize 0 (K : Nat) 1), rawInt 1] }) I2 (0 + ((0 : Nat) : Int) * 1) ((K : Int) - ((0 : Nat) : Int)) 1 := by
          show IsRangeIter _ _ _ _ _
          rw [hsz2, ← hI2]; simpa using Heap.get?_push_size _ rfl
        have offI : Off1 I news' := by
          have : ∀ l : List (Addr × Obj), Off3 I H2.objs.size Hb.objs.size l → Off1 I l := fun l hl => by
            induction l with
            | nil => trivial
            | cons p r ih => exact ⟨hl.1.1, ih hl.2⟩
          exact this _ off'
        have inner := fun sx (hx : sx = { s₁ with heap := h₄.push { cls := .type "range_iterator", data := .fields #[rawInt 0, rawInt (Builtin.Range.rangeSize 0 (K : Nat) 1), rawInt 1] }, toks := tk₄ }) =>
          inner_two (prog := prog) (w := w) (A := A) (s := sx) (h₀ := h₀) (L := L) (scope := scope) (x1 := x1) (x2 := x2) (I2 := I2) (C := H2.objs.size) (D := Hb.objs.size) (elt := elt) (i1 := i1) (i2 := i2) (test := test) (pos := pos) (px1 := px1) (px2 := px2) (K := K) (B := B) (cl := cl) (env := env) (m := m)
          (R := fun r s' => match r with | .ok _ => (∃ mm, mm < its.size + 1 - i ∧ ∃ h' tk i ys m' news', s' = { s₁ with heap := h', toks := tk } ∧ i ≤ its.size ∧ mm = its.size + 1 - i ∧ (h'.IsListIter I ax i ∧ h'.IsList ax its) ∧ Fr h₀ L h' m ∧ h'.Ns H2.objs.size m' ∧ News h₀ L h' ((Hb.objs.size, lst ys) :: news') ∧
            Off3 I H2.objs.size Hb.objs.size news' ∧ Inv i 0 ys news') | .error e => cameBackBy (model prog w) A (compEnvC scope cl H2.objs.size env) (notedBy (model prog w) A (compEnvC scope cl H2.objs.size env) fun e s' => compPost (model prog w) A E none Q (.ref Hb.objs.size) H2.objs.size (.error e) s') e s')
          (fun j ys nw => ∃ news', nw = (I, oI) :: news' ∧ Off1 I news' ∧ Inv i j ys news') hh hkind hx2 hx12 hB (fun j ys nw ⟨n', _, _, hj⟩ => hlen _ _ _ _ hj) (hx ▸ hR) (hx ▸ F₄.keeps up4) (ys₀ := ys) (news₀ := (I, oI) :: news') (hx ▸ (fun p hp => by
            have hp' : p ∈ (I, oI) :: (H2.objs.size, oC) :: (Hb.objs.size, lst ys) :: news' := by
              rcases List.mem_cons.mp hp with rfl | hp
              · exact .tail _ (.tail _ (.head _))
              · rcases List.mem_cons.mp hp with rfl | hp
                · exact .head _
                · exact .tail _ (.tail _ (.tail _ hp))
            exact ⟨up4 _ _ (N₄ p hp').1, (N₄ p hp').2⟩)) (m₁ := fun x => if x = x1 then some v else m' x) (v1 := v) (hx ▸ (hoC.ns (up4 _ _ (N₄ _ (.tail _ (.head _))).1))) (by simp)
          ⟨⟨Nat.ne_of_lt hIl, hCI, hDI⟩, Off3.of fun p hp => ⟨Nat.ne_of_lt (hI2' p (.tail _ (.tail _ (.tail _ hp)))), (off3 p hp).2⟩⟩
          hI2₀ hC₀ hD₀ hLI2 hCL hDL (Nat.ne_of_gt hCl) (Nat.ne_of_gt hDl) hDC ⟨news', rfl, offI, hJ⟩ ?_ ?_
        · exact start_two1 (inner _ rfl) (by
            have W2 := Walks.range (prog := prog) (w := w) hh I2 0 1 K
            exact W2.self 0 _ _ _ hR (inner _ rfl))
        · rintro j t ys2 nw oI2 oC2 m₂ h tk E' hj ⟨n', rfl, o1, hjj⟩ ho2 hm1 hm2 F5 N5 off5 ne5
          subst hx
          exact T2 i j v t ys2 n' I oI I2 oI2 H2.objs.size oC2 Hb.objs.size m₂ h tk E' hPv hj hjj ho2 hm1 hm2 F5 N5 off5 ne5 o1
        · rintro ys2 nw h tk m5 ⟨n', rfl, o1, hjj⟩ F5 N5 hn5 off5
          subst hx
          have hst5 : h.IsListIter I ax (i + 1) ∧ h.IsList ax its := ⟨⟨oI, (N5 _ (.tail _ (.head _))).1, rI⟩, (hS _ _ _ _ hjj).list F5.keep fun p hp => N5 p (.tail _ (.tail _ hp))⟩
          refine ⟨its.size + 1 - (i + 1), by omega, h, tk, i + 1, ys2, m5, n', rfl, hlt, rfl, hst5, F5, hn5, fun p hp => N5 p ((List.mem_cons.mp hp).elim (fun e => e ▸ .head _) fun h => .tail _ (.tail _ h)), ?_, step _ _ _ hlt hjj⟩
          have off5' := off5.2.mem
          have hoI : ∀ l : List (Addr × Obj), Off1 I l → ∀ p ∈ l, p.1 ≠ I := fun l => by
            induction l with
            | nil => intro _ p hp; cases hp
            | cons q r ih =>
              intro hl p hp
              rcases List.mem_cons.mp hp with e | hp
              · rw [e]; exact hl.1
              · exact ih hl.2 p hp
          exact Off3.of fun p hp => ⟨hoI _ o1 p hp, (off5' p hp).2⟩
      · obtain rfl : i = its.size := Nat.le_antisymm hi (Nat.not_lt.mp hlt)
        refine W.done _ _ _ hst' fun h₂ tk₂ hk₂ => ?_
        have N₂ := news_but N' hk₂ fun p hp => by
          rcases List.mem_cons.mp hp with rfl | hp
          · exact Ne.symm hDI
          · exact (off3 p hp).1
        have F₂ := fr_but F' hk₂ hIL hI₀
        refine ⟨m', hn'.at' fun o e => hk₂ _ o (by simpa using Ne.symm hCI) e, fun h'' hs'' => fin _ ys news' h'' tk₂ hJ (F₂.change hs'' hCL hC₀) (fun p hp => ?_) off'.one⟩
        refine ⟨hs''.extBut _ _ ?_ (N₂ p hp).1, (N₂ p hp).2⟩
        rcases List.mem_cons.mp hp with rfl | hp
        · exact hDC
        · exact (off3 p hp).2.1
    · rcases List.mem_cons.mp hp with rfl | hp
      · exact ⟨hacc, hDL, hD₀⟩
      · exact ⟨old _ _ (up _ _ (N p hp).1), (N p hp).2⟩
  exact codeAny_compStart_list (loop _ rfl) (W.self 0 _ _ _ hst₁ (loop _ rfl))
end
end Mine
-- WaysP
namespace Mine
/-- a list of lists of ints as the heap bears it: its values, its data, its ledger -/
inductive LL : List Value → List (List Int) → List (Addr × Obj) → Prop
  | nil : LL [] [] []
  | cons {a : Addr} {vs : List Value} {ns : List Int} {k : Nat} {v : List Value} {r : List (List Int)} {l : List (Addr × Obj)} : IntsAre vs ns → LL v r l → LL (.ref a :: v) (ns :: r) ((a, PySem.W.listOf vs.toArray k) :: l)
theorem LL.append : ∀ {v v' : List Value} {r r' : List (List Int)} {l l' : List (Addr × Obj)}, LL v r l → LL v' r' l' → LL (v ++ v') (r ++ r') (l ++ l')
  | _, _, _, _, _, _, .nil, h => h
  | _, _, _, _, _, _, .cons hi t, h => .cons hi (t.append h)
theorem LL.length : ∀ {v : List Value} {r : List (List Int)} {l : List (Addr × Obj)}, LL v r l → v.length = r.length
  | _, _, _, .nil => rfl
  | _, _, _, .cons _ t => by rw [List.length_cons, List.length_cons, t.length]
theorem LL.get {v : List Value} {r : List (List Int)} {l : List (Addr × Obj)} (h : LL v r l) : ∀ (i : Nat) (x : Value), v[i]? = some x → ∃ a vs ns k, x = .ref a ∧ (a, PySem.W.listOf vs.toArray k) ∈ l ∧ r[i]? = some ns ∧ IntsAre vs ns := by
  induction h with
  | nil => intro i x hx; simp at hx
  | @cons a vs ns k v r l hi t ih =>
    intro i x hx
    cases i with
    | zero => simp at hx; exact ⟨a, vs, ns, k, hx.symm, .head _, rfl, hi⟩
    | succ i =>
      simp at hx
      obtain ⟨a', vs', ns', k', h1, h2, h3, h4⟩ := ih i x hx
      exact ⟨a', vs', ns', k', h1, .tail _ h2, by simpa using h3, h4⟩
theorem LL.plain {v : List Value} {r : List (List Int)} {l : List (Addr × Obj)} (h : LL v r l) {p : Obj → Bool} (hp : ∀ vs k, p (PySem.W.listOf vs k) = true) : l.all (fun q => p q.2) = true := by
  induction h with
  | nil => rfl
  | cons hi t ih => rw [List.all_cons, hp, ih]; rfl
theorem LL.mem {v : List Value} {r : List (List Int)} {l : List (Addr × Obj)} (h : LL v r l) : ∀ p ∈ l, ∃ vs ns k, p.2 = PySem.W.listOf vs.toArray k ∧ IntsAre vs ns := by
  induction h with
  | nil => intro p hp; cases hp
  | @cons a vs ns k v r l hi t ih =>
    intro p hp
    rcases List.mem_cons.mp hp with e | hp
    · exact ⟨vs, ns, k, by rw [e], hi⟩
    · exact ih p hp
theorem ll_ne {h₀ h : Heap} {L P : Addr} {kp : Nat} {pv : List Value} {pr : List (List Int)} {pl news : List (Addr × Obj)} (N : News h₀ L h news) (hP : (P, PySem.W.listOf pv.toArray kp) ∈ news) (hJ : LL pv pr pl) (hne : pr ≠ []) : ∀ p ∈ pl, p ∈ news → p.1 ≠ P := by
  intro p hp hn e
  obtain ⟨vs, ns, k, h1, h2⟩ := hJ.mem p hp
  have e1 := (N _ hn).1
  have e2 := (N _ hP).1
  dsimp only at e2
  rw [e, e2, h1] at e1
  have e3 := congrArg Obj.data (Option.some.inj e1)
  have e4 : pv.toArray = vs.toArray := by
    have : (PySem.W.listOf pv.toArray kp).data = .seq pv.toArray kp := rfl
    injection e3
  have e5 : pv = vs := by simpa using e4
  subst e5
  cases hJ with
  | nil => exact hne rfl
  | cons _ _ => cases h2
/-- a rook more, in a column of h cells: each free cell in turn -/
def newsF (h : Nat) (r : List Int) : List (List Int) := ((List.range h).filter fun (j : Nat) => !(r.any fun y => y == (j : Int))).map fun (j : Nat) => r ++ [(j : Int)]
theorem newsF_succ (j : Nat) (r : List Int) : newsF (j + 1) r = newsF j r ++ if (!(r.any fun y => y == (j : Int))) = true then [r ++ [(j : Int)]] else [] := by
  unfold newsF
  rw [List.range_succ, List.filter_append, List.map_append]
  congr 1
  cases hb : (r.any fun y => y == (j : Int)) <;> simp [List.filter_cons, hb]
theorem newsF_len (h : Nat) (r : List Int) : (newsF h r).length ≤ h := by
  unfold newsF
  rw [List.length_map]
  exact Nat.le_trans (List.length_filter_le _ _) (by simp)
/-- behind i whole placings and j cells of the next -/
def innerF (pr : List (List Int)) (h i j : Nat) : List (List Int) := ((pr.take i).map (newsF h)).flatten ++ newsF j (pr.getD i [])
theorem innerF_zero (pr : List (List Int)) (h : Nat) : innerF pr h 0 0 = [] := by
  unfold innerF newsF; simp
theorem innerF_step (pr : List (List Int)) (h i : Nat) (hi : i < pr.length) : innerF pr h i h = innerF pr h (i + 1) 0 := by
  have e1 : pr.take (i + 1) = pr.take i ++ [pr[i]] := by rw [List.take_add_one, List.getElem?_eq_getElem hi]; rfl
  have e2 : pr.getD i [] = pr[i] := by rw [List.getD_eq_getElem?_getD, List.getElem?_eq_getElem hi]; rfl
  have e3 : ∀ r, newsF 0 r = [] := fun r => by unfold newsF; simp
  unfold innerF
  rw [e1, e2, e3, List.map_append, List.flatten_append, List.append_nil]
  simp
theorem innerF_end (pr : List (List Int)) (h : Nat) : innerF pr h pr.length 0 = (pr.map (newsF h)).flatten := by
  unfold innerF newsF; simp
theorem innerF_succ (pr : List (List Int)) (h i j : Nat) {r : List Int} (hr : pr[i]? = some r) : innerF pr h i (j + 1) = innerF pr h i j ++ if (!(r.any fun y => y == (j : Int))) = true then [r ++ [(j : Int)]] else [] := by
  unfold innerF
  rw [newsF_succ, List.getD_eq_getElem?_getD, hr, List.append_assoc]; rfl
def stepF (pr : List (List Int)) (h : Nat) : List (List Int) := pr ++ (pr.map (newsF h)).flatten
def placedF (bs : List Nat) : List (List Int) := bs.foldl stepF [[]]
theorem flat_le (h : Nat) : ∀ pr : List (List Int), (pr.map (newsF h)).flatten.length ≤ pr.length * h
  | [] => by simp
  | r :: pr => by
    rw [List.map_cons, List.flatten_cons, List.length_append, List.length_cons, Nat.add_mul]
    have := flat_le h pr
    have := newsF_len h r
    omega
theorem innerF_len (pr : List (List Int)) (h i j : Nat) (hj : j ≤ h) : (innerF pr h i j).length ≤ pr.length * h + h := by
  unfold innerF
  rw [List.length_append]
  have h1 := flat_le h (pr.take i)
  have h2 := newsF_len j (pr.getD i [])
  have h3 := Nat.mul_le_mul_right h (show (pr.take i).length ≤ pr.length by rw [List.length_take]; omega)
  omega
theorem placedF_snoc (bs : List Nat) (h : Nat) : placedF (bs ++ [h]) = stepF (placedF bs) h := by unfold placedF; rw [List.foldl_append]; rfl
theorem placedF_len : ∀ (n : Nat) (bs : List Nat), bs.length = n → (∀ b ∈ bs, b ≤ 4) → (placedF bs).length ≤ 5 ^ n := by
  intro n
  induction n with
  | zero => intro bs h _; rw [List.length_eq_zero_iff.mp h]; decide
  | succ n ih =>
    intro bs h hb
    have hne : bs ≠ [] := by intro e; subst e; cases h
    rw [← List.dropLast_concat_getLast hne, placedF_snoc]
    have h1 := ih bs.dropLast (by rw [List.length_dropLast]; omega) fun b hm => hb b (List.dropLast_subset _ hm)
    have h2 := hb _ (List.getLast_mem hne)
    unfold stepF
    rw [List.length_append]
    have h3 := flat_le (bs.getLast hne) (placedF bs.dropLast)
    have h4 := Nat.mul_le_mul_left (placedF bs.dropLast).length h2
    rw [Nat.pow_succ]
    omega
/-- at most as many rooks as columns so far -/
theorem placedF_short : ∀ (n : Nat) (bs : List Nat), bs.length = n → ∀ r ∈ placedF bs, r.length ≤ n := by
  intro n
  induction n with
  | zero => intro bs h r hr; rw [List.length_eq_zero_iff.mp h] at hr; rw [List.mem_singleton.mp hr]; exact Nat.le_refl _
  | succ n ih =>
    intro bs h r hr
    have hne : bs ≠ [] := by intro e; subst e; cases h
    rw [← List.dropLast_concat_getLast hne, placedF_snoc] at hr
    have h1 := ih bs.dropLast (by rw [List.length_dropLast]; omega)
    unfold stepF at hr
    rcases List.mem_append.mp hr with hr | hr
    · have := h1 r hr; omega
    · obtain ⟨l, hl, hr⟩ := List.mem_flatten.mp hr
      obtain ⟨q, hq, rfl⟩ := List.mem_map.mp hl
      obtain ⟨j, _, rfl⟩ := List.mem_map.mp hr
      have := h1 q hq
      rw [List.length_append]; simp; omega
def bumpW (ws : List Int) (r : List Int) : List Int := ws.set r.length (ws.getD r.length 0 + 1)
def waysF (bs : List Nat) : List Int := (placedF bs).foldl bumpW [0, 0, 0, 0, 0]
end Mine
-- C02w
set_option maxHeartbeats 4000000
namespace Mine
local macro_rules | `(tactic| walk_at "MY:n") => `(tactic| ((first | walk1 | (dsimp only; walk1))))
local macro_rules | `(tactic| walk_at "MY:w") => `(tactic| repeat' (first | (k_unfold; (try dsimp only)) | (k_end; fail) | (
  (fail_if_success (with_reducible show wpAny _ _ (exec (Stmt.For _ _ _ _ _) _) _ _ _));
  (fail_if_success (with_reducible show wpAny _ _ (exec (Stmt.While _ _ _ _) _) _ _ _));
  (fail_if_success (with_reducible show wpAny _ _ (eval (Expr.ListComp _ _ _ _) _) _ _ _));
  (fail_if_success (with_reducible show wpAny _ _ (subscriptTail _ _ _ _) _ _ _));
  (fail_if_success (with_reducible show wpAny _ _ (binaryOp Operator.Add (Value.ref _) (Value.ref _)) _ _ _));
  (fail_if_success (with_reducible show LCg.CompEnd _ _ _ _ _ _ _ _ _ _ _ _ _ _));
  (fail_if_success (with_reducible show Exists _));
  (fail_if_success (with_reducible show wpAny _ _ (pyIter _) _ _ _));
  (fail_if_success (with_reducible show wpAny _ _ (call (Value.ref _) _) _ _ _));
  (first | walk1 | (dsimp only; walk1)))))
local macro_rules | `(tactic| walk_at "MY:t") => `(tactic| repeat' (first | (k_unfold; (try dsimp only)) | (k_end; fail) | (
  (fail_if_success (with_reducible show wpAny _ _ (exec (Stmt.For _ _ _ _ _) _) _ _ _));
  (fail_if_success (with_reducible show wpAny _ _ (exec (Stmt.While _ _ _ _) _) _ _ _));
  (fail_if_success (with_reducible show wpAny _ _ (eval (Expr.ListComp _ _ _ _) _) _ _ _));
  (fail_if_success (with_reducible show wpAny _ _ (binaryOp Operator.Add (Value.ref _) (Value.ref _)) _ _ _));
  (fail_if_success (with_reducible show LCg.CompEnd _ _ _ _ _ _ _ _ _ _ _ _ _ _));
  (fail_if_success (with_reducible show Exists _));
  (fail_if_success (with_reducible show wpAny _ _ (pyIter _) _ _ _));
  (fail_if_success (with_reducible show wpAny _ _ (call (Value.ref _) _) _ _ _));
  (first | walk1 | (dsimp only; walk1)))))
local macro_rules | `(tactic| walk_at "MY:same") => `(tactic| (intro z hz h2 h3; (simp only [List.forall_mem_cons, List.not_mem_nil, false_implies, implies_true, and_true, ne_eq] at h2); (simp only [List.contains_cons, List.contains_nil, Bool.or_false, Bool.or_eq_false_iff, beq_eq_false_iff_ne, ne_eq] at h3); (simp [hz, h2, h3])))
structure WSt where
  P : Addr
  kp : Nat
  pv : List Value
  pr : List (List Int)
  pl : List (Addr × Obj)
theorem ways_2 {w : World} {dp : Nat} {fr : Option (List Env)} {gd : Option (List Code)} {un : Nat} {s : Shared} {mg mb : Str → Option Value} {p : Program} {loose : List Str} {mean : ExcName → Option Value} {l : Addr} {vs : List Value} {bs : List Nat} {Q E : Value → Shared → Prop}
    (X : (hd02.heap_39 w.params).In s.heap) (T : Top p loose mean mg mb s.heap) (hl : s.heap.IsList l vs.toArray) (hi : IntsAre vs (bs.map fun (b : Nat) => (b : Int))) (hb : ∀ b ∈ bs, b ≤ 4) (hlen : bs.length = 4) (hroom : dp + 1 < recursionLimit)
    (h : ∀ a vs' ep h' tk', IntsAre vs' (waysF bs) → s.heap.StaysIn h' → h'.get? a = some (PySem.W.listOf vs'.toArray ep) → s.heap.get? a = none → Q (.ref a) { s with heap := h', toks := tk' }) :
    wpAny (model prog2 w) { handled := none, depth := dp, frames := fr, guards := gd, units := un } (call (.ref 140) [.ref l]) Q E s := by
  refine wpAny_call (call_cells (binds := [(Str.ofString "board", .ref l)]) X rfl rfl T.nolimit (by show dp < _; omega) (BindsTo.of_eq rfl) (fun n x hx => by rw [List.mem_singleton.mp hx]; exact .inl rfl) (by decide) ?_)
  intro h3 tk cells F3' N3 Y
  obtain ⟨oc, rfl, dc⟩ := CellsAre.one Y
  have dc' : oc.data = .cell none := dc
  have F3 : Fr s.heap s.heap.objs.size h3 (fun y => if y = Str.ofString "board" then some (Value.ref l) else none) := F3'
  clear F3' Y dc
  walk_at "MY:w"
  rename Fr _ _ _ _ => F4
  rename News _ _ _ _ => N4
  refine For_cell (σ := WSt) (vs := vs) (oc := oc) (fun c => (c.P, PySem.W.listOf c.pv.toArray c.kp) :: c.pl) (fun c => [(Str.ofString "placed", .ref c.P)]) [] (fun i c => LL c.pv c.pr c.pl ∧ c.pr = placedF (bs.take i)) ⟨_, 0, [.ref _], [[]], [(_, PySem.W.listOf #[] 0)]⟩ rfl
    (by rfl) (by rfl) (by rfl) hl F4 N4 ⟨_, dc'⟩ (List.forall_mem_cons.mpr ⟨rfl, List.forall_mem_nil _⟩) ⟨.cons .nil .nil, rfl⟩ (fun i c hJ => by rw [List.all_cons, hJ.1.plain (fun _ _ => rfl)]; rfl) (fun P hP => ?_) ?_ ?_
  · walk_at "MY:n"
    exact hP
  · clear F4 N4
    rintro i v ⟨P, kp, pv, pr, pl⟩ u h6 tk6 I oI oc hv ⟨hJ1, hJ2⟩ hoI hd F5 N5
    have hiL : i < bs.length := by
      have := (List.getElem?_eq_some_iff.mp hv).1; rw [hi.length, List.length_map] at this; exact this
    obtain ⟨tv, hv2⟩ := hi.get i (bs[i] : Nat) (by simp [hiL])
    rw [hv] at hv2
    cases hv2
    have hbi := hb _ (List.getElem_mem hiL)
    have e1 : bs.take (i + 1) = bs.take i ++ [bs[i]] := by rw [List.take_add_one]; simp [hiL]
    have hpl : pr.length ≤ 625 := by
      dsimp only at hJ2
      rw [hJ2]
      have := placedF_len _ (bs.take i) rfl (fun b hm => hb b (List.mem_of_mem_take hm))
      have h5 : (bs.take i).length ≤ 4 := by rw [List.length_take]; omega
      exact Nat.le_trans this (Nat.pow_le_pow_right (by decide) h5)
    have hshort : ∀ r ∈ pr, r.length ≤ 10 := fun r hr => by
      dsimp only at hJ2
      rw [hJ2] at hr
      have := placedF_short _ (bs.take i) rfl r hr
      rw [List.length_take] at this; omega
    generalize bs[i] = b at *
    dsimp only [kstB] at F5 N5 hJ1 hJ2
    walk_at "MY:w"
    have hpv := hJ1.length
    refine ListComp_two (ax := P) (its := pv.toArray) (K := b) (B := 4000) F5 (fun i j ys nw => ∃ nl, nw = (s.heap.objs.size + 1, oc) :: (P, PySem.W.listOf pv.toArray kp) :: (I, oI) :: (nl ++ pl) ∧ LL ys (innerF pr b i j) nl ∧ j ≤ b)
      (by with_unfolding_all rfl) (by decide) (by rfl) (by decide) (by rfl) (by rfl) (by decide) (by rw [PySem.sizeLine_eq]; omega) (by omega)
      (fun i j ys nw hq => ?_) (fun i j ys nw hq => ?_) (fun i ys nw hi hq => ?_) ?_
    · obtain ⟨nl, _, h1, h2⟩ := hq
      rw [h1.length]
      have h3 := innerF_len pr b i j h2
      have h4 := Nat.mul_le_mul hpl hbi
      omega
    · obtain ⟨nl, rfl, _, _⟩ := hq
      exact .inr ⟨_, .tail _ (.head _), rfl, _, rfl⟩
    · obtain ⟨nl, h0, h1, h2⟩ := hq
      rw [List.size_toArray, hpv] at hi
      exact ⟨nl, h0, by rw [← innerF_step pr b i hi]; exact h1, Nat.zero_le _⟩
    walk_at "MY:n"
    refine ⟨(s.heap.objs.size + 1, oc) :: (P, PySem.W.listOf pv.toArray kp) :: (I, oI) :: ([] ++ pl), rfl, rfl, F5, kst_newsOf N5 (fun p hp => ?_), ⟨[], rfl, by rw [innerF_zero]; exact .nil, Nat.zero_le _⟩, ?_, ?_, ?_⟩
    · rcases List.mem_cons.mp hp with e | hp
      · rw [e]; exact .tail _ (.tail _ (List.mem_append_right _ (.head _)))
      · rcases List.mem_cons.mp hp with e | hp
        · rw [e]; exact .tail _ (.head _)
        · rcases List.mem_cons.mp hp with e | hp
          · rw [e]; exact .head _
          · exact .tail _ (.tail _ (List.mem_append_left _ hp))
    · clear N5 F5
      rintro i' v' ys nw I' oI' C' oC' D' m' h7 tk7 E' hv' ⟨nl, rfl, hL, -⟩ hC' hm' F6 N6 off6 ne6
      walk_at "MY:w"
      rename IsRange _ _ _ _ _ _ _ _ => hr
      rename Fr _ _ _ _ => Fz
      rename News _ _ _ _ => Nz
      exact ⟨_, _, _, _, _, _, rfl, rfl, hr, Fz, Nz⟩
    · clear N5 F5
      rintro i' j' v' t' ys nw I' oI' I2' oI2' C' oC' D' m' h7 tk7 E' hv' hj' ⟨nl, rfl, hL, -⟩ hC' hm1' hm2' F6 N6 off6 ne6 o6
      obtain ⟨a, vs', ns', k', rfl, hmem, hr, hns⟩ := hJ1.get i' v' (by simpa using hv')
      have N7 := kst_newsOf (l' := (I2', oI2') :: (C', oC') :: (D', LCg.lst ys) :: (I', oI') :: (a, PySem.W.listOf vs'.toArray k') :: (s.heap.objs.size + 1, oc) :: (P, PySem.W.listOf pv.toArray kp) :: (I, oI) :: (nl ++ pl)) N6 (fun p hp => by
        rcases List.mem_cons.mp hp with e | hp
        · rw [e]; exact .head _
        · rcases List.mem_cons.mp hp with e | hp
          · rw [e]; exact .tail _ (.head _)
          · rcases List.mem_cons.mp hp with e | hp
            · rw [e]; exact .tail _ (.tail _ (.head _))
            · rcases List.mem_cons.mp hp with e | hp
              · rw [e]; exact .tail _ (.tail _ (.tail _ (.head _)))
              · rcases List.mem_cons.mp hp with e | hp
                · rw [e]; exact .tail _ (.tail _ (.tail _ (.tail _ (.tail _ (.tail _ (.tail _ (List.mem_append_right _ hmem)))))))
                · exact .tail _ (.tail _ (.tail _ (.tail _ hp))))
      clear N6
      walk_at "MY:w"
      · rename (_ : Bool) = true => hany
        rename Fr _ _ _ _ => F8
        rename News _ _ _ _ => N8
        refine LCg.CompEnd.intro F8 N8 ((I', oI') :: (s.heap.objs.size + 1, oc) :: (P, PySem.W.listOf pv.toArray kp) :: (I, oI) :: (nl ++ pl)) (fun p hp => ?_) off6 trivial ⟨_, rfl, o6, nl, rfl, ?_, hj'⟩
        · rcases List.mem_cons.mp hp with e | hp
          · rw [e]; exact .head _
          · rcases List.mem_cons.mp hp with e | hp
            · rw [e]; exact .tail _ (.head _)
            · rcases List.mem_cons.mp hp with e | hp
              · rw [e]; exact .tail _ (.tail _ (.head _))
              · rcases List.mem_cons.mp hp with e | hp
                · rw [e]; exact .tail _ (.tail _ (.tail _ (.head _)))
                · exact .tail _ (.tail _ (.tail _ (.tail _ (.tail _ hp))))
        · rw [innerF_succ pr b i' j' hr, hany, if_neg (by decide), List.append_nil]
          exact hL
      · rename (_ : Bool) = false => hany
        rename Fr _ _ _ _ => F8
        rename News _ _ _ _ => N8
        have hnl : ns'.length ≤ 10 := hshort _ (List.mem_of_getElem? hr)
        refine add_D F8 N8 (News.isList N8 (.tail _ (.tail _ (.tail _ (.tail _ (.tail _ (.head _))))))) (News.isList N8 (.head _)) (by rw [hns.length, PySem.sizeLine_eq]; show _ + 1 ≤ _; omega) ?_
        intro D9 h9 F9 N9 hlt
        have hsplit : ∀ p ∈ (s.heap.objs.size + 1, oc) :: (P, PySem.W.listOf pv.toArray kp) :: (I, oI) :: ((nl ++ [(D9, PySem.W.listOf (vs' ++ [Value.int (j' : Nat) t']).toArray 0)]) ++ pl), p = (D9, PySem.W.listOf (vs' ++ [Value.int (j' : Nat) t']).toArray 0) ∨ p ∈ (s.heap.objs.size + 1, oc) :: (P, PySem.W.listOf pv.toArray kp) :: (I, oI) :: (nl ++ pl) := by
          intro p hp
          rcases List.mem_cons.mp hp with e | hp
          · exact .inr (e ▸ .head _)
          · rcases List.mem_cons.mp hp with e | hp
            · exact .inr (e ▸ .tail _ (.head _))
            · rcases List.mem_cons.mp hp with e | hp
              · exact .inr (e ▸ .tail _ (.tail _ (.head _)))
              · rcases List.mem_append.mp hp with hp | hp
                · rcases List.mem_append.mp hp with hp | hp
                  · exact .inr (.tail _ (.tail _ (.tail _ (List.mem_append_left _ hp))))
                  · exact .inl (List.mem_singleton.mp hp)
                · exact .inr (.tail _ (.tail _ (.tail _ (List.mem_append_right _ hp))))
        have off6' := off6.mem
        have o6' := off1_mem o6
        have l1 := hlt _ (.tail _ (.head _))
        have l2 := hlt _ (.tail _ (.tail _ (.head _)))
        have l3 := hlt _ (.tail _ (.tail _ (.tail _ (.head _))))
        have l4 := hlt _ (.tail _ (.tail _ (.tail _ (.tail _ (.head _)))))
        refine LCg.CompEnd.intro F9 N9 ((I', oI') :: (s.heap.objs.size + 1, oc) :: (P, PySem.W.listOf pv.toArray kp) :: (I, oI) :: ((nl ++ [(D9, PySem.W.listOf (vs' ++ [Value.int (j' : Nat) t']).toArray 0)]) ++ pl)) (fun p hp => ?_) (LCg.Off3.of fun p hp => ?_) trivial ⟨_, rfl, off1_of fun p hp => ?_, nl ++ [(D9, PySem.W.listOf (vs' ++ [Value.int (j' : Nat) t']).toArray 0)], rfl, ?_, hj'⟩
        · rcases List.mem_cons.mp hp with e | hp
          · rw [e]; exact .tail _ (.tail _ (.head _))
          · rcases List.mem_cons.mp hp with e | hp
            · rw [e]; exact .tail _ (.tail _ (.tail _ (.head _)))
            · rcases List.mem_cons.mp hp with e | hp
              · rw [e]; exact .tail _ (.tail _ (.tail _ (.tail _ (.head _))))
              · rcases List.mem_cons.mp hp with e | hp
                · rw [e]; exact .tail _ (.tail _ (.tail _ (.tail _ (.tail _ (.head _)))))
                · rcases hsplit p hp with e | hp
                  · rw [e]; exact .head _
                  · exact .tail _ (.tail _ (.tail _ (.tail _ (.tail _ (.tail _ (.tail _ hp))))))
        · rcases List.mem_cons.mp hp with e | hp
          · rw [e]; exact off6' _ (.head _)
          · rcases hsplit p hp with e | hp
            · rw [e]; exact ⟨Nat.ne_of_gt l1, Nat.ne_of_gt l2, Nat.ne_of_gt l3⟩
            · exact off6' _ (.tail _ hp)
        · rcases hsplit p hp with e | hp
          · rw [e]; exact Nat.ne_of_gt l4
          · exact o6' _ hp
        · rw [innerF_succ pr b i' j' hr, hany, if_pos (by decide)]
          exact hL.append (.cons (hns.append (.cons _ _ .nil)) .nil)
    · clear N5 F5
      rintro D' ys nw h7 tk7 ⟨nl, rfl, hL, -⟩ F6 N6 off6
      rw [List.size_toArray, hpv, innerF_end] at hL
      have hyl : ys.length ≤ 2500 := by
        rw [hL.length]
        have h3 := flat_le b pr
        have h4 := Nat.mul_le_mul hpl hbi
        omega
      refine add_D F6 N6 (News.isList N6 (.tail _ (.tail _ (.head _)))) (News.isList N6 (.head _)) (by rw [PySem.sizeLine_eq]; omega) ?_
      intro D8 h8 F8 N8 hlt
      walk_at "MY:w"
      rename Fr _ _ _ _ => F9
      rename News _ _ _ _ => N9
      refine ⟨⟨D8, 0, pv ++ ys, pr ++ (pr.map (newsF b)).flatten, pl ++ nl⟩, _, _, _, _, rfl, F9, N9, fun p hp => ?_, List.forall_mem_cons.mpr ⟨.tail _ (.tail _ (.tail _ (.tail _ (.head _)))), List.forall_mem_cons.mpr ⟨.tail _ (.tail _ (.head _)), List.forall_mem_nil _⟩⟩, List.forall_mem_cons.mpr ⟨rfl, List.forall_mem_nil _⟩, ?_, ⟨hJ1.append hL, by dsimp only; rw [e1, placedF_snoc, ← hJ2]; rfl⟩⟩
      · rcases List.mem_cons.mp hp with e | hp
        · rw [e]; exact .head _
        · refine .tail _ (.tail _ (.tail _ (.tail _ (.tail _ ?_))))
          rcases List.mem_append.mp hp with hp | hp
          · exact List.mem_append_right _ hp
          · exact List.mem_append_left _ hp
      · intro z h2 h3'
        simp only [List.forall_mem_cons, List.not_mem_nil, false_implies, implies_true, and_true, ne_eq] at h2
        simp [h2]
  · rintro ⟨P, kp, pv, pr, pl⟩ u h6 tk6 oc ⟨hJ1, hJ2⟩ F5 N5
    clear F4 N4
    have hvl : vs.length = bs.length := by rw [hi.length, List.length_map]
    dsimp only [kstB] at F5 N5 hJ1 hJ2
    rw [hvl, List.take_length] at hJ2
    have hlen5 := placedF_len _ bs rfl hb
    have hshort : ∀ r ∈ pr, r.length ≤ 4 := fun r hr => by
      rw [hJ2] at hr
      have := placedF_short _ bs rfl r hr; omega
    rw [← hJ2, hlen] at hlen5
    have hpv := hJ1.length
    walk_at "MY:w"
    refine For_invV s.heap rfl rfl ?_
    walk_at "MY:w"
    rename_i Wa _ l1 _ F6 N6
    have hne : pr ≠ [] := by
      rw [hJ2]
      have : ∀ n (bs : List Nat), bs.length = n → [] ∈ placedF bs := by
        intro n
        induction n with
        | zero => intro bs h; rw [List.length_eq_zero_iff.mp h]; exact .head _
        | succ n ih =>
          intro bs h
          have hne : bs ≠ [] := by intro e; subst e; cases h
          rw [← List.dropLast_concat_getLast hne, placedF_snoc]
          exact List.mem_append_left _ (ih _ (by rw [List.length_dropLast]; omega))
      exact List.ne_nil_of_mem (this _ bs rfl)
    have hWP : P < Wa := l1 _ (.head _)
    have hoff := ll_ne N6 (.tail _ (.head _)) hJ1 hne
    refine' loop_own (σ := List Value × List Int × Nat) (vs := pv) (ep := kp) (fun c => (Wa, PySem.W.listOf c.1.toArray c.2.2) :: pl) (fun _ => []) [] (fun i c => IntsAre c.1 c.2.1 ∧ c.2.1 = (pr.take i).foldl bumpW [0, 0, 0, 0, 0] ∧ c.2.1.length = 5) ([.int 0 tk6, .int 0 (tk6 + 1), .int 0 (tk6 + 1 + 1), .int 0 (tk6 + 1 + 1 + 1), .int 0 (tk6 + 1 + 1 + 1 + 1)], [0, 0, 0, 0, 0], 0) rfl F6
      (kst_newsOf N6 fun p hp => ?_) (fun p hp => ?_) (List.forall_mem_nil _) ⟨.cons _ _ (.cons _ _ (.cons _ _ (.cons _ _ (.cons _ _ .nil)))), rfl, rfl⟩ ?_ ?_
    · rcases List.mem_cons.mp hp with e | hp
      · rw [e]; exact .tail _ (.head _)
      · rcases List.mem_cons.mp hp with e | hp
        · rw [e]; exact .head _
        · exact .tail _ (.tail _ (List.mem_append_left _ hp))
    · rcases List.mem_cons.mp hp with e | hp
      · rw [e]; exact Nat.ne_of_gt hWP
      · exact hoff p hp (.tail _ (.tail _ (List.mem_append_left _ hp)))
    · rintro i v ⟨wv, wi, ek⟩ u h8 tk8 own hv ⟨hI1, hI2, hI3⟩ hsep F7 N7 hlP
      clear F6 N6
      obtain ⟨a, vs', ns', k', rfl, hmem, hr, hns⟩ := hJ1.get i v hv
      have hns4 := hshort _ (List.mem_of_getElem? hr)
      have haW : a < Wa := l1 _ (.tail _ (List.mem_append_left _ hmem))
      have haW' := ltN haW
      have hsep2 : OwnOff (pl ++ own) [Wa] := fun p hp b hb => by
        rw [List.mem_singleton.mp hb]
        rcases List.mem_append.mp hp with hp | hp
        · exact Nat.ne_of_lt (l1 _ (.tail _ (List.mem_append_left _ hp)))
        · exact hsep p hp Wa (.head _)
      have N8 := kst_newsOf (l' := (Wa, PySem.W.listOf wv.toArray ek) :: (a, PySem.W.listOf vs'.toArray k') :: (pl ++ own)) N7 (fun p hp => by
        rcases List.mem_cons.mp hp with e | hp
        · rw [e]; exact .head _
        · rcases List.mem_cons.mp hp with e | hp
          · rw [e]; exact .tail _ (List.mem_append_left _ hmem)
          · exact .tail _ hp)
      clear N7
      have hown : ∀ p ∈ pl ++ own, p ∈ pl ++ own := fun _ h => h
      generalize hre : pl ++ own = rest at N8 hsep2
      dsimp only [kstB] at F7 hI1 hI2 hI3
      clear hlP
      walk_at "MY:t"
      rename IntsAre (List.set _ _ _) _ => hI4
      rename Fr _ _ _ _ => F9
      rename News _ _ _ _ => N9
      subst hre
      refine lend (wv.set ns'.length (Value.int (wi.getD ns'.length 0 + 1) (tk8 + 1 + 1 + 1)), wi.set ns'.length (wi.getD ns'.length 0 + 1), ek) F9 N9 (fun p hp => ?_) (fun p hp => .tail _ (.tail _ (List.mem_append_right _ hp))) hsep (List.forall_mem_nil _) (by walk_at "MY:same") ⟨hI4, ?_, by dsimp only; rw [List.length_set]; exact hI3⟩
      · rcases List.mem_cons.mp hp with e | hp
        · rw [e]; exact .head _
        · exact .tail _ (.tail _ (List.mem_append_left _ hp))
      · dsimp only
        rw [List.take_add_one, hr, List.foldl_append, ← hI2]
        rfl
    · rintro ⟨wv, wi, ek⟩ u h8 tk8 ⟨hI1, hI2, hI3⟩ F7 N7
      clear F6 N6
      dsimp only [kstB] at F7 N7 hI1 hI2
      rw [hpv, List.take_length] at hI2
      walk_at "MY:w"
      rename Fr _ _ _ _ => F8
      rename News _ _ _ _ => N8
      have e : wi = waysF bs := by rw [hI2, hJ2]; rfl
      rw [e] at hI1
      exact h Wa wv ek _ _ hI1 F8.keep (N8 _ (.head _)).1 (N8 _ (.head _)).2.2
end Mine
-- C02e
set_option maxHeartbeats 4000000
namespace Mine
local macro_rules | `(tactic| walk_at "MY:w") => `(tactic| repeat' (first | (k_unfold; (try dsimp only)) | (k_end; fail) | (
  (fail_if_success (with_reducible show wpAny _ _ (compareOp CmpOp.Eq (Value.ref _) (Value.ref _)) _ _ _));
  (fail_if_success (with_reducible show wpAny _ _ (call (Value.ref _) _) _ _ _));
  (first | walk1 | (dsimp only; walk1)))))
theorem eqv_ints : ∀ ns ms : List Int, PyData.eqvAll (ns.map PyData.int) (ms.map PyData.int) = decide (ns = ms)
  | [], [] => by simp [PyData.eqvAll]
  | [], _ :: _ => by simp [PyData.eqvAll]
  | _ :: _, [] => by simp [PyData.eqvAll]
  | a :: r, b :: t => by
    simp only [List.map_cons, PyData.eqvAll, PyData.eqv, eqv_ints r t]
    by_cases h : a = b <;> by_cases h' : r = t <;> simp [h, h']
def normF (l : List Nat) : List Int × Nat := ((wsF l).1, (wsF l).2.1)
theorem norm_shaped (ns : List Int) (b : Int) : SeqAt.shaped (.tuple [.tuple (ns.map PyData.int), .int b]) = true := by
  simp [SeqAt.shaped, PyData.canLay0, PyData.canLayAll0, PyData.depth, PyData.depthAll, ke_canLayAll0, ke_depthAll]
theorem equal_2 {w : World} {dp : Nat} {fr : Option (List Env)} {gd : Option (List Code)} {un : Nat} {s : Shared} {mg mb : Str → Option Value} {p : Program} {loose : List Str} {mean : ExcName → Option Value} {h₀ : Heap} {L : Addr} {m : Str → Option Value} {news : List (Addr × Obj)} {i j : WsI} {Q E : Value → Shared → Prop}
    (F : Fr h₀ L s.heap m) (X : (hd02.heap_39 w.params).In h₀) (T : Top p loose mean mg mb h₀) (N : News h₀ L s.heap news) (hm : ∀ p ∈ wsLed 100 w.params i ++ wsLed 100 w.params j, p ∈ news) (hi : IntsAre i.vs (wsF i.x.cps.toList).1) (hj : IntsAre j.vs (wsF j.x.cps.toList).1) (hroom : dp + 2 < recursionLimit) (hun : un + 70 < cLine)
    (h : ∀ h' tk', Fr h₀ L h' m → News h₀ L h' news → Q (.bool (decide (normF i.x.cps.toList = normF j.x.cps.toList))) { s with heap := h', toks := tk' }) :
    wpAny (model prog2 w) { handled := none, depth := dp, frames := fr, guards := gd, units := un } (call (.ref 76) [.ref i.y, .ref j.y]) Q E s := by
  refine wpAny_call (call_led (binds := [(Str.ofString "self", .ref i.y), (Str.ofString "other", .ref j.y)]) _ F X N hm rfl rfl T.nolimit (by show dp < _; omega) (BindsTo.of_eq rfl) (locs rfl) ?_)
  intro g L' h3 hst F3 N3 hback
  have X2 := X.keeps hst
  have T2 := T.keeps hst
  clear X T F N
  dsimp only [wsLed, List.cons_append, List.nil_append] at N3
  walk_at "MY:w"
  rename Fr _ _ _ _ => F5
  rename News _ _ _ _ => N5
  refine eq_dataH (reads_tuple_at (News.get N5 (.head _)) rfl rfl (.cons (reads_newDataT (News.isTup N5 (.tail _ (.head _))) (ke_carried hi)) (.cons (Reads.int _ _) .nil))) (reads_tuple_at (News.get N5 (.tail _ (.tail _ (.tail _ (.tail _ (.head _)))))) rfl rfl (.cons (reads_newDataT (News.isTup N5 (.tail _ (.tail _ (.tail _ (.tail _ (.tail _ (.head _))))))) (ke_carried hj)) (.cons (Reads.int _ _) .nil)))
    (norm_shaped _ _) (norm_shaped _ _) (by show un + 3 + 64 < _; omega) ?_
  obtain ⟨F6, N6⟩ := hback F5 N5 (fun p hp => hp)
  have e : PyData.eqv (.tuple [.tuple ((wsF i.x.cps.toList).1.map PyData.int), .int ((wsF i.x.cps.toList).2.1 : Nat)]) (.tuple [.tuple ((wsF j.x.cps.toList).1.map PyData.int), .int ((wsF j.x.cps.toList).2.1 : Nat)]) = decide (normF i.x.cps.toList = normF j.x.cps.toList) := by
    simp only [PyData.eqv, PyData.eqvAll, eqv_ints, Bool.and_true]
    unfold normF
    by_cases h1 : (wsF i.x.cps.toList).1 = (wsF j.x.cps.toList).1 <;> by_cases h2 : (wsF i.x.cps.toList).2.1 = (wsF j.x.cps.toList).2.1
    · rw [decide_eq_true h1, h2, h1]; simp
    · rw [decide_eq_false (fun q : (_, _) = (_, _) => h2 (Prod.mk.inj q).2)]; simp; intro _; omega
    · rw [decide_eq_false (fun q : (_, _) = (_, _) => h1 (Prod.mk.inj q).1)]; simp [h1]
    · rw [decide_eq_false (fun q : (_, _) = (_, _) => h1 (Prod.mk.inj q).1)]; simp [h1]
  rw [e]
  show Q (.bool _) _
  exact h _ _ F6 (kst_newsOf N6 fun p hp => List.mem_append_right _ hp)
end Mine
-- LeadP
namespace Mine
/-- the mail behind k columns -/
def mailF (bs : List Nat) (es : List (List Nat)) : Nat → List Nat
  | 0 => []
  | k + 1 => dotF true (eolF false (mailF bs es k)) ++ List.replicate (bs.getD k 0 + 1) 46 ++ es.getD k []
def rowE (es : List (List Nat)) (k j : Nat) : List Nat := if j + 1 = k then es.getD j [] else [13, 10]
theorem mail_closed (bs : List Nat) (es : List (List Nat)) (n : Nat) (he : ∀ j, j < n → isEnd (es.getD j [])) : ∀ k, k ≤ n → mailF bs es k = ((List.range k).map fun j => List.replicate (bs.getD j 0 + (k - 1 - j) + 1) 46 ++ rowE es k j).flatten := by
  intro k
  induction k with
  | zero => intro _; rfl
  | succ k ih =>
    intro hk
    have hE : ∀ j ∈ List.range k, isEnd (rowE es k j) := fun j hj => by
      unfold rowE
      split
      · exact he j (by have := List.mem_range.mp hj; omega)
      · exact .inr (.inr rfl)
    have e1 : ((List.range k).map fun j => List.replicate (bs.getD j 0 + (k - 1 - j) + 1) 46 ++ [13, 10]) = (((List.range k).map fun j => bs.getD j 0 + (k - 1 - j)).map fun v => List.replicate (v + 1) 46 ++ [13, 10]) := by rw [List.map_map]; rfl
    rw [mailF, ih (by omega), eol_rows (fun j => bs.getD j 0 + (k - 1 - j)) (fun j => rowE es k j) _ hE, e1, dot_rows, List.map_map, List.range_succ, List.map_append, List.flatten_append, List.map_singleton, List.flatten_singleton, List.append_assoc]
    congr 1
    · congr 1
      refine List.map_congr_left fun j hj => ?_
      have := List.mem_range.mp hj
      unfold rowE
      rw [if_neg (by omega)]
      show List.replicate (bs.getD j 0 + (k - 1 - j) + 2) 46 ++ _ = _
      rw [show bs.getD j 0 + (k - 1 - j) + 2 = bs.getD j 0 + (k + 1 - 1 - j) + 1 by omega]
    · unfold rowE
      rw [if_pos rfl, show k + 1 - 1 - k = 0 by omega, Nat.add_zero]
def leadV (bs : List Nat) : List Nat := (List.range 4).map fun j => bs.getD j 0 + (3 - j)
theorem mail_even (bs : List Nat) (es : List (List Nat)) (he : ∀ j, j < 4 → isEnd (es.getD j [])) : eolF false (mailF bs es 4) = ((leadV bs).map fun v => List.replicate (v + 1) 46 ++ [13, 10]).flatten := by
  have hE : ∀ j ∈ List.range 4, isEnd (rowE es 4 j) := fun j hj => by
    unfold rowE
    split
    · exact he j (List.mem_range.mp hj)
    · exact .inr (.inr rfl)
  rw [mail_closed bs es 4 he 4 (Nat.le_refl _), eol_rows (fun j => bs.getD j 0 + (4 - 1 - j)) (fun j => rowE es 4 j) _ hE]
  unfold leadV
  rw [List.map_map]; rfl
theorem flat_len (g : Nat → List Nat) (m : Nat) : ∀ V : List Nat, (∀ v ∈ V, (g v).length ≤ m) → (V.map g).flatten.length ≤ V.length * m
  | [], _ => by simp
  | v :: V, h => by
    rw [List.map_cons, List.flatten_cons, List.length_append, List.length_cons, Nat.add_mul]
    have := flat_len g m V fun u hu => h u (.tail _ hu)
    have := h v (.head _)
    omega
theorem end_len {e : List Nat} (h : isEnd e) : e.length ≤ 2 := by rcases h with rfl | rfl | rfl <;> decide
theorem mail_len (bs : List Nat) (es : List (List Nat)) (he : ∀ j, j < 4 → isEnd (es.getD j [])) (hb : ∀ j, bs.getD j 0 ≤ 4) (k : Nat) (hk : k ≤ 4) : (mailF bs es k).length ≤ 50 := by
  rw [mail_closed bs es 4 he k hk]
  refine Nat.le_trans (flat_len _ 10 _ fun j hj => ?_) (by rw [List.length_range]; omega)
  have h1 := List.mem_range.mp hj
  have h2 := hb j
  have h3 : (rowE es k j).length ≤ 2 := by
    unfold rowE
    split
    · exact end_len (he j (by omega))
    · exact Nat.le_refl _
  rw [List.length_append, List.length_replicate]; omega
/-- what the lead becomes by the two replacings -/
theorem rep1N (V : List Nat) : RepR [46, 13, 10] [9] (V.map fun v => List.replicate (v + 1) 46 ++ [13, 10]).flatten (V.map fun v => List.replicate v 46 ++ [9]).flatten := by
  have h := rep1 (V.map fun (v : Nat) => (v : Int))
  rw [List.map_map, List.map_map] at h
  exact h
theorem rep2N (V : List Nat) : RepR [46] [32] (V.map fun v => List.replicate v 46 ++ [9]).flatten (rowsT V) := by
  have h := rep2 (V.map fun (v : Nat) => (v : Int))
  rw [List.map_map, List.map_map] at h
  exact h
theorem leadV_bound (bs : List Nat) (hb : ∀ j, bs.getD j 0 ≤ 4) : ∀ v ∈ leadV bs, v ≤ 7 := by
  intro v hv
  obtain ⟨j, _, rfl⟩ := List.mem_map.mp hv
  have := hb j
  omega
theorem rowsT_plain (V : List Nat) : (tx (rowsT V)).cps.all (fun c => c == 32 || c == 9) = true := by
  rw [← Array.all_toList, List.all_eq_true]
  intro x hx
  obtain ⟨l, hl, hx⟩ := List.mem_flatten.mp hx
  obtain ⟨v, _, rfl⟩ := List.mem_map.mp hl
  rcases List.mem_append.mp hx with h | h
  · rw [List.eq_of_mem_replicate h]; rfl
  · rw [List.mem_singleton.mp h]; rfl
theorem getD_le {bs : List Nat} (hb : ∀ b ∈ bs, b ≤ 4) (j : Nat) : bs.getD j 0 ≤ 4 := by
  rw [List.getD_eq_getElem?_getD]
  by_cases h : j < bs.length
  · rw [List.getElem?_eq_getElem h]; exact hb _ (List.getElem_mem h)
  · rw [List.getElem?_eq_none (by omega)]; exact Nat.zero_le _
end Mine
-- C02l
set_option maxHeartbeats 4000000
namespace Mine
local macro_rules | `(tactic| walk_at "MY:n") => `(tactic| ((first | walk1 | (dsimp only; walk1))))
local macro_rules | `(tactic| walk_at "MY:w") => `(tactic| repeat' (first | (k_unfold; (try dsimp only)) | (k_end; fail) | (
  (fail_if_success (with_reducible show wpAny _ _ (exec (Stmt.For _ _ _ _ _) _) _ _ _));
  (fail_if_success (with_reducible show wpAny _ _ (subscriptTail _ _ _ _) _ _ _));
  (fail_if_success (with_reducible show wpAny _ _ (binaryOp Operator.Mult _ _) _ _ _));
  (fail_if_success (with_reducible show wpAny _ _ (binaryOp Operator.Add (Value.str _ _) _) _ _ _));
  (fail_if_success (with_reducible show wpAny _ _ (call (Value.builtin "str.replace") _) _ _ _));
  (fail_if_success (with_reducible show wpAny _ _ (pyIter _) _ _ _));
  (fail_if_success (with_reducible show wpAny _ _ (call (Value.ref _) _) _ _ _));
  (first | walk1 | (dsimp only; walk1)))))
local macro_rules | `(tactic| walk_at "MY:same") => `(tactic| (intro z hz h2 h3; (simp only [List.forall_mem_cons, List.not_mem_nil, false_implies, implies_true, and_true, ne_eq] at h2); (simp only [List.contains_cons, List.contains_nil, Bool.or_false, Bool.or_eq_false_iff, beq_eq_false_iff_ne, ne_eq] at h3); (simp [hz, h2, h3])))
section
variable {prog : Program} {w : World} {A : Around} {s : Shared} {K : Frag}
/-- a def entered; what is led may be read (and changed) within -/
theorem call_led2 {h₀ : Heap} {L : Addr} {m : Str → Option Value} {news : List (Addr × Obj)} {R : Result → Shared → Prop} {name qual : Str} {params : Arguments} {body : List Stmt} {scope : Scope} {dV kV doc pm cdv ct oc : Value} {an od : Option Addr} {osl : Array (Option Value)} {f : Addr} {args : Args} {binds : List (Str × Value)} (led : List (Addr × Obj))
    (F : Fr h₀ L s.heap m) (X : K.In h₀) (N : News h₀ L s.heap news) (hm : ∀ p ∈ led, p ∈ news) (ho : K.lookup f = some ⟨oc, od, .func (fnOf name qual params body scope dV kV doc pm an cdv ct), osl⟩) (hcd : codeIn K cdv qual = true) (hlim : h₀.NoLimit) (hroom : A.depth < recursionLimit)
    (hbind : BindsTo s (fnOf name qual params body scope dV kV doc pm an cdv ct) args binds) (hloc : ∀ y ∈ binds, scope.names.lookup y.1 = some .local)
    (h : ∀ g L' h₁, (∀ a, g.get? a = none → a ∉ led.map (·.1) → s.heap.get? a = none) → h₀.StaysIn g → Fr g L' h₁ (fun y => binds.reverse.lookup y) → News g L' h₁ led →
      (∀ {h5 : Heap} {m5 : Str → Option Value} {news5 : List (Addr × Obj)}, Fr g L' h5 m5 → News g L' h5 news5 → (∀ p ∈ led, p ∈ news5) → Fr h₀ L h5 m ∧ News h₀ L h5 (news5 ++ news)) →
      wpAny (model prog w) (A.deeper (envOf qual scope L' f cdv)) (execs body (envOf qual scope L' f cdv))
        (fun fl s' => R (.ok (.ret (match fl with | .ret v => v | _ => .none))) s') (fun _ _ => False)
        { s with heap := h₁, toks := s.toks + binds.length })
    (hco : scope.isCoroutine = false := by rfl) (hgen : scope.isGenerator = false := by rfl) (hk : scope.kind = .function := by rfl)
    (hcell : ∀ x ∈ scope.names, x.2 ≠ .cell := by decide) : codeAny (model prog w) A (.call (.ref f) args) R s := by
  have N1 : News h₀ L s.heap led := fun p hp => N p (hm p hp)
  refine codeAny_call_def (fd := fnOf name qual params body scope dV kV doc pm an cdv ct) (body := body) (binds := binds) hroom (X.keeps F.keep _ _ ho) rfl (hlim.keeps F.keep) (codeRec_of (X.keeps F.keep) hcd) rfl hbind hcell hloc (fun h₁ hns hk₁ => ?_) hco hgen hk
  refine wpAny_mono (h (hideAll s.heap (led.map (·.1))) s.heap.objs.size h₁ (fun a ha hn => by
    cases q : s.heap.get? a with
    | none => rfl
    | some o => rw [hideAll_get _ q hn] at ha; cases ha) (hide_stays F N1) ⟨hns, fun b o e => hk₁ b o (of_hideAll _ e), Nat.le_of_eq (hideAll_size _ _)⟩ (fun p hp => ⟨hk₁ _ _ (N1 p hp).1, Nat.ne_of_lt (Heap.lt_size (N1 p hp).1), hideAll_none _ (List.mem_map_of_mem hp)⟩) fun F5 N5 hl => back_led F N hm F5 N5 hl) (fun _ _ x => x) fun _ _ x => x.elim
end
theorem lead_2 {w : World} {dp : Nat} {fr : Option (List Env)} {gd : Option (List Code)} {un : Nat} {s : Shared} {mg mb : Str → Option Value} {p : Program} {loose : List Str} {mean : ExcName → Option Value} {h₀ : Heap} {L : Addr} {m : Str → Option Value} {news : List (Addr × Obj)} {l e : Addr} {vs zs : List Value} {kl ke : Nat} {bs : List Nat} {es : List (List Nat)} {Q E : Value → Shared → Prop}
    (F : Fr h₀ L s.heap m) (X : (hd02.heap_39 w.params).In h₀) (T : Top p loose mean mg mb h₀) (N : News h₀ L s.heap news) (hml : (l, PySem.W.listOf vs.toArray kl) ∈ news) (hme : (e, PySem.W.listOf zs.toArray ke) ∈ news)
    (hi : IntsAre vs (bs.map fun (b : Nat) => (b : Int))) (hb : ∀ b ∈ bs, b ≤ 4) (hlen : bs.length = 4) (hz : ∀ j, j < 4 → ∃ t, zs[j]? = some (.str (tx (es.getD j [])) t)) (he : ∀ j, j < 4 → isEnd (es.getD j [])) (hroom : dp + 3 < recursionLimit)
    (h : ∀ (i : WsI) h' tk', i.x = tx (rowsT (leadV bs)) → IntsAre i.vs (wsF i.x.cps.toList).1 → (∀ p ∈ wsLed 100 w.params i, s.heap.get? p.1 = none) → Fr h₀ L h' m → News h₀ L h' (wsLed 100 w.params i ++ news) → Q (.ref i.y) { s with heap := h', toks := tk' }) :
    wpAny (model prog2 w) { handled := none, depth := dp, frames := fr, guards := gd, units := un } (call (.ref 147) [.ref l, .ref e]) Q E s := by
  refine wpAny_call (call_led2 (binds := [(Str.ofString "board", .ref l), (Str.ofString "ends", .ref e)]) [(l, PySem.W.listOf vs.toArray kl), (e, PySem.W.listOf zs.toArray ke)] F X N (List.forall_mem_cons.mpr ⟨hml, List.forall_mem_cons.mpr ⟨hme, List.forall_mem_nil _⟩⟩) rfl rfl T.nolimit (by show dp < _; omega) (BindsTo.of_eq rfl) (locs rfl) ?_)
  intro g L' h3 hfr hst F3 N3 hback
  have X2 := X.keeps hst
  have T2 := T.keeps hst
  have hbj := getD_le hb
  have hlv : (leadV bs).length = 4 := by unfold leadV; rw [List.length_map, List.length_range]
  clear X T F N
  walk_at "MY:w"
  refine wpAny_toks ?_
  refine For_invV g rfl rfl ?_
  walk_at "MY:w"
  rename Fr _ _ _ _ => F4
  rename News _ _ _ _ => N4
  rename IsRange _ _ _ _ _ _ _ _ => hr
  refine' loop_range (σ := List Nat × Tok) (n := 4) (fun _ => [(l, PySem.W.listOf vs.toArray kl), (e, PySem.W.listOf zs.toArray ke)]) (fun c => [(Str.ofString "mail", .str (tx c.1) c.2)]) [] (fun k c => c.1 = mailF bs es k) ([], _) rfl hr ⟨by omega, by omega⟩ ⟨by omega, by omega⟩ (by omega) F4 N4 (List.forall_mem_cons.mpr ⟨rfl, List.forall_mem_nil _⟩) rfl ?_ ?_
  · rintro k tk ⟨ml, tm⟩ u h5 tk5 own hk hJ hsep F5 N5
    clear F4 N4 hr
    have hml5 := mail_len bs es he hbj k (by omega)
    have hml6 := mail_len bs es he hbj (k + 1) (by omega)
    have hmk : mailF bs es (k + 1) = dotF true (eolF false ml) ++ List.replicate (bs.getD k 0 + 1) 46 ++ es.getD k [] := by
      dsimp only at hJ; rw [hJ]; rfl
    have hbk := hbj k
    obtain ⟨tz, hzk⟩ := hz k hk
    obtain ⟨tv, hvk⟩ := hi.get k (bs.getD k 0 : Nat) (by
      rw [List.getElem?_map, List.getD_eq_getElem?_getD, List.getElem?_eq_getElem (by omega)]; rfl)
    dsimp only [kstB, List.contains_nil, List.cons_append, List.nil_append, List.map] at F5 N5 hJ hsep
    rw [← hJ] at hml5
    rw [hmk, List.length_append, List.length_append] at hml6
    simp only [Int.zero_add] at F5
    walk_at "MY:w"
    rename Fr _ _ _ _ => F6
    rename News _ _ _ _ => N6
    refine wpAny_call (quote_1 (X2.keeps F6.keep) (T2.keeps F6.keep) (by show dp + 1 < _; omega) (by show ml.toArray.size ≤ _; rw [List.size_toArray]; omega) ?_)
    intro t7 h7 tk7 hst7
    have F7 := fr_stays F6 hst7
    have N7 := news_stays N6 hst7
    clear F6 N6 hst7
    change wpAny _ _ _ _ _ _
    walk_at "MY:w"
    dsimp only
    refine item_list (News.isList N7 (.head _)) (by omega) (by omega) (by rw [Int.toNat_natCast, List.getElem?_toArray]; exact hvk) ?_
    walk_at "MY:w"
    refine mulT tx_dot (by omega) (by omega) ?_
    intro t8 k8
    walk_at "MY:w"
    change wpAny _ _ (binaryOp .Add (.str (tx (dotF true (eolF false ml))) _) _) _ _ _
    rw [show (((bs.getD k 0 : Nat) : Int) + 1).toNat = bs.getD k 0 + 1 by omega]
    refine addT rfl rfl (by omega) ?_
    intro t9 k9
    walk_at "MY:w"
    rename Fr _ _ _ _ => F8
    rename News _ _ _ _ => N8
    refine item_list (News.isList N8 (.tail _ (.head _))) (by omega) (by omega) (by rw [Int.toNat_natCast, List.getElem?_toArray]; exact hzk) ?_
    walk_at "MY:w"
    refine addT rfl rfl (by rw [List.length_append]; omega) ?_
    intro t10 k10
    walk_at "MY:w"
    rename Fr _ _ _ _ => F9
    rename News _ _ _ _ => N9
    refine lend (_, _) F9 N9 (fun p hp => List.mem_append_left own hp) (fun p hp => .tail _ (.tail _ hp)) hsep (List.forall_mem_cons.mpr ⟨rfl, List.forall_mem_nil _⟩) (by walk_at "MY:same") ?_
    rw [hmk]
  · rintro ⟨ml, tm⟩ u h5 tk5 hJ F5 N5
    clear F4 N4 hr
    have hml5 := mail_len bs es he hbj 4 (Nat.le_refl _)
    dsimp only [kstB, List.contains_nil] at F5 N5 hJ
    rw [← hJ] at hml5
    intro hk5
    have hk5' : 0 < tk5 := Nat.lt_of_lt_of_le (Nat.succ_pos _) hk5
    clear hk5
    walk_at "MY:w"
    rename Fr _ _ _ _ => F6
    rename News _ _ _ _ => N6
    refine wpAny_toks ?_
    refine wpAny_call (eols_1 (X2.keeps F6.keep) (T2.keeps F6.keep) (by show dp + 1 < _; omega) (by show ml.toArray.size ≤ _; rw [List.size_toArray]; omega) ?_)
    intro t7 h7 tk7 hst7 hk7
    have hk7' : 0 < tk7 := Nat.lt_of_lt_of_le hk5' hk7
    have F7 := fr_stays F6 hst7
    have N7 := news_stays N6 hst7
    clear F6 N6 hst7 hk7
    rw [show (tx ml).cps.toList = ml from rfl, hJ, mail_even bs es he]
    change wpAny _ _ _ _ _ _
    walk_at "MY:w"
    change wpAny _ _ (call (.builtin "str.replace") [.str (tx ((leadV bs).map fun v => List.replicate (v + 1) 46 ++ [13, 10]).flatten) t7, _, _]) _ _ _
    have hV8 := leadV_bound bs hbj
    have hB1 : ((leadV bs).map fun v => List.replicate (v + 1) 46 ++ [13, 10]).flatten.length ≤ 40 := by
      refine Nat.le_trans (flat_len _ 10 _ fun v hv => ?_) (by rw [hlv]; decide)
      have := hV8 v hv
      rw [List.length_append, List.length_replicate]; show v + 1 + 2 ≤ _; omega
    have hB2 : ((leadV bs).map fun v => List.replicate v 46 ++ [9]).flatten.length ≤ 40 := by
      refine Nat.le_trans (flat_len _ 10 _ fun v hv => ?_) (by rw [hlv]; decide)
      have := hV8 v hv
      rw [List.length_append, List.length_replicate]; show v + 1 ≤ _; omega
    have hB3 : (rowsT (leadV bs)).length ≤ 40 := by
      refine Nat.le_trans (flat_len _ 10 _ fun v hv => ?_) (by rw [hlv]; decide)
      have := hV8 v hv
      rw [List.length_append, List.length_replicate]; show v + 1 ≤ _; omega
    refine wpAny_toks ?_
    refine SC.replaceW (Nat.ne_of_gt hk7') (Nat.succ_ne_zero _) (Nat.ne_of_lt (Nat.lt_succ_self _)) (by decide) (by rw [tx_len]; exact Nat.le_trans hB1 (by decide)) (by decide) ?_
    intro t12 k12 hk12
    rw [show Txt.replace (tx ((leadV bs).map fun v => List.replicate (v + 1) 46 ++ [13, 10]).flatten) (Str.ofString ".\x0d\n") (Str.ofString "\t") = _ from rep_txt (y := [46, 13, 10]) (z := [9]) (by decide) (rep1N (leadV bs))]
    walk_at "MY:w"
    refine SC.replaceW (Nat.ne_of_gt (Nat.lt_of_lt_of_le (Nat.succ_pos (tk7 + 1)) hk12)) (Nat.succ_ne_zero _) (Nat.ne_of_lt (Nat.lt_succ_self _)) (by decide) (by rw [tx_len]; exact Nat.le_trans hB2 (by decide)) (by decide) ?_
    intro t13 k13
    rw [show Txt.replace (tx ((leadV bs).map fun v => List.replicate v 46 ++ [9]).flatten) (Str.ofString ".") (Str.ofString " ") = _ from rep_txt (y := [46]) (z := [32]) (by decide) (rep2N (leadV bs))]
    walk_at "MY:w"
    refine ws_1 F7 X2 T2 N7 (by show dp + 1 + 2 < _; omega) (rowsT_plain _) (by show (rowsT (leadV bs)).toArray.size ≤ _; rw [List.size_toArray]; omega) ?_
    intro i h10 tk10 hix hiv F10 N10
    obtain ⟨F6, N6⟩ := hback F10 N10 (fun p hp => List.mem_append_right _ hp)
    have hnl : ∀ p ∈ wsLed 100 w.params i, p.1 ≠ l ∧ p.1 ≠ e := by
      intro p hp
      have e1 := (N10 p (List.mem_append_left _ hp)).1
      have e2 := (N10 (l, PySem.W.listOf vs.toArray kl) (List.mem_append_right _ (.head _))).1
      have e3 := (N10 (e, PySem.W.listOf zs.toArray ke) (List.mem_append_right _ (.tail _ (.head _)))).1
      have hc : p.2.cls ≠ .type "list" := by
        dsimp only [wsLed] at hp
        rcases List.mem_cons.mp hp with q | hp
        · rw [q]; exact (show Value.type "tuple" ≠ Value.type "list" by decide)
        · rcases List.mem_cons.mp hp with q | hp
          · rw [q]; exact (show Value.type "tuple" ≠ Value.type "list" by decide)
          · rcases List.mem_cons.mp hp with q | hp
            · rw [q]; intro q2; cases q2
            · rw [List.mem_singleton.mp hp]; exact (show Value.type "dict" ≠ Value.type "list" by decide)
      dsimp only at e2 e3
      refine ⟨fun q => ?_, fun q => ?_⟩
      · rw [q, e2] at e1; exact hc (congrArg Obj.cls (Option.some.inj e1)).symm
      · rw [q, e3] at e1; exact hc (congrArg Obj.cls (Option.some.inj e1)).symm
    exact h i _ _ hix hiv (fun p hp => hfr _ (N10 p (List.mem_append_left _ hp)).2.2 (fun hm => by
      rcases List.mem_cons.mp hm with q | hm
      · exact (hnl p hp).1 q
      · exact (hnl p hp).2 (List.mem_singleton.mp hm))) F6 (kst_newsOf N6 fun p hp => (List.mem_append.mp hp).elim (fun q => List.mem_append_left _ (List.mem_append_left _ q)) fun q => List.mem_append_right _ q)
end Mine
-- C02s
set_option maxHeartbeats 4000000
namespace Mine
local macro_rules | `(tactic| walk_at "MY:n") => `(tactic| ((first | walk1 | (dsimp only; walk1))))
local macro_rules | `(tactic| walk_at "MY:w") => `(tactic| repeat' (first | (k_unfold; (try dsimp only)) | (k_end; fail) | (
  (fail_if_success (with_reducible show wpAny _ _ (exec (Stmt.For _ _ _ _ _) _) _ _ _));
  (fail_if_success (with_reducible show wpAny _ _ (subscriptTail _ _ _ _) _ _ _));
  (fail_if_success (with_reducible show wpAny _ _ (binaryOp Operator.Mult _ _) _ _ _));
  (fail_if_success (with_reducible show wpAny _ _ (pyIter _) _ _ _));
  (fail_if_success (with_reducible show wpAny _ _ (call (Value.ref _) _) _ _ _));
  (first | walk1 | (dsimp only; walk1)))))
local macro_rules | `(tactic| walk_at "MY:same") => `(tactic| (intro z hz h2 h3; (simp only [List.forall_mem_cons, List.not_mem_nil, false_implies, implies_true, and_true, ne_eq] at h2); (simp only [List.contains_cons, List.contains_nil, Bool.or_false, Bool.or_eq_false_iff, beq_eq_false_iff_ne, ne_eq] at h3); (simp [hz, h2, h3])))
def partF (p x : Int) : Nat → Int
  | 0 => p
  | n + 1 => partF p x n * (x - n)
def totalF (ws : List Int) (x : Int) : Nat → Int
  | 0 => 0
  | k + 1 => totalF ws x k + partF (ws.getD k 0) x (4 - k)
theorem sum_2 {w : World} {dp : Nat} {fr : Option (List Env)} {gd : Option (List Code)} {un : Nat} {s : Shared} {mg mb : Str → Option Value} {p : Program} {loose : List Str} {mean : ExcName → Option Value} {h₀ : Heap} {L : Addr} {m : Str → Option Value} {news : List (Addr × Obj)} {l : Addr} {vs : List Value} {kl : Nat} {ws : List Int} {x : Nat} {tx : Tok} {Q E : Value → Shared → Prop}
    (F : Fr h₀ L s.heap m) (X : (hd02.heap_39 w.params).In h₀) (T : Top p loose mean mg mb h₀) (N : News h₀ L s.heap news) (hml : (l, PySem.W.listOf vs.toArray kl) ∈ news)
    (hi : IntsAre vs ws) (hlen : ws.length = 5) (hx : x ≤ 10) (hroom : dp + 3 < recursionLimit)
    (h : ∀ t' h' tk', Fr h₀ L h' m → News h₀ L h' news → Q (.int (totalF ws x 5) t') { s with heap := h', toks := tk' }) :
    wpAny (model prog2 w) { handled := none, depth := dp, frames := fr, guards := gd, units := un } (call (.ref 154) [.ref l, .int (x : Nat) tx]) Q E s := by
  refine wpAny_call (call_led (binds := [(Str.ofString "ways", .ref l), (Str.ofString "x", .int (x : Nat) tx)]) [(l, PySem.W.listOf vs.toArray kl)] F X N (List.forall_mem_cons.mpr ⟨hml, List.forall_mem_nil _⟩) rfl rfl T.nolimit (by show dp < _; omega) (BindsTo.of_eq rfl) (locs rfl) ?_)
  intro g L' h3 hst F3 N3 hback
  have X2 := X.keeps hst
  have T2 := T.keeps hst
  clear X T F N
  walk_at "MY:w"
  refine For_invV g rfl rfl ?_
  walk_at "MY:w"
  rename Fr _ _ _ _ => F4
  rename News _ _ _ _ => N4
  rename IsRange _ _ _ _ _ _ _ _ => hr
  refine' loop_range (σ := Int × Tok) (n := 5) (fun _ => [(l, PySem.W.listOf vs.toArray kl)]) (fun c => [(Str.ofString "total", .int c.1 c.2)]) [Str.ofString "part", Str.ofString "step"] (fun k c => c.1 = totalF ws x k) (0, _) rfl hr ⟨by omega, by omega⟩ ⟨by omega, by omega⟩ (by omega) F4 N4 (List.forall_mem_cons.mpr ⟨rfl, List.forall_mem_nil _⟩) rfl ?_ ?_
  · rintro k tk ⟨to, tt⟩ u h5 tk5 own hk hJ hsep F5 N5
    clear F4 N4 hr
    obtain ⟨tv, hvk⟩ := hi.get k (ws.getD k 0) (by rw [List.getD_eq_getElem?_getD, List.getElem?_eq_getElem (by omega)]; rfl)
    have hnx : totalF ws x (k + 1) = to + partF (ws.getD k 0) x (4 - k) := by dsimp only at hJ; rw [hJ]; rfl
    generalize ws.getD k 0 = wk at *
    dsimp only [kstB, List.contains_cons, List.contains_nil, List.cons_append, List.nil_append, List.map] at F5 N5 hJ hsep
    simp only [Int.zero_add] at F5
    walk_at "MY:w"
    refine item_list (News.isList N5 (.head _)) (by omega) (by omega) (by rw [Int.toNat_natCast, List.getElem?_toArray]; exact hvk) ?_
    walk_at "MY:w"
    refine For_invV g rfl rfl ?_
    walk_at "MY:w"
    rename Fr _ _ _ _ => F6
    rename News _ _ _ _ => N6
    rename IsRange _ _ _ _ _ _ _ _ => hr
    refine' loop_range (σ := Int × Tok) (n := 4 - k) (fun _ => (l, PySem.W.listOf vs.toArray kl) :: own) (fun c => [(Str.ofString "part", .int c.1 c.2)]) [] (fun j c => c.1 = partF wk x j) (wk, tv) rfl hr ⟨by omega, by omega⟩ ⟨by omega, by omega⟩ (by omega) F6 N6 (List.forall_mem_cons.mpr ⟨rfl, List.forall_mem_nil _⟩) rfl ?_ ?_
    · rintro j tj ⟨pa, tp⟩ u2 h7 tk7 own2 hj hJ2 hsep2 F7 N7
      clear F6 N6 hr F5 N5
      have hny : partF wk x (j + 1) = pa * ((x : Int) - j) := by dsimp only at hJ2; rw [hJ2]; rfl
      dsimp only [kstB, List.contains_cons, List.contains_nil, List.cons_append, List.nil_append] at F7 N7 hJ2
      simp only [Int.zero_add] at F7
      walk_at "MY:w"
      refine mul_int ?_ (PySem.IntMulOk.of_right (PySem.intBits_le_64 (by omega) (by omega)))
      walk_at "MY:w"
      rename Fr _ _ _ _ => F8
      rename News _ _ _ _ => N8
      refine lend (_, _) F8 N8 (fun p hp => ?_) (fun p hp => .tail _ (List.mem_append_right _ hp)) hsep2 (List.forall_mem_cons.mpr ⟨rfl, List.forall_mem_nil _⟩) (by walk_at "MY:same") ?_
      · rcases List.mem_cons.mp hp with e | hp
        · rw [e]; exact .head _
        · exact .tail _ (List.mem_append_left _ hp)
      · rw [hny]
    · rintro ⟨pa, tp⟩ u2 h7 tk7 hJ2 F7 N7
      clear F6 N6 hr
      dsimp only [kstB, List.contains_nil] at F7 N7 hJ2
      subst hJ2
      walk_at "MY:w"
      rename Fr _ _ _ _ => F8
      rename News _ _ _ _ => N8
      refine lend (_, _) F8 N8 (fun p hp => ?_) (fun p hp => .tail _ hp) hsep (List.forall_mem_cons.mpr ⟨rfl, List.forall_mem_nil _⟩) (by walk_at "MY:same") ?_
      · rw [List.mem_singleton.mp hp]; exact .head _
      · rw [hnx]
  · rintro ⟨to, tt⟩ u h5 tk5 hJ F5 N5
    clear F4 N4 hr
    dsimp only [kstB, List.contains_cons, List.contains_nil] at F5 N5 hJ
    walk_at "MY:w"
    obtain ⟨F6, N6⟩ := hback F5 N5 (fun p hp => hp)
    rw [← hJ] at h
    show Q (.int _ _) _
    exact h _ _ _ F6 (kst_newsOf N6 fun p hp => List.mem_append_right _ hp)
end Mine
-- L02a
set_option maxHeartbeats 4000000
namespace Mine
local macro_rules | `(tactic| walk_at "MY:f") => `(tactic| repeat' (first | (k_unfold; (try dsimp only)) | (k_end; fail) | (
  (fail_if_success (with_reducible show wpAny _ _ (exec (Stmt.While _ _ _ _) _) _ _ _));
  (fail_if_success (with_reducible show wpAny _ _ (exec (Stmt.For _ _ _ _ _) _) _ _ _));
  (fail_if_success (with_reducible show wpAny _ _ (call (Value.ref _) _) _ _ _));
  (first | walk1 | (dsimp only; walk1)))))
local macro_rules | `(tactic| walk_at "MY:s") => `(tactic| repeat' (first | (k_unfold; (try dsimp only)) | (k_end; fail) | (
  (fail_if_success (with_reducible show wpAny _ _ (subscriptTail _ _ _ _) _ _ _));
  (fail_if_success (with_reducible show wpAny _ _ (exec (Stmt.Expr _ _) _) _ _ _));
  (first | walk1 | (dsimp only; walk1)))))
local macro_rules | `(tactic| walk_at "MY:w") => `(tactic| repeat' (first | (k_unfold; (try dsimp only)) | (k_end; fail) | (
  (fail_if_success (with_reducible show wpAny _ _ (exec (Stmt.While _ _ _ _) _) _ _ _));
  (fail_if_success (with_reducible show wpAny _ _ (pyIter _) _ _ _));
  (fail_if_success (with_reducible show wpAny _ _ (call (Value.ref _) _) _ _ _));
  (fail_if_success (with_reducible show wpAny _ _ (call (Value.builtin "re.Pattern.sub") _) _ _ _));
  (first | walk1 | (dsimp only; walk1)))))
local macro_rules | `(tactic| walk_at "MY:same") => `(tactic| (intro z hz h2 h3; (simp only [List.forall_mem_cons, List.not_mem_nil, false_implies, implies_true, and_true, ne_eq] at h2); (simp only [List.contains_cons, List.contains_nil, Bool.or_false, Bool.or_eq_false_iff, beq_eq_false_iff_ne, ne_eq] at h3); (simp [hz, h2, h3])))
/-- the law's own statements and names, out of the given program -/
def law2 : List Stmt × Scope := match PySem.Challenge.pw_rw0056_02.main.body.getLast? with
  | some (.FunctionDef _ _ body _ _ _ scope _ _ _) => (body, scope)
  | _ => ([], { kind := .function, names := [], isGenerator := false, isCoroutine := false })
abbrev env2 (L fa : Addr) (cd : Value) : Env := envOfC (Str.ofString "law") law2.2 L fa cd
theorem fr_kst {h₀ h : Heap} {L : Addr} {m : Str → Option Value} {ps : List (Str × Value)} (F : Fr h₀ L h m) (hk : ∀ p ∈ ps, m p.1 = some p.2) : Fr h₀ L h (kstB m ps) := by
  have e : kstB m ps = m := funext fun z => kstB_eq hk fun _ => rfl
  rw [e]; exact F
theorem sectA2 {w : World} {dp : Nat} {fr : Option (List Env)} {gd : Option (List Code)} {un : Nat} {s : Shared} {mg mb : Str → Option Value} {p : Program} {loose : List Str} {mean : ExcName → Option Value} {h₀ : Heap} {L fa l : Addr} {cd : Value} {vs : List Value} {ns : List Int} {o0 o1 : Obj} {Q : Flow → Shared → Prop} {E : Value → Shared → Prop}
    (F : Fr h₀ L s.heap (fun y => if y = Str.ofString "script" then some (Value.ref l) else none)) (X : (hd02.heap_39 w.params).In h₀) (T : Top p loose mean mg mb h₀)
    (N : News h₀ L s.heap [(L + 1 + 1, o1), (L + 1, o0)])
    (hl : h₀.IsList l vs.toArray) (hi : IntsAre vs ns) (hlen : ns.length ≤ 63)
    (next : ∀ hp vh eh hs u h' tk', Fr h₀ L h' (kstB u [(Str.ofString "heaps", Value.ref hp)]) → News h₀ L h' [(hp, PySem.W.listOf vh eh), (L + 1 + 1, o1), (L + 1, o0)] →
      IntsAre vh.toList hs → hs.length = 8 → (∀ v ∈ hs, 0 ≤ v) → L + 1 + 1 < hp → wpAny (model prog2 w) { handled := none, depth := dp, frames := fr, guards := gd, units := un } (execs (law2.1.drop 2) (env2 L fa cd)) Q (fun _ _ => False) { s with heap := h', toks := tk' }) :
    wpAny (model prog2 w) { handled := none, depth := dp, frames := fr, guards := gd, units := un } (execs law2.1 (env2 L fa cd)) Q (fun _ _ => False) s := by
  have hb : law2 = (_, _) := rfl
  rw [hb]
  clear hb
  dsimp only
  walk_at "MY:f"
  refine For_invV h₀ rfl rfl ?_
  walk_at "MY:w"
  rename_i hp _ lp _ D ws _ Fx Nx hI hC hL lD _ _ _ _ _ hr F4 N4 _
  clear Fx Nx
  have lp1 := ltN lp.1
  have hT : (List.take 16 ns).length ≤ 16 ∧ (List.take 16 ns).length ≤ ns.length := ⟨by rw [hC]; omega, hL⟩
  generalize hm : (List.take 16 ns).length = m16 at *
  refine' loop_range (σ := List Value × List Int × Nat) (n := m16) (fun c => [(hp, PySem.W.listOf c.1.toArray c.2.2), (L + 1 + 1, o1), (L + 1, o0)]) (fun _ => []) []
    (fun k c => IntsAre c.1 c.2.1 ∧ c.2.1.length = 8 ∧ ∀ v ∈ c.2.1, 0 ≤ v) ([Value.int 2 s.toks, Value.int 0 (s.toks + 1), Value.int 1 (s.toks + 1 + 1), Value.int 2 (s.toks + 1 + 1 + 1), Value.int 1 (s.toks + 1 + 1 + 1 + 1), Value.int 3 (s.toks + 1 + 1 + 1 + 1 + 1), Value.int 0 (s.toks + 1 + 1 + 1 + 1 + 1 + 1), Value.int 1 (s.toks + 1 + 1 + 1 + 1 + 1 + 1 + 1)], [2, 0, 1, 2, 1, 3, 0, 1], 0) rfl hr ⟨by omega, by omega⟩ ⟨by omega, by omega⟩ (by omega) F4
    (kst_newsOf N4 fun p hp => .tail _ hp) (List.forall_mem_nil _) ⟨.cons _ _ (.cons _ _ (.cons _ _ (.cons _ _ (.cons _ _ (.cons _ _ (.cons _ _ (.cons _ _ .nil))))))), rfl, by dsimp only; decide⟩ ?_ ?_
  · rintro k tk ⟨vh, hs, eh⟩ u h5 tk5 own hk ⟨hJ1, hJ2, hJ3⟩ hsep F5 N5
    clear F4 N4
    dsimp only [kstB, List.contains_nil, List.cons_append, List.nil_append, List.map] at F5 N5 hJ1 hJ2 hJ3 hsep
    simp only [Int.zero_add] at F5
    walk_at "MY:w"
    rename IntsAre (List.set _ _ _) _ => hI2
    rename Fr _ _ _ _ => F6
    rename News _ _ _ _ => N6
    refine lend (_, _, _) F6 N6 (List.forall_mem_cons.mpr ⟨.head _, List.forall_mem_cons.mpr ⟨by k_mem, List.forall_mem_cons.mpr ⟨by k_mem, List.forall_mem_nil _⟩⟩⟩) (fun p hp => .tail _ (.tail _ (.tail _ hp))) hsep (List.forall_mem_nil _) (by walk_at "MY:same") ⟨hI2, by dsimp only; rw [List.length_set]; exact hJ2, ?_⟩
    intro v hv
    rcases List.mem_or_eq_of_mem_set hv with h1 | h1
    · exact hJ3 v h1
    · have h2 : 0 ≤ hs.getD ((k : Int).fmod 8).toNat 0 := by
        by_cases hb : ((k : Int).fmod 8).toNat < hs.length
        · have := hJ3 _ (List.getElem_mem hb)
          rw [List.getD_eq_getElem?_getD, List.getElem?_eq_getElem hb]; exact this
        · rw [List.getD_eq_getElem?_getD, List.getElem?_eq_none (by omega)]; exact Int.le_refl _
      have h3 := fmod_lo (ns.getD (k : Int).toNat 0) (n := 10 ^ Int.toNat 6) (by decide)
      omega
  · rintro ⟨vh, hs, eh⟩ u h5 tk5 ⟨hJ1, hJ2, hJ3⟩ F5 N5
    clear F4 N4
    dsimp only [kstB, List.contains_nil] at F5 N5 hJ1 hJ2 hJ3
    exact next hp vh.toArray eh hs _ h5 tk5 (fr_kst F5 (List.forall_mem_cons.mpr ⟨rfl, List.forall_mem_nil _⟩)) N5 hJ1 hJ2 hJ3 lp.1
end Mine
-- L02b
set_option maxHeartbeats 4000000
namespace Mine
local macro_rules | `(tactic| walk_at "MY:n") => `(tactic| ((first | walk1 | (dsimp only; walk1))))
local macro_rules | `(tactic| walk_at "MY:f") => `(tactic| repeat' (first | (k_unfold; (try dsimp only)) | (k_end; fail) | (
  (fail_if_success (with_reducible show wpAny _ _ (exec (Stmt.While _ _ _ _) _) _ _ _));
  (fail_if_success (with_reducible show wpAny _ _ (exec (Stmt.For _ _ _ _ _) _) _ _ _));
  (fail_if_success (with_reducible show wpAny _ _ (call (Value.ref _) _) _ _ _));
  (first | walk1 | (dsimp only; walk1)))))
local macro_rules | `(tactic| walk_at "MY:w") => `(tactic| repeat' (first | (k_unfold; (try dsimp only)) | (k_end; fail) | (
  (fail_if_success (with_reducible show wpAny _ _ (exec (Stmt.For _ _ _ _ _) _) _ _ _));
  (fail_if_success (with_reducible show wpAny _ _ (storeName _ (Str.ofString "ends") _) _ _ _));
  (fail_if_success (with_reducible show wpAny _ _ (storeName _ (Str.ofString "first") _) _ _ _));
  (fail_if_success (with_reducible show wpAny _ _ (subscriptTail _ _ _ _) _ _ _));
  (fail_if_success (with_reducible show wpAny _ _ (binaryOp Operator.Mult _ _) _ _ _));
  (fail_if_success (with_reducible show wpAny _ _ (binaryOp Operator.Add (Value.bytes _ _) _) _ _ _));
  (fail_if_success (with_reducible show wpAny _ _ (compareOp _ (Value.bytes _ _) _) _ _ _));
  (fail_if_success (with_reducible show wpAny _ _ (call (Value.type "bytes") _) _ _ _));
  (fail_if_success (with_reducible show wpAny _ _ (pyIter _) _ _ _));
  (fail_if_success (with_reducible show wpAny _ _ (call (Value.ref _) _) _ _ _));
  (first | walk1 | (dsimp only; walk1)))))
local macro_rules | `(tactic| walk_at "MY:same") => `(tactic| (intro z hz h2 h3; (simp only [List.forall_mem_cons, List.not_mem_nil, false_implies, implies_true, and_true, ne_eq] at h2); (simp only [List.contains_cons, List.contains_nil, Bool.or_false, Bool.or_eq_false_iff, beq_eq_false_iff_ne, ne_eq] at h3); (simp [hz, h2, h3])))
def ends6 : List (List Nat) := [[10], [13], [13, 10], [10], [13], [13, 10]]
theorem ends_at2 {t0 t1 t2 t3 t4 t5 : Tok} (r j : Nat) (hr : r < 3) (hj : j < 4) : ∃ t, (([Value.str (Str.ofString "\n") t0, .str (Str.ofString "\x0d") t1, .str (Str.ofString "\x0d\n") t2, .str (Str.ofString "\n") t3, .str (Str.ofString "\x0d") t4, .str (Str.ofString "\x0d\n") t5] : List Value).drop r)[j]? = some (.str (tx ((ends6.drop r).getD j [])) t) := by
  rcases (show r = 0 ∨ r = 1 ∨ r = 2 by omega) with rfl | rfl | rfl <;> rcases (show j = 0 ∨ j = 1 ∨ j = 2 ∨ j = 3 by omega) with rfl | rfl | rfl | rfl <;> exact ⟨_, rfl⟩
theorem ends_are2 (r j : Nat) (hr : r < 3) (hj : j < 4) : isEnd ((ends6.drop r).getD j []) := by
  rcases (show r = 0 ∨ r = 1 ∨ r = 2 by omega) with rfl | rfl | rfl <;> rcases (show j = 0 ∨ j = 1 ∨ j = 2 ∨ j = 3 by omega) with rfl | rfl | rfl | rfl <;> unfold isEnd <;> decide
section
variable {M : Model} {A : Around} {E : Value → Shared → Prop} {s : Shared} {L fa : Addr} {cd : Value} {h₀ : Heap} {m : Str → Option Value} {o0 o1 : Obj} {v₀ : Option Value} {v : Value} {Q : Unit → Shared → Prop}
theorem own_off {own : List (Addr × Obj)} {cc : Addr} {o : Obj} {news : List (Addr × Obj)} (N : News h₀ L s.heap news) (hs : ∀ p ∈ own, p ∈ news) (hc : (cc, o) ∈ news) (hd : o.data = .cell v₀) (h0 : own.all (fun p => nonCell p.2) = true) : ∀ p ∈ own, p.1 ≠ cc := by
  intro p hp e
  have e1 := (N p (hs p hp)).1
  have e2 := (N _ hc).1
  dsimp only at e2
  rw [e] at e1
  have e4 : p.2 = o := Option.some.inj (e1.symm.trans e2)
  have e3 := List.all_eq_true.mp h0 p hp
  unfold nonCell at e3
  rw [e4, hd] at e3
  cases e3
theorem st_ends (own : List (Addr × Obj)) (F : Fr h₀ L s.heap m) (N : News h₀ L s.heap (own ++ [(L + 1 + 1, o1), (L + 1, o0)])) (hd : o0.data = .cell v₀) (h0 : own.all (fun p => nonCell p.2) = true)
    (h : ∀ h' o0, Fr h₀ L h' m → News h₀ L h' (own ++ [(L + 1 + 1, o1), (L + 1, o0)]) → o0.data = .cell (some v) → Q () { s with heap := h' }) :
    wpAny M A (storeName (env2 L fa cd) (Str.ofString "ends") v) Q E s :=
  stCN (own := own ++ [(L + 1 + 1, o1)]) (rest := []) F (by rw [List.append_assoc]; exact N) (by rfl) hd (fun p hp => by
    rcases List.mem_append.mp hp with hp | hp
    · exact own_off N (fun p hp => List.mem_append_left _ hp) (List.mem_append_right _ (.tail _ (.head _))) hd h0 p hp
    · rw [List.mem_singleton.mp hp]; exact Nat.succ_ne_self _) (fun p hp => nomatch hp) (fun h' o' F' N' d' => h h' o' F' (by rw [List.append_assoc] at N'; exact N') d') (by rfl) (by rfl)
theorem st_first (own : List (Addr × Obj)) (F : Fr h₀ L s.heap m) (N : News h₀ L s.heap (own ++ [(L + 1 + 1, o1), (L + 1, o0)])) (hd : o1.data = .cell v₀) (h0 : own.all (fun p => nonCell p.2) = true)
    (h : ∀ h' o1, Fr h₀ L h' m → News h₀ L h' (own ++ [(L + 1 + 1, o1), (L + 1, o0)]) → o1.data = .cell (some v) → Q () { s with heap := h' }) :
    wpAny M A (storeName (env2 L fa cd) (Str.ofString "first") v) Q E s :=
  stCN (own := own) (rest := [(L + 1, o0)]) F N (by rfl) hd (own_off N (fun p hp => List.mem_append_left _ hp) (List.mem_append_right _ (.head _)) hd h0) (fun p hp => by
    rw [List.mem_singleton.mp hp]; exact (Nat.succ_ne_self _).symm) h (by rfl) (by rfl)
end
theorem sectB2 {w : World} {dp : Nat} {fr : Option (List Env)} {gd : Option (List Code)} {un : Nat} {s : Shared} {mg mb : Str → Option Value} {p : Program} {loose : List Str} {mean : ExcName → Option Value} {h₀ : Heap} {L fa hp : Addr} {cd : Value} {vh : Array Value} {eh : Nat} {hs : List Int} {u : Str → Option Value} {o0 o1 : Obj} {Q : Flow → Shared → Prop}
    (F : Fr h₀ L s.heap (kstB u [(Str.ofString "heaps", Value.ref hp)])) (X : (hd02.heap_39 w.params).In h₀) (T : Top p loose mean mg mb h₀)
    (N : News h₀ L s.heap [(hp, PySem.W.listOf vh eh), (L + 1 + 1, o1), (L + 1, o0)]) (d0 : o0.data = .cell none) (d1 : o1.data = .cell none)
    (next : ∀ (figs : List Int) (r : Nat) (tw : Tok) (D7 : Addr) (zs : List Value) (o0 : Obj) u h' tk', figs.length = 8 → (∀ v ∈ figs, 0 ≤ v ∧ v < 5) → r < 3 → (∀ j, j < 4 → ∃ t, zs[j]? = some (Value.str (tx ((ends6.drop r).getD j [])) t)) → o0.data = .cell (some (.ref D7)) →
      Fr h₀ L h' (kstB u [(Str.ofString "word", Value.bytes (figs.map fun v => UInt8.ofNat (65 + v.toNat)).toArray tw)]) → News h₀ L h' ([(D7, PySem.W.listOf zs.toArray 0)] ++ [(L + 1 + 1, o1), (L + 1, o0)]) →
      wpAny (model prog2 w) { handled := none, depth := dp, frames := fr, guards := gd, units := un } (execs (law2.1.drop 9) (env2 L fa cd)) Q (fun _ _ => False) { s with heap := h', toks := tk' })
    (hi : IntsAre vh.toList hs) (hlen : hs.length = 8) (hpos : ∀ v ∈ hs, 0 ≤ v) (hlt : L + 1 + 1 < hp) (hroom : dp + 5 < recursionLimit) :
    wpAny (model prog2 w) { handled := none, depth := dp, frames := fr, guards := gd, units := un } (execs (law2.1.drop 2) (env2 L fa cd)) Q (fun _ _ => False) s := by
  have hb : law2 = (_, _) := rfl
  rw [hb]
  clear hb
  dsimp only [List.drop, kstB] at F ⊢
  replace hlt := ltN hlt
  walk_at "MY:f"
  refine For_invV h₀ rfl rfl ?_
  walk_at "MY:w"
  rename Fr _ _ _ _ => F1
  rename News _ _ _ _ => N1
  rename IntsAre _ (List.map _ _) => hW
  rename @Ne Nat _ _ ∧ @Ne Nat _ _ ∧ @Ne Nat _ _ => ho1
  have hfl : (hs.map (fun k' => k'.fmod 5)).length = 8 := by rw [List.length_map, hlen]
  have hfb : ∀ v ∈ hs.map (fun k' => k'.fmod 5), 0 ≤ v ∧ v < 5 := by
    intro v hv
    obtain ⟨k, _, rfl⟩ := List.mem_map.mp hv
    exact ⟨fmod_lo _ (by decide), fmod_hi _ (by decide)⟩
  rename ys.length = _ => hyl
  rw [hfl] at hyl
  generalize hfe : hs.map (fun k' => k'.fmod 5) = figs at *
  refine' loop_own2 (σ := Int × Tok) (vs := ys) (ep := ys.length) (fun _ => [(hp, PySem.W.listOf vh eh), (L + 1 + 1, o1), (L + 1, o0)]) (fun c => [(Str.ofString "number", .int c.1 c.2)]) [] (fun k c => c.1 = numF (figs.take k)) (0, _) rfl F1 N1
    (List.forall_mem_cons.mpr ⟨ho1.1, List.forall_mem_cons.mpr ⟨ho1.2.1, List.forall_mem_cons.mpr ⟨ho1.2.2, List.forall_mem_nil _⟩⟩⟩) (List.forall_mem_cons.mpr ⟨rfl, List.forall_mem_nil _⟩) rfl ?_ ?_
  · rintro k v ⟨nu, tn⟩ u h5 tk5 own hk hI1 hsep F5 N5 hlist
    have hkl : k < figs.length := by
      have := (List.getElem?_eq_some_iff.mp hk).1; rw [hW.length] at this; exact this
    obtain ⟨tv, hv⟩ := hW.get k figs[k] (by simp [hkl])
    rw [hk] at hv
    cases hv
    have hv2 := hfb figs[k] (List.getElem_mem hkl)
    have e1 : figs.take (k + 1) = figs.take k ++ [figs[k]] := by rw [List.take_add_one]; simp [hkl]
    generalize figs[k] = v at *
    clear F1 N1 ho1
    dsimp only [kstB, List.contains_nil, List.cons_append, List.nil_append] at F5 N5 hI1
    walk_at "MY:w"
    refine mul_int ?_ (PySem.IntMulOk.of_left (PySem.intBits_le_64 (by omega) (by omega)))
    walk_at "MY:w"
    rename Fr _ _ _ _ => F6
    rename News _ _ _ _ => N6
    refine lend (_, _) F6 N6 (fun p hp => List.mem_append_left own hp) (fun p hp => .tail _ (.tail _ (.tail _ hp))) hsep (List.forall_mem_cons.mpr ⟨rfl, List.forall_mem_nil _⟩) (by walk_at "MY:same") ?_
    dsimp only
    rw [e1, numF_snoc, hI1]
  · rintro ⟨nu, tn⟩ u h5 tk5 hI1 F5 N5
    clear F1 N1
    dsimp only [kstB, List.contains_nil] at F5 N5 hI1
    rw [hW.length, List.take_length] at hI1
    subst hI1
    obtain ⟨hb1, hb2⟩ := numF_bound 8 figs hfl (fun v hv => by have := hfb v hv; omega)
    walk_at "MY:w"
    rename Fr _ _ _ _ => F4
    rename News _ _ _ _ => N4
    refine wpAny_call (int2ap_1 (X.keeps F4.keep) (T.keeps F4.keep) (show dp < _ by omega) (by omega) (by simp only [Nat.reducePow] at hb2; omega) ?_)
    intro t6 h6 k6 hs6
    have F5 := fr_stays F4 hs6
    have N5 := news_stays N4 hs6
    rw [Int.neg_neg]
    obtain ⟨ha1, ha2⟩ := ap_pad _ figs hfl (fun v hv => by have := hfb v hv; omega)
    generalize apF 8 (numF figs).toNat [] = ap at *
    change wpAny _ _ _ _ _ _
    walk_at "MY:w"
    dsimp only
    have hsz : ap.toArray.size = ap.length := by simp
    rw [hsz]
    have hnn : (8 : Int) - ((ap.length : Nat) : Int) = ((8 - ap.length : Nat) : Int) := by omega
    rw [hnn]
    refine bytes_mul_any (b := [65]) (by simp) (by omega) (by omega) (by simp) ?_
    intro t7 k7
    have hfl2 : (List.replicate (((8 - ap.length : Nat) : Int)).toNat [(65 : UInt8)]).flatten = List.replicate (8 - ap.length) 65 := by
      rw [Int.toNat_natCast]
      generalize 8 - ap.length = q
      induction q with
      | zero => rfl
      | succ q ih => rw [List.replicate_succ, List.flatten_cons, ih]; rfl
    rw [hfl2]
    walk_at "MY:w"
    refine KBy.add_bytes (by simp; omega) ?_
    intro t8 k8
    have hfin : (List.replicate (8 - ap.length) (65 : UInt8)).toArray ++ ap.toArray = (figs.map fun v => UInt8.ofNat (65 + v.toNat)).toArray := by rw [← ha2]; simp
    rw [hfin]
    clear ha1 ha2 hsz hnn hfl2 hfin
    walk_at "MY:w"
    rename Fr _ _ _ _ => F6
    rename News _ _ _ _ => N6
    rename IntsAre _ (List.map _ figs) => hJ
    have hJb : ∀ n ∈ figs.map (fun k' => 65 + k'), 0 ≤ n ∧ n < 256 := by
      intro n hn
      obtain ⟨v, hv, rfl⟩ := List.mem_map.mp hn
      have := hfb v hv
      omega
    refine bytes_K F6 N6 (News.isList N6 (.head _)) hJ hJb (by rw [hJ.length, List.length_map, PySem.sizeLine_eq]; omega) rfl ?_
    intro h9 t9 k9 F9 N9 _
    have hbe : ((figs.map fun k' => 65 + k').map fun n => n.toNat.toUInt8) = figs.map fun v => UInt8.ofNat (65 + v.toNat) := by
      rw [List.map_map]
      refine List.map_congr_left fun v hv => ?_
      have := hfb v hv
      show (65 + v).toNat.toUInt8 = _
      rw [show (65 + v).toNat = 65 + v.toNat by omega]
    rw [hbe]
    clear F6 N6 hJ hJb hbe
    walk_at "MY:w"
    walk_at "MY:n"
    rw [bne_self_eq_false]
    replace N9 := kst_newsOf N9 (List.forall_mem_cons.mpr ⟨.tail _ (.tail _ (.head _)), fun p hp => .tail _ (.tail _ (.tail _ hp))⟩)
    clear ho1
    walk_at "MY:w"
    rename Fr _ _ _ _ => F1
    rename News _ _ _ _ => N1
    have hr0 : 0 ≤ (hs.sum.fdiv 5).fmod 3 ∧ (hs.sum.fdiv 5).fmod 3 < 3 := ⟨fmod_lo _ (by decide), fmod_hi _ (by decide)⟩
    obtain ⟨r, hr⟩ := Int.eq_ofNat_of_zero_le hr0.1
    refine' slice_tmp ?yF ?yN ?yl ?yp ?yq ?_ ?ys ?yz
    case yF => exact F1
    case yN => exact N1
    case yl => exact News.isList N1 (.head _)
    case yp => exact IsPart.int _ _
    case yq => exact IsPart.none
    case ys => with_unfolding_all rfl
    case yz => (rw [PySem.sizeLine_eq]; show 6 ≤ 16777216; omega)
    intro D7 h7 F2 N2
    rw [hr, pick_from _ (by omega), Int.toNat_natCast] at N2
    have hzs := fun j hj => ends_at2 (t0 := k9) (t1 := k9 + 1) (t2 := k9 + 1 + 1) (t3 := k9 + 1 + 1 + 1) (t4 := k9 + 1 + 1 + 1 + 1) (t5 := k9 + 1 + 1 + 1 + 1 + 1) r j (by omega) hj
    dsimp only at N2
    generalize List.drop r [Value.str (Str.ofString "\n") k9, _, _, _, _, _] = zs at N2 hzs
    clear F1 N1
    replace N2 := kst_newsOf N2 (l' := [(D7, _), (hp, PySem.W.listOf vh eh)] ++ [(L + 1 + 1, o1), (L + 1, o0)]) (List.forall_mem_cons.mpr ⟨.head _, fun p hp => .tail _ (.tail _ hp)⟩)
    refine st_ends [(D7, _), (hp, PySem.W.listOf vh eh)] F2 N2 d0 rfl ?_
    intro h8 o0' F3 N3 d0'
    clear F2 N2
    walk_at "MY:n"
    exact next figs r t8 D7 zs o0' _ h8 _ hfl hfb (by omega) hzs d0' (fr_kst F3 (List.forall_mem_cons.mpr ⟨rfl, List.forall_mem_nil _⟩)) (kst_newsOf N3 (List.forall_mem_cons.mpr ⟨.head _, fun p hp => .tail _ (.tail _ hp)⟩))
end Mine
-- CompC
set_option maxHeartbeats 4000000
namespace Mine
open LCg
section
variable {prog : Program} {w : World} {A : Around} {E : Value → Shared → Prop} {s : Shared} {h₀ : Heap} {L : Addr} {m : Str → Option Value} {env : Env} {elt iter : Expr} {x : Str} {px : Pos} {scope : Scope} {cl : List (Str × Addr)} {pos : Pos}
/-- a comprehension over a range by ones whose name is a cell; its elements are ints -/
theorem ListComp_cell {K : Nat} {Q : Value → Shared → Prop} (g : Nat → Int) (F₀ : Fr h₀ L s.heap m)
    (hclos : closureFor scope env = pure cl) (hcells : ∀ n, cellsFrom n scope.names cl = (x, n) :: cl) (hpush : ∀ h, pushCells h scope.names = h.push { cls := .type "cell", data := .cell none }) (hkind : scope.kind = .function)
    (hnames : ∀ y ∈ scope.names, y.2 = .local → scope.names.lookup y.1 = some .local) (hkx : (relabel scope env).names.lookup x = some .cell) (hK : K ≤ 1000)
    (h : wpAny (model prog w) A (eval iter env) (fun xv s₁ => ∃ r t u z news, xv = .ref r ∧ A.handled = none ∧ Fr h₀ L s₁.heap m ∧ News h₀ L s₁.heap news ∧ IsRange s₁.heap r 0 (K : Nat) 1 t u z ∧
      (∀ i t I oI C oC D cc occ ys m₂ h tk (E' : Value → Shared → Prop), i < K → occ.data = .cell (some (.int (i : Nat) t)) → NsObj oC m₂ → Fr h₀ L h m → News h₀ L h ((I, oI) :: (C, oC) :: (D, lst ys) :: (cc, occ) :: news) → Off3 I C D ((cc, occ) :: news) → ((@Ne Nat I C) ∧ (@Ne Nat I D) ∧ (@Ne Nat C D)) →
        wpAny (model prog w) A (eval elt (compEnvC scope ((x, cc) :: cl) C env)) (CompEnd h₀ L m { s₁ with heap := h, toks := tk } I oI C oC D (lst ys) (fun _ => True) (fun y nw => (∃ t, y = .int (g i) t) ∧ nw = (cc, occ) :: news)) E' { s₁ with heap := h, toks := tk }) ∧
      (∀ D ys h tk, IntsAre ys ((List.range K).map g) → Fr h₀ L h m → News h₀ L h ((D, lst ys) :: news) → Off1 D news → Q (.ref D) { s₁ with heap := h, toks := tk })) E s)
    (hs : ∀ x, foldedSetIterable iter env x = pure x := by intro _; rfl) :
    wpAny (model prog w) A (eval (.ListComp elt [⟨.Name x px, iter, [], 0⟩] scope pos) env) Q E s := by
  rw [eval_ListComp]
  refine wpAny_comprehension_free (use := none) rfl hs hclos hkind hnames (wpAny_mono h (fun xv s₁ h₁ => ?_) fun _ _ e => e)
  obtain ⟨r, t, u, z, news, rfl, hh, F, N, hr, T1, fin⟩ := h₁
  refine wpAny_pyIter_range hr (small_one (by omega) (by omega) (by omega) (by omega)) ?_
  have hsz2 : Builtin.Range.rangeSize 0 (K : Int) 1 = (K : Int) := by rw [rangeSize_one]; split <;> omega
  rw [hsz2]
  generalize hI : s₁.heap.objs.size = I
  have W := Walks.range (prog := prog) (w := w) hh I 0 1 K
  have up : ∀ b o, s₁.heap.get? b = some o → (s₁.heap.push { cls := .type "range_iterator", data := .fields #[rawInt 0, rawInt (K : Int), rawInt 1] }).get? b = some o := fun b o e => Heap.get?_push_of_some _ e
  refine wpAny_newObj_type ?_
  simp only [newFunctionEnv, Option.isSome_some, if_true]
  refine wpAny_bind (wpAny_alloc ?_)
  refine wpAny_bind (wpAny_layCells _ (fun name kind cells => by cases hkc : kind == NameKind.cell <;> simp [hkc]) _ _ _ _ ?_)
  refine wpAny_bind ?_
  rw [List.forIn_nil]
  refine wpAny_pure (wpAny_pure ?_)
  rw [hcells, hpush]
  dsimp only
  generalize hHb : s₁.heap.push { cls := .type "range_iterator", data := .fields #[rawInt 0, rawInt (K : Int), rawInt 1] } = Hb at up ⊢
  have hItI : IsRangeIter Hb I (0 + ((0 : Nat) : Int) * 1) ((K : Int) - ((0 : Nat) : Int)) 1 := by
    show IsRangeIter _ _ _ _ _
    rw [← hHb, ← hI]; simpa using Heap.get?_push_size _ rfl
  have hHbs : Hb.objs.size = I + 1 := by rw [← hHb, Heap.size_push, hI]
  generalize hH2 : Hb.push { cls := .type "list", dict := none, data := .seq ([] : List Value).toArray } = H2
  have hD : Hb.objs.size = I + 1 := hHbs
  have hC : H2.objs.size = I + 1 + 1 := by rw [← hH2, Heap.size_push, hHbs]
  generalize hH3 : H2.push { cls := .type "dict", data := .dict #[] } = H3
  have hcc : H3.objs.size = I + 1 + 1 + 1 := by rw [← hH3, Heap.size_push, hC]
  generalize hH4 : H3.push { cls := .type "cell", data := .cell none } = h₁
  have old3 : ∀ b o, H2.get? b = some o → h₁.get? b = some o := fun b o e => by rw [← hH4]; exact Heap.get?_push_of_some _ (by rw [← hH3]; exact Heap.get?_push_of_some _ e)
  have old : ∀ b o, Hb.get? b = some o → h₁.get? b = some o := fun b o e => old3 b o (by rw [← hH2]; exact Heap.get?_push_of_some _ e)
  have hacc : h₁.get? (I + 1) = some (lst []) := old3 _ _ (by rw [← hH2, ← hD]; exact Heap.get?_push_size _ rfl)
  have hns₁ : h₁.Ns (I + 1 + 1) (fun _ => none) := by
    rw [← hH4, ← hC]
    exact (hH3 ▸ Heap.Ns.new H2 (.type "dict")).keeps fun b o e => Heap.get?_push_of_some _ e
  have hcell₁ : h₁.get? (I + 1 + 1 + 1) = some { cls := .type "cell", data := .cell none } := by rw [← hH4, ← hcc]; exact Heap.get?_push_size _ rfl
  rw [hD, hC, hcc]
  have hLI : L < I := by rw [← hI]; exact F.ns.lt
  have fresh₀ : ∀ a, I ≤ a → h₀.get? a = none := fun a ha => by
    cases e : h₀.get? a with
    | none => rfl
    | some o' => have := F.keep a o' e; exact absurd (Heap.lt_size this) (Nat.not_lt.mpr (by rw [hI]; exact ha))
  have newsI : ∀ p ∈ news, p.1 < I := fun p hp => by rw [← hI]; exact Heap.lt_size (N p hp).1
  have n1 : I ≠ I + 1 := Nat.ne_of_lt (Nat.lt_succ_self _)
  have n2 : I ≠ I + 1 + 1 := Nat.ne_of_lt (Nat.lt_succ_of_lt (Nat.lt_succ_self _))
  have n3 : I ≠ I + 1 + 1 + 1 := Nat.ne_of_lt (Nat.lt_succ_of_lt (Nat.lt_succ_of_lt (Nat.lt_succ_self _)))
  have n4 : I + 1 ≠ I + 1 + 1 := Nat.ne_of_lt (Nat.lt_succ_self _)
  have n5 : I + 1 ≠ I + 1 + 1 + 1 := Nat.ne_of_lt (Nat.lt_succ_of_lt (Nat.lt_succ_self _))
  have n6 : I + 1 + 1 ≠ I + 1 + 1 + 1 := Nat.ne_of_lt (Nat.lt_succ_self _)
  have nL : ∀ k, L ≠ I + k := fun k => Nat.ne_of_lt (Nat.lt_of_lt_of_le hLI (Nat.le_add_right _ _))
  have nN : ∀ p ∈ news, ∀ k, p.1 ≠ I + k := fun p hp k => Nat.ne_of_lt (Nat.lt_of_lt_of_le (newsI p hp) (Nat.le_add_right _ _))
  have h0I := fresh₀ I (Nat.le_refl _)
  have h0D := fresh₀ (I + 1) (Nat.le_add_right _ _)
  have h0C := fresh₀ (I + 1 + 1) (Nat.le_add_right I 2)
  have h0c := fresh₀ (I + 1 + 1 + 1) (Nat.le_add_right I 3)
  have off : ∀ occ : Obj, Off3 I (I + 1 + 1) (I + 1) ((I + 1 + 1 + 1, occ) :: news) := fun occ => ⟨⟨Ne.symm n3, Ne.symm n6, Ne.symm n5⟩, Off3.of fun p hp => ⟨nN p hp 0, nN p hp 2, nN p hp 1⟩⟩
  have loop : ∀ s₃ : Shared, s₃ = { s₁ with heap := h₁ } →
      codeAny (model prog w) A (.compLoop (.ListComp elt [⟨.Name x px, iter, [], 0⟩] scope pos) 0 (.ref I) (.ref (I + 1)) (compEnvC scope ((x, I + 1 + 1 + 1) :: cl) (I + 1 + 1) env))
        (compPost (model prog w) A E none Q (.ref (I + 1)) (I + 1 + 1)) s₃ := by
    rintro s₃ rfl
    refine codeAny_compLoop_tests
      (fun k s' => ∃ h' tk i ys m' occ, s' = { s₁ with heap := h', toks := tk } ∧ i ≤ K ∧ k = K + 1 - i ∧ IntsAre ys ((List.range i).map g) ∧ IsRangeIter h' I (0 + (i : Int) * 1) ((K : Int) - (i : Int)) 1 ∧ Fr h₀ L h' m ∧ h'.Ns (I + 1 + 1) m' ∧ (∃ v, occ.data = .cell v) ∧
        News h₀ L h' ((I + 1, lst ys) :: (I + 1 + 1 + 1, occ) :: news)) ?_ (K + 1)
      ⟨h₁, _, 0, [], _, { cls := .type "cell", data := .cell none }, rfl, Nat.zero_le _, rfl, .nil, (old _ _ hItI : h₁.get? I = some _), F.keeps fun b o e => old _ _ (up b o e), hns₁, ⟨none, rfl⟩, fun p hp => ?_⟩
    · rintro k s' ⟨h', tk, i, ys, m', occ, rfl, hi, rfl, hys, hst', F', hn', ⟨v0, hd'⟩, N'⟩
      have hyl : ys.length = i := by rw [hys.length, List.length_map, List.length_range]
      by_cases hlt : i < K
      · refine W.item i _ _ _ hlt hst' fun v h₂ tk₂ hPv hst₂ hk₂ => ?_
        obtain ⟨t2, rfl⟩ := hPv
        have N₂ : News h₀ L h₂ ((I + 1, lst ys) :: (I + 1 + 1 + 1, occ) :: news) := news_but N' hk₂ fun p hp => by
          rcases List.mem_cons.mp hp with rfl | hp
          · exact Ne.symm n1
          · rcases List.mem_cons.mp hp with rfl | hp
            · exact Ne.symm n3
            · exact nN p hp 0
        have F₂ : Fr h₀ L h₂ m := fr_but F' hk₂ (nL 0) h0I
        have hn₂ : h₂.Ns (I + 1 + 1) m' := hn'.at' fun o e => hk₂ _ o (by simpa using Ne.symm n2) e
        refine wpAny_assign_Name (wpAny_storeName_cell (by simp [compEnvC, relabel, hkind]) hkx (by simp [compEnvC]) ⟨occ, (N₂ _ (.tail _ (.head _))).1, hd'⟩ fun h₃ hcell hs₃ => ?_)
        obtain ⟨occ', hocc', hd''⟩ := hcell
        have hst₃ : IsRangeIter h₃ I (0 + ((i + 1 : Nat) : Int) * 1) ((K : Int) - ((i + 1 : Nat) : Int)) 1 := by
          have e : h₂.get? I = some _ := hst₂
          exact hs₃.extBut _ _ n3 e
        obtain ⟨oC, heC, hoC⟩ := ns_obj (hn₂.sameBut hs₃ n6)
        have F₃ : Fr h₀ L h₃ m := F₂.change hs₃ (Ne.symm (nL 3)) h0c
        have N₃ : News h₀ L h₃ ((I, _) :: (I + 1 + 1, oC) :: (I + 1, lst ys) :: (I + 1 + 1 + 1, occ') :: news) := fun p hp => by
          rcases List.mem_cons.mp hp with rfl | hp
          · exact ⟨hst₃, Ne.symm (nL 0), h0I⟩
          · rcases List.mem_cons.mp hp with rfl | hp
            · exact ⟨heC, Ne.symm (nL 2), h0C⟩
            · rcases List.mem_cons.mp hp with rfl | hp
              · exact ⟨hs₃.extBut _ _ n5 (N₂ _ (.head _)).1, Ne.symm (nL 1), h0D⟩
              · rcases List.mem_cons.mp hp with rfl | hp
                · exact ⟨hocc', Ne.symm (nL 3), h0c⟩
                · exact ⟨hs₃.extBut _ _ (nN p hp 3) (N₂ _ (.tail _ (.tail _ hp))).1, (N₂ _ (.tail _ (.tail _ hp))).2⟩
        refine wpAny_tests_nil ?_
        simp only [if_true]
        refine wpAny_mono (T1 i t2 I _ (I + 1 + 1) oC (I + 1) (I + 1 + 1 + 1) occ' ys _ h₃ _ _ hlt (by rw [hd'']; simp) hoC F₃ N₃ (off occ') ⟨n2, n1, Ne.symm n4⟩) (fun y s₄ h₄ => ?_) fun _ _ e => e
        obtain ⟨h₄, tk₄, news₄, rfl, F₄, N₄, off₄, _, ⟨ty, rfl⟩, rfl⟩ := h₄
        have zD := (N₄ _ (.tail _ (.tail _ (.head _)))).1
        refine append_at (hsz := by show ys.toArray.size ≤ sizeLine; rw [List.size_toArray, hyl, PySem.sizeLine_eq]; omega) zD fun h₅ hs₅ hD₅ => ?_
        have hst₄ : h₄.get? I = some _ := (N₄ _ (.head _)).1
        refine ⟨K + 1 - (i + 1), by omega, h₅, tk₄, i + 1, ys ++ [.int (g i) ty], _, occ', rfl, hlt, rfl, ?_, (hs₅.extBut _ _ n1 hst₄ : h₅.get? I = some _), F₄.change hs₅ (Ne.symm (nL 1)) h0D, (hoC.ns (N₄ _ (.tail _ (.head _))).1).sameBut hs₅ (Ne.symm n4), ⟨_, hd''⟩, fun p hp => ?_⟩
        · rw [List.range_succ, List.map_append]
          exact hys.append (.cons _ _ .nil)
        · rcases List.mem_cons.mp hp with rfl | hp
          · exact ⟨hD₅.trans (congrArg some (lst_snoc ys _)), Ne.symm (nL 1), h0D⟩
          · rcases List.mem_cons.mp hp with rfl | hp
            · exact ⟨hs₅.extBut _ _ (Ne.symm n5) (N₄ _ (.tail _ (.tail _ (.tail _ (.head _))))).1, Ne.symm (nL 3), h0c⟩
            · exact ⟨hs₅.extBut _ _ (nN p hp 1) (N₄ _ (.tail _ (.tail _ (.tail _ (.tail _ hp))))).1, (N₄ _ (.tail _ (.tail _ (.tail _ (.tail _ hp))))).2⟩
      · obtain rfl : i = K := Nat.le_antisymm hi (Nat.not_lt.mp hlt)
        refine W.done _ _ _ hst' fun h₂ tk₂ hk₂ => ?_
        have F₂ : Fr h₀ L h₂ m := fr_but F' hk₂ (nL 0) h0I
        have N₂ : News h₀ L h₂ ((I + 1, lst ys) :: news) := news_but (fun p hp => N' p ((List.mem_cons.mp hp).elim (fun e => e ▸ .head _) fun h => .tail _ (.tail _ h))) hk₂ fun p hp => by
          rcases List.mem_cons.mp hp with rfl | hp
          · exact Ne.symm n1
          · exact nN p hp 0
        refine ⟨m', hn'.at' fun o e => hk₂ _ o (by simpa using Ne.symm n2) e, fun h'' hs'' => fin _ ys h'' tk₂ hys (F₂.change hs'' (Ne.symm (nL 2)) h0C) (fun p hp => ?_) (off1_of fun p hp => nN p hp 1)⟩
        refine ⟨hs''.extBut _ _ ?_ (N₂ p hp).1, (N₂ p hp).2⟩
        rcases List.mem_cons.mp hp with rfl | hp
        · exact n4
        · exact nN p hp 2
    · rcases List.mem_cons.mp hp with rfl | hp
      · exact ⟨hacc, Ne.symm (nL 1), h0D⟩
      · rcases List.mem_cons.mp hp with rfl | hp
        · exact ⟨hcell₁, Ne.symm (nL 3), h0c⟩
        · exact ⟨old _ _ (up _ _ (N p hp).1), (N p hp).2⟩
  have hst₁ : IsRangeIter h₁ I (0 + ((0 : Nat) : Int) * 1) ((K : Int) - ((0 : Nat) : Int)) 1 := (old _ _ hItI : h₁.get? I = some _)
  exact codeAny_compStart_list (loop _ rfl) (W.self 0 _ _ _ hst₁ (loop _ rfl))
end
end Mine
-- BytesCq
set_option maxHeartbeats 4000000
namespace Mine
section
variable {prog : Program} {w : World} {A : Around} {E : Value → Shared → Prop} {s : Shared} {h₀ : Heap} {L : Addr} {m : Str → Option Value} {env : Env}
theorem ListComp_bytes {elt iter : Expr} {x : Str} {px : Pos} {scope : Scope} {cl : List (Str × Addr)} {pos : Pos} {Q : Value → Shared → Prop} (_F₀ : Fr h₀ L s.heap m)
    (hclos : closureFor scope env = pure cl) (hcell : ∀ y ∈ scope.names, y.2 ≠ .cell) (hkind : scope.kind = .function)
    (hnames : ∀ y ∈ scope.names, y.2 = .local → scope.names.lookup y.1 = some .local) (hx : scope.names.lookup x = some .local)
    (h : wpAny (model prog w) A (eval iter env) (fun xv s₁ => ∃ (b : Array UInt8) (t : Tok) (news : List (Addr × Obj)), xv = .bytes b t ∧ A.handled = none ∧ Fr h₀ L s₁.heap m ∧ News h₀ L s₁.heap news ∧ b.size ≤ sizeLine ∧
      ∀ g, LCg.CompRest prog w A h₀ L m env elt x scope cl { s₁ with heap := g } (fun _ => True) (fun i v => ∃ c u, b[i]? = some c ∧ v = .int ((c.toNat : Nat) : Int) u) (LCg.FinE h₀ L m { s₁ with heap := g } Q) b.size 0 [] news) E s)
    (hs : ∀ x, foldedSetIterable iter env x = pure x := by intro _; rfl) :
    wpAny (model prog w) A (eval (.ListComp elt [⟨.Name x px, iter, [], 0⟩] scope pos) env) Q E s := by
  rw [eval_ListComp]
  refine wpAny_comprehension_free (use := none) rfl hs hclos hkind hnames (wpAny_mono h (fun xv s₁ h₁ => ?_) fun _ _ e => e)
  obtain ⟨b, t, news, rfl, hh, F, N, hsz, R⟩ := h₁
  refine KBw.pyIter_bytes ?_
  refine LCg.block_U (KBw.walks hh s₁.heap.objs.size b t) hsz (fun i h st => by obtain ⟨o, e, _⟩ := st; exact ⟨o, e⟩)
    (fun i h h' o nw st e e' _ _ _ => by obtain ⟨o', q, r⟩ := st; rw [e] at q; cases q; exact ⟨o, e', r⟩) hcell hkind hx ⟨_, Heap.get?_push_size _ rfl, rfl, rfl⟩ (fun b hb => ?_)
    (F.keeps fun _ _ e => Heap.get?_push_of_some _ e) (N.grown fun _ _ e => Heap.get?_push_of_some _ e) (Nat.ne_of_lt F.ns.lt) (next_is_new F) (fun p hp => Nat.ne_of_lt (Heap.lt_size (N p hp).1)) trivial (R _) ?_
  · rw [List.mem_singleton.mp hb]
    show s₁.heap.objs.size < (s₁.heap.push _).objs.size
    rw [Heap.size_push]; exact Nat.lt_succ_self _
  · intro D C h tk m' ys news' F' N' o1 hn hC₀ hD₀ hCL hDL hCD offC fin
    refine ⟨m', hn, fun h'' hs'' => fin D h'' tk (F'.change hs'' hCL hC₀) (fun p hp => ?_) o1⟩
    refine ⟨hs''.extBut _ _ ?_ (N' p hp).1, (N' p hp).2⟩
    rcases List.mem_cons.mp hp with rfl | hp
    · exact Ne.symm hCD
    · exact offC p hp
end
end Mine
-- L02c
set_option maxHeartbeats 4000000
namespace Mine
local macro_rules | `(tactic| walk_at "MY:n") => `(tactic| ((first | walk1 | (dsimp only; walk1))))
local macro_rules | `(tactic| walk_at "MY:w") => `(tactic| repeat' (first | (k_unfold; (try dsimp only)) | (k_end; fail) | (
  (fail_if_success (with_reducible show wpAny _ _ (exec (Stmt.For _ _ _ _ _) _) _ _ _));
  (fail_if_success (with_reducible show wpAny _ _ (storeName _ (Str.ofString "ends") _) _ _ _));
  (fail_if_success (with_reducible show wpAny _ _ (storeName _ (Str.ofString "first") _) _ _ _));
  (fail_if_success (with_reducible show wpAny _ _ (subscriptTail _ _ _ _) _ _ _));
  (fail_if_success (with_reducible show wpAny _ _ (eval (Expr.ListComp _ _ _ _) _) _ _ _));
  (fail_if_success (with_reducible show wpAny _ _ (call (Value.builtin "sorted") _) _ _ _));
  (fail_if_success (with_reducible show wpAny _ _ (call (Value.builtin "len") _) _ _ _));
  (fail_if_success (with_reducible show LCg.CompEnd _ _ _ _ _ _ _ _ _ _ _ _ _ _));
  (fail_if_success (with_reducible show KPfDone _));
  (fail_if_success (with_reducible show Exists _));
  (fail_if_success (with_reducible show wpAny _ _ (pyIter _) _ _ _));
  (fail_if_success (with_reducible show wpAny _ _ (call (Value.ref _) _) _ _ _));
  (first | walk1 | (dsimp only; walk1)))))
theorem figs_bInts {figs : List Int} (hfb : ∀ v ∈ figs, 0 ≤ v ∧ v < 5) : KBw.bInts (figs.map fun v => UInt8.ofNat (65 + v.toNat)).toArray = figs.map fun v => 65 + v := by
  unfold KBw.bInts
  rw [List.map_map]
  refine List.map_congr_left fun v hv => ?_
  have := hfb v hv
  show ((UInt8.ofNat (65 + v.toNat)).toNat : Int) = 65 + v
  rw [UInt8.toNat_ofNat']
  omega
theorem bInts_get {b : Array UInt8} (i : Nat) (v : Value) (h : ∃ (c : UInt8) (u : Tok), b[i]? = some c ∧ v = .int ((c.toNat : Nat) : Int) u) : ∃ (k : Int) (t : Tok), (KBw.bInts b)[i]? = some k ∧ v = .int k t := by
  obtain ⟨c, u, hc, rfl⟩ := h
  refine ⟨_, u, ?_, rfl⟩
  unfold KBw.bInts
  rw [List.getElem?_map, Array.getElem?_toList, hc]; rfl
theorem foldl_filter (i : Int) : ∀ (nf l : List Int), nf.foldl (fun l k => if i < k then l ++ [k] else l) l = l ++ nf.filter fun h => decide (i < h)
  | [], l => by simp
  | k :: nf, l => by
    rw [List.foldl_cons, foldl_filter i nf]
    by_cases h : i < k
    · rw [if_pos h, List.filter_cons_of_pos (by simpa using h), List.append_assoc]; rfl
    · rw [if_neg h, List.filter_cons_of_neg (by simpa using h)]
/-- four columns, the lowest first, none higher than four -/
def SortedB (bs : List Nat) : Prop := bs.length = 4 ∧ (∀ b ∈ bs, b ≤ 4) ∧ bs.Pairwise (· ≤ ·)
theorem toB {v : List Value} {n : List Int} (hi : IntsAre v n) (hl : n.length = 4) (hb : ∀ v ∈ n, 0 ≤ v ∧ v ≤ 4) (hp : n.Pairwise (· ≤ ·)) : ∃ bs : List Nat, IntsAre v (bs.map fun (b : Nat) => (b : Int)) ∧ SortedB bs := by
  have e : (n.map Int.toNat).map (fun (b : Nat) => (b : Int)) = n := by
    rw [List.map_map]
    conv => rhs; rw [← List.map_id n]
    refine List.map_congr_left fun v hv => ?_
    have := hb v hv
    show ((v.toNat : Nat) : Int) = v
    omega
  refine ⟨n.map Int.toNat, by rw [e]; exact hi, by rw [List.length_map, hl], ?_, ?_⟩
  · intro b hbm
    obtain ⟨v, hv, rfl⟩ := List.mem_map.mp hbm
    have := hb v hv
    omega
  · rw [List.pairwise_map]
    exact hp.imp fun h => by omega
theorem sectC2 {w : World} {dp : Nat} {fr : Option (List Env)} {gd : Option (List Code)} {un : Nat} {s : Shared} {mg mb : Str → Option Value} {p : Program} {loose : List Str} {mean : ExcName → Option Value} {h₀ : Heap} {L fa D7 : Addr} {cd : Value} {figs : List Int} {zs : List Value} {tw : Tok} {u : Str → Option Value} {o0 o1 : Obj} {Q : Flow → Shared → Prop}
    (F : Fr h₀ L s.heap (kstB u [(Str.ofString "word", Value.bytes (figs.map fun v => UInt8.ofNat (65 + v.toNat)).toArray tw)])) (X : (hd02.heap_39 w.params).In h₀) (T : Top p loose mean mg mb h₀)
    (N : News h₀ L s.heap ([(D7, PySem.W.listOf zs.toArray 0)] ++ [(L + 1 + 1, o1), (L + 1, o0)])) (d1 : o1.data = .cell none)
    (next : ∀ (D1 D2 D3 : Addr) (v1 v2 v3 : List Value) (k1 k2 k3 : Nat) (b1 b2 b3 : List Nat) (o1 : Obj) u h' tk', IntsAre v1 (b1.map fun (b : Nat) => (b : Int)) → IntsAre v2 (b2.map fun (b : Nat) => (b : Int)) → IntsAre v3 (b3.map fun (b : Nat) => (b : Int)) → SortedB b1 → SortedB b2 → SortedB b3 → o1.data = .cell (some (.ref D1)) →
      Fr h₀ L h' (kstB u [(Str.ofString "turned", Value.ref D2), (Str.ofString "second", Value.ref D3)]) → News h₀ L h' [(D3, PySem.W.listOf v3.toArray k3), (D2, PySem.W.listOf v2.toArray k2), (D1, PySem.W.listOf v1.toArray k1), (D7, PySem.W.listOf zs.toArray 0), (L + 1 + 1, o1), (L + 1, o0)] →
      wpAny (model prog2 w) { handled := none, depth := dp, frames := fr, guards := gd, units := un } (execs (law2.1.drop 12) (env2 L fa cd)) Q (fun _ _ => False) { s with heap := h', toks := tk' })
    (hfl : figs.length = 8) (hfb : ∀ v ∈ figs, 0 ≤ v ∧ v < 5) (hroom : dp + 5 < recursionLimit) :
    wpAny (model prog2 w) { handled := none, depth := dp, frames := fr, guards := gd, units := un } (execs (law2.1.drop 9) (env2 L fa cd)) Q (fun _ _ => False) s := by
  have hb : law2 = (_, _) := rfl
  rw [hb]
  clear hb
  dsimp only [List.drop, kstB] at F ⊢
  dsimp only [List.cons_append, List.nil_append] at N
  have hB := figs_bInts hfb
  generalize (figs.map fun v => UInt8.ofNat (65 + v.toNat)).toArray = bw at *
  walk_at "MY:w"
  refine ListComp_bytes F (by with_unfolding_all rfl) (by decide) (by rfl) (by decide) (by rfl) ?_
  walk_at "MY:w"
  refine KBc.slice_K (s := ⟨_, _, _, _, _⟩) F N hB (by constructor) (by constructor) (by rw [List.length_map]; omega) ?_
  clear F N
  intro h4 t4 k4 F4 N4 hB4
  generalize KBy.picked bw none (some 4) = b4 at *
  have hB5 : KBw.bInts b4 = (figs.take 4).map fun v => 65 + v := by
    rw [hB4, List.length_map, hfl, List.map_take]; rfl
  clear hB4
  dsimp only
  have hbs : b4.size = 4 := by rw [← KBw.ints_length, hB5, List.length_map, List.length_take, hfl]; rfl
  refine ⟨b4, t4, _, rfl, rfl, F4, N4, by rw [hbs, PySem.sizeLine_eq]; omega, fun g' => ?_⟩
  refine' kcf_rest (ks := (figs.take 4).map fun v => 65 + v) (fun k => k - 65) (by rw [List.length_map, List.length_take, hfl, hbs]; rfl) (fun i v _ hP => by rw [← hB5]; exact bInts_get i v hP) (fun k' t' I' oI' C' oC' D' m' ys' h' tk' E' hk' hC' hx' F' N' off' ne' mk' => ?_) ?_
  · clear F4 N4
    dsimp only
    walk_at "MY:w"
    exact LCg.CompEnd.intro F' N' _ (fun p hp => hp) off' trivial ⟨rfl, _, rfl⟩
  · unfold KPfDone
    clear F4 N4
    intro yv hV D5 h5 tk5 F5 N5 off5
    have eV : (((figs.take 4).map fun v => 65 + v).map fun k => k - 65) = figs.take 4 := by
      rw [List.map_map]
      conv => rhs; rw [← List.map_id (figs.take 4)]
      refine List.map_congr_left fun v _ => ?_
      show 65 + v - 65 = v
      omega
    rw [eV] at hV
    clear eV
    dsimp only
    walk_at "MY:w"
    refine kso_sorted F5 N5 (News.isList N5 (.head _)) hV (by rw [List.length_take]; omega) ?_
    clear off5
    intro D6 vf nf cf h6 F6 N6 hlt6 hif hlf hpf hsf _
    clear F5 hV N5
    have hnfl : nf.length = 4 := by rw [hlf, List.length_take, hfl]; rfl
    have hnfb : ∀ v ∈ nf, 0 ≤ v ∧ v < 5 := fun v hv => hfb v (List.mem_of_mem_take (hpf.mem_iff.mp hv))
    replace N6 := kst_newsOf N6 (l' := [(D6, PySem.W.listOf vf.toArray cf), (D7, PySem.W.listOf zs.toArray 0)] ++ [(L + 1 + 1, o1), (L + 1, o0)]) (List.forall_mem_cons.mpr ⟨.head _, fun p hp => .tail _ (.tail _ hp)⟩)
    refine st_first [(D6, PySem.W.listOf vf.toArray cf), (D7, PySem.W.listOf zs.toArray 0)] F6 N6 d1 rfl ?_
    clear F6 N6 hlt6
    intro h8 o1' F7 N7 d1'
    dsimp only [List.cons_append, List.nil_append] at N7
    walk_at "MY:w"
    refine ListComp_cell (K := 4) (fun row => (((nf.filter fun h => decide (((row : Nat) : Int) < h)).length : Nat) : Int)) F7 (by with_unfolding_all rfl) (fun n => by with_unfolding_all rfl) (fun h => by with_unfolding_all rfl) (by rfl) (by decide) (by with_unfolding_all rfl) (by omega) ?_
    walk_at "MY:w"
    rename Fr _ _ _ _ => F8
    rename News _ _ _ _ => N8
    rename IsRange _ _ _ _ _ _ _ _ => hr
    refine ⟨_, _, _, _, _, rfl, (by first | rfl | trivial), F8, N8, hr, ?_, ?_⟩
    · clear F8 N8 hr
      intro i t I oI C oC D cc occ ys m₂ h9 tk9 E' hi4 hoc hoC F9 N9 off9 ne9
      walk_at "MY:w"
      refine LCt.ListComp_T (F₀ := F9) (by with_unfolding_all rfl) (by decide) (by rfl) (by decide) (by rfl) ?_
      walk_at "MY:n"
      refine LCt.CompSrcT.ledger (by rfl) F9 N9 (k := cf) (by k_mem) (by rw [PySem.sizeLine_eq, List.size_toArray, hif.length]; omega) ?_
      intro g'
      refine' kci_list (fun l k => if ((i : Nat) : Int) < k then l ++ [k] else l) hif (fun k' t' I' oI' C' oC' D' m' ys' l' h' tk' E2' hk' hy' hC' hx' F' N' off' ne' mk' => ?_) ?_ ?_
      · clear F9 N9 off9 ne9
        dsimp only
        walk_at "MY:w"
        · rename (_ : Int) < _ => hgt
          exact LCg.CompEnd.intro F' N' _ (fun p hp => hp) off' (.inr ⟨_, by k_mem, rfl, _, rfl⟩) (kci_el (by rw [if_pos hgt]) rfl rfl)
        · rename ¬ _ => hgt
          exact LCg.CompEnd.intro F' N' _ (fun p hp => hp) off' (.inr ⟨_, by k_mem, rfl, _, rfl⟩) (kci_no (by rw [if_neg hgt]) rfl)
      · unfold KPfDone
        intro yv hV hyl D5 h5 tk5 F5 N5 off5
        clear F9 N9
        rw [foldl_filter, List.nil_append] at hV
        dsimp only
        walk_at "MY:w"
        have hyl2 : yv.length ≤ 4 := by rw [List.size_toArray, hif.length, hnfl] at hyl; exact hyl
        refine PyProof.Rows.len_list (items := yv.toArray) (News.isList N5 (.head _)) (by rw [List.size_toArray]; omega) ?_
        rw [List.size_toArray, hV.length]
        exact LCg.CompEnd.intro F5 N5 _ (fun p hp => .tail _ hp) off9 trivial ⟨⟨_, rfl⟩, rfl⟩
      · intro l k
        dsimp only
        split
        · rw [List.length_append]; exact Nat.le_refl _
        · omega
    · clear F8 N8 hr
      intro D ys h9 tk9 hys F9 N9 off9
      walk_at "MY:w"
      have hcb : ∀ v ∈ (List.range 4).map (fun row => (((nf.filter fun h => decide (((row : Nat) : Int) < h)).length : Nat) : Int)), 0 ≤ v ∧ v ≤ 4 := by
        intro v hv
        obtain ⟨q, _, rfl⟩ := List.mem_map.mp hv
        have := List.length_filter_le (fun h => decide (((q : Nat) : Int) < h)) nf
        omega
      have hcl : ((List.range 4).map (fun row => (((nf.filter fun h => decide (((row : Nat) : Int) < h)).length : Nat) : Int))).length = 4 := by rw [List.length_map, List.length_range]
      generalize (List.range 4).map (fun row => (((nf.filter fun h => decide (((row : Nat) : Int) < h)).length : Nat) : Int)) = cj at *
      refine kso_sorted F9 N9 (News.isList N9 (.head _)) hys (by omega) ?_
      clear off9
      intro D8 vt nt ct h10 F10 N10 hlt10 hit hlt hpt hst _
      clear F9 hys N9 hlt10
      have hntl : nt.length = 4 := by rw [hlt, hcl]
      have hntb : ∀ v ∈ nt, 0 ≤ v ∧ v ≤ 4 := fun v hv => hcb v (hpt.mem_iff.mp hv)
      replace N10 := kst_newsOf N10 (l' := [(D8, PySem.W.listOf vt.toArray ct), (D6, PySem.W.listOf vf.toArray cf), (D7, PySem.W.listOf zs.toArray 0), (L + 1 + 1, o1'), (L + 1, o0)]) (List.forall_mem_cons.mpr ⟨.head _, fun p hp => .tail _ (.tail _ hp)⟩)
      walk_at "MY:w"
      rename Fr _ _ _ _ => F11
      rename News _ _ _ _ => N11
      refine ListComp_bytes F11 (by with_unfolding_all rfl) (by decide) (by rfl) (by decide) (by rfl) ?_
      walk_at "MY:w"
      refine KBc.slice_K (s := ⟨_, _, _, _, _⟩) F11 N11 hB (by constructor) (by constructor) (by rw [List.length_map]; omega) ?_
      clear F11 N11
      intro h12 t12 k12 F12 N12 hB12
      generalize KBy.picked bw (some 4) none = b8 at *
      have hB13 : KBw.bInts b8 = (figs.drop 4).map fun v => 65 + v := by
        rw [hB12, List.length_map, hfl, List.map_drop]
        show (List.drop 4 _).take 4 = _
        rw [List.take_of_length_le (by rw [List.length_drop, List.length_map]; omega)]
      clear hB12
      dsimp only
      have hbs8 : b8.size = 4 := by rw [← KBw.ints_length, hB13, List.length_map, List.length_drop, hfl]
      refine ⟨b8, t12, _, rfl, rfl, F12, N12, by rw [hbs8, PySem.sizeLine_eq]; omega, fun g' => ?_⟩
      refine' kcf_rest (ks := (figs.drop 4).map fun v => 65 + v) (fun k => k - 65) (by rw [List.length_map, List.length_drop, hfl, hbs8]) (fun i v _ hP => by rw [← hB13]; exact bInts_get i v hP) (fun k' t' I' oI' C' oC' D' m' ys' h' tk' E' hk' hC' hx' F' N' off' ne' mk' => ?_) ?_
      · clear F12 N12
        dsimp only
        walk_at "MY:w"
        exact LCg.CompEnd.intro F' N' _ (fun p hp => hp) off' trivial ⟨rfl, _, rfl⟩
      · unfold KPfDone
        clear F12 N12
        intro yv hV D13 h13 tk13 F13 N13 off13
        have eV : (((figs.drop 4).map fun v => 65 + v).map fun k => k - 65) = figs.drop 4 := by
          rw [List.map_map]
          conv => rhs; rw [← List.map_id (figs.drop 4)]
          refine List.map_congr_left fun v _ => ?_
          show 65 + v - 65 = v
          omega
        rw [eV] at hV
        clear eV
        dsimp only
        walk_at "MY:w"
        refine kso_sorted F13 N13 (News.isList N13 (.head _)) hV (by rw [List.length_drop]; omega) ?_
        clear off13
        intro D14 vc nc cc h14 F14 N14 hlt14 hic hlc hpc hsc _
        clear F13 hV N13 hlt14
        have hncl : nc.length = 4 := by rw [hlc, List.length_drop, hfl]
        have hncb : ∀ v ∈ nc, 0 ≤ v ∧ v ≤ 4 := fun v hv => by have := hfb v (List.mem_of_mem_drop (hpc.mem_iff.mp hv)); omega
        replace N14 := kst_newsOf N14 (l' := [(D14, PySem.W.listOf vc.toArray cc), (D8, PySem.W.listOf vt.toArray ct), (D6, PySem.W.listOf vf.toArray cf), (D7, PySem.W.listOf zs.toArray 0), (L + 1 + 1, o1'), (L + 1, o0)]) (List.forall_mem_cons.mpr ⟨.head _, fun p hp => .tail _ (.tail _ hp)⟩)
        walk_at "MY:n"
        rename Fr _ _ _ _ => F15
        rename News _ _ _ _ => N15
        obtain ⟨b1, hb1, hs1⟩ := toB hif hnfl (fun v hv => by have := hnfb v hv; omega) hsf
        obtain ⟨b2, hb2, hs2⟩ := toB hit hntl hntb hst
        obtain ⟨b3, hb3, hs3⟩ := toB hic hncl hncb hsc
        exact next D6 D8 D14 vf vt vc cf ct cc b1 b2 b3 o1' _ _ _ hb1 hb2 hb3 hs1 hs2 hs3 d1' (fr_kst F15 (List.forall_mem_cons.mpr ⟨rfl, List.forall_mem_cons.mpr ⟨rfl, List.forall_mem_nil _⟩⟩)) N15
end Mine
-- L02d
set_option maxHeartbeats 4000000
namespace Mine
local macro_rules | `(tactic| walk_at "MY:n") => `(tactic| ((first | walk1 | (dsimp only; walk1))))
local macro_rules | `(tactic| walk_at "MY:w") => `(tactic| repeat' (first | (k_unfold; (try dsimp only)) | (k_end; fail) | (
  (fail_if_success (with_reducible show wpAny _ _ (exec (Stmt.For _ _ _ _ _) _) _ _ _));
  (fail_if_success (with_reducible show wpAny _ _ (exec (Stmt.Assign _ (Expr.ListComp _ _ _ _) _) _) _ _ _));
  (fail_if_success (with_reducible show wpAny _ _ (subscriptTail _ _ _ _) _ _ _));
  (fail_if_success (with_reducible show wpAny _ _ (eval (Expr.ListComp _ _ _ _) _) _ _ _));
  (fail_if_success (with_reducible show LCg.CompEnd _ _ _ _ _ _ _ _ _ _ _ _ _ _));
  (fail_if_success (with_reducible show LCg.CompSrc _ _ _ _ _ _ _ _ _ _ _ _ _ _));
  (fail_if_success (with_reducible show Exists _));
  (fail_if_success (with_reducible show wpAny _ _ (pyIter _) _ _ _));
  (fail_if_success (with_reducible show wpAny _ _ (call (Value.ref _) _) _ _ _));
  (first | walk1 | (dsimp only; walk1)))))
section
variable {w : World} {dp : Nat} {fr : Option (List Env)} {gd : Option (List Code)} {un : Nat} {s s₁ : Shared} {mg mb : Str → Option Value} {p : Program} {loose : List Str} {mean : ExcName → Option Value} {h₀ : Heap} {L : Addr} {m : Str → Option Value} {news : List (Addr × Obj)} {I C D : Addr} {oI oC oD : Obj} {S : List (Addr × Obj) → Prop} {rest : Value → List (Addr × Obj) → Prop} {E : Value → Shared → Prop}
theorem new_off (N : News h₀ L s.heap ((I, oI) :: (C, oC) :: (D, oD) :: news)) (off : LCg.Off3 I C D news) {new : List (Addr × Obj)} (hn : ∀ p ∈ new, s.heap.get? p.1 = none) : LCg.Off3 I C D (new ++ news) := LCg.Off3.of fun p hp => by
  rcases List.mem_append.mp hp with hp | hp
  · have h0 := hn p hp
    have f : ∀ {q : Addr × Obj}, q ∈ (I, oI) :: (C, oC) :: (D, oD) :: news → p.1 ≠ q.1 := fun hq e => by
      have := (N _ hq).1
      rw [← e, h0] at this; cases this
    exact ⟨f (.head _), f (.tail _ (.head _)), f (.tail _ (.tail _ (.head _)))⟩
  · exact off.mem p hp
theorem lead_turn {l e : Addr} {vs zs : List Value} {kl ke : Nat} {bs : List Nat} {es : List (List Nat)}
    (F : Fr h₀ L s.heap m) (X : (hd02.heap_39 w.params).In h₀) (T : Top p loose mean mg mb h₀) (N : News h₀ L s.heap ((I, oI) :: (C, oC) :: (D, oD) :: news)) (off : LCg.Off3 I C D news) (hml : (l, PySem.W.listOf vs.toArray kl) ∈ news) (hme : (e, PySem.W.listOf zs.toArray ke) ∈ news)
    (hi : IntsAre vs (bs.map fun (b : Nat) => (b : Int))) (hb : SortedB bs) (hz : ∀ j, j < 4 → ∃ t, zs[j]? = some (.str (tx (es.getD j [])) t)) (he : ∀ j, j < 4 → isEnd (es.getD j [])) (hroom : dp + 3 < recursionLimit)
    (hS : ∀ i, S (wsLed 100 w.params i ++ news)) (hr : ∀ i : WsI, i.x = tx (rowsT (leadV bs)) → IntsAre i.vs (wsF i.x.cps.toList).1 → rest (.ref i.y) (wsLed 100 w.params i ++ news)) :
    wpAny (model prog2 w) { handled := none, depth := dp, frames := fr, guards := gd, units := un } (call (.ref 147) [.ref l, .ref e]) (LCg.CompEnd h₀ L m s I oI C oC D oD S rest) E s := by
  refine lead_2 F X T N (.tail _ (.tail _ (.tail _ hml))) (.tail _ (.tail _ (.tail _ hme))) hi hb.2.1 hb.1 hz he hroom ?_
  intro i h' tk' hix hiv hnew F' N'
  refine LCg.CompEnd.intro F' N' (wsLed 100 w.params i ++ news) (fun p hp => ?_) (new_off N off hnew) (hS i) (hr i hix hiv)
  rcases List.mem_cons.mp hp with q | hp
  · exact q ▸ List.mem_append_right _ (.head _)
  · rcases List.mem_cons.mp hp with q | hp
    · exact q ▸ List.mem_append_right _ (.tail _ (.head _))
    · rcases List.mem_cons.mp hp with q | hp
      · exact q ▸ List.mem_append_right _ (.tail _ (.tail _ (.head _)))
      · exact (List.mem_append.mp hp).elim (fun h => List.mem_append_left _ h) fun h => List.mem_append_right _ (.tail _ (.tail _ (.tail _ h)))
theorem ways_turn {l : Addr} {vs : List Value} {kl : Nat} {bs : List Nat}
    (F : Fr h₀ L s.heap m) (X : (hd02.heap_39 w.params).In h₀) (T : Top p loose mean mg mb h₀) (N : News h₀ L s.heap ((I, oI) :: (C, oC) :: (D, oD) :: news)) (off : LCg.Off3 I C D news) (hml : (l, PySem.W.listOf vs.toArray kl) ∈ news)
    (hi : IntsAre vs (bs.map fun (b : Nat) => (b : Int))) (hb : SortedB bs) (hroom : dp + 3 < recursionLimit)
    (hS : ∀ q, S (q :: news)) (hr : ∀ a v k, IntsAre v (waysF bs) → rest (.ref a) ((a, PySem.W.listOf v.toArray k) :: news)) :
    wpAny (model prog2 w) { handled := none, depth := dp, frames := fr, guards := gd, units := un } (call (.ref 140) [.ref l]) (LCg.CompEnd h₀ L m s I oI C oC D oD S rest) E s := by
  refine ways_2 (X.keeps F.keep) (T.keeps F.keep) (News.isList N (.tail _ (.tail _ (.tail _ hml)))) hi hb.2.1 hb.1 (by omega) ?_
  intro a v k h' tk' hv hst ha hn
  have F' := fr_stays F hst
  have N' := news_stays N hst
  have hnew : ∀ p ∈ [(a, PySem.W.listOf v.toArray k)], s.heap.get? p.1 = none := fun p hp => by rw [List.mem_singleton.mp hp]; exact hn
  have N2 : News h₀ L h' ((a, PySem.W.listOf v.toArray k) :: (I, oI) :: (C, oC) :: (D, oD) :: news) := fun p hp => by
    rcases List.mem_cons.mp hp with q | hp
    · rw [q]
      refine ⟨ha, fun e => ?_, ?_⟩
      · obtain ⟨oL, _, _, hL, _⟩ := F.ns
        rw [show a = L from e, hL] at hn; cases hn
      · cases q2 : h₀.get? a with
        | none => rfl
        | some o' => rw [F.keep _ _ q2] at hn; cases hn
    · exact N' p hp
  refine LCg.CompEnd.intro F' N2 ((a, PySem.W.listOf v.toArray k) :: news) (fun p hp => ?_) (new_off N off hnew) (hS _) (hr a v k hv)
  rcases List.mem_cons.mp hp with q | hp
  · exact q ▸ .tail _ (.head _)
  · rcases List.mem_cons.mp hp with q | hp
    · exact q ▸ .tail _ (.tail _ (.head _))
    · rcases List.mem_cons.mp hp with q | hp
      · exact q ▸ .tail _ (.tail _ (.tail _ (.head _)))
      · rcases List.mem_cons.mp hp with q | hp
        · exact q ▸ .head _
        · exact .tail _ (.tail _ (.tail _ (.tail _ hp)))
end
def sel3 {α : Type} (a b c : α) : Nat → α
  | 0 => a
  | 1 => b
  | _ => c
theorem mem_pre {α : Type} {p : α} {a b : List α} (h : p ∈ a) : p ∈ a ++ b := List.mem_append_left _ h
theorem sectD2 {w : World} {dp : Nat} {fr : Option (List Env)} {gd : Option (List Code)} {un : Nat} {s : Shared} {mg mb : Str → Option Value} {p : Program} {loose : List Str} {mean : ExcName → Option Value} {h₀ : Heap} {L fa D1 D2 D3 D7 : Addr} {cd : Value} {v1 v2 v3 zs : List Value} {k1 k2 k3 r : Nat} {b1 b2 b3 : List Nat} {u : Str → Option Value} {o0 o1 : Obj} {Q : Flow → Shared → Prop}
    (F : Fr h₀ L s.heap (kstB u [(Str.ofString "turned", Value.ref D2), (Str.ofString "second", Value.ref D3)])) (X : (hd02.heap_39 w.params).In h₀) (T : Top p loose mean mg mb h₀)
    (N : News h₀ L s.heap [(D3, PySem.W.listOf v3.toArray k3), (D2, PySem.W.listOf v2.toArray k2), (D1, PySem.W.listOf v1.toArray k1), (D7, PySem.W.listOf zs.toArray 0), (L + 1 + 1, o1), (L + 1, o0)])
    (d0 : o0.data = .cell (some (.ref D7))) (d1 : o1.data = .cell (some (.ref D1))) (hr : r < 3) (hz : ∀ j, j < 4 → ∃ t, zs[j]? = some (Value.str (tx ((ends6.drop r).getD j [])) t))
    (hi1 : IntsAre v1 (b1.map fun (b : Nat) => (b : Int))) (hi2 : IntsAre v2 (b2.map fun (b : Nat) => (b : Int))) (hi3 : IntsAre v3 (b3.map fun (b : Nat) => (b : Int))) (hs1 : SortedB b1) (hs2 : SortedB b2) (hs3 : SortedB b3) (hroom : dp + 5 < recursionLimit)
    (next : ∀ (ii : Nat → WsI) (aa : Nat → Addr) (wv : Nat → List Value) (wk : Nat → Nat) (DL DW : Addr) (news : List (Addr × Obj)) u' h' tk', Fr h₀ L h' (kstB u' [(Str.ofString "leads", Value.ref DL), (Str.ofString "ways", Value.ref DW)]) →
      News h₀ L h' ((DW, PySem.W.listOf #[.ref (aa 0), .ref (aa 1), .ref (aa 2)] 3) :: (DL, PySem.W.listOf #[.ref (ii 0).y, .ref (ii 1).y, .ref (ii 2).y] 3) :: news) →
      (∀ k, k < 3 → (aa k, PySem.W.listOf (wv k).toArray (wk k)) ∈ news ∧ (∀ p ∈ wsLed 100 w.params (ii k), p ∈ news) ∧ (ii k).x = tx (rowsT (leadV (sel3 b1 b2 b3 k))) ∧ IntsAre (ii k).vs (wsF (ii k).x.cps.toList).1 ∧ IntsAre (wv k) (waysF (sel3 b1 b2 b3 k))) →
      wpAny (model prog2 w) { handled := none, depth := dp, frames := fr, guards := gd, units := un } (execs (law2.1.drop 15) (env2 L fa cd)) Q (fun _ _ => False) { s with heap := h', toks := tk' }) :
    wpAny (model prog2 w) { handled := none, depth := dp, frames := fr, guards := gd, units := un } (execs (law2.1.drop 12) (env2 L fa cd)) Q (fun _ _ => False) s := by
  have hb : law2 = (_, _) := rfl
  rw [hb]
  clear hb
  dsimp only [List.drop, kstB] at F ⊢
  walk_at "MY:w"
  rename Fr _ _ _ _ => F1
  rename News _ _ _ _ => N1
  refine LCg.Assign_ListComp_U (F₀ := F1) (by rfl) (by with_unfolding_all rfl) (by with_unfolding_all rfl) (by decide) (by rfl) (by decide) (by rfl) (by rfl) (by rfl) ?_
  walk_at "MY:w"
  refine LCg.CompSrc.ledger (by rfl) F1 N1 (k := 0) (.head _) (by rw [PySem.sizeLine_eq]; show 3 ≤ _; omega) ?_
  intro g'
  clear F1 N1
  have hes : ∀ j, j < 4 → isEnd ((ends6.drop r).getD j []) := fun j hj => ends_are2 r j hr hj
  refine LCg.CompRest.succ (k := 2) ?_
  intro v I oI C oC D m₂ h5 tk5 E' hv hC hx F5 N5 off5 ne5
  have hve : v = .ref D1 := (Option.some.inj hv).symm
  subst hve
  walk_at "MY:w"
  refine lead_turn F5 X T N5 off5 (.tail _ (.tail _ (.tail _ (.head _)))) (.tail _ (.tail _ (.tail _ (.tail _ (.head _))))) hi1 hs1 hz hes (by omega) (fun i => .inr ⟨_, List.mem_append_right _ (.head _), rfl, _, rfl⟩) ?_
  intro i1 hx1 hn1
  clear hv hC hx F5 N5 off5 ne5
  refine LCg.CompRest.succ (k := 1) ?_
  intro v I oI C oC D m₂ h5 tk5 E' hv hC hx F5 N5 off5 ne5
  have hve : v = .ref D2 := (Option.some.inj hv).symm
  subst hve
  dsimp only [wsLed, List.cons_append, List.nil_append] at N5 off5
  walk_at "MY:w"
  refine lead_turn F5 X T N5 off5 (.tail _ (.tail _ (.tail _ (.tail _ (.tail _ (.tail _ (.head _))))))) (.tail _ (.tail _ (.tail _ (.tail _ (.tail _ (.tail _ (.tail _ (.tail _ (.head _))))))))) hi2 hs2 hz hes (by omega) (fun i => .inr ⟨_, List.mem_append_right _ (.tail _ (.tail _ (.tail _ (.tail _ (.head _))))), rfl, _, rfl⟩) ?_
  intro i2 hx2 hn2
  clear hv hC hx F5 N5 off5 ne5
  refine LCg.CompRest.succ (k := 0) ?_
  intro v I oI C oC D m₂ h5 tk5 E' hv hC hx F5 N5 off5 ne5
  have hve : v = .ref D3 := (Option.some.inj hv).symm
  subst hve
  dsimp only [wsLed, List.cons_append, List.nil_append] at N5 off5
  walk_at "MY:w"
  refine lead_turn F5 X T N5 off5 (.tail _ (.tail _ (.tail _ (.tail _ (.tail _ (.tail _ (.tail _ (.tail _ (.tail _ (.head _)))))))))) (.tail _ (.tail _ (.tail _ (.tail _ (.tail _ (.tail _ (.tail _ (.tail _ (.tail _ (.tail _ (.tail _ (.tail _ (.head _))))))))))))) hi3 hs3 hz hes (by omega) (fun i => .inr ⟨_, List.mem_append_right _ (.tail _ (.tail _ (.tail _ (.tail _ (.tail _ (.tail _ (.tail _ (.tail _ (.head _))))))))), rfl, _, rfl⟩) ?_
  intro i3 hx3 hn3
  clear hv hC hx F5 N5 off5 ne5
  intro D4 h6 tk6 F6 N6 off6
  dsimp only [wsLed, List.cons_append, List.nil_append] at N6 off6
  walk_at "MY:w"
  rename Fr _ _ _ _ => F1
  rename News _ _ _ _ => N1
  refine LCg.Assign_ListComp_U (F₀ := F1) (by rfl) (by with_unfolding_all rfl) (by with_unfolding_all rfl) (by decide) (by rfl) (by decide) (by rfl) (by rfl) (by rfl) ?_
  walk_at "MY:w"
  refine LCg.CompSrc.ledger (by rfl) F1 N1 (k := 0) (.tail _ (.tail _ (.tail _ (.tail _ (.tail _ (.tail _ (.tail _ (.tail _ (.tail _ (.tail _ (.tail _ (.tail _ (.tail _ (.head _)))))))))))))) (by rw [PySem.sizeLine_eq]; show 3 ≤ _; omega) ?_
  intro g'
  clear F1 N1
  refine LCg.CompRest.succ (k := 2) ?_
  intro v I oI C oC D m₂ h5 tk5 E' hv hC hx F5 N5 off5 ne5
  have hve : v = .ref D1 := (Option.some.inj hv).symm
  subst hve
  walk_at "MY:w"
  refine ways_turn F5 X T N5 off5 (.tail _ (.tail _ (.tail _ (.tail _ (.tail _ (.tail _ (.tail _ (.tail _ (.tail _ (.tail _ (.tail _ (.tail _ (.tail _ (.tail _ (.tail _ (.tail _ (.head _))))))))))))))))) hi1 hs1 (by omega) (fun i => .inr ⟨_, .tail _ (.tail _ (.tail _ (.tail _ (.tail _ (.tail _ (.tail _ (.tail _ (.tail _ (.tail _ (.tail _ (.tail _ (.tail _ (.tail _ (.head _)))))))))))))), rfl, _, rfl⟩) ?_
  intro a1 wv1 wk1 hw1
  clear hv hC hx F5 N5 off5 ne5
  refine LCg.CompRest.succ (k := 1) ?_
  intro v I oI C oC D m₂ h5 tk5 E' hv hC hx F5 N5 off5 ne5
  have hve : v = .ref D2 := (Option.some.inj hv).symm
  subst hve
  walk_at "MY:w"
  refine ways_turn F5 X T N5 off5 (.tail _ (.tail _ (.tail _ (.tail _ (.tail _ (.tail _ (.tail _ (.tail _ (.tail _ (.tail _ (.tail _ (.tail _ (.tail _ (.tail _ (.tail _ (.tail _ (.head _))))))))))))))))) hi2 hs2 (by omega) (fun i => .inr ⟨_, .tail _ (.tail _ (.tail _ (.tail _ (.tail _ (.tail _ (.tail _ (.tail _ (.tail _ (.tail _ (.tail _ (.tail _ (.tail _ (.tail _ (.tail _ (.head _))))))))))))))), rfl, _, rfl⟩) ?_
  intro a2 wv2 wk2 hw2
  clear hv hC hx F5 N5 off5 ne5
  refine LCg.CompRest.succ (k := 0) ?_
  intro v I oI C oC D m₂ h5 tk5 E' hv hC hx F5 N5 off5 ne5
  have hve : v = .ref D3 := (Option.some.inj hv).symm
  subst hve
  walk_at "MY:w"
  refine ways_turn F5 X T N5 off5 (.tail _ (.tail _ (.tail _ (.tail _ (.tail _ (.tail _ (.tail _ (.tail _ (.tail _ (.tail _ (.tail _ (.tail _ (.tail _ (.tail _ (.tail _ (.tail _ (.head _))))))))))))))))) hi3 hs3 (by omega) (fun i => .inr ⟨_, .tail _ (.tail _ (.tail _ (.tail _ (.tail _ (.tail _ (.tail _ (.tail _ (.tail _ (.tail _ (.tail _ (.tail _ (.tail _ (.tail _ (.tail _ (.tail _ (.head _)))))))))))))))), rfl, _, rfl⟩) ?_
  intro a3 wv3 wk3 hw3
  clear hv hC hx F5 N5 off5 ne5
  intro D5 h6 tk6 F6 N6 off6
  have nx := next (sel3 i1 i2 i3) (sel3 a1 a2 a3) (sel3 wv1 wv2 wv3) (sel3 wk1 wk2 wk3) D4 D5
  clear next
  change ∀ news u' h' tk', _ → News h₀ L h' ((D5, LCg.lst [.ref a1, .ref a2, .ref a3]) :: (D4, LCg.lst [.ref i1.y, .ref i2.y, .ref i3.y]) :: news) → _ → _ at nx
  refine nx _ _ h6 _ (fr_kst F6 (ps := [(Str.ofString "leads", Value.ref D4), (Str.ofString "ways", Value.ref D5)]) (List.forall_mem_cons.mpr ⟨rfl, List.forall_mem_cons.mpr ⟨rfl, List.forall_mem_nil _⟩⟩)) (kst_newsOf N6 (List.forall_mem_cons.mpr ⟨.head _, List.forall_mem_cons.mpr ⟨.tail _ (.tail _ (.tail _ (.tail _ (.head _)))), fun p hp => .tail _ hp⟩⟩)) ?_
  intro k hk
  rcases k with _ | _ | _ | k
  · exact ⟨.tail _ (.tail _ (.head _)), fun p hp => .tail _ (.tail _ (.tail _ (.tail _ (.tail _ (.tail _ (.tail _ (.tail _ (.tail _ (.tail _ (.tail _ (.tail _ (mem_pre hp)))))))))))), hx1, hn1, hw1⟩
  · exact ⟨.tail _ (.head _), fun p hp => .tail _ (.tail _ (.tail _ (.tail _ (.tail _ (.tail _ (.tail _ (.tail _ (mem_pre hp)))))))), hx2, hn2, hw2⟩
  · exact ⟨.head _, fun p hp => .tail _ (.tail _ (.tail _ (.tail _ (mem_pre hp)))), hx3, hn3, hw3⟩
  · omega
end Mine
-- Ne2q
set_option maxHeartbeats 4000000
namespace Mine
theorem ne_two {prog : Program} {w : World} {A : Around} {E : Value → Shared → Prop} {s : Shared} {h₀ : Heap} {L a b : Addr} {news : List (Addr × Obj)} {p q p' q' : Bool} {ka kb : Nat} {Q : Value → Shared → Prop}
    (N : News h₀ L s.heap news) (ma : (a, PySem.W.listOf #[.bool p, .bool q] ka) ∈ news) (mb : (b, PySem.W.listOf #[.bool p', .bool q'] kb) ∈ news) (hp : p = p') (hq : q = q') (hu : A.units + 64 < cLine) (h : Q (.bool false) s) :
    wpAny (model prog w) A (compareOp .NotEq (.ref a) (.ref b)) Q E s := by
  subst hp hq
  refine ne_dataH (reads_list_at (News.get N ma) rfl rfl (.cons (Reads.bool _) (.cons (Reads.bool _) .nil))) (reads_list_at (News.get N mb) rfl rfl (.cons (Reads.bool _) (.cons (Reads.bool _) .nil))) (by rfl) (by rfl) hu ?_
  simp only [PyData.eqv, PyData.eqvAll, beq_self_eq_true, Bool.and_true, Bool.not_true]
  exact h
end Mine
-- L02e
set_option maxHeartbeats 4000000
namespace Mine
local macro_rules | `(tactic| walk_at "MY:n") => `(tactic| ((first | walk1 | (dsimp only; walk1))))
local macro_rules | `(tactic| walk_at "MY:w") => `(tactic| repeat' (first | (k_unfold; (try dsimp only)) | (k_end; fail) | (
  (fail_if_success (with_reducible show wpAny _ _ (exec (Stmt.For _ _ _ _ _) _) _ _ _));
  (fail_if_success (with_reducible show wpAny _ _ (compareOp CmpOp.Eq (Value.ref _) (Value.ref _)) _ _ _));
  (fail_if_success (with_reducible show wpAny _ _ (compareOp CmpOp.NotEq (Value.ref _) (Value.ref _)) _ _ _));
  (fail_if_success (with_reducible show wpAny _ _ (subscriptTail _ _ _ _) _ _ _));
  (fail_if_success (with_reducible show wpAny _ _ (binaryOp Operator.Mult _ _) _ _ _));
  (fail_if_success (with_reducible show wpAny _ _ (call (Value.builtin "len") _) _ _ _));
  (fail_if_success (with_reducible show Exists _));
  (fail_if_success (with_reducible show wpAny _ _ (pyIter _) _ _ _));
  (fail_if_success (with_reducible show wpAny _ _ (call (Value.ref _) _) _ _ _));
  (first | walk1 | (dsimp only; walk1)))))
local macro_rules | `(tactic| walk_at "MY:same") => `(tactic| (intro z hz h2 h3; (simp only [List.forall_mem_cons, List.not_mem_nil, false_implies, implies_true, and_true, ne_eq] at h2); (simp only [List.contains_cons, List.contains_nil, Bool.or_false, Bool.or_eq_false_iff, beq_eq_false_iff_ne, ne_eq] at h3); (simp [hz, h2, h3])))
theorem sel_get {α : Type} (f : Nat → α) {k : Nat} (h : k < 3) : (#[f 0, f 1, f 2] : Array α)[k]? = some (f k) := by
  rcases k with _ | _ | _ | k
  · rfl
  · rfl
  · rfl
  · omega
/-- the product over a run of the counts, `n` of them alike -/
def powF (p v : Int) : Nat → Int
  | 0 => p
  | n + 1 => powF p v n * v
def prodF (ns : List Int) (x : Int) : Nat → Int
  | 0 => 1
  | j + 1 => powF (prodF ns x j) (x + j - 3) (ns.getD j 0).toNat
theorem sectE2 {w : World} {dp : Nat} {fr : Option (List Env)} {gd : Option (List Code)} {un : Nat} {s : Shared} {mg mb : Str → Option Value} {p : Program} {loose : List Str} {mean : ExcName → Option Value} {h₀ : Heap} {L fa DL DW : Addr} {cd : Value} {ii : Nat → WsI} {aa : Nat → Addr} {wv : Nat → List Value} {wk : Nat → Nat} {bo : Nat → List Nat} {news : List (Addr × Obj)} {u : Str → Option Value} {Q : Flow → Shared → Prop}
    (F : Fr h₀ L s.heap (kstB u [(Str.ofString "leads", Value.ref DL), (Str.ofString "ways", Value.ref DW)])) (X : (hd02.heap_39 w.params).In h₀) (T : Top p loose mean mg mb h₀)
    (N : News h₀ L s.heap ((DW, PySem.W.listOf #[.ref (aa 0), .ref (aa 1), .ref (aa 2)] 3) :: (DL, PySem.W.listOf #[.ref (ii 0).y, .ref (ii 1).y, .ref (ii 2).y] 3) :: news))
    (hm : ∀ k, k < 3 → (aa k, PySem.W.listOf (wv k).toArray (wk k)) ∈ news ∧ (∀ p ∈ wsLed 100 w.params (ii k), p ∈ news) ∧ (ii k).x = tx (rowsT (leadV (bo k))) ∧ IntsAre (ii k).vs (wsF (ii k).x.cps.toList).1 ∧ IntsAre (wv k) (waysF (bo k)))
    (heq : ∀ k j, k < 3 → j < 3 → decide (normF (rowsT (leadV (bo k))) = normF (rowsT (leadV (bo j)))) = decide (waysF (bo k) = waysF (bo j)))
    (hbeh : ∀ k, k < 3 → (wsF (rowsT (leadV (bo k)))).2.1 = 0)
    (hcnt : ∀ k, k < 3 → (wsF (rowsT (leadV (bo k)))).1.length ≤ 8 ∧ ∀ v ∈ (wsF (rowsT (leadV (bo k)))).1, 0 ≤ v ∧ v ≤ 4)
    (hway : ∀ k, k < 3 → (waysF (bo k)).length = 5)
    (hprod : ∀ k x : Nat, k < 3 → x < 5 → prodF (wsF (rowsT (leadV (bo k)))).1 (x : Nat) (wsF (rowsT (leadV (bo k)))).1.length = totalF (waysF (bo k)) (x : Nat) 5)
    (hroom : dp + 5 < recursionLimit) (hun : un + 70 < cLine)
    (fin : ∀ h' tk' m', Fr h₀ L h' m' → Q (.ret (.bool true)) { s with heap := h', toks := tk' }) :
    wpAny (model prog2 w) { handled := none, depth := dp, frames := fr, guards := gd, units := un } (execs (law2.1.drop 15) (env2 L fa cd)) Q (fun _ _ => False) s := by
  have hb : law2 = (_, _) := rfl
  rw [hb]
  clear hb
  dsimp only [List.drop, kstB] at F ⊢
  walk_at "MY:w"
  refine For_invV h₀ rfl rfl ?_
  walk_at "MY:w"
  rename Fr _ _ _ _ => F4
  rename News _ _ _ _ => N4
  rename IsRange _ _ _ _ _ _ _ _ => hr
  refine' loop_range (σ := Unit) (n := 3) (fun _ => (DW, PySem.W.listOf #[.ref (aa 0), .ref (aa 1), .ref (aa 2)] 3) :: (DL, PySem.W.listOf #[.ref (ii 0).y, .ref (ii 1).y, .ref (ii 2).y] 3) :: news) (fun _ => [(Str.ofString "leads", Value.ref DL), (Str.ofString "ways", Value.ref DW)])
    [Str.ofString "other", Str.ofString "told", Str.ofString "alike", Str.ofString "runs", Str.ofString "behind", Str.ofString "x", Str.ofString "product", Str.ofString "blanks", Str.ofString "again"] (fun _ _ => True) () rfl hr ⟨by omega, by omega⟩ ⟨by omega, by omega⟩ (by omega) F4 N4 (List.forall_mem_cons.mpr ⟨rfl, List.forall_mem_cons.mpr ⟨rfl, List.forall_mem_nil _⟩⟩) trivial ?_ ?_
  · rintro k tk ⟨⟩ u h5 tk5 own hk _ hsep F5 N5
    clear F4 N4 hr
    dsimp only [kstB, List.contains_cons, List.contains_nil, List.cons_append, List.nil_append, List.map] at F5 N5
    simp only [Int.zero_add] at F5
    walk_at "MY:w"
    refine For_invV h₀ rfl rfl ?_
    walk_at "MY:w"
    rename Fr _ _ _ _ => F6
    rename News _ _ _ _ => N6
    rename IsRange _ _ _ _ _ _ _ _ => hr
    refine' loop_range (σ := Unit) (n := 3) (fun _ => (DW, PySem.W.listOf #[.ref (aa 0), .ref (aa 1), .ref (aa 2)] 3) :: (DL, PySem.W.listOf #[.ref (ii 0).y, .ref (ii 1).y, .ref (ii 2).y] 3) :: (news ++ own)) (fun _ => [])
      [Str.ofString "told", Str.ofString "alike"] (fun _ _ => True) () rfl hr ⟨by omega, by omega⟩ ⟨by omega, by omega⟩ (by omega) F6 N6 (List.forall_mem_nil _) trivial ?_ ?_
    · rintro j tj ⟨⟩ u2 h7 tk7 own2 hj _ hsep2 F7 N7
      clear F6 N6 hr
      obtain ⟨hk1, hk2, hk3, hk4, hk5⟩ := hm k hk
      obtain ⟨hj1, hj2, hj3, hj4, hj5⟩ := hm j hj
      have hN : ∀ p ∈ news, p ∈ (DW, PySem.W.listOf #[.ref (aa 0), .ref (aa 1), .ref (aa 2)] 3) :: (DL, PySem.W.listOf #[.ref (ii 0).y, .ref (ii 1).y, .ref (ii 2).y] 3) :: (news ++ own) ++ own2 := fun p hp => .tail _ (.tail _ (List.mem_append_left _ (List.mem_append_left _ hp)))
      have N8 := kst_newsOf N7 (l' := wsLed 100 w.params (ii k) ++ (wsLed 100 w.params (ii j) ++ ((aa k, PySem.W.listOf (wv k).toArray (wk k)) :: (aa j, PySem.W.listOf (wv j).toArray (wk j)) :: ((DW, PySem.W.listOf #[.ref (aa 0), .ref (aa 1), .ref (aa 2)] 3) :: (DL, PySem.W.listOf #[.ref (ii 0).y, .ref (ii 1).y, .ref (ii 2).y] 3) :: (news ++ own) ++ own2)))) (fun p hp => by
        rcases List.mem_append.mp hp with hp | hp
        · exact hN p (hk2 p hp)
        · rcases List.mem_append.mp hp with hp | hp
          · exact hN p (hj2 p hp)
          · rcases List.mem_cons.mp hp with hp | hp
            · exact hp ▸ hN _ hk1
            · rcases List.mem_cons.mp hp with hp | hp
              · exact hp ▸ hN _ hj1
              · exact hp)
      clear N7
      dsimp only [kstB, wsLed, List.contains_cons, List.contains_nil, List.cons_append, List.nil_append] at F7 N8
      simp only [Int.zero_add] at F7
      walk_at "MY:w"
      refine item_list (News.isList N8 (.tail _ (.tail _ (.tail _ (.tail _ (.tail _ (.tail _ (.tail _ (.tail _ (.tail _ (.tail _ (.tail _ (.head _))))))))))))) (by omega) (by omega) (by rw [Int.toNat_natCast]; exact sel_get (fun k => Value.ref (ii k).y) hk) ?_
      walk_at "MY:w"
      refine item_list (News.isList N8 (.tail _ (.tail _ (.tail _ (.tail _ (.tail _ (.tail _ (.tail _ (.tail _ (.tail _ (.tail _ (.tail _ (.head _))))))))))))) (by omega) (by omega) (by rw [Int.toNat_natCast]; exact sel_get (fun k => Value.ref (ii k).y) hj) ?_
      walk_at "MY:w"
      rename Fr _ _ _ _ => F9
      rename News _ _ _ _ => N9
      refine equal_2 (i := ii k) (j := ii j) F9 X T N9 (fun p hp => by
        rcases List.mem_append.mp hp with hp | hp
        · exact mem_pre (a := wsLed 100 w.params (ii k)) hp
        · exact .tail _ (.tail _ (.tail _ (.tail _ (mem_pre (a := wsLed 100 w.params (ii j)) hp))))) hk4 hj4 (by omega) (by omega) ?_
      clear F9 N9
      intro h10 tk10 F10 N10
      rw [hk3, hj3]
      have hkj := heq k j hk hj
      generalize hbe : decide (waysF (bo k) = waysF (bo j)) = be at hkj
      rw [show (tx (rowsT (leadV (bo k)))).cps.toList = rowsT (leadV (bo k)) from rfl, show (tx (rowsT (leadV (bo j)))).cps.toList = rowsT (leadV (bo j)) from rfl, hkj]
      walk_at "MY:w"
      rename Fr _ _ _ _ => F11
      rename News _ _ _ _ => N11
      refine item_list (News.isList N11 (.tail _ (.tail _ (.tail _ (.tail _ (.tail _ (.tail _ (.tail _ (.tail _ (.tail _ (.tail _ (.head _)))))))))))) (by omega) (by omega) (by rw [Int.toNat_natCast]; exact sel_get (fun k => Value.ref (aa k)) hk) ?_
      walk_at "MY:w"
      refine item_list (News.isList N11 (.tail _ (.tail _ (.tail _ (.tail _ (.tail _ (.tail _ (.tail _ (.tail _ (.tail _ (.tail _ (.head _)))))))))))) (by omega) (by omega) (by rw [Int.toNat_natCast]; exact sel_get (fun k => Value.ref (aa k)) hj) ?_
      walk_at "MY:w"
      refine ke_eq_ints (News.isList N11 (.tail _ (.tail _ (.tail _ (.tail _ (.tail _ (.tail _ (.tail _ (.tail _ (.head _)))))))))) (News.isList N11 (.tail _ (.tail _ (.tail _ (.tail _ (.tail _ (.tail _ (.tail _ (.tail _ (.tail _ (.head _))))))))))) hk5 hj5 (by show un + 64 < _; omega) ?_
      rw [hbe]
      walk_at "MY:w"
      rename News _ _ _ _ => N12
      refine ne_two N12 (.tail _ (.head _)) (.head _) (by cases be <;> rfl) (by cases be <;> rfl) (by show un + 64 < _; omega) ?_
      walk_at "MY:w"
      rename Fr _ _ _ _ => F13
      refine lend () F13 N12 (fun p hp => (.tail _ (.tail _ (.tail _ (.tail _ (.tail _ (.tail _ (.tail _ (.tail _ (.tail _ (.tail _ (.tail _ (.tail _ (List.mem_append_left _ hp)))))))))))))) (fun p hp => (.tail _ (.tail _ (.tail _ (.tail _ (.tail _ (.tail _ (.tail _ (.tail _ (.tail _ (.tail _ (.tail _ (.tail _ (.tail _ (.tail _ (List.mem_append_right _ hp)))))))))))))))) hsep2 (List.forall_mem_nil _) (by walk_at "MY:same") trivial
    · rintro ⟨⟩ u2 h7 tk7 _ F7 N7
      clear F6 N6 hr
      obtain ⟨hk1, hk2, hk3, hk4, hk5⟩ := hm k hk
      have hN : ∀ p ∈ news, p ∈ (DW, PySem.W.listOf #[.ref (aa 0), .ref (aa 1), .ref (aa 2)] 3) :: (DL, PySem.W.listOf #[.ref (ii 0).y, .ref (ii 1).y, .ref (ii 2).y] 3) :: (news ++ own) := fun p hp => .tail _ (.tail _ (List.mem_append_left _ hp))
      have N8 := kst_newsOf N7 (l' := wsLed 100 w.params (ii k) ++ ((aa k, PySem.W.listOf (wv k).toArray (wk k)) :: ((DW, PySem.W.listOf #[.ref (aa 0), .ref (aa 1), .ref (aa 2)] 3) :: (DL, PySem.W.listOf #[.ref (ii 0).y, .ref (ii 1).y, .ref (ii 2).y] 3) :: (news ++ own)))) (fun p hp => by
        rcases List.mem_append.mp hp with hp | hp
        · exact hN p (hk2 p hp)
        · rcases List.mem_cons.mp hp with hp | hp
          · exact hp ▸ hN _ hk1
          · exact hp)
      clear N7
      dsimp only [kstB, wsLed, List.contains_cons, List.contains_nil, List.cons_append, List.nil_append] at F7 N8
      walk_at "MY:w"
      refine item_list (News.isList N8 (.tail _ (.tail _ (.tail _ (.tail _ (.tail _ (.tail _ (.head _)))))))) (by omega) (by omega) (by rw [Int.toNat_natCast]; exact sel_get (fun k => Value.ref (ii k).y) hk) ?_
      walk_at "MY:w"
      all_goals (have hb0 : (wsF (ii k).x.cps.toList).2.1 = 0 := by rw [hk3]; exact hbeh k hk)
      · exfalso
        rename (_ : Int) ≠ 0 => hne
        exact hne (by rw [hb0]; rfl)
      rename Fr _ _ _ _ => F9
      rename News _ _ _ _ => N9
      refine For_invV h₀ rfl rfl ?_
      walk_at "MY:w"
      rename Fr _ _ _ _ => F10
      rename News _ _ _ _ => N10
      rename IsRange _ _ _ _ _ _ _ _ => hr
      generalize hns : (wsF (ii k).x.cps.toList).1 = ns at hk4
      have hnc : ns.length ≤ 8 ∧ (∀ v ∈ ns, 0 ≤ v ∧ v ≤ 4) := by rw [← hns, hk3]; exact hcnt k hk
      have hnp : ∀ x : Nat, x < 5 → prodF ns x ns.length = totalF (waysF (bo k)) x 5 := by
        intro x hx
        have := hprod k x hk hx
        rw [← hns, hk3]
        exact this
      generalize hgB : (DL, PySem.W.listOf #[Value.ref (ii 0).y, Value.ref (ii 1).y, Value.ref (ii 2).y] 3) :: (news ++ own) = gB at N10
      refine' loop_range (σ := Unit) (n := 5) (fun _ => ((ii k).D, tupOf (ii k).vs) :: (aa k, PySem.W.listOf (wv k).toArray (wk k)) :: (DW, PySem.W.listOf #[.ref (aa 0), .ref (aa 1), .ref (aa 2)] 3) :: gB) (fun _ => [])
        [Str.ofString "product", Str.ofString "blanks", Str.ofString "again"] (fun _ _ => True) () rfl hr ⟨by omega, by omega⟩ ⟨by omega, by omega⟩ (by omega) F10 (kst_newsOf N10 (List.forall_mem_cons.mpr ⟨.tail _ (.head _), fun p hp => .tail _ (.tail _ (.tail _ (.tail _ hp)))⟩)) (List.forall_mem_nil _) trivial ?_ ?_
      · rintro x txx ⟨⟩ u3 h11 tk11 own3 hx _ hsep3 F11 N11
        clear F10 N10 hr
        dsimp only [kstB, List.contains_cons, List.contains_nil, List.cons_append, List.nil_append] at F11 N11
        simp only [Int.zero_add] at F11
        walk_at "MY:w"
        refine For_invV h₀ rfl rfl ?_
        walk_at "MY:w"
        rename Fr _ _ _ _ => F12
        rename News _ _ _ _ => N12
        refine len_tupN N12 (.head _) hk4 (by omega) ?_
        intro tl tk12
        walk_at "MY:w"
        rename Fr _ _ _ _ => F13
        rename News _ _ _ _ => N13
        rename IsRange _ _ _ _ _ _ _ _ => hr
        refine' loop_range (σ := Int × Tok) (n := ns.length) (fun _ => ((ii k).D, tupOf (ii k).vs) :: (aa k, PySem.W.listOf (wv k).toArray (wk k)) :: (DW, PySem.W.listOf #[.ref (aa 0), .ref (aa 1), .ref (aa 2)] 3) :: (gB ++ own3)) (fun c => [(Str.ofString "product", .int c.1 c.2)])
          [Str.ofString "again"] (fun j c => c.1 = prodF ns x j) (1, _) rfl hr ⟨by omega, by omega⟩ ⟨by omega, by omega⟩ (by omega) F13 N13 (List.forall_mem_cons.mpr ⟨rfl, List.forall_mem_nil _⟩) rfl ?_ ?_
        · rintro j tj ⟨pr, tp⟩ u4 h14 tk14 own4 hj hJ hsep4 F14 N14
          clear F13 N13 hr
          have hv := hnc.2 (ns.getD j 0) (by rw [List.getD_eq_getElem?_getD, List.getElem?_eq_getElem hj]; exact List.getElem_mem hj)
          have hnx : prodF ns x (j + 1) = powF pr ((x : Int) + j - 3) (ns.getD j 0).toNat := by dsimp only at hJ; rw [hJ]; rfl
          dsimp only [kstB, List.contains_cons, List.contains_nil, List.cons_append, List.nil_append] at F14 N14
          simp only [Int.zero_add] at F14
          walk_at "MY:w"
          refine For_invV h₀ rfl rfl ?_
          walk_at "MY:w"
          refine item_tupN N14 (.head _) hk4 (by omega) (by omega) (by omega) ?_
          intro t15
          rw [Int.toNat_natCast]
          obtain ⟨n15, hn15⟩ := Int.eq_ofNat_of_zero_le hv.1
          rw [hn15] at hv hnx ⊢
          walk_at "MY:w"
          rename Fr _ _ _ _ => F16
          rename News _ _ _ _ => N16
          rename IsRange _ _ _ _ _ _ _ _ => hr
          refine' loop_range (σ := Int × Tok) (n := n15) (fun _ => ((ii k).D, tupOf (ii k).vs) :: (aa k, PySem.W.listOf (wv k).toArray (wk k)) :: (DW, PySem.W.listOf #[.ref (aa 0), .ref (aa 1), .ref (aa 2)] 3) :: (gB ++ own3 ++ own4)) (fun c => [(Str.ofString "product", .int c.1 c.2)])
            [] (fun i c => c.1 = powF pr ((x : Int) + j - 3) i) (pr, tp) rfl hr ⟨by omega, by omega⟩ ⟨by omega, by omega⟩ (by omega) F16 N16 (List.forall_mem_cons.mpr ⟨rfl, List.forall_mem_nil _⟩) rfl ?_ ?_
          · rintro i ti ⟨pq, tq⟩ u5 h17 tk17 own5 hi hJ5 hsep5 F17 N17
            clear F16 N16 hr
            have hny : powF pr ((x : Int) + j - 3) (i + 1) = pq * ((x : Int) + j - 3) := by dsimp only at hJ5; rw [hJ5]; rfl
            dsimp only [kstB, List.contains_cons, List.contains_nil, List.cons_append, List.nil_append] at F17 N17
            simp only [Int.zero_add] at F17
            walk_at "MY:w"
            refine mul_int ?_ (PySem.IntMulOk.of_right (PySem.intBits_le_64 (by omega) (by omega)))
            walk_at "MY:w"
            rename Fr _ _ _ _ => F18
            rename News _ _ _ _ => N18
            refine lend (_, _) F18 N18 (List.forall_mem_cons.mpr ⟨.head _, List.forall_mem_cons.mpr ⟨.tail _ (.head _), List.forall_mem_cons.mpr ⟨.tail _ (.tail _ (.head _)), fun p hp => .tail _ (.tail _ (.tail _ (List.mem_append_left _ hp)))⟩⟩⟩) (fun p hp => .tail _ (.tail _ (.tail _ (List.mem_append_right _ hp)))) hsep5 (List.forall_mem_cons.mpr ⟨rfl, List.forall_mem_nil _⟩) (by walk_at "MY:same") ?_
            rw [hny]
          · rintro ⟨pq, tq⟩ u5 h17 tk17 hJ5 F17 N17
            clear F16 N16 hr
            dsimp only [kstB, List.contains_cons, List.contains_nil] at F17 N17
            walk_at "MY:w"
            refine lend (_, _) F17 N17 (List.forall_mem_cons.mpr ⟨.head _, List.forall_mem_cons.mpr ⟨.tail _ (.head _), List.forall_mem_cons.mpr ⟨.tail _ (.tail _ (.head _)), fun p hp => .tail _ (.tail _ (.tail _ (List.mem_append_left _ hp)))⟩⟩⟩) (fun p hp => .tail _ (.tail _ (.tail _ (List.mem_append_right _ hp)))) hsep4 (List.forall_mem_cons.mpr ⟨rfl, List.forall_mem_nil _⟩) (by walk_at "MY:same") ?_
            rw [hnx]
            exact hJ5
        · rintro ⟨pr, tp⟩ u4 h14 tk14 hJ F14 N14
          clear F13 N13 hr
          dsimp only [kstB, List.contains_cons, List.contains_nil] at F14 N14
          walk_at "MY:w"
          refine item_list (News.isList N14 (.tail _ (.tail _ (.head _)))) (by omega) (by omega) (by rw [Int.toNat_natCast]; exact sel_get (fun k => Value.ref (aa k)) hk) ?_
          walk_at "MY:w"
          refine sum_2 (x := x) F14 X T N14 (.tail _ (.head _)) hk5 (hway k hk) (by omega) (by omega) ?_
          clear F14 N14
          intro t20 h20 tk20 F20 N20
          have hpx : pr = totalF (waysF (bo k)) x 5 := by dsimp only at hJ; rw [hJ]; exact hnp x hx
          rw [← hpx]
          walk_at "MY:w"
          all_goals (first | (exfalso; refine (show ¬ (pr ≠ pr) from fun h => h rfl) ?_; assumption) | skip)
          rename Fr _ _ _ _ => F21
          rename News _ _ _ _ => N21
          refine lend () F21 N21 (List.forall_mem_cons.mpr ⟨.head _, List.forall_mem_cons.mpr ⟨.tail _ (.head _), List.forall_mem_cons.mpr ⟨.tail _ (.tail _ (.head _)), fun p hp => .tail _ (.tail _ (.tail _ (List.mem_append_left _ hp)))⟩⟩⟩) (fun p hp => .tail _ (.tail _ (.tail _ (List.mem_append_right _ hp)))) hsep3 (List.forall_mem_nil _) (by walk_at "MY:same") trivial
      · rintro ⟨⟩ u3 h11 tk11 _ F11 N11
        clear F10 N10 hr
        subst hgB
        dsimp only [kstB, List.contains_cons, List.contains_nil, List.cons_append, List.nil_append] at F11 N11
        walk_at "MY:w"
        refine lend () F11 N11 (List.forall_mem_cons.mpr ⟨.tail _ (.tail _ (.head _)), List.forall_mem_cons.mpr ⟨.tail _ (.tail _ (.tail _ (.head _))), fun p hp => .tail _ (.tail _ (.tail _ (.tail _ (List.mem_append_left _ hp))))⟩⟩) (fun p hp => .tail _ (.tail _ (.tail _ (.tail _ (List.mem_append_right _ hp))))) hsep (List.forall_mem_cons.mpr ⟨rfl, List.forall_mem_cons.mpr ⟨rfl, List.forall_mem_nil _⟩⟩) (by walk_at "MY:same") trivial
  · rintro ⟨⟩ u h5 tk5 _ F5 N5
    clear F4 N4 hr
    dsimp only [kstB, List.contains_cons, List.contains_nil] at F5 N5
    walk_at "MY:w"
    exact fin _ _ _ F5
end Mine
-- RookP
namespace Mine
/-- the free cells of a column: as many as its height beyond the rooks placed -/
theorem free_cells {h : Nat} {r : List Int} (hn : r.Nodup) (hb : ∀ y ∈ r, 0 ≤ y ∧ y < (h : Int)) : (newsF h r).length = h - r.length := by
  unfold newsF
  rw [List.length_map, ← List.countP_eq_length_filter]
  have e1 : ((List.range h).filter fun (j : Nat) => r.any fun y => y == (j : Int)).length = r.length := by
    have hp : (((List.range h).filter fun (j : Nat) => r.any fun y => y == (j : Int)).map fun (j : Nat) => (j : Int)).Perm r := by
      refine (List.perm_ext_iff_of_nodup ?_ hn).mpr ?_
      · refine List.Pairwise.map _ (fun a b hab => ?_) (List.Pairwise.filter _ List.nodup_range)
        intro e; exact hab (Int.ofNat.inj e)
      · intro a
        constructor
        · intro ha
          obtain ⟨j, hj, rfl⟩ := List.mem_map.mp ha
          have := (List.mem_filter.mp hj).2
          obtain ⟨y, hy, e⟩ := List.any_eq_true.mp this
          rw [← eq_of_beq e]; exact hy
        · intro ha
          have h1 := hb a ha
          refine List.mem_map.mpr ⟨a.toNat, List.mem_filter.mpr ⟨List.mem_range.mpr (by omega), List.any_eq_true.mpr ⟨a, ha, ?_⟩⟩, by omega⟩
          exact beq_iff_eq.mpr (by omega)
    have := hp.length_eq
    rw [List.length_map] at this
    exact this
  have e2 := List.length_eq_countP_add_countP (fun (j : Nat) => r.any fun y => y == (j : Int)) (l := List.range h)
  rw [List.length_range, List.countP_eq_length_filter, e1] at e2
  have e3 : (List.range h).countP (fun (j : Nat) => !(r.any fun y => y == (j : Int))) = (List.range h).countP (fun (j : Nat) => decide ¬(r.any fun y => y == (j : Int)) = true) := by
    congr 1
    funext j
    cases (r.any fun y => y == (j : Int)) <;> rfl
  rw [e3]
  omega
def GoodP (h : Nat) (pr : List (List Int)) : Prop := ∀ r ∈ pr, r.Nodup ∧ ∀ y ∈ r, 0 ≤ y ∧ y < (h : Int)
theorem step_good {h h' : Nat} {pr : List (List Int)} (hg : GoodP h pr) (hh : h ≤ h') : GoodP h' (stepF pr h') := by
  intro r hr
  unfold stepF at hr
  rcases List.mem_append.mp hr with hr | hr
  · exact ⟨(hg r hr).1, fun y hy => by have := (hg r hr).2 y hy; omega⟩
  · obtain ⟨l, hl, hr⟩ := List.mem_flatten.mp hr
    obtain ⟨q, hq, rfl⟩ := List.mem_map.mp hl
    obtain ⟨j, hj, rfl⟩ := List.mem_map.mp hr
    obtain ⟨hj1, hj2⟩ := List.mem_filter.mp hj
    have hj3 := List.mem_range.mp hj1
    have hq2 := hg q hq
    constructor
    · refine List.nodup_append.mpr ⟨hq2.1, List.pairwise_singleton _ _, fun a ha b hb e => ?_⟩
      rw [List.mem_singleton.mp hb] at e
      subst e
      rw [Bool.not_eq_true'] at hj2
      have : (q.any fun y => y == (j : Int)) = true := List.any_eq_true.mpr ⟨_, ha, beq_iff_eq.mpr rfl⟩
      rw [this] at hj2; cases hj2
    · intro y hy
      rcases List.mem_append.mp hy with hy | hy
      · have := hq2.2 y hy; omega
      · rw [List.mem_singleton.mp hy]; omega
def cntP (pr : List (List Int)) (k : Nat) : Nat := pr.countP fun r => r.length == k
/-- the rook numbers, column by column -/
def rookS (f : Nat → Nat) (h : Nat) : Nat → Nat
  | 0 => f 0
  | k + 1 => f (k + 1) + f k * (h - k)
theorem new_cnt {h : Nat} {r : List Int} (hn : r.Nodup) (hb : ∀ y ∈ r, 0 ≤ y ∧ y < (h : Int)) (k : Nat) : (newsF h r).countP (fun q => q.length == k) = if r.length + 1 = k then h - r.length else 0 := by
  have hl : ∀ q ∈ newsF h r, q.length = r.length + 1 := by
    intro q hq
    obtain ⟨j, _, rfl⟩ := List.mem_map.mp hq
    rw [List.length_append]; rfl
  by_cases hk : r.length + 1 = k
  · rw [if_pos hk, ← free_cells hn hb]
    refine List.countP_eq_length.mpr fun q hq => ?_
    rw [hl q hq, hk]; exact beq_iff_eq.mpr rfl
  · rw [if_neg hk]
    refine List.countP_eq_zero.mpr fun q hq => ?_
    rw [hl q hq]; intro e; exact hk (beq_iff_eq.mp e)
theorem step_cnt {h : Nat} {pr : List (List Int)} (hg : GoodP h pr) (k : Nat) : cntP (stepF pr h) k = rookS (cntP pr) h k := by
  have key : ∀ pr : List (List Int), GoodP h pr → ((pr.map (newsF h)).flatten).countP (fun q => q.length == k) = match k with | 0 => 0 | k + 1 => cntP pr k * (h - k) := by
    intro pr hg
    induction pr with
    | nil => cases k <;> simp [cntP]
    | cons r t ih =>
      rw [List.map_cons, List.flatten_cons, List.countP_append, ih (fun q hq => hg q (.tail _ hq)), new_cnt (hg r (.head _)).1 (hg r (.head _)).2]
      cases k with
      | zero => simp
      | succ k =>
        dsimp only [cntP]
        rw [List.countP_cons]
        by_cases hk : r.length = k
        · rw [if_pos (by omega), if_pos (by rw [hk]; exact beq_iff_eq.mpr rfl), hk, Nat.add_mul, Nat.one_mul, Nat.add_comm]
        · rw [if_neg (by omega), if_neg (by intro e; exact hk (beq_iff_eq.mp e)), Nat.zero_add, Nat.add_zero]
  unfold stepF
  show List.countP _ (_ ++ _) = _
  rw [List.countP_append, key pr hg]
  cases k <;> rfl
def rookF (bs : List Nat) : Nat → Nat := bs.foldl rookS fun k => if k = 0 then 1 else 0
theorem fold_cnt : ∀ (bs : List Nat) (h : Nat) (pr : List (List Int)) (f : Nat → Nat), bs.Pairwise (· ≤ ·) → (∀ b ∈ bs, h ≤ b) → GoodP h pr → cntP pr = f → cntP (bs.foldl stepF pr) = bs.foldl rookS f
  | [], _, _, _, _, _, _, hf => hf
  | b :: t, h, pr, f, hs, hb, hg, hf => by
    have hs' := List.pairwise_cons.mp hs
    have hg' : GoodP b pr := fun r hr => ⟨(hg r hr).1, fun y hy => by have := (hg r hr).2 y hy; have := hb b (.head _); omega⟩
    rw [List.foldl_cons, List.foldl_cons]
    refine fold_cnt t b (stepF pr b) (rookS f b) hs'.2 hs'.1 (step_good hg' (Nat.le_refl _)) ?_
    funext k
    rw [step_cnt hg', hf]
theorem placed_cnt {bs : List Nat} (hs : bs.Pairwise (· ≤ ·)) : cntP (placedF bs) = rookF bs := by
  refine fold_cnt bs 0 [[]] _ hs (fun b _ => Nat.zero_le b) ?_ ?_
  · intro r hr
    rw [List.mem_singleton.mp hr]
    exact ⟨.nil, fun y hy => by cases hy⟩
  · funext k
    cases k <;> rfl
theorem bumpW_len (pr : List (List Int)) : ∀ ws : List Int, (pr.foldl bumpW ws).length = ws.length := by
  induction pr with
  | nil => intro ws; rfl
  | cons r t ih => intro ws; rw [List.foldl_cons, ih]; unfold bumpW; rw [List.length_set]
theorem bumpW_get (k : Nat) : ∀ (pr : List (List Int)) (ws : List Int), k < ws.length → (pr.foldl bumpW ws).getD k 0 = ws.getD k 0 + (cntP pr k : Nat)
  | [], ws, _ => by simp [cntP]
  | r :: t, ws, hk => by
    rw [List.foldl_cons, bumpW_get k t _ (by unfold bumpW; rw [List.length_set]; exact hk)]
    unfold cntP bumpW
    rw [List.countP_cons]
    by_cases h : r.length = k
    · rw [if_pos (by rw [h]; exact beq_iff_eq.mpr rfl), h, List.getD_eq_getElem?_getD, List.getElem?_set_self hk]
      simp only [Option.getD_some]; omega
    · rw [if_neg (by intro e; exact h (beq_iff_eq.mp e)), List.getD_eq_getElem?_getD, List.getElem?_set_ne h, ← List.getD_eq_getElem?_getD]
      omega
theorem ways_len (bs : List Nat) : (waysF bs).length = 5 := by unfold waysF; rw [bumpW_len]; rfl
theorem ways_eq {bs : List Nat} (hs : bs.Pairwise (· ≤ ·)) : waysF bs = (List.range 5).map fun k => ((rookF bs k : Nat) : Int) := by
  refine List.ext_getElem (by rw [ways_len]; rfl) fun k h1 h2 => ?_
  rw [ways_len] at h1
  have e := bumpW_get k (placedF bs) [0, 0, 0, 0, 0] h1
  rw [placed_cnt hs] at e
  have e0 : ([0, 0, 0, 0, 0] : List Int).getD k 0 = 0 := by
    rcases k with _ | _ | _ | _ | _ | k
    all_goals first | rfl | omega
  rw [e0, Int.zero_add] at e
  have e3 : (waysF bs).getD k 0 = (waysF bs)[k] := by rw [List.getD_eq_getElem?_getD, List.getElem?_eq_getElem]; rfl
  rw [← e3]
  rw [List.getElem_map, List.getElem_range]
  exact e
end Mine
-- Plain2
set_option maxHeartbeats 4000000
namespace Mine
/-- the classes of the sorted boards: the counts of a lead's runs, the rook numbers -/
def reps2 : List (List Int × List Int) := [([1, 1, 1, 1], [1, 0, 0, 0, 0]), ([0, 2, 1, 1], [1, 1, 0, 0, 0]), ([0, 1, 2, 1], [1, 2, 0, 0, 0]), ([0, 1, 1, 2], [1, 3, 0, 0, 0]), ([0, 1, 1, 1, 1], [1, 4, 0, 0, 0]), ([0, 0, 3, 1], [1, 3, 1, 0, 0]), ([0, 0, 2, 2], [1, 4, 2, 0, 0]), ([0, 0, 2, 1, 1], [1, 5, 3, 0, 0]), ([0, 0, 1, 3], [1, 5, 4, 0, 0]), ([0, 0, 1, 2, 1], [1, 6, 6, 0, 0]), ([0, 0, 1, 1, 2], [1, 7, 9, 0, 0]), ([0, 0, 1, 1, 1, 1], [1, 8, 12, 0, 0]), ([0, 0, 0, 4], [1, 6, 7, 1, 0]), ([0, 0, 0, 3, 1], [1, 7, 10, 2, 0]), ([0, 0, 0, 2, 2], [1, 8, 14, 4, 0]), ([0, 0, 0, 2, 1, 1], [1, 9, 18, 6, 0]), ([0, 0, 0, 1, 3], [1, 9, 19, 8, 0]), ([0, 0, 0, 1, 2, 1], [1, 10, 24, 12, 0]), ([0, 0, 0, 1, 1, 2], [1, 11, 30, 18, 0]), ([0, 0, 0, 1, 1, 1, 1], [1, 12, 36, 24, 0]), ([0, 0, 0, 0, 4], [1, 10, 25, 15, 1]), ([0, 0, 0, 0, 3, 1], [1, 11, 31, 22, 2]), ([0, 0, 0, 0, 2, 2], [1, 12, 38, 32, 4]), ([0, 0, 0, 0, 2, 1, 1], [1, 13, 45, 42, 6]), ([0, 0, 0, 0, 1, 3], [1, 13, 46, 46, 8]), ([0, 0, 0, 0, 1, 2, 1], [1, 14, 54, 60, 12]), ([0, 0, 0, 0, 1, 1, 2], [1, 15, 63, 78, 18]), ([0, 0, 0, 0, 1, 1, 1, 1], [1, 16, 72, 96, 24])]
def tab2 : List (List Nat × Nat) := [([0, 0, 0, 0], 0), ([0, 0, 0, 1], 1), ([0, 0, 0, 2], 2), ([0, 0, 0, 3], 3), ([0, 0, 0, 4], 4), ([0, 0, 1, 1], 2), ([0, 0, 1, 2], 5), ([0, 0, 1, 3], 6), ([0, 0, 1, 4], 7), ([0, 0, 2, 2], 6), ([0, 0, 2, 3], 8), ([0, 0, 2, 4], 9), ([0, 0, 3, 3], 9), ([0, 0, 3, 4], 10), ([0, 0, 4, 4], 11), ([0, 1, 1, 1], 3), ([0, 1, 1, 2], 6), ([0, 1, 1, 3], 8), ([0, 1, 1, 4], 9), ([0, 1, 2, 2], 8), ([0, 1, 2, 3], 12), ([0, 1, 2, 4], 13), ([0, 1, 3, 3], 13), ([0, 1, 3, 4], 14), ([0, 1, 4, 4], 15), ([0, 2, 2, 2], 9), ([0, 2, 2, 3], 13), ([0, 2, 2, 4], 14), ([0, 2, 3, 3], 14), ([0, 2, 3, 4], 16), ([0, 2, 4, 4], 17), ([0, 3, 3, 3], 15), ([0, 3, 3, 4], 17), ([0, 3, 4, 4], 18), ([0, 4, 4, 4], 19), ([1, 1, 1, 1], 4), ([1, 1, 1, 2], 7), ([1, 1, 1, 3], 9), ([1, 1, 1, 4], 10), ([1, 1, 2, 2], 9), ([1, 1, 2, 3], 13), ([1, 1, 2, 4], 14), ([1, 1, 3, 3], 14), ([1, 1, 3, 4], 16), ([1, 1, 4, 4], 17), ([1, 2, 2, 2], 10), ([1, 2, 2, 3], 14), ([1, 2, 2, 4], 16), ([1, 2, 3, 3], 16), ([1, 2, 3, 4], 20), ([1, 2, 4, 4], 21), ([1, 3, 3, 3], 17), ([1, 3, 3, 4], 21), ([1, 3, 4, 4], 22), ([1, 4, 4, 4], 23), ([2, 2, 2, 2], 11), ([2, 2, 2, 3], 15), ([2, 2, 2, 4], 17), ([2, 2, 3, 3], 17), ([2, 2, 3, 4], 21), ([2, 2, 4, 4], 22), ([2, 3, 3, 3], 18), ([2, 3, 3, 4], 22), ([2, 3, 4, 4], 24), ([2, 4, 4, 4], 25), ([3, 3, 3, 3], 19), ([3, 3, 3, 4], 23), ([3, 3, 4, 4], 25), ([3, 4, 4, 4], 26), ([4, 4, 4, 4], 27)]
def normV (b : List Nat) : List Int := (leadV b).foldl wsBump []
def waysR (b : List Nat) : List Int := (List.range 5).map fun k => ((rookF b k : Nat) : Int)
theorem tab_ok : ∀ r ∈ tab2, r.2 < reps2.length ∧ normV r.1 = (reps2.getD r.2 ([], [])).1 ∧ waysR r.1 = (reps2.getD r.2 ([], [])).2 := by decide +kernel
theorem reps_eq : ∀ r ∈ reps2, ∀ q ∈ reps2, decide (r.1 = q.1) = decide (r.2 = q.2) := by decide +kernel
theorem reps_cnt : ∀ r ∈ reps2, r.1.length ≤ 8 ∧ ∀ v ∈ r.1, 0 ≤ v ∧ v ≤ 4 := by decide +kernel
theorem reps_prod : ∀ r ∈ reps2, ∀ x ∈ List.range 5, prodF r.1 (x : Nat) r.1.length = totalF r.2 (x : Nat) 5 := by decide +kernel
theorem tab_all : ∀ a ∈ List.range 5, ∀ b ∈ List.range 5, ∀ c ∈ List.range 5, ∀ d ∈ List.range 5, a ≤ b → b ≤ c → c ≤ d → (tab2.any fun r => r.1 == [a, b, c, d]) = true := by decide +kernel
theorem board_rep {b : List Nat} (hb : SortedB b) : ∃ r ∈ reps2, normV b = r.1 ∧ waysF b = r.2 := by
  obtain ⟨hl, hle, hs⟩ := hb
  match b, hl with
  | [a, b, c, d], _ =>
    have h1 := hle a (.head _)
    have h2 := hle b (.tail _ (.head _))
    have h3 := hle c (.tail _ (.tail _ (.head _)))
    have h4 := hle d (.tail _ (.tail _ (.tail _ (.head _))))
    have p1 := List.pairwise_cons.mp hs
    have p2 := List.pairwise_cons.mp p1.2
    have p3 := List.pairwise_cons.mp p2.2
    have h := tab_all a (List.mem_range.mpr (by omega)) b (List.mem_range.mpr (by omega)) c (List.mem_range.mpr (by omega)) d (List.mem_range.mpr (by omega)) (p1.1 _ (.head _)) (p2.1 _ (.head _)) (p3.1 _ (.head _))
    obtain ⟨r, hr, e⟩ := List.any_eq_true.mp h
    have e' := eq_of_beq e
    obtain ⟨h5, h6, h7⟩ := tab_ok r hr
    rw [e'] at h6 h7
    refine ⟨reps2.getD r.2 ([], []), ?_, h6, ?_⟩
    · rw [List.getD_eq_getElem?_getD, List.getElem?_eq_getElem h5]; exact List.getElem_mem h5
    · rw [ways_eq hs]; exact h7
theorem norm_fst (b : List Nat) : (wsF (rowsT (leadV b))).1 = normV b := by unfold normV; rw [wsF_rows]
theorem fact_beh {b : List Nat} : (wsF (rowsT (leadV b))).2.1 = 0 := by rw [wsF_rows]
theorem fact_eq {b c : List Nat} (hb : SortedB b) (hc : SortedB c) : decide (normF (rowsT (leadV b)) = normF (rowsT (leadV c))) = decide (waysF b = waysF c) := by
  obtain ⟨r, hr, h1, h2⟩ := board_rep hb
  obtain ⟨q, hq, h3, h4⟩ := board_rep hc
  unfold normF
  rw [norm_fst, norm_fst, fact_beh, fact_beh, h1, h2, h3, h4, ← reps_eq r hr q hq]
  exact decide_eq_decide.mpr ⟨fun e => (Prod.mk.inj e).1, fun e => by rw [e]⟩
theorem fact_cnt {b : List Nat} (hb : SortedB b) : (wsF (rowsT (leadV b))).1.length ≤ 8 ∧ ∀ v ∈ (wsF (rowsT (leadV b))).1, 0 ≤ v ∧ v ≤ 4 := by
  obtain ⟨r, hr, h1, h2⟩ := board_rep hb
  rw [norm_fst, h1]; exact reps_cnt r hr
theorem fact_way {b : List Nat} : (waysF b).length = 5 := ways_len b
theorem fact_prod {b : List Nat} (hb : SortedB b) (x : Nat) (hx : x < 5) : prodF (wsF (rowsT (leadV b))).1 (x : Nat) (wsF (rowsT (leadV b))).1.length = totalF (waysF b) (x : Nat) 5 := by
  obtain ⟨r, hr, h1, h2⟩ := board_rep hb
  rw [norm_fst, h1, h2]; exact reps_prod r hr x (List.mem_range.mpr hx)
end Mine
-- M02
set_option maxHeartbeats 4000000
namespace Mine
theorem sel_sorted {b1 b2 b3 : List Nat} (h1 : SortedB b1) (h2 : SortedB b2) (h3 : SortedB b3) : ∀ k, SortedB (sel3 b1 b2 b3 k)
  | 0 => h1
  | 1 => h2
  | _ + 2 => h3
theorem main02 : PySem.Challenge.rw_rw0056_02.Holds := Mine.hd02 (by
  k_go0
  rename World => w
  rename Ground _ _ _ _ _ _ _ _ _ => hG
  rename Hook.says _ _ _ => hY
  rename Frag.In _ _ => X
  rename Flt.MathXP _ _ _ => hMx
  rename LooseAre _ _ _ => hV
  rename Glob _ _ _ _ _ _ _ _ => hGL
  rename Top _ _ _ _ _ _ => T
  rename Tables _ _ _ _ => hB
  rename TopE _ _ _ _ => hTE
  rename TopW _ _ _ => hTW
  rename BMod _ _ _ _ _ => hBM
  rename Heap.CodeRec _ _ _ => hcd
  rename Dflts _ _ _ _ _ _ => hD
  rename Fr _ _ _ _ => F
  rename News _ _ _ _ => N
  rename CellsAre _ _ _ => hC
  rename IntsAre _ _ => hi
  rename Heap.IsList _ _ _ => hl
  rename Below _ _ _ _ => B0
  rename Reads _ _ _ _ => hR0
  rename ReadsAll _ _ _ _ => hR1
  rename ReadsAllW _ _ _ _ _ _ => hR2
  rename Well _ _ _ _ => hW
  clear hG hY hMx hV hB hTE hTW hBM hcd hD hC hGL hR0 hR1 hR2 hW
  rename_i o1 o0 c1 c0
  have d1 : o1.data = .cell none := c1
  have d0 : o0.data = .cell none := c0
  clear c1 c0
  rename_i h1 tk1
  have F0 : Fr _ _ h1 (fun y => if y = Str.ofString "script" then some (Value.ref _) else none) := F
  clear F
  dsimp only at N ⊢
  rename _ = #[] => hgens
  rename ¬ _ => hlen
  rename Shared => s1
  refine wpAny_mono (sectA2 (E := fun _ _ => False) (s := { heap := h1, gens := s1.gens, drawn := s1.drawn, toks := tk1, os := s1.os }) (L := s1.heap.objs.size) F0 X T N hl hi (by omega) ?_) (fun _ _ h => h) (fun _ _ h => h.elim)
  intro hp vh eh hs u h' tk' F1 N1 hi1 hlen1 hpos1 hlt1
  refine sectB2 F1 X T N1 d0 d1 ?_ hi1 hlen1 hpos1 hlt1 (by decide)
  intro figs r tw D7 zs o0' u2 h2 tk2 hfl hfb hr hz d0' F2 N2
  refine sectC2 F2 X T N2 d1 ?_ hfl hfb (by decide)
  intro D1 D2 D3 v1 v2 v3 k1 k2 k3 b1 b2 b3 o1' u3 h33 tk3 hv1 hv2 hv3 hs1 hs2 hs3 d1' F3 N3
  refine sectD2 F3 X T N3 d0' d1' hr hz hv1 hv2 hv3 hs1 hs2 hs3 (by decide) ?_
  intro ii aa wv wk DL DW news u4 h4 tk4 F4 N4 hm
  have hS := sel_sorted hs1 hs2 hs3
  refine sectE2 (bo := sel3 b1 b2 b3) F4 X T N4 hm (fun k j _ _ => fact_eq (hS k) (hS j)) (fun k _ => fact_beh) (fun k _ => fact_cnt (hS k)) (fun k _ => fact_way) (fun k x _ hx => fact_prod (hS k) x hx) (by decide) (by decide) ?_
  intro h9 tk9 m9 F9
  exact goodW_bool F9 hgens (raisesW_false (by wrow_none_raised)) (by kc_post))
end Mine

theorem PySem.Challenge.cw_rw0056_02_holds : PySem.Challenge.rw_rw0056_02.Holds :=
  Mine.main02
