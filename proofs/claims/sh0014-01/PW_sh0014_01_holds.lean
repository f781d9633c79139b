import PyProof.Rows.All
import Wide.All
import OpenK.AllK
import Wide.FinOn
import PySem.Challenge.RW_sh0014_01
set_option Elab.async false
set_option maxRecDepth 100000
section
open PySem PySem.Sre
set_option Elab.async false
set_option maxRecDepth 100000
namespace Mine
def code1 : Array Nat := #[14, 4, 0, 1, 1, 6, 1, 16, 46, 1]
def code2 : Array Nat := #[14, 9, 4, 1, 2, 16, 10, 16, 13, 0, 7, 7, 16, 13, 16, 10, 15, 18, 5, 16, 10, 15, 13, 11, 16, 13, 5, 5, 0, 16, 10, 1, 15, 2, 0, 1]

theorem runFor_out (m : M) (h : m.outcome.isSome = true) (n : Nat) : m.runFor n = m := by
  cases n with
  | zero => rfl
  | succ n => show (if m.outcome.isSome = true then m else _) = m; rw [if_pos h]
theorem runFor_add (a : Nat) : ∀ (m : M) b, m.runFor (a + b) = (m.runFor a).runFor b := by
  induction a with
  | zero => intro m b; rw [Nat.zero_add]; rfl
  | succ a ih =>
    intro m b
    rw [Nat.add_right_comm]
    by_cases h : m.outcome.isSome = true
    · rw [runFor_out m h, runFor_out m h, runFor_out m h]
    · show (if m.outcome.isSome = true then m else M.runFor (a + b) m.step) = M.runFor b (if m.outcome.isSome = true then m else M.runFor a m.step)
      rw [if_neg h, if_neg h, ih]
theorem runFor_one {m : M} (h : m.outcome = none) : m.runFor 1 = m.step := by
  unfold M.runFor
  rw [h]; rfl

/-- within n steps m comes to where Φ holds -/
def Reach (n : Nat) (m : M) (Φ : M → Prop) : Prop := ∃ k, k ≤ n ∧ Φ (m.runFor k)
theorem Reach.now {n : Nat} {m : M} {Φ : M → Prop} (h : Φ m) : Reach n m Φ := ⟨0, Nat.zero_le _, h⟩
theorem Reach.step {n : Nat} {m m' : M} {Φ : M → Prop} (c : Reach n m' Φ) (h : m.outcome = none) (e : m.step = m') : Reach (n + 1) m Φ := by
  obtain ⟨k, hk, q⟩ := c
  refine ⟨1 + k, by omega, ?_⟩
  rw [runFor_add, runFor_one h, e]
  exact q
theorem Reach.mono {n n' : Nat} {m : M} {Φ : M → Prop} (c : Reach n m Φ) (h : n ≤ n') : Reach n' m Φ := let ⟨k, a, b⟩ := c; ⟨k, Nat.le_trans a h, b⟩

def st1 (t : Array Nat) (s : Nat) (sn : Seen) (om : Bool) : M :=
  { code := code1, text := t, lim := t.size, start := s, lastStart := t.size, pc := 5, pos := s, handed := s, outermost := om, marks := #[], frames := [{ wait := .nextStart, pc := 5, pos := s, outermost := om }], weight := 1, seen := sn }

theorem st1_at_yes {t : Array Nat} {s : Nat} {sn : Seen} {om : Bool} (h : s = 0 ∨ t.getD (s - 1) 0 = 10) :
    (st1 t s sn om).step = { st1 t s ((sn.add 6).add 44) om with pc := 7 } := by
  have e : (s == 0 || t.getD (s - 1) 0 == 10) = true := by simpa using h
  simp only [st1, M.step, M.exec, M.word, code1, ops, M.isAt, M.say, e]
  rfl
theorem st1_at_no {t : Array Nat} {s : Nat} {sn : Seen} {om : Bool} (h : ¬ (s = 0 ∨ t.getD (s - 1) 0 = 10)) :
    (st1 t s sn om).step = { st1 t s ((sn.add 6).add 44) om with answer := some false } := by
  have e : (s == 0 || t.getD (s - 1) 0 == 10) = false := by simpa using h
  simp only [st1, M.step, M.exec, M.word, code1, ops, M.isAt, M.say, e]
  rfl
theorem st1_lit_no {t : Array Nat} {s : Nat} {sn : Seen} {om : Bool} (h : ¬ (s < t.size ∧ t.getD s 0 = 46)) :
    ({ st1 t s sn om with pc := 7 } : M).step = { st1 t s (sn.add 16) om with pc := 7, answer := some false } := by
  by_cases hs : s ≥ t.size
  · show (if s ≥ t.size then _ else _) = _
    rw [if_pos hs]; rfl
  · have e : (t.getD s 0 == 46) = false := by
      have : ¬ t.getD s 0 = 46 := fun q => h ⟨by omega, q⟩
      simpa using this
    have q : accepts code1 7 (t.getD s 0) (sn.add 16) = .ok (false, sn.add 16) := by rw [← e]; rfl
    show (if s ≥ t.size then _ else _) = _
    rw [if_neg hs]
    split
    · rename_i h; cases h.symm.trans q
    · rename_i h; cases h.symm.trans q; rfl
    · rename_i h; cases h.symm.trans q
theorem st1_lit_yes {t : Array Nat} {s : Nat} {sn : Seen} {om : Bool} (h : s < t.size ∧ t.getD s 0 = 46) :
    ({ st1 t s sn om with pc := 7 } : M).step = { st1 t s (sn.add 16) om with pc := 9, pos := s + 1 } := by
  have hs : ¬ s ≥ t.size := by omega
  have e : (t.getD s 0 == 46) = true := by simpa using h.2
  have q : accepts code1 7 (t.getD s 0) (sn.add 16) = .ok (true, sn.add 16) := by rw [← e]; rfl
  show (if s ≥ t.size then _ else _) = _
  rw [if_neg hs]
  split
  · rename_i h; cases h.symm.trans q
  · rename_i h; cases h.symm.trans q
  · rename_i h; cases h.symm.trans q; rfl
theorem st1_succ {t : Array Nat} {s : Nat} {sn : Seen} {om : Bool} :
    ({ st1 t s sn om with pc := 9, pos := s + 1 } : M).step = { st1 t s (sn.add 1) om with pc := 9, pos := s + 1, handed := s + 1, answer := some true } := by
  cases om <;> rfl
theorem st1_back_no {t : Array Nat} {s pc : Nat} {sn : Seen} {om : Bool} (h : s < t.size) : ({ st1 t s sn om with pc := pc, answer := some false } : M).step = st1 t (s + 1) sn false := by
  show (if s < t.size then _ else _) = _
  rw [if_pos h]
  rfl
theorem st1_back_end {t : Array Nat} {s pc : Nat} {sn : Seen} {om : Bool} (h : ¬ s < t.size) : ({ st1 t s sn om with pc := pc, answer := some false } : M).step = { st1 t s sn om with pc := 5, answer := some false, frames := [], weight := 0 } := by
  show (if s < t.size then _ else _) = _
  rw [if_neg h]
  rfl

def find1 (t : Array Nat) : Nat → Nat → Option Nat
  | 0, _ => none
  | f + 1, s => if (s = 0 ∨ t.getD (s - 1) 0 = 10) ∧ s < t.size ∧ t.getD s 0 = 46 then some s else if s < t.size then find1 t f (s + 1) else none

def Found (m : M) : Option (Nat × Nat) → Prop
  | some (q, e) => m.outcome = some .matched ∧ m.start = q ∧ m.handed = e
  | none => m.outcome = some .failed

theorem search1 (t : Array Nat) : ∀ f s sn om, s ≤ t.size → f = t.size + 1 - s → Reach (5 * f) (st1 t s sn om) (Found · ((find1 t f s).map fun q => (q, q + 1)))
  | 0, s, sn, om, h, e => by omega
  | f + 1, s, sn, om, h, e => by
    have miss : ∀ pc sn', ¬ ((s = 0 ∨ t.getD (s - 1) 0 = 10) ∧ s < t.size ∧ t.getD s 0 = 46) →
        Reach (5 * f + 2) ({ st1 t s sn' om with pc := pc, answer := some false } : M) (Found · ((find1 t (f + 1) s).map fun q => (q, q + 1))) := by
      intro pc sn' hn
      unfold find1
      rw [if_neg hn]
      by_cases hs : s < t.size
      · rw [if_pos hs]
        exact ((search1 t f (s + 1) sn' false (by omega) (by omega)).step rfl (st1_back_no hs)).mono (by omega)
      · rw [if_neg hs]
        refine (Reach.step ?_ rfl (st1_back_end hs)).mono (n := 1 + 1) (by omega)
        refine Reach.step ?_ rfl rfl
        exact Reach.now rfl
    by_cases hb : s = 0 ∨ t.getD (s - 1) 0 = 10
    · by_cases hl : s < t.size ∧ t.getD s 0 = 46
      · unfold find1
        rw [if_pos ⟨hb, hl⟩]
        refine Reach.mono (n := 0 + 1 + 1 + 1 + 1 + 1) ?_ (by omega)
        exact (((((Reach.now ⟨rfl, rfl, rfl⟩).step rfl rfl).step rfl rfl).step rfl st1_succ).step rfl (st1_lit_yes hl)).step rfl (st1_at_yes hb)
      · exact ((miss 7 _ (fun q => hl q.2)).step rfl (st1_lit_no hl)).step rfl (st1_at_yes hb) |>.mono (by omega)
    · exact ((miss 5 _ (fun q => hb q.1)).step rfl (st1_at_no hb)).mono (by omega)

theorem forSearch1 {t : Array Nat} {p : Nat} (h : p ≤ t.size) : Reach (5 * (t.size + 1)) (forSearch code1 t 0 p t.size false) (Found · ((find1 t (t.size + 1 - p) p).map fun q => (q, q + 1))) := by
  by_cases hp : p < t.size
  · have e : (decide (p > t.size) || decide (t.size - p < 1)) = false := by
      rw [Bool.or_eq_false_iff]; exact ⟨decide_eq_false (by omega), decide_eq_false (by omega)⟩
    have e' : forSearch code1 t 0 p t.size false = st1 t p (({} : Seen).add 14) true := by
      show (if (decide (p > t.size) || decide (t.size - p < 1)) = true then _ else _) = _
      rw [e]; rfl
    rw [e']
    exact (search1 t _ p _ true h rfl).mono (by omega)
  · have e : (decide (p > t.size) || decide (t.size - p < 1)) = true := by
      rw [Bool.or_eq_true_iff]; right; exact decide_eq_true (by omega)
    have q : find1 t (t.size + 1 - p) p = none := by
      have : t.size + 1 - p = 0 + 1 := by omega
      rw [this]; unfold find1
      rw [if_neg (by omega), if_neg hp]
    rw [q]
    refine Reach.mono (n := 0 + 1) ?_ (by omega)
    have e' : ∃ m : M, forSearch code1 t 0 p t.size false = m.say false ∧ m.outcome = none ∧ m.frames = [] := by
      refine ⟨?m, ?_, ?_, ?_⟩
      rotate_left
      · show (if (decide (p > t.size) || decide (t.size - p < 1)) = true then _ else _) = _
        rw [e, if_pos rfl]
      · rfl
      · rfl
    obtain ⟨m, e1, e2, e3⟩ := e'
    rw [e1]
    refine Reach.step (m' := { m.say false with outcome := some .failed }) (Reach.now rfl) e2 ?_
    unfold M.step
    rw [if_neg (by show ¬ m.outcome.isSome = true; rw [e2]; decide)]
    show (match some false, m.frames with | some yes, [] => _ | some yes, f :: rest => _ | none, _ => _) = _
    rw [e3]
    rfl

def st2 (t : Array Nat) (s : Nat) (sn : Seen) (om : Bool) (pc pos hd : Nat) (fr : List Sre.Frame) (wt : Nat) (ans : Option Bool) : M :=
  { code := code2, text := t, lim := t.size, start := s, lastStart := t.size, pc, pos, handed := hd, outermost := om, marks := #[], frames := fr, weight := wt, answer := ans, seen := sn }
def f2 (s : Nat) (om : Bool) : Sre.Frame := { wait := .nextStart, pc := 10, pos := s, outermost := om }
def b2 (s pc : Nat) (om : Bool) : Sre.Frame := { wait := .nextBranch, pc := pc, pos := s, outermost := om }
def n2 (s : Nat) (om : Bool) : Sre.Frame := { wait := .lookNot, pc := 26, pos := s, outermost := om }

section
variable {t : Array Nat} {s pc pos hd wt x : Nat} {sn : Seen} {om : Bool} {fr : List Sre.Frame}
def lits2 : List (Nat × Nat) := [(12, 13), (14, 10), (19, 10), (24, 13), (29, 10)]
theorem lit2_no (hp : (pc, x) ∈ lits2) (h : ¬ (pos < t.size ∧ t.getD pos 0 = x)) :
    (st2 t s sn om pc pos hd fr wt none).step = st2 t s (sn.add 16) om pc pos hd fr wt (some false) := by
  by_cases hs : pos ≥ t.size
  · simp only [lits2, List.mem_cons, Prod.mk.injEq, List.not_mem_nil, or_false] at hp
    rcases hp with ⟨rfl, rfl⟩ | ⟨rfl, rfl⟩ | ⟨rfl, rfl⟩ | ⟨rfl, rfl⟩ | ⟨rfl, rfl⟩ <;>
    (show (if pos ≥ t.size then _ else _) = _; rw [if_pos hs]; rfl)
  · have e : (t.getD pos 0 == x) = false := by
      have : ¬ t.getD pos 0 = x := fun q => h ⟨by omega, q⟩
      simpa using this
    simp only [lits2, List.mem_cons, Prod.mk.injEq, List.not_mem_nil, or_false] at hp
    have q : accepts code2 pc (t.getD pos 0) (sn.add 16) = .ok (false, sn.add 16) := by
      rw [← e]
      rcases hp with ⟨rfl, rfl⟩ | ⟨rfl, rfl⟩ | ⟨rfl, rfl⟩ | ⟨rfl, rfl⟩ | ⟨rfl, rfl⟩ <;> rfl
    rcases hp with ⟨rfl, rfl⟩ | ⟨rfl, rfl⟩ | ⟨rfl, rfl⟩ | ⟨rfl, rfl⟩ | ⟨rfl, rfl⟩ <;>
    (show (if pos ≥ t.size then _ else _) = _
     rw [if_neg hs]
     split
     · rename_i h; cases h.symm.trans q
     · rename_i h; cases h.symm.trans q; rfl
     · rename_i h; cases h.symm.trans q)
theorem lit2_yes (hp : (pc, x) ∈ lits2) (h : pos < t.size ∧ t.getD pos 0 = x) :
    (st2 t s sn om pc pos hd fr wt none).step = st2 t s (sn.add 16) om (pc + 2) (pos + 1) hd fr wt none := by
  have hs : ¬ pos ≥ t.size := by omega
  have e : (t.getD pos 0 == x) = true := by simpa using h.2
  simp only [lits2, List.mem_cons, Prod.mk.injEq, List.not_mem_nil, or_false] at hp
  have q : accepts code2 pc (t.getD pos 0) (sn.add 16) = .ok (true, sn.add 16) := by
    rw [← e]
    rcases hp with ⟨rfl, rfl⟩ | ⟨rfl, rfl⟩ | ⟨rfl, rfl⟩ | ⟨rfl, rfl⟩ | ⟨rfl, rfl⟩ <;> rfl
  rcases hp with ⟨rfl, rfl⟩ | ⟨rfl, rfl⟩ | ⟨rfl, rfl⟩ | ⟨rfl, rfl⟩ | ⟨rfl, rfl⟩ <;>
  (show (if pos ≥ t.size then _ else _) = _
   rw [if_neg hs]
   split
   · rename_i h; cases h.symm.trans q
   · rename_i h; cases h.symm.trans q
   · rename_i h; cases h.symm.trans q; rfl)
theorem branch2 : (st2 t s sn om 10 s hd [f2 s om] 1 none).step = st2 t s (sn.add 7) om 12 s s [b2 s 11 om, f2 s om] 2 none := rfl
theorem back2a {ppc ppos : Nat} : (st2 t s sn om ppc ppos hd [b2 s 11 om, f2 s om] 2 (some false)).step = st2 t s sn om 19 s s [b2 s 18 om, f2 s om] 2 none := rfl
theorem back2b {ppc ppos : Nat} : (st2 t s sn om ppc ppos hd [b2 s 18 om, f2 s om] 2 (some false)).step = st2 t s sn om 24 s s [b2 s 23 om, f2 s om] 2 none := rfl
theorem jump2 (hp : pc ∈ [16, 21, 32]) : (st2 t s sn om pc pos hd fr wt none).step = st2 t s (sn.add 15) om 35 pos hd fr wt none := by
  simp only [List.mem_cons, List.not_mem_nil, or_false] at hp
  rcases hp with rfl | rfl | rfl <;> rfl
theorem succ2 : (st2 t s sn om 35 pos hd fr wt none).step = st2 t s (sn.add 1) om 35 pos pos fr wt (some true) := by cases om <;> rfl
theorem up2 {p : Nat} : (st2 t s sn om pc pos hd [b2 s p om, f2 s om] 2 (some true)).step = st2 t s sn om p s hd [f2 s om] 1 (some true) := rfl
theorem look2 : (st2 t s sn om 26 (s + 1) hd [b2 s 23 om, f2 s om] 2 none).step = st2 t s (sn.add 5) false 29 (s + 1) (s + 1) [n2 (s + 1) om, b2 s 23 om, f2 s om] 3 none := rfl
theorem looked2 : (st2 t s sn false 29 (s + 1) hd [n2 (s + 1) om, b2 s 23 om, f2 s om] 3 (some false)).step = st2 t s sn om 32 (s + 1) hd [b2 s 23 om, f2 s om] 2 none := rfl
end

def len2 (t : Array Nat) (s : Nat) : Nat := if t.getD s 0 = 13 ∧ s + 1 < t.size ∧ t.getD (s + 1) 0 = 10 then 2 else 1
theorem end2 {t : Array Nat} {s pos : Nat} {sn : Seen} {om : Bool} {p hd : Nat} (hp : p ∈ [16, 21, 32]) {q : Nat} : Reach 6 (st2 t s sn om p pos hd [b2 s q om, f2 s om] 2 none) (Found · (some (s, pos))) := by
  refine Reach.step ?_ rfl (jump2 hp)
  refine Reach.step ?_ rfl succ2
  refine Reach.step ?_ rfl up2
  refine Reach.step ?_ rfl rfl
  refine Reach.step ?_ rfl rfl
  exact Reach.now (n := 1) ⟨rfl, rfl, rfl⟩
theorem run2 {t : Array Nat} {s : Nat} {sn : Seen} {om : Bool} {hd : Nat} (h : s < t.size) (hc : t.getD s 0 = 10 ∨ t.getD s 0 = 13) :
    Reach 30 (st2 t s sn om 10 s hd [f2 s om] 1 none) (Found · (some (s, s + len2 t s))) := by
  refine Reach.step (n := 29) ?_ rfl branch2
  rcases hc with hc | hc
  · have e : len2 t s = 1 := by unfold len2; rw [if_neg (by omega)]
    rw [e]
    refine Reach.step (n := 28) ?_ rfl (lit2_no (x := 13) (by decide) (by omega))
    refine Reach.step (n := 27) ?_ rfl back2a
    refine Reach.step (n := 26) ?_ rfl (lit2_yes (x := 10) (by decide) ⟨h, hc⟩)
    exact (end2 (by decide)).mono (by omega)
  · refine Reach.step (n := 28) ?_ rfl (lit2_yes (x := 13) (by decide) ⟨h, hc⟩)
    by_cases hn : s + 1 < t.size ∧ t.getD (s + 1) 0 = 10
    · have e : len2 t s = 2 := by unfold len2; rw [if_pos ⟨hc, hn⟩]
      rw [e]
      refine Reach.step (n := 27) ?_ rfl (lit2_yes (x := 10) (by decide) hn)
      exact (end2 (by decide)).mono (by omega)
    · have e : len2 t s = 1 := by unfold len2; rw [if_neg (fun q => hn q.2)]
      rw [e]
      refine Reach.step (n := 27) ?_ rfl (lit2_no (x := 10) (by decide) hn)
      refine Reach.step (n := 26) ?_ rfl back2a
      refine Reach.step (n := 25) ?_ rfl (lit2_no (x := 10) (by decide) (by omega))
      refine Reach.step (n := 24) ?_ rfl back2b
      refine Reach.step (n := 23) ?_ rfl (lit2_yes (x := 13) (by decide) ⟨h, hc⟩)
      refine Reach.step (n := 22) ?_ rfl look2
      refine Reach.step (n := 21) ?_ rfl (lit2_no (x := 10) (by decide) hn)
      refine Reach.step (n := 20) ?_ rfl looked2
      exact (end2 (by decide)).mono (by omega)

def find2 (t : Array Nat) : Nat → Nat → Option Nat
  | 0, _ => none
  | f + 1, s => if s ≥ t.size then none else if t.getD s 0 = 10 ∨ t.getD s 0 = 13 then some s else find2 t f (s + 1)
theorem find2_some {t : Array Nat} : ∀ {f s q : Nat}, find2 t f s = some q → s ≤ q ∧ q < t.size ∧ (t.getD q 0 = 10 ∨ t.getD q 0 = 13)
  | 0, _, _, h => by cases h
  | f + 1, s, q, h => by
    unfold find2 at h
    split at h
    · cases h
    · split at h
      · rename_i h1 h2; cases h; exact ⟨Nat.le_refl _, by omega, h2⟩
      · obtain ⟨a, b, c⟩ := find2_some h; exact ⟨by omega, b, c⟩
theorem inSet2 (c : Nat) (sn : Seen) : ∃ sn', inSet code2 c code2.size 5 true sn = .ok (decide (c = 10 ∨ c = 13), sn') := by
  by_cases h1 : c = 10
  · refine ⟨sn.add 16, ?_⟩
    subst h1; rfl
  · by_cases h2 : c = 13
    · subst h2; exact ⟨_, rfl⟩
    · have e1 : (c == 10) = false := by simpa using h1
      have e2 : (c == 13) = false := by simpa using h2
      have e3 : decide (c = 10 ∨ c = 13) = false := decide_eq_false (by omega)
      rw [e3]
      refine ⟨((sn.add 16).add 16).add 0, ?_⟩
      show (if (c == 10) = true then _ else if (c == 13) = true then _ else _) = _
      rw [e1, e2]; rfl
theorem admitted2 (m : M) (t : Array Nat) (hc : m.code = code2) (ht : m.text = t) (hl : m.lim = t.size) : ∀ f s sn, ∃ sn', M.admitted m f s sn = .ok (find2 t f s, sn')
  | 0, s, sn => ⟨sn, rfl⟩
  | f + 1, s, sn => by
    unfold M.admitted find2
    rw [hl, hc, ht]
    by_cases hs : s ≥ t.size
    · rw [if_pos hs, if_pos hs]; exact ⟨sn, rfl⟩
    · rw [if_neg hs, if_neg hs]
      obtain ⟨sn', e⟩ := inSet2 (t.getD s 0) sn
      rw [e]
      by_cases hq : t.getD s 0 = 10 ∨ t.getD s 0 = 13
      · rw [if_pos hq, decide_eq_true hq]; exact ⟨sn', rfl⟩
      · rw [if_neg hq, decide_eq_false hq]
        exact admitted2 m t hc ht hl f (s + 1) sn'
theorem forSearch2 {t : Array Nat} {p : Nat} (h : p ≤ t.size) : Reach 31 (forSearch code2 t 0 p t.size false) (Found · ((find2 t (t.size + 1 - p) p).map fun q => (q, q + len2 t q))) := by
  by_cases hp : p < t.size
  · have e : (decide (p > t.size) || decide (t.size - p < 1)) = false := by
      rw [Bool.or_eq_false_iff]; exact ⟨decide_eq_false (by omega), decide_eq_false (by omega)⟩
    have e' : forSearch code2 t 0 p t.size false = (st2 t p (({} : Seen).add 14) true 10 p p [] 0 none).attemptFrom p true := by
      show (if (decide (p > t.size) || decide (t.size - p < 1)) = true then _ else _) = _
      rw [e]; rfl
    obtain ⟨sn', q⟩ := admitted2 (st2 t p (({} : Seen).add 14) true 10 p p [] 0 none) t rfl rfl rfl (t.size + 1 - p) p (({} : Seen).add 14)
    have e2 : (st2 t p (({} : Seen).add 14) true 10 p p [] 0 none).attemptFrom p true = (match find2 t (t.size + 1 - p) p with
        | some s => st2 t s sn' true 10 s s [f2 s true] 1 none
        | none => st2 t p sn' true 10 p p [] 0 (some false)) := by
      unfold M.attemptFrom
      show (match M.admitted _ (t.size + 1 - p) p (({} : Seen).add 14) with | .ok (some s, seen) => _ | .ok (none, seen) => _ | .error why => _) = _
      rw [q]
      cases find2 t (t.size + 1 - p) p <;> rfl
    rw [e', e2]
    cases hf : find2 t (t.size + 1 - p) p with
    | none =>
      refine Reach.step (n := 30) ?_ rfl rfl
      exact Reach.now rfl
    | some s =>
      obtain ⟨_, hb, hc⟩ := find2_some hf
      exact (run2 hb hc).mono (by omega)
  · have e : (decide (p > t.size) || decide (t.size - p < 1)) = true := by
      rw [Bool.or_eq_true_iff]; right; exact decide_eq_true (by omega)
    have q : find2 t (t.size + 1 - p) p = none := by
      have : t.size + 1 - p = 0 + 1 := by omega
      rw [this]; unfold find2
      rw [if_pos (by omega)]
    rw [q]
    refine Reach.mono (n := 0 + 1) ?_ (by omega)
    have e' : ∃ m : M, forSearch code2 t 0 p t.size false = m.say false ∧ m.outcome = none ∧ m.frames = [] := by
      refine ⟨?m, ?_, ?_, ?_⟩
      rotate_left
      · show (if (decide (p > t.size) || decide (t.size - p < 1)) = true then _ else _) = _
        rw [e, if_pos rfl]
      · rfl
      · rfl
    obtain ⟨m, e1, e2, e3⟩ := e'
    rw [e1]
    refine Reach.step (m' := { m.say false with outcome := some .failed }) (Reach.now rfl) e2 ?_
    unfold M.step
    rw [if_neg (by show ¬ m.outcome.isSome = true; rw [e2]; decide)]
    show (match some false, m.frames with | some yes, [] => _ | some yes, f :: rest => _ | none, _ => _) = _
    rw [e3]
    rfl
end Mine

end
section
open PySem PySem.W PySem.Calls PyProof.Rows PySem.Sre
set_option Elab.async false
set_option maxRecDepth 100000
namespace Mine

section
variable {M : Model} {A : Around} {E : Value → Shared → Prop} {s : Shared}
theorem drive {Φ : Sre.M → Prop} (hΦ : ∀ m, Φ m → m.outcome.isSome = true) {Q : Sre.M → Shared → Prop} (hQ : ∀ m, Φ m → Q m s) :
    ∀ turns k (m : Sre.M), k ≤ 4 * turns → 0 < turns → Φ (m.runFor k) → wpAny M A (Builtin.Re.reDrive turns m) Q E s
  | 0, _, _, _, h, _ => absurd h (Nat.lt_irrefl 0)
  | turns + 1, k, m, hk, _, h => by
    unfold Builtin.Re.reDrive
    show wpAny M A (if (m.runFor 4).outcome.isSome = true then pure (m.runFor 4) else _) Q E s
    by_cases h4 : (m.runFor 4).outcome.isSome = true
    · rw [if_pos h4]
      refine wpAny_pure (hQ _ ?_)
      by_cases hk4 : k ≤ 4
      · have e : m.runFor 4 = m.runFor k := by
          have : 4 = k + (4 - k) := by omega
          rw [this, runFor_add, runFor_out _ (hΦ _ h)]
        rw [e]; exact h
      · have e : m.runFor k = m.runFor 4 := by
          have : k = 4 + (k - 4) := by omega
          rw [this, runFor_add, runFor_out _ h4]
        rw [← e]; exact h
    · rw [if_neg h4]
      have hk4 : 4 < k := by
        rcases Nat.lt_or_ge 4 k with q | q
        · exact q
        · exfalso; apply h4
          have e : m.runFor 4 = m.runFor k := by
            have : 4 = k + (4 - k) := by omega
            rw [this, runFor_add, runFor_out _ (hΦ _ h)]
          rw [e]; exact hΦ _ h
      refine wpAny_bind (wpAny_rule ?_)
      refine drive hΦ hQ turns (k - 4) _ (by omega) (by omega) ?_
      have e : k = 4 + (k - 4) := by omega
      rw [e, runFor_add] at h
      exact h

theorem found_out {r : Option (Nat × Nat)} {m : Sre.M} (h : Found m r) : m.outcome.isSome = true := by
  cases r with
  | none => rw [show m.outcome = some .failed from h]; rfl
  | some p => rw [show m.outcome = some .matched from h.1]; rfl

theorem runToEnd {m : Sre.M} {n : Nat} {r : Option (Nat × Nat)} {Q : Option Sre.M → Shared → Prop} (h : Reach n m (Found · r)) (hn : n ≤ 4 * 2 ^ 64)
    (hQ : match r with | some (q, e) => ∀ m' : Sre.M, m'.start = q → m'.handed = e → Q (some m') s | none => Q none s) : wpAny M A (Builtin.Re.reRunToEnd m) Q E s := by
  unfold Builtin.Re.reRunToEnd
  obtain ⟨k, hk, hF⟩ := h
  refine wpAny_bind (drive (Φ := (Found · r)) (fun m h => found_out h) (fun m' hm => ?_) (2 ^ 64) k m (Nat.le_trans hk hn) (by decide) hF)
  refine wpAny_bind (wpAny_forIn_list _ (fun _ _ s' => s' = s) _ (fun x rest b s' hs => ?_) (fun b s' hs => ?_) _ _ rfl)
  · subst hs
    by_cases hx : m'.seen.has x = true
    · rw [if_pos hx]; exact wpAny_bind (wpAny_rule (wpAny_pure rfl))
    · rw [if_neg hx]; exact wpAny_pure rfl
  · subst hs
    cases r with
    | none =>
      rw [show m'.outcome = some .failed from hm]
      exact wpAny_pure hQ
    | some p =>
      obtain ⟨h1, h2, h3⟩ := hm
      rw [h1]
      exact wpAny_pure (hQ m' h2 h3)
end

theorem lk_pat_sub : Slot "re.Pattern" "sub" "re.Pattern.sub" :=
  .of (owner := "re.Pattern") (n := "sub") (by rw [typeLookup_type, builtinLookup_eq_fast]; kernel_rfl) (by decide +kernel) (by decide +kernel) (by decide +kernel)
    (by first | exact .inl (by decide +kernel) | exact .inr (by decide +kernel)) (by rw [isSubtype_type]; kernel_rfl)
theorem ty_pat_sub : typeOf (.builtin "re.Pattern.sub") = pure (.type "method_descriptor") := by show builtinType _ = _; rw [builtinType_eq_fast]; kernel_rfl
theorem en_pat_sub : entryFor table "re.Pattern.sub" = some Builtin.«re.Pattern.sub» := entryFor_of_tree (by kernel_rfl)
theorem en_pat_loop : entryFor table "re.Pattern.sub.loop" = some Builtin.«re.Pattern.sub.loop» := entryFor_of_tree (by kernel_rfl)
theorem pl_pat_loop : plainId "re.Pattern.sub.loop" = true := by decide +kernel
theorem ar_pat_sub (a b c : Value) : argsOk "re.Pattern.sub" ⟨[a, b, c], []⟩ := by unfold argsOk; kernel_rfl
theorem pa_pat : PlainAttrs "re.Pattern" := by
  refine ⟨⟨"object.__getattribute__", by rw [typeLookup_type, builtinLookup_eq_fast]; kernel_rfl, by decide +kernel⟩, by rw [typeLookup_type, builtinLookup_eq_fast]; kernel_rfl⟩
theorem no_call_str : typeLookup (.type "str") "__call__" = pure none := by rw [typeLookup_type, builtinLookup_eq_fast]; kernel_rfl

structure IsPat (h : Heap) (a : Addr) (code : Array Nat) : Prop where
  ex : ∃ (fs : Array Value) (T : Addr) (ws : Array Value) (n : Nat), h.get? a = some { cls := .type "re.Pattern", data := .fields fs } ∧ fs.getD 5 .none = .ref T ∧ Builtin.Re.reRawNat (fs.getD 2 .none) = 0 ∧ Builtin.Re.reRawNat (fs.getD 6 .none) = 0 ∧
    h.get? T = some { cls := .type "tuple", data := .seq ws n } ∧ (ws.map Builtin.Re.reRawOf).map (·.toNat) = code
theorem IsPat.keeps {h h' : Heap} {a : Addr} {c : Array Nat} (x : IsPat h a c) (hk : ∀ b o, h.get? b = some o → h'.get? b = some o) : IsPat h' a c := by
  obtain ⟨fs, T, ws, n, h1, h2, h3, h4, h5, h6⟩ := x.ex
  exact ⟨fs, T, ws, n, hk _ _ h1, h2, h3, h4, hk _ _ h5, h6⟩

section
variable {prog : Program} {w : World} {A : Around} {E : Value → Shared → Prop} {s : Shared}

theorem wholeTarget {pa : Addr} {code : Array Nat} {x : Str} {t : Tok} {Q : Builtin.Re.ReTarget → Shared → Prop} (hp : IsPat s.heap pa code)
    (h : Q { pattern := .ref pa, string := .str x t, code := code, text := x.cps, kind := 0, groups := 0, pos := 0, lim := x.cps.size } s) :
    wpAny (model prog w) A (Builtin.Re.reWholeTarget (.ref pa) (.str x t)) Q E s := by
  obtain ⟨fs, T, ws, n, h1, h2, h3, h4, h5, h6⟩ := hp.ex
  unfold Builtin.Re.reWholeTarget
  refine wpAny_bind (wpAny_fieldsOf h1 rfl ?_)
  refine wpAny_bind (m := Builtin.Re.reTextOf (.str x t)) (wpAny_pure (a := (x.cps, 0)) ?_)
  show wpAny _ A (if (Builtin.Re.reRawNat (fs.getD 6 .none) == 0 && (0 : Nat) == 1) = true then _ else _) Q E s
  rw [h4]
  rw [if_neg (by decide)]
  rw [if_neg (by decide)]
  refine wpAny_bind (m := Builtin.Re.reNoCollectionInside (.str x t) 0) (wpAny_pure ?_)
  refine wpAny_bind (m := Builtin.Re.reRawItems (fs.getD 5 .none)) ?_
  rw [h2]
  unfold Builtin.Re.reRawItems
  refine wpAny_bind (wpAny_seqItems h5 rfl (wpAny_pure ?_))
  refine wpAny_pure ?_
  rw [h3]
  show Q { pattern := .ref pa, string := .str x t, code := (ws.map Builtin.Re.reRawOf).map (·.toNat), text := x.cps, kind := 0, groups := 0, pos := 0, lim := x.cps.size } s
  rw [h6]
  exact h

theorem push_plain {l : Addr} {items : Array Value} {x : Value} {Q : Unit → Shared → Prop} (hl : s.heap.PlainList l items)
    (hQ : ∀ h', h'.PlainList l (items.push x) → Heap.SameBut l s.heap h' → Q () { s with heap := h' }) (hsz : items.size ≤ sizeLine) :
    wpAny (model prog w) A (updateSeq l (·.push x)) Q E s := by
  obtain ⟨n, ho⟩ := hl
  refine wpAny_updateSeq ho rfl (hQ _ ⟨n + 1, ?_⟩ (Heap.SameBut.update ..))
  rw [Heap.get?_update_self _ ho (by rw [Obj.mapSeq_push_plain]; rfl), Obj.mapSeq_push_plain]
end

/-- the pieces that a sub joins -/
def pieces (fnd : Nat → Option (Nat × Nat)) (x : Array Nat) (repl : Str) : Nat → Nat → List Str
  | 0, _ => []
  | f + 1, p => match fnd p with
    | some (q, e) => (if p < q then [⟨x.extract p q⟩] else []) ++ repl :: pieces fnd x repl f e
    | none => if p < x.size then [⟨x.extract p x.size⟩] else []
end Mine

end
section
open PySem PySem.W PySem.Calls PyProof.Rows PySem.Sre
set_option Elab.async false
set_option maxRecDepth 100000
namespace Mine

theorem StrsAre.append {vs vs' : List Value} {ys ys' : List Str} (h : StrsAre vs ys) (h' : StrsAre vs' ys') : StrsAre (vs ++ vs') (ys ++ ys') := by
  induction h with
  | nil => exact h'
  | cons y t _ ih => exact .cons y t ih
theorem StrsAre.length {vs : List Value} {ys : List Str} (h : StrsAre vs ys) : vs.length = ys.length := by
  induction h with
  | nil => rfl
  | cons y t _ ih => simp [ih]
theorem StrsAre.push {vs : Array Value} {ys : List Str} {y : Str} {t : Tok} (h : StrsAre vs.toList ys) : StrsAre (vs.push (.str y t)).toList (ys ++ [y]) := by
  rw [Array.toList_push]; exact StrsAre.append h (.cons y t .nil)

section
variable {prog : Program} {w : World} {A : Around} {R : Result → Shared → Prop}

theorem sub_loop {pa D : Addr} {code : Array Nat} {x repl : Str} {t tr : Tok} {fnd : Nat → Option (Nat × Nat)} {N : Nat} (hx : x.cps.size ≤ 1000) (hr : repl.cps.size ≤ 2) (hN : N ≤ 4 * 2 ^ 64)
    (hs : ∀ p ≤ x.cps.size, Reach N (forSearch code x.cps 0 p x.cps.size false) (Found · (fnd p))) (hf : ∀ p q e, fnd p = some (q, e) → p ≤ q ∧ q < e ∧ e ≤ x.cps.size) :
    ∀ f p n (ys : Array Value) (zs : List Str) (s : Shared), x.cps.size + 1 - p ≤ f → p ≤ x.cps.size → (∀ h', Heap.SameBut D s.heap h' → IsPat h' pa code) →
      s.heap.PlainList D ys → StrsAre ys.toList zs → zs.length ≤ 2 * p → (zs.map (·.length)).sum ≤ 3 * p →
      (∀ h' k t', Heap.SameBut D s.heap h' → R (.ok (.ret (.str (Txt.join Str.empty (zs ++ pieces fnd x.cps repl f p)) t'))) { s with heap := h', toks := k }) →
      codeAny (model prog w) A (.builtin "re.Pattern.sub.loop" ⟨[.ref pa, .str x t, .str repl tr, rawInt 0, rawInt 0, rawInt n, rawInt p, rawInt p, .bool false, .ref D, .bool false], []⟩) R s
  | 0, p, _, _, _, _, h, hp, _, _, _, _, _, _ => by omega
  | f + 1, p, n, ys, zs, s, hfp, hp, hpat, hD, hst, hlen, hsum, hR => by
    have hys : ys.size = zs.length := by have := StrsAre.length hst; simpa using this
    refine codeAny_builtin en_pat_loop ?_
    rw [Around.under_plainId pl_pat_loop]
    refine wpAny_bind (wholeTarget (hpat _ (.refl ..)) ?_)
    refine wpAny_bind (m := Builtin.Re.reLiteralCannotBeTurned (.str repl tr)) (wpAny_pure ?_)
    refine wpAny_bind (m := Builtin.Re.reNextFound _ _ _) ?_
    unfold Builtin.Re.reNextFound
    refine runToEnd (r := fnd p) (hs p hp) hN ?_
    have szl : sizeLine = 16777216 := by decide
    cases hfq : fnd p with
    | none =>
      have fin : ∀ (s1 : Shared) (ys1 : Array Value) (zs1 : List Str), s1.heap.PlainList D ys1 → StrsAre ys1.toList zs1 → (zs1.map (·.length)).sum ≤ 5000 →
          (∀ k t', R (.ok (.ret (.str (Txt.join Str.empty zs1) t'))) { s1 with toks := k }) →
          wpAny (model prog w) A.in1 (do
            let joiner ← Builtin.Re.reSlice x.cps 0 0 0
            let l ← seqItems? (Value.ref D)
            let text ← if (l.getD #[]).isEmpty then pure joiner else call (.builtin "str.join") [joiner, .ref D]
            ret text)
            (fun fin s' => match fin with
              | .done f => R (.ok f) s'
              | .again c' => c'.quiet = true ∧ codeAny (model prog w) A c' R s')
            (fun e s' => R (.error e) s') s1 := by
        intro s1 ys1 zs1 h1 h2 h3 h4
        obtain ⟨n1, e1⟩ := h1
        have e0 : (⟨x.cps.extract 0 0⟩ : Str) = Str.empty := by
          show (⟨x.cps.extract 0 0⟩ : Str) = ⟨#[]⟩
          simp
        refine wpAny_bind (m := Builtin.Re.reSlice x.cps 0 0 0) (wpAny_mkStr ?_ (by rw [e0]; exact Nat.zero_le _))
        refine wpAny_bind (wpAny_seqItems e1 rfl ?_)
        rw [e0]
        show wpAny _ _ (if ys1.isEmpty = true then _ else _) _ _ _
        by_cases he : ys1.isEmpty = true
        · rw [if_pos he]
          have : ys1 = #[] := Array.isEmpty_iff.mp he
          subst this
          cases h2
          exact wpAny_bind (wpAny_pure (wpAny_pure (h4 _ _)))
        · rw [if_neg he]
          refine wpAny_bind (join_list (x := Str.empty) ⟨_, e1, rfl, _, rfl⟩ h2 (by
            show _ + _ * 0 ≤ _
            omega) fun t' k => ?_)
          exact wpAny_pure (h4 _ _)
      have ep : pieces fnd x.cps repl (f + 1) p = if p < x.cps.size then [⟨x.cps.extract p x.cps.size⟩] else [] := by
        show (match fnd p with | some (q, e) => _ | none => _) = _
        rw [hfq]
      rw [ep] at hR
      show wpAny _ _ (if ((p : Int)).toNat < x.cps.size then _ else _) _ _ _
      rw [Int.toNat_natCast]
      by_cases hlt : p < x.cps.size
      · rw [if_pos hlt] at hR ⊢
        refine wpAny_bind (m := Builtin.Re.reSlice x.cps 0 p x.cps.size) (wpAny_mkStr ?_ (by
          show (x.cps.extract p x.cps.size).size ≤ _
          rw [Array.size_extract, szl]; omega))
        refine wpAny_bind (push_plain (by exact hD) (fun h' hD' hsb => ?_) (by rw [szl]; omega))
        refine fin _ _ _ hD' (StrsAre.push hst) ?_ fun k t' => hR h' k t' hsb
        rw [List.map_append, List.sum_append]
        show _ + ((x.cps.extract p x.cps.size).size + 0) ≤ _
        rw [Array.size_extract]; omega
      · rw [if_neg hlt] at hR ⊢
        refine fin _ _ _ hD hst (by omega) fun k t' => ?_
        have := hR s.heap k t' (.refl ..)
        rw [List.append_nil] at this
        exact this
    | some qe =>
      obtain ⟨q, e⟩ := qe
      intro m' hm1 hm2
      obtain ⟨hpq, hqe, hex⟩ := hf p q e hfq
      have ep : pieces fnd x.cps repl (f + 1) p = (if p < q then [⟨x.cps.extract p q⟩] else []) ++ repl :: pieces fnd x.cps repl f e := by
        show (match fnd p with | some (q, e) => _ | none => _) = _
        rw [hfq]
      rw [ep] at hR
      have nxt : ∀ (s1 : Shared) (ys1 : Array Value) (zs1 : List Str), Heap.SameBut D s.heap s1.heap → s1.heap.PlainList D ys1 → StrsAre ys1.toList zs1 → zs1.length ≤ 2 * p + 1 → (zs1.map (·.length)).sum ≤ 3 * p + (q - p) →
          (∀ h' k t', Heap.SameBut D s1.heap h' → R (.ok (.ret (.str (Txt.join Str.empty (zs1 ++ repl :: pieces fnd x.cps repl f e)) t'))) { s1 with heap := h', toks := k }) →
          wpAny (model prog w) A.in1 (do
            updateSeq D (·.push (.str repl tr))
            again (Code.builtin "re.Pattern.sub.loop" ⟨[.ref pa, .str x t, .str repl tr, rawInt 0, rawInt 0, rawInt (n + 1), rawInt m'.handed, rawInt m'.handed, .bool (m'.handed == m'.start), .ref D, .bool false], []⟩))
            (fun fin s' => match fin with
              | .done f => R (.ok f) s'
              | .again c' => c'.quiet = true ∧ codeAny (model prog w) A c' R s')
            (fun e s' => R (.error e) s') s1 := by
        intro s1 ys1 zs1 hsb h1 h2 h3 h4 h5
        have hys1 : ys1.size = zs1.length := by have := StrsAre.length h2; simpa using this
        refine wpAny_bind (push_plain h1 (fun h' hD' hsb' => ?_) (by rw [szl]; omega))
        refine wpAny_pure ⟨plainId_quiet pl_pat_loop _, ?_⟩
        rw [hm1, hm2]
        have eb : (e == q) = false := by simpa using (show e ≠ q by omega)
        rw [eb]
        refine sub_loop hx hr hN hs hf f e (n + 1) _ (zs1 ++ [repl]) _ (by omega) hex (fun h'' q' => hpat h'' ((hsb.trans hsb').trans q')) hD' (StrsAre.push h2) (by
          rw [List.length_append]; show _ + 1 ≤ _; omega) (by
          rw [List.map_append, List.sum_append]
          show _ + (repl.cps.size + 0) ≤ _
          omega) fun h'' k t' q' => ?_
        have := h5 h'' k t' (hsb'.trans q')
        rw [List.append_assoc]
        exact this
      show wpAny _ _ (if ((p : Int)).toNat < m'.start then _ else _) _ _ _
      rw [Int.toNat_natCast]
      by_cases hlt : p < q
      · rw [if_pos (by rw [hm1]; exact hlt)]
        rw [if_pos hlt] at hR
        refine wpAny_bind (m := Builtin.Re.reSlice x.cps 0 p m'.start) (wpAny_mkStr ?_ (by
          show (x.cps.extract p m'.start).size ≤ _
          rw [Array.size_extract, szl]; omega))
        refine wpAny_bind (push_plain (by exact hD) (fun h' hD' hsb => ?_) (by rw [szl]; omega))
        refine wpAny_bind (wpAny_pure ?_)
        rw [hm1] at hD'
        refine nxt { s with heap := h', toks := s.toks + 1 } _ _ hsb hD' (StrsAre.push hst) (by rw [List.length_append]; show _ + 1 ≤ _; omega) ?_ fun h'' k t' q' => ?_
        · rw [List.map_append, List.sum_append]
          show _ + ((x.cps.extract p q).size + 0) ≤ _
          rw [Array.size_extract]; omega
        · have := hR h'' k t' (hsb.trans q')
          rw [List.append_assoc]
          exact this
      · rw [if_neg (by rw [hm1]; exact hlt)]
        rw [if_neg hlt] at hR
        refine wpAny_bind (wpAny_pure ?_)
        exact nxt _ _ _ (.refl ..) hD hst (by omega) (by omega) hR
end

section
variable {prog : Program} {w : World} {A : Around} {E : Value → Shared → Prop} {s : Shared}
theorem named_sub (a b : Value) : Builtin.Re.reNamed "re.Pattern.sub" "sub" ["repl", "string", "count"] 2 [a, b] [] = pure [some a, some b, none] := by rfl

theorem sub_call {pa : Addr} {code : Array Nat} {x repl : Str} {t tr : Tok} {fnd : Nat → Option (Nat × Nat)} {N : Nat} (hx : x.cps.size ≤ 1000) (hr : repl.cps.size ≤ 2) (hN : N ≤ 4 * 2 ^ 64)
    (hs : ∀ p ≤ x.cps.size, Reach N (forSearch code x.cps 0 p x.cps.size false) (Found · (fnd p))) (hf : ∀ p q e, fnd p = some (q, e) → p ≤ q ∧ q < e ∧ e ≤ x.cps.size) (hl : repl.cps.contains 92 = false)
    (hpat : IsPat s.heap pa code) {Q : Value → Shared → Prop}
    (hQ : ∀ h' k t', (∀ b o, s.heap.get? b = some o → h'.get? b = some o) → Q (.str (Txt.join Str.empty (pieces fnd x.cps repl (x.cps.size + 1) 0)) t') { s with heap := h', toks := k }) :
    wpAny (model prog w) A (call (.builtin "re.Pattern.sub") [.ref pa, .str repl tr, .str x t]) Q E s := by
  have hT : s.TypeIs (.ref pa) "re.Pattern" := let ⟨_, _, _, _, h, _⟩ := hpat.ex; ⟨_, h, rfl⟩
  refine wpAny_call (codeAny_call_builtin lk_pat_sub.plain en_pat_sub (lk_pat_sub.check _ _ _ _ _ _ _ _ hT (ar_pat_sub _ _ _) ?_))
  show wpAny _ _ (Builtin.Re.reSubstitute "re.Pattern.sub" "sub" false ⟨[.ref pa, .str repl tr, .str x t], []⟩) _ _ _
  unfold Builtin.Re.reSubstitute
  refine wpAny_bind (wpAny_of_eq (named_sub _ _) ?_)
  refine wpAny_bind (m := (pure 0 : Sem Int)) (wpAny_pure ?_)
  refine wpAny_bind (wpAny_specialOf (T := "str") rfl no_call_str ?_)
  show wpAny _ _ (if false = true then _ else _) _ _ _
  rw [if_neg Bool.false_ne_true]
  refine wpAny_bind (m := asStr? (.str repl tr)) (wpAny_pure ?_)
  refine wpAny_bind (m := pure !repl.cps.contains 92) (wpAny_pure ?_)
  rw [hl]
  show wpAny _ _ (if (none : Option Value).isSome = true then _ else _) _ _ _
  rw [if_neg (by decide)]
  show wpAny _ _ (if (!false) = true then _ else _) _ _ _
  rw [if_pos (by decide)]
  refine wpAny_bind (wpAny_pure ?_)
  refine wpAny_bind (wpAny_holding (wholeTarget hpat ?_))
  show wpAny _ _ (if ((0 : Int) == 1) = true then _ else _) _ _ _
  rw [if_neg (by decide)]
  refine wpAny_bind (m := newList []) (wpAny_newObj_type ?_ (by size_fits))
  refine wpAny_pure ⟨plainId_quiet pl_pat_loop _, ?_⟩
  have kp : ∀ b o, s.heap.get? b = some o → (s.heap.push { cls := .type "list", data := .seq ([] : List Value).toArray }).get? b = some o := fun b o e => Heap.get?_push_of_some _ e
  have ne : ∀ b o, s.heap.get? b = some o → b ≠ s.heap.objs.size := fun b o e => Nat.ne_of_lt (Heap.lt_size e)
  refine sub_loop hx hr hN hs hf (x.cps.size + 1) 0 0 #[] [] { s with heap := s.heap.push { cls := .type "list", data := .seq ([] : List Value).toArray } } (Nat.le_refl _) (Nat.zero_le _) ?_ ⟨0, Heap.get?_push_size _ rfl⟩ .nil (Nat.le_refl _) (Nat.le_refl _) ?_
  · intro h' hsb
    obtain ⟨fs, T, ws, n, h1, h2, h3, h4, h5, h6⟩ := hpat.ex
    exact ⟨fs, T, ws, n, hsb.extBut _ _ (ne _ _ h1) (kp _ _ h1), h2, h3, h4, hsb.extBut _ _ (ne _ _ h5) (kp _ _ h5), h6⟩
  · intro h' k t' hsb
    exact hQ h' k t' fun b o e => hsb.extBut _ _ (ne _ _ e) (kp _ _ e)
end
end Mine

end
section
open PySem
set_option Elab.async false
namespace Mine
abbrev T := List Nat
def ofL (l : T) : Str := ⟨l.toArray⟩
theorem ofL_cps (l : T) : (ofL l).cps = l.toArray := rfl
theorem ofL_toList (x : Str) : ofL x.cps.toList = x := by cases x; simp [ofL]
theorem ofL_inj {a b : T} (h : ofL a = ofL b) : a = b := by
  have := congrArg (fun x : Str => x.cps.toList) h
  simpa [ofL] using this

def crlf : T → T
  | [] => []
  | 13 :: 10 :: r => 13 :: 10 :: crlf r
  | c :: r => if c = 10 ∨ c = 13 then 13 :: 10 :: crlf r else c :: crlf r
def dots : Bool → T → T
  | _, [] => []
  | b, c :: r => if b = true ∧ c = 46 then 46 :: 46 :: dots false r else c :: dots (c == 10) r
def quoted (t : T) : T := dots true (crlf t)
end Mine
namespace Mine
/-- what _law_right hands back -/
def lawRight (role : Nat) (cs : List Int) (text : T) (place : Nat) (lone : Int) : List Int :=
  if role = 4 then [cs.getD 1 0] else
  let wi := role / 2 * 2
  match text.drop place with
  | [] => []
  | c :: r =>
    if (wi = 0 ∧ c = 41) ∨ (wi = 2 ∧ c = 34) then [] else
    if c = 46 ∧ role ≠ wi then [46, 46, cs.getD wi 0] else
    if c = 13 ∨ c = 10 then [13, 10, cs.getD (wi + 1) 0] else
    if c = 92 then (if r.headD 0 = 13 ∨ r.headD 0 = 10 then [92, 13, 10, cs.getD (wi + 1) 0] else [92, (r.headD 0 : Nat), cs.getD wi 0]) else
    if wi = 0 ∧ c = 40 then [40, cs.getD 0 0, 41, cs.getD 0 0] else
    if c = 34 ∧ (place : Int) ≠ lone then [34, cs.getD 2 0, 34, cs.getD 0 0] else
    [(c : Nat), cs.getD wi 0]
end Mine
namespace Mine
/-- the lines of a run: the text read so far, the pile from its top down without its end -/
abbrev Lines := List (T × List Int)
/-- a run of _law_read on text: n restarts at most; st is the pile from its top down, p the place, o what opened, ls the lines; b and ls' are handed back -/
inductive Go (text : T) (cs : List Int) : Nat → Int → List Int → Nat → Int → Lines → Bool → Lines → Prop
  | eof {n : Nat} {lone : Int} {st : List Int} {p : Nat} {o : Int} {ls : Lines} : Go text cs n lone (0 :: st) p o ls (decide (p = text.length)) ls
  | expand {n : Nat} {lone top : Int} {st : List Int} {p : Nat} {o : Int} {ls : Lines} {b : Bool} {ls' : Lines} (role : Nat) (h : 256 ≤ top) (hj : cs[role]? = some top) (hno : ∀ i < role, cs[i]? ≠ some top) (hr : role ≤ 4)
      (hend : ∀ x, text.drop p = 92 :: x → x ≠ []) (hst : st.length ≤ 900) (hls : ls.length ≤ 900) (hne : st ≠ [])
      (next : Go text cs n lone (lawRight role cs text p lone ++ st) p (if (lawRight role cs text p lone).length = 4 ∧ (lawRight role cs text p lone).headD 0 = 34 then (p : Int) else o)
        (ls ++ [(text.take p, (lawRight role cs text p lone ++ st).dropLast)]) b ls') : Go text cs n lone (top :: st) p o ls b ls'
  | eat {n : Nat} {lone : Int} {st : List Int} {p : Nat} {o : Int} {ls : Lines} {b : Bool} {ls' : Lines} (c : Nat) (h0 : 0 < c) (h : c < 256) (hat : text[p]? = some c) (next : Go text cs n lone st (p + 1) o ls b ls') : Go text cs n lone ((c : Int) :: st) p o ls b ls'
  | again {n : Nat} {lone : Int} {st : List Int} {p : Nat} {o : Int} {ls : Lines} {b : Bool} {ls' : Lines} (hp : p = text.length) (next : Go text cs n o [cs.getD 4 0, 0] 0 (-1) [] b ls') : Go text cs (n + 1) lone (34 :: st) p o ls b ls'
  | fail {n : Nat} {lone : Int} {st : List Int} {p : Nat} {o : Int} {ls : Lines} (c : Nat) (h0 : 0 < c) (h : c < 256) (h1 : text[p]? ≠ some c) (h2 : ¬ (p = text.length ∧ c = 34)) : Go text cs n lone ((c : Int) :: st) p o ls false ls
end Mine

end
section
open PySem PySem.W PySem.Calls PyProof.Rows PySem.Sre
set_option Elab.async false
set_option maxRecDepth 100000
namespace Mine
def flat (zs : List Str) : T := zs.flatMap fun z => z.cps.toList
theorem flat_cons (z : Str) (zs : List Str) : flat (z :: zs) = z.cps.toList ++ flat zs := rfl
theorem flat_append (a b : List Str) : flat (a ++ b) = flat a ++ flat b := by simp [flat]
theorem join_flat : ∀ zs : List Str, Txt.join Str.empty zs = ofL (flat zs)
  | [] => rfl
  | [a] => by
    show Builtin.Str.glued Str.empty [a] = _
    rw [StrLaws.glued_eq_join]
    show a = _
    rw [flat_cons, flat, List.flatMap_nil, List.append_nil, ofL_toList]
  | a :: b :: r => by
    have ih := join_flat (b :: r)
    have e : Txt.join Str.empty (b :: r) = Str.join Str.empty (b :: r) := StrLaws.glued_eq_join _ _
    rw [e] at ih
    show Builtin.Str.glued Str.empty (a :: b :: r) = _
    rw [StrLaws.glued_eq_join]
    show a ++ Str.empty ++ Str.join Str.empty (b :: r) = _
    rw [ih]
    rw [flat_cons a]
    apply Str.ext'
    show a.cps ++ #[] ++ (flat (b :: r)).toArray = _
    rw [ofL_cps]
    simp

theorem extract_mid (u a r : T) : (u ++ (a ++ r)).toArray.extract u.length (u.length + a.length) = a.toArray := by
  simp [List.extract_toArray, List.extract_eq_take_drop]
theorem getD_at (u r : T) (c : Nat) : (u ++ c :: r).toArray.getD u.length 0 = c := by simp
theorem getD_at1 (u r : T) (c d : Nat) : (u ++ c :: d :: r).toArray.getD (u.length + 1) 0 = d := by
  rw [show u ++ c :: d :: r = (u ++ [c]) ++ d :: r by simp, show u.length + 1 = (u ++ [c]).length by simp]
  exact getD_at _ _ _
theorem getD_last (u r : T) (c : Nat) : ((u ++ [c]) ++ r).toArray.getD ((u ++ [c]).length - 1) 0 = c := by simp

-- the ends of the rows
def nlAt : T → Option Nat
  | [] => none
  | c :: r => if c = 10 ∨ c = 13 then some 0 else (nlAt r).map (· + 1)
theorem find2_nlAt : ∀ (v u : T) (f : Nat), v.length < f → find2 (u ++ v).toArray f u.length = (nlAt v).map (· + u.length)
  | [], u, f + 1, _ => by
    unfold find2
    rw [if_pos (by simp)]; rfl
  | c :: r, u, f + 1, h => by
    unfold find2 nlAt
    rw [if_neg (by simp), getD_at]
    by_cases hc : c = 10 ∨ c = 13
    · rw [if_pos hc, if_pos hc]; simp
    · rw [if_neg hc, if_neg hc]
      have := find2_nlAt r (u ++ [c]) f (by simp at h; omega)
      rw [List.append_assoc] at this
      simp only [List.length_append, List.length_cons, List.length_nil, List.cons_append, List.nil_append, Nat.zero_add] at this
      rw [this]
      cases nlAt r <;> simp <;> omega
theorem crlf_none : ∀ v : T, nlAt v = none → crlf v = v
  | [], _ => rfl
  | c :: r, h => by
    unfold nlAt at h
    split at h
    · cases h
    · rename_i hc
      have hr : nlAt r = none := by simpa using h
      have ih := crlf_none r hr
      rw [crlf]
      · rw [if_neg hc, ih]
      · rintro r' rfl; exact fun _ => hc (.inr rfl)
theorem crlf_some : ∀ (v : T) (k : Nat), nlAt v = some k → ∃ a c r, v = a ++ c :: r ∧ a.length = k ∧ (c = 10 ∨ c = 13) ∧ crlf v = a ++ crlf (c :: r)
  | c :: r, k, h => by
    unfold nlAt at h
    split at h
    · rename_i hc
      cases h
      exact ⟨[], c, r, rfl, rfl, hc, rfl⟩
    · rename_i hc
      obtain ⟨j, hj, rfl⟩ := Option.map_eq_some_iff.mp h
      obtain ⟨a, c', r', e1, e2, e3, e4⟩ := crlf_some r j hj
      refine ⟨c :: a, c', r', by rw [e1]; rfl, by simp [e2], e3, ?_⟩
      rw [crlf]
      · rw [if_neg hc, e4]; rfl
      · rintro r' rfl; exact fun _ => hc (.inr rfl)

def fnd2 (t : Array Nat) (p : Nat) : Option (Nat × Nat) := (find2 t (t.size + 1 - p) p).map fun q => (q, q + len2 t q)
theorem pieces2 : ∀ (n : Nat) (u v : T) (f : Nat), v.length ≤ n → v.length < f → flat (pieces (fnd2 (u ++ v).toArray) (u ++ v).toArray (ofL [13, 10]) f u.length) = crlf v
  | n, u, v, f + 1, hn, hf => by
    have e1 : fnd2 (u ++ v).toArray u.length = (nlAt v).map fun k => (k + u.length, k + u.length + len2 (u ++ v).toArray (k + u.length)) := by
      unfold fnd2
      have : (u ++ v).toArray.size + 1 - u.length = v.length + 1 := by simp; omega
      rw [this, find2_nlAt v u _ (Nat.lt_succ_self _)]
      cases nlAt v <;> rfl
    unfold pieces
    rw [e1]
    cases hk : nlAt v with
    | none =>
      rw [crlf_none v hk]
      show flat (if u.length < (u ++ v).toArray.size then _ else _) = v
      by_cases hv : v = []
      · subst hv
        rw [if_neg (by simp)]; rfl
      · have hl : 0 < v.length := List.length_pos_iff.mpr hv
        rw [if_pos (by simp; omega)]
        have := extract_mid u v []
        rw [List.append_nil] at this
        have e2 : (u ++ v).toArray.size = u.length + v.length := by simp
        rw [e2, this]
        simp [flat]
    | some k =>
      obtain ⟨a, c, r, rfl, rfl, hc, e4⟩ := crlf_some v k hk
      show flat ((if u.length < a.length + u.length then _ else _) ++ _ :: pieces _ _ _ f (a.length + u.length + len2 _ _)) = _
      rw [e4, flat_append, flat_cons]
      have ea : flat (if u.length < a.length + u.length then [⟨(u ++ (a ++ c :: r)).toArray.extract u.length (a.length + u.length)⟩] else []) = a := by
        rw [Nat.add_comm a.length, extract_mid]
        cases a with
        | nil => simp [flat]
        | cons x a => simp [flat]
      rw [ea]
      congr 1
      have hq : a.length + u.length = (u ++ a).length := by simp; omega
      have hx : u ++ (a ++ c :: r) = (u ++ a) ++ c :: r := by simp
      rw [hq, hx]
      have hg := getD_at (u ++ a) r c
      have hlen : (a ++ c :: r).length = a.length + r.length + 1 := by simp; omega
      rw [hlen] at hn hf
      by_cases h2 : c = 13 ∧ ∃ r', r = 10 :: r'
      · obtain ⟨rfl, r', rfl⟩ := h2
        have el : len2 ((u ++ a) ++ 13 :: 10 :: r').toArray (u ++ a).length = 2 := by
          unfold len2
          rw [if_pos]
          exact ⟨hg, by simp <;> omega, getD_at1 _ _ _ _⟩
        rw [el]
        have e5 : (u ++ a).length + 2 = ((u ++ a) ++ [13, 10]).length := by simp <;> omega
        have e6 : (u ++ a) ++ 13 :: 10 :: r' = ((u ++ a) ++ [13, 10]) ++ r' := by simp
        rw [e5, e6]
        simp only [List.length_cons] at hn hf
        cases n with
        | zero => omega
        | succ n =>
          rw [pieces2 n _ r' f (by omega) (by omega)]
          rw [crlf]; rfl
      · have el : len2 ((u ++ a) ++ c :: r).toArray (u ++ a).length = 1 := by
          unfold len2
          rw [if_neg]
          rintro ⟨q1, q2, q3⟩
          rw [hg] at q1
          cases r with
          | nil => simp at q2; omega
          | cons d r' =>
            rw [getD_at1] at q3
            exact h2 ⟨q1, r', by rw [q3]⟩
        rw [el]
        have e5 : (u ++ a).length + 1 = ((u ++ a) ++ [c]).length := by simp <;> omega
        have e6 : (u ++ a) ++ c :: r = ((u ++ a) ++ [c]) ++ r := by simp
        rw [e5, e6]
        cases n with
        | zero => omega
        | succ n =>
          rw [pieces2 n _ r f (by omega) (by omega)]
          rw [crlf]
          · rw [if_pos hc]; rfl
          · rintro r' rfl rfl; exact h2 ⟨rfl, r', rfl⟩

-- the dots at the rows' beginnings
def bolB (u : T) : Bool := u.getLast?.all (· == 10)
theorem bolB_snoc (u : T) (c : Nat) : bolB (u ++ [c]) = (c == 10) := by simp [bolB]
theorem bol_iff (u v : T) : (u.length = 0 ∨ (u ++ v).toArray.getD (u.length - 1) 0 = 10) ↔ bolB u = true := by
  rcases List.eq_nil_or_concat u with rfl | ⟨u', c, rfl⟩
  · simp [bolB]
  · rw [List.concat_eq_append, bolB_snoc, getD_last]
    simp
def dotAt : Bool → T → Option Nat
  | _, [] => none
  | b, c :: r => if b = true ∧ c = 46 then some 0 else (dotAt (c == 10) r).map (· + 1)
theorem find1_dotAt : ∀ (v u : T) (f : Nat), v.length < f → find1 (u ++ v).toArray f u.length = (dotAt (bolB u) v).map (· + u.length)
  | [], u, f + 1, _ => by
    unfold find1
    rw [if_neg (by simp), if_neg (by simp)]; rfl
  | c :: r, u, f + 1, h => by
    unfold find1 dotAt
    have hb := bol_iff u (c :: r)
    by_cases hc : bolB u = true ∧ c = 46
    · rw [if_pos ⟨hb.mpr hc.1, by simp, (getD_at u r c).trans hc.2⟩, if_pos hc]; simp
    · rw [if_neg (fun q => hc ⟨hb.mp q.1, (getD_at u r c).symm.trans q.2.2⟩), if_neg hc, if_pos (by simp)]
      have := find1_dotAt r (u ++ [c]) f (by simp at h; omega)
      rw [List.append_assoc, bolB_snoc] at this
      simp only [List.length_append, List.length_cons, List.length_nil, List.cons_append, List.nil_append, Nat.zero_add] at this
      rw [this]
      cases dotAt (c == 10) r <;> simp <;> omega
theorem dots_none : ∀ (b : Bool) (v : T), dotAt b v = none → dots b v = v
  | _, [], _ => rfl
  | b, c :: r, h => by
    unfold dotAt at h
    split at h
    · cases h
    · rename_i hc
      have hr : dotAt (c == 10) r = none := by simpa using h
      rw [dots, if_neg hc, dots_none _ r hr]
theorem dots_some : ∀ (b : Bool) (v : T) (k : Nat), dotAt b v = some k → ∃ a r, v = a ++ 46 :: r ∧ a.length = k ∧ dots b v = a ++ 46 :: 46 :: dots false r
  | b, c :: r, k, h => by
    unfold dotAt at h
    split at h
    · rename_i hc
      cases h
      exact ⟨[], r, by rw [hc.2]; rfl, rfl, by rw [dots, if_pos hc]; rfl⟩
    · rename_i hc
      obtain ⟨j, hj, rfl⟩ := Option.map_eq_some_iff.mp h
      obtain ⟨a, r', e1, e2, e4⟩ := dots_some _ r j hj
      exact ⟨c :: a, r', by rw [e1]; rfl, by simp [e2], by rw [dots, if_neg hc, e4]; rfl⟩
def fnd1 (t : Array Nat) (p : Nat) : Option (Nat × Nat) := (find1 t (t.size + 1 - p) p).map fun q => (q, q + 1)
theorem pieces1 : ∀ (n : Nat) (u v : T) (f : Nat), v.length ≤ n → v.length < f → flat (pieces (fnd1 (u ++ v).toArray) (u ++ v).toArray (ofL [46, 46]) f u.length) = dots (bolB u) v
  | n, u, v, f + 1, hn, hf => by
    have e1 : fnd1 (u ++ v).toArray u.length = (dotAt (bolB u) v).map fun k => (k + u.length, k + u.length + 1) := by
      unfold fnd1
      have : (u ++ v).toArray.size + 1 - u.length = v.length + 1 := by simp; omega
      rw [this, find1_dotAt v u _ (Nat.lt_succ_self _)]
      cases dotAt (bolB u) v <;> rfl
    unfold pieces
    rw [e1]
    cases hk : dotAt (bolB u) v with
    | none =>
      rw [dots_none _ v hk]
      show flat (if u.length < (u ++ v).toArray.size then _ else _) = v
      by_cases hv : v = []
      · subst hv
        rw [if_neg (by simp)]; rfl
      · have hl : 0 < v.length := List.length_pos_iff.mpr hv
        rw [if_pos (by simp; omega)]
        have := extract_mid u v []
        rw [List.append_nil] at this
        have e2 : (u ++ v).toArray.size = u.length + v.length := by simp
        rw [e2, this]
        simp [flat]
    | some k =>
      obtain ⟨a, r, rfl, rfl, e4⟩ := dots_some _ v k hk
      show flat ((if u.length < a.length + u.length then _ else _) ++ _ :: pieces _ _ _ f (a.length + u.length + 1)) = _
      rw [e4, flat_append, flat_cons]
      have ea : flat (if u.length < a.length + u.length then [⟨(u ++ (a ++ 46 :: r)).toArray.extract u.length (a.length + u.length)⟩] else []) = a := by
        rw [Nat.add_comm a.length, extract_mid]
        cases a with
        | nil => simp [flat]
        | cons x a => simp [flat]
      rw [ea]
      congr 1
      have hlen : (a ++ 46 :: r).length = a.length + r.length + 1 := by simp; omega
      rw [hlen] at hn hf
      have e5 : a.length + u.length + 1 = (u ++ a ++ [46]).length := by simp; omega
      have e6 : u ++ (a ++ 46 :: r) = (u ++ a ++ [46]) ++ r := by simp
      rw [e5, e6]
      cases n with
      | zero => omega
      | succ n =>
        rw [pieces1 n _ r f (by omega) (by omega), bolB_snoc]
        rfl

theorem fnd2_ok {t : Array Nat} {p q e : Nat} (h : fnd2 t p = some (q, e)) : p ≤ q ∧ q < e ∧ e ≤ t.size := by
  unfold fnd2 at h
  obtain ⟨q, hj, hq⟩ := Option.map_eq_some_iff.mp h
  cases hq
  obtain ⟨a, b, _⟩ := find2_some hj
  by_cases hc : t.getD q 0 = 13 ∧ q + 1 < t.size ∧ t.getD (q + 1) 0 = 10
  · have e : len2 t q = 2 := by unfold len2; rw [if_pos hc]
    rw [e]; exact ⟨a, by omega, by omega⟩
  · have e : len2 t q = 1 := by unfold len2; rw [if_neg hc]
    rw [e]; exact ⟨a, by omega, by omega⟩
theorem find1_some {t : Array Nat} : ∀ {f s q : Nat}, find1 t f s = some q → s ≤ q ∧ q < t.size
  | 0, _, _, h => by cases h
  | f + 1, s, q, h => by
    unfold find1 at h
    split at h
    · rename_i h1; cases h; exact ⟨Nat.le_refl _, h1.2.1⟩
    · split at h
      · obtain ⟨a, b⟩ := find1_some h; exact ⟨by omega, b⟩
      · cases h
theorem fnd1_ok {t : Array Nat} {p q e : Nat} (h : fnd1 t p = some (q, e)) : p ≤ q ∧ q < e ∧ e ≤ t.size := by
  unfold fnd1 at h
  obtain ⟨j, hj, hq⟩ := Option.map_eq_some_iff.mp h
  cases hq
  obtain ⟨a, b⟩ := find1_some hj
  omega

section
variable {prog : Program} {w : World} {A : Around} {E : Value → Shared → Prop} {s : Shared}
/-- the rows' ends -/
theorem sub_crlf {pa : Addr} {l : T} {t tr : Tok} (hl : l.length ≤ 1000) (hpat : IsPat s.heap pa code2) {Q : Value → Shared → Prop}
    (hQ : ∀ h' k t', (∀ b o, s.heap.get? b = some o → h'.get? b = some o) → Q (.str (ofL (crlf l)) t') { s with heap := h', toks := k }) :
    wpAny (model prog w) A (call (.builtin "re.Pattern.sub") [.ref pa, .str (ofL [13, 10]) tr, .str (ofL l) t]) Q E s := by
  refine sub_call (fnd := fnd2 l.toArray) (N := 31) (by show l.toArray.size ≤ 1000; rw [List.size_toArray]; exact hl) (by decide) (by decide) (fun p hp => forSearch2 hp) (fun p q e h => fnd2_ok h) (by decide +kernel) hpat fun h' k t' hk => ?_
  rw [join_flat]
  have := pieces2 l.length [] l ((ofL l).cps.size + 1) (Nat.le_refl _) (by rw [ofL_cps, List.size_toArray]; omega)
  rw [List.nil_append] at this
  have e : flat (pieces (fnd2 l.toArray) (ofL l).cps (ofL [13, 10]) ((ofL l).cps.size + 1) 0) = crlf l := this
  have := hQ h' k t' hk
  rw [← e] at this
  exact this
/-- the dots -/
theorem sub_dots {pa : Addr} {l : T} {t tr : Tok} (hl : l.length ≤ 1000) (hpat : IsPat s.heap pa code1) {Q : Value → Shared → Prop}
    (hQ : ∀ h' k t', (∀ b o, s.heap.get? b = some o → h'.get? b = some o) → Q (.str (ofL (dots true l)) t') { s with heap := h', toks := k }) :
    wpAny (model prog w) A (call (.builtin "re.Pattern.sub") [.ref pa, .str (ofL [46, 46]) tr, .str (ofL l) t]) Q E s := by
  refine sub_call (fnd := fnd1 l.toArray) (N := 5 * (l.toArray.size + 1)) (by show l.toArray.size ≤ 1000; rw [List.size_toArray]; exact hl) (by decide) (by rw [List.size_toArray]; omega) (fun p hp => forSearch1 hp) (fun p q e h => fnd1_ok h) (by decide +kernel) hpat fun h' k t' hk => ?_
  rw [join_flat]
  have := pieces1 l.length [] l ((ofL l).cps.size + 1) (Nat.le_refl _) (by rw [ofL_cps, List.size_toArray]; omega)
  rw [List.nil_append] at this
  have e : flat (pieces (fnd1 l.toArray) (ofL l).cps (ofL [46, 46]) ((ofL l).cps.size + 1) 0) = dots true l := this
  have := hQ h' k t' hk
  rw [← e] at this
  exact this
end
end Mine

end
section
open PySem PySem.W PySem.Calls PyProof.Rows
set_option Elab.async false
set_option maxRecDepth 100000
namespace Mine
abbrev P : Program := PySem.Challenge.pw_sh0014_01
def Q : Program := view P [0, 2, 3, 4, 6, 7, 8, 9, 11, 12, 14, 15, 16, 17, 18, 20, 21, 22, 23, 24, 25, 26]
def stP (i : Nat) : Stmt := P.main.body.getD i default
def recOf : Stmt → DefRec
  | .FunctionDef n a b _ _ _ sc _ _ pos => ⟨n, a, b, sc, pos⟩
  | _ => ⟨default, default, [], default, default⟩
def rc (i : Nat) : DefRec := recOf (stP i)
def fnIdx : List Nat := [2, 3, 4, 9, 12, 16, 17, 18, 20, 21, 22, 23, 24, 25, 26]
theorem recs_Q : recsOf Q = fnIdx.map rc := by kernel_rfl

def tabL : List Int := [173, 847, 6150, 6155, 6156, 6157, 8203, 8204, 8205, 8288, 65279, 65024, 65025, 65026, 65027, 65028, 65029, 65030, 65031, 65032, 65033, 65034, 65035, 65036, 65037, 65038, 65039]
def inTab (k : Int) : Bool := tabL.contains k
/-- what of the text's own objects the walk reads; it stands at every later heap -/
structure Cx (w : World) (mg : Str → Option Value) (h : Heap) : Prop where
  g : h.Ns mainGlobals mg
  b : ∃ mb, h.Ns builtinsNs mb ∧ ∀ x : Str, x ≠ "__name__" → mb x = bootBuiltins x
  nolimit : h.NoLimit
  fn : ∀ i ∈ fnIdx, ∃ a o pm code doc, mg (rc i).name = some (.ref a) ∧ h.get? a = some o ∧ o.data = .func (docDef (rc i).name (rc i).params (rc i).body (rc i).scope pm code doc) ∧ h.CodeRec code (rc i).name
  free : ∀ x ∈ ([ "enumerate", "len", "ord", "chr", "sum", "list", "range"] : List Str), mg x = none
  crlf : ∃ t, mg "CRLF" = some (.str "\r\n" t)
  eof : ∃ t, mg "ENDMARKER" = some (.int 0 t)
  nt : ∃ t, mg "NT_OFFSET" = some (.int 256 t)
  re1 : ∃ a, mg "_twin_re_1" = some (.ref a) ∧ IsPat h a code1
  re2 : ∃ a, mg "_twin_re_2" = some (.ref a) ∧ IsPat h a code2
  b1 : ∃ a, mg "b1_set" = some (.ref a) ∧ h.SetOf (intKind P w) a inTab 27

theorem Cx.keeps {w : World} {mg : Str → Option Value} {h h' : Heap} (C : Cx w mg h) (hk : ∀ b o, h.get? b = some o → h'.get? b = some o) : Cx w mg h' where
  g := C.g.keeps hk
  b := let ⟨mb, h1, h2⟩ := C.b; ⟨mb, h1.keeps hk, h2⟩
  nolimit := C.nolimit.keeps hk
  fn := fun d hd => let ⟨a, o, pm, code, doc, h1, h2, h3, h4⟩ := C.fn d hd; ⟨a, o, pm, code, doc, h1, hk _ _ h2, h3, h4.keeps hk⟩
  free := C.free
  crlf := C.crlf
  eof := C.eof
  nt := C.nt
  re1 := let ⟨a, h1, h2⟩ := C.re1; ⟨a, h1, h2.keeps hk⟩
  re2 := let ⟨a, h1, h2⟩ := C.re2; ⟨a, h1, h2.keeps hk⟩
  b1 := let ⟨a, h1, o, es, ep, t, h2, r⟩ := C.b1; ⟨a, h1, o, es, ep, t, hk _ _ h2, r⟩

structure Room (A : Around) (d : Nat) : Prop where
  handled : A.handled = none
  depth : A.depth ≤ 301 + d
  units : A.units ≤ 4 + 50 * d
theorem Room.caller : Room callerA 0 := ⟨rfl, by decide, by decide⟩
theorem Room.lt {A : Around} {d : Nat} (r : Room A d) (hd : d ≤ 60 := by omega) : A.depth < recursionLimit := by have := r.depth; unfold recursionLimit; omega
theorem Room.un {A : Around} {d : Nat} (r : Room A d) (hd : d ≤ 60 := by omega) : A.units < cLine := by have := r.units; unfold cLine; omega
theorem Room.deeper {A : Around} {d : Nat} (r : Room A d) (env : Env) : Room (A.deeper env) (d + 1) := ⟨r.handled, by have := r.depth; show A.depth + 1 ≤ _; omega, by have := r.units; show A.units + 3 ≤ _; omega⟩
theorem Room.in1 {A : Around} {d : Nat} (r : Room A d) : Room A.in1 (d + 1) := ⟨r.handled, by have := r.depth; show A.depth ≤ _; omega, by have := r.units; show A.units + 1 ≤ _; omega⟩

structure Ext (s s' : Shared) : Prop where
  keep : ∀ b o, s.heap.get? b = some o → s'.heap.get? b = some o
  os : s'.os = s.os
  bare : AllBare s.gens → AllBare s'.gens
theorem Ext.refl (s : Shared) : Ext s s := ⟨fun _ _ e => e, rfl, id⟩
theorem Ext.trans {s s' s'' : Shared} (x : Ext s s') (y : Ext s' s'') : Ext s s'' := ⟨fun b o e => y.keep b o (x.keep b o e), y.os.trans x.os, fun b => y.bare (x.bare b)⟩

section
variable {w : World} {mg : Str → Option Value} {A : Around} {E : Value → Shared → Prop} {s : Shared} {h₀ : Heap} {L a : Addr} {m : Str → Option Value} {cn : Str} {cs : Scope} {ccd : Value}

theorem gname {x : Str} {pos : Pos} {v : Value} {Q : Value → Shared → Prop} (C : Cx w mg h₀) (F : Fr h₀ L s.heap m) (hv : mg x = some v) (h : Q v s)
    (hk : cs.kind = .function := by rfl) (hx : (envOf cn cs L a ccd).kindOf x = some .globalImplicit := by rfl) (hd : (x == ("__debug__" : Str)) = false := by decide) :
    wpAny (model P w) A (eval (.Name x pos) (envOf cn cs L a ccd)) Q E s := ld_global_at F C.g hv h hk hx hd
theorem bname {x : Str} {pos : Pos} {v : Value} {Q : Value → Shared → Prop} (C : Cx w mg h₀) (F : Fr h₀ L s.heap m) (hm : x ∈ ([ "enumerate", "len", "ord", "chr", "sum", "list", "range"] : List Str)) (hv : bootBuiltins x = some v) (h : Q v s)
    (hk : cs.kind = .function := by rfl) (hx : (envOf cn cs L a ccd).kindOf x = some .globalImplicit := by rfl) (hd : (x == ("__debug__" : Str)) = false := by decide) (hn : x ≠ "__name__" := by decide) :
    wpAny (model P w) A (eval (.Name x pos) (envOf cn cs L a ccd)) Q E s :=
  let ⟨_, hb, e⟩ := C.b
  ld_builtin_at F C.g (C.free _ hm) hb ((e x hn).trans hv) h hk hx hd
end


/-- a state: this heap, these tokens, all else as in b -/
def sh (h : Heap) (k : Nat) (b : Shared) : Shared := { b with heap := h, toks := k }
theorem sh_heap (h : Heap) (k : Nat) (b : Shared) : (sh h k b).heap = h := rfl
theorem sh_self (s : Shared) : sh s.heap s.toks s = s := rfl
abbrev Kp (h h' : Heap) : Prop := ∀ b o, h.get? b = some o → h'.get? b = some o
end Mine

end
section
open PySem PySem.W PySem.Calls PyProof.Rows
set_option Elab.async false
set_option maxRecDepth 100000
namespace Mine

section
variable {w : World} {mg : Str → Option Value} {A : Around} {E : Value → Shared → Prop} {s : Shared} {env : Env} {pos : Pos} {Q : Value → Shared → Prop}

theorem argB1 {id : String} {first : List Value} {e : Expr} (h : wpAny (model P w) A (eval e env) (fun v s₁ => wpAny (model P w) A (call (.builtin id) (first ++ [v])) Q E s₁) E s)
    (hs : backTo pos (starEach [e] env) = [(false, eval e env)] := by rfl) :
    wpAny (model P w) A (callWith pos (.builtin id) first (backTo pos (starEach [e] env)) []) Q E s := by
  rw [hs]
  exact callWith_builtin rfl (evalArgs_plain (spliced_cons (wpAny_mono h (fun v s₁ h₁ => spliced_nil h₁) fun _ _ x => x)))
theorem argB2 {id : String} {first : List Value} {e e' : Expr} (h : wpAny (model P w) A (eval e env) (fun v s₁ => wpAny (model P w) A (eval e' env) (fun v' s₂ => wpAny (model P w) A (call (.builtin id) (first ++ [v, v'])) Q E s₂) E s₁) E s)
    (hs : backTo pos (starEach [e, e'] env) = [(false, eval e env), (false, eval e' env)] := by rfl) :
    wpAny (model P w) A (callWith pos (.builtin id) first (backTo pos (starEach [e, e'] env)) []) Q E s := by
  rw [hs]
  exact callWith_builtin rfl (evalArgs_plain (spliced_cons (wpAny_mono h (fun v s₁ h₁ => spliced_cons (wpAny_mono h₁ (fun v' s₂ h₂ => spliced_nil h₂) fun _ _ x => x)) fun _ _ x => x)))
/-- a def of the text, called -/
theorem callF {a : Addr} {e : Expr} {rest : List Expr} (i : Nat) (C : Cx w mg s.heap) (hi : i ∈ fnIdx) (ha : mg (rc i).name = some (.ref a))
    (h : wpAny (model P w) A (spliced (backTo pos (starEach (e :: rest) env))) (fun vs s₁ => Kp s.heap s₁.heap ∧ codeAny (model P w) A (.call (.ref a) ⟨vs, []⟩) (wants Q E) s₁) E s)
    (he : backTo pos (starEach (e :: rest) env) = (false, eval e env) :: backTo pos (starEach rest env) := by rfl) :
    wpAny (model P w) A (callWith pos (.ref a) [] (backTo pos (starEach (e :: rest) env)) []) Q E s := by
  obtain ⟨a', o, pm, cd, doc, e1, e2, e3, e4⟩ := C.fn i hi
  obtain rfl : a' = a := Value.ref.inj (Option.some.inj (e1.symm.trans ha))
  rw [he] at h ⊢
  exact callWith_function (o := o) (fd := docDef (rc i).name (rc i).params (rc i).body (rc i).scope pm cd doc)
    (evalArgs_plain (wpAny_mono h (fun vs s₁ h₁ => ⟨⟨h₁.1 _ _ e2, e3⟩, wpAny_call h₁.2⟩) fun _ _ x => x))
/-- a def's body -/
theorem enter {R : Result → Shared → Prop} {d : Nat} {a : Addr} {args : List Value} (i : Nat) (C : Cx w mg s.heap) (r : Room A d) (hi : i ∈ fnIdx) (ha : mg (rc i).name = some (.ref a)) (hd : d ≤ 50)
    (hbind : ∀ pm cd doc, bindArgs (docDef (rc i).name (rc i).params (rc i).body (rc i).scope pm cd doc) ⟨args, []⟩ = pure (((rc i).params.args.map (·.arg)).zip args))
    (hloc : ((((rc i).params.args.map (·.arg)).zip args).all fun x => decide ((rc i).scope.names.lookup x.1 = some .local)) = true)
    (h : ∀ cd h₁ tk, Fr s.heap s.heap.objs.size h₁ (fun x => (((rc i).params.args.map (·.arg)).zip args).reverse.lookup x) → Room (A.deeper (envOf (rc i).name (rc i).scope s.heap.objs.size a cd)) (d + 1) →
      wpAny (model P w) (A.deeper (envOf (rc i).name (rc i).scope s.heap.objs.size a cd)) (execs (rc i).body (envOf (rc i).name (rc i).scope s.heap.objs.size a cd))
        (fun f s' => R (.ok (.ret (match f with | .ret v => v | _ => .none))) s') (fun _ _ => False) { s with heap := h₁, toks := tk })
    (hco : (rc i).scope.isCoroutine = false := by rfl) (hgen : (rc i).scope.isGenerator = false := by rfl) (hk : (rc i).scope.kind = .function := by rfl)
    (hcell : ∀ x ∈ (rc i).scope.names, x.2 ≠ .cell := by decide) :
    codeAny (model P w) A (.call (.ref a) ⟨args, []⟩) R s := by
  obtain ⟨a', o, pm, cd, doc, e1, e2, e3, e4⟩ := C.fn i hi
  obtain rfl : a' = a := Value.ref.inj (Option.some.inj (e1.symm.trans ha))
  exact call_pos_ret (r.lt (by omega)) e2 e3 C.nolimit e4 (hbind _ _ _) (locs hloc) (fun h₁ F => h cd h₁ _ F (r.deeper _)) hco hgen hk hcell
/-- a method of an object of a built-in type -/
theorem methT {T id : String} {o : Expr} {name : Str} {apos pos : Pos} {args : List Expr} (pa : PlainAttrs T) (slot : Slot T name id) (hty : typeOf (.builtin id) = pure (.type "method_descriptor"))
    (h : wpAny (model P w) A (eval o env) (fun ov s₁ => s₁.TypeIs ov T ∧ (∀ a, ov = .ref a → ∃ ob, s₁.heap.get? a = some ob ∧ ob.dict = none) ∧
      wpAny (model P w) A (callWith pos (.builtin id) [ov] (backTo pos (starEach args env)) []) Q E s₁) E s)
    (hbase : attributeBase o name env (eval o env) = eval o env := by rfl)
    (hfew : ((backTo pos (starEach args env)).all (fun x => !x.1) && (backToKw pos (keywordEach [] env)).all (fun x => x.1.isSome)
      && decide (args.length + ([] : List Keyword).length + (if ([] : List Keyword).isEmpty then 0 else 1) < 30)) = true := by rfl)
    (hline : (apos.endLine == pos.line) = true := by rfl) :
    wpAny (model P w) A (eval (.Call (.Attribute o name apos) args [] pos) env) Q E s := wpAny_Call_method hbase hfew hline pa slot hty h
end

section
variable {w : World} {mg : Str → Option Value} {A : Around} {d : Nat} {s : Shared} {a : Addr} {R : Result → Shared → Prop}
theorem isterm {n : Int} {t : Tok} (C : Cx w mg s.heap) (r : Room A d) (ha : mg "ISTERMINAL" = some (.ref a)) (hR : ∀ h' k', Kp s.heap h' → R (.ok (.ret (.bool (decide (n < 256))))) (sh h' k' s)) (hd : d ≤ 50 := by omega) :
    codeAny (model P w) A (.call (.ref a) ⟨[.int n t], []⟩) R s := by
  refine enter 16 C r (by decide) ha hd (fun _ _ _ => rfl) (by rfl) fun cd h₁ tk F r' => ?_
  obtain ⟨t', ht'⟩ := C.nt
  refine wpAny_execs_cons (wpAny_Return_some (wpAny_Compare1 (ld F rfl (gname C F ht' (lt_int ?_)))))
  exact hR _ _ F.keep
theorem isnonterm {n : Int} {t : Tok} (C : Cx w mg s.heap) (r : Room A d) (ha : mg "ISNONTERMINAL" = some (.ref a)) (hR : ∀ h' k', Kp s.heap h' → R (.ok (.ret (.bool (decide (n ≥ 256))))) (sh h' k' s)) (hd : d ≤ 50 := by omega) :
    codeAny (model P w) A (.call (.ref a) ⟨[.int n t], []⟩) R s := by
  refine enter 17 C r (by decide) ha hd (fun _ _ _ => rfl) (by rfl) fun cd h₁ tk F r' => ?_
  obtain ⟨t', ht'⟩ := C.nt
  refine wpAny_execs_cons (wpAny_Return_some (wpAny_Compare1 (ld F rfl (gname C F ht' (ge_int ?_)))))
  exact hR _ _ F.keep
theorem iseof {n : Int} {t : Tok} (C : Cx w mg s.heap) (r : Room A d) (ha : mg "ISEOF" = some (.ref a)) (hR : ∀ h' k', Kp s.heap h' → R (.ok (.ret (.bool (n == 0)))) (sh h' k' s)) (hd : d ≤ 50 := by omega) :
    codeAny (model P w) A (.call (.ref a) ⟨[.int n t], []⟩) R s := by
  refine enter 18 C r (by decide) ha hd (fun _ _ _ => rfl) (by rfl) fun cd h₁ tk F r' => ?_
  obtain ⟨t', ht'⟩ := C.eof
  refine wpAny_execs_cons (wpAny_Return_some (wpAny_Compare1 (ld F rfl (gname C F ht' (eq_int ?_)))))
  exact hR _ _ F.keep

theorem intab {c : Nat} {t : Tok} (C : Cx w mg s.heap) (r : Room A d) (ha : mg "in_table_b1" = some (.ref a)) (hR : ∀ h' k', Kp s.heap h' → R (.ok (.ret (.bool (inTab c)))) (sh h' k' s)) (hd : d ≤ 50 := by omega) :
    codeAny (model P w) A (.call (.ref a) ⟨[.str ⟨#[c]⟩ t], []⟩) R s := by
  refine enter 12 C r (by decide) ha hd (fun _ _ _ => rfl) (by rfl) fun cd h₁ tk F r' => ?_
  obtain ⟨b, hb, hS⟩ := (C.keeps F.keep).b1
  refine wpAny_execs_cons (wpAny_Return_some (wpAny_Compare1 (Call_Name rfl (bname C F (by decide) boot_ord (argB1 (ld F rfl (PySem.P.ord_of_char (gname C F hb (wpAny_inSet_of (S := inTab) (n := 27) (intKind_is _ _ _ _) rfl hS ?_)))))))))
  exact hR _ _ F.keep

theorem ofString_crlf : (PySem.Str.ofString "\r\n") = ofL [13, 10] := by decide +kernel
theorem ofString_dots : (PySem.Str.ofString "..") = ofL [46, 46] := by decide +kernel
theorem crlf_len : ∀ l : T, (crlf l).length ≤ 2 * l.length
  | [] => Nat.le_refl _
  | [c] => by
    rw [crlf]
    · split <;> simp [crlf]
    · rintro r rfl h; cases h
  | c :: d :: r => by
    by_cases h : c = 13 ∧ d = 10
    · obtain ⟨rfl, rfl⟩ := h
      rw [crlf]
      have := crlf_len r
      simp only [List.length_cons]; omega
    · rw [crlf]
      · have := crlf_len (d :: r)
        simp only [List.length_cons] at this ⊢
        split <;> simp only [List.length_cons] <;> omega
      · rintro r' rfl e; exact h ⟨rfl, (List.cons.inj e).1⟩
theorem quote {l : T} {t : Tok} (C : Cx w mg s.heap) (r : Room A d) (ha : mg "quotedata" = some (.ref a)) (hl : l.length ≤ 500) (hR : ∀ h' k' t', Kp s.heap h' → R (.ok (.ret (.str (ofL (quoted l)) t'))) (sh h' k' s)) (hd : d ≤ 50 := by omega) :
    codeAny (model P w) A (.call (.ref a) ⟨[.str (ofL l) t], []⟩) R s := by
  refine enter 9 C r (by decide) ha hd (fun _ _ _ => rfl) (by rfl) fun cd h₁ tk F r' => ?_
  obtain ⟨b1, hb1, hp1⟩ := C.re1
  obtain ⟨b2, hb2, hp2⟩ := C.re2
  obtain ⟨tc, htc⟩ := C.crlf
  have isP : ∀ {h : Heap} {b : Addr} {c : Array Nat} {s' : Shared}, IsPat h b c → Kp h s'.heap → s'.TypeIs (.ref b) "re.Pattern" ∧ ∀ a, Value.ref b = .ref a → ∃ ob, s'.heap.get? a = some ob ∧ ob.dict = none := by
    intro h b c s' hp hk
    obtain ⟨_, _, _, _, h1, _⟩ := hp.ex
    exact ⟨⟨_, hk _ _ h1, rfl⟩, fun a e => by cases e; exact ⟨_, hk _ _ h1, rfl⟩⟩
  refine wpAny_execs_cons (wpAny_Return_some (methT pa_pat lk_pat_sub ty_pat_sub (gname C F hb1 ?_)))
  refine ⟨(isP hp1 F.keep).1, (isP hp1 F.keep).2, argB2 (Constant_str ?_)⟩
  refine methT pa_pat lk_pat_sub ty_pat_sub (gname C F hb2 ?_)
  refine ⟨(isP hp2 F.keep).1, (isP hp2 F.keep).2, argB2 (gname C F htc (ld F rfl ?_))⟩
  rw [ofString_crlf, ofString_dots]
  refine sub_crlf (by omega) (hp2.keeps F.keep) fun h' k t' hk => ?_
  refine sub_dots (by have := crlf_len l; omega) ((hp1.keeps F.keep).keeps hk) fun h'' k' t'' hk' => ?_
  exact hR _ _ _ fun b o e => hk' _ _ (hk _ _ (F.keep _ _ e))
end
end Mine

end
section
open PySem PySem.W PySem.Calls PyProof.Rows PySem.Builtin PySem.Builtin.Str
set_option Elab.async false
set_option maxRecDepth 100000
namespace Mine
theorem ofL_eq (a b : T) : (ofL a == ofL b) = decide (a = b) := by
  by_cases h : a = b
  · subst h; simp
  · have : ofL a ≠ ofL b := fun e => h (ofL_inj e)
    rw [decide_eq_false h]
    simpa using this
theorem ofL_len (l : T) : (ofL l).length = l.length := by simp [ofL, PySem.Str.length]
theorem ofL_append (a b : T) : ofL a ++ ofL b = ofL (a ++ b) := by
  apply Str.ext'
  show a.toArray ++ b.toArray = (a ++ b).toArray
  simp
theorem idx_clip (i j n : Nat) : strSliceIndices (some (i : Int)) (some (j : Int)) 1 n = strSliceIndices (some ((min i n : Nat) : Int)) (some ((min j n : Nat) : Int)) 1 n := by
  unfold strSliceIndices
  have h1 : ¬ ((i : Int) < 0) := by omega
  have h2 : ¬ ((j : Int) < 0) := by omega
  have h3 : ¬ (((min i n : Nat) : Int) < 0) := by omega
  have h4 : ¬ (((min j n : Nat) : Int) < 0) := by omega
  simp only [show (1 : Int) > 0 by decide, if_true, h1, h2, h3, h4, if_false]
  congr 1 <;> omega
theorem slice_nat (l : T) {i j : Nat} (h : i ≤ j) : Txt.slice (ofL l) (some (i : Int)) (some (j : Int)) = ofL ((l.drop i).take (j - i)) := by
  have e : Txt.slice (ofL l) (some (i : Int)) (some (j : Int)) = Txt.slice (ofL l) (some ((min i l.length : Nat) : Int)) (some ((min j l.length : Nat) : Int)) := by
    unfold Txt.slice
    rw [ofL_len, idx_clip]
  rw [e]
  show StrLaws.sliceText (ofL l) _ _ = _
  have hl : (ofL l).cps.toList = l := rfl
  rw [StrLaws.sliceText_plain (by rw [hl]; omega), hl]
  show ofL ((l.drop (min i l.length)).take _) = _
  congr 1
  have e1 : ((min i l.length : Nat) : Int).toNat = min i l.length := by simp
  by_cases hi : i ≤ l.length
  · rw [Nat.min_eq_left hi]
    by_cases hj : j ≤ l.length
    · rw [Nat.min_eq_left hj]
      congr 1 <;> omega
    · rw [Nat.min_eq_right (by omega)]
      rw [List.take_of_length_le (by simp <;> omega), List.take_of_length_le (by simp <;> omega)]
  · rw [List.drop_eq_nil_of_le (by omega), List.drop_eq_nil_of_le (by omega)]; simp
theorem slice_upto (l : T) (j : Nat) : Txt.slice (ofL l) none (some (j : Int)) = ofL (l.take j) := by
  have e : Txt.slice (ofL l) none (some (j : Int)) = Txt.slice (ofL l) (some ((0 : Nat) : Int)) (some (j : Int)) := by
    unfold Txt.slice strSliceIndices
    simp only [show (1 : Int) > 0 by decide, if_true]
    rw [show (if ((0 : Nat) : Int) < 0 then ((0 : Nat) : Int) + ((ofL l).length : Int) else ((0 : Nat) : Int)) = 0 by simp]
    rw [show max 0 (min (0 : Int) ((ofL l).length : Int)) = 0 by omega]
  rw [e, slice_nat l (Nat.zero_le _)]
  simp
theorem slice_from (l : T) (i : Nat) : Txt.slice (ofL l) (some (i : Int)) none = ofL (l.drop i) := by
  have e : Txt.slice (ofL l) (some (i : Int)) none = Txt.slice (ofL l) (some (i : Int)) (some ((max i l.length : Nat) : Int)) := by
    unfold Txt.slice strSliceIndices
    simp only [show (1 : Int) > 0 by decide, if_true]
    rw [show (if ((max i l.length : Nat) : Int) < 0 then ((max i l.length : Nat) : Int) + ((ofL l).length : Int) else ((max i l.length : Nat) : Int)) = (max i l.length : Nat) by rw [if_neg (by omega)]]
    rw [ofL_len]
    rw [show max 0 (min ((max i l.length : Nat) : Int) (l.length : Int)) = (l.length : Int) by omega]
  rw [e, slice_nat l (Nat.le_max_left _ _), List.take_of_length_le (by simp; omega)]
theorem item_at {l : T} {p c : Nat} (h : l[p]? = some c) : (Txt.charAt (ofL l) (p : Int)).isSome = true ∧ Txt.item (ofL l) (p : Int) = ofL [c] := by
  have hp : p < l.length := by
    rcases Nat.lt_or_ge p l.length with q | q
    · exact q
    · rw [List.getElem?_eq_none q] at h; cases h
  have e : Txt.charAt (ofL l) (p : Int) = some c := by
    unfold Txt.charAt seqIndex?
    rw [ofL_len]
    have h1 : ¬ ((p : Int) < 0) := by omega
    simp only [h1, if_false]
    have hg : l[p] = c := by
      have := List.getElem?_eq_getElem hp
      rw [h] at this; exact (Option.some.inj this).symm
    simp [ofL, hp, hg]
  exact ⟨by rw [e]; rfl, by unfold Txt.item; rw [e]; rfl⟩

theorem in_crlf (d : Nat) : Txt.contains (ofL [13, 10]) (ofL [d]) = decide (d = 13 ∨ d = 10) := by
  unfold Txt.contains
  rw [show (ofL [d]) = (⟨#[d]⟩ : Str) from rfl, StrLaws.found_one]
  show decide (d ∈ [13, 10]) = _
  simp
end Mine

end
section
open PySem PySem.W PySem.Calls PyProof.Rows
set_option Elab.async false
set_option maxRecDepth 100000
namespace Mine

theorem ifT {b : Bool} {p q : Prop} (hb : b = true) (h : p) : if b = true then p else q := by rw [if_pos hb]; exact h
theorem ifF {b : Bool} {p q : Prop} (hb : b = false) (h : q) : if b = true then p else q := by rw [if_neg (by rw [hb]; decide)]; exact h
theorem szOf {n : Nat} (h : n ≤ 3000) : n ≤ sizeLine := by rw [show sizeLine = 16777216 from by decide]; omega
theorem szStr {l : T} (h : l.length ≤ 3000) : (ofL l).length ≤ sizeLine := by rw [ofL_len]; exact szOf h
theorem intsGet {vs : List Value} {ns : List Int} (h : IntsAre vs ns) : ∀ k, k < ns.length → ∃ t, vs[k]? = some (.int (ns.getD k 0) t) := by
  induction h with
  | nil => intro k hk; simp at hk
  | cons n t _ ih =>
    intro k hk
    cases k with
    | zero => exact ⟨t, rfl⟩
    | succ k => exact ih k (by simpa using hk)

theorem one_eq (c k : Nat) : decide ([c] = [k]) = decide (c = k) := by simp
theorem iz (i j : Nat) : ((i : Int) == (j : Int)) = decide (i = j) := by
  by_cases e : i = j
  · subst e; simp
  · rw [decide_eq_false e]; simpa using (show (i : Int) ≠ j by omega)
theorem iz' (i : Nat) (j : Int) : ((i : Int) == j) = decide ((i : Int) = j) := by
  by_cases e : (i : Int) = j
  · rw [e]; simp
  · rw [decide_eq_false e]; simpa using e
/-- all but the frame's locals -/
abbrev Kp' (L : Addr) (h h' : Heap) : Prop := ∀ b o, b ≠ L → h.get? b = some o → h'.get? b = some o
abbrev lk (l : List (Str × Value)) : Str → Option Value := fun x => l.lookup x

section
variable {w : World} {mg : Str → Option Value} {A : Around} {E : Value → Shared → Prop} {s : Shared} {env : Env} {pos p : Pos} {h : Heap} {k kk : Nat} {b : Shared}

theorem cInt {i : Int} {Q : Value → Shared → Prop} (H : ∀ t k', Q (.int i t) (sh h k' b)) : wpAny (model P w) A (eval (.Constant (.int i) kk pos) env) Q E (sh h k b) := wpAny_Constant_int (H _ _)
theorem cStr {x : Str} {Q : Value → Shared → Prop} (l : T) (H : ∀ t k', Q (.str (ofL l) t) (sh h k' b)) (hx : x = ofL l := by decide +kernel) : wpAny (model P w) A (eval (.Constant (.str x) kk pos) env) Q E (sh h k b) := by
  subst hx; exact Constant_str (H _ _)
theorem iAdd {i j : Int} {t u : Tok} {Q : Value → Shared → Prop} (H : ∀ t k', Q (.int (i + j) t) (sh h k' b)) : wpAny (model P w) A (binaryOp .Add (.int i t) (.int j u)) Q E (sh h k b) := add_int (H _ _)
theorem iNeg {i : Int} {t : Tok} {Q : Value → Shared → Prop} (H : ∀ t k', Q (.int (-i) t) (sh h k' b)) : wpAny (model P w) A (unaryOp .USub (.int i t)) Q E (sh h k b) := PyProof.Rows.neg_int (H _ _)
theorem iiAdd {i j : Int} {t u : Tok} {Q : Value → Shared → Prop} (H : ∀ t k', Q (.int (i + j) t) (sh h k' b)) : wpAny (model P w) A (inplaceOp .Add (.int i t) (.int j u)) Q E (sh h k b) := iadd_int (H _ _)
theorem iiSub {i j : Int} {t u : Tok} {Q : Value → Shared → Prop} (H : ∀ t k', Q (.int (i - j) t) (sh h k' b)) : wpAny (model P w) A (inplaceOp .Sub (.int i t) (.int j u)) Q E (sh h k b) := PyProof.Rows.isub_int (H _ _)
theorem iMulR {i j : Int} {t u : Tok} {Q : Value → Shared → Prop} (hj : Builtin.Int.intBits j ≤ 64) (H : ∀ t k', Q (.int (i * j) t) (sh h k' b)) : wpAny (model P w) A (binaryOp .Mult (.int i t) (.int j u)) Q E (sh h k b) :=
  PyProof.Rows.mul_int (H _ _) (.of_right hj)
theorem iMulL {i j : Int} {t u : Tok} {Q : Value → Shared → Prop} (hi : Builtin.Int.intBits i ≤ 64) (H : ∀ t k', Q (.int (i * j) t) (sh h k' b)) : wpAny (model P w) A (binaryOp .Mult (.int i t) (.int j u)) Q E (sh h k b) :=
  PyProof.Rows.mul_int (H _ _) (.of_left hi)
theorem iDiv {i j : Int} {t u : Tok} {Q : Value → Shared → Prop} (hj : j ≠ 0) (hp : Builtin.divisionGoesByPylong i j = false) (H : ∀ t k', Q (.int (i.fdiv j) t) (sh h k' b)) : wpAny (model P w) A (binaryOp .FloorDiv (.int i t) (.int j u)) Q E (sh h k b) :=
  floordiv_int hj (H _ _) (.inl hp)
theorem iMod {i j : Int} {t u : Tok} {Q : Value → Shared → Prop} (hj : j ≠ 0) (H : ∀ t k', Q (.int (i.fmod j) t) (sh h k' b)) : wpAny (model P w) A (binaryOp .Mod (.int i t) (.int j u)) Q E (sh h k b) :=
  PyProof.Rows.mod_int hj (H _ _)
theorem sAdd {x y : T} {t u : Tok} {Q : Value → Shared → Prop} (hz : x.length + y.length ≤ 3000) (H : ∀ t k', Q (.str (ofL (x ++ y)) t) (sh h k' b)) : wpAny (model P w) A (binaryOp .Add (.str (ofL x) t) (.str (ofL y) u)) Q E (sh h k b) :=
  PySem.SB.add (fun t' k' => by rw [ofL_append]; exact H t' k') (by rw [ofL_len, ofL_len]; exact szOf hz)
theorem sEq {x y : T} {t u : Tok} {Q : Value → Shared → Prop} (H : Q (.bool (decide (x = y))) (sh h k b)) : wpAny (model P w) A (compareOp .Eq (.str (ofL x) t) (.str (ofL y) u)) Q E (sh h k b) := by
  refine PyProof.Rows.eq_str ?_
  rw [ofL_eq]; exact H
theorem ordOf {c : Nat} {t : Tok} {Q : Value → Shared → Prop} (H : ∀ t k', Q (.int c t) (sh h k' b)) : wpAny (model P w) A (call (.builtin "ord") [.str (ofL [c]) t]) Q E (sh h k b) := PySem.P.ord_of_char (H _ _)
theorem chrOf {c : Nat} {t : Tok} {Q : Value → Shared → Prop} (hc : c ≤ 1114111) (H : ∀ t k', Q (.str (ofL [c]) t) (sh h k' b)) : wpAny (model P w) A (call (.builtin "chr") [.int c t]) Q E (sh h k b) :=
  PySem.P.chr_of_int (by rw [Bool.or_eq_false_iff]; exact ⟨decide_eq_false (by omega), decide_eq_false (by omega)⟩) (by rw [Int.toNat_natCast]; exact H _ _)
theorem sItem {x : T} {i c : Nat} {iI : Int} {t u : Tok} {Q : Value → Shared → Prop} (hi : iI = i) (hc : x[i]? = some c) (hz : x.length ≤ 3000) (H : ∀ t k', Q (.str (ofL [c]) t) (sh h k' b)) : ItemOn (model P w) A E (.str (ofL x) t) (.int iI u) Q (sh h k b) := by
  subst hi
  have hlt : i < x.length := by
    rcases Nat.lt_or_ge i x.length with q | q
    · exact q
    · rw [List.getElem?_eq_none q] at hc; cases hc
  obtain ⟨h1, h2⟩ := item_at hc
  refine SB.item (by unfold fitsSsize; rw [Bool.not_eq_true', Bool.or_eq_false_iff]; exact ⟨decide_eq_false (by omega), decide_eq_false (by omega)⟩) h1 ?_
  rw [h2]; exact H _ _
/-- an item of a list of ints -/
theorem lItem {value slice : Expr} {lc : Addr} {vs : List Value} {ns : List Int} {i : Nat} {iI : Int} {t : Tok} {Q : Value → Shared → Prop} (hi : iI = i) (hL : h.IsList lc vs.toArray) (hn : IntsAre vs ns) (hk : i < ns.length) (hz : ns.length ≤ 1000)
    (H : ∀ u, Q (.int (ns.getD i 0) u) (sh h k b))
    (hs : subscripted slice false (.ref lc) (.int iI t) = operate [.ref lc, .int iI t] (getItem (.ref lc) (.int iI t)) := by with_unfolding_all rfl) (ht : ∀ r, letTemporaryGo value (.ref lc) r = pure () := by intro _; with_unfolding_all rfl) :
    wpAny (model P w) A (subscriptTail value slice (.ref lc) (.int iI t)) Q E (sh h k b) := by
  subst hi
  obtain ⟨u, hu⟩ := intsGet hn i hk
  exact subscriptTail_builtin (Heap.IsList.typeIs (s := sh h k b) hL) slot_list_getitem.lookup (wpAny_getItem_list (s := sh h k b) hL (by omega) (by omega) (by simpa using hu) (H u)) hs ht
/-- a list display's end -/
theorem dList {elts : List Expr} {Q : Value → Shared → Prop}
    (H : wpAny (model P w) A (spliced (backTo pos (starEach elts env))) (fun vs s₁ => vs.length ≤ 3000 ∧ ∃ h₁ k₁, s₁ = sh h₁ k₁ b ∧ Q (.ref h₁.objs.size) (sh (h₁.push { cls := .type "list", data := .seq vs.toArray }) k₁ b)) E (sh h k b)) : wpAny (model P w) A (eval (.List elts pos) env) Q E (sh h k b) :=
  wpAny_List (wpAny_mono H (fun vs s₁ ⟨h1, h₁, k₁, e, h2⟩ => ⟨szOf h1, by subst e; exact h2⟩) fun _ _ x => x)

/-- a test that leaves the heap alone -/
def Tst (w : World) (A : Around) (env : Env) (h : Heap) (b : Shared) (x : Expr) (v : Bool) : Prop :=
  ∀ (Q : Bool → Shared → Prop) (E : Value → Shared → Prop) (k : Nat), (∀ k', Q v (sh h k' b)) → wpAny (model P w) A (isTrue x env (eval x env)) Q E (sh h k b)
theorem Tst.eq {x : Expr} {v v' : Bool} (t : Tst w A env h b x v) (e : v = v') : Tst w A env h b x v' := e ▸ t
def TstA (w : World) (A : Around) (env : Env) (h : Heap) (b : Shared) (op : BoolOp) (xs : List Expr) (v : Bool) : Prop :=
  ∀ (Q : Bool → Shared → Prop) (E : Value → Shared → Prop) (k : Nat), (∀ k', Q v (sh h k' b)) → wpAny (model P w) A (allTrue op xs env) Q E (sh h k b)
theorem TstA.nilAnd : TstA w A env h b .And [] true := fun _ _ _ H => wpAny_allTrue_And_nil (H _)
theorem TstA.nilOr : TstA w A env h b .Or [] false := fun _ _ _ H => wpAny_allTrue_Or_nil (H _)
theorem TstA.and {x : Expr} {xs : List Expr} {v u : Bool} (t : Tst w A env h b x v) (r : v = true → TstA w A env h b .And xs u) : TstA w A env h b .And (x :: xs) (v && u) := fun Q E k H =>
  wpAny_allTrue_And_cons (t _ _ _ fun k' => by
    cases v with
    | true => exact ifT rfl (r rfl _ _ _ H)
    | false => exact ifF rfl (H k'))
theorem TstA.or {x : Expr} {xs : List Expr} {v u : Bool} (t : Tst w A env h b x v) (r : v = false → TstA w A env h b .Or xs u) : TstA w A env h b .Or (x :: xs) (v || u) := fun Q E k H =>
  wpAny_allTrue_Or_cons (t _ _ _ fun k' => by
    cases v with
    | true => exact ifT rfl (H k')
    | false => exact ifF rfl (r rfl _ _ _ H))
theorem TstA.tst {op : BoolOp} {xs : List Expr} {v : Bool} (t : TstA w A env h b op xs v) : Tst w A env h b (.BoolOp op xs pos) v := fun Q E k H => wpAny_isTrue_BoolOp (t Q E k H)
theorem Tst.and2 {x y : Expr} {v u : Bool} (t : Tst w A env h b x v) (r : v = true → Tst w A env h b y u) : Tst w A env h b (.BoolOp .And [x, y] pos) (v && u) :=
  (TstA.tst (.and t fun e => .and (r e) fun _ => .nilAnd)).eq (by simp)
theorem Tst.or2 {x y : Expr} {v u : Bool} (t : Tst w A env h b x v) (r : v = false → Tst w A env h b y u) : Tst w A env h b (.BoolOp .Or [x, y] pos) (v || u) :=
  (TstA.tst (.or t fun e => .or (r e) fun _ => .nilOr)).eq (by simp)
theorem Tst.or3 {x y z : Expr} {v u q : Bool} (t : Tst w A env h b x v) (r : v = false → Tst w A env h b y u) (o : u = false → Tst w A env h b z q) : Tst w A env h b (.BoolOp .Or [x, y, z] pos) (v || (u || q)) :=
  (TstA.tst (.or t fun e => .or (r e) fun e' => .or (o e') fun _ => .nilOr)).eq (by simp)
theorem iFd {x : Expr} {p : Prop} [Decidable p] {body orelse : List Stmt} {Q : Flow → Shared → Prop} (t : Tst w A env h b x (decide p))
    (H₁ : p → ∀ k', wpAny (model P w) A (execs body env) Q E (sh h k' b)) (H₂ : ¬p → ∀ k', wpAny (model P w) A (execs orelse env) Q E (sh h k' b)) : wpAny (model P w) A (exec (.If x body orelse pos) env) Q E (sh h k b) :=
  wpAny_If (t _ _ _ fun k' => by
    by_cases hp : p
    · exact ifT (decide_eq_true hp) (H₁ hp k')
    · exact ifF (decide_eq_false hp) (H₂ hp k'))
theorem Tst.not {x : Expr} {v : Bool} (t : Tst w A env h b x v) : Tst w A env h b (.UnaryOp .Not x pos) (!v) := fun _ _ _ H => wpAny_isTrue_Not (t _ _ _ fun k' => H k')
theorem iF {x : Expr} {v : Bool} {body orelse : List Stmt} {Q : Flow → Shared → Prop} (t : Tst w A env h b x v)
    (H : ∀ k', if v = true then wpAny (model P w) A (execs body env) Q E (sh h k' b) else wpAny (model P w) A (execs orelse env) Q E (sh h k' b)) : wpAny (model P w) A (exec (.If x body orelse pos) env) Q E (sh h k b) :=
  wpAny_If (t _ _ _ H)
end

section
variable {w : World} {mg : Str → Option Value} {A : Around} {E : Value → Shared → Prop} {h₀ h : Heap} {L a : Addr} {l : List (Str × Value)} {m : Str → Option Value} {cn : Str} {cs : Scope} {ccd : Value} {k : Nat} {b : Shared}

theorem vN {x : Str} {pos : Pos} {v : Value} {Q : Value → Shared → Prop} (F : Fr h₀ L h m) (hv : m x = some v) (H : Q v (sh h k b))
    (hk : cs.kind = .function := by rfl) (hl : (envOf cn cs L a ccd).kindOf x = some .local := by rfl) (hd : (x == ("__debug__" : Str)) = false := by decide) :
    wpAny (model P w) A (eval (.Name x pos) (envOf cn cs L a ccd)) Q E (sh h k b) := ld (s := sh h k b) F hv H hk hl hd
theorem vL {x : Str} {v : Value} {Q : Value → Shared → Prop} (F : Fr h₀ L h m) (hv : m x = some v) (H : Q v (sh h k b))
    (hk : cs.kind = .function := by rfl) (hl : (envOf cn cs L a ccd).kindOf x = some .local := by rfl) :
    wpAny (model P w) A (loadName (envOf cn cs L a ccd) x) Q E (sh h k b) := ldn (s := sh h k b) F hv H hk hl
theorem vG {x : Str} {pos : Pos} {v : Value} {Q : Value → Shared → Prop} (C : Cx w mg h₀) (F : Fr h₀ L h m) (hv : mg x = some v) (H : Q v (sh h k b))
    (hk : cs.kind = .function := by rfl) (hx : (envOf cn cs L a ccd).kindOf x = some .globalImplicit := by rfl) (hd : (x == ("__debug__" : Str)) = false := by decide) :
    wpAny (model P w) A (eval (.Name x pos) (envOf cn cs L a ccd)) Q E (sh h k b) := gname (s := sh h k b) C F hv H hk hx hd
theorem vB {x : Str} {pos : Pos} {v : Value} {Q : Value → Shared → Prop} (C : Cx w mg h₀) (F : Fr h₀ L h m) (hv : bootBuiltins x = some v) (H : Q v (sh h k b)) (hm : x ∈ ([ "enumerate", "len", "ord", "chr", "sum", "list", "range"] : List Str) := by decide)
    (hk : cs.kind = .function := by rfl) (hx : (envOf cn cs L a ccd).kindOf x = some .globalImplicit := by rfl) (hd : (x == ("__debug__" : Str)) = false := by decide) (hn : x ≠ "__name__" := by decide) :
    wpAny (model P w) A (eval (.Name x pos) (envOf cn cs L a ccd)) Q E (sh h k b) := bname (s := sh h k b) C F hm hv H hk hx hd hn

theorem lk_cons (l : List (Str × Value)) (x : Str) (v : Value) : (fun y => if y = x then some v else lk l y) = lk ((x, v) :: l) := by
  funext y
  show _ = List.lookup y ((x, v) :: l)
  rw [List.lookup_cons]
  by_cases hy : y = x
  · subst hy; simp
  · rw [if_neg hy, show (y == x) = false by simpa using hy]
theorem stL {x : Str} {v : Value} {Q : Unit → Shared → Prop} (F : Fr h₀ L h (lk l))
    (H : ∀ h' k', Fr h₀ L h' (lk ((x, v) :: l)) → Kp' L h h' → Q () (sh h' k' b))
    (hk : cs.kind = .function := by rfl) (hl : (envOf cn cs L a ccd).kindOf x = some .local := by rfl) :
    wpAny (model P w) A (storeName (envOf cn cs L a ccd) x v) Q E (sh h k b) :=
  wpAny_storeName_local (s := sh h k b) hl F.ns (fun h' hn hs => H h' _ (lk_cons l x v ▸ F.set hn hs) (fun b o hb e => hs.extBut b o hb e))
    (by show (cs.kind == .class || (cs.kind == .module && L != mainGlobals)) = false; rw [hk]; rfl)
/-- a name stored -/
def set (m : Str → Option Value) (x : Str) (v : Value) : Str → Option Value := fun y => bif y == x then some v else m y
theorem stS {x : Str} {v : Value} {Q : Unit → Shared → Prop} (F : Fr h₀ L h m)
    (H : ∀ h' k', Fr h₀ L h' (set m x v) → Kp' L h h' → Q () (sh h' k' b))
    (hk : cs.kind = .function := by rfl) (hl : (envOf cn cs L a ccd).kindOf x = some .local := by rfl) :
    wpAny (model P w) A (storeName (envOf cn cs L a ccd) x v) Q E (sh h k b) :=
  wpAny_storeName_local (s := sh h k b) hl F.ns (fun h' hn hs => H h' _ (by
      have e : (fun y => if y = x then some v else m y) = set m x v := by
        funext y
        show _ = bif y == x then some v else m y
        by_cases hy : y = x
        · subst hy; simp
        · rw [if_neg hy, show (y == x) = false by simpa using hy]; rfl
      exact e ▸ F.set hn hs) (fun b o hb e => hs.extBut b o hb e))
    (by show (cs.kind == .class || (cs.kind == .module && L != mainGlobals)) = false; rw [hk]; rfl)
theorem tEqLit {n x : Str} {pos p p2 : Pos} {kk : Nat} {y : T} {t : Tok} (F : Fr h₀ L h m) (hv : m n = some (.str (ofL y) t)) (z : T)
    (hx : x = ofL z := by decide +kernel) (hk : cs.kind = .function := by rfl) (hl : (envOf cn cs L a ccd).kindOf n = some .local := by rfl) (hd : (n == ("__debug__" : Str)) = false := by decide) :
    Tst w A (envOf cn cs L a ccd) h b (.Compare (.Name n pos) [.Eq] [.Constant (.str x) kk p] p2) (decide (y = z)) := fun Q E k H =>
  wpAny_isTrue_Compare1 (vN F hv (cStr z (fun t k' => sEq (wpAny_truthy_bool (H k'))) hx) hk hl hd)
theorem tEqInt {n : Str} {pos p p2 : Pos} {kk : Nat} {i j : Int} {t : Tok} (F : Fr h₀ L h m) (hv : m n = some (.int i t))
    (hk : cs.kind = .function := by rfl) (hl : (envOf cn cs L a ccd).kindOf n = some .local := by rfl) (hd : (n == ("__debug__" : Str)) = false := by decide) :
    Tst w A (envOf cn cs L a ccd) h b (.Compare (.Name n pos) [.Eq] [.Constant (.int j) kk p] p2) (i == j) := fun Q E k H =>
  wpAny_isTrue_Compare1 (vN F hv (cInt fun t k' => eq_int (wpAny_truthy_bool (H k'))) hk hl hd)
theorem tNeName {n n' : Str} {pos p p2 : Pos} {i j : Int} {t t' : Tok} (F : Fr h₀ L h m) (hv : m n = some (.int i t)) (hv' : m n' = some (.int j t'))
    (hk : cs.kind = .function := by rfl) (hl : (envOf cn cs L a ccd).kindOf n = some .local := by rfl) (hd : (n == ("__debug__" : Str)) = false := by decide)
    (hl' : (envOf cn cs L a ccd).kindOf n' = some .local := by rfl) (hd' : (n' == ("__debug__" : Str)) = false := by decide) :
    Tst w A (envOf cn cs L a ccd) h b (.Compare (.Name n pos) [.NotEq] [.Name n' p] p2) (i != j) := fun Q E k H =>
  wpAny_isTrue_Compare1 (vN F hv (vN F hv' (ne_int (wpAny_truthy_bool (H _))) hk hl' hd') hk hl hd)

theorem KpS {P : Heap → Prop} (hF : ∀ h, P h → ∀ o, P (h.push o)) : KeptH P := fun h o x => hF h x o
theorem sliceSS {x : T} {i j : Nat} {iI jI : Int} {t ui uj : Tok} {Q : Value → Shared → Prop} (F : Fr h₀ L h m) (hi : iI = i) (hj : jI = j) (hij : i ≤ j) (hz : x.length ≤ 2000)
    (H : ∀ h' t' k', Fr h₀ L h' m → Kp h h' → Q (.str (ofL ((x.drop i).take (j - i))) t') (sh h' k' b)) :
    ItemOn (model P w) A E (.str (ofL x) t) (.ref h.objs.size) Q (sh (h.push { cls := .type "slice", data := .fields #[.int iI ui, .int jI uj, .none] }) k b) := by
  subst hi hj
  exact SBH.sliceItem_ss (s := sh h k b) (P := fun h' => Fr h₀ L h' m ∧ Kp h h') (fun h ob x => ⟨x.1.push ob, fun b o e => Heap.get?_push_of_some _ (x.2 b o e)⟩) ⟨F, fun _ _ e => e⟩ (fun h' t' k' hp => by
    rw [slice_nat x hij]; exact H h' t' k' hp.1 hp.2) (szStr (by omega))
theorem sliceNS {x : T} {j : Nat} {jI : Int} {t uj : Tok} {Q : Value → Shared → Prop} (F : Fr h₀ L h m) (hj : jI = j) (hz : x.length ≤ 2000)
    (H : ∀ h' t' k', Fr h₀ L h' m → Kp h h' → Q (.str (ofL (x.take j)) t') (sh h' k' b)) :
    ItemOn (model P w) A E (.str (ofL x) t) (.ref h.objs.size) Q (sh (h.push { cls := .type "slice", data := .fields #[.none, .int jI uj, .none] }) k b) := by
  subst hj
  exact SBH.sliceItem_ns (s := sh h k b) (P := fun h' => Fr h₀ L h' m ∧ Kp h h') (fun h ob x => ⟨x.1.push ob, fun b o e => Heap.get?_push_of_some _ (x.2 b o e)⟩) ⟨F, fun _ _ e => e⟩ (fun h' t' k' hp => by
    rw [slice_upto x j]; exact H h' t' k' hp.1 hp.2) (szStr (by omega))
theorem sliceSN {x : T} {i : Nat} {iI : Int} {t ui : Tok} {Q : Value → Shared → Prop} (F : Fr h₀ L h m) (hi : iI = i) (hz : x.length ≤ 2000)
    (H : ∀ h' t' k', Fr h₀ L h' m → Kp h h' → Q (.str (ofL (x.drop i)) t') (sh h' k' b)) :
    ItemOn (model P w) A E (.str (ofL x) t) (.ref h.objs.size) Q (sh (h.push { cls := .type "slice", data := .fields #[.int iI ui, .none, .none] }) k b) := by
  subst hi
  exact SBH.sliceItem_sn (s := sh h k b) (P := fun h' => Fr h₀ L h' m ∧ Kp h h') (fun h ob x => ⟨x.1.push ob, fun b o e => Heap.get?_push_of_some _ (x.2 b o e)⟩) ⟨F, fun _ _ e => e⟩ (fun h' t' k' hp => by
    rw [slice_from x i]; exact H h' t' k' hp.1 hp.2) (szStr (by omega))
/-- a def's body -/
theorem enterS {R : Result → Shared → Prop} {s : Shared} {d : Nat} {args : List Value} (i : Nat) (C : Cx w mg s.heap) (r : Room A d) (hi : i ∈ fnIdx) (ha : mg (rc i).name = some (.ref a)) (hd : d ≤ 50)
    (hbind : ∀ pm cd doc, bindArgs (docDef (rc i).name (rc i).params (rc i).body (rc i).scope pm cd doc) ⟨args, []⟩ = pure (((rc i).params.args.map (·.arg)).zip args))
    (hloc : ((((rc i).params.args.map (·.arg)).zip args).all fun x => decide ((rc i).scope.names.lookup x.1 = some .local)) = true)
    (l : List (Str × Value)) (hl : (((rc i).params.args.map (·.arg)).zip args).reverse = l)
    (h : ∀ cd h₁ tk, Fr s.heap s.heap.objs.size h₁ (lk l) → Room (A.deeper (envOf (rc i).name (rc i).scope s.heap.objs.size a cd)) (d + 1) →
      wpAny (model P w) (A.deeper (envOf (rc i).name (rc i).scope s.heap.objs.size a cd)) (execs (rc i).body (envOf (rc i).name (rc i).scope s.heap.objs.size a cd))
        (fun f s' => R (.ok (.ret (match f with | .ret v => v | _ => .none))) s') (fun _ _ => False) (sh h₁ tk s))
    (hco : (rc i).scope.isCoroutine = false := by rfl) (hgen : (rc i).scope.isGenerator = false := by rfl) (hk : (rc i).scope.kind = .function := by rfl)
    (hcell : ∀ x ∈ (rc i).scope.names, x.2 ≠ .cell := by decide) :
    codeAny (model P w) A (.call (.ref a) ⟨args, []⟩) R s := by
  subst hl
  exact enter i C r hi ha hd hbind hloc (fun cd h₁ tk F r' => h cd h₁ tk F r') hco hgen hk hcell
end

section
variable {w : World} {A : Around} {E : Value → Shared → Prop} {R : Result → Shared → Prop} {s : Shared} {env : Env}
theorem whileOnce {test : Expr} {body orelse : List Stmt}
    (H : wpAny (model P w) A (isTrue test env (eval test env)) (fun b s₂ =>
        if b = true then wpAny (model P w) A (execs body env) (fun f s₃ => match f with
            | .next | .cont => codeAny (model P w) A (.whileLoop test body orelse env) R s₃
            | .brk => R (.ok .next) s₃
            | .ret v => R (.ok (.ret v)) s₃) (fun _ _ => False) s₂
        else wpAny (model P w) A (execs orelse env) (fun f s₃ => R (.ok f) s₃) (fun _ _ => False) s₂) (fun _ _ => False) s) :
    codeAny (model P w) A (.whileLoop test body orelse env) R s := by
  refine codeAny_of_tree ?_
  show wpAny _ A ((whileTurn test body orelse env).onRaise (fun x => do noteFrame x env; theTreesLotGoes x)) _ _ s
  refine wpAny_onRaise (E := fun e s' => R (.error e) s') ?_
  simp only [whileTurn]
  refine wpAny_bind (wpAny_mono H (fun b s₂ h₂ => ?_) fun _ _ x => x.elim)
  cases b with
  | false =>
    rw [if_neg Bool.false_ne_true] at h₂ ⊢
    exact wpAny_bind (wpAny_mono h₂ (fun f s₃ h₃ => wpAny_pure h₃) fun _ _ x => x.elim)
  | true =>
    rw [if_pos rfl] at h₂ ⊢
    refine wpAny_bind (wpAny_mono h₂ (fun f s₃ h₃ => ?_) fun _ _ x => x.elim)
    cases f with
    | next => exact wpAny_pure ⟨rfl, h₃⟩
    | cont => exact wpAny_pure ⟨rfl, h₃⟩
    | brk => exact wpAny_pure h₃
    | ret v => exact wpAny_pure h₃
theorem forOnce {target : Expr} {it : Value} {body orelse : List Stmt}
    (H : wpAny (model P w) A (pyNext it) (fun r s₁ => match r with
      | none => wpAny (model P w) A (execs orelse env) (fun f s₃ => R (.ok f) s₃) (fun _ _ => False) s₁
      | some v => wpAny (model P w) A (letOwnedTupleGo target it v) (fun _ s₁' =>
          wpAny (model P w) A (assign target env v) (fun _ s₂ => wpAny (model P w) A (execs body env) (fun f s₃ => match f with
            | .next | .cont => codeAny (model P w) A (.forLoop target it body orelse env) R s₃
            | .brk => R (.ok .next) s₃
            | .ret v => R (.ok (.ret v)) s₃) (fun _ _ => False) s₂) (fun _ _ => False) s₁') (fun _ _ => False) s₁) (fun _ _ => False) s) :
    codeAny (model P w) A (.forLoop target it body orelse env) R s := by
  refine codeAny_of_tree ?_
  show wpAny _ A ((forTurn target it body orelse env).onRaise (fun x => do noteFrame x env; theTreesLotGoes x)) _ _ s
  refine wpAny_onRaise (E := fun e s' => R (.error e) s') ?_
  simp only [forTurn]
  refine wpAny_bind (wpAny_standAt (wpAny_bind (wpAny_onRaise (wpAny_mono H (fun r s₁ h₁ => ?_) fun _ _ x => x.elim))))
  cases r with
  | none => exact wpAny_pure ⟨rfl, codeAny_block (wpAny_mono h₁ (fun _ _ x => x) fun _ _ x => x.elim)⟩
  | some v =>
    refine wpAny_bind (wpAny_mono h₁ (fun _ s₁' h₁' => ?_) fun _ _ x => x.elim)
    refine wpAny_bind (wpAny_mono h₁' (fun _ s₂ h₂ => wpAny_bind (wpAny_mono h₂ (fun f s₃ h₃ => ?_) fun _ _ x => x.elim)) fun _ _ x => x.elim)
    cases f with
    | next => exact wpAny_pure ⟨rfl, h₃⟩
    | cont => exact wpAny_pure ⟨rfl, h₃⟩
    | brk => exact wpAny_pure h₃
    | ret v => exact wpAny_pure h₃
/-- a while statement -/
theorem whileS {test : Expr} {body orelse : List Stmt} {pos : Pos} {Q : Flow → Shared → Prop}
    (H : codeAny (model P w) A (.whileLoop test body orelse env) (fun r s' => match r with | .ok f => Q f s' | .error _ => False) s) : wpAny (model P w) A (exec (.While test body orelse pos) env) Q E s :=
  wpAny_While (codeAny_mono H fun r s' q => by cases r with | ok f => exact q | error e => exact q.elim)
end
end Mine

end
section
open PySem PySem.W PySem.Calls PyProof.Rows
set_option Elab.async false
set_option maxRecDepth 100000
namespace Mine

theorem pick_rev0 (items : Array Value) : slicePick items none (some 0) (some (-1)) = (items.toList.drop 1).reverse.toArray := by
  unfold slicePick
  have hb : sliceBounds none (some 0) (some (-1)) items.size = ((items.size : Int) - 1, max (-1) (min 0 ((items.size : Int) - 1)), -1) := by
    unfold sliceBounds
    simp
  rw [hb]
  show ((sliceRange ((items.size : Int) - 1) (max (-1) (min 0 ((items.size : Int) - 1))) (-1)).filterMap (items[·]?)).toArray = _
  congr 1
  have e : sliceRange ((items.size : Int) - 1) (max (-1) (min 0 ((items.size : Int) - 1))) (-1) = ((List.range (items.size - 1)).map (· + 1)).reverse := by
    unfold sliceRange
    have h1 : ¬ ((-1 : Int) > 0) := by decide
    simp only [h1, if_false]
    by_cases h : items.size ≤ 1
    · have : ¬ ((items.size : Int) - 1 > max (-1) (min 0 ((items.size : Int) - 1))) := by omega
      rw [if_neg this, show items.size - 1 = 0 by omega]
      rfl
    · have h2 : (items.size : Int) - 1 > max (-1) (min 0 ((items.size : Int) - 1)) := by omega
      rw [if_pos h2]
      have h3 : (((items.size : Int) - 1 - max (-1) (min 0 ((items.size : Int) - 1)) - -1 - 1) / - -1) = ((items.size - 1 : Nat) : Int) := by
        rw [show (- -1 : Int) = 1 by decide, Int.ediv_one]; omega
      rw [h3, Int.toNat_natCast]
      apply List.ext_getElem
      · simp
      · intro i q1 q2
        simp at q1 q2
        simp
        omega
  rw [e, List.filterMap_reverse]
  congr 1
  apply List.ext_getElem?
  intro i
  rw [List.filterMap_map]
  have : ∀ n, n ≤ items.size - 1 → ((List.range n).filterMap fun j => items[j + 1]?) = (items.toList.drop 1).take n := by
    intro n
    induction n with
    | zero => intro _; simp
    | succ n ih =>
      intro hn
      rw [List.range_succ, List.filterMap_append, ih (by omega)]
      have hlt : n + 1 < items.size := by omega
      rw [List.take_add_one]
      congr 1
      simp [hlt, Nat.add_comm 1 n]
  have t := this _ (Nat.le_refl _)
  rw [show (List.filterMap ((fun x => items[x]?) ∘ fun x => x + 1) (List.range (items.size - 1))) = _ from t]
  rw [List.take_of_length_le (by simp)]

section
variable {w : World} {mg : Str → Option Value} {A : Around} {E : Value → Shared → Prop} {env : Env} {pos p : Pos} {h : Heap} {k kk : Nat} {b : Shared}

theorem fresh_ne {D x : Addr} {o : Obj} (hD : h.objs.size ≤ D) (hx : h.get? x = some o) : x ≠ D := Nat.ne_of_lt (Nat.lt_of_lt_of_le (Heap.lt_size hx) hD)

theorem lSl {value slice : Expr} {D : Addr} {items : Array Value} {vl vu vs : Value} {lo hi st : Option Int} {Q : Value → Shared → Prop} (hD : h.IsList D items) (pl : IsPart vl lo) (pu : IsPart vu hi) (ps : IsPart vs st) (h0 : st ≠ some 0) (hz : items.size ≤ 3000)
    (H : ∀ D' h' k', h'.PlainList D' (slicePick items lo hi st) → Kp h h' → h.objs.size ≤ D' → Q (.ref D') (sh h' k' b))
    {ops : List Value} (hs : subscripted slice false (.ref D) (.ref h.objs.size) = operate ops (getItem (.ref D) (.ref h.objs.size))) (ht : ∀ r, letTemporaryGo value (.ref D) r = pure ()) :
    wpAny (model P w) A (subscriptTail value slice (.ref D) (.ref h.objs.size)) Q E (sh (h.push { cls := .type "slice", data := .fields #[vl, vu, vs] }) k b) := by
  refine subscriptTail_ops (Heap.IsList.typeIs (s := sh (h.push { cls := .type "slice", data := .fields #[vl, vu, vs] }) k b) (hD.push _)) list_getitem_lookup
    (wpAny_getItem_list_slice (s := sh (h.push { cls := .type "slice", data := .fields #[vl, vu, vs] }) k b) (hD.push _) (Heap.IsSliceOf.new ..) pl pu ps h0 ?_ (szOf hz)) hs ht
  refine H _ _ _ ⟨0, Heap.get?_push_size _ rfl⟩ (fun b o e => Heap.get?_push_of_some _ (Heap.get?_push_of_some _ e)) ?_
  show h.objs.size ≤ (h.push _).objs.size
  rw [Heap.size_push]; exact Nat.le_succ _

theorem lenL {D : Addr} {items : Array Value} {Q : Value → Shared → Prop} (hD : h.IsList D items) (hz : items.size ≤ 3000) (H : ∀ t k', Q (.int items.size t) (sh h k' b)) : wpAny (model P w) A (call (.builtin "len") [.ref D]) Q E (sh h k b) :=
  call_len_list (s := sh h k b) hD (by omega) (H _ _)
theorem lenS {x : T} {t : Tok} {Q : Value → Shared → Prop} (hz : x.length ≤ 3000) (H : ∀ t k', Q (.int x.length t) (sh h k' b)) : wpAny (model P w) A (call (.builtin "len") [.str (ofL x) t]) Q E (sh h k b) := by
  refine PyProof.Rows.len_str (by rw [ofL_len]; omega) ?_
  rw [ofL_len]; exact H _ _

/-- a method of a list -/
theorem mL {o : Expr} {name : Str} {id : String} {apos : Pos} {args : List Expr} {Q : Value → Shared → Prop} (slot : Slot "list" name id) (hty : typeOf (.builtin id) = pure (.type "method_descriptor"))
    (H : wpAny (model P w) A (eval o env) (fun ov s₁ => ∃ D xs h₁ k₁, ov = .ref D ∧ s₁ = sh h₁ k₁ b ∧ h₁.PlainList D xs ∧
      wpAny (model P w) A (callWith pos (.builtin id) [.ref D] (backTo pos (starEach args env)) []) Q E (sh h₁ k₁ b)) E (sh h k b))
    (hbase : attributeBase o name env (eval o env) = eval o env := by rfl)
    (hfew : ((backTo pos (starEach args env)).all (fun x => !x.1) && (backToKw pos (keywordEach [] env)).all (fun x => x.1.isSome)
      && decide (args.length + ([] : List Keyword).length + (if ([] : List Keyword).isEmpty then 0 else 1) < 30)) = true := by rfl)
    (hline : (apos.endLine == pos.line) = true := by rfl) :
    wpAny (model P w) A (eval (.Call (.Attribute o name apos) args [] pos) env) Q E (sh h k b) := by
  refine methT PySem.F.plainAttrs_list slot hty (wpAny_mono H (fun ov s₁ q => ?_) fun _ _ x => x) hbase hfew hline
  obtain ⟨D, xs, h₁, k₁, rfl, rfl, hp, hc⟩ := q
  obtain ⟨n, hn⟩ := hp
  exact ⟨⟨_, hn, rfl⟩, fun a e => by cases e; exact ⟨_, hn, rfl⟩, hc⟩
theorem lPop {D : Addr} {xs : Array Value} {y : Value} {Q : Value → Shared → Prop} (hD : h.PlainList D (xs.push y)) (hz : xs.size ≤ 2000) (H : ∀ h' k', h'.PlainList D xs → Heap.SameBut D h h' → Q y (sh h' k' b)) :
    wpAny (model P w) A (callWith pos (.builtin "list.pop") [.ref D] (backTo pos (starEach [] env)) []) Q E (sh h k b) := by
  obtain ⟨n, hn⟩ := hD
  have e : (xs.push y).eraseIdxIfInBounds ((xs.push y).size - 1) = xs := by
    rw [Array.size_push, Nat.add_sub_cancel]
    apply Array.ext'
    unfold Array.eraseIdxIfInBounds
    rw [dif_pos (by simp)]
    simp [List.eraseIdx_append_of_length_le]
  have q2 := PySem.IsL.update (h := h) (l := D) (items := xs.push y) (n := n) hn fun zs => zs.eraseIdxIfInBounds ((xs.push y).size - 1)
  rw [e] at q2
  exact PySem.P.pop_list (s := sh h k b) (l := D) (items := xs.push y) (n := n) hn (by simp) (H _ _ ⟨_, q2⟩ (Heap.SameBut.update ..)) (by rw [Array.size_push]; exact szOf (by omega))
theorem lExtend {D : Addr} {e : Expr} {Q : Value → Shared → Prop}
    (H : wpAny (model P w) A (eval e env) (fun v s₁ => ∃ B xs ys h₁ k₁, v = .ref B ∧ s₁ = sh h₁ k₁ b ∧ h₁.PlainList D xs ∧ h₁.PlainList B ys ∧ xs.size + ys.size ≤ 2000 ∧
      (∀ h₂ k₂, h₂.PlainList D (xs ++ ys) → Heap.SameBut D h₁ h₂ → Q .none (sh h₂ k₂ b))) E (sh h k b))
    (hs : backTo pos (starEach [e] env) = [(false, eval e env)] := by rfl) :
    wpAny (model P w) A (callWith pos (.builtin "list.extend") [.ref D] (backTo pos (starEach [e] env)) []) Q E (sh h k b) := by
  rw [hs]
  refine PySem.P.extend_list (wpAny_mono H (fun v s₁ q => ?_) fun _ _ x => x)
  obtain ⟨B, xs, ys, h₁, k₁, rfl, rfl, ⟨n, h1⟩, ⟨n', h2⟩, hz, hq⟩ := q
  refine ⟨B, xs, ys, n, n', szOf (by omega), Nat.le_succ_of_le (szOf (by omega)), ?_, rfl, h1, h2, hq _ _ ⟨_, PySem.IsL.update h1 _⟩ (Heap.SameBut.update ..)⟩
  rw [Bool.and_eq_true]
  rintro ⟨_, q⟩
  unfold Builtin.List.listTooLong at q
  exact absurd (of_decide_eq_true q) (Nat.not_lt.mpr (szOf (by omega)))
theorem lAppend {D : Addr} {e : Expr} {Q : Value → Shared → Prop}
    (H : wpAny (model P w) A (eval e env) (fun v s₁ => ∃ xs h₁ k₁, s₁ = sh h₁ k₁ b ∧ h₁.PlainList D xs ∧ xs.size ≤ 2000 ∧
      (∀ h₂ k₂, h₂.PlainList D (xs.push v) → Heap.SameBut D h₁ h₂ → Q .none (sh h₂ k₂ b))) E (sh h k b))
    (hs : backTo pos (starEach [e] env) = [(false, eval e env)] := by rfl) :
    wpAny (model P w) A (callWith pos (.builtin "list.append") [.ref D] (backTo pos (starEach [e] env)) []) Q E (sh h k b) := by
  rw [hs]
  refine PySem.P.append_list (wpAny_mono H (fun v s₁ q => ?_) fun _ _ x => x)
  obtain ⟨xs, h₁, k₁, rfl, ⟨n, h1⟩, hz, hq⟩ := q
  exact ⟨xs, n, szOf (by omega), h1, hq _ _ ⟨_, PySem.IsL.update h1 _⟩ (Heap.SameBut.update ..)⟩

/-- the place of an int in a list of ints -/
theorem lIndex {D : Addr} {e : Expr} {Q : Value → Shared → Prop}
    (H : wpAny (model P w) A (eval e env) (fun v s₁ => ∃ vs ns n t h₁ k₁ j, v = .int n t ∧ s₁ = sh h₁ k₁ b ∧ h₁.PlainList D vs ∧ IntsAre vs.toList ns ∧ ns.length ≤ 1000 ∧ ns[j]? = some n ∧ (∀ i, i < j → ns[i]? ≠ some n) ∧
      (∀ t' k₂, Q (.int (j : Nat) t') (sh h₁ k₂ b))) E (sh h k b))
    (hs : backTo pos (starEach [e] env) = [(false, eval e env)] := by rfl) :
    wpAny (model P w) A (callWith pos (.builtin "list.index") [.ref D] (backTo pos (starEach [e] env)) []) Q E (sh h k b) := by
  rw [hs]
  refine PySem.P.index_list (wpAny_mono H (fun v s₁ q => ?_) fun _ _ x => x)
  obtain ⟨vs, ns, n, t, h₁, k₁, j, rfl, rfl, ⟨ep, h1⟩, hi, hz, hj, hno, hq⟩ := q
  have hlen : vs.toList.length = ns.length := by rw [hi.length]
  have hjl : j < ns.length := by
    rcases Nat.lt_or_ge j ns.length with q | q
    · exact q
    · rw [List.getElem?_eq_none q] at hj; cases hj
  have at_ : ∀ i (hi' : i < vs.size), ∃ u, vs[i] = .int (ns.getD i 0) u := by
    intro i hi'
    have hil : i < ns.length := by rw [← hlen]; simpa using hi'
    obtain ⟨u, hu⟩ := intsGet hi i hil
    refine ⟨u, ?_⟩
    have q := List.getElem?_eq_getElem (l := vs.toList) (i := i) (by simpa using hi')
    rw [hu] at q
    simpa using (Option.some.inj q).symm
  have hjs : j < vs.size := by
    have : vs.toList.length = vs.size := by simp
    omega
  have getD_of : ∀ i, i < ns.length → ns[i]? = some (ns.getD i 0) := by
    intro i hi'
    rw [List.getElem?_eq_getElem hi', List.getD_eq_getElem?_getD, List.getElem?_eq_getElem hi']; rfl
  refine ⟨vs, ep, isInt n, j, hjs, h1, fun y hy => eq_isInt n t hi y (by simpa using hy), by omega, ?_, fun i him hij => ?_, hq _ _⟩
  · obtain ⟨u, hu⟩ := at_ j hjs
    rw [hu]
    have := getD_of j hjl
    rw [hj] at this
    show (ns.getD j 0 == n) = true
    rw [← Option.some.inj this]; simp
  · obtain ⟨u, hu⟩ := at_ i him
    rw [hu]
    have hil : i < ns.length := by
      have : vs.toList.length = vs.size := by simp
      omega
    have q := hno i hij
    rw [getD_of i hil] at q
    show (ns.getD i 0 == n) = false
    have : ns.getD i 0 ≠ n := fun e => q (by rw [e])
    simpa using this
/-- a tuple display's end -/
theorem dTup {elts : List Expr} {Q : Value → Shared → Prop}
    (H : wpAny (model P w) A (spliced (backTo pos (starEach elts env))) (fun vs s₁ => vs.length ≤ 3000 ∧ ∃ h₁ k₁, s₁ = sh h₁ k₁ b ∧ Q (.ref h₁.objs.size) (sh (h₁.push { cls := .type "tuple", data := .seq vs.toArray }) k₁ b)) E (sh h k b)) : wpAny (model P w) A (eval (.Tuple elts kk pos) env) Q E (sh h k b) :=
  wpAny_Tuple (wpAny_mono H (fun vs s₁ ⟨h1, h₁, k₁, e, h2⟩ => ⟨szOf h1, by subst e; exact h2⟩) fun _ _ x => x)
end
end Mine

end
section
open PySem PySem.W PySem.Calls PyProof.Rows
set_option Elab.async false
set_option maxRecDepth 100000
namespace Mine
/-- the end of a list display of ints, handed back -/
theorem retInts {R : Result → Shared → Prop} {s₀ : Shared} {h : Heap} {k : Nat} {us : List Value} {ns : List Int} (hK : Kp s₀.heap h) (hi : IntsAre us ns)
    (hR : ∀ h' k' D us, Kp s₀.heap h' → h'.PlainList D (List.toArray us) → IntsAre us ns → s₀.heap.get? D = none → R (.ok (.ret (.ref D))) (sh h' k' s₀)) :
    R (.ok (.ret (.ref h.objs.size))) (sh (h.push { cls := .type "list", data := .seq us.toArray }) k s₀) := by
  refine hR _ _ _ us (fun b o e => Heap.get?_push_of_some _ (hK _ _ e)) ⟨_, Heap.get?_push_size _ rfl⟩ hi ?_
  cases e : s₀.heap.get? h.objs.size with
  | none => rfl
  | some o => exact absurd (Heap.lt_size (hK _ _ e)) (Nat.lt_irrefl _)
theorem bl1 (wi c : Nat) : (decide ([c] = []) || (((wi : Int) == 0) && decide ([c] = [41]) || ((wi : Int) == 2) && decide ([c] = [34]))) = decide ((wi = 0 ∧ c = 41) ∨ (wi = 2 ∧ c = 34)) := by
  rw [Bool.eq_iff_iff]; simp; omega
theorem bl2 (role wi c : Nat) : (decide ([c] = [46]) && ((role : Int) != (wi : Int))) = decide (c = 46 ∧ role ≠ wi) := by
  rw [Bool.eq_iff_iff]; simp; omega
theorem bl3 (c : Nat) : (decide ([c] = [13]) || decide ([c] = [10])) = decide (c = 13 ∨ c = 10) := by
  rw [Bool.eq_iff_iff]; simp
theorem bl4 (c d : Nat) : (decide ([c] = [92]) && decide (d = 13 ∨ d = 10)) = decide (c = 92 ∧ (d = 13 ∨ d = 10)) := by
  rw [Bool.eq_iff_iff]; simp
theorem bl5 (wi c : Nat) : (((wi : Int) == 0) && decide ([c] = [40])) = decide (wi = 0 ∧ c = 40) := by
  rw [Bool.eq_iff_iff]; simp
theorem bl6 (pl c : Nat) (lone : Int) : (decide ([c] = [34]) && ((pl : Int) != lone)) = decide (c = 34 ∧ (pl : Int) ≠ lone) := by
  rw [Bool.eq_iff_iff]; simp

section
variable {w : World} {A : Around} {h₀ h : Heap} {L a : Addr} {l : List (Str × Value)} {cn : Str} {cs : Scope} {ccd : Value} {b : Shared}
theorem tInNl {n1 n2 : Str} {p1 p2 p3 p4 p5 p6 p7 : Pos} {kk kk' : Nat} {x : T} {t u : Tok} {i e : Nat} (F : Fr h₀ L h (lk l)) (h1 : lk l n1 = some (.str (ofL x) t)) (h2 : lk l n2 = some (.int i u)) (hat : x[i + 1]? = some e) (hz : x.length ≤ 3000)
    (hk : cs.kind = .function := by rfl) (hl : (envOf cn cs L a ccd).kindOf n1 = some .local := by rfl) (hd : (n1 == ("__debug__" : Str)) = false := by decide)
    (hl2 : (envOf cn cs L a ccd).kindOf n2 = some .local := by rfl) (hd2 : (n2 == ("__debug__" : Str)) = false := by decide) :
    Tst w A (envOf cn cs L a ccd) h b (.Compare (.Subscript (.Name n1 p1) (.BinOp (.Name n2 p2) .Add (.Constant (.int 1) kk p3) p4) p5) [.In] [.Constant (.str "\r\n") kk' p6] p7) (decide (e = 13 ∨ e = 10)) := by
  intro Q E k H
  refine wpAny_isTrue_Compare1 (Subscript_BinOp (vN F h1 (wpAny_BinOp (vN F h2 (cInt fun t k => iAdd fun t k => ?_) hk hl2 hd2)) hk hl hd))
  refine sItem (i := i + 1) (by omega) hat hz fun t k => cStr [13, 10] fun t k => PyProof.Rows.in_str ?_
  have q := in_crlf e
  unfold Txt.contains at q
  rw [q]
  exact wpAny_truthy_bool (H _)
end
section
variable {w : World} {mg : Str → Option Value} {A : Around} {d : Nat} {s : Shared} {a : Addr} {R : Result → Shared → Prop}
set_option maxHeartbeats 1000000 in
theorem right {role place : Nat} {lone : Int} {l : T} {cs : List Int} {lc : Addr} {vs : List Value} {t1 t2 t3 t4 : Tok}
    (C : Cx w mg s.heap) (r : Room A d) (ha : mg "_law_right" = some (.ref a)) (hL : s.heap.IsList lc vs.toArray) (hi : IntsAre vs cs) (hc : 4 ≤ cs.length) (hcz : cs.length ≤ 1000) (hrole : role ≤ 4) (hplace : place ≤ l.length)
    (hend : ∀ x, l.drop place = 92 :: x → x ≠ []) (hl : l.length ≤ 500)
    (hR : ∀ h' k' D us, Kp s.heap h' → h'.PlainList D (List.toArray us) → IntsAre us (lawRight role cs l place lone) → s.heap.get? D = none → R (.ok (.ret (.ref D))) (sh h' k' s)) (hd : d ≤ 50 := by omega) :
    codeAny (model P w) A (.call (.ref a) ⟨[.int role t1, .ref lc, .str (ofL l) t2, .int place t3, .int lone t4], []⟩) R s := by
  refine enterS 22 C r (by decide) ha hd (fun _ _ _ => rfl) (by rfl) [("lone", .int lone t4), ("place", .int place t3), ("text", .str (ofL l) t2), ("codes", .ref lc), ("role", .int role t1)] rfl fun cd h₁ tk F r' => ?_
  refine wpAny_execs_cons (iFd ((tEqInt F rfl).eq (iz role 4)) (fun h4 k => ?_) fun h4 k => wpAny_execs_nil ?_)
  · skip
    refine wpAny_execs_cons (wpAny_Return_some (dList (wpAny_items_cons (Subscript_ (vN F rfl (cInt fun t k => ?_))))))
    refine lItem (i := 1) rfl (hL.at fun o e => F.keep _ _ e) hi (by omega) hcz fun u => ?_
    refine wpAny_items_nil ⟨by show 1 ≤ 3000; decide, _, _, rfl, ?_⟩
    have e : lawRight role cs l place lone = [cs.getD 1 0] := by unfold lawRight; rw [if_pos h4]
    rw [e] at hR
    exact retInts F.keep (.cons _ _ .nil) hR
  · obtain ⟨wi, hwi, hwv⟩ : ∃ wi, wi = role / 2 * 2 ∧ (wi = 0 ∨ wi = 2) := ⟨_, rfl, by omega⟩
    have ew : ((role : Int).fdiv 2 * 2) = (wi : Int) := by
      have : (role : Int).fdiv 2 = ((role / 2 : Nat) : Int) := by
        rw [Int.fdiv_eq_ediv_of_nonneg _ (by omega)]; omega
      rw [this]; omega
    refine wpAny_execs_cons (wpAny_Assign_Name (wpAny_BinOp (wpAny_BinOp (vN F rfl (cInt fun t k => iDiv (by decide) (PyProof.noPylong_of_log2 (by decide +kernel)) fun t k => cInt fun t k => iMulR (by decide +kernel) fun t k => ?_)))))
    rw [ew]
    refine stL F fun h₂ k F₂ _ => ?_
    refine wpAny_execs_cons (wpAny_Assign_Name (Subscript_Slice (vN F₂ rfl (wpAny_Slice (evalPart_some_step (vN F₂ rfl (evalPart_some_step (wpAny_BinOp (vN F₂ rfl (cInt fun t k => iAdd fun t k => evalPart_none_step ?_))))))))))
    refine sliceSS (i := place) (j := place + 1) F₂ rfl (by omega) (Nat.le_succ place) (by omega) fun h₃ t' k F₃ _ => ?_
    refine stL F₃ fun h₄ k F₄ _ => ?_
    have hL₄ : h₄.IsList lc vs.toArray := hL.at fun o e => F₄.keep _ _ e
    have out : ∀ {h' : Heap} {k : Nat} {us : List Value} {ns : List Int}, Kp h₄ h' → IntsAre us ns → lawRight role cs l place lone = ns →
        R (.ok (.ret (.ref h'.objs.size))) (sh (h'.push { cls := .type "list", data := .seq us.toArray }) k s) := by
      intro h' k us ns h1 h4 h5
      exact retInts (fun b o e => h1 _ _ (F₄.keep _ _ e)) (h5 ▸ h4) hR
    have cw : wi < cs.length := by omega
    have cw1 : wi + 1 < cs.length := by omega
    cases hdr : l.drop place with
    | nil =>
      have e0 : lawRight role cs l place lone = [] := by unfold lawRight; rw [if_neg h4, hdr]
      rw [show List.take (place + 1 - place) (List.drop place l) = [] by rw [hdr]; simp] at F₄
      refine wpAny_execs_cons (iF (Tst.or3 (tEqLit F₄ rfl []) (fun _ => Tst.and2 (tEqInt F₄ rfl) fun _ => tEqLit F₄ rfl [41]) fun _ => Tst.and2 (tEqInt F₄ rfl) fun _ => tEqLit F₄ rfl [34]) fun k => ?_)
      refine ifT rfl ?_
      refine wpAny_execs_cons (wpAny_Return_some (dList (wpAny_items_nil ⟨by decide, _, _, rfl, ?_⟩)))
      exact out (fun _ _ e => e) .nil e0
    | cons c rest =>
      have hsg : List.take (place + 1 - place) (List.drop place l) = [c] := by rw [hdr, Nat.add_sub_cancel_left]; rfl
      rw [hsg] at F₄
      have eR : lawRight role cs l place lone = if (wi = 0 ∧ c = 41) ∨ (wi = 2 ∧ c = 34) then [] else
          if c = 46 ∧ role ≠ wi then [46, 46, cs.getD wi 0] else
          if c = 13 ∨ c = 10 then [13, 10, cs.getD (wi + 1) 0] else
          if c = 92 then (if rest.headD 0 = 13 ∨ rest.headD 0 = 10 then [92, 13, 10, cs.getD (wi + 1) 0] else [92, (rest.headD 0 : Nat), cs.getD wi 0]) else
          if wi = 0 ∧ c = 40 then [40, cs.getD 0 0, 41, cs.getD 0 0] else
          if c = 34 ∧ (place : Int) ≠ lone then [34, cs.getD 2 0, 34, cs.getD 0 0] else
          [(c : Nat), cs.getD wi 0] := by
        unfold lawRight; rw [if_neg h4, hdr, hwi]
      -- sign == '' or (within == 0 and sign == ')') or (within == 2 and sign == '"')
      refine wpAny_execs_cons (iFd ((Tst.or3 (tEqLit F₄ rfl []) (fun _ => Tst.and2 (tEqInt F₄ rfl) fun _ => tEqLit F₄ rfl [41]) fun _ => Tst.and2 (tEqInt F₄ rfl) fun _ => tEqLit F₄ rfl [34]).eq (bl1 wi c)) (fun c1 k => ?_) fun c1 k => wpAny_execs_nil ?_)
      · rw [if_pos c1] at eR
        refine wpAny_execs_cons (wpAny_Return_some (dList (wpAny_items_nil ⟨by decide, _, _, rfl, ?_⟩)))
        exact out (fun _ _ e => e) .nil eR
      rw [if_neg c1] at eR
      -- sign == '.' and role != within
      refine wpAny_execs_cons (iFd ((Tst.and2 (tEqLit F₄ rfl [46]) fun _ => tNeName F₄ rfl rfl).eq (bl2 role wi c)) (fun c1 k => ?_) fun c1 k => wpAny_execs_nil ?_)
      · rw [if_pos c1] at eR
        refine wpAny_execs_cons (wpAny_Return_some (dList (wpAny_items_cons (cInt fun t k => wpAny_items_cons (cInt fun t k => wpAny_items_cons (Subscript_ (vN F₄ rfl (vN F₄ rfl ?_))))))))
        refine lItem rfl hL₄ hi cw hcz fun u => wpAny_items_nil ⟨by show 3 ≤ 3000; decide, _, _, rfl, ?_⟩
        exact out (fun _ _ e => e) (.cons _ _ (.cons _ _ (.cons _ _ .nil))) eR
      rw [if_neg c1] at eR
      -- sign == '\r' or sign == '\n'
      refine wpAny_execs_cons (iFd ((Tst.or2 (tEqLit F₄ rfl [13]) fun _ => tEqLit F₄ rfl [10]).eq (bl3 c)) (fun c1 k => ?_) fun c1 k => wpAny_execs_nil ?_)
      · rw [if_pos c1] at eR
        refine wpAny_execs_cons (wpAny_Return_some (dList (wpAny_items_cons (cInt fun t k => wpAny_items_cons (cInt fun t k => wpAny_items_cons (Subscript_ (vN F₄ rfl (wpAny_BinOp (vN F₄ rfl (cInt fun t k => iAdd fun t k => ?_))))))))))
        refine lItem (i := wi + 1) (by omega) hL₄ hi cw1 hcz fun u => wpAny_items_nil ⟨by show 3 ≤ 3000; decide, _, _, rfl, ?_⟩
        exact out (fun _ _ e => e) (.cons _ _ (.cons _ _ (.cons _ _ .nil))) eR
      rw [if_neg c1] at eR
      by_cases c92 : c = 92
      · subst c92
        rw [if_pos rfl] at eR
        obtain ⟨e, rest', rfl⟩ : ∃ e rest', rest = e :: rest' := List.exists_cons_of_ne_nil (hend _ hdr)
        have hat : l[place + 1]? = some e := by
          have := congrArg (·[1]?) hdr
          simpa using this
        refine wpAny_execs_cons (iFd ((Tst.and2 (tEqLit F₄ rfl [92]) fun _ => tInNl F₄ rfl rfl hat (by omega)).eq (bl4 92 e)) (fun c1 k => ?_) fun c1 k => wpAny_execs_nil ?_)
        · rw [show (e :: rest').headD 0 = e from rfl, if_pos c1.2] at eR
          refine wpAny_execs_cons (wpAny_Return_some (dList (wpAny_items_cons (cInt fun t k => wpAny_items_cons (cInt fun t k => wpAny_items_cons (cInt fun t k => wpAny_items_cons (Subscript_ (vN F₄ rfl (wpAny_BinOp (vN F₄ rfl (cInt fun t k => iAdd fun t k => ?_)))))))))))
          refine lItem (i := wi + 1) (by omega) hL₄ hi cw1 hcz fun u => wpAny_items_nil ⟨by show 4 ≤ 3000; decide, _, _, rfl, ?_⟩
          exact out (fun _ _ e => e) (.cons _ _ (.cons _ _ (.cons _ _ (.cons _ _ .nil)))) eR
        rw [show (e :: rest').headD 0 = e from rfl, if_neg (fun q => c1 ⟨rfl, q⟩)] at eR
        refine wpAny_execs_cons (iFd ((tEqLit F₄ rfl [92]).eq (one_eq 92 92)) (fun _ k => ?_) fun q => absurd rfl q)
        refine wpAny_execs_cons (wpAny_Return_some (dList (wpAny_items_cons (cInt fun t k => wpAny_items_cons (Call_Name rfl (vB C F₄ boot_ord (argB1 (Subscript_BinOp (vN F₄ rfl (wpAny_BinOp (vN F₄ rfl (cInt fun t k => iAdd fun t k => ?_))))))))))))
        refine sItem (i := place + 1) (by omega) hat (by omega) fun t k => ordOf fun t k => wpAny_items_cons (Subscript_ (vN F₄ rfl (vN F₄ rfl ?_)))
        refine lItem rfl hL₄ hi cw hcz fun u => wpAny_items_nil ⟨by show 3 ≤ 3000; decide, _, _, rfl, ?_⟩
        exact out (fun _ _ e => e) (.cons _ _ (.cons _ _ (.cons _ _ .nil))) eR
      rw [if_neg c92] at eR
      refine wpAny_execs_cons (iFd ((Tst.and2 (u := false) (tEqLit F₄ rfl [92]) fun q => absurd (by simpa using q) c92).eq (Bool.and_false _ |>.trans (decide_eq_false (id : ¬ False)).symm)) (fun q => q.elim) fun _ k => wpAny_execs_nil ?_)
      refine wpAny_execs_cons (iFd ((tEqLit F₄ rfl [92]).eq (one_eq c 92)) (fun q => absurd q c92) fun _ k => wpAny_execs_nil ?_)
      -- within == 0 and sign == '('
      refine wpAny_execs_cons (iFd ((Tst.and2 (tEqInt F₄ rfl) fun _ => tEqLit F₄ rfl [40]).eq (bl5 wi c)) (fun c1 k => ?_) fun c1 k => wpAny_execs_nil ?_)
      · rw [if_pos c1] at eR
        refine wpAny_execs_cons (wpAny_Return_some (dList (wpAny_items_cons (cInt fun t k => wpAny_items_cons (Subscript_ (vN F₄ rfl (cInt fun t k => ?_)))))))
        refine lItem (i := 0) rfl hL₄ hi (by omega) hcz fun u => wpAny_items_cons (cInt fun t k => wpAny_items_cons (Subscript_ (vN F₄ rfl (cInt fun t k => ?_))))
        refine lItem (i := 0) rfl hL₄ hi (by omega) hcz fun u => wpAny_items_nil ⟨by show 4 ≤ 3000; decide, _, _, rfl, ?_⟩
        exact out (fun _ _ e => e) (.cons _ _ (.cons _ _ (.cons _ _ (.cons _ _ .nil)))) eR
      rw [if_neg c1] at eR
      refine wpAny_execs_cons (iFd ((Tst.and2 (tEqLit F₄ rfl [34]) fun _ => tNeName F₄ rfl rfl).eq (bl6 place c lone)) (fun c1 k => ?_) fun c1 k => wpAny_execs_nil ?_)
      · rw [if_pos c1] at eR
        refine wpAny_execs_cons (wpAny_Return_some (dList (wpAny_items_cons (cInt fun t k => wpAny_items_cons (Subscript_ (vN F₄ rfl (cInt fun t k => ?_)))))))
        refine lItem (i := 2) rfl hL₄ hi (by omega) hcz fun u => wpAny_items_cons (cInt fun t k => wpAny_items_cons (Subscript_ (vN F₄ rfl (cInt fun t k => ?_))))
        refine lItem (i := 0) rfl hL₄ hi (by omega) hcz fun u => wpAny_items_nil ⟨by show 4 ≤ 3000; decide, _, _, rfl, ?_⟩
        exact out (fun _ _ e => e) (.cons _ _ (.cons _ _ (.cons _ _ (.cons _ _ .nil)))) eR
      rw [if_neg c1] at eR
      refine wpAny_execs_cons (wpAny_Return_some (dList (wpAny_items_cons (Call_Name rfl (vB C F₄ boot_ord (argB1 (vN F₄ rfl (ordOf fun t k => wpAny_items_cons (Subscript_ (vN F₄ rfl (vN F₄ rfl ?_)))))))))))
      refine lItem rfl hL₄ hi cw hcz fun u => wpAny_items_nil ⟨by show 2 ≤ 3000; decide, _, _, rfl, ?_⟩
      exact out (fun _ _ e => e) (.cons _ _ (.cons _ _ .nil)) eR
end
end Mine

end
section
open PySem PySem.W PySem.Calls PyProof.Rows
set_option Elab.async false
set_option maxRecDepth 100000
namespace Mine
theorem Cx.nm {w : World} {mg : Str → Option Value} {h : Heap} (C : Cx w mg h) (i : Nat) (x : Str) (hi : i ∈ fnIdx) (hx : (rc i).name = x) : ∃ a, mg x = some (.ref a) := by
  obtain ⟨a, _, _, _, _, e, _⟩ := C.fn i hi
  exact ⟨a, hx ▸ e⟩

/-- the lines, in the heap; their objects lie not in X -/
inductive LinesAre (X : List Addr) (h : Heap) : List Value → Lines → Prop
  | nil : LinesAre X h [] []
  | cons {a c : Addr} {f : T} {t : Tok} {us : Array Value} {ns : List Int} {vs : List Value} {ls : Lines} (ha : a ∉ X) (hc : c ∉ X) (h1 : IsTup h a #[.str (ofL f) t, .ref c]) (h2 : h.PlainList c us) (h3 : IntsAre us.toList ns) (r : LinesAre X h vs ls) :
      LinesAre X h (.ref a :: vs) ((f, ns) :: ls)
theorem IsTup.at' {h h' : Heap} {a : Addr} {xs : Array Value} (x : IsTup h a xs) (hk : ∀ o, h.get? a = some o → h'.get? a = some o) : IsTup h' a xs := by
  obtain ⟨o, ho, r⟩ := x
  exact ⟨o, hk _ ho, r⟩
theorem LinesAre.mono {X X' : List Addr} {h h' : Heap} {vs : List Value} {ls : Lines} (x : LinesAre X h vs ls) (hX : ∀ a ∈ X', a ∈ X) (hk : ∀ b o, b ∉ X → h.get? b = some o → h'.get? b = some o) : LinesAre X' h' vs ls := by
  induction x with
  | nil => exact .nil
  | cons ha hc h1 h2 h3 _ ih => exact .cons (fun q => ha (hX _ q)) (fun q => hc (hX _ q)) (IsTup.at' h1 fun o e => hk _ _ ha e) (h2.at fun o e => hk _ _ hc e) h3 ih
theorem LinesAre.snoc {X : List Addr} {h : Heap} {a c : Addr} {f : T} {t : Tok} {us : Array Value} {ns : List Int} {vs : List Value} {ls : Lines} (x : LinesAre X h vs ls) (ha : a ∉ X) (hc : c ∉ X) (h1 : IsTup h a #[.str (ofL f) t, .ref c]) (h2 : h.PlainList c us) (h3 : IntsAre us.toList ns) :
    LinesAre X h (vs ++ [.ref a]) (ls ++ [(f, ns)]) := by
  induction x with
  | nil => exact .cons ha hc h1 h2 h3 .nil
  | cons ha hc h1 h2 h3 _ ih => exact .cons ha hc h1 h2 h3 ih

section
variable {w : World} {mg : Str → Option Value} {A : Around} {E : Value → Shared → Prop} {h₀ h : Heap} {L a : Addr} {m : Str → Option Value} {cn : Str} {cs : Scope} {ccd : Value} {k : Nat} {b : Shared} {d : Nat}
theorem vIs {i : Nat} {f : Int → Bool} (hi : i ∈ fnIdx) {fn : Str} (hfn : (rc i).name = fn)
    (spec : ∀ {A : Around} {d : Nat} {s : Shared} {n : Int} {t : Tok} {a : Addr} {R : Result → Shared → Prop}, Cx w mg s.heap → Room A d → mg fn = some (.ref a) → (∀ h' k', Kp s.heap h' → R (.ok (.ret (.bool (f n)))) (sh h' k' s)) → d ≤ 50 →
      codeAny (model P w) A (.call (.ref a) ⟨[.int n t], []⟩) R s)
    (C : Cx w mg h₀) (r : Room A d) (hd : d ≤ 50) (F : Fr h₀ L h m) {x : Str} {p q pos : Pos} {n : Int} {t : Tok} {Q : Value → Shared → Prop} (hv : m x = some (.int n t)) (H : ∀ h' k', Fr h₀ L h' m → Kp h h' → Q (.bool (f n)) (sh h' k' b))
    (hk : cs.kind = .function := by rfl) (hl : (envOf cn cs L a ccd).kindOf x = some .local := by rfl) (hx : (x == ("__debug__" : Str)) = false := by decide)
    (hg : (envOf cn cs L a ccd).kindOf fn = some .globalImplicit := by rfl) (hgd : (fn == ("__debug__" : Str)) = false := by decide) :
    wpAny (model P w) A (eval (.Call (.Name fn p) [.Name x q] [] pos) (envOf cn cs L a ccd)) Q E (sh h k b) := by
  obtain ⟨fa, hfa⟩ := C.nm i fn hi hfn
  have C' : Cx w mg (sh h k b).heap := C.keeps F.keep
  refine Call_Name rfl (vG C F hfa (callF i C' hi (by rw [hfn]; exact hfa) (wpAny_items_cons (vN F hv (wpAny_items_nil ⟨fun _ _ e => e, ?_⟩) hk hl hx))) hk hg hgd)
  exact spec C' r hfa (fun h' k' hK => H h' k' (F.keeps hK) hK) hd
theorem vTerm (C : Cx w mg h₀) (r : Room A d) (hd : d ≤ 50) (F : Fr h₀ L h m) {x : Str} {p q pos : Pos} {n : Int} {t : Tok} {Q : Value → Shared → Prop} (hv : m x = some (.int n t)) (H : ∀ h' k', Fr h₀ L h' m → Kp h h' → Q (.bool (decide (n < 256))) (sh h' k' b))
    (hk : cs.kind = .function := by rfl) (hl : (envOf cn cs L a ccd).kindOf x = some .local := by rfl) (hx : (x == ("__debug__" : Str)) = false := by decide)
    (hg : (envOf cn cs L a ccd).kindOf "ISTERMINAL" = some .globalImplicit := by rfl) :
    wpAny (model P w) A (eval (.Call (.Name "ISTERMINAL" p) [.Name x q] [] pos) (envOf cn cs L a ccd)) Q E (sh h k b) :=
  vIs (i := 16) (f := fun n => decide (n < 256)) (by decide) rfl (fun C r ha H hd => isterm C r ha H hd) C r hd F hv H hk hl hx hg
theorem vNon (C : Cx w mg h₀) (r : Room A d) (hd : d ≤ 50) (F : Fr h₀ L h m) {x : Str} {p q pos : Pos} {n : Int} {t : Tok} {Q : Value → Shared → Prop} (hv : m x = some (.int n t)) (H : ∀ h' k', Fr h₀ L h' m → Kp h h' → Q (.bool (decide (n ≥ 256))) (sh h' k' b))
    (hk : cs.kind = .function := by rfl) (hl : (envOf cn cs L a ccd).kindOf x = some .local := by rfl) (hx : (x == ("__debug__" : Str)) = false := by decide)
    (hg : (envOf cn cs L a ccd).kindOf "ISNONTERMINAL" = some .globalImplicit := by rfl) :
    wpAny (model P w) A (eval (.Call (.Name "ISNONTERMINAL" p) [.Name x q] [] pos) (envOf cn cs L a ccd)) Q E (sh h k b) :=
  vIs (i := 17) (f := fun n => decide (n ≥ 256)) (by decide) rfl (fun C r ha H hd => isnonterm C r ha H hd) C r hd F hv H hk hl hx hg
theorem vEof (C : Cx w mg h₀) (r : Room A d) (hd : d ≤ 50) (F : Fr h₀ L h m) {x : Str} {p q pos : Pos} {n : Int} {t : Tok} {Q : Value → Shared → Prop} (hv : m x = some (.int n t)) (H : ∀ h' k', Fr h₀ L h' m → Kp h h' → Q (.bool (n == 0)) (sh h' k' b))
    (hk : cs.kind = .function := by rfl) (hl : (envOf cn cs L a ccd).kindOf x = some .local := by rfl) (hx : (x == ("__debug__" : Str)) = false := by decide)
    (hg : (envOf cn cs L a ccd).kindOf "ISEOF" = some .globalImplicit := by rfl) :
    wpAny (model P w) A (eval (.Call (.Name "ISEOF" p) [.Name x q] [] pos) (envOf cn cs L a ccd)) Q E (sh h k b) :=
  vIs (i := 18) (f := fun n => n == 0) (by decide) rfl (fun C r ha H hd => iseof C r ha H hd) C r hd F hv H hk hl hx hg
end

def readWh : Stmt := (rc 23).body.getD 4 default
def readTest : Expr := match readWh with | .While t _ _ _ => t | _ => default
def readBody : List Stmt := match readWh with | .While _ b _ _ => b | _ => []

/-- what stands in the frame and in the heap between two turns -/
structure RS (w : World) (mg : Str → Option Value) (text : T) (cs : List Int) (h₀ h : Heap) (L : Addr) (m : Str → Option Value) (pa la lc : Addr) (lone : Int) (st : List Int) (p : Nat) (o : Int) (ls : Lines) : Prop where
  C : Cx w mg h₀
  F : Fr h₀ L h m
  mt : ∃ t, m "text" = some (.str (ofL text) t)
  mc : m "codes" = some (.ref lc)
  mlo : ∃ t, m "lone" = some (.int lone t)
  mp : m "pile" = some (.ref pa)
  mpl : ∃ t, m "place" = some (.int p t)
  mo : ∃ t, m "opened" = some (.int o t)
  ml : m "lines" = some (.ref la)
  hp : ∃ its : Array Value, h.PlainList pa its ∧ IntsAre its.toList st.reverse
  hl : ∃ xs : Array Value, h.PlainList la xs ∧ LinesAre [pa, la, L] h xs.toList ls
  hc : ∃ vs : Array Value, h₀.PlainList lc vs ∧ IntsAre vs.toList cs
  ne : pa ≠ la
  fp : h₀.get? pa = none
  fl : h₀.get? la = none
  pL : pa ≠ L
  lL : la ≠ L
variable {w : World} {mg : Str → Option Value} {text : T} {cs : List Int}
theorem RS.keeps {h₀ h h' : Heap} {L : Addr} {m : Str → Option Value} {pa la lc : Addr} {lone : Int} {st : List Int} {p : Nat} {o : Int} {ls : Lines} (x : RS w mg text cs h₀ h L m pa la lc lone st p o ls) (hk : Kp h h') : RS w mg text cs h₀ h' L m pa la lc lone st p o ls :=
  { x with F := x.F.keeps hk, hp := let ⟨its, a, b⟩ := x.hp; ⟨its, a.at fun o e => hk _ _ e, b⟩, hl := let ⟨xs, a, b⟩ := x.hl; ⟨xs, a.at fun o e => hk _ _ e, b.mono (fun _ q => q) fun _ _ _ e => hk _ _ e⟩ }
/-- a store under another name -/
theorem RS.store {h₀ h h' : Heap} {L : Addr} {m : Str → Option Value} {pa la lc : Addr} {lone : Int} {st : List Int} {p : Nat} {o : Int} {ls : Lines} (x : RS w mg text cs h₀ h L m pa la lc lone st p o ls) {n : Str} {v : Value} (F : Fr h₀ L h' (set m n v)) (hk : Kp' L h h')
    (hn : ∀ y ∈ (["text", "codes", "lone", "pile", "place", "opened", "lines"] : List Str), (y == n) = false) : RS w mg text cs h₀ h' L (set m n v) pa la lc lone st p o ls := by
  have e : ∀ y ∈ (["text", "codes", "lone", "pile", "place", "opened", "lines"] : List Str), set m n v y = m y := fun y hy => by
    show (bif y == n then some v else m y) = m y
    rw [hn y hy]; rfl
  exact { C := x.C, F := F, mt := by rw [e _ (by simp)]; exact x.mt, mc := by rw [e _ (by simp)]; exact x.mc, mlo := by rw [e _ (by simp)]; exact x.mlo, mp := by rw [e _ (by simp)]; exact x.mp,
          mpl := by rw [e _ (by simp)]; exact x.mpl, mo := by rw [e _ (by simp)]; exact x.mo, ml := by rw [e _ (by simp)]; exact x.ml,
          hp := let ⟨its, a, b⟩ := x.hp; ⟨its, a.at fun o e => hk _ _ x.pL e, b⟩,
          hl := let ⟨xs, a, b⟩ := x.hl; ⟨xs, a.at fun o e => hk _ _ x.lL e, b.mono (fun _ q => q) fun _ _ q e => hk _ _ (fun q' => q (by simp [q'])) e⟩,
          hc := x.hc, ne := x.ne, fp := x.fp, fl := x.fl, pL := x.pL, lL := x.lL }
theorem ints_snoc {vs : List Value} {ns : List Int} {n : Int} (h : IntsAre vs (ns ++ [n])) : ∃ vs' u, vs = vs' ++ [.int n u] ∧ IntsAre vs' ns := by
  induction ns generalizing vs with
  | nil => cases h with | cons _ t r => cases r; exact ⟨[], t, rfl, .nil⟩
  | cons x ns ih =>
    cases h with
    | cons _ t r =>
      obtain ⟨vs', u, rfl, hv⟩ := ih r
      exact ⟨.int x t :: vs', u, rfl, .cons _ _ hv⟩
theorem ints_append {vs vs' : List Value} {ns ns' : List Int} (h : IntsAre vs ns) (h' : IntsAre vs' ns') : IntsAre (vs ++ vs') (ns ++ ns') := by
  induction h with
  | nil => exact h'
  | cons n t _ ih => exact .cons n t ih

abbrev ReadOut (h₀ : Heap) (bs : Shared) (b : Bool) (ls' : Lines) (R : Result → Shared → Prop) : Prop :=
  ∀ h' k' T' la' xs', Kp h₀ h' → IsTup h' T' #[.bool b, .ref la'] → h'.PlainList la' xs' → LinesAre [] h' xs'.toList ls' → R (.ok (.ret (.ref T'))) (sh h' k' bs)
/-- the loop of _law_read does what Go says -/
def LoopOk (w : World) (mg : Str → Option Value) (text : T) (cs : List Int) (n : Nat) (lone : Int) (st : List Int) (p : Nat) (o : Int) (ls : Lines) (b : Bool) (ls' : Lines) : Prop :=
  ∀ (A : Around) (d : Nat) (bs : Shared) (h₀ h : Heap) (L a : Addr) (cd : Value) (k : Nat) (m : Str → Option Value) (pa la lc : Addr) (R : Result → Shared → Prop),
    RS w mg text cs h₀ h L m pa la lc lone st p o ls → Room A d → d + n ≤ 45 → p ≤ text.length → text.length ≤ 500 → cs.length = 5 → ReadOut h₀ bs b ls' R →
    codeAny (model P w) A (.whileLoop readTest readBody [] (envOf (rc 23).name (rc 23).scope L a cd))
      (fun r s' => match r with | .ok (.ret v) => R (.ok (.ret v)) s' | _ => False) (sh h k bs)

abbrev RK (w : World) (A : Around) (L a : Addr) (cd : Value) (R : Result → Shared → Prop) : Flow → Shared → Prop := fun f s₃ => match f with
  | .next | .cont => codeAny (model P w) A (.whileLoop readTest readBody [] (envOf (rc 23).name (rc 23).scope L a cd)) (fun r s' => match r with | .ok (.ret v) => R (.ok (.ret v)) s' | _ => False) s₃
  | .brk => False
  | .ret v => R (.ok (.ret v)) s₃
/-- a turn's head: top is read, the two questions part -/
theorem turnHead {A : Around} {d : Nat} {bs : Shared} {h₀ h : Heap} {L a : Addr} {cd : Value} {k : Nat} {m : Str → Option Value} {pa la lc : Addr} {lone : Int} {st : List Int} {p : Nat} {o : Int} {ls : Lines} {top : Int} {R : Result → Shared → Prop}
    (x : RS w mg text cs h₀ h L m pa la lc lone (top :: st) p o ls) (r : Room A d) (hd : d ≤ 45) (hz : st.length ≤ 950)
    (H : ∀ h' k' m' t, RS w mg text cs h₀ h' L m' pa la lc lone (top :: st) p o ls → m' "top" = some (.int top t) →
      wpAny (model P w) A (execs (readBody.drop 2) (envOf (rc 23).name (rc 23).scope L a cd)) (RK w A L a cd R) (fun _ _ => False) (sh h' k' bs)) :
    codeAny (model P w) A (.whileLoop readTest readBody [] (envOf (rc 23).name (rc 23).scope L a cd)) (fun r s' => match r with | .ok (.ret v) => R (.ok (.ret v)) s' | _ => False) (sh h k bs) := by
  obtain ⟨its, hp, hi⟩ := x.hp
  rw [List.reverse_cons] at hi
  obtain ⟨vs', u, hv, hi'⟩ := ints_snoc hi
  have hsz : its.size = vs'.length + 1 := by
    have := congrArg List.length hv
    simpa using this
  have hvl : vs'.length = st.length := by rw [hi'.length]; simp
  refine whileOnce (wpAny_isTrue_value (wpAny_Constant_bool (wpAny_truthy_bool (ifT rfl ?_))))
  refine wpAny_mono (Q := RK w A L a cd R) (E := fun _ _ => False) ?_ (fun f s' q => by cases f <;> exact q) fun _ _ q => q
  refine wpAny_execs_cons (wpAny_Assign_Name (Subscript_ (vN x.F x.mp (wpAny_UnaryOp (cInt fun t k => PyProof.Rows.neg_int ?_)))))
  refine subscriptTail_builtin (Heap.IsList.typeIs (s := sh h k bs) hp.isList) slot_list_getitem.lookup (wpAny_getItem_list_neg (s := sh h _ bs) hp.isList (by decide) (by omega) (by decide) (x := .int top u) ?_ ?_)
  · rw [hsz, show ((-1 : Int) + ((vs'.length + 1 : Nat) : Int)).toNat = vs'.length by omega]
    have : its.toList[vs'.length]? = some (.int top u) := by rw [hv]; simp
    simpa using this
  refine stS (k := _) x.F fun h' k' F' hk => ?_
  have x' := x.store (n := "top") F' hk (by decide)
  refine wpAny_execs_cons (wpAny_If (wpAny_isTrue_Compare1 ?_))
  refine vTerm x'.C r (by omega) x'.F rfl fun h₂ k₂ F₂ K₂ => vNon x'.C r (by omega) F₂ rfl fun h₃ k₃ F₃ K₃ => wpAny_is_plain rfl (wpAny_truthy_bool (ifF ?_ (wpAny_execs_nil ?_)))
  · by_cases q : top < 256
    · rw [decide_eq_true q, decide_eq_false (by omega : ¬ top ≥ 256)]; rfl
    · rw [decide_eq_false q, decide_eq_true (by omega : top ≥ 256)]; rfl
  · exact H h₃ k₃ _ _ ((x'.keeps K₂).keeps K₃) rfl

theorem right' {A : Around} {d : Nat} {h : Heap} {k : Nat} {b : Shared} {a : Addr} {R : Result → Shared → Prop} {role place : Nat} {lone : Int} {l : T} {lc : Addr} {vs : Array Value} {t1 t2 t3 t4 : Tok}
    (C : Cx w mg h) (r : Room A d) (ha : mg "_law_right" = some (.ref a)) (hL : h.PlainList lc vs) (hi : IntsAre vs.toList cs) (hc : cs.length = 5) (hrole : role ≤ 4) (hplace : place ≤ l.length)
    (hend : ∀ x, l.drop place = 92 :: x → x ≠ []) (hl : l.length ≤ 500)
    (hR : ∀ h' k' D us, Kp h h' → h'.PlainList D (List.toArray us) → IntsAre us (lawRight role cs l place lone) → h.get? D = none → R (.ok (.ret (.ref D))) (sh h' k' b)) (hd : d ≤ 50 := by omega) :
    codeAny (model P w) A (.call (.ref a) ⟨[.int role t1, .ref lc, .str (ofL l) t2, .int place t3, .int lone t4], []⟩) R (sh h k b) :=
  right (s := sh h k b) (vs := vs.toList) C r ha (by show h.IsList lc vs.toList.toArray; simpa using hL.isList) hi (by omega) (by omega) hrole hplace hend hl hR hd
/-- the tuple at the end -/
theorem readEnd {bs : Shared} {h₀ h : Heap} {L : Addr} {k : Nat} {m : Str → Option Value} {pa la lc : Addr} {lone : Int} {st : List Int} {p : Nat} {o : Int} {ls : Lines} {b : Bool} {R : Result → Shared → Prop}
    (x : RS w mg text cs h₀ h L m pa la lc lone st p o ls) (hR : ReadOut h₀ bs b ls R) :
    R (.ok (.ret (.ref h.objs.size))) (sh (h.push { cls := .type "tuple", data := .seq [Value.bool b, .ref la].toArray }) k bs) := by
  obtain ⟨xs, hl, hx⟩ := x.hl
  have kp : Kp h (h.push { cls := .type "tuple", data := .seq [Value.bool b, .ref la].toArray }) := fun b o e => Heap.get?_push_of_some _ e
  exact hR _ _ _ la xs (fun b o e => kp _ _ (x.F.keep _ _ e)) ⟨_, Heap.get?_push_size _ rfl, rfl, _, rfl⟩ (hl.at fun o e => kp _ _ e) (hx.mono (fun _ q => by cases q) fun _ _ _ e => kp _ _ e)

theorem turnEof {n : Nat} {lone : Int} {st : List Int} {p : Nat} {o : Int} {ls : Lines} (hz : st.length ≤ 950) : LoopOk w mg text cs n lone (0 :: st) p o ls (decide (p = text.length)) ls := by
  intro A d bs h₀ h L a cd k m pa la lc R x r hd hp htl hc hR
  refine turnHead x r (by omega) hz fun h k m t x ht => ?_
  refine wpAny_execs_cons (wpAny_If (wpAny_isTrue_value (vNon x.C r (by omega) x.F ht fun h k F K => wpAny_truthy_bool (ifF (by decide) ?_))))
  refine wpAny_execs_cons (wpAny_If (wpAny_isTrue_value (vEof x.C r (by omega) F ht fun h k F K' => wpAny_truthy_bool (ifT (by decide) ?_))))
  have y := (x.keeps K).keeps K'
  obtain ⟨t1, mt⟩ := y.mt
  obtain ⟨t2, mpl⟩ := y.mpl
  refine wpAny_execs_cons (wpAny_Return_some (dTup (wpAny_items_cons (wpAny_Compare1 (vN F mpl (Call_Name rfl (vB x.C F boot_len (argB1 (vN F mt (lenS (by omega) fun t k => eq_int ?_))))))))))
  rw [iz]
  refine wpAny_items_cons (vN F y.ml (wpAny_items_nil ⟨by show 2 ≤ 3000; decide, _, _, rfl, ?_⟩))
  exact readEnd y hR

/-- place < len(text) and ord(text[place]) == top -/
theorem tEat {A : Around} {h₀ h : Heap} {L a : Addr} {cd : Value} {bs : Shared} {m : Str → Option Value} {pa la lc : Addr} {lone : Int} {st : List Int} {p : Nat} {o : Int} {ls : Lines} {c : Nat} {t : Tok} {p1 p2 p3 p4 p5 p6 p7 p8 p9 p10 p11 p12 p13 : Pos}
    (x : RS w mg text cs h₀ h L m pa la lc lone st p o ls) (ht : m "top" = some (.int c t)) (htl : text.length ≤ 500) :
    Tst w A (envOf (rc 23).name (rc 23).scope L a cd) h bs (.BoolOp .And [.Compare (.Name "place" p1) [.Lt] [.Call (.Name "len" p2) [.Name "text" p3] [] p4] p5,
      .Compare (.Call (.Name "ord" p6) [.Subscript (.Name "text" p7) (.Name "place" p8) p9] [] p10) [.Eq] [.Name "top" p11] p12] p13) (decide (text[p]? = some c)) := by
  obtain ⟨t1, mt⟩ := x.mt
  obtain ⟨t2, mpl⟩ := x.mpl
  have e : decide (text[p]? = some c) = (decide ((p : Int) < (text.length : Int)) && decide (text[p]? = some c)) := by
    by_cases q : p < text.length
    · rw [decide_eq_true (by omega : (p : Int) < (text.length : Int))]; simp
    · rw [decide_eq_false (by omega : ¬ (p : Int) < (text.length : Int)), List.getElem?_eq_none (by omega)]; simp
  rw [e]
  refine Tst.and2 (fun Q E k H => ?_) fun hlt Q E k H => ?_
  · exact wpAny_isTrue_Compare1 (vN x.F mpl (Call_Name rfl (vB x.C x.F boot_len (argB1 (vN x.F mt (lenS (by omega) fun t k => lt_int (wpAny_truthy_bool (H _))))))))
  · have hlt' : p < text.length := by have := of_decide_eq_true hlt; omega
    have hg : text[p]? = some text[p] := List.getElem?_eq_getElem hlt'
    refine wpAny_isTrue_Compare1 (Call_Name rfl (vB x.C x.F boot_ord (argB1 (Subscript_Name (vN x.F mt (vN x.F mpl (sItem rfl hg (by omega) fun t k => ordOf fun t k => vN x.F ht (eq_int (wpAny_truthy_bool ?_)))))))))
    rw [iz]
    have : decide (text[p] = c) = decide (text[p]? = some c) := by rw [hg]; simp
    rw [this]
    exact H _
/-- place == len(text) and top == 34 -/
theorem tAgain {A : Around} {h₀ h : Heap} {L a : Addr} {cd : Value} {bs : Shared} {m : Str → Option Value} {pa la lc : Addr} {lone : Int} {st : List Int} {p : Nat} {o : Int} {ls : Lines} {c : Nat} {t : Tok} {p1 p2 p3 p4 p5 p6 p7 p8 p9 : Pos} {kk : Nat}
    (x : RS w mg text cs h₀ h L m pa la lc lone st p o ls) (ht : m "top" = some (.int c t)) (htl : text.length ≤ 500) :
    Tst w A (envOf (rc 23).name (rc 23).scope L a cd) h bs (.BoolOp .And [.Compare (.Name "place" p1) [.Eq] [.Call (.Name "len" p2) [.Name "text" p3] [] p4] p5,
      .Compare (.Name "top" p6) [.Eq] [.Constant (.int 34) kk p7] p8] p9) (decide (p = text.length ∧ c = 34)) := by
  obtain ⟨t1, mt⟩ := x.mt
  obtain ⟨t2, mpl⟩ := x.mpl
  have e : decide (p = text.length ∧ c = 34) = (((p : Int) == (text.length : Int)) && ((c : Int) == 34)) := by
    rw [iz, iz', Bool.eq_iff_iff]; simp; omega
  rw [e]
  refine Tst.and2 (fun Q E k H => ?_) fun hlt => tEqInt x.F ht
  exact wpAny_isTrue_Compare1 (vN x.F mpl (Call_Name rfl (vB x.C x.F boot_len (argB1 (vN x.F mt (lenS (by omega) fun t k => eq_int (wpAny_truthy_bool (H _))))))))

theorem turnFail {n : Nat} {lone : Int} {st : List Int} {p : Nat} {o : Int} {ls : Lines} (hz : st.length ≤ 950) (c : Nat) (h0 : 0 < c) (h : c < 256) (h1 : text[p]? ≠ some c) (h2 : ¬ (p = text.length ∧ c = 34)) : LoopOk w mg text cs n lone ((c : Int) :: st) p o ls false ls := by
  intro A d bs h₀ h L a cd k m pa la lc R x r hd hp htl hc hR
  refine turnHead x r (by omega) hz fun h k m t x ht => ?_
  refine wpAny_execs_cons (wpAny_If (wpAny_isTrue_value (vNon x.C r (by omega) x.F ht fun h k F K => wpAny_truthy_bool (ifF (decide_eq_false (by omega)) ?_))))
  refine wpAny_execs_cons (wpAny_If (wpAny_isTrue_value (vEof x.C r (by omega) F ht fun h k F K' => wpAny_truthy_bool (ifF (by simpa using (show (c : Int) ≠ 0 by omega)) ?_))))
  have y := (x.keeps K).keeps K'
  refine wpAny_execs_cons (iFd (tEat y ht htl) (fun q => absurd q h1) fun _ k => ?_)
  refine wpAny_execs_cons (iFd (tAgain y ht htl) (fun q => absurd q h2) fun _ k => ?_)
  refine wpAny_execs_cons (wpAny_Return_some (dTup (wpAny_items_cons (wpAny_Constant_bool (wpAny_items_cons (vN F y.ml (wpAny_items_nil ⟨by show 2 ≤ 3000; decide, _, _, rfl, ?_⟩)))))))
  exact readEnd y hR

theorem frPut {h₀ h h' : Heap} {L D : Addr} {m : Str → Option Value} (F : Fr h₀ L h m) (hs : Heap.SameBut D h h') (hf : h₀.get? D = none) (hL : D ≠ L) : Fr h₀ L h' m :=
  ⟨F.ns.sameBut hs (Ne.symm hL), fun b o e => hs.extBut b o (by rintro rfl; rw [hf] at e; cases e) (F.keep b o e), F.above⟩
/-- the pile is turned -/
theorem RS.pile {h₀ h h' : Heap} {L : Addr} {m : Str → Option Value} {pa la lc : Addr} {lone : Int} {st st' : List Int} {p : Nat} {o : Int} {ls : Lines} (x : RS w mg text cs h₀ h L m pa la lc lone st p o ls) {its : Array Value} (hp : h'.PlainList pa its) (hi : IntsAre its.toList st'.reverse)
    (hs : Heap.SameBut pa h h') : RS w mg text cs h₀ h' L m pa la lc lone st' p o ls :=
  { x with F := frPut x.F hs x.fp x.pL, hp := ⟨its, hp, hi⟩, hl := let ⟨xs, a, b⟩ := x.hl; ⟨xs, a.extBut hs.extBut (Ne.symm x.ne), b.mono (fun _ q => q) fun _ _ q e => hs.extBut _ _ (fun q' => q (by simp [q'])) e⟩ }
/-- the lines are turned -/
theorem RS.lined {h₀ h h' : Heap} {L : Addr} {m : Str → Option Value} {pa la lc : Addr} {lone : Int} {st : List Int} {p : Nat} {o : Int} {ls ls' : Lines} (x : RS w mg text cs h₀ h L m pa la lc lone st p o ls) {xs : Array Value} (hl : h'.PlainList la xs) (hi : LinesAre [pa, la, L] h' xs.toList ls')
    (hs : Heap.SameBut la h h') : RS w mg text cs h₀ h' L m pa la lc lone st p o ls' :=
  { x with F := frPut x.F hs x.fl x.lL, hp := let ⟨its, a, b⟩ := x.hp; ⟨its, a.extBut hs.extBut x.ne, b⟩, hl := ⟨xs, hl, hi⟩ }
theorem RS.place {h₀ h h' : Heap} {L : Addr} {m : Str → Option Value} {pa la lc : Addr} {lone : Int} {st : List Int} {p p' : Nat} {o : Int} {ls : Lines} (x : RS w mg text cs h₀ h L m pa la lc lone st p o ls) {i : Int} {t : Tok} (F : Fr h₀ L h' (set m "place" (.int i t))) (hk : Kp' L h h') (hi : i = (p' : Nat)) :
    RS w mg text cs h₀ h' L (set m "place" (.int i t)) pa la lc lone st p' o ls :=
  { C := x.C, F := F, mt := x.mt, mc := x.mc, mlo := x.mlo, mp := x.mp, mpl := ⟨t, by rw [← hi]; rfl⟩, mo := x.mo, ml := x.ml,
    hp := let ⟨its, a, b⟩ := x.hp; ⟨its, a.at fun o e => hk _ _ x.pL e, b⟩,
    hl := let ⟨xs, a, b⟩ := x.hl; ⟨xs, a.at fun o e => hk _ _ x.lL e, b.mono (fun _ q => q) fun _ _ q e => hk _ _ (fun q' => q (by simp [q'])) e⟩,
    hc := x.hc, ne := x.ne, fp := x.fp, fl := x.fl, pL := x.pL, lL := x.lL }
theorem RS.opened {h₀ h h' : Heap} {L : Addr} {m : Str → Option Value} {pa la lc : Addr} {lone : Int} {st : List Int} {p : Nat} {o o' : Int} {ls : Lines} (x : RS w mg text cs h₀ h L m pa la lc lone st p o ls) {t : Tok} (F : Fr h₀ L h' (set m "opened" (.int o' t))) (hk : Kp' L h h') :
    RS w mg text cs h₀ h' L (set m "opened" (.int o' t)) pa la lc lone st p o' ls :=
  { C := x.C, F := F, mt := x.mt, mc := x.mc, mlo := x.mlo, mp := x.mp, mpl := x.mpl, mo := ⟨t, rfl⟩, ml := x.ml,
    hp := let ⟨its, a, b⟩ := x.hp; ⟨its, a.at fun o e => hk _ _ x.pL e, b⟩,
    hl := let ⟨xs, a, b⟩ := x.hl; ⟨xs, a.at fun o e => hk _ _ x.lL e, b.mono (fun _ q => q) fun _ _ q e => hk _ _ (fun q' => q (by simp [q'])) e⟩,
    hc := x.hc, ne := x.ne, fp := x.fp, fl := x.fl, pL := x.pL, lL := x.lL }
theorem RS.popped {h₀ h : Heap} {L : Addr} {m : Str → Option Value} {pa la lc : Addr} {lone top : Int} {st : List Int} {p : Nat} {o : Int} {ls : Lines} (x : RS w mg text cs h₀ h L m pa la lc lone (top :: st) p o ls) :
    ∃ (ys : Array Value) (u : Tok), h.PlainList pa (ys.push (.int top u)) ∧ IntsAre ys.toList st.reverse ∧ ys.size = st.length := by
  obtain ⟨its, hp, hi⟩ := x.hp
  rw [List.reverse_cons] at hi
  obtain ⟨vs', u, hv, hi'⟩ := ints_snoc hi
  refine ⟨vs'.toArray, u, ?_, by simpa using hi', by rw [List.size_toArray, hi'.length]; simp⟩
  have : its = vs'.toArray.push (.int top u) := by apply Array.ext'; rw [hv]; simp
  rw [← this]; exact hp

theorem turnEat {n : Nat} {lone : Int} {st : List Int} {p : Nat} {o : Int} {ls ls' : Lines} {b : Bool} (hz : st.length ≤ 950) (c : Nat) (h0 : 0 < c) (h : c < 256) (hat : text[p]? = some c) (ih : LoopOk w mg text cs n lone st (p + 1) o ls b ls') : LoopOk w mg text cs n lone ((c : Int) :: st) p o ls b ls' := by
  intro A d bs h₀ h L a cd k m pa la lc R x r hd hp htl hc hR
  have hlt : p < text.length := by
    rcases Nat.lt_or_ge p text.length with q | q
    · exact q
    · rw [List.getElem?_eq_none q] at hat; cases hat
  refine turnHead x r (by omega) hz fun h k m t x ht => ?_
  refine wpAny_execs_cons (wpAny_If (wpAny_isTrue_value (vNon x.C r (by omega) x.F ht fun h k F K => wpAny_truthy_bool (ifF (decide_eq_false (by omega)) ?_))))
  refine wpAny_execs_cons (wpAny_If (wpAny_isTrue_value (vEof x.C r (by omega) F ht fun h k F K' => wpAny_truthy_bool (ifF (by simpa using (show (c : Int) ≠ 0 by omega)) ?_))))
  have y := (x.keeps K).keeps K'
  refine wpAny_execs_cons (iFd (tEat y ht htl) (fun _ k => ?_) fun q => absurd hat q)
  obtain ⟨ys, u, hpl, hi, hsz⟩ := y.popped
  refine wpAny_execs_cons (wpAny_Expr (mL PySem.F.slot_list_pop PySem.F.type_list_pop (vN F y.mp ⟨pa, _, _, _, rfl, rfl, hpl, lPop hpl (by omega) fun h' k' hp' hs => ?_⟩)))
  have z := y.pile hp' hi hs
  obtain ⟨t2, mpl⟩ := z.mpl
  refine wpAny_execs_cons (wpAny_AugAssign_Name (vL z.F mpl (cInt fun t k => iiAdd fun t k => stS z.F fun h' k' F' hk => ?_)))
  exact wpAny_execs_nil (wpAny_execs_nil (wpAny_execs_nil (wpAny_execs_nil (ih A d bs h₀ h' L a cd k' _ pa la lc R (z.place F' hk (by omega)) r hd hlt htl hc hR))))

theorem fr_new {h₀ h : Heap} {L : Addr} {m : Str → Option Value} (F : Fr h₀ L h m) : h₀.get? h.objs.size = none := by
  cases e : h₀.get? h.objs.size with
  | none => rfl
  | some o => exact absurd (Heap.lt_size (F.keep _ _ e)) (Nat.lt_irrefl _)
theorem fr_ne {h₀ h : Heap} {L : Addr} {m : Str → Option Value} (F : Fr h₀ L h m) : h.objs.size ≠ L := Nat.ne_of_gt F.ns.lt
/-- a call of _law_read -/
theorem readCall {n : Nat} {lone : Int} {b : Bool} {ls' : Lines} (ih : LoopOk w mg text cs n lone [cs.getD 4 0, 0] 0 (-1) [] b ls')
    {A : Around} {d : Nat} {bs : Shared} {h : Heap} {a : Addr} {k0 : Nat} {lc : Addr} {vs : Array Value} {t1 t2 : Tok} {R : Result → Shared → Prop} (C : Cx w mg h) (r : Room A d) (ha : mg "_law_read" = some (.ref a)) (hd : d + 1 + n ≤ 45)
    (htl : text.length ≤ 500) (hcz : cs.length = 5) (hc : h.PlainList lc vs) (hi : IntsAre vs.toList cs) (hR : ReadOut h bs b ls' R) :
    codeAny (model P w) A (.call (.ref a) ⟨[.str (ofL text) t1, .ref lc, .int lone t2], []⟩) R (sh h k0 bs) := by
  refine enterS (s := sh h k0 bs) 23 C r (by decide) ha (by omega) (fun _ _ _ => rfl) (by rfl) [("lone", .int lone t2), ("codes", .ref lc), ("text", .str (ofL text) t1)] rfl fun cd h₁ tk F r' => ?_
  refine wpAny_execs_cons (wpAny_Assign_Name (dList (wpAny_items_cons (cInt fun t0 _ => wpAny_items_cons (Subscript_ (vN F rfl (cInt fun t k => ?_)))))))
  refine lItem (i := 4) rfl (by show h₁.IsList lc vs.toList.toArray; simpa using hc.isList.at fun o e => F.keep _ _ e) hi (by omega) (by omega) fun u => wpAny_items_nil ⟨by show 2 ≤ 3000; decide, _, _, rfl, ?_⟩
  refine stS (F.push _) fun h₂ k F₂ K₂ => ?_
  refine wpAny_execs_cons (wpAny_Assign_Name (cInt fun t k => stS F₂ fun h₃ k F₃ K₃ => ?_))
  refine wpAny_execs_cons (wpAny_Assign_Name (wpAny_UnaryOp (cInt fun t k => iNeg fun t k => stS F₃ fun h₄ k F₄ K₄ => ?_)))
  refine wpAny_execs_cons (wpAny_Assign_Name (dList (wpAny_items_nil ⟨by show 0 ≤ 3000; decide, _, _, rfl, ?_⟩)))
  refine stS (F₄.push _) fun h₅ k F₅ K₅ => ?_
  have kp : ∀ o, (h₁.push { cls := .type "list", data := .seq ([Value.int 0 t0, .int (cs.getD 4 0) u]).toArray }).get? h₁.objs.size = some o → h₄.get? h₁.objs.size = some o := fun o e => K₄ _ _ (fr_ne F) (K₃ _ _ (fr_ne F) (K₂ _ _ (fr_ne F) e))
  have hp : h₄.PlainList h₁.objs.size ([Value.int 0 t0, .int (cs.getD 4 0) u]).toArray := ⟨0, kp _ (Heap.get?_push_size _ rfl)⟩
  have hne : h₁.objs.size ≠ h₄.objs.size := by
    obtain ⟨_, e⟩ := hp
    exact Nat.ne_of_lt (Heap.lt_size e)
  have x : RS w mg text cs h h₅ h.objs.size _ h₁.objs.size h₄.objs.size lc lone [cs.getD 4 0, 0] 0 (-1) [] :=
    { C := C, F := F₅, mt := ⟨_, rfl⟩, mc := rfl, mlo := ⟨_, rfl⟩, mp := rfl, mpl := ⟨_, rfl⟩, mo := ⟨_, rfl⟩, ml := rfl,
      hp := ⟨_, hp.at fun o e => K₅ _ _ (fr_ne F) (Heap.get?_push_of_some _ e), .cons _ _ (.cons _ _ .nil)⟩,
      hl := ⟨#[], ⟨0, K₅ _ _ (fr_ne F₄) (Heap.get?_push_size _ rfl)⟩, .nil⟩,
      hc := ⟨vs, hc, hi⟩, ne := hne, fp := fr_new F, fl := fr_new F₄, pL := fr_ne F, lL := fr_ne F₄ }
  refine wpAny_execs_cons (whileS (codeAny_mono (ih _ (d + 1) (sh h k0 bs) h h₅ _ a cd _ _ h₁.objs.size h₄.objs.size lc R x r' hd (Nat.zero_le _) htl hcz hR) fun r s' q => ?_))
  · cases r with
    | error e => exact q.elim
    | ok f => cases f <;> first | exact q | exact q.elim

theorem turnAgain {n : Nat} {lone : Int} {st : List Int} {p : Nat} {o : Int} {ls ls' : Lines} {b : Bool} (hz : st.length ≤ 950) (hpe : p = text.length) (ih : LoopOk w mg text cs n o [cs.getD 4 0, 0] 0 (-1) [] b ls') : LoopOk w mg text cs (n + 1) lone (34 :: st) p o ls b ls' := by
  intro A d bs h₀ h L a cd k m pa la lc R x r hd hp htl hc hR
  refine turnHead x r (by omega) hz fun h k m t x ht => ?_
  have ht' : m "top" = some (.int (34 : Nat) t) := ht
  refine wpAny_execs_cons (wpAny_If (wpAny_isTrue_value (vNon x.C r (by omega) x.F ht fun h k F K => wpAny_truthy_bool (ifF (by decide) ?_))))
  refine wpAny_execs_cons (wpAny_If (wpAny_isTrue_value (vEof x.C r (by omega) F ht fun h k F K' => wpAny_truthy_bool (ifF (by decide) ?_))))
  have y := (x.keeps K).keeps K'
  refine wpAny_execs_cons (iFd (tEat y ht' htl) (fun q => ?_) fun _ k => ?_)
  · rw [List.getElem?_eq_none (by omega)] at q; cases q
  refine wpAny_execs_cons (iFd (tAgain y ht' htl) (fun _ k => ?_) fun q => absurd ⟨hpe, rfl⟩ q)
  obtain ⟨t1, mt⟩ := y.mt
  obtain ⟨t2, mo⟩ := y.mo
  obtain ⟨vs, hcl, hci⟩ := y.hc
  have C' : Cx w mg h := x.C.keeps F.keep
  obtain ⟨ra, hra⟩ := x.C.nm 23 "_law_read" (by decide) rfl
  refine wpAny_execs_cons (wpAny_Return_some (Call_Name rfl (vG x.C F hra (callF (s := sh h k bs) 23 C' (by decide) hra (wpAny_items_cons (vN F mt (wpAny_items_cons (vN F y.mc (wpAny_items_cons (vN F mo (wpAny_items_nil ⟨fun _ _ e => e, ?_⟩)))))))))))
  exact readCall ih C' r hra (by omega) htl hc (hcl.at fun o e => F.keep _ _ e) hci fun h' k' T' la' xs' hk h1 h2 h3 => hR h' k' T' la' xs' (fun b o e => hk _ _ (F.keep _ _ e)) h1 h2 h3
end Mine

end
section
open PySem PySem.W PySem.Calls PyProof.Rows
set_option Elab.async false
set_option maxRecDepth 100000
namespace Mine
variable {w : World} {mg : Str → Option Value} {text : T} {cs : List Int}
def readThen : List Stmt := match readBody.getD 2 default with | .If _ b _ _ => b | _ => []
theorem RS.lt {h₀ h : Heap} {L : Addr} {m : Str → Option Value} {pa la lc : Addr} {lone : Int} {st : List Int} {p : Nat} {o : Int} {ls : Lines} (x : RS w mg text cs h₀ h L m pa la lc lone st p o ls) : ∀ a ∈ [pa, la, L], a < h.objs.size := by
  intro a ha
  obtain ⟨_, ⟨_, e1⟩, _⟩ := x.hp
  obtain ⟨_, ⟨_, e2⟩, _⟩ := x.hl
  simp at ha
  rcases ha with rfl | rfl | rfl
  · exact Heap.lt_size e1
  · exact Heap.lt_size e2
  · exact x.F.ns.lt
theorem rev_drop (l : List Int) : (l.reverse.drop 1).reverse = l.dropLast := by
  rw [List.drop_reverse, List.reverse_reverse, List.dropLast_eq_take]
theorem lawRight_len (role : Nat) (cs : List Int) (text : T) (p : Nat) (lone : Int) : (lawRight role cs text p lone).length ≤ 4 := by
  unfold lawRight
  split
  · simp
  · split
    · simp
    · dsimp only
      repeat' split
      all_goals simp

theorem LinesAre.length {X : List Addr} {h : Heap} {vs : List Value} {ls : Lines} (x : LinesAre X h vs ls) : vs.length = ls.length := by
  induction x with
  | nil => rfl
  | cons _ _ _ _ _ _ ih => simp [ih]
/-- the expansion's last three statements -/
theorem expandTail {A : Around} {d n : Nat} {bs : Shared} {h₀ h : Heap} {L a : Addr} {cd : Value} {k : Nat} {m : Str → Option Value} {pa la lc D : Addr} {lone top : Int} {st rt : List Int} {p : Nat} {o : Int} {ls ls' : Lines} {b : Bool} {us : List Value} {R : Result → Shared → Prop}
    (x : RS w mg text cs h₀ h L m pa la lc lone (top :: st) p o ls) (hm : m "right" = some (.ref D)) (hD : h.PlainList D (List.toArray us)) (hi : IntsAre us rt) (hDn : D ∉ [pa, la, L]) (hrt : rt.length ≤ 4) (r : Room A d) (hd : d + n ≤ 45) (hp : p ≤ text.length) (htl : text.length ≤ 500) (hcz : cs.length = 5)
    (hst : st.length ≤ 900) (hls : ls.length ≤ 900) (ih : LoopOk w mg text cs n lone (rt ++ st) p o (ls ++ [(text.take p, (rt ++ st).dropLast)]) b ls') (hR : ReadOut h₀ bs b ls' R) :
    wpAny (model P w) A (execs (readThen.drop 2) (envOf (rc 23).name (rc 23).scope L a cd)) (fun f s' => match f with
      | .next => RK w A L a cd R .next s'
      | f => RK w A L a cd R f s') (fun _ _ => False) (sh h k bs) := by
  obtain ⟨ys, u, hpl, hyi, hsz⟩ := x.popped
  refine wpAny_execs_cons (wpAny_Expr (mL PySem.F.slot_list_pop PySem.F.type_list_pop (vN x.F x.mp ⟨pa, _, _, _, rfl, rfl, hpl, lPop hpl (by omega) fun h₁ k₁ hp₁ hs₁ => ?_⟩)))
  have x₁ := x.pile hp₁ hyi hs₁
  have hD₁ := hD.extBut hs₁.extBut (fun e => hDn (by simp [e]))
  have hul : us.length = rt.length := by rw [hi.length]
  refine wpAny_execs_cons (wpAny_Expr (mL PySem.F.slot_list_extend PySem.F.type_list_extend (vN x₁.F x₁.mp ⟨pa, _, _, _, rfl, rfl, hp₁, lExtend (Subscript_ (vN x₁.F hm (wpAny_Slice (evalPart_none_step (evalPart_none_step (evalPart_some_step (wpAny_UnaryOp (cInt fun t k => iNeg fun t k => ?_))))))))⟩)))
  refine lSl hD₁.isList .none .none (.int _ _) (by decide) (by rw [List.size_toArray]; omega) (fun B h₂ k₂ hB hk₂ hfr => ?_) rfl (by intro _; rfl)
  rw [show (some (-(1 : Int))) = some (-1) from rfl, krv_pick] at hB
  refine ⟨B, ys, _, h₂, k₂, rfl, rfl, hp₁.at fun o e => hk₂ _ _ e, hB, by simp; omega, fun h₃ k₃ hp₃ hs₃ => ?_⟩
  have x₃ := (x₁.keeps hk₂).pile (st' := rt ++ st) hp₃ (by
    rw [List.reverse_append, Array.toList_append]
    exact ints_append hyi (by simpa using hi.reverse)) hs₃
  obtain ⟨xs, hl, hx⟩ := x₃.hl
  obtain ⟨t1, mt⟩ := x₃.mt
  obtain ⟨t2, mpl⟩ := x₃.mpl
  have hxl := hx.length
  refine wpAny_execs_cons (wpAny_Expr (mL PySem.F.slot_list_append PySem.F.type_list_append (vN x₃.F x₃.ml ⟨la, _, _, _, rfl, rfl, hl, lAppend (dTup (wpAny_items_cons (Subscript_Slice (vN x₃.F mt (wpAny_Slice (evalPart_none_step (evalPart_some_step (vN x₃.F mpl (evalPart_none_step ?_)))))))))⟩)))
  refine sliceNS x₃.F rfl (by omega) fun h₄ t4 k₄ F₄ K₄ => ?_
  have x₄ := x₃.keeps K₄
  obtain ⟨its, hp₄, hi₄⟩ := x₄.hp
  have hil : its.size = rt.length + st.length := by
    have := congrArg List.length (rfl : its.toList = its.toList)
    have h2 := hi₄.length
    simp at h2
    omega
  refine wpAny_items_cons (Subscript_ (vN F₄ x₄.mp (wpAny_Slice (evalPart_none_step (evalPart_some_step (cInt fun t k => evalPart_some_step (wpAny_UnaryOp (cInt fun t k => iNeg fun t k => ?_))))))))
  refine lSl hp₄.isList .none (.int _ _) (.int _ _) (by decide) (by omega) (fun B' h₅ k₅ hB' hk₅ hfr' => ?_) rfl (by intro _; rfl)
  rw [show (some (-(1 : Int))) = some (-1) from rfl, pick_rev0] at hB'
  have x₅ := x₄.keeps hk₅
  obtain ⟨xs₅, hl₅, hx₅⟩ := x₅.hl
  have hxl₅ := hx₅.length
  refine wpAny_items_nil ⟨by show 2 ≤ 3000; decide, _, _, rfl, ?_⟩
  have kp : Kp h₅ (h₅.push { cls := .type "tuple", data := .seq [Value.str (ofL (text.take p)) t4, .ref B'].toArray }) := fun b o e => Heap.get?_push_of_some _ e
  have hxs : xs₅.size = ls.length := by simpa using hxl₅
  refine ⟨xs₅, _, _, rfl, hl₅.at fun o e => kp _ _ e, by omega, fun h₆ k₆ hl₆ hs₆ => ?_⟩
  have x₆ := x₅.keeps kp
  have lt₅ := x₅.lt
  have lt₄ := x₄.lt
  have nT : h₅.objs.size ∉ [pa, la, L] := fun q => Nat.lt_irrefl _ (lt₅ _ q)
  have nB : B' ∉ [pa, la, L] := fun q => absurd (lt₄ _ q) (Nat.not_lt.mpr hfr')
  have hT : IsTup (h₅.push { cls := .type "tuple", data := .seq [Value.str (ofL (text.take p)) t4, .ref B'].toArray }) h₅.objs.size #[Value.str (ofL (text.take p)) t4, .ref B'] := ⟨_, Heap.get?_push_size _ rfl, rfl, _, rfl⟩
  have la_ne : ∀ a, a ∉ [pa, la, L] → a ≠ la := fun a q e => q (by simp [e])
  have hx₆ : LinesAre [pa, la, L] h₆ (xs₅.push (.ref h₅.objs.size)).toList (ls ++ [(text.take p, (rt ++ st).dropLast)]) := by
    rw [Array.toList_push]
    refine LinesAre.snoc ((hx₅.mono (fun _ q => q) fun _ _ _ e => kp _ _ e).mono (fun _ q => q) fun a o q e => hs₆.extBut _ _ (la_ne a q) e) nT nB (IsTup.at' hT fun o e => hs₆.extBut _ _ (la_ne _ nT) e)
      ((hB'.at fun o e => kp _ _ e).extBut hs₆.extBut (la_ne _ nB)) ?_
    rw [← rev_drop]
    exact (hi₄.drop 1).reverse
  have x₇ := x₆.lined hl₆ hx₆ hs₆
  exact wpAny_execs_nil (ih A d bs h₀ h₆ L a cd k₆ m pa la lc R x₇ r hd hp htl hcz hR)
end Mine

end
section
open PySem PySem.W PySem.Calls PyProof.Rows
set_option Elab.async false
set_option maxRecDepth 100000
namespace Mine
variable {w : World} {mg : Str → Option Value} {text : T} {cs : List Int}
theorem turnExpand {n : Nat} {lone top : Int} {st : List Int} {p : Nat} {o : Int} {ls ls' : Lines} {b : Bool} (role : Nat) (h : 256 ≤ top) (hj : cs[role]? = some top) (hno : ∀ i < role, cs[i]? ≠ some top) (hr : role ≤ 4)
      (hend : ∀ x, text.drop p = 92 :: x → x ≠ []) (hst : st.length ≤ 900) (hls : ls.length ≤ 900)
      (ih : LoopOk w mg text cs n lone (lawRight role cs text p lone ++ st) p (if (lawRight role cs text p lone).length = 4 ∧ (lawRight role cs text p lone).headD 0 = 34 then (p : Int) else o)
        (ls ++ [(text.take p, (lawRight role cs text p lone ++ st).dropLast)]) b ls') : LoopOk w mg text cs n lone (top :: st) p o ls b ls' := by
  intro A d bs h₀ h L a cd k m pa la lc R x r hd hp htl hc hR
  refine turnHead x r (by omega) (by omega) fun h k m t x ht => ?_
  refine wpAny_execs_cons (wpAny_If (wpAny_isTrue_value (vNon x.C r (by omega) x.F ht fun h k F K => wpAny_truthy_bool (ifT (decide_eq_true (by omega)) ?_))))
  have y := x.keeps K
  obtain ⟨t1, mt⟩ := y.mt
  obtain ⟨t2, mpl⟩ := y.mpl
  obtain ⟨t3, mlo⟩ := y.mlo
  obtain ⟨vs, hcl, hci⟩ := y.hc
  have C' : Cx w mg h := x.C.keeps F.keep
  obtain ⟨ra, hra⟩ := x.C.nm 22 "_law_right" (by decide) rfl
  have hcl' : h.PlainList lc vs := hcl.at fun o e => F.keep _ _ e
  refine wpAny_execs_cons (wpAny_Assign_Name (Call_Name rfl (vG x.C F hra (callF (s := sh h k bs) 22 C' (by decide) hra (wpAny_items_cons (mL PySem.F.slot_list_index PySem.F.type_list_index (vN F y.mc ⟨lc, vs, _, _, rfl, rfl, hcl', lIndex (vN F ht ⟨vs, cs, top, t, h, _, role, rfl, rfl, hcl', hci, by omega, hj, hno, fun t' k₂ => ?_⟩)⟩)))))))
  refine wpAny_items_cons (vN F y.mc (wpAny_items_cons (vN F mt (wpAny_items_cons (vN F mpl (wpAny_items_cons (vN F mlo (wpAny_items_nil ⟨fun _ _ e => e, right' C' r hra hcl' hci hc hr hp hend htl fun h₂ k₂ D us K₂ hD hi hf => ?_⟩))))))))
  have F₂ : Fr h₀ L h₂ m := F.keeps K₂
  have y₂ := y.keeps K₂
  refine stS F₂ fun h₃ k₃ F₃ K₃ => ?_
  have x₃ := y₂.store (n := "right") F₃ K₃ (by decide)
  have hDL : D ≠ L := fun e => by subst e; obtain ⟨_, _, _, q, _⟩ := F.ns; rw [hf] at q; cases q
  have hD₃ : h₃.PlainList D us.toArray := hD.at fun o e => K₃ _ _ hDL e
  have hDn : D ∉ [pa, la, L] := by
    obtain ⟨_, ⟨_, e1⟩, _⟩ := y.hp
    obtain ⟨_, ⟨_, e2⟩, _⟩ := y.hl
    intro q
    simp at q
    rcases q with rfl | rfl | q
    · rw [hf] at e1; cases e1
    · rw [hf] at e2; cases e2
    · exact hDL q
  have hlen := lawRight_len role cs text p lone
  have hul := hi.length
  generalize lawRight role cs text p lone = rt at *
  have cont : ∀ h₄ k₄ m₄ o', RS w mg text cs h₀ h₄ L m₄ pa la lc lone (top :: st) p o' ls → m₄ "right" = some (.ref D) → h₄.PlainList D us.toArray → o' = (if rt.length = 4 ∧ rt.headD 0 = 34 then (p : Int) else o) →
      wpAny (model P w) A (execs (readThen.drop 2) (envOf (rc 23).name (rc 23).scope L a cd)) (fun f s' => match f with
      | .next => RK w A L a cd R .next s'
      | f => RK w A L a cd R f s') (fun _ _ => False) (sh h₄ k₄ bs) := by
    intro h₄ k₄ m₄ o' x₄ hm₄ hD₄ ho
    subst ho
    exact expandTail x₄ hm₄ hD₄ hi hDn hlen r (by omega) hp htl hc hst hls ih hR
  refine wpAny_execs_cons (iFd (p := rt.length = 4 ∧ rt.headD 0 = 34) ?_ (fun q k => ?_) fun q k => wpAny_execs_nil ?_)
  · have e : decide (rt.length = 4 ∧ rt.headD 0 = 34) = (decide ((rt.length : Int) = 4) && decide (rt.headD 0 = 34)) := by
      rw [Bool.eq_iff_iff]; simp; omega
    have hsz : us.toArray.size = rt.length := by simpa using hul
    rw [e]
    refine Tst.and2 (fun Q E k H => ?_) fun h4 Q E k H => ?_
    · refine wpAny_isTrue_Compare1 (Call_Name rfl (vB x.C F₃ boot_len (argB1 (vN F₃ rfl (lenL hD₃.isList (by omega) fun t k => cInt fun t k => eq_int (wpAny_truthy_bool ?_))))))
      rw [hsz]
      exact H _
    · refine wpAny_isTrue_Compare1 (Subscript_ (vN F₃ rfl (cInt fun t k => lItem (i := 0) rfl hD₃.isList hi (by have := of_decide_eq_true h4; omega) (by omega) fun u => cInt fun t k => eq_int (wpAny_truthy_bool ?_))))
      have : rt.getD 0 0 = rt.headD 0 := by cases rt <;> rfl
      rw [this]
      exact H _
  · obtain ⟨t5, mp5⟩ := x₃.mpl
    refine wpAny_execs_cons (wpAny_Assign_Name (vN F₃ mp5 (stS F₃ fun h₄ k₄ F₄ K₄ => wpAny_execs_nil ?_)))
    refine wpAny_mono (cont _ _ _ _ (x₃.opened F₄ K₄) rfl (hD₃.at fun o e => K₄ _ _ hDL e) (by rw [if_pos q])) (fun f s' z => ?_) fun _ _ z => z
    cases f with
    | next => exact wpAny_execs_nil z
    | _ => exact z
  · refine wpAny_mono (cont _ _ _ _ x₃ rfl hD₃ (by rw [if_neg q])) (fun f s' z => ?_) fun _ _ z => z
    cases f with
    | next => exact wpAny_execs_nil z
    | _ => exact z
theorem read {n : Nat} {lone : Int} {st : List Int} {p : Nat} {o : Int} {ls ls' : Lines} {b : Bool} (g : Go text cs n lone st p o ls b ls') (hz : st.length ≤ 950) : LoopOk w mg text cs n lone st p o ls b ls' := by
  induction g with
  | eof => exact turnEof (by simp at hz; omega)
  | @expand n lone top st p o ls b ls' role h hj hno hr hend hst hls hne next ih =>
    have := lawRight_len role cs text p lone
    exact turnExpand role h hj hno hr hend hst hls (ih (by rw [List.length_append]; omega))
  | eat c h0 h hat next ih => simp at hz; exact turnEat (by omega) c h0 h hat (ih (by omega))
  | again hp next ih => simp at hz; exact turnAgain (by omega) hp (ih (by simp))
  | fail c h0 h h1 h2 => simp at hz; exact turnFail (by omega) c h0 h h1 h2
/-- _law_read -/
theorem lawRead {n : Nat} {lone : Int} {b : Bool} {ls' : Lines} (g : Go text cs n lone [cs.getD 4 0, 0] 0 (-1) [] b ls')
    {A : Around} {d : Nat} {bs : Shared} {h : Heap} {a : Addr} {k0 : Nat} {lc : Addr} {vs : Array Value} {t1 t2 : Tok} {R : Result → Shared → Prop} (C : Cx w mg h) (r : Room A d) (ha : mg "_law_read" = some (.ref a)) (hd : d + 1 + n ≤ 45)
    (htl : text.length ≤ 500) (hcz : cs.length = 5) (hc : h.PlainList lc vs) (hi : IntsAre vs.toList cs) (hR : ReadOut h bs b ls' R) :
    codeAny (model P w) A (.call (.ref a) ⟨[.str (ofL text) t1, .ref lc, .int lone t2], []⟩) R (sh h k0 bs) :=
  readCall (read g (by simp)) C r ha hd htl hcz hc hi hR
end Mine

end
section
open PySem PySem.W PySem.Calls PyProof.Rows
open Sem (wp)
set_option Elab.async false
set_option maxRecDepth 100000
namespace Mine
section
variable {w : World} {A : Around} {R : GenEnd} {Y : Protocol} {n : Nat} {s₀ : Shared} {c : Code} {fs : List Frame} {s : Shared} {env : Env}
  {K : Flow → Sem Fin} {H : Value → Sem Fin} {gd : Bool → Bool} {lv : List Value → List Value}
theorem segS {st : Stmt} {rest : List Stmt} (h : wpAny (model P w) (A.over c fs) (exec st env) (fun f s' => match f with | .next => Seg (model P w) A R Y n s₀ c ((execs rest env).wrap K H gd lv) fs s' | f => Seg (model P w) A R Y n s₀ c (K f) fs s') (fun _ _ => False) s) :
    Seg (model P w) A R Y n s₀ c ((execs (st :: rest) env).wrap K H gd lv) fs s :=
  seg_execs_cons (seg_wrap (wpAny_mono h (fun f s' q => by cases f <;> exact q) fun _ _ q => q.elim))
theorem segIf {test : Expr} {body orelse rest : List Stmt} {pos : Pos}
    (h : wpAny (model P w) (A.over c fs) (isTrue test env (eval test env)) (fun b s' => if b = true then Seg (model P w) A R Y n s₀ c ((execs body env).wrap (fun f => match f with | .next => (execs rest env).wrap K H gd lv | f => K f) H gd lv) fs s'
        else Seg (model P w) A R Y n s₀ c ((execs orelse env).wrap (fun f => match f with | .next => (execs rest env).wrap K H gd lv | f => K f) H gd lv) fs s') (fun _ _ => False) s) :
    Seg (model P w) A R Y n s₀ c ((execs (.If test body orelse pos :: rest) env).wrap K H gd lv) fs s := by
  refine seg_execs_cons ?_
  rw [exec_If]
  refine seg_bind_wrap (wpAny_standAt (seg_bind_wrap (wpAny_mono h (fun b s' q => ?_) fun _ _ q => q.elim)))
  cases b with
  | true => rw [if_pos rfl] at q; exact q
  | false => rw [if_neg Bool.false_ne_true] at q; exact q
theorem segFor {target iter : Expr} {body orelse rest : List Stmt} {pos : Pos}
    (h : wpAny (model P w) (A.over c fs) (eval iter env) (fun x s₁ => wpAny (model P w) (A.over c fs) (pyIter x) (fun it s₂ => ∀ (k : Result → Sem Fin) (p : Pos),
        (∀ n' s₀' s₃, Seg (model P w) A R Y n' s₀' c ((execs rest env).wrap K H gd lv) fs s₃ → Seg (model P w) A R Y n' s₀' c (k (.ok .next)) fs s₃) →
        Seg (model P w) A R Y n s₀ (.forLoop target it body orelse env) ((model P w).den (.forLoop target it body orelse env)) (.ret k none (gd false) (lv []) c p [] :: fs) s₂) (fun _ _ => False) s₁) (fun _ _ => False) s)
    (hs : ∀ x, foldedSetIterable iter env x = pure x := by intro _; rfl) :
    Seg (model P w) A R Y n s₀ c ((execs (.For target iter body orelse pos :: rest) env).wrap K H gd lv) fs s := by
  refine seg_execs_cons ?_
  rw [exec_For]
  refine seg_bind_wrap (wpAny_standAt (seg_bind_wrap (wpAny_mono h (fun x s₁ q => ?_) fun _ _ q => q.elim)))
  refine seg_bind_wrap (wpAny_of_eq (hs x) (seg_bind_wrap (wpAny_standAt (seg_bind_wrap (wpAny_holding (wpAny_mono q (fun it s₂ q => ?_) fun _ _ q => q.elim))))))
  refine seg_call fun p => q _ p fun _ _ s₃ x => ?_
  exact x
end
section
variable {w : World} {A : Around} {R : GenEnd} {Y : Protocol} {n : Nat} {s₀ : Shared} {fs : List Frame} {s : Shared} {env : Env}
theorem segLoop {target : Expr} {it : Value} {body : List Stmt}
    (h : wpAny (model P w) (A.over (.forLoop target it body [] env) fs) (pyNext it) (fun r s₁ => match r with
      | none => Seg (model P w) A R Y n s₀ (.forLoop target it body [] env) (.pure (.again (.block [] env))) fs s₁
      | some v => wpAny (model P w) (A.over (.forLoop target it body [] env) fs) (letOwnedTupleGo target it v) (fun _ s₂ => wpAny (model P w) (A.over (.forLoop target it body [] env) fs) (assign target env v) (fun _ s₃ =>
          Seg (model P w) A R Y n s₀ (.forLoop target it body [] env) ((execs body env).wrap (fun f => match f with
            | .next | .cont => .pure (.again (.forLoop target it body [] env))
            | .brk => .pure (.done .next)
            | .ret v => .pure (.done (.ret v))) (fun e => (do noteFrame e env; theTreesLotGoes e : Sem Unit).wrap (fun _ => .raise e) .raise id id) id id) fs s₃) (fun _ _ => False) s₂) (fun _ _ => False) s₁) (fun _ _ => False) s) :
    Seg (model P w) A R Y n s₀ (.forLoop target it body [] env) ((model P w).den (.forLoop target it body [] env)) fs s := by
  show Seg _ A R Y n s₀ _ ((forTurn target it body [] env).onRaise (fun x => do noteFrame x env; theTreesLotGoes x)) fs s
  simp only [forTurn]
  rw [Sem.onRaise_eq_wrap]
  refine seg_bind_wrap (wpAny_standAt (seg_bind_wrap (wpAny_onRaise (wpAny_mono h (fun r s₁ q => ?_) fun _ _ q => q.elim))))
  cases r with
  | none => exact q
  | some v =>
    refine seg_bind_wrap (wpAny_mono q (fun _ s₂ q => ?_) fun _ _ q => q.elim)
    refine seg_bind_wrap (wpAny_mono q (fun _ s₃ q => ?_) fun _ _ q => q.elim)
    rw [Sem.bind_eq_wrap', Sem.wrap_wrap]
    rw [Sem.wrap_congr (execs body env) _ _ (K' := fun f => match f with
            | .next | .cont => .pure (.again (.forLoop target it body [] env))
            | .brk => .pure (.done .next)
            | .ret v => .pure (.done (.ret v))) (H' := (fun e => (do noteFrame e env; theTreesLotGoes e : Sem Unit).wrap (fun _ => .raise e) .raise id id))
        (fun f => by cases f <;> rfl)
        (fun e => by first | exact Sem.bind_eq_wrap _ _ | (show (do noteFrame e env; theTreesLotGoes e : Sem Unit).bind (fun _ => .raise e) = _; rw [Sem.bind_eq_wrap]))]
    exact q
/-- the loop is over: on to what follows it -/
theorem segOut {c : Code} {k h g l c₁ p₁ kp} (hk : Seg (model P w) A R Y n s₀ c₁ (k (.ok .next)) fs s) :
    Seg (model P w) A R Y n s₀ c (.pure (.again (.block [] env))) (.ret k h g l c₁ p₁ kp :: fs) s := by
  refine seg_again rfl ?_
  show Seg _ A R Y n s₀ _ (((execs [] env).onRaise (fun x => do noteFrame x env; theTreesLotGoes x)) >>= fun f => pure (.done f)) _ s
  rw [Sem.onRaise_eq_wrap]
  exact seg_leaf (.ok .next) hk
/-- the exception at a generator's end -/
theorem newStop : newExc (.type "StopIteration") [] = (newTuple [] >>= fun t => newObj (.type "StopIteration") (.fields #[t, .none, .none, .none, .bool false, .none])) := by
  have e : firstArgMember (.type "StopIteration") [] = pure .none := by first | rfl | (unfold firstArgMember; rfl)
  unfold newExc
  rw [e]
  rfl
theorem raiseStop {M : Model} {A : Around} {α β : Type} {E : Value → Shared → Prop} {s : Shared} {Q : β → Shared → Prop} {k : α → Sem β} (hh : A.handled = none)
    (H : ∀ h' e, Kp s.heap h' → ({ s with heap := h' } : Shared).TypeIs (.ref e) "StopIteration" → E (.ref e) { s with heap := h' }) : wpAny M A (newExc (.type "StopIteration") [] >>= fun e => (raiseNew e : Sem α) >>= k) Q E s := by
  rw [newStop, newTuple]
  have up : ∀ (h : Heap) (o : Obj), Kp h (h.push o) := fun _ _ _ _ e => Heap.get?_push_of_some _ e
  exact wpAny_bind (wpAny_bind (wpAny_newObj_type (wpAny_newObj_type (wpAny_bind (wpAny_raiseNew_none hh (H _ _ (fun b o e => up _ _ b o (up _ _ b o e)) ⟨_, Heap.get?_push_size _ rfl, rfl⟩))) (by size_fits)) (by size_fits)))
section
variable {w : World} {A : Around} {s : Shared} {a : Addr} {g n : Nat} {st : GenState} {P' : Nat → Shared → Shared → Prop} {Y : Protocol}
/-- how a generator of a def ends -/
abbrev EndsNone (P' : Nat → Shared → Shared → Prop) : GenEnd := fun n s₀ r s₁ => r = .ok (.ret .none) ∧ P' n s₀ s₁
/-- what may come behind a turn of n left -/
abbrev Onward (w : World) (A : Around) (P' : Nat → Shared → Shared → Prop) (Y : Protocol) (st' : GenState) : Nat → Resume → Shared → Prop
  | 0, _, _ => False
  | m + 1, r, s' => st'.Goes (model P w) A (EndsNone P') Y m r s'
/-- a generator of a def is woken: a value, or its end -/
theorem wakeGen {E : Value → Shared → Prop} {Q : Fin → Shared → Prop} (hh : A.handled = none) (hl : s.heap.NoLimit) (hroom : A.depth < recursionLimit) (hg : s.heap.IsGen a g) (hst : s.gens[g]? = some st)
    (hgo : st.Goes (model P w) A (EndsNone P') Y n (.send .none) (s.setGen g .running))
    (hv : ∀ v s₁ st', st'.bare = true → Y (n - 1) (s.setGen g .running) v s₁ (fun r' s'' => Onward w A P' Y st' n r' s'') → Q (.done (.ret v)) (s₁.setGen g st'))
    (he : ∀ s₁ h' e, P' n (s.setGen g .running) s₁ → Kp s₁.heap h' → ({ s₁.setGen g .finished with heap := h' } : Shared).TypeIs (.ref e) "StopIteration" → E (.ref e) { s₁.setGen g .finished with heap := h' }) :
    wpAny (model P w) A (Builtin.Generator.genWake (.ref a) (.send .none)) Q E s := by
  have turn : ∀ k : GenResult → Sem Fin, (∀ v, k (.yielded v) = ret v) → (∀ s', (∀ h' e, Kp s'.heap h' → ({ s' with heap := h' } : Shared).TypeIs (.ref e) "StopIteration" → E (.ref e) { s' with heap := h' }) → wpAny (model P w) A (k (.returned .none)) Q E s') →
      wpAny (model P w) A (.resume g (.send .none) [] k) Q E s := fun k h1 h2 => by
    refine wpAny_resumeQ hst hgo (fun x s₁ hx => ?_) fun v s₁ st' hb y => ?_
    · rw [hx.1]
      exact h2 _ fun h' e kp ty => he s₁ h' e hx.2 kp ty
    · rw [h1]
      refine wpAny_pure (hv v s₁ st' hb ?_)
      cases n <;> exact y
  unfold Builtin.Generator.genWake
  refine wpAny_bind (wpAny_holding (wpAny_genNumber hg (wpAny_bind (wpAny_genState hst ?_))))
  cases st.status with
  | fresh => exact wpAny_bind (wpAny_roomToWake hl hroom (turn _ (fun _ => rfl) fun s' H => raiseStop hh H))
  | suspended => exact wpAny_bind (wpAny_roomToWake hl hroom (turn _ (fun _ => rfl) fun s' H => raiseStop hh H))
  | running => exact turn _ (fun _ => rfl) fun s' H => raiseStop hh H
  | finished => exact turn _ (fun _ => rfl) fun s' H => raiseStop hh H
/-- a generator of a def steps on -/
theorem nextGen {E : Value → Shared → Prop} {Q : Option Value → Shared → Prop} (hh : A.handled = none) (hl : s.heap.NoLimit) (hroom : A.depth < recursionLimit) (hg : s.heap.IsGen a g) (hst : s.gens[g]? = some st)
    (hgo : st.Goes (model P w) A.in1 (EndsNone P') Y n (.send .none) (s.setGen g .running))
    (hY : ∀ v s₁ st', st'.bare = true → Y (n - 1) (s.setGen g .running) v s₁ (fun r' s'' => Onward w A.in1 P' Y st' n r' s'') → Q (some v) (s₁.setGen g st'))
    (hP : ∀ s₁, P' n (s.setGen g .running) s₁ → ∀ h', Kp s₁.heap h' → Q none { s₁.setGen g .finished with heap := h' }) :
    wpAny (model P w) A (pyNext (.ref a)) Q E s := by
  have woken : wpAny (model P w) A.in1 (Builtin.Generator.genWake (.ref a) (.send .none)) (fun r s' => ∃ v, r = .done (.ret v) ∧ Q (some v) s') (fun e s' => wpAny (model P w) A (isInstance e (.type "StopIteration")) (fun b s'' => b = true ∧ Q none s'') E s') s :=
    wakeGen hh hl hroom hg hst hgo (fun v s₁ st' hb y => ⟨v, rfl, hY v s₁ st' hb y⟩) fun s₁ h' e p k ty => wpAny_isInstance (b := true) ty isSubtype_stop ⟨rfl, hP s₁ p h' k⟩
  unfold pyNext
  refine wpAny_bind (wpAny_attempt (wpAny_callSpecial?_slot (name := Str.ofString "__next__") hg.typeIs slot_gen_next (wpAny_call_entry slot_gen_next hg.typeIs entry_gen_next (wpAny_mono woken (fun r s' q => ?_) fun e s' q => ?_) (args_gen_next _))))
  · obtain ⟨v, rfl, q⟩ := q
    exact ⟨v, rfl, wpAny_pure q⟩
  · refine wpAny_bind (wpAny_mono q (fun b s'' q => ?_) fun _ _ q => q)
    rw [q.1]
    exact wpAny_pure q.2
end
end
end Mine

end
section
open PySem PySem.W PySem.Calls PyProof.Rows
set_option Elab.async false
set_option maxRecDepth 100000
namespace Mine
/-- what _iter_escaped_chars yields from a place on -/
def escs : Nat → Bool → T → List (Nat × T)
  | p, true, [] => [(p - 1, [92])]
  | _, false, [] => []
  | p, true, c :: r => (p, [92, c]) :: escs (p + 1) false r
  | p, false, c :: r => if c = 92 then escs (p + 1) true r else (p, [c]) :: escs (p + 1) false r

/-- what the taker leaves alone -/
structure Al (h₀ : Heap) (nr L : Nat) (h h' : Heap) : Prop where
  base : ∀ b o, h₀.get? b = some o → h'.get? b = some o
  own : ∀ b o, (b = L ∨ nr ≤ b) → h.get? b = some o → h'.get? b = some o
  big : ∃ o, h'.get? (nr - 1) = some o
/-- what the generator leaves alone -/
abbrev Gk (nr L : Nat) (h h' : Heap) : Prop := ∀ b o, b < nr → b ≠ L → h.get? b = some o → h'.get? b = some o
def prot (h₀ : Heap) (nr L : Nat) (prs : List (Nat × T)) : Protocol := fun m s₀ v s kap =>
  ∃ x, prs[prs.length - 1 - m]? = some x ∧ ∃ h' tk Tt tu u, s = sh h' tk s₀ ∧ v = .ref Tt ∧ IsTup h' Tt #[.int (x.1 : Nat) tu, .str (ofL x.2) u] ∧ nr ≤ Tt ∧ Gk nr L s₀.heap h' ∧ ∀ s'' : Shared, Al h₀ nr L h' s''.heap → kap (.send .none) s''
def endG (nr L : Nat) (n : Nat) (s₀ s : Shared) : Prop := n = 0 ∧ ∃ h' tk, s = sh h' tk s₀ ∧ Gk nr L s₀.heap h'
abbrev endR (nr L : Nat) : GenEnd := fun n s₀ r s₁ => r = .ok (.ret .none) ∧ endG nr L n s₀ s₁

def gBody : List Stmt := (rc 2).body
def gFor : Stmt := gBody.getD 2 default
def gLoop : List Stmt := match gFor with | .For _ _ b _ _ => b | _ => []
def gTarget : Expr := match gFor with | .For t _ _ _ _ => t | _ => default

section
variable {w : World} {mg : Str → Option Value} {A : Around} {h₀ : Heap} {nr L a : Nat} {cd : Value} {text : T} {prs : List (Nat × T)}
/-- the yield of a pair -/
theorem yieldPair {c : Code} {fs : List Frame} {K : Flow → Sem Fin} {H : Value → Sem Fin} {gd : Bool → Bool} {lv : List Value → List Value} {n : Nat} {s₀ : Shared} {h : Heap} {k kk : Nat} {m : Str → Option Value} {e : Expr} {p1 p2 p3 p4 : Pos} {pos : Nat} {t : Tok} {x : T} {rest : List Stmt}
    (hfs : splitAtGen fs = none) (hgd : gd false = false) (hfg : fs.any Frame.guarded = false) (F : Fr h₀ L h m) (hK : Gk nr L s₀.heap h) (hnr : ∃ o, h.get? (nr - 1) = some o) (hm : m "pos" = some (.int pos t)) (hx : prs[prs.length - 1 - n]? = some (pos, x))
    (hv : ∀ (A' : Around) (Q : Value → Shared → Prop) (E : Value → Shared → Prop) k, (∀ u k', Q (.str (ofL x) u) (sh h k' s₀)) → wpAny (model P w) A' (eval e (envOf (rc 2).name (rc 2).scope L a cd)) Q E (sh h k s₀))
    (hn : ∀ (s'' : Shared) (h' : Heap), Fr h₀ L s''.heap m → Al h₀ nr L h s''.heap → Seg (model P w) A (endR nr L) (prot h₀ nr L prs) n s'' c ((execs rest (envOf (rc 2).name (rc 2).scope L a cd)).wrap K H gd lv) fs s'')
    (hst : starEach [e] (envOf (rc 2).name (rc 2).scope L a cd) = (false, eval e (envOf (rc 2).name (rc 2).scope L a cd)) :: starEach [] (envOf (rc 2).name (rc 2).scope L a cd) := by rfl) :
    Seg (model P w) A (endR nr L) (prot h₀ nr L prs) (n + 1) s₀ c ((execs (.Expr (.Yield (some (.Tuple [.Name "pos" p1, e] kk p2)) p3) p4 :: rest) (envOf (rc 2).name (rc 2).scope L a cd)).wrap K H gd lv) fs (sh h k s₀) := by
  refine seg_execs_cons (seg_Expr_Yield hfs hgd hfg (wpAny_mono (E := fun _ _ => False) (dTup (wpAny_items_cons (vN F hm (wpAny_items_cons (he := hst) (hv _ _ _ _ fun u k' => wpAny_items_nil ⟨by show 2 ≤ 3000; decide, _, _, rfl, ?_⟩))))) (fun v s' q => q) fun _ _ q => q.elim))
  intro kap hk
  have kp : Kp h (h.push { cls := .type "tuple", data := .seq [Value.int pos t, .str (ofL x) u].toArray }) := fun b o e => Heap.get?_push_of_some _ e
  refine ⟨_, hx, _, _, _, t, u, rfl, rfl, ⟨_, Heap.get?_push_size _ rfl, rfl, _, rfl⟩, by obtain ⟨_, q⟩ := hnr; exact Nat.le_of_pred_lt (Heap.lt_size q), fun b o h1 h2 e => kp _ _ (hK b o h1 h2 e), fun s'' al => hk .none s'' ?_⟩
  refine hn s'' h ⟨F.ns.at' fun o e => al.own _ _ (.inl rfl) (kp _ _ e), al.base, F.above⟩ ⟨al.base, fun b o hb e => al.own b o hb (kp _ _ e), al.big⟩

theorem prs_at {done rest : List (Nat × T)} {x : Nat × T} (h : prs = done ++ x :: rest) : prs[prs.length - 1 - rest.length]? = some x := by
  rw [h]; simp
abbrev genEnv2 (L a : Addr) (cd : Value) : Env := envOf (rc 2).name (rc 2).scope L a cd
/-- after the loop -/
theorem genEnd {s₀ : Shared} {h : Heap} {k : Nat} {m : Str → Option Value} {e : Bool} {pos : Nat} {t : Tok} {done : List (Nat × T)} (F : Fr h₀ L h m) (hK : Gk nr L s₀.heap h) (hnr : ∃ o, h.get? (nr - 1) = some o) (hm : m "pos" = some (.int pos t)) (he : m "escape" = some (.bool e))
    (hp : prs = done ++ escs (pos + 1) e []) {H : Value → Sem Fin} {c : Code} :
    Seg (model P w) A (endR nr L) (prot h₀ nr L prs) (escs (pos + 1) e []).length s₀ c ((execs (gBody.drop 3) (genEnv2 L a cd)).wrap (fun f => .pure (.done (.ret (match f with | .ret v => v | _ => .none)))) H id id) [] (sh h k s₀) := by
  refine segIf (wpAny_isTrue_value (vN F he (wpAny_truthy_bool ?_)))
  cases e with
  | false => exact ifF rfl (seg_end (.ok (.ret .none)) ⟨rfl, rfl, h, k, rfl, hK⟩)
  | true =>
    refine ifT rfl ?_
    refine yieldPair (n := 0) rfl rfl rfl F hK hnr hm (x := [92]) (prs_at (rest := []) hp) (fun A' Q E k H => cStr [92] H) fun s'' h' F' al => ?_
    exact seg_end (.ok (.ret .none)) ⟨rfl, rfl, s''.heap, s''.toks, rfl, fun _ _ _ _ e => e⟩

abbrev chAt (text : T) (i : Nat) (vals : Array Value) : Prop := ∃ t c u, text[i]? = some c ∧ vals = #[.int (i : Nat) t, .str (ofL [c]) u]
theorem genLoop {E : Addr} {fp : List Addr} {St : Nat → Heap → Prop} {Mid : Nat → Addr → Heap → Prop}
    (W : ∀ A' : Around, A'.handled = none → WalksT P w A' E fp fp text.length (chAt text) St Mid) (hA : A.handled = none) (hfp : ∀ b ∈ fp, nr ≤ b) (hLn : L < nr - 1) (h0 : h₀.objs.size ≤ L)
    {k : Result → Sem Fin} {c0 : Code} {gg : Bool} {l : List Value} {p : Pos} (hgg : gg = false)
    (hout : ∀ n' s₀' s₃, Seg (model P w) A (endR nr L) (prot h₀ nr L prs) n' s₀' c0 ((execs (gBody.drop 3) (genEnv2 L a cd)).wrap (fun f => .pure (.done (.ret (match f with | .ret v => v | _ => .none)))) (fun e => (leaving (genEnv2 L a cd) e).wrap (fun _ => .raise e) .raise id id) id id) [] s₃ →
      Seg (model P w) A (endR nr L) (prot h₀ nr L prs) n' s₀' c0 (k (.ok .next)) [] s₃) :
    ∀ (r : T) (i : Nat) (e : Bool) (done : List (Nat × T)) (s₀ : Shared) (h : Heap) (kk : Nat) (m : Str → Option Value) (t : Tok) (pos : Nat), text.drop i = r → i ≤ text.length → prs = done ++ escs i e r → Fr h₀ L h m → Gk nr L s₀.heap h → (∃ o, h.get? (nr - 1) = some o) → St i h →
      m "pos" = some (.int pos t) → m "escape" = some (.bool e) → (0 < i → pos + 1 = i) → (i = 0 → e = false) →
      Seg (model P w) A (endR nr L) (prot h₀ nr L prs) (escs i e r).length s₀ (.forLoop gTarget (.ref E) gLoop [] (genEnv2 L a cd)) ((model P w).den (.forLoop gTarget (.ref E) gLoop [] (genEnv2 L a cd)))
        [.ret k none gg l c0 p []] (sh h kk s₀) := by
  subst hgg
  have hLf : L ∉ fp := fun q => absurd (hfp _ q) (Nat.not_le.mpr (Nat.lt_of_lt_of_le hLn (Nat.sub_le _ _)))
  have hbf : ∀ b o, h₀.get? b = some o → b ∉ fp := fun b o e q => absurd (hfp _ q) (Nat.not_le.mpr (Nat.lt_trans (Nat.lt_of_lt_of_le (Heap.lt_size e) h0) (Nat.lt_of_lt_of_le hLn (Nat.sub_le _ _))))
  have hgf : nr - 1 ∉ fp := fun q => by have := hfp _ q; omega
  have hgL : nr - 1 ≠ L := fun q => absurd hLn (by rw [q]; exact Nat.lt_irrefl _)
  have hov : (A.over (.forLoop gTarget (.ref E) gLoop [] (genEnv2 L a cd)) [.ret k none false l c0 p []]).handled = none := hA
  intro r
  induction r with
  | nil =>
    intro i e done s₀ h kk m t pos hdr hi hp F hK hnr hst hm he hpos h0e
    have hil : i = text.length := by
      have := congrArg List.length hdr
      simp at this; omega
    refine segLoop ((W _ hov).done _ _ _ (by rw [← hil]; exact hst) fun h₁ tk₁ hk₁ => segOut (hout _ _ _ ?_))
    have F₁ : Fr h₀ L h₁ m := ⟨F.ns.at' fun o e => hk₁ _ o hLf e, fun b o e => hk₁ b o (hbf b o e) (F.keep b o e), F.above⟩
    have hK₁ : Gk nr L s₀.heap h₁ := fun b o h1 h2 e => hk₁ b o (fun q => absurd (hfp _ q) (Nat.not_le.mpr h1)) (hK b o h1 h2 e)
    have hsz : ∃ o, h₁.get? (nr - 1) = some o := let ⟨o, q⟩ := hnr; ⟨o, hk₁ _ o hgf q⟩
    cases i with
    | zero =>
      obtain rfl := h0e rfl
      exact genEnd (e := false) F₁ hK₁ hsz hm he hp
    | succ i =>
      obtain rfl : pos = i := by have := hpos (by omega); omega
      exact genEnd F₁ hK₁ hsz hm he hp
  | cons c r ih =>
    intro i e done s₀ h kk m t pos hdr hi hp F hK hnr hst hm he hpos h0e
    have hat : text[i]? = some c := by
      have := congrArg (·[0]?) hdr
      simpa using this
    have hlt : i < text.length := by
      rcases Nat.lt_or_ge i text.length with q | q
      · exact q
      · rw [List.getElem?_eq_none q] at hat; cases hat
    have hdr' : text.drop (i + 1) = r := by rw [← List.drop_drop, hdr]; rfl
    refine segLoop ((W _ hov).item i _ _ _ hlt hst fun Tt vals h₁ tk₁ hPt _ hT hMid hk₁ => (W _ hov).go _ _ _ i Tt _ _ _ hMid fun h₂ hst₂ hk₂ => ?_)
    obtain ⟨t1, c', u1, hc', rfl⟩ := hPt
    obtain rfl : c' = c := Option.some.inj (hc'.symm.trans hat)
    have ht₂ : h₂.IsTuple Tt #[.int (i : Nat) t1, .str (ofL [c']) u1] := hT.at fun o e => hk₂ Tt o ((W _ hov).apart i Tt h₁ hMid) e
    refine wpAny_assign_Tuple hov ht₂ rfl rfl fun h₃ hx₃ => ?_
    replace hx₃ : Heap.ExtBut h₂.objs.size h₂ h₃ := hx₃
    have up₃ : ∀ b o, h₂.get? b = some o → h₃.get? b = some o := fun b o x => hx₃ b o (Nat.ne_of_lt (Heap.lt_size x)) x
    have up : ∀ b o, b ∉ fp → h.get? b = some o → h₃.get? b = some o := fun b o hb e => up₃ b o (hk₂ b o hb (hk₁ b o hb e))
    have F₃ : Fr h₀ L h₃ m := ⟨F.ns.at' fun o e => up _ o hLf e, fun b o e => up b o (hbf b o e) (F.keep b o e), F.above⟩
    refine assignInOrder_cons (wpAny_assign_Name (stS (k := tk₁) (b := s₀) F₃ fun h₄ k₄ F₄ K₄ => assignInOrder_cons (wpAny_assign_Name (stS F₄ fun h₅ k₅ F₅ K₅ => assignInOrder_nil ?_))))
    have hst₅ : St (i + 1) h₅ := (W _ hov).frame _ _ _ hst₂ fun b hb o e => K₅ b o (fun q => hLf (q ▸ hb)) (K₄ b o (fun q => hLf (q ▸ hb)) (up₃ b o e))
    have hK₅ : Gk nr L s₀.heap h₅ := fun b o h1 h2 e => K₅ b o h2 (K₄ b o h2 (up b o (fun q => absurd (hfp _ q) (Nat.not_le.mpr h1)) (hK b o h1 h2 e)))
    have hz₅ : ∃ o, h₅.get? (nr - 1) = some o := let ⟨o, q⟩ := hnr; ⟨o, K₅ _ _ hgL (K₄ _ _ hgL (up _ _ hgf q))⟩
    cases e with
    | true =>
      refine segIf (wpAny_isTrue_value (vN F₅ he (wpAny_truthy_bool (ifT rfl ?_))))
      refine yieldPair (x := [92, c']) rfl rfl rfl F₅ hK₅ hz₅ rfl (prs_at (rest := escs (i + 1) false r) (by rw [hp]; rfl)) (fun A' Q E k H => ?_) fun s'' h' F' al => ?_
      · exact wpAny_BinOp (cStr [92] fun t k => vN F₅ rfl (sAdd (by show 1 + 1 ≤ 3000; decide) fun t k => H _ _))
      · refine segS (wpAny_Assign_Name (wpAny_Constant_bool (stS (k := s''.toks) (b := s'') F' fun h₆ k₆ F₆ K₆ => ?_)))
        have hst₆ : St (i + 1) h₆ := (W _ hov).frame _ _ _ hst₅ fun b hb o e => K₆ b o (fun q => hLf (q ▸ hb)) (al.own b o (.inr (hfp _ hb)) e)
        refine seg_again rfl (ih (i + 1) false (done ++ [(i, [92, c'])]) s'' h₆ k₆ _ _ i hdr' hlt (by rw [hp]; simp [escs]) F₆ (fun b o _ h2 e => K₆ b o h2 e) (let ⟨o, q⟩ := al.big; ⟨o, K₆ _ _ hgL q⟩) hst₆ rfl rfl (fun _ => rfl) fun _ => rfl)
    | false =>
      refine segIf (wpAny_isTrue_value (vN F₅ he (wpAny_truthy_bool (ifF rfl ?_))))
      refine segIf ((tEqLit F₅ rfl [92]) _ _ _ fun k => ?_)
      by_cases h92 : c' = 92
      · refine ifT (by rw [one_eq]; exact decide_eq_true h92) ?_
        have ee : escs i false (c' :: r) = escs (i + 1) true r := by simp [escs, h92]
        rw [ee] at hp ⊢
        refine segS (wpAny_Assign_Name (wpAny_Constant_bool (stS F₅ fun h₆ k₆ F₆ K₆ => ?_)))
        have hst₆ : St (i + 1) h₆ := (W _ hov).frame _ _ _ hst₅ fun b hb o e => K₆ b o (fun q => hLf (q ▸ hb)) e
        exact seg_again rfl (ih (i + 1) true done s₀ h₆ k₆ _ _ i hdr' hlt hp F₆ (fun b o h1 h2 e => K₆ b o h2 (hK₅ b o h1 h2 e)) (let ⟨o, q⟩ := hz₅; ⟨o, K₆ _ _ hgL q⟩) hst₆ rfl rfl (fun _ => rfl) fun q => absurd q (Nat.succ_ne_zero _))
      · refine ifF (by rw [one_eq]; exact decide_eq_false h92) ?_
        have ee : escs i false (c' :: r) = (i, [c']) :: escs (i + 1) false r := by simp [escs, h92]
        rw [ee] at hp ⊢
        refine yieldPair (x := [c']) rfl rfl rfl F₅ hK₅ hz₅ rfl (prs_at (rest := escs (i + 1) false r) hp) (fun A' Q E k H => vN F₅ rfl (H _ _)) fun s'' h' F' al => ?_
        have hst₆ : St (i + 1) s''.heap := (W _ hov).frame _ _ _ hst₅ fun b hb o e => al.own b o (.inr (hfp _ hb)) e
        exact seg_again rfl (ih (i + 1) false (done ++ [(i, [c'])]) s'' s''.heap s''.toks _ _ i hdr' hlt (by rw [hp]; simp) F' (fun b o _ h2 e => e) al.big hst₆ rfl he (fun _ => rfl) fun _ => rfl)
end
end Mine

end
section
open PySem PySem.W PySem.Calls PyProof.Rows PySem.Builtin PySem.Builtin.Str
set_option Elab.async false
set_option maxRecDepth 100000
namespace Mine
theorem WalksT.mapP {w : World} {A : Around} {I : Addr} {fp wr : List Addr} {n : Nat} {Pt Pt' : Nat → Array Value → Prop} {St : Nat → Heap → Prop} {Mid : Nat → Addr → Heap → Prop} (W : WalksT P w A I fp wr n Pt St Mid) (h : ∀ i vals, Pt i vals → Pt' i vals) :
    WalksT P w A I fp wr n Pt' St Mid :=
  { sub := W.sub, frame := W.frame, item := fun i s Q E hi st hQ => W.item i s Q E hi st fun T vals h' tk hp => hQ T vals h' tk (h _ _ hp), go := W.go, apart := W.apart, done := W.done, self := W.self }
/-- the walk over enumerate(text) -/
theorem enumWalks {w : World} {h : Heap} {x it e : Addr} {text : T} {t : Tok} (hei : e ≠ it) (he : IsEnum h e it 0 .none) (hit : h.IsStrIter it (strIterType (ofL text)) (ofL text) t 0) :
    ∃ St Mid, (∀ A' : Around, A'.handled = none → WalksT P w A' e [e, it] [e, it] text.length (chAt text) St Mid) ∧ St 0 h := by
  have hP : ∀ i vals, (∃ tt v, (∃ c u, (ofL text).cps[i]? = some c ∧ v = Value.str ⟨#[c]⟩ u) ∧ vals = #[.int (i : Nat) tt, v]) → chAt text i vals := by
    rintro i vals ⟨tt, v, ⟨c, u, hc, rfl⟩, rfl⟩
    exact ⟨tt, c, u, by simpa [ofL] using hc, rfl⟩
  have hef : e ∉ [it] := fun q => hei (List.mem_singleton.mp q)
  cases ha : (ofL text).cps.all (· < 128)
  · have hit' : h.IsStrIter it "str_iterator" (ofL text) t 0 := by simpa [strIterType, ha] using hit
    exact ⟨_, _, fun A' hA => WalksT.mapP (WalksT.enumerateD (Draws.strWide (A := A'.in1) hA it (ofL text) t) e hei hef (by simp)) hP, ⟨_, he⟩, hit'⟩
  · have hit' : h.IsStrIter it "str_ascii_iterator" (ofL text) t 0 := by simpa [strIterType, ha] using hit
    exact ⟨_, _, fun A' hA => WalksT.mapP (WalksT.enumerateD (Draws.strAscii (A := A'.in1) hA it (ofL text) t) e hei hef (by simp)) hP, ⟨_, he⟩, hit'⟩

section
variable {w : World} {mg : Str → Option Value} {A : Around} {h₀ : Heap} {nr L a : Nat} {cd : Value} {text : T} {prs : List (Nat × T)}
/-- the generator's first turn -/
theorem genStart {s : Shared} {u : Tok} (C : Cx w mg h₀) (hA : A.handled = none) (F : Fr h₀ L s.heap (lk [("addr", .str (ofL text) u)])) (hLn : L < nr - 1) (hz : ∃ o, s.heap.get? (nr - 1) = some o) (hp : prs = escs 0 false text) :
    Seg (model P w) A (endR nr L) (prot h₀ nr L prs) prs.length s (.func gBody (genEnv2 L a cd)) ((model P w).den (.func gBody (genEnv2 L a cd))) [] s := by
  have hgL : nr - 1 ≠ L := fun q => absurd hLn (by rw [q]; exact Nat.lt_irrefl _)
  refine seg_func ?_
  refine segS (wpAny_Assign_Name (cInt (h := s.heap) (k := s.toks) (b := s) fun t k => stS F fun h₁ k₁ F₁ K₁ => ?_))
  refine segS (wpAny_Assign_Name (wpAny_Constant_bool (stS F₁ fun h₂ k₂ F₂ K₂ => ?_)))
  refine segFor (Call_Name rfl (vB C F₂ PyProof.Rows.boot_enumerate (PyProof.Rows.callWith_type1 (wpAny_items_cons (vN F₂ rfl (wpAny_items_nil (call_enumerate_str fun h₃ he hit hsz hk => ?_)))))))
  replace hk : Kp h₂ h₃ := hk
  have hei : h₂.objs.size + 1 ≠ h₂.objs.size := Nat.succ_ne_self _
  obtain ⟨St, Mid, W, hst⟩ := enumWalks (w := w) (x := 0) hei he hit
  have hz₂ : ∃ o, h₂.get? (nr - 1) = some o := let ⟨o, q⟩ := hz; ⟨o, K₂ _ _ hgL (K₁ _ _ hgL q)⟩
  have hsz₂ : nr ≤ h₂.objs.size := by obtain ⟨_, q⟩ := hz₂; exact Nat.le_of_pred_lt (Heap.lt_size q)
  refine wpAny_pyIter_enum he fun k p hout => ?_
  subst hp
  refine genLoop (prs := escs 0 false text) W hA (fun b hb => ?_) hLn F.above rfl hout text 0 false [] s h₃ _ _ t 0 rfl (Nat.zero_le _) rfl (F₂.keeps hk) (fun b o _ hb e => hk _ _ (K₂ b o hb (K₁ b o hb e))) (let ⟨o, q⟩ := hz₂; ⟨o, hk _ _ q⟩) hst rfl rfl (fun q => absurd q (Nat.lt_irrefl _)) fun _ => rfl
  simp at hb
  rcases hb with rfl | rfl
  · exact Nat.le_succ_of_le hsz₂
  · exact hsz₂

/-- other generators' states -/
def gs (b : Shared) (G : Array GenState) : Shared := { b with gens := G }
/-- a generator object of _iter_escaped_chars(text), j pairs drawn; all it owns lies from lo on -/
structure GAt (w : World) (A : Around) (h₀ : Heap) (lo : Nat) (text : T) (ag j : Nat) (h : Heap) (G : Array GenState) : Prop where
  lim : h₀.NoLimit
  live : ∃ L g st, lo ≤ L ∧ L < ag ∧ h.IsGen ag g ∧ G[g]? = some st ∧ (∀ s'' : Shared, Al h₀ (ag + 1) L h s''.heap → st.Goes (model P w) A.in1 (endR (ag + 1) L) (prot h₀ (ag + 1) L (escs 0 false text)) ((escs 0 false text).length - j) (.send .none) s'')
  base : ∀ b o, h₀.get? b = some o → h.get? b = some o
  above : h₀.objs.size ≤ lo
/-- the taker's turn keeps it: it touches nothing from lo on -/
theorem GAt.keeps {lo ag j : Nat} {h h' : Heap} {G : Array GenState} (x : GAt w A h₀ lo text ag j h G) (hb : ∀ b o, h₀.get? b = some o → h'.get? b = some o) (hk : ∀ b o, lo ≤ b → h.get? b = some o → h'.get? b = some o) : GAt w A h₀ lo text ag j h' G := by
  obtain ⟨lim, ⟨L, g, st, h1, h2, h3, h4, h5⟩, base, ab⟩ := x
  have hag : lo ≤ ag := Nat.le_trans h1 (Nat.le_of_lt h2)
  refine ⟨lim, ⟨L, g, st, h1, h2, let ⟨o, nm, qn, ho, r⟩ := h3; ⟨o, nm, qn, hk _ _ hag ho, r⟩, h4, fun s'' al => h5 s'' ⟨al.base, fun b o hb e => al.own b o hb ?_, al.big⟩⟩, hb, ab⟩
  rcases hb with rfl | q
  · exact hk _ _ h1 e
  · exact hk _ _ (Nat.le_trans hag (Nat.le_of_succ_le q)) e
theorem setGen_sh (h : Heap) (k : Nat) (b : Shared) (g : Nat) (x y : GenState) : (sh h k (b.setGen g x)).setGen g y = sh h k ((b.setGen g x).setGen g y) := rfl
/-- a pair is drawn -/
theorem GAt.next {E : Value → Shared → Prop} {lo ag j : Nat} {h : Heap} {k : Nat} {b : Shared} {G : Array GenState} {x : Nat × T} {Q : Option Value → Shared → Prop} (X : GAt w A h₀ lo text ag j h G) (hx : (escs 0 false text)[j]? = some x) (hA : A.handled = none) (hroom : A.depth < recursionLimit)
    (hQ : ∀ h' k' Tt tu u G', IsTup h' Tt #[.int (x.1 : Nat) tu, .str (ofL x.2) u] → (∀ b o, b < lo → h.get? b = some o → h'.get? b = some o) → (AllBare G → AllBare G') → GAt w A h₀ lo text ag (j + 1) h' G' → Q (some (.ref Tt)) (sh h' k' (gs b G'))) :
    wpAny (model P w) A (pyNext (.ref ag)) Q E (sh h k (gs b G)) := by
  obtain ⟨lim, ⟨L, g, st, h1, h2, h3, h4, h5⟩, base, ab⟩ := X
  have hjl : j < (escs 0 false text).length := by
    rcases Nat.lt_or_ge j (escs 0 false text).length with q | q
    · exact q
    · rw [List.getElem?_eq_none q] at hx; cases hx
  obtain ⟨n, hn⟩ : ∃ n, (escs 0 false text).length - j = n + 1 := ⟨(escs 0 false text).length - j - 1, by omega⟩
  rw [hn] at h5
  refine nextGen (s := sh h k (gs b G)) hA (lim.keeps base) hroom h3 h4 (h5 _ ⟨base, fun _ _ _ e => e, let ⟨o, _, _, ho, _⟩ := h3; ⟨o, ho⟩⟩) (fun v s₁ gs' hb hv => ?_) fun s₁ hp => absurd hp.1 (Nat.succ_ne_zero n)
  obtain ⟨x', hx', h', tk, Tt, tu, u, rfl, rfl, hT, hTt, hK, hkap⟩ := hv
  have ex : (escs 0 false text).length - 1 - (n + 1 - 1) = j := by omega
  rw [ex, hx] at hx'
  obtain rfl := Option.some.inj hx'
  have hK' : Gk (ag + 1) L h h' := hK
  have lt1 : ∀ b : Addr, b < lo → b < ag + 1 := fun b q => Nat.lt_succ_of_lt (Nat.lt_of_lt_of_le q (Nat.le_trans h1 (Nat.le_of_lt h2)))
  have ne1 : ∀ b : Addr, b < lo → b ≠ L := fun b q => Nat.ne_of_lt (Nat.lt_of_lt_of_le q h1)
  have gself : ((G.setIfInBounds g .running).setIfInBounds g gs')[g]? = some gs' := setGen_self (s := (sh h k (gs b G)).setGen g .running) (gs := .running) (setGen_self (s := sh h k (gs b G)) h4)
  have gq : GenOnlyQ g G ((G.setIfInBounds g .running).setIfInBounds g gs') := GenOnlyQ.of ((GenOnly.setGen (gs b G) g .running).trans (GenOnly.setGen ((gs b G).setGen g .running) g gs')) gself hb
  refine hQ h' tk Tt tu u ((G.setIfInBounds g .running).setIfInBounds g gs') hT (fun b o hb e => hK' b o (lt1 _ hb) (ne1 _ hb) e) (fun hG => AllBare.moved hG gq) ⟨lim, ⟨L, g, gs', h1, h2, let ⟨o, nm, qn, ho, r⟩ := h3; ⟨o, nm, qn, hK' _ _ (Nat.lt_succ_self _) (Nat.ne_of_gt h2) ho, r⟩, ?_, fun s'' al => ?_⟩, fun b o e => ?_, ab⟩
  · exact gself
  · have e : (escs 0 false text).length - (j + 1) = n := by omega
    rw [e]
    exact hkap s'' al
  · have := Heap.lt_size e
    exact hK' b o (lt1 _ (Nat.lt_of_lt_of_le this ab)) (ne1 _ (Nat.lt_of_lt_of_le this ab)) (base b o e)

/-- no pair is left -/
theorem GAt.done {E : Value → Shared → Prop} {lo ag j : Nat} {h : Heap} {k : Nat} {b : Shared} {G : Array GenState} {Q : Option Value → Shared → Prop} (X : GAt w A h₀ lo text ag j h G) (hj : (escs 0 false text).length = j) (hA : A.handled = none) (hroom : A.depth < recursionLimit)
    (hQ : ∀ h' k' G', (∀ b o, b < lo → h.get? b = some o → h'.get? b = some o) → (AllBare G → AllBare G') → Q none (sh h' k' (gs b G'))) :
    wpAny (model P w) A (pyNext (.ref ag)) Q E (sh h k (gs b G)) := by
  obtain ⟨lim, ⟨L, g, st, h1, h2, h3, h4, h5⟩, base, ab⟩ := X
  rw [hj, Nat.sub_self] at h5
  refine nextGen (s := sh h k (gs b G)) hA (lim.keeps base) hroom h3 h4 (h5 _ ⟨base, fun _ _ _ e => e, let ⟨o, _, _, ho, _⟩ := h3; ⟨o, ho⟩⟩) (fun v s₁ gs' hb hv => ?_) fun s₁ hp h'' hk'' => ?_
  · obtain ⟨x', hx', h', tk, Tt, tu, u, rfl, rfl, hT, hTt, hK, hkap⟩ := hv
    exact (hkap (sh h' tk (gs b G)) ⟨fun b o e => hK b o (Nat.lt_succ_of_lt (Nat.lt_of_lt_of_le (Nat.lt_of_lt_of_le (Heap.lt_size e) ab) (Nat.le_trans h1 (Nat.le_of_lt h2)))) (Nat.ne_of_lt (Nat.lt_of_lt_of_le (Nat.lt_of_lt_of_le (Heap.lt_size e) ab) h1)) (base b o e), fun _ _ _ e => e,
      let ⟨o, _, _, ho, _⟩ := h3; ⟨o, hK _ _ (Nat.lt_succ_self _) (Nat.ne_of_gt h2) ho⟩⟩).elim
  · obtain ⟨_, h', tk, rfl, hK⟩ := hp
    have hK' : Gk (ag + 1) L h h' := hK
    have gself : ((G.setIfInBounds g .running).setIfInBounds g .finished)[g]? = some .finished := setGen_self (s := (sh h k (gs b G)).setGen g .running) (gs := .running) (setGen_self (s := sh h k (gs b G)) h4)
    have gq : GenOnlyQ g G ((G.setIfInBounds g .running).setIfInBounds g .finished) := GenOnlyQ.of ((GenOnly.setGen (gs b G) g .running).trans (GenOnly.setGen ((gs b G).setGen g .running) g .finished)) gself rfl
    exact hQ h'' tk _ (fun b o q e => hk'' b o (hK' b o (Nat.lt_succ_of_lt (Nat.lt_of_lt_of_le q (Nat.le_trans h1 (Nat.le_of_lt h2)))) (Nat.ne_of_lt (Nat.lt_of_lt_of_le q h1)) e)) fun hG => AllBare.moved hG gq
/-- _iter_escaped_chars(text) -/
theorem makeGen {d : Nat} {h : Heap} {k : Nat} {b : Shared} {G : Array GenState} {fa : Addr} {u : Tok} {R : Result → Shared → Prop} (C : Cx w mg h₀) (hb : ∀ b o, h₀.get? b = some o → h.get? b = some o) (hab : h₀.objs.size ≤ h.objs.size) (r : Room A d) (ha : mg "_iter_escaped_chars" = some (.ref fa)) (hd : d ≤ 50)
    (hR : ∀ h' k' ag G', Kp h h' → (AllBare G → AllBare G') → GAt w A h₀ h.objs.size text ag 0 h' G' → R (.ok (.ret (.ref ag))) (sh h' k' (gs b G'))) :
    codeAny (model P w) A (.call (.ref fa) ⟨[.str (ofL text) u], []⟩) R (sh h k (gs b G)) := by
  obtain ⟨a', o, pm, cd, doc, e1, e2, e3, e4⟩ := (C.keeps hb).fn 2 (by decide)
  obtain rfl : a' = fa := Value.ref.inj (Option.some.inj (e1.symm.trans ha))
  refine codeAny_call_generator (s := sh h k (gs b G)) (fd := docDef (rc 2).name (rc 2).params (rc 2).body (rc 2).scope pm cd doc) (r.lt (by omega)) e2 e3 rfl rfl rfl e4 ?_
  rw [show bindArgs (docDef (rc 2).name (rc 2).params (rc 2).body (rc 2).scope pm cd doc) ⟨[.str (ofL text) u], []⟩ = (pure [("addr", Value.str (ofL text) u)] : Sem (List (Str × Value))) from rfl]
  refine wpAny_pure (wpAny_newFunctionEnv (by show ∀ x ∈ (rc 2).scope.names, x.2 ≠ .cell; decide) (locs (scope := (rc 2).scope) (by rfl)) (fun h₁ hns hsb => ⟨((C.keeps hb).nolimit).fresh _ hsb, ?_⟩) rfl)
  have hk : Kp h h₁ := fun b o e => hsb.extBut b o (Nat.ne_of_lt (Heap.lt_size e)) (Heap.get?_push_of_some _ e)
  have hsz : h₁.objs.size = h.objs.size + 1 := by rw [hsb.1]; exact Heap.size_push ..
  have F : Fr h₀ h.objs.size h₁ (lk [("addr", .str (ofL text) u)]) := ⟨hns, fun b o e => hk b o (hb b o e), hab⟩
  have kp : ∀ ob : Obj, Kp h₁ (h₁.push ob) := fun _ b o e => Heap.get?_push_of_some _ e
  refine hR _ _ _ _ (fun b o e => kp _ b o (hk b o e)) (fun hG => AllBare.push hG rfl) ⟨C.nolimit, ⟨h.objs.size, G.size, .fresh (.func (rc 2).body (envOf (rc 2).name (rc 2).scope h.objs.size a' cd)), Nat.le_refl _, by show _ < h₁.objs.size; rw [hsz]; exact Nat.lt_succ_self _,
    ⟨_, _, _, Heap.get?_push_size _ rfl, rfl, rfl, rfl⟩, Array.getElem?_push_size .., fun s'' al => ⟨rfl, ?_⟩⟩, fun b o e => kp _ b o (F.keep b o e), hab⟩
  refine genStart C r.handled ⟨F.ns.at' fun o e => al.own _ _ (.inl rfl) (kp _ _ _ e), al.base, hab⟩ ?_ al.big rfl
  show h.objs.size < h₁.objs.size + 1 - 1
  rw [hsz]; exact Nat.lt_succ_self _
end
end Mine

end
section
open PySem PySem.W PySem.Calls PyProof.Rows
set_option Elab.async false
set_option maxRecDepth 100000
namespace Mine
/-- the texts glued, x between -/
def glue (x : T) : List T → T
  | [] => []
  | [a] => a
  | a :: b :: r => a ++ (x ++ glue x (b :: r))
theorem join_glue (x : T) : ∀ zs : List T, Txt.join (ofL x) (zs.map ofL) = ofL (glue x zs)
  | [] => rfl
  | [a] => by
    show Builtin.Str.glued (ofL x) [ofL a] = _
    rw [StrLaws.glued_eq_join]; rfl
  | a :: b :: r => by
    have ih := join_glue x (b :: r)
    have e : Txt.join (ofL x) ((b :: r).map ofL) = Str.join (ofL x) ((b :: r).map ofL) := StrLaws.glued_eq_join _ _
    rw [e] at ih
    show Builtin.Str.glued (ofL x) (ofL a :: ofL b :: r.map ofL) = _
    rw [StrLaws.glued_eq_join]
    show ofL a ++ ofL x ++ Str.join (ofL x) ((b :: r).map ofL) = _
    rw [ih, ofL_append, ofL_append]
    show ofL (a ++ x ++ _) = ofL (a ++ (x ++ _))
    rw [List.append_assoc]
section
variable {w : World} {mg : Str → Option Value} {A : Around} {E : Value → Shared → Prop} {env : Env} {pos p : Pos} {h : Heap} {k kk : Nat} {b : Shared}
/-- a method of a str -/
theorem mS {o : Expr} {name : Str} {id : String} {apos : Pos} {args : List Expr} {Q : Value → Shared → Prop} (slot : Slot "str" name id) (hty : typeOf (.builtin id) = pure (.type "method_descriptor"))
    (H : wpAny (model P w) A (eval o env) (fun ov s₁ => ∃ x t, ov = .str x t ∧
      wpAny (model P w) A (callWith pos (.builtin id) [ov] (backTo pos (starEach args env)) []) Q E s₁) E (sh h k b))
    (hbase : attributeBase o name env (eval o env) = eval o env := by rfl)
    (hfew : ((backTo pos (starEach args env)).all (fun x => !x.1) && (backToKw pos (keywordEach [] env)).all (fun x => x.1.isSome)
      && decide (args.length + ([] : List Keyword).length + (if ([] : List Keyword).isEmpty then 0 else 1) < 30)) = true := by rfl)
    (hline : (apos.endLine == pos.line) = true := by rfl) :
    wpAny (model P w) A (eval (.Call (.Attribute o name apos) args [] pos) env) Q E (sh h k b) := by
  refine methT PySem.F.plainAttrs_str slot hty (wpAny_mono H (fun ov s₁ q => ?_) fun _ _ x => x) hbase hfew hline
  obtain ⟨x, t, rfl, hc⟩ := q
  exact ⟨typeIs_str _ _ _, (fun a e => by cases e), hc⟩
/-- x.join(list) -/
theorem sJoin {x : T} {t : Tok} {D : Addr} {vs : Array Value} {zs : List T} {Q : Value → Shared → Prop} (hD : h.IsList D vs) (hi : StrsAre vs.toList (zs.map ofL)) (hok : (zs.map List.length).sum + zs.length * x.length ≤ 1000000)
    (H : ∀ t' k', Q (.str (ofL (glue x zs)) t') (sh h k' b)) : wpAny (model P w) A (call (.builtin "str.join") [.str (ofL x) t, .ref D]) Q E (sh h k b) := by
  refine join_list (s := sh h k b) hD hi ?_ fun t' k' => ?_
  · have e : ((zs.map ofL).map (·.length)) = zs.map List.length := by
      rw [List.map_map]; exact List.map_congr_left fun z _ => ofL_len z
    rw [e, List.length_map, ofL_len]; omega
  · rw [join_glue]; exact H t' k'
/-- a generator's pair is not an owned tuple -/
theorem letGoGen {elts : List Expr} {x1} {pos : Pos} {ag Tt : Addr} {g : Nat} {Q : Unit → Shared → Prop} {s : Shared} (hg : s.heap.IsGen ag g) (hQ : Q () s) :
    wpAny (model P w) A (letOwnedTupleGo (.Tuple elts x1 pos) (.ref ag) (.ref Tt)) Q E s := by
  obtain ⟨o, nm, qn, ho, hc, hd, hsl⟩ := hg
  unfold letOwnedTupleGo
  refine wpAny_bind (wpAny_load ho ?_)
  rw [hc, hd]
  show wpAny _ A (if (["enumerate", "zip", "dict_itemiterator", "dict_reverseitemiterator", "odict_iterator", "itertools.zip_longest", "itertools.pairwise"].contains "generator" &&
      (#[.int g 0, nm, qn] : Array Value)[0]? == some (rawInt Tt)) = true then _ else _) Q E s
  rw [if_neg (by
    intro h
    rw [show (["enumerate", "zip", "dict_itemiterator", "dict_reverseitemiterator", "odict_iterator", "itertools.zip_longest", "itertools.pairwise"].contains "generator") = false from by decide, Bool.false_and] at h
    cases h)]
  exact wpAny_pure hQ
end
section
variable {w : World} {mg : Str → Option Value} {A : Around} {h₀ h : Heap} {L a : Addr} {m : Str → Option Value} {cn : Str} {cs : Scope} {ccd : Value} {k : Nat} {b : Shared} {text : T}
abbrev pairT (p1 p2 p3 : Pos) (kk : Nat) : Expr := .Tuple [.Name "pos" p1, .Name "ch" p2] kk p3
/-- a turn of a loop over the generator -/
theorem gTurn {lo ag j : Nat} {G : Array GenState} {x : Nat × T} {p1 p2 p3 : Pos} {kk : Nat} {body : List Stmt} {R : Result → Shared → Prop} (X : GAt w A h₀ lo text ag j h G) (F : Fr h₀ L h m) (hL : L < lo) (hx : (escs 0 false text)[j]? = some x) (hA : A.handled = none) (hroom : A.depth < recursionLimit)
    (H : ∀ h' k' tu u G', Fr h₀ L h' (set (set m "pos" (.int (x.1 : Nat) tu)) "ch" (.str (ofL x.2) u)) → (∀ b o, b < lo → b ≠ L → h.get? b = some o → h'.get? b = some o) → (AllBare G → AllBare G') → GAt w A h₀ lo text ag (j + 1) h' G' →
      wpAny (model P w) A (execs body (envOf cn cs L a ccd)) (fun f s₃ => match f with
            | .next | .cont => codeAny (model P w) A (.forLoop (pairT p1 p2 p3 kk) (.ref ag) body [] (envOf cn cs L a ccd)) R s₃
            | .brk => R (.ok .next) s₃
            | .ret v => R (.ok (.ret v)) s₃) (fun _ _ => False) (sh h' k' (gs b G')))
    (hk : cs.kind = .function := by rfl) (hl : (envOf cn cs L a ccd).kindOf "pos" = some .local := by rfl) (hl' : (envOf cn cs L a ccd).kindOf "ch" = some .local := by rfl) :
    codeAny (model P w) A (.forLoop (pairT p1 p2 p3 kk) (.ref ag) body [] (envOf cn cs L a ccd)) R (sh h k (gs b G)) := by
  refine forOnce (X.next hx hA hroom fun h₁ k₁ Tt tu u G' hT hk₁ hG X₁ => ?_)
  obtain ⟨L', g, st, _, _, hg, _⟩ := X₁.live
  refine letGoGen (s := sh h₁ k₁ (gs b G')) hg ?_
  refine assign_Tuple_tuple (s := sh h₁ k₁ (gs b G')) hA hT rfl rfl fun h₂ hx₂ => ?_
  replace hx₂ : Heap.ExtBut h₁.objs.size h₁ h₂ := hx₂
  have up : Kp h₁ h₂ := fun b o x => hx₂ b o (Nat.ne_of_lt (Heap.lt_size x)) x
  have hold : ∀ b o, h₀.get? b = some o → b < lo := fun b o e => Nat.lt_of_lt_of_le (Heap.lt_size e) X.above
  have F₁ : Fr h₀ L h₂ m := ⟨F.ns.at' fun o e => up _ _ (hk₁ _ o hL e), fun b o e => up _ _ (hk₁ b o (hold b o e) (F.keep b o e)), F.above⟩
  refine assignInOrder_cons (wpAny_assign_Name (stS (k := k₁) F₁ (hk := hk) (hl := hl) fun h₃ k₃ F₃ K₃ => assignInOrder_cons (wpAny_assign_Name (stS F₃ (hk := hk) (hl := hl') fun h₄ k₄ F₄ K₄ => assignInOrder_nil ?_))))
  have hne : ∀ b, lo ≤ b → b ≠ L := fun b q e => by subst e; exact absurd hL (Nat.not_lt.mpr q)
  exact H h₄ k₄ tu u G' F₄ (fun b o h1 h2 e => K₄ _ _ h2 (K₃ _ _ h2 (up _ _ (hk₁ b o h1 e)))) hG (X₁.keeps F₄.keep fun b o q e => K₄ _ _ (hne _ q) (K₃ _ _ (hne _ q) (up _ _ e)))
/-- the loop over the generator ends -/
theorem gLast {lo ag j : Nat} {G : Array GenState} {p1 p2 p3 : Pos} {kk : Nat} {body : List Stmt} {R : Result → Shared → Prop} (X : GAt w A h₀ lo text ag j h G) (F : Fr h₀ L h m) (hL : L < lo) (hj : (escs 0 false text).length = j) (hA : A.handled = none) (hroom : A.depth < recursionLimit)
    (H : ∀ h' k' G', Fr h₀ L h' m → (∀ b o, b < lo → h.get? b = some o → h'.get? b = some o) → (AllBare G → AllBare G') → R (.ok .next) (sh h' k' (gs b G'))) :
    codeAny (model P w) A (.forLoop (pairT p1 p2 p3 kk) (.ref ag) body [] (envOf cn cs L a ccd)) R (sh h k (gs b G)) := by
  refine forOnce (X.done hj hA hroom fun h₁ k₁ G' hk₁ hG => wpAny_execs_nil (H h₁ k₁ G' ?_ hk₁ hG))
  exact ⟨F.ns.at' fun o e => hk₁ _ o hL e, fun b o e => hk₁ b o (Nat.lt_of_lt_of_le (Heap.lt_size e) X.above) (F.keep b o e), F.above⟩
end
theorem joinC {w : World} {A : Around} {E : Value → Shared → Prop} {env : Env} {pos p apos : Pos} {h : Heap} {k kk : Nat} {b : Shared} {c : Str} {e : Expr} {x : T} {Q : Value → Shared → Prop} (hc : c = ofL x)
   (H : ∀ t k', wpAny (model P w) A (eval e env) (fun v s₁ => wpAny (model P w) A (call (.builtin "str.join") [.str (ofL x) t, v]) Q E s₁) E (sh h k' b))
    (hs : backTo pos (starEach [e] env) = [(false, eval e env)] := by rfl)
    (hline : (apos.endLine == pos.line) = true := by rfl) :
   wpAny (model P w) A (eval (.Call (.Attribute (.Constant (.str c) kk p) "join" apos) [e] [] pos) env) Q E (sh h k b) := by
  subst hc
  refine mS PySem.F.slot_str_join PySem.F.type_str_join ?_ (hbase := ?hb) (hfew := ?hf) (hline := hline)
  case hb => rfl
  case hf => rw [hs]; rfl
  exact Constant_str ⟨_, _, rfl, argB1 (H _ _) hs⟩
end Mine

end
section
open PySem PySem.W PySem.Calls PyProof.Rows
set_option Elab.async false
set_option maxRecDepth 100000
namespace Mine
def stripStep (text : T) (s : Nat × Option Nat × List T) (x : Nat × T) : Nat × Option Nat × List T :=
  if x.2 = [34] then match s.2.1 with
    | none => (s.1, some x.1, s.2.2)
    | some o => (x.1 + 1, none, if s.1 ≠ o then s.2.2 ++ [(text.drop s.1).take (o - s.1)] else s.2.2)
  else s
/-- what _strip_quoted_realnames hands back -/
def strip (text : T) : T :=
  if 34 ∈ text then
    let r := (escs 0 false text).foldl (stripStep text) (0, none, [])
    glue [] (if r.1 < text.length then r.2.2 ++ [text.drop r.1] else r.2.2)
  else text
def par : Int → List T → Bool
  | o, [] => o == 0
  | o, ch :: r => if ch = [40] then par (o + 1) r else if ch = [41] then (if o - 1 < 0 then false else par (o - 1) r) else par o r
/-- what _check_parenthesis hands back -/
def check (text : T) : Bool := par 0 ((escs 0 false (strip text)).map (·.2))

theorem escs_ge : ∀ (r : T) (p : Nat) (e : Bool), ∀ y ∈ escs p e r, y.2 = [34] → p ≤ y.1 := by
  intro r
  induction r with
  | nil => intro p e y hy h; cases e <;> simp [escs] at hy; subst hy; simp at h
  | cons c r ih =>
    intro p e y hy h
    cases e with
    | true =>
      simp [escs] at hy
      rcases hy with rfl | hy
      · exact Nat.le_refl _
      · exact Nat.le_of_succ_le (ih _ _ y hy h)
    | false =>
      unfold escs at hy
      split at hy
      · exact Nat.le_of_succ_le (ih _ _ y hy h)
      · rcases List.mem_cons.mp hy with rfl | hy
        · exact Nat.le_refl _
        · exact Nat.le_of_succ_le (ih _ _ y hy h)
theorem escs_pair : ∀ (r : T) (p : Nat) (e : Bool), (escs p e r).Pairwise fun x y => y.2 = [34] → x.1 + 1 ≤ y.1 := by
  intro r
  induction r with
  | nil => intro p e; cases e <;> simp [escs]
  | cons c r ih =>
    intro p e
    cases e with
    | true => exact List.Pairwise.cons (fun y hy h => escs_ge _ _ _ y hy h) (ih _ _)
    | false =>
      unfold escs
      split
      · exact ih _ _
      · exact List.Pairwise.cons (fun y hy h => escs_ge _ _ _ y hy h) (ih _ _)
theorem escs_len : ∀ (r : T) (p : Nat) (e : Bool), (escs p e r).length ≤ r.length + 1 := by
  intro r
  induction r with
  | nil => intro p e; cases e <;> simp [escs]
  | cons c r ih =>
    intro p e
    cases e with
    | true => have := ih (p + 1) false; simp [escs]; omega
    | false =>
      unfold escs
      split
      · have := ih (p + 1) true; simp; omega
      · have := ih (p + 1) false; simp; omega
theorem sum_le (M : Nat) : ∀ zs : List T, (∀ z ∈ zs, z.length ≤ M) → (zs.map List.length).sum ≤ zs.length * M
  | [], _ => by simp
  | z :: zs, h => by
    have := sum_le M zs fun y hy => h y (List.mem_cons_of_mem _ hy)
    have hz := h z (List.mem_cons_self ..)
    simp [Nat.succ_mul]; omega
theorem contains_q (x : T) : Txt.contains (ofL x) (ofL [34]) = decide (34 ∈ x) := by
  unfold Txt.contains
  rw [show (ofL [34]) = (⟨#[34]⟩ : Str) from rfl, StrLaws.found_one]
  show decide (34 ∈ x.toArray.toList) = _
  simp
theorem strs_snoc {vs : Array Value} {zs : List T} (h : StrsAre vs.toList (zs.map ofL)) (z : T) (t : Tok) : StrsAre (vs.push (.str (ofL z) t)).toList ((zs ++ [z]).map ofL) := by
  rw [Array.toList_push, List.map_append]
  generalize zs.map ofL = ys at h
  generalize vs.toList = us at h
  induction h with
  | nil => exact .cons _ _ .nil
  | cons y t' r ih => exact .cons _ _ ih

section
variable {w : World} {mg : Str → Option Value} {A : Around} {h₀ h : Heap} {L a : Addr} {m : Str → Option Value} {ccd : Value} {k : Nat} {b : Shared} {text : T}
def optV : Option Nat → Value → Prop
  | none, v => v = .none
  | some o, v => ∃ t, v = .int (o : Nat) t
def sFor : Stmt := (rc 3).body.getD 4 default
def sLoop : List Stmt := match sFor with | .For _ _ b _ _ => b | _ => []
def sTarget : Expr := match sFor with | .For t _ _ _ _ => t | _ => default
/-- between two turns of the strip loop -/
structure SS (text : T) (h₀ h : Heap) (L D lo : Addr) (m : Str → Option Value) (s : Nat × Option Nat × List T) : Prop where
  F : Fr h₀ L h m
  ma : ∃ t, m "addr" = some (.str (ofL text) t)
  ms : ∃ t, m "start" = some (.int s.1 t)
  mo : ∃ v, m "open_pos" = some v ∧ optV s.2.1 v
  mr : m "result" = some (.ref D)
  hD : ∃ vs : Array Value, h.PlainList D vs ∧ StrsAre vs.toList (s.2.2.map ofL)
  DL : D ≠ L
  fD : h₀.get? D = none
  dlo : D < lo
theorem SS.keeps {h' : Heap} {D lo : Addr} {s : Nat × Option Nat × List T} (x : SS text h₀ h L D lo m s) (hk : Kp h h') : SS text h₀ h' L D lo m s :=
  { x with F := x.F.keeps hk, hD := let ⟨vs, p, q⟩ := x.hD; ⟨vs, p.at fun o e => hk _ _ e, q⟩ }
theorem SS.store {h' : Heap} {D lo : Addr} {s : Nat × Option Nat × List T} (x : SS text h₀ h L D lo m s) {n : Str} {v : Value} (F : Fr h₀ L h' (set m n v)) (hk : Kp' L h h') {s' : Nat × Option Nat × List T} (hr : s'.2.2 = s.2.2)
    (h1 : ("addr" == n) = false) (h4 : ("result" == n) = false) (h2 : ∃ t, set m n v "start" = some (.int s'.1 t)) (h3 : ∃ u, set m n v "open_pos" = some u ∧ optV s'.2.1 u) : SS text h₀ h' L D lo (set m n v) s' :=
  { F := F, ma := (by obtain ⟨t, e⟩ := x.ma; exact ⟨t, by show (bif "addr" == n then some v else m "addr") = _; rw [h1]; exact e⟩), ms := h2, mo := h3,
    mr := (by show (bif "result" == n then some v else m "result") = _; rw [h4]; exact x.mr), hD := (let ⟨vs, p, q⟩ := x.hD; ⟨vs, p.at fun o e => hk _ _ x.DL e, by rw [hr]; exact q⟩), DL := x.DL, fD := x.fD, dlo := x.dlo }

theorem SS.DL' {D lo : Addr} {s : Nat × Option Nat × List T} (x : SS text h₀ h L D lo m s) {h' : Heap} (hs : Heap.SameBut D h h') {vs : Array Value} {zs : List T} (hp : h'.PlainList D vs) (hv : StrsAre vs.toList (zs.map ofL)) : SS text h₀ h' L D lo m (s.1, s.2.1, zs) :=
  { x with F := frPut x.F hs x.fD x.DL, hD := ⟨vs, hp, hv⟩ }
theorem stripBody {A : Around} {D lo : Addr} {s : Nat × Option Nat × List T} {x : Nat × T} {tu u : Tok} {Q : Flow → Shared → Prop} (S : SS text h₀ h L D lo m s) (hL : L < lo) (h1 : m "pos" = some (.int (x.1 : Nat) tu)) (h2 : m "ch" = some (.str (ofL x.2) u))
    (hz : text.length ≤ 500) (hr : s.2.2.length ≤ 600) (hso : ∀ o, s.2.1 = some o → s.1 ≤ o)
    (H : ∀ h' k' m', SS text h₀ h' L D lo m' (stripStep text s x) → (∀ b o, lo ≤ b → h.get? b = some o → h'.get? b = some o) → Q .next (sh h' k' b)) :
    wpAny (model P w) A (execs sLoop (envOf (rc 3).name (rc 3).scope L a ccd)) Q (fun _ _ => False) (sh h k b) := by
  have neL : ∀ b, lo ≤ b → b ≠ L := fun b q e => by subst e; exact absurd hL (Nat.not_lt.mpr q)
  have neD : ∀ b, lo ≤ b → b ≠ D := fun b q e => by subst e; exact absurd S.dlo (Nat.not_lt.mpr q)
  refine wpAny_execs_cons (iFd (tEqLit S.F h2 [34]) (fun c1 k => ?_) fun c1 k => wpAny_execs_nil ?_)
  · obtain ⟨v, mo, ov⟩ := S.mo
    cases hop : s.2.1 with
    | none =>
      rw [hop] at ov
      obtain rfl : v = .none := ov
      refine wpAny_execs_cons (wpAny_If (wpAny_isTrue_Compare1 (vN S.F mo (wpAny_Constant_none (is_none_none (wpAny_truthy_bool (ifT rfl ?_)))))))
      refine wpAny_execs_cons (wpAny_Assign_Name (vN S.F h1 (stS S.F fun h' k' F' K' => ?_)))
      have e : stripStep text s x = (s.1, some x.1, s.2.2) := by unfold stripStep; rw [if_pos c1, hop]
      refine wpAny_execs_nil (wpAny_execs_nil (wpAny_execs_nil (H h' k' _ (by rw [e]; exact S.store (s' := (s.1, some x.1, s.2.2)) F' K' rfl (by decide) (by decide) S.ms ⟨_, rfl, tu, rfl⟩) fun b o q e => K' b o (neL b q) e)))
    | some o =>
      rw [hop] at ov
      obtain ⟨to, rfl⟩ := ov
      obtain ⟨ts, ms⟩ := S.ms
      have e : stripStep text s x = (x.1 + 1, none, if s.1 ≠ o then s.2.2 ++ [(text.drop s.1).take (o - s.1)] else s.2.2) := by unfold stripStep; rw [if_pos c1, hop]
      refine wpAny_execs_cons (wpAny_If (wpAny_isTrue_Compare1 (vN S.F mo (wpAny_Constant_none (is_int_none (wpAny_truthy_bool (ifF rfl ?_)))))))
      have tail : ∀ h₁ k₁, SS text h₀ h₁ L D lo m (s.1, s.2.1, if s.1 ≠ o then s.2.2 ++ [(text.drop s.1).take (o - s.1)] else s.2.2) → (∀ b o, lo ≤ b → h.get? b = some o → h₁.get? b = some o) →
          wpAny (model P w) A (execs ((match sLoop with | [.If _ [.If _ _ b _] _ _] => b | _ => []).drop 1) (envOf (rc 3).name (rc 3).scope L a ccd)) Q (fun _ _ => False) (sh h₁ k₁ b) := by
        intro h₁ k₁ S₁ hk₁
        refine wpAny_execs_cons (wpAny_Assign_Name (wpAny_BinOp (vN S₁.F h1 (cInt fun t k => iAdd fun t k => stS S₁.F fun h₂ k₂ F₂ K₂ => ?_))))
        have S₂ := S₁.store (s' := (x.1 + 1, s.2.1, if s.1 ≠ o then s.2.2 ++ [(text.drop s.1).take (o - s.1)] else s.2.2)) F₂ K₂ rfl (by decide) (by decide) ⟨_, rfl⟩ S₁.mo
        refine wpAny_execs_cons (wpAny_Assign_Name (wpAny_Constant_none (stS F₂ fun h₃ k₃ F₃ K₃ => wpAny_execs_nil ?_)))
        have S₃ := S₂.store (s' := (x.1 + 1, none, if s.1 ≠ o then s.2.2 ++ [(text.drop s.1).take (o - s.1)] else s.2.2)) F₃ K₃ rfl (by decide) (by decide) S₂.ms ⟨_, rfl, rfl⟩
        exact H h₃ k₃ _ (e ▸ S₃) fun b o q e => K₃ b o (neL b q) (K₂ b o (neL b q) (hk₁ b o q e))
      have tail' : ∀ h₁ k₁, SS text h₀ h₁ L D lo m (s.1, s.2.1, if s.1 ≠ o then s.2.2 ++ [(text.drop s.1).take (o - s.1)] else s.2.2) → (∀ b o, lo ≤ b → h.get? b = some o → h₁.get? b = some o) →
          wpAny (model P w) A (execs ((match sLoop with | [.If _ [.If _ _ b _] _ _] => b | _ => []).drop 1) (envOf (rc 3).name (rc 3).scope L a ccd)) (fun f s' => match f with
            | .next => wpAny (model P w) A (execs [] (envOf (rc 3).name (rc 3).scope L a ccd)) (fun f s' => match f with | .next => wpAny (model P w) A (execs [] (envOf (rc 3).name (rc 3).scope L a ccd)) Q (fun _ _ => False) s' | f => Q f s') (fun _ _ => False) s'
            | f => (match f with | .next => wpAny (model P w) A (execs [] (envOf (rc 3).name (rc 3).scope L a ccd)) Q (fun _ _ => False) s' | f => Q f s')) (fun _ _ => False) (sh h₁ k₁ b) := fun h₁ k₁ S₁ hk₁ =>
        wpAny_mono (tail h₁ k₁ S₁ hk₁) (fun f s' q => by cases f with | next => exact wpAny_execs_nil (wpAny_execs_nil q) | _ => exact q) fun _ _ q => q
      refine wpAny_execs_cons (iFd (p := s.1 ≠ o) ((tNeName S.F ms mo).eq ?_) (fun c2 k => ?_) fun c2 k => wpAny_execs_nil (tail' _ _ (by rw [if_neg c2]; exact S) fun _ _ _ e => e))
      · show (!((s.1 : Int) == (o : Int))) = _
        rw [iz]
        by_cases q : s.1 = o <;> simp [q]
      · obtain ⟨vs, hp, hv⟩ := S.hD
        obtain ⟨ta, ma⟩ := S.ma
        have hvl : vs.size = s.2.2.length := by
          have : vs.toList.length = (s.2.2.map ofL).length := hv.length
          simpa using this
        refine wpAny_execs_cons (wpAny_Expr (mL PySem.F.slot_list_append PySem.F.type_list_append (vN S.F S.mr ⟨D, _, _, _, rfl, rfl, hp, lAppend (Subscript_Slice (vN S.F ma (wpAny_Slice (evalPart_some_step (vN S.F ms (evalPart_some_step (vN S.F mo (evalPart_none_step ?_))))))))⟩)))
        refine sliceSS S.F rfl rfl (hso o hop) (by omega) fun h₁ t₁ k₁ F₁ K₁ => ⟨vs, h₁, k₁, rfl, hp.at fun o e => K₁ _ _ e, by omega, fun h₂ k₂ hp₂ hs₂ => wpAny_execs_nil (tail' h₂ k₂ ?_ fun b o q e => hs₂.extBut b o (neD b q) (K₁ b o e))⟩
        rw [if_pos c2]
        exact (S.keeps K₁).DL' hs₂ hp₂ (strs_snoc hv _ _)
  · have e : stripStep text s x = s := by unfold stripStep; rw [if_neg c1]
    exact wpAny_execs_nil (H h k m (by rw [e]; exact S) fun _ _ _ e => e)

theorem stripStep_len (text : T) (s : Nat × Option Nat × List T) (x : Nat × T) : (stripStep text s x).2.2.length ≤ s.2.2.length + 1 := by
  unfold stripStep
  split
  · split
    · exact Nat.le_succ _
    · show (if _ then _ else _ : List T).length ≤ _
      split
      · rw [List.length_append]; exact Nat.le_refl _
      · exact Nat.le_succ _
  · exact Nat.le_succ _
theorem foldl_done {text : T} {s₀ : Nat × Option Nat × List T} : ∀ {j : Nat} {x : Nat × T} {l : List (Nat × T)}, l[j]? = some x → (l.take (j + 1)).foldl (stripStep text) s₀ = stripStep text ((l.take j).foldl (stripStep text) s₀) x := by
  intro j x l h
  rw [List.take_add_one, h, List.foldl_append]
  rfl
/-- the loop of _strip_quoted_realnames -/
theorem stripLoop {A : Around} {lo ag D : Addr} (hL : L < lo) (hz : text.length ≤ 500) (hA : A.handled = none) (hroom : A.depth < recursionLimit) {R : Result → Shared → Prop} {G₀ : Array GenState}
    (hR : ∀ h' k' m' G', SS text h₀ h' L D lo m' ((escs 0 false text).foldl (stripStep text) (0, none, [])) → (AllBare G₀ → AllBare G') → R (.ok .next) (sh h' k' (gs b G'))) :
    ∀ (r : List (Nat × T)) (j : Nat) (s : Nat × Option Nat × List T) (h : Heap) (k : Nat) (m : Str → Option Value) (G : Array GenState), (escs 0 false text).drop j = r → j ≤ (escs 0 false text).length → s = ((escs 0 false text).take j).foldl (stripStep text) (0, none, []) → s.2.2.length ≤ j →
      (∀ o, s.2.1 = some o → s.1 ≤ o) → (∀ y ∈ r, y.2 = [34] → s.1 ≤ y.1) → (AllBare G₀ → AllBare G) → SS text h₀ h L D lo m s → GAt w A h₀ lo text ag j h G →
      codeAny (model P w) A (.forLoop sTarget (.ref ag) sLoop [] (envOf (rc 3).name (rc 3).scope L a ccd)) R (sh h k (gs b G)) := by
  intro r
  have hjl : (escs 0 false text).length ≤ 501 := Nat.le_trans (escs_len _ _ _) (by omega)
  induction r with
  | nil =>
    intro j s h k m G hdr hj hs hl ho hy hG S X
    have hjl : (escs 0 false text).length = j := by
      have := congrArg List.length hdr
      simp at this; omega
    refine gLast X S.F hL hjl hA hroom fun h' k' G' F' hk hG' => ?_
    rw [← hjl, List.take_length] at hs
    subst hs
    exact hR h' k' m G' { S with F := F', hD := let ⟨vs, p, q⟩ := S.hD; ⟨vs, p.at fun o e => hk _ _ S.dlo e, q⟩ } fun q => hG' (hG q)
  | cons x r ih =>
    intro j s h k m G hdr hj hs hl ho hy hG S X
    have hx : (escs 0 false text)[j]? = some x := by
      have := congrArg (·[0]?) hdr
      simpa using this
    have hjlt : j < (escs 0 false text).length := by
      rcases Nat.lt_or_ge j (escs 0 false text).length with q | q
      · exact q
      · rw [List.getElem?_eq_none q] at hx; cases hx
    have hdr' : (escs 0 false text).drop (j + 1) = r := by rw [← List.drop_drop, hdr]; rfl
    refine gTurn X S.F hL hx hA hroom fun h' k' tu u G' F' hk hG' X' => ?_
    have S' : SS text h₀ h' L D lo _ s :=
      { F := F', ma := S.ma, ms := S.ms, mo := S.mo, mr := S.mr, hD := let ⟨vs, p, q⟩ := S.hD; ⟨vs, p.at fun o e => hk _ _ S.dlo S.DL e, q⟩, DL := S.DL, fD := S.fD, dlo := S.dlo }
    refine stripBody S' hL rfl rfl hz (by omega) ho fun h₂ k₂ m₂ S₂ K₂ => ?_
    have hpw : ((escs 0 false text).drop j).Pairwise fun x y => y.2 = [34] → x.1 + 1 ≤ y.1 := (escs_pair text 0 false).sublist (List.drop_sublist _ _)
    rw [hdr] at hpw
    have hpw' := (List.pairwise_cons.mp hpw).1
    have hxs : x.2 = [34] → s.1 ≤ x.1 := hy x (List.mem_cons_self ..)
    refine ih (j + 1) _ h₂ k₂ m₂ G' hdr' hjlt (by rw [foldl_done hx, ← hs]) ?_ ?_ ?_ (fun q => hG' (hG q)) S₂ (X'.keeps S₂.F.keep K₂)
    · have := stripStep_len text s x
      omega
    · intro o e
      unfold stripStep at e ⊢
      split at e
      · rename_i c1
        rw [if_pos c1]
        split at e
        · obtain rfl := Option.some.inj e; exact hxs c1
        · cases e
      · rename_i c1
        rw [if_neg c1]; exact ho o e
    · intro y hym e
      unfold stripStep
      split
      · split
        · exact hy y (List.mem_cons_of_mem _ hym) e
        · exact hpw' y hym e
      · exact hy y (List.mem_cons_of_mem _ hym) e

theorem fold_pieces (text : T) : ∀ (l : List (Nat × T)) (s : Nat × Option Nat × List T), (∀ z ∈ s.2.2, z.length ≤ text.length) → (∀ z ∈ (l.foldl (stripStep text) s).2.2, z.length ≤ text.length) ∧ (l.foldl (stripStep text) s).2.2.length ≤ s.2.2.length + l.length
  | [], s, h => ⟨h, Nat.le_refl _⟩
  | x :: l, s, h => by
    have h1 : ∀ z ∈ (stripStep text s x).2.2, z.length ≤ text.length := by
      unfold stripStep
      split
      · split
        · exact h
        · intro z hz
          dsimp only at hz
          split at hz
          · rcases List.mem_append.mp hz with q | q
            · exact h z q
            · rw [List.mem_singleton.mp q, List.length_take, List.length_drop]; omega
          · exact h z hz
      · exact h
    have h2 := stripStep_len text s x
    obtain ⟨a, b⟩ := fold_pieces text l (stripStep text s x) h1
    exact ⟨a, by rw [List.length_cons]; rw [List.foldl_cons]; omega⟩
set_option maxHeartbeats 2000000 in
theorem stripCall {A : Around} {d : Nat} {h : Heap} {k : Nat} {b : Shared} {G : Array GenState} {t : Tok} {R : Result → Shared → Prop} (C : Cx w mg h) (r : Room A d) (ha : mg "_strip_quoted_realnames" = some (.ref a)) (hd : d ≤ 40) (hz : text.length ≤ 500)
    (hR : ∀ h' k' t' G', Kp h h' → (AllBare G → AllBare G') → R (.ok (.ret (.str (ofL (strip text)) t'))) (sh h' k' (gs b G'))) :
    codeAny (model P w) A (.call (.ref a) ⟨[.str (ofL text) t], []⟩) R (sh h k (gs b G)) := by
  refine enterS (s := sh h k (gs b G)) 3 C r (by decide) ha (by omega) (fun _ _ _ => rfl) (by rfl) [("addr", .str (ofL text) t)] rfl fun cd h₁ tk F r' => ?_
  refine wpAny_execs_cons (wpAny_If (wpAny_isTrue_Compare1 (cStr [34] fun t k => vN F rfl (PyProof.Rows.notIn_str (wpAny_truthy_bool ?_)))))
  have q := contains_q text
  unfold Txt.contains at q
  rw [q]
  by_cases hq : 34 ∈ text
  case neg =>
    refine ifT (by rw [decide_eq_false hq]; rfl) (wpAny_execs_cons (wpAny_Return_some (vN F rfl ?_)))
    have e : strip text = text := by unfold strip; rw [if_neg hq]
    rw [e] at hR
    exact hR _ _ _ _ F.keep id
  refine ifF (by rw [decide_eq_true hq]; rfl) (wpAny_execs_nil ?_)
  refine wpAny_execs_cons (wpAny_Assign_Name (cInt fun t k => stS F fun h₂ k F₂ K₂ => ?_))
  refine wpAny_execs_cons (wpAny_Assign_Name (wpAny_Constant_none (stS F₂ fun h₃ k F₃ K₃ => ?_)))
  refine wpAny_execs_cons (wpAny_Assign_Name (dList (wpAny_items_nil ⟨by show 0 ≤ 3000; decide, _, _, rfl, ?_⟩)))
  refine stS (F₃.push _) fun h₄ k F₄ K₄ => ?_
  have C₄ : Cx w mg h₄ := C.keeps F₄.keep
  obtain ⟨ga, hga⟩ := C.nm 2 "_iter_escaped_chars" (by decide) rfl
  have hD : h₄.PlainList h₃.objs.size #[] := ⟨0, K₄ _ _ (fr_ne F₃) (Heap.get?_push_size _ rfl)⟩
  have hDlt : h₃.objs.size < h₄.objs.size := by obtain ⟨_, q⟩ := hD; exact Heap.lt_size q
  refine wpAny_execs_cons (wpAny_For (Call_Name rfl (vG C F₄ hga (callF (s := sh h₄ k (gs b G)) 2 C₄ (by decide) hga (wpAny_items_cons (vN F₄ rfl (wpAny_items_nil ⟨fun _ _ e => e, ?_⟩)))))))
  refine makeGen C F₄.keep (Nat.le_of_lt (Nat.lt_of_le_of_lt F₄.above F₄.ns.lt)) r' hga (by omega) fun h₅ k ag G₅ K₅ hG₅ X₅ => ?_
  obtain ⟨L', g, st, _, _, hg, _⟩ := X₅.live
  refine wpAny_pyIter_gen (s := sh h₅ k (gs b G₅)) hg ?_
  have F₅ := F₄.keeps K₅
  have S₅ : SS text h h₅ h.objs.size h₃.objs.size h₄.objs.size _ (0, none, []) :=
    { F := F₅, ma := ⟨_, rfl⟩, ms := ⟨_, rfl⟩, mo := ⟨_, rfl, rfl⟩, mr := rfl, hD := ⟨#[], hD.at fun o e => K₅ _ _ e, .nil⟩, DL := fr_ne F₃, fD := fr_new F₃, dlo := hDlt }
  obtain ⟨fp1, fp2⟩ := fold_pieces text (escs 0 false text) (0, none, []) (fun z hz => by cases hz)
  have hel := escs_len text 0 false
  have es : strip text = glue [] (if ((escs 0 false text).foldl (stripStep text) (0, none, [])).1 < text.length then ((escs 0 false text).foldl (stripStep text) (0, none, [])).2.2 ++ [text.drop ((escs 0 false text).foldl (stripStep text) (0, none, [])).1] else ((escs 0 false text).foldl (stripStep text) (0, none, [])).2.2) := by
    unfold strip; rw [if_pos hq]
  refine stripLoop (G₀ := G₅) F₄.ns.lt hz r'.handled (r'.lt (by omega)) (fun h₆ k m₆ G₆ S₆ hG₆ => ?_) (escs 0 false text) 0 (0, none, []) h₅ _ _ G₅ rfl (Nat.zero_le _) rfl (Nat.le_refl _) (fun o e => by cases e) (fun _ _ _ => Nat.zero_le _) id S₅ X₅
  generalize (escs 0 false text).foldl (stripStep text) (0, none, []) = s at *
  have fp3 : s.2.2.length ≤ 501 := by
    have := fp2
    simp only [List.length_nil, Nat.zero_add] at this
    omega
  have fin : ∀ h₇ k₇ zs, SS text h h₇ h.objs.size h₃.objs.size h₄.objs.size m₆ (s.1, s.2.1, zs) → glue [] zs = strip text → (∀ z ∈ zs, z.length ≤ text.length) → zs.length ≤ 600 →
      wpAny (model P w) (A.deeper (envOf (rc 3).name (rc 3).scope h.objs.size a cd)) (execs ((rc 3).body.drop 6) (envOf (rc 3).name (rc 3).scope h.objs.size a cd)) (fun f s' => R (.ok (.ret (match f with | .ret v => v | _ => .none))) s') (fun _ _ => False) (sh h₇ k₇ (gs b G₆)) := by
    intro h₇ k₇ zs S₇ hzs h1 h2
    obtain ⟨vs, hp, hv⟩ := S₇.hD
    have hsum := sum_le text.length zs h1
    have : zs.length * text.length ≤ 600 * 500 := Nat.mul_le_mul h2 hz
    refine wpAny_execs_cons (wpAny_Return_some (joinC (x := []) (by decide +kernel) fun t k => vN S₇.F S₇.mr (sJoin hp.isList hv (by simp; omega) fun t' k' => ?_)))
    rw [hzs]
    exact hR _ _ _ _ S₇.F.keep fun q => hG₆ (hG₅ q)
  obtain ⟨ts, ms⟩ := S₆.ms
  obtain ⟨ta, ma⟩ := S₆.ma
  have tst : Tst w (A.deeper (envOf (rc 3).name (rc 3).scope h.objs.size a cd)) (envOf (rc 3).name (rc 3).scope h.objs.size a cd) h₆ (gs b G₆) (match (rc 3).body.getD 5 default with | .If t _ _ _ => t | _ => default) (decide (s.1 < text.length)) := fun Q E k H => by
    refine wpAny_isTrue_Compare1 (vN S₆.F ms (Call_Name rfl (vB C S₆.F boot_len (argB1 (vN S₆.F ma (lenS (by omega) fun t k => lt_int (wpAny_truthy_bool ?_)))))))
    rw [show decide ((s.1 : Int) < (text.length : Int)) = decide (s.1 < text.length) by by_cases q : s.1 < text.length <;> simp [q]]
    exact H _
  refine wpAny_execs_cons (iFd tst (fun c1 k => ?_) fun c1 k => wpAny_execs_nil (fin _ _ s.2.2 S₆ (by rw [es, if_neg c1]) fp1 (by omega)))
  obtain ⟨vs, hp, hv⟩ := S₆.hD
  have hvl : vs.size = s.2.2.length := by
    have : vs.toList.length = (s.2.2.map ofL).length := hv.length
    simpa using this
  refine wpAny_execs_cons (wpAny_Expr (mL PySem.F.slot_list_append PySem.F.type_list_append (vN S₆.F S₆.mr ⟨_, _, _, _, rfl, rfl, hp, lAppend (Subscript_Slice (vN S₆.F ma (wpAny_Slice (evalPart_some_step (vN S₆.F ms (evalPart_none_step (evalPart_none_step ?_)))))))⟩)))
  refine sliceSN S₆.F rfl (by omega) fun h₇ t₇ k₇ F₇ K₇ => ⟨vs, h₇, k₇, rfl, hp.at fun o e => K₇ _ _ e, by omega, fun h₈ k₈ hp₈ hs₈ => wpAny_execs_nil ?_⟩
  refine fin h₈ k₈ (s.2.2 ++ [text.drop s.1]) ((S₆.keeps K₇).DL' hs₈ hp₈ (strs_snoc hv _ _)) (by rw [es, if_pos c1]) ?_ (by rw [List.length_append]; simp; omega)
  intro z hz
  rcases List.mem_append.mp hz with q | q
  · exact fp1 z q
  · rw [List.mem_singleton.mp q, List.length_drop]; omega
end
end Mine

end
section
open PySem PySem.W PySem.Calls PyProof.Rows
set_option Elab.async false
set_option maxRecDepth 100000
namespace Mine
section
variable {w : World} {mg : Str → Option Value} {A : Around} {h₀ h : Heap} {L a : Addr} {m : Str → Option Value} {ccd : Value} {k : Nat} {b : Shared} {text : T}
def cFor : Stmt := (rc 4).body.getD 2 default
def cLoop : List Stmt := match cFor with | .For _ _ b _ _ => b | _ => []
def cTarget : Expr := match cFor with | .For t _ _ _ _ => t | _ => default
theorem checkLoop {A : Around} {lo ag : Addr} (hL : L < lo) (hA : A.handled = none) (hroom : A.depth < recursionLimit) {R : Result → Shared → Prop} {G₀ : Array GenState} {res : Bool}
    (hR1 : ∀ h' k' m' G' i t, Fr h₀ L h' m' → m' "opens" = some (.int i t) → (i == 0) = res → (AllBare G₀ → AllBare G') → R (.ok .next) (sh h' k' (gs b G')))
    (hR2 : ∀ h' k' m' G', Fr h₀ L h' m' → false = res → (AllBare G₀ → AllBare G') → R (.ok (.ret (.bool false))) (sh h' k' (gs b G'))) :
    ∀ (r : List (Nat × T)) (j : Nat) (i : Int) (t : Tok) (h : Heap) (k : Nat) (m : Str → Option Value) (G : Array GenState), (escs 0 false text).drop j = r → j ≤ (escs 0 false text).length → par i (r.map (·.2)) = res →
      (AllBare G₀ → AllBare G) → Fr h₀ L h m → m "opens" = some (.int i t) → GAt w A h₀ lo text ag j h G →
      codeAny (model P w) A (.forLoop cTarget (.ref ag) cLoop [] (envOf (rc 4).name (rc 4).scope L a ccd)) R (sh h k (gs b G)) := by
  intro r
  have neL : ∀ b, lo ≤ b → b ≠ L := fun b q e => by subst e; exact absurd hL (Nat.not_lt.mpr q)
  induction r with
  | nil =>
    intro j i t h k m G hdr hj hp hG F hm X
    have hjl : (escs 0 false text).length = j := by
      have := congrArg List.length hdr
      simp at this; omega
    refine gLast X F hL hjl hA hroom fun h' k' G' F' hk hG' => hR1 h' k' m G' i t F' hm hp fun q => hG' (hG q)
  | cons x r ih =>
    intro j i t h k m G hdr hj hp hG F hm X
    have hx : (escs 0 false text)[j]? = some x := by
      have := congrArg (·[0]?) hdr
      simpa using this
    have hjlt : j < (escs 0 false text).length := by
      rcases Nat.lt_or_ge j (escs 0 false text).length with q | q
      · exact q
      · rw [List.getElem?_eq_none q] at hx; cases hx
    have hdr' : (escs 0 false text).drop (j + 1) = r := by rw [← List.drop_drop, hdr]; rfl
    refine gTurn X F hL hx hA hroom fun h' k' tu u G' F' hk hG' X' => ?_
    have hm' : set (set m "pos" (.int (x.1 : Nat) tu)) "ch" (.str (ofL x.2) u) "opens" = some (.int i t) := hm
    rw [List.map_cons] at hp
    unfold par at hp
    refine wpAny_execs_cons (iFd (tEqLit F' rfl [40]) (fun c1 k => ?_) fun c1 k => ?_)
    · rw [if_pos c1] at hp
      refine wpAny_execs_cons (wpAny_AugAssign_Name (vL F' hm' (cInt fun t k => iiAdd fun t k => stS F' fun h₂ k₂ F₂ K₂ => wpAny_execs_nil (wpAny_execs_nil ?_))))
      exact ih (j + 1) _ _ h₂ k₂ _ G' hdr' hjlt hp (fun q => hG' (hG q)) F₂ rfl (X'.keeps F₂.keep fun b o q e => K₂ b o (neL b q) e)
    · rw [if_neg c1] at hp
      refine wpAny_execs_cons (iFd (tEqLit F' rfl [41]) (fun c2 k => ?_) fun c2 k => wpAny_execs_nil (wpAny_execs_nil ?_))
      · rw [if_pos c2] at hp
        refine wpAny_execs_cons (wpAny_AugAssign_Name (vL F' hm' (cInt fun t k => iiSub fun t k => stS F' fun h₂ k₂ F₂ K₂ => ?_)))
        refine wpAny_execs_cons (wpAny_If (wpAny_isTrue_Compare1 (vN F₂ rfl (cInt fun t k => lt_int (wpAny_truthy_bool ?_)))))
        by_cases q : i - 1 < 0
        · rw [if_pos q] at hp
          refine ifT (decide_eq_true q) (wpAny_execs_cons (wpAny_Return_some (wpAny_Constant_bool (hR2 _ _ _ _ F₂ hp fun q => hG' (hG q)))))
        · rw [if_neg q] at hp
          refine ifF (decide_eq_false q) (wpAny_execs_nil (wpAny_execs_nil (wpAny_execs_nil (wpAny_execs_nil ?_))))
          exact ih (j + 1) _ _ h₂ _ _ G' hdr' hjlt hp (fun q => hG' (hG q)) F₂ rfl (X'.keeps F₂.keep fun b o q e => K₂ b o (neL b q) e)
      · rw [if_neg c2] at hp
        exact wpAny_execs_nil (ih (j + 1) _ _ h' _ _ G' hdr' hjlt hp (fun q => hG' (hG q)) F' hm' X')
set_option maxHeartbeats 1000000 in
theorem checkCall {A : Around} {d : Nat} {h : Heap} {k : Nat} {b : Shared} {G : Array GenState} {t : Tok} {R : Result → Shared → Prop} (C : Cx w mg h) (r : Room A d) (ha : mg "_check_parenthesis" = some (.ref a)) (hd : d ≤ 30) (hz : text.length ≤ 500)
    (hR : ∀ h' k' G', Kp h h' → (AllBare G → AllBare G') → R (.ok (.ret (.bool (check text)))) (sh h' k' (gs b G'))) :
    codeAny (model P w) A (.call (.ref a) ⟨[.str (ofL text) t], []⟩) R (sh h k (gs b G)) := by
  refine enterS (s := sh h k (gs b G)) 4 C r (by decide) ha (by omega) (fun _ _ _ => rfl) (by rfl) [("addr", .str (ofL text) t)] rfl fun cd h₁ tk F r' => ?_
  obtain ⟨sa, hsa⟩ := C.nm 3 "_strip_quoted_realnames" (by decide) rfl
  obtain ⟨ga, hga⟩ := C.nm 2 "_iter_escaped_chars" (by decide) rfl
  have C₁ : Cx w mg h₁ := C.keeps F.keep
  refine wpAny_execs_cons (wpAny_Assign_Name (Call_Name rfl (vG C F hsa (callF (s := sh h₁ tk (gs b G)) 3 C₁ (by decide) hsa (wpAny_items_cons (vN F rfl (wpAny_items_nil ⟨fun _ _ e => e, ?_⟩)))))))
  refine stripCall C₁ r' hsa (by omega) hz fun h₂ k₂ t₂ G₂ K₂ hG₂ => ?_
  refine stS (F.keeps K₂) fun h₃ k₃ F₃ K₃ => ?_
  refine wpAny_execs_cons (wpAny_Assign_Name (cInt fun t k => stS F₃ fun h₄ k₄ F₄ K₄ => ?_))
  have C₄ : Cx w mg h₄ := C.keeps F₄.keep
  refine wpAny_execs_cons (wpAny_For (Call_Name rfl (vG C F₄ hga (callF (s := sh h₄ k₄ (gs b G₂)) 2 C₄ (by decide) hga (wpAny_items_cons (vN F₄ rfl (wpAny_items_nil ⟨fun _ _ e => e, ?_⟩)))))))
  refine makeGen C F₄.keep (Nat.le_of_lt (Nat.lt_of_le_of_lt F₄.above F₄.ns.lt)) r' hga (by omega) fun h₅ k ag G₅ K₅ hG₅ X₅ => ?_
  obtain ⟨L', g, st, _, _, hg, _⟩ := X₅.live
  refine wpAny_pyIter_gen (s := sh h₅ k (gs b G₅)) hg ?_
  have F₅ := F₄.keeps K₅
  refine checkLoop (G₀ := G₅) F₄.ns.lt r'.handled (r'.lt (by omega)) (res := check text) (fun h₆ k m₆ G₆ i t F₆ hm hi hG₆ => ?_) (fun h₆ k m₆ G₆ F₆ hi hG₆ => ?_) (escs 0 false (strip text)) 0 0 _ h₅ _ _ G₅ rfl (Nat.zero_le _) rfl id F₅ rfl X₅
  · refine wpAny_execs_cons (wpAny_Return_some (wpAny_Compare1 (vN F₆ hm (cInt fun t k => eq_int ?_))))
    rw [hi]
    exact hR _ _ _ F₆.keep fun q => hG₆ (hG₅ (hG₂ q))
  · have := hR h₆ k G₆ F₆.keep fun q => hG₆ (hG₅ (hG₂ q))
    rw [← hi] at this
    exact this
end
end Mine

end
section
open PySem PySem.W PySem.Calls PyProof.Rows
set_option Elab.async false
set_option maxRecDepth 100000
namespace Mine
section
variable {w : World} {A : Around} {E : Value → Shared → Prop} {R : Result → Shared → Prop} {s : Shared} {env : Env}
abbrev testsOf (ifs : List Expr) (env : Env) : Sem Bool := forIn ifs true fun c r => if r = true then do let ok ← isTrue c env (eval c env); pure (ForInStep.yield ok) else pure (ForInStep.yield r)
def contQ (w : World) (A : Around) (elt target iter : Expr) (ifs : List Expr) (scope : Scope) (pos : Pos) (it acc : Value) (env : Env) (R : Result → Shared → Prop) (v : Value) (s₁' : Shared) : Prop :=
  wpAny (model P w) A (assign target env v) (fun _ s₂ => wpAny (model P w) A (testsOf ifs env) (fun ok s₃ =>
          if ok = true then wpAny (model P w) A (eval elt env) (fun x s₄ => wpAny (model P w) A (call (.builtin "list.append") [acc, x]) (fun _ s₅ => codeAny (model P w) A (.compLoop (.ListComp elt [⟨target, iter, ifs, 0⟩] scope pos) 0 it acc env) R s₅) (fun _ _ => False) s₄) (fun _ _ => False) s₃
          else codeAny (model P w) A (.compLoop (.ListComp elt [⟨target, iter, ifs, 0⟩] scope pos) 0 it acc env) R s₃) (fun _ _ => False) s₂) (fun _ _ => False) s₁'
theorem compOnce {elt target iter : Expr} {ifs : List Expr} {scope : Scope} {pos : Pos} {it acc : Value}
    (H : wpAny (model P w) A (pyNext it) (fun r s₁ => match r with
      | none => R (.ok .next) s₁
      | some v => wpAny (model P w) A (letOwnedTupleGo target it v) (fun _ s₁' => wpAny (model P w) A (assign target env v) (fun _ s₂ => wpAny (model P w) A (testsOf ifs env) (fun ok s₃ =>
          if ok = true then wpAny (model P w) A (eval elt env) (fun x s₄ => wpAny (model P w) A (call (.builtin "list.append") [acc, x]) (fun _ s₅ => codeAny (model P w) A (.compLoop (.ListComp elt [⟨target, iter, ifs, 0⟩] scope pos) 0 it acc env) R s₅) (fun _ _ => False) s₄) (fun _ _ => False) s₃
          else codeAny (model P w) A (.compLoop (.ListComp elt [⟨target, iter, ifs, 0⟩] scope pos) 0 it acc env) R s₃) (fun _ _ => False) s₂) (fun _ _ => False) s₁') (fun _ _ => False) s₁) (fun _ _ => False) s) :
    codeAny (model P w) A (.compLoop (.ListComp elt [⟨target, iter, ifs, 0⟩] scope pos) 0 it acc env) R s := by
  refine codeAny_of_tree ?_
  show wpAny _ A ((compTurn (.ListComp elt [⟨target, iter, ifs, 0⟩] scope pos) 0 it acc env).onRaise (fun x => do noteFrame x env; theTreesLotGoes x)) _ _ s
  refine wpAny_onRaise (E := fun e s' => R (.error e) s') ?_
  rw [compTurn_list]
  refine wpAny_bind (wpAny_standAt (wpAny_bind (wpAny_mono H (fun r s₁ h₁ => ?_) fun _ _ x => x.elim)))
  cases r with
  | none => exact wpAny_pure h₁
  | some v =>
    refine wpAny_bind (wpAny_mono h₁ (fun _ s₁' h₁' => ?_) fun _ _ x => x.elim)
    refine wpAny_bind (wpAny_mono h₁' (fun _ s₂ h₂ => wpAny_bind (wpAny_mono h₂ (fun ok s₃ h₃ => ?_) fun _ _ x => x.elim)) fun _ _ x => x.elim)
    cases ok with
    | false => exact wpAny_pure ⟨rfl, h₃⟩
    | true =>
      rw [if_pos rfl] at h₃
      exact wpAny_bind (wpAny_bind (wpAny_mono h₃ (fun x s₄ h₄ => wpAny_bind (wpAny_mono h₄ (fun _ s₅ h₅ => wpAny_pure (wpAny_pure ⟨rfl, h₅⟩)) fun _ _ x => x.elim)) fun _ _ x => x.elim))
end
/-- a source of items for a target -/
structure Src (w : World) (A : Around) (target : Expr) (I : Addr) (fp wr : List Addr) (n : Nat) (Pi : Nat → Value → Heap → Prop) (St : Nat → Heap → Prop) : Prop where
  frame : ∀ i h h', St i h → (∀ b ∈ fp, ∀ o, h.get? b = some o → h'.get? b = some o) → St i h'
  item : ∀ i (s : Shared) (Q : Value → Shared → Prop), i < n → St i s.heap → (∀ v h' tk, Pi i v h' → St (i + 1) h' → (∀ b o, b ∉ wr → s.heap.get? b = some o → h'.get? b = some o) → Q v (sh h' tk s)) →
    wpAny (model P w) A (pyNext (.ref I)) (fun r s₁ => match r with | none => False | some v => wpAny (model P w) A (letOwnedTupleGo target (.ref I) v) (fun _ s₂ => Q v s₂) (fun _ _ => False) s₁) (fun _ _ => False) s
  done : ∀ (s : Shared) (Q : Option Value → Shared → Prop), St n s.heap → (∀ h' tk, (∀ b o, b ∉ wr → s.heap.get? b = some o → h'.get? b = some o) → Q none (sh h' tk s)) → wpAny (model P w) A (pyNext (.ref I)) Q (fun _ _ => False) s
  self : ∀ i (s : Shared) (Q : Value → Shared → Prop), St i s.heap → Q (.ref I) s → wpAny (model P w) A (pyIter (.ref I)) Q (fun _ _ => False) s
theorem Src.walks {w : World} {A : Around} {I : Addr} {fp wr : List Addr} {n : Nat} {Pi : Nat → Value → Prop} {St : Nat → Heap → Prop} (W : Walks P w A I fp wr n Pi St) (x : Str) (px : Pos) : Src w A (.Name x px) I fp wr n (fun i v _ => Pi i v) St where
  frame := W.frame
  item := fun i s Q hi st hQ => W.item i s _ _ hi st fun v h' tk hp st' hk => wpAny_pure (hQ v h' tk hp st' hk)
  done := fun s Q st hQ => W.done s Q _ st hQ
  self := fun i s Q st hQ => W.self i s Q _ st hQ
theorem Src.walksT {w : World} {A : Around} {I : Addr} {fp wr : List Addr} {n : Nat} {Pt : Nat → Array Value → Prop} {St : Nat → Heap → Prop} {Mid : Nat → Addr → Heap → Prop} (W : WalksT P w A I fp wr n Pt St Mid) (elts : List Expr) (k : Nat) (p : Pos) :
    Src w A (.Tuple elts k p) I fp wr n (fun i v h => ∃ Tt vals, v = .ref Tt ∧ h.IsTuple Tt vals ∧ Pt i vals) St where
  frame := W.frame
  item := fun i s Q hi st hQ => W.item i s _ _ hi st fun Tt vals h' tk hp _ hT hMid hk => W.go elts k p i Tt _ _ _ hMid fun h₂ st₂ hk₂ =>
    hQ (.ref Tt) h₂ tk ⟨Tt, vals, rfl, hT.at fun o e => hk₂ Tt o (W.apart i Tt h' hMid) e, hp⟩ st₂ fun b o hb e => hk₂ b o hb (hk b o hb e)
  done := fun s Q st hQ => W.done s Q _ st hQ
  self := fun i s Q st hQ => W.self i s Q _ st hQ
theorem letGoAny {w : World} {A : Around} {E : Value → Shared → Prop} {s : Shared} {elts : List Expr} {x1} {pos : Pos} {I l : Addr} {v : Value} {i : Nat} {Q : Unit → Shared → Prop} (hit : s.heap.IsListIter I l i) (hQ : Q () s) :
    wpAny (model P w) A (letOwnedTupleGo (.Tuple elts x1 pos) (.ref I) v) Q E s := by
  cases v with
  | ref a => exact wpAny_letOwnedTupleGo_listiter hit hQ
  | _ => exact wpAny_pure hQ
theorem Src.listT {w : World} {A : Around} (hh : A.handled = none) (I l : Addr) (hne : l ≠ I) (items : Array Value) (elts : List Expr) (k : Nat) (p : Pos) :
    Src w A (.Tuple elts k p) I [I, l] [I] items.size (fun i v _ => items[i]? = some v) (fun i h => h.IsListIter I l i ∧ h.IsList l items) where
  frame := fun _ _ _ st hk => ⟨st.1.at fun o e => hk I (by simp) o e, st.2.at fun o e => hk l (by simp) o e⟩
  item := fun i s Q hi st hQ => by
    refine wpAny_pyNext_list_item st.1 st.2 (x := items[i]) (by simp [hi]) fun h' hit' hs' => ?_
    exact letGoAny (s := { s with heap := h' }) hit' (hQ _ h' s.toks (by simp [hi]) ⟨hit', st.2.extBut hs'.extBut hne⟩ fun b o hb e => hs'.extBut b o (fun h => hb (by simp [h])) e)
  done := fun s Q st hQ => wpAny_pyNext_list_end hh st.1 st.2 (by simp) fun h' he' => hQ h' s.toks fun b o hb e => he' b o (fun h => hb (by simp [h])) e
  self := fun i s Q st hQ => (Walks.list (prog := P) (w := w) hh I l hne items).self i s Q _ st hQ


abbrev CompH (w : World) (A : Around) (env : Env) (elt target : Expr) (ifs : List Expr) (scope : Scope) (cl : List (Str × Addr)) (fin : Heap → Array GenState → Shared → Addr → List Value → Heap → Nat → Array GenState → Prop) (it : Value) (s₂ : Shared) : Prop :=
  ∃ (I : Addr) (fp wr : List Addr) (n : Nat) (Pi : Nat → Value → Heap → Prop) (St : Nat → Heap → Prop) (h₁ h₂ : Heap) (k₂ : Nat) (G₁ : Array GenState) (b : Shared) (J : Nat → List Value → Prop),
      it = .ref I ∧ s₂ = sh h₂ k₂ (gs b G₁) ∧ Src w A target I fp wr n Pi St ∧ n ≤ 3000 ∧ St 0 h₂ ∧ (∀ b ∈ fp, b < h₂.objs.size) ∧ (∀ b ∈ wr, h₁.get? b = none) ∧ (∀ b ∈ wr, b < h₂.objs.size) ∧ Kp h₁ h₂ ∧ h₁.objs.size ≤ h₂.objs.size ∧ J 0 [] ∧ (∀ i ys, J i ys → ys.length ≤ i) ∧
      (∀ C i v ys h k G m, i < n → Pi i v h → J i ys → Fr h₁ C h m →
        wpAny (model P w) A (assign target (compEnvC scope cl C env) v) (fun _ s' => wpAny (model P w) A (testsOf ifs (compEnvC scope cl C env)) (fun ok s₃ => ∃ h₃ k₃ G₃ m₃, s₃ = sh h₃ k₃ (gs b G₃) ∧ Kp' C h h₃ ∧ Fr h₁ C h₃ m₃ ∧ (AllBare G → AllBare G₃) ∧
          (if ok = true then wpAny (model P w) A (eval elt (compEnvC scope cl C env)) (fun x s₄ => ∃ h₄ k₄, s₄ = sh h₄ k₄ (gs b G₃) ∧ Kp h₃ h₄ ∧ J (i + 1) (ys ++ [x])) (fun _ _ => False) s₃ else J (i + 1) ys)) (fun _ _ => False) s') (fun _ _ => False) (sh h k (gs b G))) ∧
      (∀ D ys h' k' G', h₁.get? D = none → h'.PlainList D (List.toArray ys) → J n ys → Kp h₁ h' → (AllBare G₁ → AllBare G') → fin h₁ G₁ b D ys h' k' G')
theorem compBlock {w : World} {A : Around} {E : Value → Shared → Prop} {env : Env} {elt target iter : Expr} {ifs : List Expr} {scope : Scope} {cl : List (Str × Addr)} {pos : Pos} {fin : Heap → Array GenState → Shared → Addr → List Value → Heap → Nat → Array GenState → Prop} {it : Value} {s₂ : Shared} {RR : Value → Addr → Result → Shared → Prop}
    (H : CompH w A env elt target ifs scope cl fin it s₂)
    (hRR : ∀ h₁ G₁ b D ys h' k' G' C m', h₁.get? D = none → h₁.get? C = none → D ≠ C → h'.Ns C m' → h'.PlainList D (List.toArray ys) → Kp h₁ h' → (∀ h'' k'', h''.PlainList D (List.toArray ys) → Kp h₁ h'' → fin h₁ G₁ b D ys h'' k'' G') → RR (.ref D) C (.ok .next) (sh h' k' (gs b G')))
    (hcell : ∀ y ∈ scope.names, y.2 ≠ .cell) (hkind : scope.kind = .function) :
    wpAny (model P w) A (newList []) (fun acc s₃ => wpAny (model P w) A (newFunctionEnv scope env.globals cl [] env.qual none .none (some env)) (fun cenv s₄ =>
      codeAny (model P w) A (.compStart (.ListComp elt [⟨target, iter, ifs, 0⟩] scope pos) 0 it acc { cenv with scope := relabel scope env }) (RR acc cenv.locals) s₄) E s₃) E s₂ := by
  obtain ⟨I, fp, wr, n, Pi, St, h₁, h₂, k₂, G₁, b, J, rfl, rfl, W, hn, hst, hfp, hwr, hwr2, hk₁₂, hsz₁₂, hJ0, hJl, step, fin⟩ := H
  refine wpAny_newObj_type (wpAny_newFunctionEnv hcell (by intro y hy; simp at hy) (fun h₃ hns₃ hsb₃ => ?_) hkind)
  dsimp only at hns₃ hsb₃ ⊢
  have hC : (h₂.push { cls := .type "list", dict := none, data := .seq ([] : List Value).toArray }).objs.size = h₂.objs.size + 1 := Heap.size_push ..
  replace hns₃ : h₃.Ns (h₂.push { cls := .type "list", dict := none, data := .seq ([] : List Value).toArray }).objs.size (fun x => ([] : List (Str × Value)).reverse.lookup x) := hns₃
  replace hsb₃ : Heap.SameBut (h₂.push { cls := .type "list", dict := none, data := .seq ([] : List Value).toArray }).objs.size ((h₂.push { cls := .type "list", dict := none, data := .seq ([] : List Value).toArray }).push _) h₃ := hsb₃
  have old : Kp h₂ h₃ := fun b o e => hsb₃.extBut b o (Nat.ne_of_lt (by have := Heap.lt_size e; rw [hC]; exact Nat.lt_succ_of_lt this)) (Heap.get?_push_of_some _ (Heap.get?_push_of_some _ e))
  have hacc : h₃.PlainList h₂.objs.size #[] := ⟨_, hsb₃.extBut _ _ (by rw [hC]; exact Nat.ne_of_lt (Nat.lt_succ_self _)) (Heap.get?_push_of_some _ (Heap.get?_push_size _ rfl))⟩
  show codeAny (model P w) A (.compStart _ 0 (.ref I) (.ref h₂.objs.size) (compEnvC scope cl (h₂.push { cls := .type "list", dict := none, data := .seq ([] : List Value).toArray }).objs.size env)) (RR (.ref h₂.objs.size) (h₂.push { cls := .type "list", dict := none, data := .seq ([] : List Value).toArray }).objs.size) (sh h₃ _ (gs b G₁))
  rw [hC] at hns₃ hsb₃ ⊢
  have hst₃ : St 0 h₃ := W.frame _ _ _ hst fun b _ o e => old b o e
  have hDC : h₂.objs.size ≠ h₂.objs.size + 1 := Nat.ne_of_lt (Nat.lt_succ_self _)
  have hCf : h₂.objs.size + 1 ∉ fp := fun q => absurd (hfp _ q) (Nat.not_lt.mpr (Nat.le_succ _))
  have hDf : h₂.objs.size ∉ fp := fun q => absurd (hfp _ q) (Nat.lt_irrefl _)
  have hCw : h₂.objs.size + 1 ∉ wr := fun q => absurd (hwr2 _ q) (Nat.not_lt.mpr (Nat.le_succ _))
  have hDw : h₂.objs.size ∉ wr := fun q => absurd (hwr2 _ q) (Nat.lt_irrefl _)
  have hD₁ : h₁.get? h₂.objs.size = none := by
    cases e : h₁.get? h₂.objs.size with
    | none => rfl
    | some o => exact absurd (Heap.lt_size (hk₁₂ _ _ e)) (Nat.lt_irrefl _)
  have hC₁ : h₁.get? (h₂.objs.size + 1) = none := by
    cases e : h₁.get? (h₂.objs.size + 1) with
    | none => rfl
    | some o => exact absurd (Nat.lt_of_lt_of_le (Heap.lt_size e) hsz₁₂) (Nat.not_lt.mpr (Nat.le_succ _))
  have loop : ∀ (r i : Nat) (ys : List Value) (h : Heap) (k : Nat) (G : Array GenState) (m : Str → Option Value), n - i = r → i ≤ n → J i ys → St i h → h.PlainList h₂.objs.size ys.toArray → Fr h₁ (h₂.objs.size + 1) h m → (AllBare G₁ → AllBare G) →
      codeAny (model P w) A (.compLoop (.ListComp elt [⟨target, iter, ifs, 0⟩] scope pos) 0 (.ref I) (.ref h₂.objs.size) (compEnvC scope cl (h₂.objs.size + 1) env)) (RR (.ref h₂.objs.size) (h₂.objs.size + 1)) (sh h k (gs b G)) := by
    intro r
    induction r with
    | zero =>
      intro i ys h k G m hr hi hJ hst hD F hG
      obtain rfl : i = n := by omega
      refine compOnce (W.done _ _ hst fun h' tk hk => ?_)
      have up : Kp h₁ h' := fun b o e => hk b o (fun q => by rw [hwr b q] at e; cases e) (F.keep b o e)
      exact hRR h₁ G₁ b _ ys h' tk G _ m hD₁ hC₁ hDC (F.ns.at' fun o e => hk _ o hCw e) (hD.at fun o e => hk _ o hDw e) up fun h'' k'' hp hk'' => fin _ ys h'' k'' G hD₁ hp hJ hk'' hG
    | succ r ih =>
      intro i ys h k G m hr hi hJ hst hD F hG
      have hlt : i < n := by omega
      refine compOnce (wpAny_mono (W.item i _ (contQ w A elt target iter ifs scope pos (.ref I) (.ref h₂.objs.size) (compEnvC scope cl (h₂.objs.size + 1) env) (RR (.ref h₂.objs.size) (h₂.objs.size + 1))) hlt hst fun v h' tk hp st' hk => ?_) (fun r s q => ?_) fun _ _ q => q)
      rotate_left
      · cases r with
        | none => exact q.elim
        | some v => exact q
      unfold contQ
      have F' : Fr h₁ (h₂.objs.size + 1) h' m := ⟨F.ns.at' fun o e => hk _ o hCw e, fun b o e => hk b o (fun q => by rw [hwr b q] at e; cases e) (F.keep b o e), F.above⟩
      refine wpAny_mono (step _ i v ys h' tk G m hlt hp hJ F') (fun _ s' q => wpAny_mono q (fun ok s₃ q => ?_) fun _ _ q => q) fun _ _ q => q
      obtain ⟨h₄, k₄, G₄, m₄, rfl, K₄, F₄, hG₄, q⟩ := q
      have hst₄ : St (i + 1) h₄ := W.frame _ _ _ st' fun b hb o e => K₄ b o (fun q => hCf (q ▸ hb)) e
      have hD₄ : h₄.PlainList h₂.objs.size ys.toArray := hD.at fun o e => K₄ _ _ hDC (hk _ _ hDw e)
      cases ok with
      | false =>
        rw [if_neg Bool.false_ne_true] at q ⊢
        exact ih (i + 1) ys h₄ k₄ G₄ m₄ (by omega) hlt q hst₄ hD₄ F₄ fun z => hG₄ (hG z)
      | true =>
        rw [if_pos rfl] at q ⊢
        refine wpAny_mono q (fun x s₅ q => ?_) fun _ _ q => q
        obtain ⟨h₅, k₅, rfl, K₅, hJ₅⟩ := q
        refine wpAny_list_append_plain (s := sh h₅ k₅ (gs b G₄)) (hD₄.at fun o e => K₅ _ _ e) (fun h₆ hD₆ hs₆ => ?_) (by rw [List.size_toArray]; have := hJl _ _ hJ; exact szOf (by omega))
        refine ih (i + 1) (ys ++ [x]) h₆ k₅ G₄ m₄ (by omega) hlt hJ₅ (W.frame _ _ _ hst₄ fun b hb o e => hs₆.extBut b o (fun q => hDf (q ▸ hb)) (K₅ b o e)) (by simpa using hD₆) ?_ fun z => hG₄ (hG z)
        exact ⟨(F₄.ns.keeps K₅).sameBut hs₆ (Ne.symm hDC), fun b o e => hs₆.extBut b o (fun q => by subst q; rw [hD₁] at e; cases e) (K₅ b o (F₄.keep b o e)), F₄.above⟩
  have F₃ : Fr h₁ (h₂.objs.size + 1) h₃ (fun x => ([] : List (Str × Value)).reverse.lookup x) := ⟨hns₃, fun b o e => old b o (hk₁₂ b o e), Nat.le_succ_of_le hsz₁₂⟩
  generalize (sh h₂ k₂ (gs b G₁)).toks + _ = k₃
  have start := loop (n - 0) 0 [] h₃ k₃ G₁ _ rfl (Nat.zero_le _) hJ0 hst₃ hacc F₃ id
  exact codeAny_compStart_list start (wpAny_mono (W.self 0 _ _ hst₃ start) (fun _ _ q => q) fun _ _ q => q.elim)

theorem compS {w : World} {A : Around} {E : Value → Shared → Prop} {env : Env} {elt target iter : Expr} {ifs : List Expr} {scope : Scope} {cl : List (Str × Addr)} {pos : Pos} {s : Shared} {Q : Value → Shared → Prop}
    (H : wpAny (model P w) A (eval iter env) (fun xv s₁ => wpAny (model P w) A (pyIter xv) (CompH w A env elt target ifs scope cl fun _ _ b D _ h' k' G' => Q (.ref D) (sh h' k' (gs b G'))) E s₁) E s)
    (hclos : closureFor scope env = pure cl := by rfl) (hcell : ∀ y ∈ scope.names, y.2 ≠ .cell := by decide) (hkind : scope.kind = .function := by rfl)
    (hnames : ∀ y ∈ scope.names, y.2 = .local → scope.names.lookup y.1 = some .local := by decide)
    (hs : ∀ x, foldedSetIterable iter env x = pure x := by intro _; rfl) :
    wpAny (model P w) A (eval (.ListComp elt [⟨target, iter, ifs, 0⟩] scope pos) env) Q E s := by
  rw [eval_ListComp]
  refine wpAny_comprehension_free (use := none) rfl hs hclos hkind hnames (wpAny_mono H (fun xv s₁ q => wpAny_mono q (fun it s₂ q => ?_) fun _ _ e => e) fun _ _ e => e)
  refine compBlock (RR := fun acc C => compPost (model P w) A E none Q acc C) q (fun h₁ G₁ b D ys h' k' G' C m' hD hC hDC hn hp hk fin => ?_) hcell hkind
  exact ⟨m', hn, fun h'' hs'' => fin h'' k' (hp.extBut hs''.extBut hDC) fun b o e => hs''.extBut b o (fun q => by subst q; rw [hC] at e; cases e) (hk b o e)⟩
/-- y = [..] -/
theorem compSA {w : World} {A : Around} {E : Value → Shared → Prop} {env : Env} {y : Str} {py spos : Pos} {elt target iter : Expr} {ifs : List Expr} {scope : Scope} {cl : List (Str × Addr)} {pos : Pos} {s : Shared} {Q : Flow → Shared → Prop}
    (H : wpAny (model P w) A (eval iter env) (fun xv s₁ => wpAny (model P w) A (pyIter xv) (CompH w A env elt target ifs scope cl fun h₁ _ b D ys _ _ G' => ∃ h₀ m, Fr h₀ env.locals h₁ m ∧ ∀ h' k', Fr h₀ env.locals h' (set m y (.ref D)) → h'.PlainList D (List.toArray ys) → Kp' env.locals h₁ h' → Q .next (sh h' k' (gs b G'))) E s₁) E s)
    (hsw : swapsWith (.ListComp elt [⟨target, iter, ifs, 0⟩] scope pos) (some (.Name y py)) spos.line env = pure true := by rfl)
    (hclos : closureFor scope env = pure cl := by rfl) (hcell : ∀ y ∈ scope.names, y.2 ≠ .cell := by decide) (hkind : scope.kind = .function := by rfl)
    (hnames : ∀ y ∈ scope.names, y.2 = .local → scope.names.lookup y.1 = some .local := by decide)
    (hy : env.kindOf y = some .local := by rfl) (hp : env.scope.kind = .function := by rfl)
    (hs : ∀ x, foldedSetIterable iter env x = pure x := by intro _; rfl) :
    wpAny (model P w) A (exec (.Assign [.Name y py] (.ListComp elt [⟨target, iter, ifs, 0⟩] scope pos) spos) env) Q E s := by
  rw [exec_Assign_Name_used _ _ _ _ hsw]
  refine wpAny_bind (wpAny_standAt (wpAny_bind ?_))
  show wpAny _ A (do let _ ← comprehension (.ListComp elt [⟨target, iter, ifs, 0⟩] scope pos) scope env _ (newList []) false (eval iter env) (some (assign (.Name y py) env))) _ _ s
  refine wpAny_bind (wpAny_mono (wpAny_comprehension_free (use := some (assign (.Name y py) env)) (Q := fun _ s' => Q .next s') rfl hs hclos hkind hnames
    (wpAny_mono H (fun xv s₁ q => wpAny_mono q (fun it s₂ q => ?_) fun _ _ e => e) fun _ _ e => e)) (fun _ s' hq => wpAny_pure (wpAny_pure hq)) fun _ _ e => e)
  refine compBlock (RR := fun acc C => compPost (model P w) A E (some (assign (.Name y py) env)) (fun _ s' => Q .next s') acc C) q (fun h₁ G₁ b D ys h' k' G' C m' hD hC hDC hn hpl hk fin => ?_) hcell hkind
  obtain ⟨h₀, m, F₁, _⟩ := fin h' k' hpl hk
  have hLC : C ≠ env.locals := by rintro rfl; obtain ⟨o, _, _, ho, _⟩ := F₁.ns; rw [hC] at ho; cases ho
  have hLD : D ≠ env.locals := by rintro rfl; obtain ⟨o, _, _, ho, _⟩ := F₁.ns; rw [hD] at ho; cases ho
  obtain ⟨h₀, m, F₁, fin⟩ := fin h' k' hpl hk
  have F' : Fr h₀ env.locals h' m := F₁.keeps hk
  show wpAny _ A (assign (.Name y py) env (.ref D)) _ _ (sh h' k' (gs b G'))
  refine wpAny_assign_Name (wpAny_storeName_local (s := sh h' k' (gs b G')) hy F'.ns (fun h₂ hn₂ hs₂ => ?_) (by rw [hp]; rfl))
  replace hs₂ : Heap.SameBut env.locals h' h₂ := hs₂
  have e : (fun z => if z = y then some (Value.ref D) else m z) = set m y (.ref D) := by
    funext z
    show _ = bif z == y then some (Value.ref D) else m z
    by_cases hz : z = y
    · subst hz; simp
    · rw [if_neg hz, show (z == y) = false by simpa using hz]; rfl
  rw [e] at hn₂
  have F₂ := F'.set hn₂ hs₂
  refine ⟨m', hn.sameBut hs₂ hLC, fun h₃ hs₃ => ?_⟩
  have base : ∀ b o, h₀.get? b = some o → b ≠ C := fun b o q z => by subst z; rw [F₁.keep _ _ q] at hC; cases hC
  refine fin h₃ _ ⟨F₂.ns.sameBut hs₃ (Ne.symm hLC), fun b o q => hs₃.extBut b o (base b o q) (F₂.keep b o q), F₂.above⟩ ((hpl.extBut hs₂.extBut hLD).extBut hs₃.extBut hDC) fun b o hb q => hs₃.extBut b o (fun z => by subst z; rw [hC] at q; cases q) (hs₂.extBut b o hb (hk b o q))
end Mine

end
section
open PySem PySem.W PySem.Calls PyProof.Rows PySem.Builtin PySem.Builtin.Str PySem.StrLaws
set_option Elab.async false
set_option maxRecDepth 100000
namespace Mine
/-- the sign put ahead of the first row -/
def hd (c : Nat) : List T → List T
  | [] => [[c]]
  | h :: t => (c :: h) :: t
/-- a text split at y -/
def spl (y : T) : Nat → T → List T
  | 0, x => [x]
  | f + 1, x => if y.isPrefixOf x = true then [] :: spl y f (x.drop y.length) else match x with
    | [] => [[]]
    | c :: r => hd c (spl y f r)
theorem at_iff (l y : T) (i : Nat) : At (ofL l) (ofL y) (ofL l).length i ↔ i ≤ l.length ∧ y.isPrefixOf (l.drop i) = true := by
  unfold At subAt
  rw [ofL_len, ofL_len]
  have e : ((ofL l).cps.extract i (i + y.length) == (ofL y).cps) = true ↔ (l.drop i).take y.length = y := by
    rw [beq_iff_eq]
    show l.toArray.extract i (i + y.length) = y.toArray ↔ _
    rw [List.extract_toArray, List.extract_eq_take_drop, Nat.add_sub_cancel_left]
    constructor
    · intro h; simpa using congrArg Array.toList h
    · intro h; rw [h]
  rw [e]
  constructor
  · rintro ⟨h1, h2⟩
    refine ⟨by omega, ?_⟩
    rw [List.isPrefixOf_iff_prefix]
    exact ⟨(l.drop i).drop y.length, by have := List.take_append_drop y.length (l.drop i); rw [h2] at this; exact this⟩
  · rintro ⟨h1, h2⟩
    rw [List.isPrefixOf_iff_prefix] at h2
    obtain ⟨t, ht⟩ := h2
    have hlen := congrArg List.length ht
    simp at hlen
    exact ⟨by omega, by rw [← ht]; simp⟩
theorem sub_list (l : T) (a b : Nat) : strSub (ofL l) a b = ofL ((l.drop a).take (b - a)) := by
  unfold strSub
  show (⟨l.toArray.extract a b⟩ : Str) = ofL _
  rw [List.extract_toArray, List.extract_eq_take_drop]; rfl
theorem hd_map (c : Nat) (zs : List T) (h : zs ≠ []) : ∃ z r, zs = z :: r ∧ hd c zs = (c :: z) :: r := by
  cases zs with
  | nil => exact absurd rfl h
  | cons z r => exact ⟨z, r, rfl, rfl⟩
theorem spl_ne (y : T) : ∀ f x, spl y f x ≠ []
  | 0, x => by simp [spl]
  | f + 1, x => by
    unfold spl
    split
    · simp
    · cases x with
      | nil => simp
      | cons c r =>
        show hd c (spl y f r) ≠ []
        cases spl y f r <;> simp [hd]
theorem parts_spl (l y : T) (hy : 1 ≤ y.length) : ∀ (f a : Nat) (cuts : List Nat) (q : Nat), l.length - a < f → a ≤ l.length → ChainG (ofL l) (ofL y) (ofL l).length a cuts q → (∀ k, q ≤ k → ¬ At (ofL l) (ofL y) (ofL l).length k) →
    partsFrom (ofL l) y.length a cuts = (spl y f (l.drop a)).map ofL := by
  intro f
  induction f with
  | zero => intro a cuts q h; omega
  | succ f ih =>
    intro a cuts q hf ha hc hq
    have hlast : ∀ a, (l.drop a).take (l.length - a) = l.drop a := fun a => List.take_of_length_le (by simp)
    by_cases hA : At (ofL l) (ofL y) (ofL l).length a
    · have hp := ((at_iff l y a).mp hA).2
      unfold spl
      rw [if_pos hp]
      cases cuts with
      | nil => exact absurd hA (hq a (Nat.le_of_eq hc))
      | cons c r =>
        obtain ⟨h1, h2, h3, h4⟩ := hc
        have : c = a := by
          rcases Nat.lt_or_ge a c with z | z
          · exact absurd hA (h3 a (Nat.le_refl _) z)
          · omega
        subst this
        have hle := ((at_iff l y c).mp h2).1
        have hcl : c + y.length ≤ l.length := by have := h2.1; rw [ofL_len, ofL_len] at this; exact this
        rw [ofL_len] at h4
        show strSub (ofL l) c c :: partsFrom (ofL l) y.length (c + y.length) r = _
        rw [ih (c + y.length) r q (by omega) hcl h4 hq, sub_list, Nat.sub_self, List.map_cons, List.drop_drop]
        rfl
    · have hp : ¬ y.isPrefixOf (l.drop a) = true := fun z => hA ((at_iff l y a).mpr ⟨ha, z⟩)
      unfold spl
      rw [if_neg hp]
      rcases Nat.lt_or_ge a l.length with hlt | hge
      · have hdr : l.drop a = l[a] :: l.drop (a + 1) := (List.drop_eq_getElem_cons hlt)
        rw [hdr]
        show _ = (hd l[a] (spl y f (l.drop (a + 1)))).map ofL
        obtain ⟨z, r', hz, hz'⟩ := hd_map l[a] _ (spl_ne y f (l.drop (a + 1)))
        cases cuts with
        | nil =>
          have hqa : q = a := hc
          have e := ih (a + 1) [] (a + 1) (by omega) (by omega) rfl (fun k hk => hq k (by omega))
          rw [hz'] 
          rw [hz] at e
          have e1 : strSub (ofL l) (a + 1) (ofL l).length :: [] = (z :: r').map ofL := e
          rw [List.map_cons, List.cons.injEq, sub_list, ofL_len, hlast] at e1
          have e2 := ofL_inj e1.1
          show strSub (ofL l) a (ofL l).length :: [] = _
          rw [sub_list, ofL_len, hlast, hdr, List.map_cons, ← e1.2, e2]
        | cons c r =>
          obtain ⟨h1, h2, h3, h4⟩ := hc
          have hca : c ≠ a := fun z => hA (z ▸ h2)
          have e := ih (a + 1) (c :: r) q (by omega) (by omega) ⟨by omega, h2, fun k hk hk' => h3 k (by omega) hk', h4⟩ hq
          rw [hz']
          rw [hz] at e
          have e1 : strSub (ofL l) (a + 1) c :: partsFrom (ofL l) y.length (c + y.length) r = (z :: r').map ofL := e
          rw [List.map_cons, List.cons.injEq, sub_list] at e1
          have e2 := ofL_inj e1.1
          show strSub (ofL l) a c :: partsFrom (ofL l) y.length (c + y.length) r = _
          rw [sub_list, hdr, List.map_cons, ← e1.2, ← e2, show c - a = (c - (a + 1)) + 1 by omega, List.take_succ_cons]
      · have hal : a = l.length := by omega
        have : l.drop a = [] := List.drop_eq_nil_of_le hge
        rw [this]
        cases cuts with
        | nil =>
          show strSub (ofL l) a (ofL l).length :: [] = _
          rw [sub_list, this, List.take_nil]; rfl
        | cons c r =>
          exfalso
          have := hc.2.1.1
          have := hc.1
          rw [ofL_len, ofL_len] at *
          omega
theorem between_spl (l y : T) (hy : 1 ≤ y.length) : partsBetween (ofL l) (occurrences (ofL l) (ofL y) 0 (ofL l).length ((ofL l).length + 1)) (ofL y).length = (spl y (l.length + 1) l).map ofL := by
  obtain ⟨q, h1, h2⟩ := occ_tight (ofL l) (ofL y) (by rw [ofL_len]; exact hy)
  rw [partsBetween_eq, ofL_len y]
  exact parts_spl l y hy (l.length + 1) 0 _ q (by omega) (Nat.zero_le _) h1 h2
theorem empty_spl (l y : T) (hy : 1 ≤ y.length) (h : (occurrences (ofL l) (ofL y) 0 (ofL l).length ((ofL l).length + 1)).isEmpty = true) : spl y (l.length + 1) l = [l] := by
  have e := between_spl l y hy
  rw [List.isEmpty_iff] at h
  rw [h, partsBetween_eq] at e
  have e1 : [strSub (ofL l) 0 (ofL l).length] = _ := e
  rw [sub_whole] at e1
  cases hs : spl y (l.length + 1) l with
  | nil => exact absurd hs (spl_ne _ _ _)
  | cons z r =>
    rw [hs] at e1
    rw [List.map_cons, List.cons.injEq] at e1
    have e2 := ofL_inj e1.1
    have e3 : r = [] := by cases r with | nil => rfl | cons a b => exact absurd e1.2 (by simp)
    rw [e2, e3]
theorem replace_spl (l y z : T) (hy : 1 ≤ y.length) : Txt.replace (ofL l) (ofL y) (ofL z) = ofL (glue z (spl y (l.length + 1) l)) := by
  unfold Txt.replace
  have hy0 : ((ofL y).length == 0) = false := by rw [ofL_len]; simpa using (show y ≠ [] by rintro rfl; simp at hy)
  rw [hy0, Bool.false_and, Bool.or_false]
  cases he : (occurrences (ofL l) (ofL y) 0 (ofL l).length ((ofL l).length + 1)).isEmpty
  · rw [if_neg Bool.false_ne_true, between_spl l y hy]
    exact join_glue z _
  · rw [if_pos rfl, empty_spl l y hy he]; rfl

theorem split_spl (l : T) : Txt.split (ofL l) (ofL [13, 10]) = (spl [13, 10] (l.length + 1) l).map ofL := by
  have hy : 1 ≤ ([13, 10] : T).length := by decide
  unfold Txt.split
  have hk : decide (Builtin.Str.strKind (ofL l) < Builtin.Str.strKind (ofL [13, 10])) = false := by
    have h1 : Builtin.Str.strKind (ofL [13, 10]) = 1 := by decide +kernel
    rw [h1]
    unfold Builtin.Str.strKind
    split
    · decide
    · split <;> decide
  rw [hk, Bool.or_false]
  by_cases he : (occurrences (ofL l) (ofL [13, 10]) 0 (ofL l).length ((ofL l).length + 1)).isEmpty = true
  · rw [empty_spl l _ hy he, if_pos he]
    split <;> rfl
  · rw [if_neg he, between_spl l _ hy]
    split
    · exfalso
      rename_i hlt
      have hlt' := of_decide_eq_true hlt
      obtain ⟨q, h1, h2⟩ := occ_tight (ofL l) (ofL [13, 10]) (by decide)
      cases ho : occurrences (ofL l) (ofL [13, 10]) 0 (ofL l).length ((ofL l).length + 1) with
      | nil => rw [ho] at he; exact he rfl
      | cons c r =>
        rw [ho] at h1
        have := h1.2.1.1
        omega
    · rfl
end Mine

end
section
open PySem PySem.W PySem.Calls PyProof.Rows
set_option Elab.async false
set_option maxRecDepth 100000
namespace Mine
section
variable {w : World} {mg : Str → Option Value} {A : Around} {E : Value → Shared → Prop} {h₀ h : Heap} {m : Str → Option Value} {env : Env} {k : Nat} {b : Shared}
theorem eN {x : Str} {pos : Pos} {v : Value} {Q : Value → Shared → Prop} (F : Fr h₀ env.locals h m) (hv : m x = some v) (H : Q v (sh h k b))
    (hk : env.scope.kind = .function := by rfl) (hl : env.kindOf x = some .local := by rfl) (hd : (x == ("__debug__" : Str)) = false := by decide) :
    wpAny (model P w) A (eval (.Name x pos) env) Q E (sh h k b) := wpAny_Name (wpAny_loadName_local (s := sh h k b) hk hl F.ns hv H) hd
theorem eG {x : Str} {pos : Pos} {v : Value} {Q : Value → Shared → Prop} (C : Cx w mg h₀) (F : Fr h₀ env.locals h m) (hv : mg x = some v) (H : Q v (sh h k b))
    (hg : env.globals = mainGlobals := by rfl) (hk : env.scope.kind = .function := by rfl) (hl : env.kindOf x = some .globalImplicit := by rfl) (hd : (x == ("__debug__" : Str)) = false := by decide) :
    wpAny (model P w) A (eval (.Name x pos) env) Q E (sh h k b) := Name_function_global (s := sh h k b) hk hl (loadGlobal_global (s := sh h k b) (by rw [hg]; exact C.g.keeps F.keep) hv H) hd
theorem eB {x : Str} {pos : Pos} {v : Value} {Q : Value → Shared → Prop} (C : Cx w mg h₀) (F : Fr h₀ env.locals h m) (hv : bootBuiltins x = some v) (H : Q v (sh h k b)) (hm : x ∈ ([ "enumerate", "len", "ord", "chr", "sum", "list", "range"] : List Str) := by decide)
    (hg : env.globals = mainGlobals := by rfl) (hb : env.builtins = builtinsNs := by rfl) (hk : env.scope.kind = .function := by rfl) (hl : env.kindOf x = some .globalImplicit := by rfl) (hd : (x == ("__debug__" : Str)) = false := by decide) (hn : x ≠ "__name__" := by decide) :
    wpAny (model P w) A (eval (.Name x pos) env) Q E (sh h k b) := by
  obtain ⟨mb, h1, h2⟩ := C.b
  exact Name_function_global (s := sh h k b) hk hl (loadGlobal_builtin (s := sh h k b) (by rw [hg]; exact C.g.keeps F.keep) (C.free _ hm) (by rw [hb]; exact h1.keeps F.keep) ((h2 x hn).trans hv) H) hd
theorem eC {x : Str} {pos : Pos} {v : Value} {c : Addr} {Q : Value → Shared → Prop} (hc : env.cells.lookup x = some c) (hv : h.IsCell c (some v)) (H : Q v (sh h k b))
    (hk : env.scope.kind = .function := by rfl) (hl : env.kindOf x = some .cell := by rfl) (hd : (x == ("__debug__" : Str)) = false := by decide) :
    wpAny (model P w) A (eval (.Name x pos) env) Q E (sh h k b) := wpAny_Name (wpAny_loadName_cell (s := sh h k b) hk hl hc hv H) hd
theorem sE {x : Str} {v : Value} {Q : Unit → Shared → Prop} (F : Fr h₀ env.locals h m)
    (H : ∀ h' k', Fr h₀ env.locals h' (set m x v) → Kp' env.locals h h' → Q () (sh h' k' b))
    (hk : env.scope.kind = .function := by rfl) (hl : env.kindOf x = some .local := by rfl) :
    wpAny (model P w) A (storeName env x v) Q E (sh h k b) :=
  wpAny_storeName_local (s := sh h k b) hl F.ns (fun h' hn hs => H h' _ (by
      have e : (fun y => if y = x then some v else m y) = set m x v := by
        funext y
        show _ = bif y == x then some v else m y
        by_cases hy : y = x
        · subst hy; simp
        · rw [if_neg hy, show (y == x) = false by simpa using hy]; rfl
      exact e ▸ F.set hn hs) (fun b o hb e => hs.extBut b o hb e))
    (by rw [hk]; rfl)
/-- no test -/
theorem noTests {Q : Bool → Shared → Prop} {s : Shared} (H : Q true s) : wpAny (model P w) A (testsOf [] env) Q E s := wpAny_pure H
/-- one test -/
theorem oneTest {e : Expr} {Q : Bool → Shared → Prop} {s : Shared} (H : wpAny (model P w) A (isTrue e env (eval e env)) Q E s) : wpAny (model P w) A (testsOf [e] env) Q E s := by
  unfold testsOf
  simp only [List.forIn_cons, List.forIn_nil, if_true]
  exact wpAny_bind (wpAny_bind (wpAny_mono H (fun b s' hb => wpAny_pure (wpAny_pure hb)) fun _ _ x => x))
end
theorem spl_len (y : T) : ∀ f x, (spl y f x).length ≤ f + 1
  | 0, x => by simp [spl]
  | f + 1, x => by
    unfold spl
    split
    · have := spl_len y f (x.drop y.length); simp; omega
    · cases x with
      | nil => simp
      | cons c r =>
        show (hd c (spl y f r)).length ≤ _
        have := spl_len y f r
        cases hs : spl y f r with
        | nil => simp [hd]
        | cons a t => rw [hs] at this; simp [hd] at this ⊢; omega
theorem spl_mem (y : T) : ∀ f x, ∀ z ∈ spl y f x, z.length ≤ x.length
  | 0, x, z, hz => by simp [spl] at hz; rw [hz]; exact Nat.le_refl _
  | f + 1, x, z, hz => by
    unfold spl at hz
    split at hz
    · rcases List.mem_cons.mp hz with rfl | hz
      · exact Nat.zero_le _
      · have := spl_mem y f _ z hz
        simp at this; omega
    · cases x with
      | nil => simp at hz; rw [hz]; exact Nat.le_refl _
      | cons c r =>
        have hz' : z ∈ hd c (spl y f r) := hz
        cases hs : spl y f r with
        | nil => rw [hs] at hz'; simp [hd] at hz'; rw [hz']; simp
        | cons a t =>
          rw [hs] at hz'
          simp [hd] at hz'
          rcases hz' with rfl | hz'
          · have := spl_mem y f r a (by rw [hs]; exact List.mem_cons_self ..)
            simp; omega
          · have := spl_mem y f r z (by rw [hs]; exact List.mem_cons_of_mem _ hz')
            simp; omega
/-- a row without the dot ahead -/
def dotless (row : T) : T := if row.take 1 = [46] then row.drop 1 else row
/-- what _law_unsent hands back -/
def unsent (text : T) : T := glue [13, 10] ((spl [13, 10] (text.length + 1) text).map dotless)
theorem dotless_len (row : T) : (dotless row).length ≤ row.length := by
  unfold dotless; split <;> simp
theorem strs_of_values {l : List (Str × Tok)} {zs : List T} (h : l.map (·.1) = zs.map ofL) : StrsAre (strValues l) (zs.map ofL) := by
  rw [← h]
  induction l generalizing zs with
  | nil => exact .nil
  | cons a l ih =>
    refine .cons _ _ ?_
    cases zs with
    | nil => simp at h
    | cons z zs => simp at h; exact ih (zs := zs) (by simpa using h.2)
theorem strs_get {vs : List Value} {zs : List T} (h : StrsAre vs (zs.map ofL)) {i : Nat} {v : Value} (hv : vs[i]? = some v) : ∃ z t, zs[i]? = some z ∧ v = .str (ofL z) t := by
  induction zs generalizing vs i with
  | nil => cases h; simp at hv
  | cons z zs ih =>
    cases h with
    | cons y t r =>
      cases i with
      | zero => simp at hv; exact ⟨z, t, rfl, hv.symm⟩
      | succ i => exact ih r (by simpa using hv)
end Mine
namespace Mine
/-- a comprehension over a list -/
theorem listH {w : World} {A : Around} {E : Value → Shared → Prop} {env : Env} {elt target : Expr} {ifs : List Expr} {scope : Scope} {cl : List (Str × Addr)} {fin : Heap → Array GenState → Shared → Addr → List Value → Heap → Nat → Array GenState → Prop} {D : Addr} {items : Array Value} {h₂ : Heap} {k₃ : Nat} {G : Array GenState} {b : Shared} {J : Nat → List Value → Prop}
    (hsrc : ∀ (I l : Addr), l ≠ I → ∀ items : Array Value, Src w A target I [I, l] [I] items.size (fun i v _ => items[i]? = some v) (fun i h => h.IsListIter I l i ∧ h.IsList l items))
    (hD : h₂.IsList D items) (hz : items.size ≤ 3000) (hJ0 : J 0 []) (hJl : ∀ i ys, J i ys → ys.length ≤ i)
    (step : ∀ C i v ys h k G m, i < items.size → items[i]? = some v → J i ys → Fr h₂ C h m →
        wpAny (model P w) A (assign target (compEnvC scope cl C env) v) (fun _ s' => wpAny (model P w) A (testsOf ifs (compEnvC scope cl C env)) (fun ok s₃ => ∃ h₃ k₃ G₃ m₃, s₃ = sh h₃ k₃ (gs b G₃) ∧ Kp' C h h₃ ∧ Fr h₂ C h₃ m₃ ∧ (AllBare G → AllBare G₃) ∧
          (if ok = true then wpAny (model P w) A (eval elt (compEnvC scope cl C env)) (fun x s₄ => ∃ h₄ k₄, s₄ = sh h₄ k₄ (gs b G₃) ∧ Kp h₃ h₄ ∧ J (i + 1) (ys ++ [x])) (fun _ _ => False) s₃ else J (i + 1) ys)) (fun _ _ => False) s') (fun _ _ => False) (sh h k (gs b G)))
    (hfin : ∀ D ys h' k' G', h₂.get? D = none → h'.PlainList D (List.toArray ys) → J items.size ys → Kp h₂ h' → (AllBare G → AllBare G') → fin h₂ G b D ys h' k' G') :
    wpAny (model P w) A (pyIter (.ref D)) (CompH w A env elt target ifs scope cl fin) E (sh h₂ k₃ (gs b G)) := by
  obtain ⟨od, hod, _⟩ := id hD
  have hDlt : D < h₂.objs.size := Heap.lt_size hod
  have hsz : ∀ o : Obj, (h₂.push o).objs.size = h₂.objs.size + 1 := fun o => Heap.size_push ..
  refine wpAny_pyIter_list (s := sh h₂ k₃ (gs b G)) hD ⟨h₂.objs.size, [h₂.objs.size, D], [h₂.objs.size], _, _, _, h₂, _, _, G, b, J, rfl, rfl, hsrc _ D (Nat.ne_of_lt hDlt) items, hz, ⟨⟨_, Heap.get?_push_size _ rfl, rfl, rfl⟩, hD.push _⟩, ?_, ?_, ?_,
    fun _ o e => Heap.get?_push_of_some _ e, ?_, hJ0, hJl, step, hfin⟩
  · intro b hb
    rw [show (sh h₂ k₃ (gs _ G)).heap = h₂ from rfl, hsz]
    simp at hb
    rcases hb with rfl | rfl
    · exact Nat.lt_succ_self _
    · exact Nat.lt_succ_of_lt hDlt
  · intro b hb
    simp at hb; subst hb
    cases e : h₂.get? h₂.objs.size with
    | none => rfl
    | some o => exact absurd (Heap.lt_size e) (Nat.lt_irrefl _)
  · intro b hb
    simp at hb; subst hb
    rw [show (sh h₂ k₃ (gs _ G)).heap = h₂ from rfl, hsz]
    exact Nat.lt_succ_self _
  · rw [show (sh h₂ k₃ (gs _ G)).heap = h₂ from rfl, hsz]; exact Nat.le_succ _
theorem srcN {w : World} {A : Around} (hA : A.handled = none) (x : Str) (px : Pos) : ∀ (I l : Addr), l ≠ I → ∀ items : Array Value, Src w A (.Name x px) I [I, l] [I] items.size (fun i v _ => items[i]? = some v) (fun i h => h.IsListIter I l i ∧ h.IsList l items) :=
  fun I l hne items => Src.walks (Walks.list hA I l hne items) x px
theorem ints_get {vs : List Value} {ns : List Int} (h : IntsAre vs ns) {i : Nat} {v : Value} (hv : vs[i]? = some v) : ∃ n t, ns[i]? = some n ∧ v = .int n t := by
  induction h generalizing i with
  | nil => simp at hv
  | cons n t r ih =>
    cases i with
    | zero => simp at hv; exact ⟨n, t, rfl, hv.symm⟩
    | succ i => exact ih (by simpa using hv)
theorem ints_end {vs : List Value} {ns : List Int} (h : IntsAre vs ns) (n : Int) (t : Tok) : IntsAre (vs ++ [.int n t]) (ns ++ [n]) := by
  induction h with
  | nil => exact .cons _ _ .nil
  | cons k u r ih => exact .cons _ _ ih
theorem strs_end {vs : List Value} {zs : List T} (h : StrsAre vs (zs.map ofL)) (z : T) (t : Tok) : StrsAre (vs ++ [.str (ofL z) t]) ((zs ++ [z]).map ofL) := by
  rw [List.map_append]
  generalize zs.map ofL = ys at h
  induction h with
  | nil => exact .cons _ _ .nil
  | cons k u r ih => exact .cons _ _ ih
/-- [n for n in ints if p(n)] -/
theorem keepH {w : World} {A : Around} {E : Value → Shared → Prop} {env : Env} {x : Str} {px px' : Pos} {test : Expr} {scope : Scope} {cl : List (Str × Addr)} {fin : Heap → Array GenState → Shared → Addr → List Value → Heap → Nat → Array GenState → Prop} {ax : Addr} {items : Array Value} {ns : List Int} {h₁ : Heap} {k₁ : Nat} {G₁ : Array GenState} {b : Shared} (p : Int → Bool) (hA : A.handled = none)
    (hL : h₁.IsList ax items) (hi : IntsAre items.toList ns) (hz : items.size ≤ 3000)
    (step : ∀ C n t h k G m (Q' : Bool → Shared → Prop), n ∈ ns → Fr h₁ C h m → m x = some (.int n t) → (∀ h' k', Kp h h' → Q' (p n) (sh h' k' (gs b G))) →
        wpAny (model P w) A (isTrue test (compEnvC scope cl C env) (eval test (compEnvC scope cl C env))) Q' (fun _ _ => False) (sh h k (gs b G)))
    (hfin : ∀ D ys h' k' G', h₁.get? D = none → h'.PlainList D (List.toArray ys) → IntsAre ys (ns.filter p) → Kp h₁ h' → (AllBare G₁ → AllBare G') → fin h₁ G₁ b D ys h' k' G')
    (hk : ∀ C, (compEnvC scope cl C env).scope.kind = .function := by intro _; rfl) (hl : ∀ C, (compEnvC scope cl C env).kindOf x = some .local := by intro _; rfl) (hd : (x == ("__debug__" : Str)) = false := by decide) :
    wpAny (model P w) A (pyIter (.ref ax)) (CompH w A env (.Name x px') (.Name x px) [test] scope cl fin) E (sh h₁ k₁ (gs b G₁)) := by
  have hlen : items.size = ns.length := by have := hi.length; simpa using this
  refine listH (J := fun i ys => i ≤ ns.length ∧ IntsAre ys ((ns.take i).filter p)) (srcN hA x px) hL hz ⟨Nat.zero_le _, .nil⟩ (fun i ys hJ => ?_) (fun C i v ys h k G m hi' hv hJ F => ?_) (fun D ys h' k' G' h0 hD hJ hk' hG => ?_)
  · rw [hJ.2.length]
    exact Nat.le_trans (List.length_filter_le _ _) (by rw [List.length_take]; exact Nat.min_le_left _ _)
  · obtain ⟨n, t, hn, rfl⟩ := ints_get hi (show items.toList[i]? = some v by simpa using hv)
    refine wpAny_assign_Name (sE F (hk := hk C) (hl := hl C) fun h₂ k₂ F₂ K₂ => oneTest ?_)
    have hx : set m x (.int n t) x = some (.int n t) := by show (bif x == x then _ else _) = _; rw [beq_self_eq_true]; rfl
    refine step C n t h₂ k₂ G _ _ (List.mem_of_getElem? hn) F₂ hx fun h₃ k₃ K₃ => ⟨h₃, k₃, G, _, rfl, fun b o hb e => K₃ _ _ (K₂ b o hb e), F₂.keeps K₃, id, ?_⟩
    have e : (ns.take (i + 1)).filter p = (ns.take i).filter p ++ (if p n then [n] else []) := take_succ_filter p ns i n hn
    cases hp : p n with
    | false =>
      rw [if_neg Bool.false_ne_true]
      refine ⟨by omega, ?_⟩
      rw [e, hp]
      simpa using hJ.2
    | true =>
      rw [if_pos rfl]
      refine eN (F₂.keeps K₃) hx ⟨h₃, _, rfl, fun _ _ e => e, by omega, ?_⟩ (hk C) (hl C) hd
      rw [e, hp, if_pos rfl]
      exact ints_end hJ.2 n t
  · have := hJ.2
    rw [hlen, List.take_length] at this
    exact hfin D ys h' k' G' h0 hD this hk' hG
end Mine

end
section
open PySem PySem.W PySem.Calls PyProof.Rows
set_option Elab.async false
set_option maxRecDepth 100000
namespace Mine
section
variable {w : World} {mg : Str → Option Value} {A : Around} {h₀ h : Heap} {L a : Addr} {m : Str → Option Value} {ccd : Value} {k : Nat} {b : Shared} {text : T}
theorem joinLen (x : T) : ∀ zs : List T, (glue x zs).length ≤ (zs.map List.length).sum + zs.length * x.length
  | [] => by simp [glue]
  | [a] => by simp [glue]
  | a :: b :: r => by
    have := joinLen x (b :: r)
    simp [glue, Nat.succ_mul] at this ⊢
    omega
set_option maxHeartbeats 1000000 in
theorem unsentCall {A : Around} {d : Nat} {h : Heap} {k : Nat} {b : Shared} {G : Array GenState} {t : Tok} {R : Result → Shared → Prop} (C : Cx w mg h) (r : Room A d) (ha : mg "_law_unsent" = some (.ref a)) (hd : d ≤ 40) (hz : text.length ≤ 500)
    (hR : ∀ h' k' t' G', Kp h h' → (AllBare G → AllBare G') → R (.ok (.ret (.str (ofL (unsent text)) t'))) (sh h' k' (gs b G'))) :
    codeAny (model P w) A (.call (.ref a) ⟨[.str (ofL text) t], []⟩) R (sh h k (gs b G)) := by
  refine enterS (s := sh h k (gs b G)) 24 C r (by decide) ha (by omega) (fun _ _ _ => rfl) (by rfl) [("text", .str (ofL text) t)] rfl fun cd h₁ tk F r' => ?_
  refine wpAny_execs_cons (wpAny_Return_some (joinC (x := [13, 10]) (by decide +kernel) fun t1 k1 => ?_))
  refine compS (mS PySem.F.slot_str_split PySem.F.type_str_split (vN F rfl ⟨_, _, rfl, argB1 (cStr [13, 10] fun t2 k2 => ?_)⟩))
  refine SCH.split1 (s := sh h₁ k2 (gs b G)) (P := Kp h₁) (fun h o x b' o' e => Heap.get?_push_of_some _ (x b' o' e)) (fun _ _ e => e) (by rw [ofL_len]; rfl) (fun D l h₂ k₃ hl K₂ hD => ?_) (szStr (by omega)) (by
    rw [between_spl _ _ (by decide), List.length_map]
    have := spl_len [13, 10] (text.length + 1) text
    exact szOf (by omega))
  rw [split_spl] at hl
  have hS := strs_of_values hl
  have hlen : (strValues l).toArray.size = (spl [13, 10] (text.length + 1) text).length := by
    have := hS.length
    simpa using this
  have hsl := spl_len [13, 10] (text.length + 1) text
  have hsm := spl_mem [13, 10] (text.length + 1) text
  generalize hzs : spl [13, 10] (text.length + 1) text = zs at *
  obtain ⟨od, hod, _⟩ := id hD
  have hDlt : D < h₂.objs.size := Heap.lt_size hod
  refine wpAny_pyIter_list (s := sh h₂ k₃ (gs b G)) hD ⟨h₂.objs.size, [h₂.objs.size, D], [h₂.objs.size], _, _, _, h₂, _, _, G, b, fun i ys => i ≤ zs.length ∧ StrsAre ys ((zs.take i).map dotless |>.map ofL), rfl, rfl,
    Src.walks (Walks.list r'.handled _ D (Nat.ne_of_lt hDlt) _) _ _, by rw [hlen]; omega, ⟨⟨_, Heap.get?_push_size _ rfl, rfl, rfl⟩, hD.push _⟩, ?_, ?_, ?_, fun _ o e => Heap.get?_push_of_some _ e, ?_, ⟨Nat.zero_le _, .nil⟩, ?_, ?_, ?_⟩
  · intro b hb
    rw [show (sh h₂ k₃ (gs _ G)).heap = h₂ from rfl, Heap.size_push]
    simp at hb
    rcases hb with rfl | rfl
    · exact Nat.lt_succ_self _
    · exact Nat.lt_succ_of_lt hDlt
  · intro b hb
    simp at hb; subst hb
    cases e : h₂.get? h₂.objs.size with
    | none => rfl
    | some o => exact absurd (Heap.lt_size e) (Nat.lt_irrefl _)
  · intro b hb
    simp at hb; subst hb
    rw [show (sh h₂ k₃ (gs _ G)).heap = h₂ from rfl, Heap.size_push]
    exact Nat.lt_succ_self _
  · rw [show (sh h₂ k₃ (gs _ G)).heap = h₂ from rfl, Heap.size_push]; exact Nat.le_succ _
  · intro i ys hJ
    have := hJ.2.length
    rw [this]; simp
    omega
  · intro Cc i v ys h k G' m hi hp hJ F'
    obtain ⟨z, tz, hzi, rfl⟩ := strs_get hS (show (strValues l)[i]? = some v by simpa using hp)
    have hzl : z.length ≤ text.length := hsm z (List.mem_of_getElem? hzi)
    have hJ' : ∀ t', i + 1 ≤ zs.length ∧ StrsAre (ys ++ [Value.str (ofL (dotless z)) t']) ((zs.take (i + 1)).map dotless |>.map ofL) := fun t' => by
      refine ⟨by rw [hlen] at hi; exact hi, ?_⟩
      have e : (zs.take (i + 1)).map dotless = (zs.take i).map dotless ++ [dotless z] := by rw [List.take_add_one, hzi, List.map_append]; rfl
      rw [e]
      have q := strs_snoc (vs := ys.toArray) (zs := (zs.take i).map dotless) hJ.2 (dotless z) t'
      rw [Array.toList_push] at q
      exact q
    refine wpAny_assign_Name (sE F' fun h₃ k₄ F₃ K₃ => noTests ⟨h₃, k₄, G', _, rfl, K₃, F₃, id, ?_⟩)
    rw [if_pos rfl]
    refine wpAny_IfExp (wpAny_isTrue_Compare1 (Subscript_Slice (eN F₃ rfl (wpAny_Slice (evalPart_none_step (evalPart_some_step (cInt fun t k => evalPart_none_step ?_)))))))
    refine sliceNS F₃ rfl (by omega) fun h₄ t₄ k₄ F₄ K₄ => cStr [46] fun t k => sEq (wpAny_truthy_bool ?_)
    by_cases c1 : z.take 1 = [46]
    · have ed : dotless z = z.drop 1 := by unfold dotless; rw [if_pos c1]
      rw [ed] at hJ'
      refine ifT (decide_eq_true c1) (Subscript_Slice (eN F₄ rfl (wpAny_Slice (evalPart_some_step (cInt fun t k => evalPart_none_step (evalPart_none_step ?_))))))
      exact sliceSN F₄ rfl (by omega) fun h₅ t₅ k₅ F₅ K₅ => ⟨h₅, k₅, rfl, fun b o e => K₅ _ _ (K₄ _ _ e), hJ' _⟩
    · have ed : dotless z = z := by unfold dotless; rw [if_neg c1]
      rw [ed] at hJ'
      exact ifF (decide_eq_false c1) (eN F₄ rfl ⟨h₄, _, rfl, K₄, hJ' _⟩)
  · intro D' ys h' k' G' hD0 hD' hJ hk hG'
    have hJ2 := hJ.2
    rw [hlen, List.take_length] at hJ2
    have hb : ∀ z ∈ zs.map dotless, z.length ≤ text.length := by
      intro z hz
      obtain ⟨y, hy, rfl⟩ := List.mem_map.mp hz
      exact Nat.le_trans (dotless_len y) (hsm y hy)
    have h1 := sum_le text.length (zs.map dotless) hb
    have h2 : (zs.map dotless).length * text.length ≤ 502 * 500 := Nat.mul_le_mul (by rw [List.length_map]; omega) hz
    refine sJoin (zs := zs.map dotless) hD'.isList (by simpa using hJ2) ?_ fun t' k' => ?_
    · rw [List.length_map] at h1 h2 ⊢
      simp at h1 h2 ⊢
      omega
    · have e : glue [13, 10] (zs.map dotless) = unsent text := by unfold unsent; rw [hzs]
      rw [e]
      exact hR _ _ _ _ (fun b o e => hk _ _ (K₂ _ _ (F.keep _ _ e))) hG'
end
end Mine

end
section
open PySem PySem.W PySem.Calls PyProof.Rows
set_option Elab.async false
set_option maxRecDepth 100000
namespace Mine
/-- what _law_holds hands back -/
def lawHolds (front : T) (symbols : List Int) : Bool :=
  let rest := symbols.filter fun n => !inTab n
  if rest.filter (fun n => !decide (n < 256)) ≠ [] then false else
  let text := front ++ rest.map Int.toNat
  decide (quoted (unsent text) = text) && check text
theorem glue_nil : ∀ zs : List T, glue [] zs = zs.flatten
  | [] => rfl
  | [a] => by simp [glue]
  | a :: b :: r => by
    have := glue_nil (b :: r)
    simp [glue, this]
theorem glue_ones (ns : List Int) : glue [] (ns.map fun n => [n.toNat]) = ns.map Int.toNat := by
  rw [glue_nil]
  induction ns with
  | nil => rfl
  | cons n r ih => simp [ih]
section
variable {w : World} {mg : Str → Option Value} {A : Around} {h₀ h : Heap} {L a : Addr} {m : Str → Option Value} {ccd : Value} {k : Nat} {b : Shared} {text : T}
/-- not in_table_b1(chr(n)) in a comprehension -/
theorem tNotTab {A : Around} {d : Nat} {env : Env} {x : Str} {n : Int} {t : Tok} {p1 p2 p3 p4 p5 p6 : Pos} {h₁ h : Heap} {m : Str → Option Value} {k : Nat} {b : Shared} {Q : Bool → Shared → Prop} (C : Cx w mg h₁) (r : Room A d) (hd : d ≤ 40) (F : Fr h₁ env.locals h m) (hm : m x = some (.int n t)) (hn : 0 ≤ n ∧ n ≤ 70000)
    (H : ∀ h' k', Kp h h' → Q (!inTab n) (sh h' k' b))
    (hg : env.globals = mainGlobals := by rfl) (hb : env.builtins = builtinsNs := by rfl) (hk : env.scope.kind = .function := by rfl) (hl : env.kindOf "in_table_b1" = some .globalImplicit := by rfl) (hl' : env.kindOf "chr" = some .globalImplicit := by rfl) (hl2 : env.kindOf x = some .local := by rfl)
    (hd1 : (x == ("__debug__" : Str)) = false := by decide) :
    wpAny (model P w) A (isTrue (.UnaryOp .Not (.Call (.Name "in_table_b1" p4) [.Call (.Name "chr" p1) [.Name x p2] [] p3] [] p5) p6) env (eval (.UnaryOp .Not (.Call (.Name "in_table_b1" p4) [.Call (.Name "chr" p1) [.Name x p2] [] p3] [] p5) p6) env)) Q (fun _ _ => False) (sh h k b) := by
  obtain ⟨ia, hia⟩ := C.nm 12 "in_table_b1" (by decide) rfl
  obtain ⟨c, rfl⟩ : ∃ c : Nat, n = c := ⟨n.toNat, by omega⟩
  have C' : Cx w mg h := C.keeps F.keep
  refine wpAny_isTrue_Not (wpAny_isTrue_value (Call_Name rfl (eG C F hia (callF (s := sh h k b) 12 C' (by decide) hia (wpAny_items_cons (Call_Name rfl (eB C F boot_chr (argB1 (eN F hm (chrOf (by omega) fun t k => wpAny_items_nil ⟨fun _ _ e => e, ?_⟩) hk hl2 hd1)) (hg := hg) (hb := hb) (hk := hk) (hl := hl'))))) hg hk hl)))
  exact intab (s := sh h k b) C' r hia fun h' k' K => wpAny_truthy_bool (H h' k' K)

theorem tNotTerm {A : Around} {d : Nat} {env : Env} {x : Str} {n : Int} {t : Tok} {p2 p4 p5 p6 : Pos} {h₁ h : Heap} {m : Str → Option Value} {k : Nat} {b : Shared} {Q : Bool → Shared → Prop} (C : Cx w mg h₁) (r : Room A d) (hd : d ≤ 40) (F : Fr h₁ env.locals h m) (hm : m x = some (.int n t))
    (H : ∀ h' k', Kp h h' → Q (!decide (n < 256)) (sh h' k' b))
    (hg : env.globals = mainGlobals := by rfl) (hk : env.scope.kind = .function := by rfl) (hl : env.kindOf "ISTERMINAL" = some .globalImplicit := by rfl) (hl2 : env.kindOf x = some .local := by rfl)
    (hd1 : (x == ("__debug__" : Str)) = false := by decide) :
    wpAny (model P w) A (isTrue (.UnaryOp .Not (.Call (.Name "ISTERMINAL" p4) [.Name x p2] [] p5) p6) env (eval (.UnaryOp .Not (.Call (.Name "ISTERMINAL" p4) [.Name x p2] [] p5) p6) env)) Q (fun _ _ => False) (sh h k b) := by
  obtain ⟨ia, hia⟩ := C.nm 16 "ISTERMINAL" (by decide) rfl
  have C' : Cx w mg h := C.keeps F.keep
  refine wpAny_isTrue_Not (wpAny_isTrue_value (Call_Name rfl (eG C F hia (callF (s := sh h k b) 16 C' (by decide) hia (wpAny_items_cons (eN F hm (wpAny_items_nil ⟨fun _ _ e => e, ?_⟩) hk hl2 hd1))) hg hk hl)))
  exact isterm (s := sh h k b) C' r hia fun h' k' K => wpAny_truthy_bool (H h' k' K)
set_option maxHeartbeats 2000000 in
theorem holdsCall {A : Around} {d : Nat} {h : Heap} {k : Nat} {b : Shared} {G : Array GenState} {t : Tok} {front : T} {symbols : List Int} {ls : Addr} {vs : Array Value} {R : Result → Shared → Prop} (C : Cx w mg h) (r : Room A d) (ha : mg "_law_holds" = some (.ref a)) (hd : d ≤ 20)
    (hz : front.length ≤ 200) (hz2 : symbols.length ≤ 200) (hL : h.PlainList ls vs) (hi : IntsAre vs.toList symbols) (hs : ∀ n ∈ symbols, 0 ≤ n ∧ n ≤ 70000) (hu : (unsent (front ++ (symbols.filter fun n => !inTab n).map Int.toNat)).length ≤ 500)
    (hR : ∀ h' k' G', Kp h h' → (AllBare G → AllBare G') → R (.ok (.ret (.bool (lawHolds front symbols)))) (sh h' k' (gs b G'))) :
    codeAny (model P w) A (.call (.ref a) ⟨[.str (ofL front) t, .ref ls], []⟩) R (sh h k (gs b G)) := by
  refine enterS (s := sh h k (gs b G)) 25 C r (by decide) ha (by omega) (fun _ _ _ => rfl) (by rfl) [("symbols", .ref ls), ("front", .str (ofL front) t)] rfl fun cd h₁ tk F r' => ?_
  have C₁ : Cx w mg h₁ := C.keeps F.keep
  have hvl : vs.size = symbols.length := by have := hi.length; simpa using this
  refine wpAny_execs_cons (compSA (vN F rfl (keepH (h₁ := h₁) (G₁ := G) (b := b) (fun n => !inTab n) r'.handled (hL.at fun o e => F.keep _ _ e).isList hi (by omega) (fun Cc n t h k G m Q' hn F' hm H => tNotTab C₁ r' (by omega) F' hm (hs n hn) H) fun D ys h₂ k₂ G₂ hD0 hD hys K₂ hG₂ => ⟨h, _, F, fun h₃ k₃ F₃ hD₃ K₃ => ?_⟩)))
  have C₃ : Cx w mg h₃ := C.keeps F₃.keep
  generalize hrest : symbols.filter (fun n => !inTab n) = rest at *
  have hrl : rest.length ≤ symbols.length := by rw [← hrest]; exact List.length_filter_le _ _
  have hrs : ∀ n ∈ rest, 0 ≤ n ∧ n ≤ 70000 := fun n hn => hs n (by rw [← hrest] at hn; exact (List.mem_filter.mp hn).1)
  have hyl : ys.length = rest.length := hys.length
  have eH : lawHolds front symbols = if rest.filter (fun n => !decide (n < 256)) ≠ [] then false else decide (quoted (unsent (front ++ rest.map Int.toNat)) = front ++ rest.map Int.toNat) && check (front ++ rest.map Int.toNat) := by
    unfold lawHolds; rw [hrest]
  refine wpAny_execs_cons (wpAny_If (wpAny_isTrue_Compare1 (compS (vN F₃ rfl (keepH (h₁ := h₃) (G₁ := G₂) (b := b) (fun n => !decide (n < 256)) r'.handled hD₃.isList hys (by rw [List.size_toArray]; omega) (fun Cc n t h k G m Q' hn F' hm H => tNotTerm C₃ r' (by omega) F' hm H) fun D₂ ys₂ h₄ k₄ G₄ hD20 hD₂ hys₂ K₄ hG₄ => ?_)))))
  refine dList (wpAny_items_nil ⟨by show 0 ≤ 3000; decide, h₄, k₄, rfl, ?_⟩)
  refine ne_intsK (s := sh (h₄.push { cls := .type "list", data := .seq ([] : List Value).toArray }) k₄ (gs b G₄)) ((hD₂.at fun o e => Heap.get?_push_of_some _ e).isList) hys₂ ⟨_, Heap.get?_push_size _ rfl, rfl, _, rfl⟩ .nil (by have := r'.units; unfold cLine; omega) (wpAny_truthy_bool ?_)
  have kp : Kp h₄ (h₄.push { cls := .type "list", data := .seq ([] : List Value).toArray }) := fun _ _ e => Heap.get?_push_of_some _ e
  have F₄ := (F₃.keeps K₄).keeps kp
  by_cases c1 : rest.filter (fun n => !decide (n < 256)) = []
  case neg =>
    refine ifT (by rw [decide_eq_false c1]; rfl) (wpAny_execs_cons (wpAny_Return_some (wpAny_Constant_bool ?_)))
    rw [if_pos c1] at eH
    rw [eH] at hR
    exact hR _ _ _ F₄.keep fun q => hG₄ (hG₂ q)
  refine ifF (by rw [decide_eq_true c1]; rfl) (wpAny_execs_nil ?_)
  rw [if_neg (not_not_intro c1)] at eH
  have C₄ := C.keeps F₄.keep
  have hD₄ := hD₃.at fun o e => kp _ _ (K₄ _ _ e)
  generalize (h₄.push { cls := .type "list", data := .seq ([] : List Value).toArray }) = h₅ at *
  refine wpAny_execs_cons (wpAny_Assign_Name (wpAny_BinOp (vN F₄ rfl (joinC (x := []) (by decide +kernel) fun t1 k1 => compS (vN F₄ rfl
    (listH (h₂ := h₅) (G := G₄) (b := b) (J := fun i ys => i ≤ rest.length ∧ StrsAre ys (((rest.take i).map fun n => [n.toNat]).map ofL)) (srcN r'.handled _ _) hD₄.isList (by rw [List.size_toArray]; omega) ⟨Nat.zero_le _, .nil⟩ (fun i zs hJ => ?_) (fun Cc i v zs h k G' m hi' hv hJ F' => ?_) fun D₃ ys₃ h₆ k₆ G₆ hD30 hD₃' hJ K₆ hG₆ => ?_))))))
  · have := hJ.2.length
    rw [this]; simp; omega
  · obtain ⟨n, t, hn, rfl⟩ := ints_get hys (show ys[i]? = some v by simpa using hv)
    obtain ⟨n0, n1⟩ := hrs n (List.mem_of_getElem? hn)
    obtain ⟨c, rfl⟩ : ∃ c : Nat, n = c := ⟨n.toNat, by omega⟩
    refine wpAny_assign_Name (sE F' fun h₇ k₇ F₇ K₇ => noTests ⟨h₇, k₇, G', _, rfl, K₇, F₇, id, ?_⟩)
    rw [if_pos rfl]
    refine Call_Name rfl (eB C₄ F₇ boot_chr (argB1 (eN F₇ rfl (chrOf (by omega) fun t k => ⟨h₇, k, rfl, fun _ _ e => e, ?_, ?_⟩))))
    · have : ys.toArray.size = rest.length := by rw [List.size_toArray]; exact hyl
      omega
    · have e : (rest.take (i + 1)).map (fun n => [n.toNat]) = (rest.take i).map (fun n => [n.toNat]) ++ [[c]] := by rw [List.take_add_one, hn, List.map_append]; rfl
      rw [e]
      exact strs_end hJ.2 [c] t
  have F₆ := F₄.keeps K₆
  have hJ2 := hJ.2
  rw [List.size_toArray, hyl, List.take_length] at hJ2
  refine sJoin hD₃'.isList hJ2 ?_ fun t' k' => ?_
  · have := sum_le 1 (rest.map fun n => [n.toNat]) (by intro z hz; obtain ⟨n, _, rfl⟩ := List.mem_map.mp hz; exact Nat.le_refl _)
    simp at this ⊢
    omega
  rw [glue_ones]
  have hml : (rest.map Int.toNat).length = rest.length := List.length_map ..
  refine sAdd (by omega) fun t2 k2 => stS F₆ fun h₇ k₇ F₇ K₇ => ?_
  have htl : (front ++ rest.map Int.toNat).length ≤ 400 := by rw [List.length_append]; omega
  generalize htx : front ++ rest.map Int.toNat = tx at *
  have C₇ : Cx w mg h₇ := C.keeps F₇.keep
  obtain ⟨qa, hqa⟩ := C.nm 9 "quotedata" (by decide) rfl
  obtain ⟨ua, hua⟩ := C.nm 24 "_law_unsent" (by decide) rfl
  obtain ⟨pa, hpa⟩ := C.nm 4 "_check_parenthesis" (by decide) rfl
  refine wpAny_execs_cons (wpAny_Return_some (BoolOp_and (wpAny_Compare1 (Call_Name rfl (vG C F₇ hqa (callF (s := sh h₇ k₇ (gs b G₆)) 9 C₇ (by decide) hqa (wpAny_items_cons (Call_Name rfl (vG C F₇ hua (callF (s := sh h₇ k₇ (gs b G₆)) 24 C₇ (by decide) hua (wpAny_items_cons (vN F₇ rfl (wpAny_items_nil ⟨fun _ _ e => e, ?_⟩)))))))))))))
  refine unsentCall C₇ r' hua (by omega) (by omega) fun h₈ k₈ t₈ G₈ K₈ hG₈ => wpAny_items_nil ⟨K₈, ?_⟩
  have C₈ : Cx w mg h₈ := C₇.keeps K₈
  refine quote (s := sh h₈ k₈ (gs b G₈)) C₈ r' hqa hu fun h₉ k₉ t₉ K₉ => ?_
  have F₉ := (F₇.keeps K₈).keeps K₉
  refine vN F₉ rfl (sEq (wpAny_truthy_bool ?_))
  have hB : AllBare G → AllBare G₈ := fun q => hG₈ (hG₆ (hG₄ (hG₂ q)))
  by_cases c2 : quoted (unsent tx) = tx
  case neg =>
    refine ifF (decide_eq_false c2) ?_
    rw [decide_eq_false c2, Bool.false_and] at eH
    rw [eH] at hR
    rw [decide_eq_false c2]
    exact hR _ _ _ F₉.keep hB
  refine ifT (decide_eq_true c2) (BoolOp_one (wpAny_Compare1 (Call_Name rfl (vG C F₉ hpa (callF (s := sh h₉ k₉ (gs b G₈)) 4 (C.keeps F₉.keep) (by decide) hpa (wpAny_items_cons (vN F₉ rfl (wpAny_items_nil ⟨fun _ _ e => e, ?_⟩))))))))
  refine checkCall (C.keeps F₉.keep) r' hpa (by omega) (by omega) fun h₁₀ k₁₀ G₁₀ K₁₀ hG₁₀ => wpAny_Constant_bool (is_bool ?_)
  rw [decide_eq_true c2, Bool.true_and] at eH
  rw [eH] at hR
  have := hR h₁₀ k₁₀ G₁₀ (fun b o e => K₁₀ _ _ (F₉.keep _ _ e)) fun q => hG₁₀ (hB q)
  cases hc : check tx <;> rw [hc] at this <;> exact this
end
end Mine

end
section
open PySem PySem.W PySem.Calls PyProof.Rows
set_option Elab.async false
set_option maxRecDepth 100000
namespace Mine
section
variable {w : World} {mg : Str → Option Value} {A : Around} {E : Value → Shared → Prop} {h₀ h : Heap} {L : Addr} {m : Str → Option Value} {k : Nat} {b : Shared}
/-- the env of a call with cells -/
abbrev cenvOf (i : Nat) (L a : Addr) (cd : Value) : Env := { scope := (rc i).scope, locals := L, globals := mainGlobals, cells := cellsFrom (L + 1) (rc i).scope.names [], qual := (rc i).name ++ ".<locals>.", func := some a, code := cd, frame := some L, builtins := builtinsNs }
theorem enterC {R : Result → Shared → Prop} {s : Shared} {d : Nat} {args : List Value} {a : Addr} (i : Nat) (C : Cx w mg s.heap) (r : Room A d) (hi : i ∈ fnIdx) (ha : mg (rc i).name = some (.ref a)) (hd : d ≤ 50)
    (hbind : ∀ pm cd doc, bindArgs (docDef (rc i).name (rc i).params (rc i).body (rc i).scope pm cd doc) ⟨args, []⟩ = pure (((rc i).params.args.map (·.arg)).zip args))
    (hkind : ∀ n, ∀ x ∈ ((rc i).params.args.map (·.arg)).zip args, (rc i).scope.names.lookup x.1 = some .local ∨ ((rc i).scope.names.lookup x.1 = some .cell ∧ ((cellsFrom n (rc i).scope.names []).lookup x.1).isSome = true))
    (H : ∀ cd h₁ k₁, Fr s.heap s.heap.objs.size h₁ (bindL (cenvOf i s.heap.objs.size a cd).kindOf (((rc i).params.args.map (·.arg)).zip args) fun _ => none) →
      (∀ n c, (cenvOf i s.heap.objs.size a cd).cells.lookup n = some c → h₁.IsCell c ((bindC (cenvOf i s.heap.objs.size a cd).kindOf (((rc i).params.args.map (·.arg)).zip args) fun _ => none) n) ∧ s.heap.objs.size < c) → Room (A.deeper (cenvOf i s.heap.objs.size a cd)) (d + 1) →
      wpAny (model P w) (A.deeper (cenvOf i s.heap.objs.size a cd)) (execs (rc i).body (cenvOf i s.heap.objs.size a cd))
        (fun f s' => R (.ok (.ret (match f with | .ret v => v | _ => .none))) s') (fun _ _ => False) (sh h₁ k₁ s))
    (hco : (rc i).scope.isCoroutine = false := by rfl) (hgen : (rc i).scope.isGenerator = false := by rfl) (hk : (rc i).scope.kind = .function := by rfl) :
    codeAny (model P w) A (.call (.ref a) ⟨args, []⟩) R s := by
  obtain ⟨a', o, pm, cd, doc, e1, e2, e3, e4⟩ := C.fn i hi
  obtain rfl : a' = a := Value.ref.inj (Option.some.inj (e1.symm.trans ha))
  refine codeAny_call_cells (r.lt (by omega)) e2 e3 C.nolimit e4 rfl (hbind pm cd doc) rfl (hkind _) (fun s₁ x => ?_) hco hgen hk
  obtain ⟨h₁, k₁, rfl, hkp⟩ := x.done
  refine wpAny_mono (H cd h₁ k₁ ⟨x.toInCall.ns, hkp, Nat.le_refl _⟩ (fun n c hc => ⟨x.cell n c hc, x.above n c (mem_of_lookup hc)⟩) (r.deeper _)) (fun _ _ q => q) fun _ _ q => q.elim
/-- a name kept in a cell -/
theorem sC {env : Env} {x : Str} {v : Value} {v₀ : Option Value} {c : Addr} {Q : Unit → Shared → Prop} (F : Fr h₀ L h m) (hLc : L < c) (hv : h.IsCell c v₀)
    (H : ∀ h', Fr h₀ L h' m → h'.IsCell c (some v) → Heap.SameBut c h h' → Q () (sh h' k b))
    (hc : env.cells.lookup x = some c := by rfl) (hk : env.scope.kind = .function := by rfl) (hl : env.kindOf x = some .cell := by rfl) :
    wpAny (model P w) A (storeName env x v) Q E (sh h k b) :=
  wpAny_storeName_cell (s := sh h k b) hk hl hc hv fun h' hc' hs => H h' ⟨F.ns.sameBut hs (Nat.ne_of_lt hLc), fun b o e => hs.extBut b o (Nat.ne_of_lt (Nat.lt_of_lt_of_le (Heap.lt_size e) (Nat.le_trans F.above (Nat.le_of_lt hLc)))) (F.keep b o e), F.above⟩ hc' hs
theorem lAdd {x y : Addr} {xs ys : Array Value} {Q : Value → Shared → Prop} (hx : h.PlainList x xs) (hy : h.PlainList y ys) (hz : xs.size + ys.size ≤ 3000) (H : ∀ D h', h'.PlainList D (xs ++ ys) → Kp h h' → h.get? D = none → Q (.ref D) (sh h' k b)) :
    wpAny (model P w) A (binaryOp .Add (.ref x) (.ref y)) Q E (sh h k b) := by
  obtain ⟨n, h1⟩ := hx
  obtain ⟨n', h2⟩ := hy
  refine PySem.P.add_list (s := sh h k b) h1 h2 (H _ _ ⟨0, Heap.get?_push_size _ rfl⟩ (fun _ _ e => Heap.get?_push_of_some _ e) ?_) (szOf hz)
  show h.get? h.objs.size = none
  cases e : h.get? h.objs.size with
  | none => rfl
  | some o => exact absurd (Heap.lt_size e) (Nat.lt_irrefl _)
/-- an item of a list -/
theorem lAt {value slice : Expr} {lc : Addr} {xs : Array Value} {i : Nat} {iI : Int} {t : Tok} {v : Value} {Q : Value → Shared → Prop} (hi : iI = i) (hL : h.IsList lc xs) (hv : xs[i]? = some v) (hz : xs.size ≤ 3000)
    (H : Q v (sh h k b))
    (hs : subscripted slice false (.ref lc) (.int iI t) = operate [.ref lc, .int iI t] (getItem (.ref lc) (.int iI t)) := by with_unfolding_all rfl) (ht : ∀ r, letTemporaryGo value (.ref lc) r = pure () := by intro _; with_unfolding_all rfl) :
    wpAny (model P w) A (subscriptTail value slice (.ref lc) (.int iI t)) Q E (sh h k b) := by
  subst hi
  have hlt : i < xs.size := (Array.getElem?_eq_some_iff.mp hv).1
  exact subscriptTail_builtin (Heap.IsList.typeIs (s := sh h k b) hL) slot_list_getitem.lookup (wpAny_getItem_list (s := sh h k b) hL (by omega) (by omega) hv H) hs ht
end
end Mine

end
section
open PySem PySem.W PySem.Calls PyProof.Rows
set_option Elab.async false
set_option maxRecDepth 100000
namespace Mine
def intsOf : List Expr → Option (List Int)
  | [] => some []
  | .Constant (.int i) _ _ :: r => (intsOf r).map (i :: ·)
  | _ => none
/-- strings ahead, the rest behind -/
def strsOf : Nat → List Expr → Option (List Str × List Expr)
  | 0, r => some ([], r)
  | n + 1, .Constant (.str x) _ _ :: r => (strsOf n r).map fun y => (x :: y.1, y.2)
  | _ + 1, _ => none
section
variable {w : World} {A : Around} {E : Value → Shared → Prop} {env : Env} {pos : Pos} {h : Heap} {b : Shared}
theorem intsGo : ∀ (elts : List Expr) (ns : List Int) (k : Nat) (Q : List Value → Shared → Prop), intsOf elts = some ns → (∀ vs k', IntsAre vs ns → Q vs (sh h k' b)) → wpAny (model P w) A (spliced (backTo pos (starEach elts env))) Q E (sh h k b)
  | [], ns, k, Q, hn, H => by
    obtain rfl := Option.some.inj hn
    exact wpAny_items_nil (H [] k .nil)
  | .Constant (.int i) kk p :: r, ns, k, Q, hn, H => by
    unfold intsOf at hn
    obtain ⟨ms, hms, rfl⟩ := Option.map_eq_some_iff.mp hn
    exact wpAny_items_cons (cInt fun t k' => intsGo r ms k' _ hms fun vs k'' hv => H _ _ (.cons i t hv))
theorem strsGo : ∀ (n : Nat) (elts : List Expr) (zs : List Str) (rest : List Expr) (k : Nat) (Q : List Value → Shared → Prop), strsOf n elts = some (zs, rest) →
    (∀ vs k', StrsAre vs zs → wpAny (model P w) A (spliced (backTo pos (starEach rest env))) (fun us s => Q (vs ++ us) s) E (sh h k' b)) → wpAny (model P w) A (spliced (backTo pos (starEach elts env))) Q E (sh h k b)
  | 0, elts, zs, rest, k, Q, hn, H => by
    obtain ⟨rfl, rfl⟩ := Prod.mk.inj (Option.some.inj hn)
    exact H [] k .nil
  | n + 1, .Constant (.str x) kk p :: r, zs, rest, k, Q, hn, H => by
    unfold strsOf at hn
    obtain ⟨⟨ys, rest'⟩, hms, he⟩ := Option.map_eq_some_iff.mp hn
    obtain ⟨rfl, rfl⟩ := Prod.mk.inj he
    exact wpAny_items_cons (Constant_str (strsGo n r ys rest' _ _ hms fun vs k'' hv => H _ _ (.cons x _ hv)))
theorem dInts {elts : List Expr} {ns : List Int} {k : Nat} {Q : Value → Shared → Prop} (hn : intsOf elts = some ns) (hz : ns.length ≤ 3000) (H : ∀ vs k', IntsAre vs ns → Q (.ref h.objs.size) (sh (h.push { cls := .type "list", data := .seq vs.toArray }) k' b)) :
    wpAny (model P w) A (eval (.List elts pos) env) Q E (sh h k b) := dList (intsGo elts ns k _ hn fun vs k' hv => ⟨by rw [hv.length]; exact hz, h, k', rfl, H vs k' hv⟩)

theorem lMul {l : Addr} {items : Array Value} {n : Nat} {x : Int} {u : Tok} {k : Nat} {Q : Value → Shared → Prop} (hl : h.get? l = some { cls := .type "list", dict := none, data := .seq items n, slots := #[] })
    (hlo : -(2 ^ 63 : Int) ≤ x) (hhi : x < 2 ^ 63) (hsz : items.size * x.toNat ≤ 2 ^ 24)
    (H : ∀ D h', h'.PlainList D (List.foldl (fun x1 x2 => x1 ++ x2) #[] (List.replicate (if items.isEmpty = true then 0 else x.toNat) items)) → Kp h h' → Q (.ref D) (sh h' k b)) :
    wpAny (model P w) A (binaryOp .Mult (.ref l) (.int x u)) Q E (sh h k b) := by
  refine wpAny_binaryOp_repeat_ref (T := "list") (U := "int") (by decide) ⟨_, hl, rfl⟩ (fun s' => typeIs_int s' x u) noFill_list_mul PySem.F.fills_int_mul PySem.F.slot_int_rmul repeat_list PySem.F.slot_int_index.lookup ?_
  refine call_meets PySem.F.slot_int_rmul (typeIs_int (sh h k b) x u) PySem.F.entry_int_rmul (PySem.F.args_int_rmul_2 _ _) (int___rmul___int_list x u l items n) ⟨hl, rfl, ⟨_, hl, rfl⟩, ?_⟩
  refine call_meets PySem.F.slot_list_mul ⟨_, hl, rfl⟩ PySem.F.entry_list_mul (PySem.F.args_list_mul_2 _ _) (AutoListH.list___mul___list_int_3 l items n x u (by simp [Builtin.List.listFitsIndex]; omega) (by omega) (by simp [Builtin.List.listTooLong, sizeLine]; omega)) ⟨hl, ?_⟩
  exact H _ _ ⟨0, Heap.get?_push_size _ rfl⟩ fun _ _ q => Heap.get?_push_of_some _ q
theorem lAddI {l c : Addr} {vs ws : List Value} {k : Nat} {Q : Value → Shared → Prop} (hl : h.IsList l vs.toArray) (hb : h.IsList c ws.toArray) (hsz : vs.length + ws.length ≤ 3000)
    (H : ∀ D h', h'.PlainList D (vs ++ ws).toArray → Kp h h' → h.get? D = none → Q (.ref D) (sh h' k b)) :
    wpAny (model P w) A (binaryOp .Add (.ref l) (.ref c)) Q E (sh h k b) := by
  obtain ⟨⟨cls, dd, data, sl⟩, ho, hc, n, hd⟩ := id hl
  obtain ⟨⟨cls2, dd2, data2, sl2⟩, ho2, hc2, n2, hd2⟩ := id hb
  simp only at hc hd hc2 hd2
  subst hc hd hc2 hd2
  have e : vs.toArray ++ ws.toArray = (vs ++ ws).toArray := by simp
  refine concat_meets (s := sh h k b) ⟨_, ho, rfl⟩ ⟨_, ho2, rfl⟩ noFill_list_add seq_list_add PySem.F.slot_list_add PySem.F.entry_list_add (PySem.F.args_list_add_2 _ _) (list_addW l c vs.toArray ws.toArray n n2 dd dd2 sl sl2 (by have := szOf hsz; simpa using this)) ⟨ho, ho2, ?_⟩
  rw [e]
  refine H _ _ ⟨0, Heap.get?_push_size _ rfl⟩ (fun _ _ q => Heap.get?_push_of_some _ q) ?_
  show h.get? h.objs.size = none
  cases q : h.get? h.objs.size with
  | none => rfl
  | some o => exact absurd (Heap.lt_size q) (Nat.lt_irrefl _)

theorem subscriptTailT {s : Shared} {value slice : Expr} {o i : Value} {T id : String} {ops : List Value} {Q : Value → Shared → Prop} (hT : s.TypeIs o T)
    (hl : typeLookup (.type T) "__getitem__" = pure (some (.builtin id))) (h : wpAny (model P w) A (getItem o i) Q E s)
    (hs : subscripted slice false o i = operate ops (getItem o i)) :
    wpAny (model P w) A (subscriptTail value slice o i) Q E s := by
  unfold subscriptTail
  refine wpAny_bind ?_
  rw [getitemInPython_of_ne hT.not_modules]
  refine wpAny_bind (wpAny_specialOf hT hl ?_)
  have fin : wpAny (model P w) A (subscripted slice false o i) (fun r s₃ => wpAny (model P w) A (letTemporaryGo value o r >>= fun _ => pure r) Q E s₃) E s := by
    rw [hs]
    exact wpAny_operating (wpAny_mono h (fun r s₃ h₃ => wpAny_bind (wpAny_letTemporaryGo (wpAny_pure h₃))) fun _ _ x => x)
  first
    | exact wpAny_pure (wpAny_bind fin)
    | exact wpAny_bind (wpAny_pure (wpAny_bind fin))
    | exact wpAny_bind fin
theorem lSlT {value slice : Expr} {D : Addr} {items : Array Value} {vl vu vs : Value} {lo hi st : Option Int} {k : Nat} {Q : Value → Shared → Prop} (hD : h.IsList D items) (pl : IsPart vl lo) (pu : IsPart vu hi) (ps : IsPart vs st) (h0 : st ≠ some 0) (hz : items.size ≤ 3000)
    (H : ∀ D' h' k', h'.PlainList D' (slicePick items lo hi st) → Kp h h' → h.objs.size ≤ D' → Q (.ref D') (sh h' k' b))
    {ops : List Value} (hs : subscripted slice false (.ref D) (.ref h.objs.size) = operate ops (getItem (.ref D) (.ref h.objs.size))) :
    wpAny (model P w) A (subscriptTail value slice (.ref D) (.ref h.objs.size)) Q E (sh (h.push { cls := .type "slice", data := .fields #[vl, vu, vs] }) k b) := by
  refine subscriptTailT (Heap.IsList.typeIs (s := sh (h.push { cls := .type "slice", data := .fields #[vl, vu, vs] }) k b) (hD.push _)) list_getitem_lookup
    (wpAny_getItem_list_slice (s := sh (h.push { cls := .type "slice", data := .fields #[vl, vu, vs] }) k b) (hD.push _) (Heap.IsSliceOf.new ..) pl pu ps h0 ?_ (szOf hz)) hs
  refine H _ _ _ ⟨0, Heap.get?_push_size _ rfl⟩ (fun b o e => Heap.get?_push_of_some _ (Heap.get?_push_of_some _ e)) ?_
  show h.objs.size ≤ (h.push _).objs.size
  rw [Heap.size_push]; exact Nat.le_succ _
end
end Mine

end
section
open PySem PySem.W PySem.Calls PyProof.Rows
set_option Elab.async false
set_option maxRecDepth 100000
namespace Mine
def tab10 : List Int := [847, 6150, 6155, 6156, 6157, 8203, 8204, 8205, 8288, 65279]
def tab26 : List Int := tab10 ++ (List.range 16).map fun i : Nat => (65024 : Int) + i * 1
def beside : List Int := [256, 846, 848, 6149, 6151, 6154, 6158, 8202, 8206, 8287, 8289, 65023, 65040, 65278, 65280]
/-- what _law_codes hands back -/
def lawCodes (x : Nat) : List Int := ((List.range 4).map fun k => tab26.getD ((x + 7 * k) % 26) 0) ++ [beside.getD (x / 26) 0]
theorem ints_of {acc : Array Value} {n : Nat} {f : Nat → Int} (h : ItemsOf (fun i v => ∃ t, v = .int (f i) t) acc n) : IntsAre acc.toList ((List.range n).map f) := by
  obtain ⟨h1, h2⟩ := h
  have : ∀ k, k ≤ n → IntsAre (acc.toList.take k) ((List.range k).map f) := by
    intro k
    induction k with
    | zero => intro _; exact .nil
    | succ k ih =>
      intro hk
      have hlt : k < acc.size := by omega
      obtain ⟨t, ht⟩ := h2 k _ (Array.getElem?_eq_getElem hlt)
      rw [List.range_succ, List.map_append, List.take_add_one, show acc.toList[k]? = some acc[k] by simp [hlt], ht]
      exact ints_end (ih (by omega)) _ _
  have q := this n (Nat.le_refl _)
  rwa [List.take_of_length_le (by simp; omega)] at q
section
variable {w : World} {mg : Str → Option Value} {a : Addr}
set_option maxHeartbeats 400000 in
theorem codesCall {A : Around} {d : Nat} {h : Heap} {k : Nat} {b : Shared} {G : Array GenState} {t : Tok} {x : Nat} {R : Result → Shared → Prop} (C : Cx w mg h) (r : Room A d) (ha : mg "_law_codes" = some (.ref a)) (hd : d ≤ 40) (hx : x < 390)
    (hR : ∀ h' k' D vs G', Kp h h' → h'.PlainList D vs → IntsAre vs.toList (lawCodes x) → (AllBare G → AllBare G') → R (.ok (.ret (.ref D))) (sh h' k' (gs b G'))) :
    codeAny (model P w) A (.call (.ref a) ⟨[.int x t], []⟩) R (sh h k (gs b G)) := by
  refine enterC (s := sh h k (gs b G)) 21 C r (by decide) ha (by omega) (fun _ _ _ => rfl) (fun n y hy => ?_) fun cd h₁ k₁ F cells r' => ?_
  · simp [show (rc 21).params.args.map (·.arg) = [("x" : Str)] from rfl] at hy
    subst hy
    exact .inr ⟨rfl, rfl⟩
  obtain ⟨cx, lx⟩ := cells "x" (h.objs.size + 1) rfl
  obtain ⟨ct, lt⟩ := cells "table" (h.objs.size + 2) rfl
  have neC : ∀ {h' : Heap} {o : Obj}, h'.get? (h.objs.size + 1) = some o → h.objs.size < h'.objs.size := fun e => Nat.lt_of_succ_lt (Heap.lt_size e)
  refine wpAny_execs_cons ?_
  refine wpAny_Assign_Name ?_
  refine wpAny_BinOp ?_
  refine dInts (ns := tab10) ?hn ?hz ?hh
  case hn => decide +kernel
  case hz => decide
  intro v1 k1 hv1
  have kp₁ : Kp h₁ (h₁.push { cls := .type "list", data := .seq v1.toArray }) := fun _ _ e => Heap.get?_push_of_some _ e
  have hT₁ : (h₁.push { cls := .type "list", data := .seq v1.toArray }).PlainList h₁.objs.size v1.toArray := ⟨0, Heap.get?_push_size _ rfl⟩
  generalize (h₁.push { cls := .type "list", data := .seq v1.toArray }) = h₂ at *
  have F₂ := F.keeps kp₁
  refine Call_Name rfl (eB C F₂ PyProof.Rows.boot_list ?_)
  refine PyProof.Rows.callWith_type1 (wpAny_items_cons (Call_Name rfl (eB C F₂ PyProof.Rows.boot_range ?_)))
  refine PyProof.Rows.callWith_type1 (wpAny_items_cons (cInt fun t2 k2 => wpAny_items_cons (cInt fun t3 k3 => wpAny_items_nil ?_)))
  refine call_range_2 (s := sh h₂ k3 (gs b G)) (wpAny_items_nil ?_)
  refine call_list_range (s := sh (h₂.push _) _ (gs b G)) (n := 16) r'.handled (IsRange.new _ _ _ _ _ _ _) (small_one (by decide) (by decide) (by decide) (by decide)) (by rw [rangeSize_one]; decide) (by decide) fun h₃ k4 acc c' hk₃ hS hacc => ?_
  have kp₃ : Kp h₂ h₃ := fun b o e => hk₃ b o (Heap.get?_push_of_some _ e)
  have hv2 := ints_of hacc
  have F₃ := F₂.keeps kp₃
  refine lAdd (h := h₃) (b := gs b G) (hT₁.at fun o e => kp₃ _ _ e) ⟨c', hS⟩ ?_ fun D h₄ hD kp₄ hD0 => ?_
  · rw [List.size_toArray, hv1.length, hacc.1]; decide
  have hDi : IntsAre (v1.toArray ++ acc).toList tab26 := by
    rw [Array.toList_append]
    exact ints_append hv1 hv2
  have F₄ := F₃.keeps kp₄
  have k14 : Kp h₁ h₄ := fun b o e => kp₄ _ _ (kp₃ _ _ (kp₁ _ _ e))
  have ct₄ : h₄.IsCell (h.objs.size + 2) none := ct.keeps k14
  have cx₄ : h₄.IsCell (h.objs.size + 1) (some (.int x t)) := cx.keeps k14
  have hDc : D ≠ h.objs.size + 2 := fun e => by
    obtain ⟨_, q, _⟩ := ct
    have := kp₃ _ _ (kp₁ _ _ q)
    rw [← e, hD0] at this; cases this
  refine sC (h := h₄) (b := gs b G) F₄ lt ct₄ (fun h₅ F₅ ct₅ hs₅ => ?_)
  have cx₅ : h₅.IsCell (h.objs.size + 1) (some (.int x t)) := cx₄.sameBut hs₅ (Nat.ne_of_lt (Nat.lt_succ_self _))
  have hD₅ := hD.extBut hs₅.extBut hDc
  refine wpAny_execs_cons ?_
  refine wpAny_Assign_Name ?_
  refine dInts (h := h₅) (b := gs b G) (ns := beside) ?hn2 ?hz2 ?hh2
  case hn2 => decide +kernel
  case hz2 => decide
  intro v2 k5 hv3
  have kp₆ : Kp h₅ (h₅.push { cls := .type "list", data := .seq v2.toArray }) := fun _ _ e => Heap.get?_push_of_some _ e
  have hB₆ : (h₅.push { cls := .type "list", data := .seq v2.toArray }).PlainList h₅.objs.size v2.toArray := ⟨0, Heap.get?_push_size _ rfl⟩
  have hBL : h₅.objs.size ≠ h.objs.size := Nat.ne_of_gt F₅.ns.lt
  have F₆ := F₅.keeps kp₆
  generalize (h₅.push { cls := .type "list", data := .seq v2.toArray }) = h₆ at *
  refine sE (h := h₆) (b := gs b G) F₆ (fun h₇ k₇ F₇ K₇ => ?_)
  have hB₇ := hB₆.at fun o e => K₇ _ _ hBL e
  have neL : ∀ {c : Nat}, h.objs.size < c → c ≠ h.objs.size := fun q => Nat.ne_of_gt q
  have cell7 : ∀ {c v}, h.objs.size < c → h₅.IsCell c v → h₇.IsCell c v := fun q z => let ⟨o, ho, hd⟩ := z; ⟨o, K₇ _ _ (neL q) (kp₆ _ _ ho), hd⟩
  have cx₇ := cell7 lx cx₅
  have ct₇ := cell7 lt ct₅
  have hDL : D ≠ h.objs.size := fun e => by
    obtain ⟨o', _, _, q, _⟩ := F₃.ns
    have q' : h₃.get? h.objs.size = some o' := q
    rw [← e, hD0] at q'; cases q'
  have hD₇ := hD₅.at fun o e => K₇ _ _ hDL (kp₆ _ _ e)
  refine wpAny_execs_cons ?_
  refine wpAny_Return_some ?_
  refine wpAny_BinOp ?_
  refine compS (Call_Name rfl (eB C F₇ PyProof.Rows.boot_range ?_))
  refine PyProof.Rows.callWith_type1 (wpAny_items_cons (cInt fun t2 k2 => wpAny_items_nil ?_))
  refine call_range_1 (s := sh h₇ k2 (gs b G)) ?_
  have hsm : Builtin.Range.small 0 4 1 = true := small_one (by decide) (by decide) (by decide) (by decide)
  have kp₈ : Kp h₇ (h₇.push { cls := .type "range", data := .fields #[.int 0 k2, .int 4 t2, .int 1 (k2 + 1)] }) := fun _ _ e => Heap.get?_push_of_some _ e
  refine wpAny_pyIter_range (s := sh (h₇.push { cls := .type "range", data := .fields #[.int 0 k2, .int 4 t2, .int 1 (k2 + 1)] }) (k2 + 1 + 1) (gs b G)) (IsRange.new _ _ _ _ _ _ _) hsm ?_
  show CompH _ _ _ _ _ _ _ _ _ (.ref (h₇.push { cls := .type "range", data := .fields #[.int 0 k2, .int 4 t2, .int 1 (k2 + 1)] }).objs.size) (sh ((h₇.push { cls := .type "range", data := .fields #[.int 0 k2, .int 4 t2, .int 1 (k2 + 1)] }).push { cls := .type "range_iterator", data := .fields #[rawInt 0, rawInt (Builtin.Range.rangeSize 0 4 1), rawInt 1] }) (k2 + 1 + 1) (gs b G))
  generalize (h₇.push { cls := .type "range", data := .fields #[.int 0 k2, .int 4 t2, .int 1 (k2 + 1)] }) = h₈ at *
  have F₈ := F₇.keeps kp₈
  have cx₈ := cx₇.keeps kp₈
  have ct₈ := ct₇.keeps kp₈
  have hD₈ := hD₇.at fun o e => kp₈ _ _ e
  have hB₈ := hB₇.at fun o e => kp₈ _ _ e
  have hr4 : Builtin.Range.rangeSize 0 4 1 = 4 := by rw [rangeSize_one]; rfl
  rw [hr4]
  have hsz : ∀ o : Obj, (h₈.push o).objs.size = h₈.objs.size + 1 := fun o => Heap.size_push ..
  have nI : h₈.get? h₈.objs.size = none := by
    cases e : h₈.get? h₈.objs.size with
    | none => rfl
    | some o => exact absurd (Heap.lt_size e) (Nat.lt_irrefl _)
  refine ⟨h₈.objs.size, [h₈.objs.size], [h₈.objs.size], 4, _, _, h₈, _, _, G, b, fun i ys => i ≤ 4 ∧ IntsAre ys ((List.range i).map fun k => tab26.getD ((x + 7 * k) % 26) 0), rfl, rfl, Src.walks (Walks.range r'.handled h₈.objs.size 0 1 4) _ _, by decide, ?_, ?_, ?_, ?_, fun _ _ e => Heap.get?_push_of_some _ e, by rw [hsz]; exact Nat.le_succ _, ⟨Nat.zero_le _, .nil⟩, ?_, ?_, ?_⟩
  · exact Heap.get?_push_size _ rfl
  · intro b hb; rw [List.mem_singleton.mp hb, hsz]; exact Nat.lt_succ_self _
  · intro b hb; rw [List.mem_singleton.mp hb]; exact nI
  · intro b hb; rw [List.mem_singleton.mp hb, hsz]; exact Nat.lt_succ_self _
  · intro i ys hJ; rw [hJ.2.length]; simp
  · intro Cc i v ys h' k' G' m hi hv hJ F'
    obtain ⟨t', rfl⟩ := hv
    refine wpAny_assign_Name (sE F' fun h₉ k₉ F₉ K₉ => noTests ⟨h₉, k₉, G', _, rfl, K₉, F₉, id, ?_⟩)
    rw [if_pos rfl]
    refine Subscript_ (eC (c := h.objs.size + 2) rfl (ct₈.keeps F₉.keep) ?_)
    refine wpAny_BinOp (wpAny_BinOp (eC (c := h.objs.size + 1) rfl (cx₈.keeps F₉.keep) (wpAny_BinOp (cInt fun t3 k3 => eN F₉ rfl (iMulL (by decide) fun t4 k4 => iAdd fun t5 k5 => cInt fun t6 k6 => iMod (by decide) fun t7 k7 => ?_)))))
    have e1 : ((x : Int) + 7 * (0 + (i : Int) * 1)).fmod 26 = ((x + 7 * i) % 26 : Nat) := by
      rw [Int.fmod_eq_emod_of_nonneg _ (by decide)]; omega
    have hl9 : h₉.IsList D (v1.toArray ++ acc).toList.toArray := by
      rw [Array.toArray_toList]
      exact (hD₈.at fun o e => F₉.keep _ _ e).isList
    refine lItem (i := (x + 7 * i) % 26) (ns := tab26) e1 hl9 hDi (Nat.lt_of_lt_of_le (Nat.mod_lt _ (by decide)) (by decide)) (by decide) fun u => ⟨h₉, _, rfl, fun _ _ e => e, hi, ?_⟩
    rw [List.range_succ, List.map_append]
    exact ints_end hJ.2 _ _
  · intro D₂ ys h' k' G' hD20 hD₂ hJ hk' hG'
    have F' := F₈.keeps hk'
    have hbz : x / 26 < beside.length := by show x / 26 < 15; omega
    refine dList (wpAny_items_cons (Subscript_ (eN F' rfl (wpAny_BinOp ?_))))
    have e2 : (x : Int).fdiv 26 = (x / 26 : Nat) := by rw [Int.fdiv_eq_ediv_of_nonneg _ (by decide)]; rfl
    have hnp : Builtin.divisionGoesByPylong (x : Int) 26 = false := by
      unfold Builtin.divisionGoesByPylong
      dsimp only
      rw [show (decide ((if ((26 : Int) == 0) = true then 0 else (26 : Int).natAbs.log2 / 30 + 1) > 300)) = false by decide]; rfl
    refine eC (c := h.objs.size + 1) rfl (cx₈.keeps hk') (cInt fun t3 k3 => iDiv (by decide) hnp fun t4 k4 => ?_)
    refine lItem (i := x / 26) (ns := beside) e2 (hB₈.at fun o e => hk' _ _ e).isList hv3 hbz (by decide) fun u => wpAny_items_nil ⟨by show 1 ≤ 3000; decide, h', _, rfl, ?_⟩
    have kpl : Kp h' (h'.push { cls := .type "list", data := .seq [Value.int (beside.getD (x / 26) 0) u].toArray }) := fun _ _ e => Heap.get?_push_of_some _ e
    refine lAdd (h := h'.push _) (b := gs b G') (hD₂.at fun o e => kpl _ _ e) ⟨0, Heap.get?_push_size _ rfl⟩ ?_ fun D₃ h₁₀ hD₃ kp₁₀ hD30 => ?_
    · have : ys.toArray.size = 4 := by rw [List.size_toArray, hJ.2.length]; rfl
      rw [this]; show 4 + 1 ≤ 3000; decide
    · refine hR h₁₀ _ D₃ _ G' (fun b o e => kp₁₀ _ _ (kpl _ _ (F'.keep _ _ e))) hD₃ ?_ hG'
      rw [Array.toList_append]
      exact ints_append hJ.2 (.cons _ _ .nil)
end
end Mine

end
section
open PySem PySem.W PySem.Calls PyProof.Rows
set_option Elab.async false
set_option maxRecDepth 100000
namespace Mine
def base8 : List Int := [0, 2, 5, 3, 1, 2, 1, 8]
def kinds10 : List T := [[40], [41], [34], [46], [92], [10], [13], [97], [255], []]
def full8 (xs : List Int) : List Int := (xs ++ List.replicate 8 0).take 8
def piece (xs : List Int) (k : Nat) : T := kinds10.getD (((full8 xs).getD k 0 + base8.getD k 0) % 10).toNat []
def rawText (xs : List Int) : T := ((List.range 8).map (piece xs)).flatten
/-- what _law_text hands back -/
def lawText (xs : List Int) : T := if (rawText xs).getLast? = some 92 then rawText xs ++ [97] else rawText xs
theorem full8_len (xs : List Int) : (full8 xs).length = 8 := by unfold full8; simp
theorem strs_at {vs : List Value} {zs : List T} (h : StrsAre vs (zs.map ofL)) {i : Nat} (hi : i < zs.length) : ∃ t, vs[i]? = some (.str (ofL (zs.getD i [])) t) := by
  induction zs generalizing vs i with
  | nil => simp at hi
  | cons z zs ih =>
    cases h with
    | cons y t r =>
      cases i with
      | zero => exact ⟨t, rfl⟩
      | succ i => exact ih r (by simpa using hi)
theorem ends_iff (x : T) : Txt.endswith (ofL x) (ofL [92]) = decide (x.getLast? = some 92) := by
  show (decide (0 + (ofL [92]).length ≤ (ofL x).length) && Builtin.Str.subAt (ofL x) (ofL [92]) ((ofL x).length - (ofL [92]).length)) = _
  rw [ofL_len, ofL_len]
  rcases List.eq_nil_or_concat x with rfl | ⟨r, c, rfl⟩
  · rfl
  · rw [List.concat_eq_append, Bool.eq_iff_iff]
    have e : Builtin.Str.subAt (ofL (r ++ [c])) (ofL [92]) ((r ++ [c]).length - ([92] : T).length) = decide (c = 92) := by
      unfold Builtin.Str.subAt
      show ((r ++ [c]).toArray.extract ((r ++ [c]).length - 1) ((r ++ [c]).length - 1 + 1) == ([92] : T).toArray) = _
      rw [List.extract_toArray, List.extract_eq_take_drop]
      simp
      by_cases q : c = 92
      · subst q; simp
      · simp [q]
    rw [e]
    simp
theorem piece_len (xs : List Int) (k : Nat) : (piece xs k).length ≤ 1 := by
  unfold piece
  generalize (((full8 xs).getD k 0 + base8.getD k 0) % 10).toNat = n
  rcases Nat.lt_or_ge n 10 with q | q
  · match n, q with
    | 0, _ | 1, _ | 2, _ | 3, _ | 4, _ | 5, _ | 6, _ | 7, _ | 8, _ | 9, _ => decide
  · rw [List.getD_eq_getElem?_getD, List.getElem?_eq_none (by exact q)]; decide
theorem rawText_len (xs : List Int) : (rawText xs).length ≤ 8 := by
  have := sum_le 1 ((List.range 8).map (piece xs)) (by intro z hz; obtain ⟨k, _, rfl⟩ := List.mem_map.mp hz; exact piece_len xs k)
  unfold rawText
  rw [List.length_flatten]
  simpa using this
section
variable {w : World} {mg : Str → Option Value} {a : Addr}
set_option maxHeartbeats 2000000 in
theorem textCall {A : Around} {d : Nat} {h : Heap} {k : Nat} {b : Shared} {G : Array GenState} {xs : List Int} {ls : Addr} {vs : Array Value} {R : Result → Shared → Prop} (C : Cx w mg h) (r : Room A d) (ha : mg "_law_text" = some (.ref a)) (hd : d ≤ 40) (hL : h.IsList ls vs) (hi : IntsAre vs.toList xs) (hz : xs.length ≤ 1000)
    (hR : ∀ h' k' t' G', Kp h h' → (AllBare G → AllBare G') → R (.ok (.ret (.str (ofL (lawText xs)) t'))) (sh h' k' (gs b G'))) :
    codeAny (model P w) A (.call (.ref a) ⟨[.ref ls], []⟩) R (sh h k (gs b G)) := by
  refine enterC (s := sh h k (gs b G)) 20 C r (by decide) ha (by omega) (fun _ _ _ => rfl) (fun n y hy => ?_) fun cd h₁ k₁ F cells r' => ?_
  · simp [show (rc 20).params.args.map (·.arg) = [("script" : Str)] from rfl] at hy
    subst hy
    exact .inl rfl
  obtain ⟨cb, lb⟩ := cells "base" (h.objs.size + 1) rfl
  obtain ⟨ck, lk⟩ := cells "kinds" (h.objs.size + 2) rfl
  refine wpAny_execs_cons ?_
  refine wpAny_Assign_Name ?_
  refine dInts (ns := base8) ?hn ?hz ?hh
  case hn => decide +kernel
  case hz => decide
  intro v1 k1 hv1
  have kp₁ : Kp h₁ (h₁.push { cls := .type "list", data := .seq v1.toArray }) := fun _ _ e => Heap.get?_push_of_some _ e
  have hT₁ : (h₁.push { cls := .type "list", data := .seq v1.toArray }).PlainList h₁.objs.size v1.toArray := ⟨0, Heap.get?_push_size _ rfl⟩
  have nB : h₁.objs.size ≠ h.objs.size + 1 := fun e => by obtain ⟨_, q, _⟩ := cb; have q' : h.objs.size + 1 < h₁.objs.size := Heap.lt_size q; exact absurd q' (by rw [e]; exact Nat.lt_irrefl _)
  have nB2 : h₁.objs.size ≠ h.objs.size + 2 := fun e => by obtain ⟨_, q, _⟩ := ck; have q' : h.objs.size + 2 < h₁.objs.size := Heap.lt_size q; exact absurd q' (by rw [e]; exact Nat.lt_irrefl _)
  have nBL : h₁.objs.size ≠ h.objs.size := Nat.ne_of_gt F.ns.lt
  generalize hBa : h₁.objs.size = Ba at *
  generalize (h₁.push { cls := .type "list", data := .seq v1.toArray }) = h₂ at *
  have F₂ := F.keeps kp₁
  refine sC (h := h₂) (b := gs b G) F₂ lb (cb.keeps kp₁) (fun h₃ F₃ cb₃ hs₃ => ?_)
  have ck₃ : h₃.IsCell (h.objs.size + 2) none := (ck.keeps kp₁).sameBut hs₃ (Nat.ne_of_gt (Nat.lt_succ_self _))
  have hB₃ := hT₁.extBut hs₃.extBut nB
  refine wpAny_execs_cons ?_
  refine wpAny_Assign_Name ?_
  refine dList ?_
  refine strsGo (h := h₃) (b := gs b G) 8 _ [Str.ofString "(", Str.ofString ")", Str.ofString "\"", Str.ofString ".", Str.ofString "\\", Str.ofString "\n", Str.ofString "\r", Str.ofString "a"] _ _ _ rfl ?_
  intro v2 k2 hv2
  rw [show [Str.ofString "(", Str.ofString ")", Str.ofString "\"", Str.ofString ".", Str.ofString "\\", Str.ofString "\n", Str.ofString "\r", Str.ofString "a"] = (kinds10.take 8).map ofL by decide +kernel] at hv2
  refine wpAny_items_cons (Call_Name rfl (eB C F₃ boot_chr (argB1 (cInt fun t3 k3 => chrOf (c := 255) (by decide) fun t4 k4 => wpAny_items_cons (cStr [] fun t5 k5 => wpAny_items_nil ?_)))))
  have hv3 : StrsAre (v2 ++ [.str (ofL [255]) t4, .str (ofL []) t5]) (kinds10.map ofL) := by
    have := strs_end (strs_end hv2 [255] t4) [] t5
    rw [List.append_assoc] at this
    exact this
  refine ⟨by rw [hv3.length]; decide, h₃, k5, rfl, ?_⟩
  generalize (v2 ++ [Value.str (ofL [255]) t4, .str (ofL []) t5]) = v3 at *
  have kp₄ : Kp h₃ (h₃.push { cls := .type "list", data := .seq v3.toArray }) := fun _ _ e => Heap.get?_push_of_some _ e
  have hK₄ : (h₃.push { cls := .type "list", data := .seq v3.toArray }).PlainList h₃.objs.size v3.toArray := ⟨0, Heap.get?_push_size _ rfl⟩
  have nK2 : h₃.objs.size ≠ h.objs.size + 2 := fun e => by obtain ⟨_, q, _⟩ := ck₃; have q' : h.objs.size + 2 < h₃.objs.size := Heap.lt_size q; exact absurd q' (by rw [e]; exact Nat.lt_irrefl _)
  have nKL : h₃.objs.size ≠ h.objs.size := Nat.ne_of_gt F₃.ns.lt
  generalize hKa : h₃.objs.size = Ka at *
  generalize (h₃.push { cls := .type "list", data := .seq v3.toArray }) = h₄ at *
  have F₄ := F₃.keeps kp₄
  refine sC (h := h₄) (b := gs b G) F₄ lk (ck₃.keeps kp₄) (fun h₅ F₅ ck₅ hs₅ => ?_)
  have cb₅ : h₅.IsCell (h.objs.size + 1) (some (.ref Ba)) := (cb₃.keeps kp₄).sameBut hs₅ (Nat.ne_of_lt (Nat.lt_succ_self _))
  have hK₅ := hK₄.extBut hs₅.extBut nK2
  have hB₅ := (hB₃.at fun o e => kp₄ _ _ e).extBut hs₅.extBut nB2
  refine wpAny_execs_cons ?_
  refine wpAny_Assign_Name ?_
  refine joinC (x := []) (by decide +kernel) fun t6 k6 => ?_
  refine compS (Call_Name rfl (eB C F₅ PyProof.Rows.boot_enumerate ?_))
  refine PyProof.Rows.callWith_type1 (wpAny_items_cons ?_)
  refine Subscript_ (wpAny_BinOp ?_)
  refine eN F₅ rfl (wpAny_BinOp (dList (wpAny_items_cons (cInt fun t7 k7 => wpAny_items_nil ⟨by show 1 ≤ 3000; decide, h₅, k7, rfl, ?_⟩))))
  refine cInt (h := h₅.push _) (b := gs b G) fun t8 k8 => ?_
  refine lMul (h := h₅.push _) (b := gs b G) (items := [Value.int 0 t7].toArray) (Heap.get?_push_size _ rfl) (by decide) (by decide) (by show 1 * 8 ≤ 2 ^ 24; decide) fun D h₆ hD kp₆ => ?_
  have kp₅₆ : Kp h₅ h₆ := fun _ _ e => kp₆ _ _ (Heap.get?_push_of_some _ e)
  have hL₆ : h₆.IsList ls vs.toList.toArray := by
    rw [Array.toArray_toList]
    exact hL.at fun o e => kp₅₆ _ _ (F₅.keep _ _ e)
  have hvl := hi.length
  refine lAddI (h := h₆) (b := gs b G) (ws := List.replicate 8 (Value.int 0 t7)) hL₆ (IsL.isList hD.choose_spec) (by rw [List.length_replicate]; omega) fun D₂ h₇ hD₂ kp₇ hD20 => ?_
  have hi8 : IntsAre (vs.toList ++ List.replicate 8 (Value.int 0 t7)) (xs ++ List.replicate 8 0) := ints_append hi (by repeat' (first | exact .nil | apply IntsAre.cons))
  have hlen8 : (vs.toList ++ List.replicate 8 (Value.int 0 t7)).length ≤ 3000 := by rw [hi8.length]; simp; omega
  refine wpAny_Slice (evalPart_none_step (evalPart_some_step (cInt (h := h₇) (b := gs b G) fun t9 k9 => evalPart_none_step ?_)))
  refine lSlT (h := h₇) (b := gs b G) hD₂.isList .none (.int 8 _) .none (by decide) (by rw [List.size_toArray]; exact hlen8) (fun D₃ h₈ k₈ hD₃ kp₈ _ => ?_) rfl
  have hi9 := kmk_upto hi8 (show (0 : Int) ≤ 8 by decide)
  have k58 : Kp h₅ h₈ := fun b o e => kp₈ _ _ (kp₇ _ _ (kp₅₆ b o e))
  have F₈ := F₅.keeps k58
  have hi9' : IntsAre (slicePick (vs.toList ++ List.replicate 8 (Value.int 0 t7)).toArray none (some 8) none).toList (full8 xs) := hi9
  generalize (slicePick (vs.toList ++ List.replicate 8 (Value.int 0 t7)).toArray none (some 8) none) = its at *
  have hsz8 : its.size = 8 := by have := hi9'.length; rw [full8_len] at this; simpa using this
  refine wpAny_items_nil (call_enumerate_list (s := sh h₈ k₈ (gs b G)) hD₃.isList fun h₉ he hit hsz hk₉ => ?_)
  refine wpAny_pyIter_enum he ?_
  have hit' : h₉.IsListIter h₈.objs.size D₃ 0 := hit
  have he' : IsEnum h₉ (h₈.objs.size + 1) h₈.objs.size 0 .none := he
  have hsz9 : h₉.objs.size = h₈.objs.size + 2 := hsz
  have hk9 : Kp h₈ h₉ := hk₉
  have hD3lt : D₃ < h₈.objs.size := by obtain ⟨_, q⟩ := hD₃; exact Heap.lt_size q
  have none_of : ∀ c, h₈.objs.size ≤ c → h₈.get? c = none := fun c hc => by
    cases e : h₈.get? c with
    | none => rfl
    | some o => exact absurd (Heap.lt_size e) (Nat.not_lt.mpr hc)
  have ne9 : h₈.objs.size + 1 ∉ [h₈.objs.size, D₃] := fun q => by
    rcases List.mem_cons.mp q with q | q
    · exact Nat.succ_ne_self _ q
    · exact Nat.ne_of_gt (Nat.lt_succ_of_lt hD3lt) (List.mem_singleton.mp q)
  have wr9 : ∀ c ∈ [h₈.objs.size + 1, h₈.objs.size], h₈.objs.size ≤ c ∧ c < h₉.objs.size := fun c hc => by
    rw [hsz9]
    rcases List.mem_cons.mp hc with q | q
    · rw [q]; exact ⟨Nat.le_succ _, Nat.lt_succ_self _⟩
    · rw [List.mem_singleton.mp q]; exact ⟨Nat.le_refl _, Nat.lt_succ_of_lt (Nat.lt_succ_self _)⟩
  have W := WalksT.enumerateD (prog := P) (w := w) (A := A.deeper (cenvOf 20 h.objs.size a cd)) (Draws.list (A := (A.deeper (cenvOf 20 h.objs.size a cd)).in1) r'.handled h₈.objs.size D₃ (Nat.ne_of_lt hD3lt) its) (h₈.objs.size + 1) (Nat.succ_ne_self _) ne9 (by simp)
  refine ⟨h₈.objs.size + 1, _, [h₈.objs.size + 1, h₈.objs.size], its.size, _, _, h₈, h₉, k₈, G, b, fun i ys => i ≤ 8 ∧ StrsAre ys (((List.range i).map (piece xs)).map ofL), rfl, rfl, Src.walksT W _ _ _, by rw [hsz8]; decide, ⟨⟨_, he'⟩, hit', hD₃.isList.at fun o e => hk9 _ _ e⟩, ?_, fun c hc => none_of c (wr9 c hc).1, fun c hc => (wr9 c hc).2, hk9, by rw [hsz9]; exact Nat.le_add_right _ _, ⟨Nat.zero_le _, .nil⟩, ?_, ?_, ?_⟩
  · intro c hc
    rw [hsz9]
    rcases List.mem_cons.mp hc with q | q
    · rw [q]; exact Nat.lt_succ_self _
    · rcases List.mem_cons.mp q with q | q
      · rw [q]; exact Nat.lt_succ_of_lt (Nat.lt_succ_self _)
      · rw [List.mem_singleton.mp q]; exact Nat.lt_succ_of_lt (Nat.lt_succ_of_lt hD3lt)
  · intro i ys hJ; rw [hJ.2.length]; simp
  · intro Cc i v ys h' k' G' m hi' hv hJ F'
    obtain ⟨Tt, vals, rfl, hT, t1, x1, hx1, rfl⟩ := hv
    obtain ⟨n, tn, hn, rfl⟩ := ints_get hi9' (show its.toList[i]? = some x1 by simpa using hx1)
    have hnD : (full8 xs).getD i 0 = n := by rw [List.getD_eq_getElem?_getD, hn]; rfl
    have hi8' : i < 8 := by rw [hsz8] at hi'; exact hi'
    refine wpAny_assign_Tuple (s := sh h' k' (gs b G')) r'.handled hT rfl rfl fun h₁₀ hx₁₀ => ?_
    replace hx₁₀ : Heap.ExtBut h'.objs.size h' h₁₀ := hx₁₀
    have up : Kp h' h₁₀ := fun b o x => hx₁₀ b o (Nat.ne_of_lt (Heap.lt_size x)) x
    refine assignInOrder_cons (wpAny_assign_Name (sE (h := h₁₀) (k := k') (b := gs b G') (F'.keeps up) fun h₁₁ k₁₁ F₁₁ K₁₁ => assignInOrder_cons (wpAny_assign_Name (sE F₁₁ fun h₁₂ k₁₂ F₁₂ K₁₂ => assignInOrder_nil ?_))))
    refine noTests ⟨h₁₂, k₁₂, G', _, rfl, fun b o hb e => K₁₂ _ _ hb (K₁₁ _ _ hb (up _ _ e)), F₁₂, id, ?_⟩
    rw [if_pos rfl]
    have b12 : ∀ {c v}, h₅.IsCell c v → h₁₂.IsCell c v := fun z => (z.keeps k58).keeps F₁₂.keep
    have hB12 : h₁₂.IsList Ba v1.toArray := (hB₅.at fun o e => F₁₂.keep _ _ (k58 _ _ e)).isList
    have hK12 : h₁₂.IsList Ka v3.toArray := (hK₅.at fun o e => F₁₂.keep _ _ (k58 _ _ e)).isList
    obtain ⟨tp, htp⟩ := strs_at hv3 (i := (((full8 xs).getD i 0 + base8.getD i 0) % 10).toNat) (by show _ < 10; omega)
    refine Subscript_ (eC (c := h.objs.size + 2) rfl (b12 ck₅) (wpAny_BinOp (wpAny_BinOp (eN F₁₂ rfl (Subscript_ (eC (c := h.objs.size + 1) rfl (b12 cb₅) (eN F₁₂ rfl ?_)))))))
    refine lItem (i := i) (ns := base8) rfl hB12 hv1 (by show i < 8; exact hi8') (by decide) fun u => iAdd fun t3 k3 => cInt fun t4 k4 => iMod (by decide) fun t5 k5 => ?_
    have e1 : (n + base8.getD i 0).fmod 10 = ((((full8 xs).getD i 0 + base8.getD i 0) % 10).toNat : Nat) := by
      rw [Int.fmod_eq_emod_of_nonneg _ (by decide), hnD]; omega
    refine lAt e1 hK12 (by simpa using htp) (by rw [List.size_toArray, hv3.length]; decide) ⟨h₁₂, _, rfl, fun _ _ e => e, hi8', ?_⟩
    rw [List.range_succ, List.map_append]
    exact strs_end hJ.2 (piece xs i) tp
  · intro D₄ ys h' k' G' hD40 hD₄ hJ hk' hG'
    have hJ2 := hJ.2
    rw [hsz8] at hJ2
    have F' := F₈.keeps hk'
    refine sJoin (h := h') (b := gs b G') (zs := (List.range 8).map (piece xs)) hD₄.isList hJ2 ?_ fun t' k'' => ?_
    · have := sum_le 1 ((List.range 8).map (piece xs)) (by intro z hz; obtain ⟨k, _, rfl⟩ := List.mem_map.mp hz; exact piece_len xs k)
      rw [List.length_map, List.length_range] at this ⊢
      show _ + 8 * 0 ≤ _
      omega
    rw [glue_nil]
    show wpAny _ _ (storeName _ _ (.str (ofL (rawText xs)) t')) _ _ _
    refine sE (h := h') (b := gs b G') F' fun h₁₀ k₁₀ F₁₀ K₁₀ => ?_
    refine wpAny_execs_cons ?_
    refine wpAny_If (wpAny_isTrue_value ?_)
    refine mS PySem.F.slot_str_endswith PySem.F.type_str_endswith ?_
    refine eN F₁₀ rfl ⟨_, _, rfl, argB1 (cStr [92] fun t3 k3 => PySem.SC.endswith (wpAny_truthy_bool ?_))⟩
    rw [ends_iff]
    by_cases c1 : (rawText xs).getLast? = some 92
    · have eT : lawText xs = rawText xs ++ [97] := by unfold lawText; rw [if_pos c1]
      rw [eT] at hR
      refine ifT (decide_eq_true c1) ?_
      refine wpAny_execs_cons ?_
      refine wpAny_Return_some (wpAny_BinOp (eN F₁₀ rfl (cStr [97] fun t4 k4 => sAdd (by have := rawText_len xs; show _ + 1 ≤ 3000; omega) fun t5 k5 => ?_)))
      exact hR _ _ _ _ F₁₀.keep hG'
    · have eT : lawText xs = rawText xs := by unfold lawText; rw [if_neg c1]
      rw [eT] at hR
      refine ifF (decide_eq_false c1) (wpAny_execs_nil ?_)
      refine wpAny_execs_cons ?_
      exact wpAny_Return_some (eN F₁₀ rfl (hR _ _ _ _ F₁₀.keep hG'))
end
end Mine

end
section
open PySem PySem.W PySem.Calls PyProof.Rows
set_option Elab.async false
set_option maxRecDepth 100000
namespace Mine
section
variable {w : World} {mg : Str → Option Value} {A : Around} {h₀ h : Heap} {L a : Addr} {m : Str → Option Value} {env : Env} {k : Nat} {b : Shared}
theorem withT {α : Type} {t : Sem α} {Q : α → Shared → Prop} {s : Shared} {n : Nat} (hn : n ≤ s.toks) (H : wpAny (model P w) A t (fun a s' => n ≤ s'.toks → Q a s') (fun _ _ => False) s) : wpAny (model P w) A t Q (fun _ _ => False) s :=
  wpAny_with_toks hn (wpAny_mono H (fun _ _ q => q) fun _ _ q => q.elim)
def rep (y z x : T) : T := glue z (spl y (x.length + 1) x)
/-- o.replace(y, z) -/
theorem sRepl {o : Expr} {y z : Str} {kk kk' : Nat} {p p' pos apos : Pos} {Q : Value → Shared → Prop} (yl zl : T) (hk : 1 ≤ k)
    (H : wpAny (model P w) A (eval o env) (fun v s₁ => ∃ x t h₁ k₁, v = .str (ofL x) t ∧ s₁ = sh h₁ k₁ b ∧ x.length ≤ 1000 ∧ ∀ t' k', Q (.str (ofL (rep yl zl x)) t') (sh h₁ k' b)) (fun _ _ => False) (sh h k b))
    (hy : y = ofL yl) (hz : z = ofL zl) (hyl : 1 ≤ yl.length) (hzl : zl.length ≤ 14) (hne : yl ≠ zl)
    (hbase : attributeBase o "replace" env (eval o env) = eval o env := by rfl)
    (hs : ∀ pos, backTo pos (starEach [Expr.Constant (.str y) kk p, .Constant (.str z) kk' p'] env) = [(false, eval (.Constant (.str y) kk p) env), (false, eval (.Constant (.str z) kk' p') env)] := by intro _; rfl)
    (hline : (apos.endLine == pos.line) = true := by rfl) :
    wpAny (model P w) A (eval (.Call (.Attribute o "replace" apos) [.Constant (.str y) kk p, .Constant (.str z) kk' p'] [] pos) env) Q (fun _ _ => False) (sh h k b) := by
  subst hy hz
  refine mS PySem.F.slot_str_replace PySem.F.type_str_replace ?_ (hbase := hbase) (hfew := by rw [hs]; rfl) (hline := hline)
  refine withT (n := 1) hk (wpAny_mono H (fun v s₁ q hk₁ => ?_) fun _ _ q => q)
  obtain ⟨x, t, h₁, k₁, rfl, rfl, hx, q⟩ := q
  refine ⟨_, _, rfl, argB2 (Constant_str (Constant_str ?_)) (hs _)⟩
  have hk₁' : 1 ≤ k₁ := hk₁
  refine PySem.SC.replaceW (s := sh h₁ (k₁ + 1 + 1) b) (u := k₁) (v := k₁ + 1) (Nat.ne_of_gt hk₁') (Nat.succ_ne_zero _) (Nat.ne_of_lt (Nat.lt_succ_self _)) (beq_eq_false_iff_ne.mpr fun e => hne (ofL_inj e)) (by rw [ofL_len]; omega) (by rw [ofL_len]; exact hzl) fun t' k' => ?_
  rw [replace_spl _ _ _ hyl]
  exact q t' k'
/-- a def's body, and the tokens are one at least -/
theorem enter1 {R : Result → Shared → Prop} {s : Shared} {d : Nat} {v : Value} (i : Nat) (C : Cx w mg s.heap) (r : Room A d) (hi : i ∈ fnIdx) (ha : mg (rc i).name = some (.ref a)) (hd : d ≤ 50)
    (hbind : ∀ pm cd doc, bindArgs (docDef (rc i).name (rc i).params (rc i).body (rc i).scope pm cd doc) ⟨[v], []⟩ = pure (((rc i).params.args.map (·.arg)).zip [v]))
    (hloc : ((((rc i).params.args.map (·.arg)).zip [v]).all fun x => decide ((rc i).scope.names.lookup x.1 = some .local)) = true)
    (l : List (Str × Value)) (hl : (((rc i).params.args.map (·.arg)).zip [v]).reverse = l) (hlen : (((rc i).params.args.map (·.arg)).zip [v]).length = 1)
    (H : ∀ cd h₁ tk, 1 ≤ tk → Fr s.heap s.heap.objs.size h₁ (lk l) → Room (A.deeper (envOf (rc i).name (rc i).scope s.heap.objs.size a cd)) (d + 1) →
      wpAny (model P w) (A.deeper (envOf (rc i).name (rc i).scope s.heap.objs.size a cd)) (execs (rc i).body (envOf (rc i).name (rc i).scope s.heap.objs.size a cd))
        (fun f s' => R (.ok (.ret (match f with | .ret v => v | _ => .none))) s') (fun _ _ => False) (sh h₁ tk s))
    (hco : (rc i).scope.isCoroutine = false := by rfl) (hgen : (rc i).scope.isGenerator = false := by rfl) (hk : (rc i).scope.kind = .function := by rfl)
    (hcell : ∀ x ∈ (rc i).scope.names, x.2 ≠ .cell := by decide) :
    codeAny (model P w) A (.call (.ref a) ⟨[v], []⟩) R s := by
  subst hl
  obtain ⟨a', o, pm, cd, doc, e1, e2, e3, e4⟩ := C.fn i hi
  obtain rfl : a' = a := Value.ref.inj (Option.some.inj (e1.symm.trans ha))
  refine call_pos_ret (r.lt (by omega)) e2 e3 C.nolimit e4 (hbind _ _ _) (locs hloc) (fun h₁ F => ?_) hco hgen hk hcell
  rw [hlen]
  exact H cd h₁ _ (Nat.le_add_left _ _) F (r.deeper _)
theorem sumL {l : Addr} {vs : Array Value} {ns : List Int} {Q : Value → Shared → Prop} (hh : A.handled = none) (hl : h.IsList l vs) (hi : IntsAre vs.toList ns) (E : Value → Shared → Prop)
    (H : ∀ h' k' t', Kp h h' → Q (.int ns.sum t') (sh h' k' b)) : wpAny (model P w) A (call (.builtin "sum") [.ref l]) Q E (sh h k b) := by
  have hall := hi.allInts
  have hn := hi.numsOf
  obtain ⟨xs, hx⟩ := hall.items
  have hx' : vs = intItems xs := by simpa using hx
  subst hx'
  refine sum_intListG (s := sh h k b) hh hl fun h' tk t' hk => ?_
  rw [preSum_eq, List.take_of_length_le (by simp)]
  rw [nums_intItems] at hn
  rw [hn]
  exact H h' tk t' hk
end
end Mine

end
section
open PySem PySem.W PySem.Calls PyProof.Rows
set_option Elab.async false
set_option maxRecDepth 100000
namespace Mine
/-- what a line must be for the walk of _law_holds -/
structure LineOk (f : T) (ns : List Int) : Prop where
  holds : lawHolds f ns = true
  fl : f.length ≤ 200
  nl : ns.length ≤ 200
  rng : ∀ n ∈ ns, 0 ≤ n ∧ n ≤ 70000
  un : (unsent (f ++ (ns.filter fun n => !inTab n).map Int.toNat)).length ≤ 500
/-- all that the law needs of its script -/
structure LawOk (xs : List Int) (letter sent : T) (x : Nat) (cs : List Int) (taken early : Bool) (much few : Lines) : Prop where
  letter_ : lawText xs = letter
  x_ : (((xs.drop 8).take 1).sum + 5) % 390 = (x : Nat)
  xl : x < 390
  cs_ : lawCodes x = cs
  sent_ : quoted letter = sent
  ll : letter.length ≤ 9
  sl : sent.length ≤ 100
  ul : (unsent letter).length ≤ 500
  c4 : inTab (cs.getD 4 0) = false
  c4r : 0 ≤ cs.getD 4 0 ∧ cs.getD 4 0 ≤ 70000
  csl : cs.length = 5
  unq : unsent sent = rep [10] [13, 10] (rep [13] [10] (rep [13, 10] [10] letter))
  rl : (rep [13, 10] [10] letter).length ≤ 900 ∧ (rep [13] [10] (rep [13, 10] [10] letter)).length ≤ 900
  g1 : Go sent cs 5 (-1) [cs.getD 4 0, 0] 0 (-1) [] taken much
  g2 : Go letter cs 5 (-1) [cs.getD 4 0, 0] 0 (-1) [] early few
  k1 : check sent = taken
  k2 : check letter = taken
  e1 : early = (taken && decide (quoted (unsent letter) = letter))
  m1 : ∀ y ∈ much, LineOk y.1 y.2
  m2 : ∀ y ∈ few, LineOk y.1 y.2
  n1 : much.length ≤ 1000
  n2 : few.length ≤ 1000
theorem plain_ne {h : Heap} {D L : Addr} {vs : Array Value} {m : Str → Option Value} (hD : h.PlainList D vs) (hn : h.Ns L m) : D ≠ L := by
  rintro rfl
  obtain ⟨n, h1⟩ := hD
  obtain ⟨o, es, ep, h2, h3, _⟩ := hn
  rw [h1] at h2
  obtain rfl := Option.some.inj h2
  cases h3
theorem tup_ne {h : Heap} {D L : Addr} {vs : Array Value} {m : Str → Option Value} (hD : IsTup h D vs) (hn : h.Ns L m) : D ≠ L := by
  rintro rfl
  obtain ⟨o', h1, _, n, hd⟩ := hD
  obtain ⟨o, es, ep, h2, h3, _⟩ := hn
  rw [h1] at h2
  obtain rfl := Option.some.inj h2
  rw [hd] at h3
  cases h3
theorem linesX {h : Heap} {L : Addr} {vs : List Value} {ls : Lines} {m : Str → Option Value} (x : LinesAre [] h vs ls) (hn : h.Ns L m) : LinesAre [L] h vs ls := by
  induction x with
  | nil => exact .nil
  | cons ha hc h1 h2 h3 _ ih =>
    exact .cons (fun q => tup_ne h1 hn (List.mem_singleton.mp q)) (fun q => plain_ne h2 hn (List.mem_singleton.mp q)) h1 h2 h3 ih
theorem linesApp {X : List Addr} {h : Heap} {vs us : List Value} {ls ms : Lines} (x : LinesAre X h vs ls) (y : LinesAre X h us ms) : LinesAre X h (vs ++ us) (ls ++ ms) := by
  induction x with
  | nil => exact y
  | cons ha hc h1 h2 h3 _ ih => exact .cons ha hc h1 h2 h3 ih
theorem linesGet {X : List Addr} {h : Heap} {vs : List Value} {ls : Lines} (x : LinesAre X h vs ls) {i : Nat} {v : Value} (hv : vs[i]? = some v) :
    ∃ (y : T × List Int) (Tt c : Addr) (us : Array Value) (t : Tok), ls[i]? = some y ∧ v = .ref Tt ∧ IsTup h Tt #[.str (ofL y.1) t, .ref c] ∧ h.PlainList c us ∧ IntsAre us.toList y.2 := by
  induction x generalizing i with
  | nil => simp at hv
  | cons ha hc h1 h2 h3 _ ih =>
    cases i with
    | zero => simp at hv; exact ⟨_, _, _, _, _, rfl, hv.symm, h1, h2, h3⟩
    | succ i => exact ih (by simpa using hv)
/-- a frame's store leaves the lines -/
theorem linesSt {h h' : Heap} {L : Addr} {vs : List Value} {ls : Lines} {m : Str → Option Value} (x : LinesAre [] h vs ls) (hn : h.Ns L m) (hk : Kp' L h h') : LinesAre [] h' vs ls := by
  have := (linesX x hn).mono (X' := [L]) (fun _ q => q) fun b o hb e => hk b o (fun q => hb (List.mem_singleton.mpr q)) e
  exact this.mono (fun _ q => by cases q) fun _ _ _ e => e
section
variable {w : World} {mg : Str → Option Value} {a : Addr}
set_option maxHeartbeats 4000000 in
theorem lawCall {A : Around} {d : Nat} {h : Heap} {k : Nat} {b : Shared} {G : Array GenState} {xs : List Int} {ls : Addr} {vs : Array Value} {letter sent : T} {x : Nat} {cs : List Int} {taken early : Bool} {much few : Lines} {R : Result → Shared → Prop}
    (C : Cx w mg h) (r : Room A d) (ha : mg "law" = some (.ref a)) (hd : d ≤ 5) (hL : h.IsList ls vs) (hi : IntsAre vs.toList xs) (hz : xs.length ≤ 1000) (ok : LawOk xs letter sent x cs taken early much few)
    (hR : ∀ h' k' G', Kp h h' → (AllBare G → AllBare G') → R (.ok (.ret (.bool true))) (sh h' k' (gs b G'))) :
    codeAny (model P w) A (.call (.ref a) ⟨[.ref ls], []⟩) R (sh h k (gs b G)) := by
  refine enter1 (s := sh h k (gs b G)) 26 C r (by decide) ha (by omega) (fun _ _ _ => rfl) (by rfl) [("script", .ref ls)] rfl rfl fun cd h₁ tk htk F r' => ?_
  have CC : ∀ {h' : Heap} {m' : Str → Option Value}, Fr h h.objs.size h' m' → Cx w mg h' := fun F => C.keeps F.keep
  obtain ⟨ta, hta⟩ := C.nm 20 "_law_text" (by decide) rfl
  obtain ⟨ca, hca⟩ := C.nm 21 "_law_codes" (by decide) rfl
  obtain ⟨qa, hqa⟩ := C.nm 9 "quotedata" (by decide) rfl
  obtain ⟨ia, hia⟩ := C.nm 12 "in_table_b1" (by decide) rfl
  obtain ⟨ua, hua⟩ := C.nm 24 "_law_unsent" (by decide) rfl
  obtain ⟨ra, hra⟩ := C.nm 23 "_law_read" (by decide) rfl
  obtain ⟨pa, hpa⟩ := C.nm 4 "_check_parenthesis" (by decide) rfl
  obtain ⟨oa, hoa⟩ := C.nm 25 "_law_holds" (by decide) rfl
  -- letter
  refine wpAny_execs_cons (withT (n := 1) htk ?_)
  refine wpAny_Assign_Name (Call_Name rfl (vG C F hta (callF (s := sh h₁ tk (gs b G)) 20 (CC F) (by decide) hta (wpAny_items_cons (vN F rfl (wpAny_items_nil ⟨fun _ _ e => e, ?_⟩))))))
  refine textCall (CC F) r' hta (by omega) (hL.at fun o e => F.keep _ _ e) hi hz fun h₂ k₂ t₂ G₂ K₂ hG₂ => ?_
  rw [ok.letter_]
  refine stS (F.keeps K₂) fun h₃ k₃ F₃ K₃ hk₃ => ?_
  -- grammar
  refine wpAny_execs_cons (withT (n := 1) hk₃ ?_)
  refine wpAny_Assign_Name (Call_Name rfl (vG C F₃ hca (callF (s := sh h₃ k₃ (gs b G₂)) 21 (CC F₃) (by decide) hca (wpAny_items_cons ?_))))
  refine wpAny_BinOp (wpAny_BinOp (Call_Name rfl (vB C F₃ boot_sum (argB1 ?_))))
  have hL₃ : h₃.IsList ls vs.toList.toArray := by
    rw [Array.toArray_toList]
    exact hL.at fun o e => F₃.keep _ _ e
  refine Subscript_ (vN F₃ rfl (wpAny_Slice (evalPart_some_step (cInt fun t4 k4 => evalPart_some_step (cInt fun t5 k5 => evalPart_none_step ?_)))))
  refine lSl (h := h₃) (b := gs b G₂) hL₃ (.int 8 _) (.int 9 _) .none (by decide) (by rw [List.size_toArray, hi.length]; omega) (fun D h₄ k₄ hD kp₄ _ => ?_) rfl (by intro _; rfl)
  have hi2 := kmk_run hi (show (0 : Int) ≤ 8 by decide) (show (0 : Int) ≤ 9 by decide)
  have e8 : (xs.drop (8 : Int).toNat).take (min (9 : Int).toNat xs.length - (8 : Int).toNat) = (xs.drop 8).take 1 := by
    show (xs.drop 8).take (min 9 xs.length - 8) = _
    rcases Nat.lt_or_ge xs.length 9 with q | q
    · have : xs.drop 8 = [] := List.drop_eq_nil_of_le (by omega)
      rw [this]; simp
    · rw [show min 9 xs.length - 8 = 1 by omega]
  rw [e8] at hi2
  refine sumL (h := h₄) (b := gs b G₂) r'.handled hD.isList hi2 _ fun h₅ k₅ t₅ kp₅ => ?_
  have F₅ := (F₃.keeps kp₄).keeps kp₅
  refine cInt fun t6 k6 => iAdd fun t7 k7 => cInt fun t8 k8 => iMod (by decide) fun t9 k9 => wpAny_items_nil ⟨fun b o e => kp₅ _ _ (kp₄ _ _ e), ?_⟩
  rw [Int.fmod_eq_emod_of_nonneg _ (by decide), ok.x_]
  refine codesCall (CC F₅) r' hca (by omega) ok.xl fun h₆ k₆ gl vg G₆ K₆ hgl hgi hG₆ => ?_
  rw [ok.cs_] at hgi
  refine stS (F₅.keeps K₆) fun h₇ k₇ F₇ K₇ hk₇ => ?_
  have hglL : gl ≠ h.objs.size := plain_ne hgl (F₅.keeps K₆).ns
  have hgl₇ := hgl.at fun o e => K₇ _ _ hglL e
  -- sent
  refine wpAny_execs_cons (withT (n := 1) hk₇ ?_)
  refine wpAny_Assign_Name (Call_Name rfl (vG C F₇ hqa (callF (s := sh h₇ k₇ (gs b G₆)) 9 (CC F₇) (by decide) hqa (wpAny_items_cons (vN F₇ rfl (wpAny_items_nil ⟨fun _ _ e => e, ?_⟩))))))
  have ll := ok.ll
  refine quote (s := sh h₇ k₇ (gs b G₆)) (CC F₇) r' hqa (by omega) fun h₈ k₈ t₈ K₈ => ?_
  rw [ok.sent_]
  refine stS (k := k₈) (b := gs b G₆) (F₇.keeps K₈) fun h₉ k₉ F₉ K₉ hk₉ => ?_
  have hgl₉ := hgl₇.at fun o e => K₉ _ _ hglL (K₈ _ _ e)
  -- in_table_b1
  obtain ⟨c4, hc4⟩ : ∃ c : Nat, cs.getD 4 0 = c := ⟨(cs.getD 4 0).toNat, by have := ok.c4r.1; omega⟩
  have c4r := ok.c4r.2
  refine wpAny_execs_cons (withT (n := 1) hk₉ ?_)
  refine wpAny_If (wpAny_isTrue_value (Call_Name rfl (vG C F₉ hia (callF (s := sh h₉ k₉ (gs b G₆)) 12 (CC F₉) (by decide) hia (wpAny_items_cons (Call_Name rfl (vB C F₉ boot_chr (argB1 (Subscript_ (vN F₉ rfl (cInt fun t k => ?_)))))))))))
  refine lItem (i := 4) (ns := cs) rfl (by rw [Array.toArray_toList]; exact hgl₉.isList) hgi (by rw [ok.csl]; decide) (by rw [ok.csl]; decide) fun u => ?_
  rw [hc4]
  refine chrOf (by omega) fun t k => wpAny_items_nil ⟨fun _ _ e => e, ?_⟩
  refine intab (s := sh h₉ k (gs b G₆)) (CC F₉) r' hia fun h₁₀ k₁₀ K₁₀ => wpAny_truthy_bool (ifF (by rw [← hc4]; exact ok.c4) (wpAny_execs_nil fun hk₁₀ => ?_))
  have F₁₀ := F₉.keeps K₁₀
  have hgl₁₀ := hgl₉.at fun o e => K₁₀ _ _ e
  clear hgl hgl₇ hgl₉
  -- unsent
  have sl := ok.sl
  refine wpAny_execs_cons (withT (n := 1) hk₁₀ ?_)
  refine wpAny_If (wpAny_isTrue_Compare1 ?_)
  refine withT (n := 1) hk₁₀ ?_
  refine Call_Name rfl (vG C F₁₀ hua (callF (s := sh h₁₀ k₁₀ (gs b G₆)) 24 (CC F₁₀) (by decide) hua (wpAny_items_cons (vN F₁₀ rfl (wpAny_items_nil ⟨fun _ _ e => e, ?_⟩)))))
  refine unsentCall (CC F₁₀) r' hua (by omega) (by omega) fun h₁₁ k₁₁ t₁₁ G₁₁ K₁₁ hG₁₁ hk₁₁ => ?_
  have F₁₁ := F₁₀.keeps K₁₁
  refine sRepl (h := h₁₁) (b := gs b G₁₁) [10] [13, 10] hk₁₁ ?_ (by decide +kernel) (by decide +kernel) (by decide) (by decide) (by decide)
  refine sRepl (h := h₁₁) (b := gs b G₁₁) [13] [10] hk₁₁ ?_ (by decide +kernel) (by decide +kernel) (by decide) (by decide) (by decide)
  refine sRepl (h := h₁₁) (b := gs b G₁₁) [13, 10] [10] hk₁₁ ?_ (by decide +kernel) (by decide +kernel) (by decide) (by decide) (by decide)
  refine vN F₁₁ rfl ⟨letter, _, h₁₁, _, rfl, rfl, by omega, fun t12 k12 => ⟨_, _, h₁₁, _, rfl, rfl, by have := ok.rl.1; omega, fun t13 k13 => ⟨_, _, h₁₁, _, rfl, rfl, by have := ok.rl.2; omega, fun t14 k14 => ?_⟩⟩⟩
  refine ne_str (wpAny_truthy_bool ?_)
  refine ifF (by rw [← ok.unq]; simp) (wpAny_execs_nil fun hk₁₂ => ?_)
  have hgl₁₁ := hgl₁₀.at fun o e => K₁₁ _ _ e
  -- taken, much
  refine wpAny_execs_cons ?_
  refine Assign_Tuple ?_
  refine Call_Name rfl (vG C F₁₁ hra (callF (s := sh h₁₁ _ (gs b G₁₁)) 23 (CC F₁₁) (by decide) hra (wpAny_items_cons (vN F₁₁ rfl (wpAny_items_cons (vN F₁₁ rfl (wpAny_items_cons (wpAny_UnaryOp (cInt fun t k => iNeg fun t k => wpAny_items_nil ⟨fun _ _ e => e, ?_⟩)))))))))
  refine lawRead (bs := gs b G₁₁) ok.g1 (CC F₁₁) r' hra (by omega) (by omega) ok.csl hgl₁₁ hgi fun h₁₂ k₁₂ Ta la xa K₁₂ hTa hla hxa => ?_
  have F₁₂ := F₁₁.keeps K₁₂
  have hgl₁₂ := hgl₁₁.at fun o e => K₁₂ _ _ e
  refine assign_Tuple_tuple (s := sh h₁₂ k₁₂ (gs b G₁₁)) r'.handled hTa rfl rfl fun h₁₃ hx₁₃ => ?_
  replace hx₁₃ : Heap.ExtBut h₁₂.objs.size h₁₂ h₁₃ := hx₁₃
  have up₁₃ : Kp h₁₂ h₁₃ := fun b o x => hx₁₃ b o (Nat.ne_of_lt (Heap.lt_size x)) x
  have F₁₃ := F₁₂.keeps up₁₃
  refine assignInOrder_cons (wpAny_assign_Name (stS (k := k₁₂) (b := gs b G₁₁) F₁₃ fun h₁₄ k₁₄ F₁₄ K₁₄ => assignInOrder_cons (wpAny_assign_Name (stS F₁₄ fun h₁₅ k₁₅ F₁₅ K₁₅ => assignInOrder_nil ?_))))
  have hlaL : la ≠ h.objs.size := plain_ne hla F₁₂.ns
  have hla₁₅ := hla.at fun o e => K₁₅ _ _ hlaL (K₁₄ _ _ hlaL (up₁₃ _ _ e))
  have hgl₁₅ := hgl₁₂.at fun o e => K₁₅ _ _ hglL (K₁₄ _ _ hglL (up₁₃ _ _ e))
  have hxa₁₅ : LinesAre [] h₁₅ xa.toList much := linesSt (linesSt (hxa.mono (fun _ q => q) fun _ _ _ e => up₁₃ _ _ e) F₁₃.ns K₁₄) F₁₄.ns K₁₅
  clear hgl₁₂ hgl₁₁ hgl₁₀ hla hxa
  -- early, few
  refine wpAny_execs_cons ?_
  refine Assign_Tuple ?_
  refine Call_Name rfl (vG C F₁₅ hra (callF (s := sh h₁₅ k₁₅ (gs b G₁₁)) 23 (CC F₁₅) (by decide) hra (wpAny_items_cons (vN F₁₅ rfl (wpAny_items_cons (vN F₁₅ rfl (wpAny_items_cons (wpAny_UnaryOp (cInt fun t k => iNeg fun t k => wpAny_items_nil ⟨fun _ _ e => e, ?_⟩)))))))))
  refine lawRead (bs := gs b G₁₁) ok.g2 (CC F₁₅) r' hra (by omega) (by omega) ok.csl hgl₁₅ hgi fun h₁₆ k₁₆ Tb lb xb K₁₆ hTb hlb hxb => ?_
  have F₁₆ := F₁₅.keeps K₁₆
  refine assign_Tuple_tuple (s := sh h₁₆ k₁₆ (gs b G₁₁)) r'.handled hTb rfl rfl fun h₁₇ hx₁₇ => ?_
  replace hx₁₇ : Heap.ExtBut h₁₆.objs.size h₁₆ h₁₇ := hx₁₇
  have up₁₇ : Kp h₁₆ h₁₇ := fun b o x => hx₁₇ b o (Nat.ne_of_lt (Heap.lt_size x)) x
  have F₁₇ := F₁₆.keeps up₁₇
  refine assignInOrder_cons (wpAny_assign_Name (stS (k := k₁₆) (b := gs b G₁₁) F₁₇ fun h₁₈ k₁₈ F₁₈ K₁₈ => assignInOrder_cons (wpAny_assign_Name (stS F₁₈ fun h₁₉ k₁₉ F₁₉ K₁₉ => assignInOrder_nil ?_))))
  have hlbL : lb ≠ h.objs.size := plain_ne hlb F₁₆.ns
  have hlb₁₉ := hlb.at fun o e => K₁₉ _ _ hlbL (K₁₈ _ _ hlbL (up₁₇ _ _ e))
  have hla₁₉ := hla₁₅.at fun o e => K₁₉ _ _ hlaL (K₁₈ _ _ hlaL (up₁₇ _ _ (K₁₆ _ _ e)))
  have hxb₁₉ : LinesAre [] h₁₉ xb.toList few := linesSt (linesSt (hxb.mono (fun _ q => q) fun _ _ _ e => up₁₇ _ _ e) F₁₇.ns K₁₈) F₁₈.ns K₁₉
  have hxa₁₉ : LinesAre [] h₁₉ xa.toList much := linesSt (linesSt (hxa₁₅.mono (fun _ q => q) fun _ _ _ e => up₁₇ _ _ (K₁₆ _ _ e)) F₁₇.ns K₁₈) F₁₈.ns K₁₉
  clear hlb hxb hla₁₅ hxa₁₅ hgl₁₅
  -- the parentheses
  refine wpAny_execs_cons ?_
  refine wpAny_If (wpAny_isTrue_BoolOp (wpAny_allTrue_Or_cons (wpAny_isTrue_Compare1 ?_)))
  refine Call_Name rfl (vG C F₁₉ hpa (callF (s := sh h₁₉ k₁₉ (gs b G₁₁)) 4 (CC F₁₉) (by decide) hpa (wpAny_items_cons (vN F₁₉ rfl (wpAny_items_nil ⟨fun _ _ e => e, ?_⟩)))))
  refine checkCall (CC F₁₉) r' hpa (by omega) (by omega) fun h₂₀ k₂₀ G₂₀ K₂₀ hG₂₀ => ?_
  have F₂₀ := F₁₉.keeps K₂₀
  refine vN F₂₀ rfl (wpAny_isNot_plain (by rfl) (wpAny_truthy_bool ?_))
  rw [ok.k1]
  refine ifF (by cases taken <;> rfl) (wpAny_allTrue_Or_cons (wpAny_isTrue_Compare1 ?_))
  refine Call_Name rfl (vG C F₂₀ hpa (callF (s := sh h₂₀ k₂₀ (gs b G₂₀)) 4 (CC F₂₀) (by decide) hpa (wpAny_items_cons (vN F₂₀ rfl (wpAny_items_nil ⟨fun _ _ e => e, ?_⟩)))))
  refine checkCall (CC F₂₀) r' hpa (by omega) (by omega) fun h₂₁ k₂₁ G₂₁ K₂₁ hG₂₁ => ?_
  have F₂₁ := F₂₀.keeps K₂₁
  refine vN F₂₁ rfl (wpAny_isNot_plain (by rfl) (wpAny_truthy_bool ?_))
  rw [ok.k2]
  refine ifF (by cases taken <;> rfl) (wpAny_allTrue_Or_nil (ifF rfl (wpAny_execs_nil ?_)))
  have hB : AllBare G → AllBare G₂₁ := fun q => hG₂₁ (hG₂₀ (hG₁₁ (hG₆ (hG₂ q))))
  have fin : ∀ h₂₂ k₂₂ G₂₂, Kp h₂₁ h₂₂ → (AllBare G₂₁ → AllBare G₂₂) → wpAny (model P w) (A.deeper (envOf (rc 26).name (rc 26).scope h.objs.size a cd)) (execs ((rc 26).body.drop 9) (envOf (rc 26).name (rc 26).scope h.objs.size a cd))
        (fun f s' => R (.ok (.ret (match f with | .ret v => v | _ => .none))) s') (fun _ _ => False) (sh h₂₂ k₂₂ (gs b G₂₂)) := by
    intro h₂₂ k₂₂ G₂₂ K₂₂ hG₂₂
    have k22 : Kp h₁₉ h₂₂ := fun b o e => K₂₂ _ _ (K₂₁ _ _ (K₂₀ _ _ e))
    have F₂₂ := F₂₁.keeps K₂₂
    refine wpAny_execs_cons ?_
    refine wpAny_Return_some ?_
    refine wpAny_Compare1 ?_
    refine compS (wpAny_BinOp (vN F₂₂ rfl (vN F₂₂ rfl ?_)))
    have hla₂₂ := hla₁₉.at fun o e => k22 _ _ e
    have hlb₂₂ := hlb₁₉.at fun o e => k22 _ _ e
    have za : xa.size = much.length := by have := hxa₁₉.length; simpa using this
    have zb : xb.size = few.length := by have := hxb₁₉.length; simpa using this
    have n1 := ok.n1
    have n2 := ok.n2
    refine lAdd hla₂₂ hlb₂₂ (by omega) fun D h₂₃ hD K₂₃ _ => ?_
    have F₂₃ := F₂₂.keeps K₂₃
    have hall : LinesAre [] h₂₃ (xa ++ xb).toList (much ++ few) := by
      rw [Array.toList_append]
      exact linesApp (hxa₁₉.mono (fun _ q => q) fun _ _ _ e => K₂₃ _ _ (k22 _ _ e)) (hxb₁₉.mono (fun _ q => q) fun _ _ _ e => K₂₃ _ _ (k22 _ _ e))
    refine listH (h₂ := h₂₃) (G := G₂₂) (b := b) (J := fun _ ys => ys = []) (fun I l hne items => Src.listT r'.handled I l hne items _ _ _) hD.isList (by rw [Array.size_append]; omega) rfl (fun i ys hJ => by rw [hJ]; exact Nat.zero_le _) (fun Cc i v ys h' k' G' m hi' hv hJ F' => ?_) fun D₂ ys h' k' G' hD20 hD₂ hJ hk' hG' => ?_
    · obtain ⟨y, Tt, c, us, tt, hy, rfl, hT, hc, hci⟩ := linesGet hall (show (xa ++ xb).toList[i]? = some v by rw [Array.getElem?_toList]; exact hv)
      have lok : LineOk y.1 y.2 := by
        rcases List.mem_append.mp (List.mem_of_getElem? hy) with q | q
        · exact ok.m1 _ q
        · exact ok.m2 _ q
      refine assign_Tuple_tuple (s := sh h' k' (gs b G')) r'.handled (IsTup.at' hT fun o e => F'.keep _ _ e) rfl rfl fun h₂₄ hx₂₄ => ?_
      replace hx₂₄ : Heap.ExtBut h'.objs.size h' h₂₄ := hx₂₄
      have up₂₄ : Kp h' h₂₄ := fun b o x => hx₂₄ b o (Nat.ne_of_lt (Heap.lt_size x)) x
      refine assignInOrder_cons (wpAny_assign_Name (sE (h := h₂₄) (k := k') (b := gs b G') (F'.keeps up₂₄) fun h₂₅ k₂₅ F₂₅ K₂₅ => assignInOrder_cons (wpAny_assign_Name (sE F₂₅ fun h₂₆ k₂₆ F₂₆ K₂₆ => assignInOrder_nil ?_))))
      have C₂₃ : Cx w mg h₂₃ := CC F₂₃
      have C₂₆ : Cx w mg h₂₆ := C₂₃.keeps F₂₆.keep
      refine oneTest (wpAny_isTrue_Not (wpAny_isTrue_value (Call_Name rfl (eG C₂₃ F₂₆ hoa (callF (s := sh h₂₆ k₂₆ (gs b G')) 25 C₂₆ (by decide) hoa (wpAny_items_cons (eN F₂₆ rfl (wpAny_items_cons (eN F₂₆ rfl (wpAny_items_nil ⟨fun _ _ e => e, ?_⟩))))))))))
      refine holdsCall C₂₆ r' hoa (by omega) lok.fl lok.nl (hc.at fun o e => F₂₆.keep _ _ e) hci lok.rng lok.un fun h₂₇ k₂₇ G₂₇ K₂₇ hG₂₇ => ?_
      rw [lok.holds]
      refine wpAny_truthy_bool ⟨h₂₇, k₂₇, G₂₇, _, rfl, fun b o hb e => K₂₇ _ _ (K₂₆ _ _ hb (K₂₅ _ _ hb (up₂₄ _ _ e))), F₂₆.keeps K₂₇, hG₂₇, ?_⟩
      exact ifF rfl hJ
    · obtain rfl := hJ
      refine dList (wpAny_items_nil ⟨by show 0 ≤ 3000; decide, h', k', rfl, ?_⟩)
      have kp : Kp h' (h'.push { cls := .type "list", data := .seq ([] : List Value).toArray }) := fun _ _ e => Heap.get?_push_of_some _ e
      refine eq_intsK (s := sh (h'.push { cls := .type "list", data := .seq ([] : List Value).toArray }) k' (gs b G')) (ns := []) (ms := []) ((hD₂.at fun o e => kp _ _ e).isList) .nil ⟨_, Heap.get?_push_size _ rfl, rfl, _, rfl⟩ .nil (by have := r'.units; unfold cLine; exact Nat.lt_of_le_of_lt (Nat.add_le_add_right this 64) (by omega)) ?_
      exact hR _ _ _ (fun b o e => kp _ _ (hk' _ _ (F₂₃.keep _ _ e))) fun q => hG' (hG₂₂ (hB q))
  refine wpAny_execs_cons ?_
  refine wpAny_If (wpAny_isTrue_Compare1 ?_)
  have e1 := ok.e1
  refine vN F₂₁ rfl (BoolOp_and (vN F₂₁ rfl (wpAny_truthy_bool ?_)))
  cases hta' : taken with
  | false =>
    rw [hta', Bool.false_and] at e1
    refine ifF rfl (wpAny_isNot_plain (by rfl) (wpAny_truthy_bool (ifF (by rw [e1]; rfl) (wpAny_execs_nil ?_))))
    exact fin _ _ _ (fun _ _ e => e) id
  | true =>
    rw [hta', Bool.true_and] at e1
    refine ifT rfl (BoolOp_one (wpAny_Compare1 (Call_Name rfl (vG C F₂₁ hqa (callF (s := sh h₂₁ k₂₁ (gs b G₂₁)) 9 (CC F₂₁) (by decide) hqa (wpAny_items_cons (Call_Name rfl (vG C F₂₁ hua (callF (s := sh h₂₁ k₂₁ (gs b G₂₁)) 24 (CC F₂₁) (by decide) hua (wpAny_items_cons (vN F₂₁ rfl (wpAny_items_nil ⟨fun _ _ e => e, ?_⟩))))))))))))
    refine unsentCall (CC F₂₁) r' hua (by omega) (by omega) fun h₂₂ k₂₂ t₂₂ G₂₂ K₂₂ hG₂₂ => wpAny_items_nil ⟨K₂₂, ?_⟩
    have F₂₂ := F₂₁.keeps K₂₂
    refine quote (s := sh h₂₂ k₂₂ (gs b G₂₂)) (CC F₂₂) r' hqa ok.ul fun h₂₃ k₂₃ t₂₃ K₂₃ => ?_
    have F₂₃ := F₂₂.keeps K₂₃
    refine vN F₂₃ rfl (sEq ?_)
    refine wpAny_isNot_plain (by rfl) (wpAny_truthy_bool (ifF (by rw [e1]; cases decide (quoted (unsent letter) = letter) <;> rfl) (wpAny_execs_nil ?_)))
    exact fin _ _ _ (fun b o e => K₂₃ _ _ (K₂₂ _ _ e)) hG₂₂
end
end Mine

end
section
open PySem PySem.W PyProof.Rows
set_option Elab.async false
set_option maxRecDepth 100000
namespace Mine
def lo : List Str := [Str.ofString "_twin_re_1", Str.ofString "_twin_re_2", Str.ofString "b1_set"]
def b1Arr : Array (Int × Value) := #[(65024, Value.int 65024 403), (65025, Value.int 65025 404), (65026, Value.int 65026 405),
        (65027, Value.int 65027 406), (65028, Value.int 65028 407), (65029, Value.int 65029 408),
        (6150, Value.int 6150 389), (65030, Value.int 65030 409), (65031, Value.int 65031 410),
        (65032, Value.int 65032 411), (65033, Value.int 65033 412), (6155, Value.int 6155 390),
        (6156, Value.int 6156 391), (6157, Value.int 6157 392), (8203, Value.int 8203 393), (8204, Value.int 8204 394),
        (8205, Value.int 8205 395), (65034, Value.int 65034 413), (65035, Value.int 65035 414),
        (65036, Value.int 65036 415), (65037, Value.int 65037 416), (65038, Value.int 65038 417),
        (65039, Value.int 65039 418), (173, Value.int 173 387), (847, Value.int 847 388), (8288, Value.int 8288 396),
        (65279, Value.int 65279 397)]
def b1Obj (P : Params) : Obj :=
  { cls := Value.type "set",
    data := Data.set b1Arr 29 { mask := 127, place := #[0, 1, 2, 3, 4, 5, 6, 7, 8, 9, 10, 11, 12, 13, 14, 15, 16, 17, 18, 19, 20, 21, 22, 45, 79, 96, 127], dummies := #[], finger := 0, led := !P.followText "set-order", moves := 2, plain := true } }
def re1Obj : Obj := { cls := .type "re.Pattern", data := .fields #[.str (Str.ofString "(?m)^\\.") 319, .int 40 332, .int 0 0, .none, .none, .ref 56, .int 0 0] }
def re2Obj : Obj := { cls := .type "re.Pattern", data := .fields #[.str (Str.ofString "(?:\\r\\n|\\n|\\r(?!\\n))") 335, .int 32 374, .int 0 0, .none, .none, .ref 61, .int 0 0] }
def tupOf (c : Array Nat) : Obj := { cls := .type "tuple", data := .seq (c.map fun (n : Nat) => Value.int (n : Int) 0) }
def Yf (s : Shared) : List (Option Obj) := [s.heap.get? 77, s.heap.get? 57, s.heap.get? 56, s.heap.get? 62, s.heap.get? 61]
def Ya (w : World) : List (Option Obj) := [some (b1Obj w.params), some re1Obj, some (tupOf code1), some re2Obj, some (tupOf code2)]
def Xt (s : Shared) : Bool := (s.heap.nsMap mainGlobals (Str.ofString "_twin_re_1") == some (.ref 57)) && (s.heap.nsMap mainGlobals (Str.ofString "_twin_re_2") == some (.ref 62)) && (s.heap.nsMap mainGlobals (Str.ofString "b1_set") == some (.ref 77)) && recOk [] s
theorem te_seen : @openSeen = @PySem.W.Fast.tw4187177175401517315 := PySem.W.Fast.te4187177175401517315
theorem te_imp : @importedModules = @PySem.W.Fast.tw5923862056798008813 := PySem.W.Fast.te5923862056798008813
theorem te_tree : @treeTable = @PySem.W.Fast.tw14364793385576792824 := PySem.W.Fast.te14364793385576792824
set_option maxHeartbeats 0 in
theorem leftA : ∀ w : World, (fun w => (openEnds treeTable P w 3444).map (fun s => (openSeen Q lo (importedModules P.main.body) Xt true s, Yf s)) = some (openGood Q lo, Ya w)) (w.withFollow "special-get-raises" false) := fun w => by
  show (openEnds treeTable P _ 3444).map (fun s => (openSeen Q lo (importedModules P.main.body) Xt true s, Yf s)) = some (openGood Q lo, Ya _)
  rw [te_seen, te_imp, te_tree]
  kernel_rfl
end Mine

end
section
open PySem PySem.W PyProof.Rows
set_option Elab.async false
set_option maxRecDepth 100000
namespace Mine
set_option maxHeartbeats 0 in
theorem leftB : ∀ w : World, (fun w => (openEnds treeTable P w 3444).map (fun s => (openSeen Q lo (importedModules P.main.body) Xt true s, Yf s)) = some (openGood Q lo, Ya w)) (w.withFollow "special-get-raises" true) := fun w => by
  show (openEnds treeTable P _ 3444).map (fun s => (openSeen Q lo (importedModules P.main.body) Xt true s, Yf s)) = some (openGood Q lo, Ya _)
  rw [te_seen, te_imp, te_tree]
  kernel_rfl
theorem left : LeftO P Q lo Xt Yf Ya 3444 := fun w => by
  have e := World.withFollow_self w "special-get-raises"
  cases hb : w.params.followText "special-get-raises" <;> rw [hb] at e
  · have := leftA w
    rw [e] at this
    exact this
  · have := leftB w
    rw [e] at this
    exact this
end Mine

end
section
open PySem PySem.W PySem.Calls PyProof.Rows
set_option Elab.async false
set_option maxRecDepth 100000
namespace Mine
def XP (mg : Str → Option Value) (_ : Heap) : Prop := mg "_twin_re_1" = some (.ref 57) ∧ mg "_twin_re_2" = some (.ref 62) ∧ mg "b1_set" = some (.ref 77)
def YP (w : World) (h : Heap) : Prop := h.get? 77 = some (b1Obj w.params) ∧ h.get? 57 = some re1Obj ∧ h.get? 56 = some (tupOf code1) ∧ h.get? 62 = some re2Obj ∧ h.get? 61 = some (tupOf code2)
theorem hY : ∀ w s, Yf s = Ya w → YP w s.heap := fun w s e => by
  simp only [Yf, Ya, List.cons.injEq, and_true] at e
  exact e
theorem hYk : ∀ w h h', YP w h → (∀ b o, h.get? b = some o → h'.get? b = some o) → YP w h' := fun w h h' y k => ⟨k _ _ y.1, k _ _ y.2.1, k _ _ y.2.2.1, k _ _ y.2.2.2.1, k _ _ y.2.2.2.2⟩
theorem hX : ∀ s, Xt s = true → XP (s.heap.nsMap mainGlobals) s.heap := fun s e => by
  simp only [Xt, Bool.and_eq_true, beq_iff_eq] at e
  exact ⟨e.1.1.1, e.1.1.2, e.1.2⟩
theorem hRf : ∀ s, Xt s = true → RecFacts [] s.heap := fun s e => recFacts_nil rfl
theorem isPat1 {h : Heap} (h1 : h.get? 57 = some re1Obj) (h2 : h.get? 56 = some (tupOf code1)) : IsPat h 57 code1 := ⟨_, 56, _, 0, h1, rfl, by decide +kernel, by decide +kernel, h2, by decide +kernel⟩
theorem isPat2 {h : Heap} (h1 : h.get? 62 = some re2Obj) (h2 : h.get? 61 = some (tupOf code2)) : IsPat h 62 code2 := ⟨_, 61, _, 0, h1, rfl, by decide +kernel, by decide +kernel, h2, by decide +kernel⟩
theorem b1Vals : b1Arr.toList.map (·.1) = [65024, 65025, 65026, 65027, 65028, 65029, 6150, 65030, 65031, 65032, 65033, 6155, 6156, 6157, 8203, 8204, 8205, 65034, 65035, 65036, 65037, 65038, 65039, 173, 847, 8288, 65279] := by decide +kernel
theorem b1Each : ∀ e ∈ b1Arr.toList, ∃ t, e.2 = Value.int e.1 t := by
  intro e he
  simp only [b1Arr] at he
  simp only [List.mem_cons, List.not_mem_nil, or_false] at he
  rcases he with rfl | rfl | rfl | rfl | rfl | rfl | rfl | rfl | rfl | rfl | rfl | rfl | rfl | rfl | rfl | rfl | rfl | rfl | rfl | rfl | rfl | rfl | rfl | rfl | rfl | rfl | rfl <;> exact ⟨_, rfl⟩
theorem b1Hash : ∀ e ∈ b1Arr.toList, e.1 = hashInt e.1 := by decide +kernel
theorem b1Has : ∀ k ∈ tabL, ∃ e ∈ b1Arr.toList, e.1 = k := by decide +kernel
theorem b1In : ∀ e ∈ b1Arr.toList, e.1 ∈ tabL := by decide +kernel
theorem setOf_b1 {w : World} {h : Heap} (y : h.get? 77 = some (b1Obj w.params)) : h.SetOf (intKind P w) 77 inTab 27 := by
  refine ⟨_, _, _, _, y, ⟨rfl, rfl, rfl⟩, rfl, fun e he => ?_, fun k => ?_, by decide, ?_, by decide⟩
  · obtain ⟨t, ht⟩ := b1Each e he
    rw [ht]
    exact ⟨⟨e.1, intKind_is _ _ _ _, b1Hash e he⟩, rfl⟩
  · have h1 : inTab k = true ↔ k ∈ tabL := by unfold inTab; rw [List.contains_iff_mem]
    rw [h1]
    constructor
    · intro hk
      obtain ⟨e, he, rfl⟩ := b1Has k hk
      obtain ⟨t, ht⟩ := b1Each e he
      exact ⟨e, he, by rw [ht]; exact intKind_is _ _ _ _⟩
    · rintro ⟨e, he, hk⟩
      obtain ⟨t, ht⟩ := b1Each e he
      rw [ht] at hk
      obtain ⟨u, hu⟩ := Value.isInt_shape (show Value.isInt k (.int e.1 t) = true from hk)
      obtain ⟨rfl, _⟩ := Value.int.inj hu
      exact b1In e he
  · rfl
theorem cx_of {w : World} {s₀ : Shared} {mg mb : Str → Option Value} {h : Heap} (G : Ground Q lo [] XP w s₀ mg mb h) (Y : YP w h) : Cx w mg h where
  g := G.T.g
  b := ⟨mb, G.T.b, G.T.builtins⟩
  nolimit := G.T.nolimit
  fn := fun i hi => G.T.fn (rc i) (by rw [recs_Q]; exact List.mem_map_of_mem hi)
  free := fun x hx => by
    have hd : ∀ y ∈ ([ "enumerate", "len", "ord", "chr", "sum", "list", "range"] : List Str), y ∉ startupNames ∧ y ∉ looseW Q lo ∧ y ∉ (recsOf Q).map (·.name) ∧ y ∉ (litsOf Q).map (·.1) ∧ y ∉ (clssOf Q (looseW Q lo)).map (·.name) := by decide +kernel
    obtain ⟨a, b, c, d, e⟩ := hd x hx
    exact G.T.free x a b c d e
  crlf := by
    obtain ⟨v, h1, h2⟩ := G.T.const "CRLF" (.str "\r\n") (by kernel_rfl)
    cases h2 h with
    | str => exact ⟨_, h1⟩
  eof := by
    obtain ⟨v, h1, h2⟩ := G.T.const "ENDMARKER" (.int 0) (by kernel_rfl)
    cases h2 h with
    | int => exact ⟨_, h1⟩
  nt := by
    obtain ⟨v, h1, h2⟩ := G.T.const "NT_OFFSET" (.int 256) (by kernel_rfl)
    cases h2 h with
    | int => exact ⟨_, h1⟩
  re1 := ⟨57, G.X.1, isPat1 Y.2.1 Y.2.2.1⟩
  re2 := ⟨62, G.X.2.1, isPat2 Y.2.2.2.1 Y.2.2.2.2⟩
  b1 := ⟨77, G.X.2.2, setOf_b1 Y.1⟩
end Mine

end
section
open PySem PySem.W PySem.Calls PyProof.Rows
set_option Elab.async false
set_option maxRecDepth 100000
namespace Mine
abbrev PlainLaw : Prop := ∀ xs : List Int, xs.length ≤ 63 → ∃ letter sent x cs taken early much few, LawOk xs letter sent x cs taken early much few
theorem readsInts {cl : Str → Option Addr} {h : Heap} : ∀ {vs : List Value} {ds : List WData} {as : List Addr}, ReadsAllW [] cl h vs ds as → ∀ xs : List Int, ds = xs.map WData.int → IntsAre vs xs
  | _, _, _, .nil, xs, e => by
    cases xs with
    | nil => exact .nil
    | cons _ _ => simp at e
  | _, _, _, .cons r1 r2, xs, e => by
    cases xs with
    | nil => simp at e
    | cons n ns =>
      rw [List.map_cons, List.cons.injEq] at e
      obtain ⟨e1, e2⟩ := e
      subst e1
      cases r1
      exact .cons _ _ (readsInts r2 ns e2)
theorem itemsInts {R : WRecords} : ∀ {ds : List WData}, WShape.hasItems R ds .int = true → ∃ xs : List Int, ds = xs.map WData.int
  | [], _ => ⟨[], rfl⟩
  | d :: r, h => by
    have h' : WShape.has R d .int = true ∧ WShape.hasItems R r .int = true := by simpa [WShape.hasItems] using h
    obtain ⟨i, rfl⟩ := hasW_int h'.1
    obtain ⟨xs, rfl⟩ := itemsInts h'.2
    exact ⟨i :: xs, rfl⟩
theorem argsOf {args : List WData} (h : (PySem.Challenge.rw_sh0014_01.row.toRowW).claim.pre args = true) : ∃ xs : List Int, args = [.list (xs.map WData.int)] ∧ xs.length ≤ 63 := by
  obtain ⟨h1, h2⟩ := pre_splitW h
  obtain ⟨d, r, rfl, h3, h4⟩ := hasAllW_cons (e := .list .int) (es := []) h1
  obtain rfl := hasAllW_nil h4
  obtain ⟨ds, rfl, h5⟩ := hasW_list h3
  obtain ⟨xs, rfl⟩ := itemsInts h5
  refine ⟨xs, rfl, ?_⟩
  rcases Nat.lt_or_ge 63 xs.length with q | q
  · exfalso
    have h2' : (WTm.and (.not (.lt (.lit (.int 63)) (.len (.arg 0)))) (.lit (.bool true))).holds [] { args := [.list (xs.map WData.int)] } = true := h2
    have e : (WTm.and (.not (.lt (.lit (.int 63)) (.len (.arg 0)))) (.lit (.bool true))).value [] { args := [.list (xs.map WData.int)] } = some (.bool false) := by
      have e2 : less? (WData.int 63) (WData.int (xs.length : Int)) = some true := by
        show some (decide ((63 : Int) < (xs.length : Int))) = some true
        rw [decide_eq_true (by omega)]
      simp [WTm.value, e2]
    unfold WTm.holds at h2'
    rw [e] at h2'
    cases h2'
  · exact q
theorem postTrue (args after : List WData) : (PySem.Challenge.rw_sh0014_01.row.toRowW).claim.post args (.bool true) after = true := by
  have e : (WTm.eq .res (.lit (.bool true))).value [] { args := args, res := some (.bool true), after := after } = some (.bool true) := by
    have e3 : same (WData.bool true) (WData.bool true) = true := by first | decide +kernel | simp [same]
    simp [WTm.value, e3]
  have e1 : WShape.has [] (.bool true) .bool = true := by simp [WShape.has, WShape.arms]
  show (WShape.has [] (.bool true) .bool && (WTm.eq .res (.lit (.bool true))).holds [] { args := args, res := some (.bool true), after := after }) = true
  rw [e1]
  unfold WTm.holds
  rw [e]
  rfl
set_option maxHeartbeats 8000000 in
theorem joined (left : LeftO P Q lo Xt Yf Ya 3444) (plain : PlainLaw) : PySem.Challenge.rw_sh0014_01.Holds := by
  o_law
  refine holds_open (q := Q) (loose := lo) (Xt := Xt) (XP := XP) (Yf := Yf) (Ya := Ya) (YP := YP) (N := 3444) left hY hYk hX (fun _ _ _ x _ => x) (by rfl) (by rfl) (by rfl) (fun s e => hRf s e) (by rfl) (by first | assumption | decide +kernel) (by decide +kernel) ⟨rfl, rfl, rfl, rfl, rfl, by decide +kernel⟩ ⟨[.list []], by decide +kernel, by decide +kernel⟩ ?hc
  intro w s₀ s₁ mg mb G Y a o pm cd doc dV kV ho hd hcd hdf ha hgens args vals as hpre hlay hrd hwell hlow
  obtain ⟨xs, rfl, hxs⟩ := argsOf hpre
  obtain ⟨letter, sent, x, cs, taken, early, much, few, ok⟩ := plain xs hxs
  have C : Cx w mg s₁.heap := cx_of G Y
  cases hrd with
  | cons r1 r2 =>
    cases r2
    cases r1 with
    | @list al ob vs0 n0 xs0 as0 g1 g2 g3 g4 =>
      have hi := readsInts g4 xs rfl
      have hL : s₁.heap.IsList al vs0 := ⟨ob, g1, g2, n0, g3⟩
      refine wpAny_call ?_
      have go : codeAny (model P w) callerA (.call (.ref a) ⟨[.ref al], []⟩) (fun r s' => match r with | .ok (.ret v) => GoodWG (PySem.Challenge.rw_sh0014_01.row.toRowW).claim (classAt s₀.heap) (ExcName.means s₀.heap) [.list (xs.map WData.int)] s₁ (.ok (.ret v)) s' | .ok _ => False | .error e => GoodWG (PySem.Challenge.rw_sh0014_01.row.toRowW).claim (classAt s₀.heap) (ExcName.means s₀.heap) [.list (xs.map WData.int)] s₁ (.error e) s') (sh s₁.heap s₁.toks (gs s₁ s₁.gens)) := by
        refine lawCall (d := 0) C Room.caller ha (by decide) hL hi (by omega) ok fun h' k' G' hk hG => ?_
        refine ⟨.inl ⟨.bool true, .bool true, [], rfl, fun _ => rfl, .bool true, postTrue _ _, fun _ => ⟨List.nodup_nil, fun _ q => by cases q⟩⟩, .of_keep hk, rfl, hG (.of_eq hgens)⟩
      exact go
end Mine

end
section
open PySem
set_option Elab.async false
set_option maxRecDepth 100000
namespace Mine
def un : Bool → T → T
  | _, [] => []
  | _, 13 :: 10 :: r => 13 :: 10 :: un true r
  | b, c :: r => if b = true ∧ c = 46 then un false r else c :: un false r
def can : Bool → T → Bool
  | _, [] => true
  | _, 13 :: 10 :: r => can true r
  | true, 46 :: 46 :: r => can false r
  | b, c :: r => if c = 13 ∨ c = 10 ∨ (b = true ∧ c = 46) then false else can false r
theorem un_cons (b : Bool) (c : Nat) (r : T) (h : ∀ r', ¬ (c = 13 ∧ r = 10 :: r')) : un b (c :: r) = if b = true ∧ c = 46 then un false r else c :: un false r := by
  rw [un]
  rintro r' rfl rfl
  exact h r' ⟨rfl, rfl⟩
def hdmap (b : Bool) : List T → List T
  | [] => []
  | h :: t => (if b = true then dotless h else h) :: t.map dotless
theorem hdmap_true (zs : List T) : hdmap true zs = zs.map dotless := by cases zs <;> simp [hdmap]
theorem glue_nil_cons (y : T) (zs : List T) (h : zs ≠ []) : glue y ([] :: zs) = y ++ glue y zs := by
  cases zs with
  | nil => exact absurd rfl h
  | cons a r => simp [glue]
theorem glue_cons_cons (y : T) (c : Nat) (z : T) (r : List T) : glue y ((c :: z) :: r) = c :: glue y (z :: r) := by
  cases r <;> simp [glue]
theorem un_spl : ∀ (f : Nat) (b : Bool) (t : T), t.length < f → glue [13, 10] (hdmap b (spl [13, 10] f t)) = un b t := by
  intro f
  induction f with
  | zero => intro b t h; omega
  | succ f ih =>
    intro b t h
    unfold spl
    split
    · rename_i hp
      obtain ⟨r, rfl⟩ : ∃ r, t = 13 :: 10 :: r := by
        rw [List.isPrefixOf_iff_prefix] at hp
        obtain ⟨r, hr⟩ := hp
        exact ⟨r, hr.symm⟩
      have e : hdmap b ([] :: spl [13, 10] f (List.drop ([13, 10] : T).length (13 :: 10 :: r))) = [] :: hdmap true (spl [13, 10] f r) := by
        rw [hdmap_true]
        show (if b = true then dotless [] else []) :: _ = _
        have : dotless [] = [] := rfl
        rw [this]; simp
      rw [e, glue_nil_cons _ _ (by rw [hdmap_true]; simp [spl_ne]), ih true r (by simp at h; omega)]
      simp [un]
    · rename_i hp
      cases t with
      | nil => cases b <;> rfl
      | cons c r =>
        show glue [13, 10] (hdmap b (hd c (spl [13, 10] f r))) = _
        have ihr := ih false r (by simp at h; omega)
        rw [un_cons b c r (by rintro r' ⟨rfl, rfl⟩; exact hp (by simp [List.isPrefixOf]))]
        cases hs : spl [13, 10] f r with
        | nil => exact absurd hs (spl_ne _ _ _)
        | cons z rest =>
          rw [hs] at ihr
          have ihr' : glue [13, 10] (z :: rest.map dotless) = un false r := ihr
          show glue [13, 10] ((if b = true then dotless (c :: z) else c :: z) :: rest.map dotless) = _
          by_cases hb : b = true ∧ c = 46
          · obtain ⟨rfl, rfl⟩ := hb
            have : dotless (46 :: z) = z := by simp [dotless]
            rw [if_pos rfl, if_pos ⟨rfl, rfl⟩, this, ihr']
          · rw [if_neg hb]
            have : (if b = true then dotless (c :: z) else c :: z) = c :: z := by
              cases b
              · rfl
              · have hc : c ≠ 46 := fun q => hb ⟨rfl, q⟩
                simp [dotless, hc]
            rw [this, glue_cons_cons, ihr']
theorem unsent_un (t : T) : unsent t = un true t := by
  unfold unsent
  rw [← hdmap_true]
  exact un_spl _ _ _ (Nat.lt_succ_self _)

theorem can_cons (b : Bool) (c : Nat) (r : T) (h1 : ∀ r', ¬ (c = 13 ∧ r = 10 :: r')) (h2 : ∀ r', ¬ (b = true ∧ c = 46 ∧ r = 46 :: r')) : can b (c :: r) = if c = 13 ∨ c = 10 ∨ (b = true ∧ c = 46) then false else can false r := by
  rw [can]
  · rintro r' rfl rfl; exact h1 r' ⟨rfl, rfl⟩
  · rintro r' rfl rfl rfl; exact h2 r' ⟨rfl, rfl, rfl⟩
theorem crlf_cons (c : Nat) (r : T) (h : ∀ r', ¬ (c = 13 ∧ r = 10 :: r')) : crlf (c :: r) = if c = 10 ∨ c = 13 then 13 :: 10 :: crlf r else c :: crlf r := by
  rw [crlf]
  rintro r' rfl rfl; exact h r' ⟨rfl, rfl⟩
theorem dots_nl (b : Bool) (x : T) : dots b (13 :: 10 :: x) = 13 :: 10 :: dots true x := by
  cases b <;> simp [dots]
/-- the three ways a text begins -/
theorem cut3 (c : Nat) (r : T) : (∃ r', c = 13 ∧ r = 10 :: r') ∨ (∀ r', ¬ (c = 13 ∧ r = 10 :: r')) := by
  by_cases h : ∃ r', c = 13 ∧ r = 10 :: r'
  · exact .inl h
  · exact .inr fun r' q => h ⟨r', q⟩
theorem can_back : ∀ (n : Nat) (b : Bool) (t : T), t.length ≤ n → can b t = true → dots b (crlf (un b t)) = t := by
  intro n
  induction n with
  | zero =>
    intro b t h _
    have : t = [] := List.length_eq_zero_iff.mp (by omega)
    subst this
    cases b <;> rfl
  | succ n ih =>
    intro b t h hc
    cases t with
    | nil => cases b <;> rfl
    | cons c r =>
      rcases cut3 c r with ⟨r', rfl, rfl⟩ | hno
      · have e : can b (13 :: 10 :: r') = can true r' := by simp [can]
        rw [e] at hc
        have e2 : un b (13 :: 10 :: r') = 13 :: 10 :: un true r' := by simp [un]
        rw [e2, show crlf (13 :: 10 :: un true r') = 13 :: 10 :: crlf (un true r') by simp [crlf], dots_nl, ih true r' (by simp at h; omega) hc]
      · rw [un_cons b c r hno]
        by_cases h2 : ∃ r', b = true ∧ c = 46 ∧ r = 46 :: r'
        · obtain ⟨r', rfl, rfl, rfl⟩ := h2
          have e : can true (46 :: 46 :: r') = can false r' := by simp [can]
          rw [e] at hc
          rw [if_pos ⟨rfl, rfl⟩, un_cons false 46 r' (by rintro r'' ⟨q, _⟩; cases q), if_neg (by simp), crlf_cons _ _ (by rintro r'' ⟨q, _⟩; cases q), if_neg (by decide)]
          have := ih false r' (by simp at h; omega) hc
          simp [dots, this]
        · rw [can_cons b c r hno (fun r' q => h2 ⟨r', q⟩)] at hc
          by_cases h3 : c = 13 ∨ c = 10 ∨ (b = true ∧ c = 46)
          · rw [if_pos h3] at hc; cases hc
          · rw [if_neg h3] at hc
            have c13 : c ≠ 13 := fun q => h3 (.inl q)
            have c10 : c ≠ 10 := fun q => h3 (.inr (.inl q))
            have cb : ¬ (b = true ∧ c = 46) := fun q => h3 (.inr (.inr q))
            rw [if_neg cb, crlf_cons _ _ (by rintro r'' ⟨q, _⟩; exact c13 q), if_neg (by omega)]
            have := ih false r (by simp at h; omega) hc
            rw [dots, if_neg cb, show (c == 10) = false by simpa using c10, this]
theorem can_quoted : ∀ (n : Nat) (b : Bool) (l : T), l.length ≤ n → can b (dots b (crlf l)) = true ∧ un b (dots b (crlf l)) = crlf l := by
  intro n
  induction n with
  | zero =>
    intro b l h
    have : l = [] := List.length_eq_zero_iff.mp (by omega)
    subst this
    cases b <;> exact ⟨rfl, rfl⟩
  | succ n ih =>
    intro b l h
    have nl : ∀ x : T, x.length ≤ n → can b (dots b (13 :: 10 :: crlf x)) = true ∧ un b (dots b (13 :: 10 :: crlf x)) = 13 :: 10 :: crlf x := fun x hx => by
      obtain ⟨a, c⟩ := ih true x hx
      rw [dots_nl]
      exact ⟨by simp [can, a], by simp [un, c]⟩
    cases l with
    | nil => cases b <;> exact ⟨rfl, rfl⟩
    | cons c r =>
      rcases cut3 c r with ⟨r', rfl, rfl⟩ | hno
      · rw [show crlf (13 :: 10 :: r') = 13 :: 10 :: crlf r' by simp [crlf]]
        exact nl r' (by simp at h; omega)
      · rw [crlf_cons c r hno]
        by_cases h1 : c = 10 ∨ c = 13
        · rw [if_pos h1]; exact nl r (by simpa using h)
        · rw [if_neg h1]
          have c13 : c ≠ 13 := fun q => h1 (.inr q)
          have c10 : c ≠ 10 := fun q => h1 (.inl q)
          obtain ⟨a1, a2⟩ := ih false r (by simpa using h)
          by_cases hb : b = true ∧ c = 46
          · obtain ⟨rfl, rfl⟩ := hb
            rw [show dots true (46 :: crlf r) = 46 :: 46 :: dots false (crlf r) by simp [dots]]
            refine ⟨by simp [can, a1], ?_⟩
            rw [un_cons true 46 _ (by rintro r'' ⟨q, _⟩; cases q), if_pos ⟨rfl, rfl⟩, un_cons false 46 _ (by rintro r'' ⟨q, _⟩; cases q), if_neg (by simp), a2]
          · rw [dots, if_neg hb, show (c == 10) = false by simpa using c10]
            refine ⟨?_, ?_⟩
            · rw [can_cons b c _ (by rintro r'' ⟨q, _⟩; exact c13 q) (by rintro r'' ⟨q1, q2, _⟩; exact hb ⟨q1, q2⟩), if_neg (by rintro (q | q | q); exact c13 q; exact c10 q; exact hb q), a1]
            · rw [un_cons b c _ (by rintro r'' ⟨q, _⟩; exact c13 q), if_neg hb, a2]
theorem can_iff (t : T) : quoted (unsent t) = t ↔ can true t = true := by
  rw [unsent_un]
  constructor
  · intro h
    rw [← h]
    exact (can_quoted _ true (un true t) (Nat.le_refl _)).1
  · exact can_back _ true t (Nat.le_refl _)
theorem can_sent (l : T) : can true (quoted l) = true := (can_quoted _ true l (Nat.le_refl _)).1
theorem unsent_sent (l : T) : unsent (quoted l) = crlf l := by rw [unsent_un]; exact (can_quoted _ true l (Nat.le_refl _)).2
end Mine

end
section
open PySem
set_option Elab.async false
set_option maxRecDepth 100000
namespace Mine
theorem spl_fuel (y : T) (hy : 1 ≤ y.length) : ∀ (f f' : Nat) (t : T), t.length < f → t.length < f' → spl y f t = spl y f' t := by
  intro f
  induction f with
  | zero => intro f' t h; omega
  | succ f ih =>
    intro f' t h h'
    cases f' with
    | zero => omega
    | succ f' =>
      unfold spl
      split
      · rename_i hp
        rw [List.isPrefixOf_iff_prefix] at hp
        have hl := hp.length_le
        rw [ih f' (t.drop y.length) (by rw [List.length_drop]; omega) (by rw [List.length_drop]; omega)]
      · cases t with
        | nil => rfl
        | cons c r =>
          show hd c (spl y f r) = hd c (spl y f' r)
          rw [ih f' r (by simp at h; omega) (by simp at h'; omega)]
theorem rep_nil (y z : T) (hy : 1 ≤ y.length) : rep y z [] = [] := by
  unfold rep spl
  rw [if_neg (by cases y with | nil => simp at hy | cons a b => simp [List.isPrefixOf])]
  rfl
theorem rep_pre (y z r : T) (hy : 1 ≤ y.length) : rep y z (y ++ r) = z ++ rep y z r := by
  have e : spl y ((y ++ r).length + 1) (y ++ r) = [] :: spl y (y ++ r).length r := by
    have hp : y.isPrefixOf (y ++ r) = true := by rw [List.isPrefixOf_iff_prefix]; exact ⟨r, rfl⟩
    conv => lhs; unfold spl
    rw [if_pos hp]
    simp
  have hf : r.length < (y ++ r).length := by rw [List.length_append]; omega
  unfold rep
  rw [e, glue_nil_cons _ _ (spl_ne _ _ _), spl_fuel y hy (y ++ r).length (r.length + 1) r hf (Nat.lt_succ_self _)]
theorem rep_cons (y z : T) (c : Nat) (r : T) (hy : 1 ≤ y.length) (hp : ¬ y.isPrefixOf (c :: r) = true) : rep y z (c :: r) = c :: rep y z r := by
  have e : spl y ((c :: r).length + 1) (c :: r) = hd c (spl y (r.length + 1) r) := by
    conv => lhs; unfold spl
    rw [if_neg hp]
    rfl
  unfold rep
  rw [e]
  cases hs : spl y (r.length + 1) r with
  | nil => exact absurd hs (spl_ne _ _ _)
  | cons a b => exact glue_cons_cons _ _ _ _
theorem rep_chain : ∀ (n : Nat) (l : T), l.length ≤ n → rep [10] [13, 10] (rep [13] [10] (rep [13, 10] [10] l)) = crlf l := by
  intro n
  induction n with
  | zero =>
    intro l h
    have : l = [] := List.length_eq_zero_iff.mp (by omega)
    subst this
    rw [rep_nil _ _ (by decide), rep_nil _ _ (by decide), rep_nil _ _ (by decide)]; rfl
  | succ n ih =>
    intro l h
    have h10 : ∀ x : T, rep [10] [13, 10] (10 :: x) = 13 :: 10 :: rep [10] [13, 10] x := fun x => rep_pre [10] [13, 10] x (by decide)
    have h13 : ∀ x : T, rep [13] [10] (13 :: x) = 10 :: rep [13] [10] x := fun x => rep_pre [13] [10] x (by decide)
    cases l with
    | nil => rw [rep_nil _ _ (by decide), rep_nil _ _ (by decide), rep_nil _ _ (by decide)]; rfl
    | cons c r =>
      rcases cut3 c r with ⟨r', rfl, rfl⟩ | hno
      · have e : rep [13, 10] [10] (13 :: 10 :: r') = 10 :: rep [13, 10] [10] r' := rep_pre [13, 10] [10] r' (by decide)
        rw [e, rep_cons [13] [10] 10 _ (by decide) (by simp [List.isPrefixOf]), h10, ih r' (by simp at h; omega)]
        simp [crlf]
      · rw [rep_cons [13, 10] [10] c r (by decide) (by
          intro hp
          rw [List.isPrefixOf_iff_prefix] at hp
          obtain ⟨q, hq⟩ := hp
          simp at hq
          exact hno q ⟨hq.1.symm, hq.2.symm⟩), crlf_cons c r hno]
        have ihr := ih r (by simpa using h)
        by_cases c13 : c = 13
        · subst c13
          rw [h13, h10, ihr, if_pos (.inr rfl)]
        · rw [rep_cons [13] [10] c _ (by decide) (by simp [List.isPrefixOf]; omega)]
          by_cases c10 : c = 10
          · subst c10
            rw [h10, ihr, if_pos (.inl rfl)]
          · rw [rep_cons [10] [13, 10] c _ (by decide) (by simp [List.isPrefixOf]; omega), ihr, if_neg (by omega)]
theorem rep_len (y z : T) (hy : 1 ≤ y.length) (hz : z.length ≤ 2) : ∀ (n : Nat) (t : T), t.length ≤ n → (rep y z t).length ≤ 2 * t.length := by
  intro n
  induction n with
  | zero =>
    intro t h
    have : t = [] := List.length_eq_zero_iff.mp (by omega)
    subst this
    rw [rep_nil _ _ hy]; exact Nat.le_refl _
  | succ n ih =>
    intro t h
    cases t with
    | nil => rw [rep_nil _ _ hy]; exact Nat.le_refl _
    | cons c r =>
      by_cases hp : y.isPrefixOf (c :: r) = true
      · rw [List.isPrefixOf_iff_prefix] at hp
        obtain ⟨q, hq⟩ := hp
        rw [← hq, rep_pre y z q hy]
        have hl := congrArg List.length hq
        rw [List.length_append, List.length_cons] at hl
        have := ih q (by rw [List.length_cons] at h; omega)
        rw [List.length_append, List.length_append]; omega
      · rw [rep_cons y z c r hy hp]
        have := ih r (by simpa using h)
        simp; omega
theorem unsent_law (l : T) : unsent (quoted l) = rep [10] [13, 10] (rep [13] [10] (rep [13, 10] [10] l)) := by rw [unsent_sent, rep_chain _ l (Nat.le_refl _)]
end Mine

end
section
open PySem
set_option Elab.async false
set_option maxRecDepth 100000
namespace Mine
/-- what lies behind the quote's close -/
def closeQ : T → Option T
  | [] => none
  | 92 :: _ :: r => closeQ r
  | c :: r => if c = 34 then some r else closeQ r
theorem closeQ_cons (c : Nat) (r : T) (h : c ≠ 92 ∨ r = []) : closeQ (c :: r) = if c = 34 then some r else closeQ r := by
  rw [closeQ]
  rintro a r' rfl rfl
  rcases h with h | h
  · exact h rfl
  · cases h
theorem closeQ_lt : ∀ (n : Nat) (r r' : T), r.length ≤ n → closeQ r = some r' → r'.length < r.length := by
  intro n
  induction n with
  | zero =>
    intro r r' h e
    have : r = [] := List.length_eq_zero_iff.mp (by omega)
    subst this
    cases e
  | succ n ih =>
    intro r r' h e
    cases r with
    | nil => cases e
    | cons c r =>
      by_cases h92 : c ≠ 92 ∨ r = []
      · rw [closeQ_cons c r h92] at e
        split at e
        · obtain rfl := Option.some.inj e; exact Nat.lt_succ_self _
        · have := ih r r' (by simpa using h) e
          simp; omega
      · obtain ⟨rfl, hr⟩ : c = 92 ∧ r ≠ [] := ⟨by false_or_by_contra; rename_i q; exact h92 (.inl q), fun q => h92 (.inr q)⟩
        cases r with
        | nil => exact absurd rfl hr
        | cons a r =>
          have e' : closeQ r = some r' := e
          have := ih r r' (by simp at h; omega) e'
          simp; omega
def stripF : Nat → T → T
  | 0, t => t
  | _ + 1, [] => []
  | f + 1, 92 :: c :: r => 92 :: c :: stripF f r
  | f + 1, c :: r => if c = 34 then (match closeQ r with | some r' => stripF f r' | none => 34 :: r) else c :: stripF f r
theorem stripF_cons (f c : Nat) (r : T) (h : c ≠ 92 ∨ r = []) : stripF (f + 1) (c :: r) = if c = 34 then (match closeQ r with | some r' => stripF f r' | none => 34 :: r) else c :: stripF f r := by
  rw [stripF]
  rintro a r' rfl rfl
  rcases h with h | h
  · exact h rfl
  · cases h
/-- one sign, an escape, or nothing -/
theorem cut92 (t : T) : t = [] ∨ (∃ c r, t = 92 :: c :: r) ∨ (∃ c r, t = c :: r ∧ (c ≠ 92 ∨ r = [])) := by
  cases t with
  | nil => exact .inl rfl
  | cons c r =>
    by_cases h : c = 92
    · subst h
      cases r with
      | nil => exact .inr (.inr ⟨_, _, rfl, .inr rfl⟩)
      | cons a r => exact .inr (.inl ⟨_, _, rfl⟩)
    · exact .inr (.inr ⟨_, _, rfl, .inl h⟩)
theorem stripF_fuel : ∀ (n f f' : Nat) (t : T), t.length ≤ n → t.length ≤ f → t.length ≤ f' → stripF f t = stripF f' t := by
  intro n
  induction n with
  | zero =>
    intro f f' t h _ _
    have : t = [] := List.length_eq_zero_iff.mp (by omega)
    subst this
    cases f <;> cases f' <;> rfl
  | succ n ih =>
    intro f f' t h h1 h2
    cases f with
    | zero => have : t = [] := List.length_eq_zero_iff.mp (by omega)
              subst this; cases f' <;> rfl
    | succ f =>
      cases f' with
      | zero => have : t = [] := List.length_eq_zero_iff.mp (by omega)
                subst this; rfl
      | succ f' =>
        rcases cut92 t with rfl | ⟨c, r, rfl⟩ | ⟨c, r, rfl, hc⟩
        · rfl
        · show 92 :: c :: stripF f r = 92 :: c :: stripF f' r
          simp at h h1 h2
          rw [ih f f' r (by omega) (by omega) (by omega)]
        · simp at h h1 h2
          rw [stripF_cons f c r hc, stripF_cons f' c r hc, ih f f' r (by omega) (by omega) (by omega)]
          cases hq : closeQ r with
          | none => rfl
          | some r' =>
            have := closeQ_lt _ r r' (Nat.le_refl _) hq
            simp only
            rw [ih f f' r' (by omega) (by omega) (by omega)]
def stripL (t : T) : T := stripF t.length t
theorem stripL_nil : stripL [] = [] := rfl
theorem stripL_esc (c : Nat) (r : T) : stripL (92 :: c :: r) = 92 :: c :: stripL r := by
  show 92 :: c :: stripF (r.length + 1) r = _
  rw [stripF_fuel _ (r.length + 1) r.length r (Nat.le_refl _) (by omega) (Nat.le_refl _)]; rfl
theorem stripL_cons (c : Nat) (r : T) (h : c ≠ 92 ∨ r = []) : stripL (c :: r) = if c = 34 then (match closeQ r with | some r' => stripL r' | none => 34 :: r) else c :: stripL r := by
  show stripF (r.length + 1) (c :: r) = _
  rw [stripF_cons _ c r h]
  cases hq : closeQ r with
  | none => rfl
  | some r' =>
    have := closeQ_lt _ r r' (Nat.le_refl _) hq
    simp only
    rw [stripF_fuel _ r.length r'.length r' (Nat.le_refl _) (by omega) (Nat.le_refl _)]
    rfl
theorem closeQ_no : ∀ (n : Nat) (r : T), r.length ≤ n → 34 ∉ r → stripL r = r := by
  intro n
  induction n with
  | zero =>
    intro r h _
    have : r = [] := List.length_eq_zero_iff.mp (by omega)
    subst this; rfl
  | succ n ih =>
    intro r h hn
    rcases cut92 r with rfl | ⟨c, q, rfl⟩ | ⟨c, q, rfl, hc⟩
    · rfl
    · rw [stripL_esc, ih q (by simp at h; omega) (fun z => hn (by simp [z]))]
    · have c34 : c ≠ 34 := fun z => hn (by simp [z])
      rw [stripL_cons c q hc, if_neg c34, ih q (by simpa using h) (fun z => hn (by simp [z]))]
end Mine

end
section
open PySem
set_option Elab.async false
set_option maxRecDepth 100000
namespace Mine
/-- the signs and escapes, places struck -/
def chunks : T → List T
  | [] => []
  | 92 :: c :: r => [92, c] :: chunks r
  | c :: r => [c] :: chunks r
theorem chunks_cons (c : Nat) (r : T) (h : c ≠ 92 ∨ r = []) : chunks (c :: r) = [c] :: chunks r := by
  rw [chunks]
  rintro a r' rfl rfl
  rcases h with h | h
  · exact h rfl
  · cases h
theorem escs_esc (p c : Nat) (r : T) : escs p false (92 :: c :: r) = (p + 1, [92, c]) :: escs (p + 2) false r := by simp [escs]
theorem escs_cons (p c : Nat) (r : T) (h : c ≠ 92 ∨ r = []) : escs p false (c :: r) = (p, [c]) :: escs (p + 1) false r := by
  by_cases hc : c = 92
  · obtain rfl : r = [] := h.resolve_left (fun q => q hc)
    subst hc
    simp [escs]
  · simp [escs, hc]
theorem escs_chunks : ∀ (n : Nat) (r : T) (p : Nat), r.length ≤ n → (escs p false r).map (·.2) = chunks r := by
  intro n
  induction n with
  | zero =>
    intro r p h
    have : r = [] := List.length_eq_zero_iff.mp (by omega)
    subst this; rfl
  | succ n ih =>
    intro r p h
    rcases cut92 r with rfl | ⟨c, q, rfl⟩ | ⟨c, q, rfl, hc⟩
    · rfl
    · rw [escs_esc, List.map_cons, ih q _ (by simp at h; omega)]; rfl
    · rw [escs_cons p c q hc, List.map_cons, ih q _ (by simpa using h), chunks_cons c q hc]
/-- what the fold leaves -/
def finF (text : T) (s : Nat × Option Nat × List T) : T := s.2.2.flatten ++ text.drop s.1
theorem step_no (text : T) (s : Nat × Option Nat × List T) (p : Nat) (x : T) (h : x ≠ [34]) : stripStep text s (p, x) = s := by unfold stripStep; rw [if_neg h]
theorem take_next (text : T) (st p : Nat) (c : Nat) (r : T) (hst : st ≤ p) (h : text.drop p = c :: r) : (text.drop st).take (p + 1 - st) = (text.drop st).take (p - st) ++ [c] := by
  rw [show p + 1 - st = (p - st) + 1 by omega, List.take_add_one]
  congr 1
  rw [List.getElem?_drop, show st + (p - st) = p by omega]
  have := congrArg (·[0]?) h
  simp at this
  rw [this]; rfl
theorem drop_next {text : T} {p c : Nat} {r : T} (h : text.drop p = c :: r) : text.drop (p + 1) = r := by rw [← List.drop_drop, h]; rfl
theorem fold_strip (text : T) : ∀ (n : Nat) (r : T) (p st : Nat) (res : List T), r.length ≤ n → text.drop p = r →
    (st ≤ p → finF text ((escs p false r).foldl (stripStep text) (st, none, res)) = res.flatten ++ ((text.drop st).take (p - st) ++ stripL r)) ∧
    (∀ o, st ≤ o → o < p → finF text ((escs p false r).foldl (stripStep text) (st, some o, res)) = res.flatten ++ (match closeQ r with | some r' => (text.drop st).take (o - st) ++ stripL r' | none => text.drop st)) := by
  intro n
  induction n with
  | zero =>
    intro r p st res h hd
    have : r = [] := List.length_eq_zero_iff.mp (by omega)
    subst this
    refine ⟨fun hst => ?_, fun o _ _ => rfl⟩
    show res.flatten ++ text.drop st = _
    rw [stripL_nil, List.append_nil, List.take_of_length_le]
    rw [List.length_drop]
    have := congrArg List.length hd
    simp at this; omega
  | succ n ih =>
    intro r p st res h hd
    rcases cut92 r with rfl | ⟨c, q, rfl⟩ | ⟨c, q, rfl, hc⟩
    · refine ⟨fun hst => ?_, fun o _ _ => rfl⟩
      show res.flatten ++ text.drop st = _
      rw [stripL_nil, List.append_nil, List.take_of_length_le]
      rw [List.length_drop]
      have := congrArg List.length hd
      simp at this; omega
    · have hd1 := drop_next hd
      have hd2 := drop_next hd1
      rw [escs_esc]
      simp only [List.foldl_cons]
      refine ⟨fun hst => ?_, fun o ho hp => ?_⟩
      · rw [step_no _ _ _ _ (by simp), (ih q (p + 2) st res (by simp at h; omega) hd2).1 (by omega), stripL_esc]
        rw [show p + 2 - st = p + 1 + 1 - st by omega, take_next text st (p + 1) c q (by omega) hd1, take_next text st p 92 _ hst hd]
        simp
      · rw [step_no _ _ _ _ (by simp), (ih q (p + 2) st res (by simp at h; omega) hd2).2 o ho (by omega)]
        rfl
    · have hd1 := drop_next hd
      rw [escs_cons p c q hc]
      simp only [List.foldl_cons]
      by_cases c34 : c = 34
      · subst c34
        refine ⟨fun hst => ?_, fun o ho hp => ?_⟩
        · have e : stripStep text (st, none, res) (p, [34]) = (st, some p, res) := by simp [stripStep]
          rw [e, (ih q (p + 1) st res (by simpa using h) hd1).2 p hst (Nat.lt_succ_self _), stripL_cons 34 q hc, if_pos rfl]
          cases closeQ q with
          | some r' => rfl
          | none =>
            show _ ++ text.drop st = _ ++ (_ ++ 34 :: q)
            rw [← hd]
            congr 1
            have := List.take_append_drop (p - st) (text.drop st)
            rw [List.drop_drop, show st + (p - st) = p by omega] at this
            exact this.symm
        · have e : stripStep text (st, some o, res) (p, [34]) = (p + 1, none, if st ≠ o then res ++ [(text.drop st).take (o - st)] else res) := by simp [stripStep]
          rw [e, (ih q (p + 1) (p + 1) _ (by simpa using h) hd1).1 (Nat.le_refl _), closeQ_cons 34 q hc, if_pos rfl, Nat.sub_self]
          by_cases hso : st = o
          · subst hso; simp
          · simp [hso]
      · refine ⟨fun hst => ?_, fun o ho hp => ?_⟩
        · rw [step_no _ _ _ _ (by simpa using c34), (ih q (p + 1) st res (by simpa using h) hd1).1 (by omega), stripL_cons c q hc, if_neg c34, take_next text st p c q hst hd]
          simp
        · rw [step_no _ _ _ _ (by simpa using c34), (ih q (p + 1) st res (by simpa using h) hd1).2 o ho (by omega), closeQ_cons c q hc, if_neg c34]
theorem strip_stripL (text : T) : strip text = stripL text := by
  unfold strip
  by_cases h : 34 ∈ text
  · rw [if_pos h]
    have := (fold_strip text _ text 0 0 [] (Nat.le_refl _) rfl).1 (Nat.le_refl _)
    simp at this
    rw [← this]
    show glue [] _ = finF text _
    generalize (escs 0 false text).foldl (stripStep text) (0, none, []) = s
    rw [glue_nil]
    unfold finF
    split
    · simp
    · rename_i q
      rw [List.drop_eq_nil_of_le (by omega)]; simp
  · rw [if_neg h, closeQ_no _ text (Nat.le_refl _) h]
def chk (o : Int) (t : T) : Bool := par o (chunks (stripL t))
theorem check_chk (t : T) : check t = chk 0 t := by
  unfold check chk
  rw [strip_stripL, escs_chunks _ _ _ (Nat.le_refl _)]
theorem chk_nil (o : Int) : chk o [] = (o == 0) := rfl
theorem chk_esc (o : Int) (c : Nat) (r : T) : chk o (92 :: c :: r) = chk o r := by
  unfold chk
  rw [stripL_esc]
  show par o ([92, c] :: chunks (stripL r)) = _
  rw [par, if_neg (by simp), if_neg (by simp)]
end Mine

end
section
open PySem
set_option Elab.async false
set_option maxRecDepth 100000
namespace Mine
theorem closeQ_none : ∀ (n : Nat) (r : T), r.length ≤ n → closeQ r = none → stripL r = r := by
  intro n
  induction n with
  | zero =>
    intro r h _
    have : r = [] := List.length_eq_zero_iff.mp (by omega)
    subst this; rfl
  | succ n ih =>
    intro r h hn
    rcases cut92 r with rfl | ⟨c, q, rfl⟩ | ⟨c, q, rfl, hc⟩
    · rfl
    · rw [stripL_esc, ih q (by simp at h; omega) hn]
    · rw [closeQ_cons c q hc] at hn
      by_cases c34 : c = 34
      · rw [if_pos c34] at hn; cases hn
      · rw [if_neg c34] at hn
        rw [stripL_cons c q hc, if_neg c34, ih q (by simpa using h) hn]
theorem chk_cons (o : Int) (c : Nat) (r : T) (hc : c ≠ 92 ∨ r = []) (c34 : c ≠ 34) :
    chk o (c :: r) = if c = 40 then chk (o + 1) r else if c = 41 then (if o - 1 < 0 then false else chk (o - 1) r) else chk o r := by
  unfold chk
  have hc' : c ≠ 92 ∨ stripL r = [] := hc.imp id fun q => by rw [q]; rfl
  rw [stripL_cons c r hc, if_neg c34, chunks_cons c _ hc', par]
  simp
theorem chk_quote (o : Int) (r : T) : chk o (34 :: r) = match closeQ r with | some r' => chk o r' | none => chk o r := by
  unfold chk
  rw [stripL_cons 34 r (.inl (by decide)), if_pos rfl]
  cases hq : closeQ r with
  | some r' => rfl
  | none =>
    show par o (chunks (34 :: r)) = par o (chunks (stripL r))
    rw [closeQ_none _ r (Nat.le_refl _) hq, chunks_cons 34 r (.inl (by decide)), par, if_neg (by simp), if_neg (by simp)]
/-- the text as it is sent, from a place on -/
abbrev D (b : Bool) (l : T) : T := dots b (crlf l)
theorem D_nl (b : Bool) (r : T) : D b (13 :: 10 :: r) = 13 :: 10 :: D true r := by
  show dots b (crlf (13 :: 10 :: r)) = _
  rw [show crlf (13 :: 10 :: r) = 13 :: 10 :: crlf r by simp [crlf], dots_nl]
theorem D_ret (b : Bool) (c : Nat) (r : T) (h : c = 10 ∨ c = 13) (hno : ∀ r', ¬ (c = 13 ∧ r = 10 :: r')) : D b (c :: r) = 13 :: 10 :: D true r := by
  show dots b (crlf (c :: r)) = _
  rw [crlf_cons c r hno, if_pos h, dots_nl]
theorem D_dot (r : T) : D true (46 :: r) = 46 :: 46 :: D false r := by
  show dots true (crlf (46 :: r)) = _
  rw [crlf_cons 46 r (by rintro r' ⟨q, _⟩; cases q), if_neg (by decide)]
  simp [dots]
theorem D_cons (b : Bool) (c : Nat) (r : T) (h : ¬ (c = 10 ∨ c = 13)) (hb : ¬ (b = true ∧ c = 46)) : D b (c :: r) = c :: D false r := by
  show dots b (crlf (c :: r)) = _
  rw [crlf_cons c r (by rintro r' ⟨q, _⟩; exact h (.inr q)), if_neg h, dots, if_neg hb, show (c == 10) = false by simpa using fun q => h (.inl q)]
/-- the ways a text begins, for the induction over what is sent -/
inductive Beg : Bool → T → Prop
  | nil {b} : Beg b []
  | nl {b r} : Beg b (13 :: 10 :: r)
  | ret {b c r} (h : c = 10 ∨ c = 13) (hno : ∀ r', ¬ (c = 13 ∧ r = 10 :: r')) : Beg b (c :: r)
  | dot {r} : Beg true (46 :: r)
  | esc {b c r} (h : ¬ (c = 10 ∨ c = 13)) : Beg b (92 :: c :: r)
  | escnl {b r} : Beg b (92 :: 13 :: 10 :: r)
  | escret {b c r} (h : c = 10 ∨ c = 13) (hno : ∀ r', ¬ (c = 13 ∧ r = 10 :: r')) : Beg b (92 :: c :: r)
  | last {b} : Beg b [92]
  | sign {b c r} (h92 : c ≠ 92) (h : ¬ (c = 10 ∨ c = 13)) (hb : ¬ (b = true ∧ c = 46)) : Beg b (c :: r)
theorem beg (b : Bool) (l : T) : Beg b l := by
  cases l with
  | nil => exact .nil
  | cons c r =>
    rcases cut3 c r with ⟨r', rfl, rfl⟩ | hno
    · exact .nl
    · by_cases h : c = 10 ∨ c = 13
      · exact .ret h hno
      · by_cases h92 : c = 92
        · subst h92
          cases r with
          | nil => exact .last
          | cons a q =>
            rcases cut3 a q with ⟨r', rfl, rfl⟩ | hno'
            · exact .escnl
            · by_cases h' : a = 10 ∨ a = 13
              · exact .escret h' hno'
              · exact .esc h'
        · by_cases hb : b = true ∧ c = 46
          · obtain ⟨rfl, rfl⟩ := hb; exact .dot
          · exact .sign h92 h hb
theorem D_esc (b : Bool) (x : T) : D b (92 :: x) = 92 :: D false x := D_cons b 92 x (by decide) (by rintro ⟨_, q⟩; cases q)
theorem closeQ_D : ∀ (n : Nat) (b : Bool) (l : T), l.length ≤ n → closeQ (D b l) = (closeQ l).map (D false) := by
  intro n
  induction n with
  | zero =>
    intro b l h
    have : l = [] := List.length_eq_zero_iff.mp (by omega)
    subst this; cases b <;> rfl
  | succ n ih =>
    intro b l h
    have skip : ∀ (c : Nat) (x : T), c ≠ 92 → c ≠ 34 → closeQ (c :: x) = closeQ x := fun c x h1 h2 => by rw [closeQ_cons c x (.inl h1), if_neg h2]
    have nl : ∀ x : T, closeQ (13 :: 10 :: x) = closeQ x := fun x => by rw [skip 13 _ (by decide) (by decide), skip 10 _ (by decide) (by decide)]
    cases beg b l with
    | nil => cases b <;> rfl
    | nl => rw [D_nl, nl, nl, ih true _ (by simp at h; omega)]
    | @ret _ c r hc hno =>
      rw [D_ret b c r hc hno, nl, skip c r (by omega) (by omega), ih true r (by simpa using h)]
    | dot => rw [D_dot, skip 46 _ (by decide) (by decide), skip 46 _ (by decide) (by decide), skip 46 _ (by decide) (by decide), ih false _ (by simpa using h)]
    | @esc _ c r hc =>
      rw [D_esc, D_cons false c r hc (by rintro ⟨q, _⟩; cases q)]
      show closeQ (D false r) = (closeQ r).map _
      exact ih false r (by simp at h; omega)
    | @escnl _ r =>
      rw [D_esc, D_nl]
      show closeQ (10 :: D true r) = (closeQ (10 :: r)).map _
      rw [skip 10 _ (by decide) (by decide), skip 10 _ (by decide) (by decide), ih true r (by simp at h; omega)]
    | @escret _ c r hc hno =>
      rw [D_esc, D_ret false c r hc hno]
      show closeQ (10 :: D true r) = (closeQ r).map _
      rw [skip 10 _ (by decide) (by decide), ih true r (by simp at h; omega)]
    | last => rw [D_esc]; rfl
    | @sign _ c r h92 hc hb =>
      rw [D_cons b c r hc hb, closeQ_cons c _ (.inl h92), closeQ_cons c r (.inl h92)]
      by_cases c34 : c = 34
      · rw [if_pos c34, if_pos c34]; rfl
      · rw [if_neg c34, if_neg c34, ih false r (by simpa using h)]

theorem chk_D : ∀ (n : Nat) (b : Bool) (l : T) (o : Int), l.length ≤ n → chk o (D b l) = chk o l := by
  intro n
  induction n with
  | zero =>
    intro b l o h
    have : l = [] := List.length_eq_zero_iff.mp (by omega)
    subst this; cases b <;> rfl
  | succ n ih =>
    intro b l o h
    have skip : ∀ (c : Nat) (x : T), c ≠ 92 → c ≠ 34 → c ≠ 40 → c ≠ 41 → chk o (c :: x) = chk o x := fun c x h1 h2 h3 h4 => by rw [chk_cons o c x (.inl h1) h2, if_neg h3, if_neg h4]
    have nl : ∀ x : T, chk o (13 :: 10 :: x) = chk o x := fun x => by rw [skip 13 _ (by decide) (by decide) (by decide) (by decide), skip 10 _ (by decide) (by decide) (by decide) (by decide)]
    have s46 : ∀ x : T, chk o (46 :: x) = chk o x := fun x => skip 46 x (by decide) (by decide) (by decide) (by decide)
    have s10 : ∀ x : T, chk o (10 :: x) = chk o x := fun x => skip 10 x (by decide) (by decide) (by decide) (by decide)
    cases beg b l with
    | nil => cases b <;> rfl
    | nl => rw [D_nl, nl, nl, ih true _ o (by simp at h; omega)]
    | @ret _ c r hc hno =>
      rw [D_ret b c r hc hno, nl, skip c r (by omega) (by omega) (by omega) (by omega), ih true r o (by simpa using h)]
    | dot => rw [D_dot, s46, s46, s46, ih false _ o (by simpa using h)]
    | @esc _ c r hc =>
      rw [D_esc, D_cons false c r hc (by rintro ⟨q, _⟩; cases q), chk_esc, chk_esc]
      exact ih false r o (by simp at h; omega)
    | @escnl _ r => rw [D_esc, D_nl, chk_esc, chk_esc, s10, s10, ih true r o (by simp at h; omega)]
    | @escret _ c r hc hno => rw [D_esc, D_ret false c r hc hno, chk_esc, chk_esc, s10, ih true r o (by simp at h; omega)]
    | last => rw [D_esc]; rfl
    | @sign _ c r h92 hc hb =>
      rw [D_cons b c r hc hb]
      have hr : r.length ≤ n := by simpa using h
      by_cases c34 : c = 34
      · subst c34
        rw [chk_quote, chk_quote, closeQ_D _ false r (Nat.le_refl _)]
        cases hq : closeQ r with
        | none => exact ih false r o hr
        | some r' => exact ih false r' o (by have := closeQ_lt _ r r' (Nat.le_refl _) hq; omega)
      · rw [chk_cons o c _ (.inl h92) c34, chk_cons o c r (.inl h92) c34, ih false r _ hr, ih false r _ hr, ih false r _ hr]
theorem check_sent (l : T) : check (quoted l) = check l := by
  rw [check_chk, check_chk]
  exact chk_D _ true l 0 (Nat.le_refl _)
end Mine

end
section
open PySem
set_option Elab.async false
set_option maxRecDepth 100000
namespace Mine
/-- what the run needs of the five codes -/
structure CsOk (cs : List Int) : Prop where
  len : cs.length = 5
  big : ∀ i, i < 5 → 256 ≤ cs.getD i 0 ∧ cs.getD i 0 ≤ 70000
  apart : ∀ i, i < 5 → ∀ j, j < 5 → cs.getD i 0 = cs.getD j 0 → i = j
  tab : ∀ i, i < 4 → inTab (cs.getD i 0) = true
  out : inTab (cs.getD 4 0) = false
theorem codes_at (x : Nat) : ∀ i, i < 4 → (lawCodes x).getD i 0 = tab26.getD ((x + 7 * i) % 26) 0
  | 0, _ => rfl
  | 1, _ => rfl
  | 2, _ => rfl
  | 3, _ => rfl
theorem tab26_ok : ∀ i, i < 26 → 256 ≤ tab26.getD i 0 ∧ tab26.getD i 0 ≤ 70000 ∧ inTab (tab26.getD i 0) = true := by decide +kernel
theorem tab26_apart : ∀ i, i < 26 → ∀ j, j < 26 → tab26.getD i 0 = tab26.getD j 0 → i = j := by decide +kernel
theorem beside_ok : ∀ i, i < 15 → 256 ≤ beside.getD i 0 ∧ beside.getD i 0 ≤ 70000 ∧ inTab (beside.getD i 0) = false := by decide +kernel
theorem csOk_codes (x : Nat) (h : x < 390) : CsOk (lawCodes x) := by
  have b := beside_ok (x / 26) (by omega)
  have e4 : (lawCodes x).getD 4 0 = beside.getD (x / 26) 0 := rfl
  have t : ∀ i, i < 4 → 256 ≤ (lawCodes x).getD i 0 ∧ (lawCodes x).getD i 0 ≤ 70000 ∧ inTab ((lawCodes x).getD i 0) = true := fun i hi => by
    rw [codes_at x i hi]; exact tab26_ok _ (Nat.mod_lt _ (by decide))
  have four : ∀ i, i < 5 → i < 4 ∨ i = 4 := fun i hi => by omega
  refine ⟨rfl, fun i hi => ?_, fun i hi j hj e => ?_, fun i hi => (t i hi).2.2, b.2.2⟩
  · rcases four i hi with q | rfl
    · exact ⟨(t i q).1, (t i q).2.1⟩
    · exact ⟨b.1, b.2.1⟩
  · rcases four i hi with q | rfl <;> rcases four j hj with q' | rfl
    · rw [codes_at x i q, codes_at x j q'] at e
      have := tab26_apart _ (Nat.mod_lt _ (by decide)) _ (Nat.mod_lt _ (by decide)) e
      omega
    · have h1 := (t i q).2.2
      rw [e, e4, b.2.2] at h1; cases h1
    · have h1 := (t j q').2.2
      rw [← e, e4, b.2.2] at h1; cases h1
    · rfl
def parN (cs : List Int) : Nat → List Int
  | 0 => [0]
  | k + 1 => 41 :: cs.getD 0 0 :: parN cs k
def under (cs : List Int) (inq : Bool) (k : Nat) : List Int := if inq = true then 34 :: cs.getD 0 0 :: parN cs k else parN cs k
def rl (inq ls : Bool) : Nat := (if inq = true then 2 else 0) + (if ls = true then 1 else 0)
/-- the signs that close what is open -/
def closers (inq : Bool) (k : Nat) : T := (if inq = true then [34] else []) ++ List.replicate k 41
/-- the signs among the symbols -/
def signs' (syms : List Int) : T := (syms.filter fun n => !inTab n).map Int.toNat
theorem signs_app (a b : List Int) : signs' (a ++ b) = signs' a ++ signs' b := by simp [signs']
theorem signs_cs {cs : List Int} (C : CsOk cs) {i : Nat} (h : i < 4) (r : List Int) : signs' (cs.getD i 0 :: r) = signs' r := by
  unfold signs'
  rw [List.filter_cons_of_neg (by rw [C.tab i h]; decide)]
theorem signs_cons {c : Nat} (h : inTab (c : Int) = false) (r : List Int) : signs' ((c : Int) :: r) = c :: signs' r := by
  unfold signs'
  rw [List.filter_cons_of_pos (by rw [h]; rfl), List.map_cons]
  rfl
theorem parN_ne (cs : List Int) (k : Nat) : parN cs k ≠ [] := by cases k <;> simp [parN]
theorem under_ne (cs : List Int) (inq : Bool) (k : Nat) : under cs inq k ≠ [] := by cases inq <;> simp [under, parN_ne]
theorem signs_parN {cs : List Int} (C : CsOk cs) : ∀ k, signs' (parN cs k).dropLast = List.replicate k 41
  | 0 => rfl
  | k + 1 => by
    have e : (parN cs (k + 1)).dropLast = 41 :: cs.getD 0 0 :: (parN cs k).dropLast := by
      show (41 :: cs.getD 0 0 :: parN cs k).dropLast = _
      rw [List.dropLast_cons_of_ne_nil (by simp), List.dropLast_cons_of_ne_nil (parN_ne cs k)]
    rw [e, show ((41 : Int) :: cs.getD 0 0 :: (parN cs k).dropLast) = ((41 : Nat) : Int) :: cs.getD 0 0 :: (parN cs k).dropLast from rfl, signs_cons (by decide), signs_cs C (by decide), signs_parN C k]
    rfl
theorem signs_under {cs : List Int} (C : CsOk cs) (inq : Bool) (k : Nat) : signs' (under cs inq k).dropLast = closers inq k := by
  cases inq with
  | false => exact signs_parN C k
  | true =>
    have e : (under cs true k).dropLast = ((34 : Nat) : Int) :: cs.getD 0 0 :: (parN cs k).dropLast := by
      show (34 :: cs.getD 0 0 :: parN cs k).dropLast = _
      rw [List.dropLast_cons_of_ne_nil (by simp), List.dropLast_cons_of_ne_nil (parN_ne cs k)]
      rfl
    rw [e, signs_cons (by decide), signs_cs C (by decide), signs_parN C k]
    rfl
theorem parN_len (cs : List Int) : ∀ k, (parN cs k).length = 2 * k + 1
  | 0 => rfl
  | k + 1 => by show (parN cs k).length + 1 + 1 = _; rw [parN_len cs k]; omega

theorem un_len : ∀ (n : Nat) (b : Bool) (t : T), t.length ≤ n → (un b t).length ≤ t.length := by
  intro n
  induction n with
  | zero =>
    intro b t h
    have : t = [] := List.length_eq_zero_iff.mp (by omega)
    subst this; cases b <;> exact Nat.le_refl _
  | succ n ih =>
    intro b t h
    cases t with
    | nil => cases b <;> exact Nat.le_refl _
    | cons c r =>
      rcases cut3 c r with ⟨r', rfl, rfl⟩ | hno
      · have := ih true r' (by simp at h; omega)
        rw [show un b (13 :: 10 :: r') = 13 :: 10 :: un true r' by simp [un]]
        simp; omega
      · have := ih false r (by simpa using h)
        rw [un_cons b c r hno]
        split
        · simp; omega
        · simp; omega
/-- small enough, and a sign unless in the table -/
def SymOk (n : Int) : Prop := 0 ≤ n ∧ n ≤ 70000 ∧ (inTab n = false → n < 256)
theorem symOk_cs {cs : List Int} (C : CsOk cs) {i : Nat} (h : i < 4) : SymOk (cs.getD i 0) := by
  obtain ⟨a, b⟩ := C.big i (by omega)
  exact ⟨by omega, b, fun q => by rw [C.tab i h] at q; cases q⟩
theorem symOk_sign {c : Nat} (h : c < 256) : SymOk (c : Int) := ⟨by omega, by omega, fun _ => by omega⟩
theorem symOk_parN {cs : List Int} (C : CsOk cs) : ∀ k, ∀ n ∈ parN cs k, SymOk n
  | 0, n, h => by
    rw [List.mem_singleton.mp h]; exact symOk_sign (c := 0) (by decide)
  | k + 1, n, h => by
    rcases List.mem_cons.mp h with rfl | h
    · exact symOk_sign (c := 41) (by decide)
    · rcases List.mem_cons.mp h with rfl | h
      · exact symOk_cs C (by decide)
      · exact symOk_parN C k n h
theorem symOk_under {cs : List Int} (C : CsOk cs) (inq : Bool) (k : Nat) : ∀ n ∈ under cs inq k, SymOk n := by
  cases inq with
  | false => exact symOk_parN C k
  | true =>
    intro n h
    rcases List.mem_cons.mp h with rfl | h
    · exact symOk_sign (c := 34) (by decide)
    · rcases List.mem_cons.mp h with rfl | h
      · exact symOk_cs C (by decide)
      · exact symOk_parN C k n h
theorem under_len (cs : List Int) (inq : Bool) (k : Nat) : (under cs inq k).length ≤ 2 * k + 3 := by
  cases inq
  · show (parN cs k).length ≤ _; rw [parN_len]; omega
  · show (parN cs k).length + 1 + 1 ≤ _; rw [parN_len]; omega
theorem lineOk_mk {cs : List Int} (C : CsOk cs) (front trt : T) (rt : List Int) (inq : Bool) (k : Nat) (hs : signs' rt = trt) (hr : ∀ n ∈ rt, SymOk n) (hrl : rt.length ≤ 4) (hk : k ≤ 60) (hf : front.length ≤ 60)
    (hcan : can true (front ++ (trt ++ closers inq k)) = true) (hchk : chk 0 (front ++ (trt ++ closers inq k)) = true) : LineOk front ((rt ++ under cs inq k).dropLast) := by
  have hd : (rt ++ under cs inq k).dropLast = rt ++ (under cs inq k).dropLast := List.dropLast_append_of_ne_nil (under_ne cs inq k)
  have hsg : signs' ((rt ++ under cs inq k).dropLast) = trt ++ closers inq k := by rw [hd, signs_app, hs, signs_under C]
  have hall : ∀ n ∈ (rt ++ under cs inq k).dropLast, SymOk n := fun n hn => by
    rw [hd] at hn
    rcases List.mem_append.mp hn with q | q
    · exact hr n q
    · exact symOk_under C inq k n (List.dropLast_subset _ q)
  have hul := under_len cs inq k
  have hlen : ((rt ++ under cs inq k).dropLast).length ≤ 200 := by
    rw [List.length_dropLast, List.length_append]; omega
  have hsl : (signs' ((rt ++ under cs inq k).dropLast)).length ≤ 200 := by
    unfold signs'
    rw [List.length_map]
    exact Nat.le_trans (List.length_filter_le _ _) hlen
  refine ⟨?_, by omega, hlen, fun n hn => ⟨(hall n hn).1, (hall n hn).2.1⟩, ?_⟩
  · unfold lawHolds
    have e1 : (List.filter (fun n => !inTab n) ((rt ++ under cs inq k).dropLast)).filter (fun n => !decide (n < 256)) = [] := by
      rw [List.filter_eq_nil_iff]
      intro n hn
      obtain ⟨h1, h2⟩ := List.mem_filter.mp hn
      have := (hall n h1).2.2 (by simpa using h2)
      simp [this]
    have e2 : (List.filter (fun n => !inTab n) ((rt ++ under cs inq k).dropLast)).map Int.toNat = trt ++ closers inq k := hsg
    simp only [e1, e2, ne_eq, not_true_eq_false, if_false]
    rw [decide_eq_true ((can_iff _).mpr hcan), check_chk, hchk]; rfl
  · have e2 : (List.filter (fun n => !inTab n) ((rt ++ under cs inq k).dropLast)).map Int.toNat = signs' ((rt ++ under cs inq k).dropLast) := rfl
    rw [e2, unsent_un]
    have := un_len _ true (front ++ signs' ((rt ++ under cs inq k).dropLast)) (Nat.le_refl _)
    rw [List.length_append] at this
    omega
end Mine

end
section
open PySem
set_option Elab.async false
set_option maxRecDepth 100000
namespace Mine
section
variable {cs : List Int} {text : T} {n : Nat} {lone o : Int} {p : Nat} {ls ls' : Lines} {b : Bool} {st : List Int}
theorem getD_get {l : List Int} {i : Nat} (h : i < l.length) : l[i]? = some (l.getD i 0) := by
  rw [List.getElem?_eq_getElem h, List.getD_eq_getElem?_getD, List.getElem?_eq_getElem h]; rfl
theorem goExpand (C : CsOk cs) {role : Nat} (hr : role < 5) (hend : ∀ x, text.drop p = 92 :: x → x ≠ []) (hst : st.length ≤ 900) (hls : ls.length ≤ 900) (hne : st ≠ [])
    (next : Go text cs n lone (lawRight role cs text p lone ++ st) p (if (lawRight role cs text p lone).length = 4 ∧ (lawRight role cs text p lone).headD 0 = 34 then (p : Int) else o)
        (ls ++ [(text.take p, (lawRight role cs text p lone ++ st).dropLast)]) b ls') : Go text cs n lone (cs.getD role 0 :: st) p o ls b ls' := by
  refine .expand role (C.big role hr).1 (getD_get (by rw [C.len]; exact hr)) (fun i hi q => ?_) (by omega) hend hst hls hne next
  rw [getD_get (by rw [C.len]; omega)] at q
  exact absurd (C.apart i (by omega) role hr (Option.some.inj q)) (by omega)
/-- the right of a role that is not the start -/
theorem right_end {role : Nat} (hr : role < 4) (h : text.drop p = []) : lawRight role cs text p lone = [] := by
  unfold lawRight
  rw [if_neg (by omega), h]
theorem rl_lt (inq ls : Bool) : rl inq ls < 4 := by cases inq <;> cases ls <;> decide
theorem rl_wi (inq ls : Bool) : rl inq ls / 2 * 2 = if inq = true then 2 else 0 := by cases inq <;> cases ls <;> rfl
theorem rl_ne (inq ls : Bool) : (rl inq ls ≠ rl inq ls / 2 * 2) = (ls = true) := by cases inq <;> cases ls <;> simp [rl]
theorem right_cons (inq l : Bool) {c : Nat} {r : T} (h : text.drop p = c :: r) : lawRight (rl inq l) cs text p lone =
    if (inq = false ∧ c = 41) ∨ (inq = true ∧ c = 34) then [] else
    if c = 46 ∧ l = true then [46, 46, cs.getD (rl inq false) 0] else
    if c = 13 ∨ c = 10 then [13, 10, cs.getD (rl inq true) 0] else
    if c = 92 then (if r.headD 0 = 13 ∨ r.headD 0 = 10 then [92, 13, 10, cs.getD (rl inq true) 0] else [92, (r.headD 0 : Nat), cs.getD (rl inq false) 0]) else
    if inq = false ∧ c = 40 then [40, cs.getD 0 0, 41, cs.getD 0 0] else
    if c = 34 ∧ (p : Int) ≠ lone then [34, cs.getD 2 0, 34, cs.getD 0 0] else
    [(c : Nat), cs.getD (rl inq false) 0] := by
  unfold lawRight
  rw [if_neg (by have := rl_lt inq l; omega), h]
  cases inq <;> cases l <;> simp [rl]
theorem goEat {c : Nat} {r : T} (h : text.drop p = c :: r) (h0 : 0 < c) (hc : c < 256) (next : Go text cs n lone st (p + 1) o ls b ls') : Go text cs n lone ((c : Int) :: st) p o ls b ls' := by
  refine .eat c h0 hc ?_ next
  have := congrArg (·[0]?) h
  simpa using this
theorem goFail {c : Nat} {r : T} (h : text.drop p = r) (h0 : 0 < c) (hc : c < 256) (hne : r.head? ≠ some c) (h34 : r ≠ [] ∨ c ≠ 34) (hb : b = false) (hls : ls' = ls) : Go text cs n lone ((c : Int) :: st) p o ls b ls' := by
  subst hb hls
  refine .fail c h0 hc (fun q => hne ?_) (fun q => ?_)
  · rw [← h, List.head?_drop]; exact q
  · rcases h34 with z | z
    · apply z; rw [← h, q.1]; simp
    · exact z q.2
theorem goEnd (hp : p ≤ text.length) {r : T} (h : text.drop p = r) : Go text cs n lone (0 :: st) p o ls (decide (r = [])) ls := by
  have e : decide (r = []) = decide (p = text.length) := by
    rw [← h, Bool.eq_iff_iff]
    simp
    omega
  rw [e]
  exact .eof
end
end Mine

end
section
open PySem
set_option Elab.async false
set_option maxRecDepth 100000
namespace Mine
inductive Mode | out | inq | lone
deriving DecidableEq
/-- what the front does to the check of any tail -/
def ChkInv (front : T) (k : Nat) : Mode → Prop
  | .out => ∀ tail, chk 0 (front ++ tail) = chk k tail
  | .inq => ∀ tail r', closeQ tail = some r' → chk 0 (front ++ tail) = chk k r'
  | .lone => ∀ tail, closeQ tail = none → chk 0 (front ++ tail) = chk k tail
def CanInv (front : T) (l : Bool) : Prop := ∀ tail, can true (front ++ tail) = can l tail
theorem chk_close : ∀ k : Nat, chk k (List.replicate k 41) = true
  | 0 => rfl
  | k + 1 => by
    show chk ((k + 1 : Nat) : Int) (41 :: List.replicate k 41) = true
    rw [chk_cons _ 41 _ (.inl (by decide)) (by decide), if_neg (by decide), if_pos rfl, if_neg (by omega), show ((k + 1 : Nat) : Int) - 1 = k by omega]
    exact chk_close k
theorem can_close : ∀ (k : Nat) (l : Bool), can l (List.replicate k 41) = true
  | 0, l => by cases l <;> rfl
  | k + 1, l => by
    show can l (41 :: List.replicate k 41) = true
    rw [can_cons l 41 _ (by rintro r' ⟨q, _⟩; cases q) (by rintro r' ⟨_, q, _⟩; cases q), if_neg (by simp)]
    exact can_close k false
theorem closeQ_close : ∀ k : Nat, closeQ (List.replicate k 41) = none
  | 0 => rfl
  | k + 1 => by
    show closeQ (41 :: List.replicate k 41) = none
    rw [closeQ_cons 41 _ (.inl (by decide)), if_neg (by decide)]
    exact closeQ_close k
/-- a sign that ends no line and begins no dot -/
theorem can_sign (l : Bool) (c : Nat) (x : T) (h : ¬ (c = 10 ∨ c = 13)) (hb : ¬ (l = true ∧ c = 46)) : can l (c :: x) = can false x := by
  rw [can_cons l c x (by rintro r' ⟨q, _⟩; exact h (.inr q)) (by rintro r' ⟨q1, q2, _⟩; exact hb ⟨q1, q2⟩), if_neg (by rintro (q | q | q); exact h (.inr q); exact h (.inl q); exact hb q)]
theorem can_crlf (l : Bool) (x : T) : can l (13 :: 10 :: x) = can true x := by simp [can]
theorem can_dot (x : T) : can true (46 :: 46 :: x) = can false x := by simp [can]
theorem take_one {text : T} {p c : Nat} {r : T} (h : text.drop p = c :: r) : text.take (p + 1) = text.take p ++ [c] := by
  rw [List.take_add_one]
  have := congrArg (·[0]?) h
  simp at this
  rw [this]; rfl

theorem chk_plain (o : Int) (c : Nat) (x : T) (h1 : c ≠ 92) (h2 : c ≠ 34) (h3 : c ≠ 40) (h4 : c ≠ 41) : chk o (c :: x) = chk o x := by rw [chk_cons o c x (.inl h1) h2, if_neg h3, if_neg h4]
theorem closeQ_skip (c : Nat) (x : T) (h1 : c ≠ 92) (h2 : c ≠ 34) : closeQ (c :: x) = closeQ x := by rw [closeQ_cons c x (.inl h1), if_neg h2]
theorem ChkInv.sign {front : T} {k : Nat} {m : Mode} (x : ChkInv front k m) (c : Nat) (h1 : c ≠ 92) (h2 : c ≠ 34) (h3 : m = .inq ∨ (c ≠ 40 ∧ c ≠ 41)) : ChkInv (front ++ [c]) k m := by
  cases m with
  | out =>
    intro tail
    obtain ⟨a, b⟩ := h3.resolve_left (by decide)
    rw [List.append_assoc, x, List.cons_append, List.nil_append, chk_plain _ c _ h1 h2 a b]
  | inq =>
    intro tail r' h
    rw [List.append_assoc]
    exact x _ r' (by rw [List.cons_append, List.nil_append, closeQ_skip c _ h1 h2]; exact h)
  | lone =>
    intro tail h
    obtain ⟨a, b⟩ := h3.resolve_left (by decide)
    rw [List.append_assoc, x _ (by rw [List.cons_append, List.nil_append, closeQ_skip c _ h1 h2]; exact h), List.cons_append, List.nil_append, chk_plain _ c _ h1 h2 a b]
theorem ChkInv.esc {front : T} {k : Nat} {m : Mode} (x : ChkInv front k m) (c : Nat) : ChkInv (front ++ [92, c]) k m := by
  cases m with
  | out => intro tail; rw [List.append_assoc, x]; exact chk_esc _ c tail
  | inq => intro tail r' h; rw [List.append_assoc]; exact x _ r' h
  | lone => intro tail h; rw [List.append_assoc, x ([92, c] ++ tail) h]; exact chk_esc _ c tail
theorem ChkInv.paren {front : T} {k : Nat} {m : Mode} (x : ChkInv front k m) (hm : m ≠ .inq) : ChkInv (front ++ [40]) (k + 1) m := by
  have e : ∀ tail, chk k (40 :: tail) = chk ((k + 1 : Nat) : Int) tail := fun tail => by rw [chk_cons _ 40 _ (.inl (by decide)) (by decide), if_pos rfl]; rfl
  cases m with
  | out => intro tail; rw [List.append_assoc, x]; exact e tail
  | inq => exact absurd rfl hm
  | lone => intro tail h; rw [List.append_assoc, x _ (by rw [List.cons_append, List.nil_append, closeQ_skip 40 _ (by decide) (by decide)]; exact h)]; exact e tail
theorem ChkInv.unparen {front : T} {k : Nat} {m : Mode} (x : ChkInv front (k + 1) m) (hm : m ≠ .inq) : ChkInv (front ++ [41]) k m := by
  have e : ∀ tail, chk ((k + 1 : Nat) : Int) (41 :: tail) = chk k tail := fun tail => by
    rw [chk_cons _ 41 _ (.inl (by decide)) (by decide), if_neg (by decide), if_pos rfl, if_neg (by omega), show ((k + 1 : Nat) : Int) - 1 = k by omega]
  cases m with
  | out => intro tail; rw [List.append_assoc, x]; exact e tail
  | inq => exact absurd rfl hm
  | lone => intro tail h; rw [List.append_assoc, x _ (by rw [List.cons_append, List.nil_append, closeQ_skip 41 _ (by decide) (by decide)]; exact h)]; exact e tail
theorem ChkInv.quote {front : T} {k : Nat} (x : ChkInv front k .out) : ChkInv (front ++ [34]) k .inq := by
  intro tail r' h
  rw [List.append_assoc, x, List.cons_append, List.nil_append, chk_quote, h]
theorem ChkInv.lone {front : T} {k : Nat} (x : ChkInv front k .out) : ChkInv (front ++ [34]) k .lone := by
  intro tail h
  rw [List.append_assoc, x, List.cons_append, List.nil_append, chk_quote, h]
theorem ChkInv.unquote {front : T} {k : Nat} (x : ChkInv front k .inq) : ChkInv (front ++ [34]) k .out := by
  intro tail
  rw [List.append_assoc]
  exact x _ tail (by rw [List.cons_append, List.nil_append, closeQ_cons 34 _ (.inl (by decide)), if_pos rfl])
end Mine

end
section
open PySem
set_option Elab.async false
set_option maxRecDepth 100000
namespace Mine
/-- from place p with rest r, outside quotes, the first quote that does not close stands at q -/
inductive Unc : Nat → T → Nat → Prop
  | here {p r} : closeQ r = none → Unc p (34 :: r) p
  | close {p r r' q} : closeQ r = some r' → Unc (p + 1 + (r.length - r'.length)) r' q → Unc p (34 :: r) q
  | esc {p c r q} : Unc (p + 2) r q → Unc p (92 :: c :: r) q
  | sign {p c r q} : c ≠ 34 → (c ≠ 92 ∨ r = []) → Unc (p + 1) r q → Unc p (c :: r) q
theorem Unc.quote_inv {p q : Nat} {r : T} (x : Unc p (34 :: r) q) : (p = q ∧ closeQ r = none) ∨ ∃ r', closeQ r = some r' ∧ Unc (p + 1 + (r.length - r'.length)) r' q := by
  cases x with
  | here h => exact .inl ⟨rfl, h⟩
  | close h u => exact .inr ⟨_, h, u⟩
  | sign h _ _ => exact absurd rfl h
theorem Unc.esc_inv {p q c : Nat} {r : T} (x : Unc p (92 :: c :: r) q) : Unc (p + 2) r q := by
  cases x with
  | esc u => exact u
  | sign _ h _ => rcases h with h | h
                  · exact absurd rfl h
                  · cases h
theorem Unc.sign_inv {p q c : Nat} {r : T} (x : Unc p (c :: r) q) (h : c ≠ 34) (h2 : c ≠ 92 ∨ r = []) : Unc (p + 1) r q := by
  cases x with
  | here _ => exact absurd rfl h
  | close _ _ => exact absurd rfl h
  | esc u => rcases h2 with z | z
             · exact absurd rfl z
             · cases z
  | sign _ _ u => exact u

structure TextOk (text : T) : Prop where
  sign : ∀ c ∈ text, 0 < c ∧ c < 256 ∧ inTab (c : Int) = false
  last : text.getLast? ≠ some 92
  len : text.length ≤ 50
theorem TextOk.end_ {text : T} (K : TextOk text) (p : Nat) : ∀ x, text.drop p = 92 :: x → x ≠ [] := by
  rintro x h rfl
  apply K.last
  have := List.take_append_drop p text
  rw [← this, h]
  simp
theorem TextOk.at {text : T} (K : TextOk text) {p c : Nat} {r : T} (h : text.drop p = c :: r) : 0 < c ∧ c < 256 ∧ inTab (c : Int) = false :=
  K.sign c (List.mem_of_mem_drop (i := p) (by rw [h]; exact List.mem_cons_self ..))
end Mine

end
section
open PySem
set_option Elab.async false
set_option maxRecDepth 100000
namespace Mine
def ModeHyp (text : T) (first : Bool) (lone : Int) (p : Nat) (r : T) (o : Int) : Mode → Prop
  | .out => (first = true → ∀ q, Unc p r q → Unc 0 text q) ∧ (first = false → ∃ q : Nat, lone = q ∧ Unc p r q)
  | .inq => (first = true → ∃ on : Nat, o = on ∧ (closeQ r = none → Unc 0 text on) ∧ ∀ r' q, closeQ r = some r' → Unc (p + (r.length - r'.length)) r' q → Unc 0 text q) ∧
      (first = false → ∃ r', closeQ r = some r' ∧ ∃ q : Nat, lone = q ∧ Unc (p + (r.length - r'.length)) r' q)
  | .lone => closeQ r = none ∧ first = false ∧ lone < p
abbrev Good (ls : Lines) : Prop := ∀ y ∈ ls, LineOk y.1 y.2
def Run (cs : List Int) (text : T) (first : Bool) (lone : Int) (f : Nat) : Prop :=
  ∀ (r : T) (p k : Nat) (l : Bool) (m : Mode) (o : Int) (ls : Lines), r.length ≤ f → text.drop p = r → p ≤ text.length → k + r.length ≤ 50 → CanInv (text.take p) l → ChkInv (text.take p) k m → ModeHyp text first lone p r o m → Good ls → ls.length + r.length ≤ 100 →
    ∃ ls', Go text cs (if first = true then 1 else 0) lone (cs.getD (rl (m == .inq) l) 0 :: under cs (m == .inq) k) p o ls (can true text && chk 0 text) ls' ∧ Good ls' ∧ ls'.length ≤ 102

theorem Good.snoc {ls : Lines} (g : Good ls) {f : T} {ns : List Int} (x : LineOk f ns) : Good (ls ++ [(f, ns)]) := by
  intro y hy
  rcases List.mem_append.mp hy with q | q
  · exact g y q
  · rw [List.mem_singleton.mp q]; exact x
/-- one expansion -/
theorem emit {cs : List Int} {text : T} (C : CsOk cs) (K : TextOk text) {inq l : Bool} {k p n : Nat} {lone o o' : Int} {ls : Lines} {out : Bool} {rt : List Int} {trt : T} (hright : lawRight (rl inq l) cs text p lone = rt) (hs : signs' rt = trt) (hr : ∀ n ∈ rt, SymOk n) (hrl : rt.length ≤ 4) (hk : k ≤ 50) (g : Good ls) (hls : ls.length ≤ 110)
    (ho : o' = if rt.length = 4 ∧ rt.headD 0 = 34 then (p : Int) else o)
    (hcan : can true (text.take p ++ (trt ++ closers inq k)) = true) (hchk : chk 0 (text.take p ++ (trt ++ closers inq k)) = true)
    (next : ∀ ls₁, Good ls₁ → ls₁.length = ls.length + 1 → ∃ ls', Go text cs n lone (rt ++ under cs inq k) p o' ls₁ out ls' ∧ Good ls' ∧ ls'.length ≤ 102) :
    ∃ ls', Go text cs n lone (cs.getD (rl inq l) 0 :: under cs inq k) p o ls out ls' ∧ Good ls' ∧ ls'.length ≤ 102 := by
  have hfl : (text.take p).length ≤ 60 := by rw [List.length_take]; have := K.len; omega
  have lk := lineOk_mk C (text.take p) trt rt inq k hs hr hrl (by omega) hfl hcan hchk
  obtain ⟨ls', g1, g2, g3⟩ := next (ls ++ [(text.take p, (rt ++ under cs inq k).dropLast)]) (g.snoc lk) (by simp)
  have hul := under_len cs inq k
  refine ⟨ls', goExpand C (by have := rl_lt inq l; omega) (K.end_ p) (by omega) (by omega) (under_ne cs inq k) ?_, g2, g3⟩
  rw [hright, ← ho]
  exact g1

/-- an even end: the closers alone -/
theorem tail_ok {front : T} {l : Bool} {k : Nat} {m : Mode} (hc : CanInv front l) (hk : ChkInv front k m) : can true (front ++ closers (m == .inq) k) = true ∧ chk 0 (front ++ closers (m == .inq) k) = true := by
  rw [hc]
  cases m with
  | out => exact ⟨can_close k l, by rw [show closers (Mode.out == .inq) k = List.replicate k 41 from rfl, hk]; exact chk_close k⟩
  | lone => exact ⟨can_close k l, by rw [show closers (Mode.lone == .inq) k = List.replicate k 41 from rfl, hk _ (closeQ_close k)]; exact chk_close k⟩
  | inq =>
    refine ⟨?_, ?_⟩
    · show can l (34 :: List.replicate k 41) = true
      rw [can_sign l 34 _ (by decide) (by rintro ⟨_, q⟩; cases q)]
      exact can_close k false
    · rw [hk _ (List.replicate k 41) (by show closeQ (34 :: List.replicate k 41) = _; rw [closeQ_cons 34 _ (.inl (by decide)), if_pos rfl])]
      exact chk_close k

theorem val_can {text : T} {p : Nat} {r : T} {l : Bool} (hd : text.drop p = r) (hc : CanInv (text.take p) l) : can true text = can l r := by
  have := List.take_append_drop p text
  rw [hd] at this
  rw [← hc r, this]
theorem val_chk {text : T} {p k : Nat} {r : T} {m : Mode} (hd : text.drop p = r) (hk : ChkInv (text.take p) k m) (hm : m = .out ∨ (m = .lone ∧ closeQ r = none)) : chk 0 text = chk k r := by
  have := List.take_append_drop p text
  rw [hd] at this
  rcases hm with rfl | ⟨rfl, hq⟩
  · rw [← hk r, this]
  · rw [← hk r hq, this]

/-- the text is read, outside quotes -/
theorem run_end {cs : List Int} {text : T} (C : CsOk cs) (K : TextOk text) {p k n : Nat} {l : Bool} {m : Mode} {lone o : Int} {ls : Lines} (hd : text.drop p = []) (hp : p ≤ text.length) (hk50 : k ≤ 50) (hc : CanInv (text.take p) l) (hk : ChkInv (text.take p) k m) (hm : m ≠ .inq) (g : Good ls) (hls : ls.length ≤ 100) :
    ∃ ls', Go text cs n lone (cs.getD (rl (m == .inq) l) 0 :: under cs (m == .inq) k) p o ls (can true text && chk 0 text) ls' ∧ Good ls' ∧ ls'.length ≤ 102 := by
  have hmq : (m == .inq) = false := by cases m <;> first | rfl | exact absurd rfl hm
  have hmm : m = .out ∨ (m = .lone ∧ closeQ ([] : T) = none) := by cases m <;> first | exact .inl rfl | exact .inr ⟨rfl, rfl⟩ | exact absurd rfl hm
  obtain ⟨t1, t2⟩ := tail_ok hc hk
  rw [hmq] at t1 t2 ⊢
  refine emit C K (rt := []) (trt := []) (o' := o) (right_end (rl_lt _ _) hd) rfl (fun _ q => by cases q) (by decide) hk50 g (by omega) (by simp) t1 t2 fun ls₁ g₁ h₁ => ⟨ls₁, ?_, g₁, by omega⟩
  rw [val_can hd hc, val_chk hd hk hmm]
  cases k with
  | zero =>
    have := goEnd (cs := cs) (n := n) (lone := lone) (o := o) (ls := ls₁) (st := []) hp hd
    cases l <;> exact this
  | succ k =>
    refine goFail (c := 41) hd (by decide) (by decide) (by simp) (.inr (by decide)) ?_ rfl
    rw [chk_nil]
    cases l <;> simp [can]
    all_goals omega

theorem inv_can {text : T} {p : Nat} {l l' : Bool} {w : T} (hc : CanInv (text.take p) l) (h : ∀ tail, can l (w ++ tail) = can l' tail) : CanInv (text.take p ++ w) l' := fun tail => by rw [List.append_assoc, hc, h]
theorem take_two {text : T} {p c d : Nat} {r : T} (h : text.drop p = c :: d :: r) : text.take (p + 2) = text.take p ++ [c, d] := by
  have h1 := take_one h
  have h2 := take_one (drop_next h)
  rw [show p + 2 = p + 1 + 1 by omega, h2, h1]
  simp
theorem drop_len {text : T} {p : Nat} {c : Nat} {r : T} (h : text.drop p = c :: r) : p < text.length := by
  have := congrArg List.length h
  simp at this; omega
end Mine

end
section
open PySem
set_option Elab.async false
set_option maxRecDepth 100000
namespace Mine
/-- one expansion that goes on with a front longer by w -/
theorem emitW {cs : List Int} {text : T} (C : CsOk cs) (K : TextOk text) {inq l l' : Bool} {k k' p n : Nat} {m' : Mode} {lone o o' : Int} {ls : Lines} {out : Bool} {rt : List Int} {trt w : T} (hright : lawRight (rl inq l) cs text p lone = rt) (hs : signs' rt = trt) (hr : ∀ n ∈ rt, SymOk n) (hrl : rt.length ≤ 4) (hk : k ≤ 50) (g : Good ls) (hls : ls.length ≤ 110)
    (ho : o' = if rt.length = 4 ∧ rt.headD 0 = 34 then (p : Int) else o) (hc : CanInv (text.take p ++ w) l') (hkk : ChkInv (text.take p ++ w) k' m') (hw : trt ++ closers inq k = w ++ closers (m' == .inq) k')
    (next : ∀ ls₁, Good ls₁ → ls₁.length = ls.length + 1 → ∃ ls', Go text cs n lone (rt ++ under cs inq k) p o' ls₁ out ls' ∧ Good ls' ∧ ls'.length ≤ 102) :
    ∃ ls', Go text cs n lone (cs.getD (rl inq l) 0 :: under cs inq k) p o ls out ls' ∧ Good ls' ∧ ls'.length ≤ 102 := by
  obtain ⟨t1, t2⟩ := tail_ok hc hkk
  rw [List.append_assoc, ← hw] at t1 t2
  exact emit C K hright hs hr hrl hk g hls ho t1 t2 next
abbrev toZ (w : T) : List Int := w.map fun c : Nat => (c : Int)
theorem goEats {cs : List Int} {text : T} {n : Nat} {lone o : Int} {ls ls' : Lines} {b : Bool} {st : List Int} {r' : T} : ∀ (w : T) (p : Nat), text.drop p = w ++ r' → (∀ c ∈ w, 0 < c ∧ c < 256) → Go text cs n lone st (p + w.length) o ls b ls' → Go text cs n lone (toZ w ++ st) p o ls b ls'
  | [], _, _, _, g => g
  | c :: w, p, hd, hw, g => by
    have h1 := hw c (List.mem_cons_self ..)
    refine goEat (r := w ++ r') hd h1.1 h1.2 (goEats w (p + 1) (drop_next hd) (fun d q => hw d (List.mem_cons_of_mem _ q)) ?_)
    rw [show p + 1 + w.length = p + (c :: w).length by simp; omega]
    exact g
theorem take_w {text w r' : T} {p : Nat} (h : text.drop p = w ++ r') : text.take (p + w.length) = text.take p ++ w := by
  rw [List.take_add, h, List.take_left]
theorem drop_w {text w r' : T} {p : Nat} (h : text.drop p = w ++ r') : text.drop (p + w.length) = r' := by
  rw [← List.drop_drop, h, List.drop_left]
theorem len_w {text w r' : T} {p : Nat} (hp : p ≤ text.length) (h : text.drop p = w ++ r') : p + w.length ≤ text.length := by
  have := congrArg List.length h
  simp at this; omega
/-- an expansion, and the signs up to the next -/
theorem move {cs : List Int} {text : T} {first : Bool} {lone : Int} {f : Nat} (C : CsOk cs) (K : TextOk text) (ih : Run cs text first lone f) {inq l l' : Bool} {k k' p : Nat} {m' : Mode} {o o' : Int} {ls : Lines} {rt : List Int} {trt w r' : T}
    (hright : lawRight (rl inq l) cs text p lone = rt) (hs : signs' rt = trt) (hr : ∀ n ∈ rt, SymOk n) (hrl : rt.length ≤ 4) (hd : text.drop p = w ++ r') (hp : p ≤ text.length) (hf : (w ++ r').length ≤ f + 1) (hw0 : w ≠ []) (hk : k ≤ 50) (hk' : k' + r'.length ≤ 50) (g : Good ls) (hls : ls.length + (w ++ r').length ≤ 100)
    (ho : o' = if rt.length = 4 ∧ rt.headD 0 = 34 then (p : Int) else o) (hc : CanInv (text.take p ++ w) l') (hkk : ChkInv (text.take p ++ w) k' m') (hw : trt ++ closers inq k = w ++ closers (m' == .inq) k')
    (hpile : rt ++ under cs inq k = toZ w ++ (cs.getD (rl (m' == .inq) l') 0 :: under cs (m' == .inq) k')) (hm : ModeHyp text first lone (p + w.length) r' o' m') :
    ∃ ls', Go text cs (if first = true then 1 else 0) lone (cs.getD (rl inq l) 0 :: under cs inq k) p o ls (can true text && chk 0 text) ls' ∧ Good ls' ∧ ls'.length ≤ 102 := by
  have hwl : 1 ≤ w.length := by cases w with | nil => exact absurd rfl hw0 | cons a b => simp
  rw [List.length_append] at hf hls
  refine emitW C K hright hs hr hrl hk g (by omega) ho hc hkk hw fun ls₁ g₁ h₁ => ?_
  obtain ⟨ls', a, b, c⟩ := ih r' (p + w.length) k' l' m' o' ls₁ (by omega) (drop_w hd) (len_w hp hd) hk' (by rw [take_w hd]; exact hc) (by rw [take_w hd]; exact hkk) hm g₁ (by omega)
  refine ⟨ls', ?_, b, c⟩
  rw [hpile]
  exact goEats w p hd (fun c hc => by
    have := K.sign c (List.mem_of_mem_drop (i := p) (by rw [hd]; exact List.mem_append_left _ hc))
    exact ⟨this.1, this.2.1⟩) a
/-- an expansion, some signs, and a sign that the text has not -/
theorem miss {cs : List Int} {text : T} (C : CsOk cs) (K : TextOk text) {inq l l' : Bool} {k p n : Nat} {m' : Mode} {lone o o' : Int} {ls : Lines} {rt st : List Int} {trt w v r' : T} {c : Nat}
    (hright : lawRight (rl inq l) cs text p lone = rt) (hs : signs' rt = trt) (hr : ∀ n ∈ rt, SymOk n) (hrl : rt.length ≤ 4) (hd : text.drop p = v ++ r') (hk : k ≤ 50) (g : Good ls) (hls : ls.length ≤ 100)
    (ho : o' = if rt.length = 4 ∧ rt.headD 0 = 34 then (p : Int) else o) (hc : CanInv (text.take p ++ w) l') (hkk : ChkInv (text.take p ++ w) k m') (hw : trt ++ closers inq k = w ++ closers (m' == .inq) k)
    (hpile : rt ++ under cs inq k = toZ v ++ ((c : Int) :: st)) (h0 : 0 < c) (hc256 : c < 256) (hne : r'.head? ≠ some c) (h34 : c ≠ 34) (hb : (can true text && chk 0 text) = false) :
    ∃ ls', Go text cs n lone (cs.getD (rl inq l) 0 :: under cs inq k) p o ls (can true text && chk 0 text) ls' ∧ Good ls' ∧ ls'.length ≤ 102 := by
  refine emitW C K hright hs hr hrl hk g (by omega) ho hc hkk hw fun ls₁ g₁ h₁ => ⟨ls₁, ?_, g₁, by omega⟩
  rw [hpile, hb]
  exact goEats v p hd (fun c hc => by
    have := K.sign c (List.mem_of_mem_drop (i := p) (by rw [hd]; exact List.mem_append_left _ hc))
    exact ⟨this.1, this.2.1⟩) (goFail (drop_w hd) h0 hc256 hne (.inr h34) rfl rfl)
theorem signs_w {cs : List Int} (C : CsOk cs) {i : Nat} (hi : i < 4) : ∀ w : T, (∀ c ∈ w, inTab (c : Int) = false) → signs' (toZ w ++ [cs.getD i 0]) = w
  | [], _ => by show signs' [cs.getD i 0] = []; rw [signs_cs C hi]; rfl
  | c :: w, h => by
    show signs' ((c : Int) :: (toZ w ++ [cs.getD i 0])) = _
    rw [signs_cons (h c (List.mem_cons_self ..)), signs_w C hi w fun d q => h d (List.mem_cons_of_mem _ q)]
theorem symOk_w {cs : List Int} (C : CsOk cs) {i : Nat} (hi : i < 4) {w : T} (h : ∀ c ∈ w, c < 256) : ∀ n ∈ toZ w ++ [cs.getD i 0], SymOk n := by
  intro n hn
  rcases List.mem_append.mp hn with q | q
  · obtain ⟨c, hc, rfl⟩ := List.mem_map.mp q
    exact symOk_sign (h c hc)
  · rw [List.mem_singleton.mp q]; exact symOk_cs C hi
theorem ho_w {w : T} {i : Int} {p : Nat} {o : Int} (h : ¬ (w.length = 3 ∧ w.headD 0 = 34)) (hw0 : w ≠ []) : o = if (toZ w ++ [i]).length = 4 ∧ (toZ w ++ [i]).headD 0 = 34 then (p : Int) else o := by
  rw [if_neg]
  rintro ⟨h1, h2⟩
  apply h
  cases w with
  | nil => exact absurd rfl hw0
  | cons a b =>
    simp at h1 h2
    refine ⟨by simp; omega, ?_⟩
    show a = 34
    omega
/-- signs, and the same role or the row's beginning's -/
theorem glide {cs : List Int} {text : T} {first : Bool} {lone : Int} {f : Nat} (C : CsOk cs) (K : TextOk text) (ih : Run cs text first lone f) {l l' : Bool} {k p : Nat} {m m' : Mode} {o : Int} {ls : Lines} {w r' : T} (hmm : (m' == .inq) = (m == .inq))
    (hright : lawRight (rl (m == .inq) l) cs text p lone = toZ w ++ [cs.getD (rl (m == .inq) l') 0]) (hwl : w.length ≤ 3) (hn4 : ¬ (w.length = 3 ∧ w.headD 0 = 34)) (hd : text.drop p = w ++ r') (hp : p ≤ text.length) (hf : (w ++ r').length ≤ f + 1) (hw0 : w ≠ []) (hk : k + (w ++ r').length ≤ 50) (g : Good ls) (hls : ls.length + (w ++ r').length ≤ 100)
    (hc : CanInv (text.take p ++ w) l') (hkk : ChkInv (text.take p ++ w) k m') (hm : ModeHyp text first lone (p + w.length) r' o m') :
    ∃ ls', Go text cs (if first = true then 1 else 0) lone (cs.getD (rl (m == .inq) l) 0 :: under cs (m == .inq) k) p o ls (can true text && chk 0 text) ls' ∧ Good ls' ∧ ls'.length ≤ 102 := by
  have hws : ∀ c ∈ w, 0 < c ∧ c < 256 ∧ inTab (c : Int) = false := fun c hc => K.sign c (List.mem_of_mem_drop (i := p) (by rw [hd]; exact List.mem_append_left _ hc))
  rw [List.length_append] at hk
  refine move C K ih (m' := m') (l' := l') (k' := k) (o' := o) hright (signs_w C (rl_lt _ _) w fun c q => (hws c q).2.2) (symOk_w C (rl_lt _ _) fun c q => (hws c q).2.1) (by simp; omega) hd hp hf hw0 (by omega) (by omega) g hls (ho_w hn4 hw0) hc hkk (by rw [hmm]) ?_ hm
  rw [hmm]
  simp
/-- signs of which the text has the first alone -/
theorem slip {cs : List Int} {text : T} (C : CsOk cs) (K : TextOk text) {l l' : Bool} {k p n : Nat} {m : Mode} {lone o : Int} {ls : Lines} {u v r' : T} {c : Nat}
    (hright : lawRight (rl (m == .inq) l) cs text p lone = toZ (v ++ c :: u) ++ [cs.getD (rl (m == .inq) l') 0]) (hwl : (v ++ c :: u).length ≤ 3) (hn4 : ¬ ((v ++ c :: u).length = 3 ∧ (v ++ c :: u).headD 0 = 34)) (hd : text.drop p = v ++ r') (hk : k ≤ 50) (g : Good ls) (hls : ls.length ≤ 100)
    (hws : ∀ d ∈ v ++ c :: u, 0 < d ∧ d < 256 ∧ inTab (d : Int) = false) (hc : CanInv (text.take p ++ (v ++ c :: u)) l') (hkk : ChkInv (text.take p ++ (v ++ c :: u)) k m) (hne : r'.head? ≠ some c) (h34 : c ≠ 34) (hb : (can true text && chk 0 text) = false) :
    ∃ ls', Go text cs n lone (cs.getD (rl (m == .inq) l) 0 :: under cs (m == .inq) k) p o ls (can true text && chk 0 text) ls' ∧ Good ls' ∧ ls'.length ≤ 102 := by
  have hcc := hws c (by simp)
  refine miss C K (m' := m) (l' := l') (o' := o) (v := v) (c := c) (st := toZ u ++ ([cs.getD (rl (m == .inq) l') 0] ++ under cs (m == .inq) k)) hright (signs_w C (rl_lt _ _) _ fun c q => (hws c q).2.2) (symOk_w C (rl_lt _ _) fun c q => (hws c q).2.1) (by simp at hwl ⊢; omega) hd hk g hls (ho_w hn4 (by simp)) hc hkk rfl ?_ hcc.1 hcc.2.1 hne h34 hb
  simp
end Mine

end
section
open PySem
set_option Elab.async false
set_option maxRecDepth 100000
namespace Mine
theorem Unc.le {p q : Nat} {r : T} (x : Unc p r q) : p ≤ q := by
  induction x with
  | here _ => exact Nat.le_refl _
  | close _ _ ih => omega
  | esc _ ih => omega
  | sign _ _ _ ih => omega
theorem ModeHyp.sign {text : T} {first : Bool} {lone o : Int} {p c : Nat} {r : T} {m : Mode} (h34 : c ≠ 34) (h92 : c ≠ 92) (x : ModeHyp text first lone p (c :: r) o m) : ModeHyp text first lone (p + 1) r o m := by
  have e : closeQ (c :: r) = closeQ r := closeQ_skip c r h92 h34
  cases m with
  | out =>
    obtain ⟨a, b⟩ := x
    refine ⟨fun hf q u => a hf q (.sign h34 (.inl h92) u), fun hf => ?_⟩
    obtain ⟨q, h1, u⟩ := b hf
    exact ⟨q, h1, u.sign_inv h34 (.inl h92)⟩
  | inq =>
    obtain ⟨a, b⟩ := x
    rw [e] at b
    refine ⟨fun hf => ?_, fun hf => ?_⟩
    · obtain ⟨on, h1, h2, h3⟩ := a hf
      rw [e] at h2
      refine ⟨on, h1, h2, fun r' q hq u => h3 r' q (by rw [e]; exact hq) ?_⟩
      have := closeQ_lt _ r r' (Nat.le_refl _) hq
      rw [show p + ((c :: r).length - r'.length) = p + 1 + (r.length - r'.length) by rw [List.length_cons]; omega]
      exact u
    · obtain ⟨r', hq, q, h1, u⟩ := b hf
      have := closeQ_lt _ r r' (Nat.le_refl _) hq
      refine ⟨r', hq, q, h1, ?_⟩
      rw [show p + 1 + (r.length - r'.length) = p + ((c :: r).length - r'.length) by rw [List.length_cons]; omega]
      exact u
  | lone =>
    obtain ⟨a, b, d⟩ := x
    rw [e] at a
    exact ⟨a, b, by omega⟩
theorem ModeHyp.esc {text : T} {first : Bool} {lone o : Int} {p c : Nat} {r : T} {m : Mode} (x : ModeHyp text first lone p (92 :: c :: r) o m) : ModeHyp text first lone (p + 2) r o m := by
  have e : closeQ (92 :: c :: r) = closeQ r := rfl
  cases m with
  | out =>
    obtain ⟨a, b⟩ := x
    refine ⟨fun hf q u => a hf q (.esc u), fun hf => ?_⟩
    obtain ⟨q, h1, u⟩ := b hf
    exact ⟨q, h1, u.esc_inv⟩
  | inq =>
    obtain ⟨a, b⟩ := x
    rw [e] at b
    refine ⟨fun hf => ?_, fun hf => ?_⟩
    · obtain ⟨on, h1, h2, h3⟩ := a hf
      rw [e] at h2
      refine ⟨on, h1, h2, fun r' q hq u => h3 r' q (by rw [e]; exact hq) ?_⟩
      have := closeQ_lt _ r r' (Nat.le_refl _) hq
      rw [show p + ((92 :: c :: r).length - r'.length) = p + 2 + (r.length - r'.length) by rw [List.length_cons, List.length_cons]; omega]
      exact u
    · obtain ⟨r', hq, q, h1, u⟩ := b hf
      have := closeQ_lt _ r r' (Nat.le_refl _) hq
      refine ⟨r', hq, q, h1, ?_⟩
      rw [show p + 2 + (r.length - r'.length) = p + ((92 :: c :: r).length - r'.length) by rw [List.length_cons, List.length_cons]; omega]
      exact u
  | lone =>
    obtain ⟨a, b, d⟩ := x
    rw [e] at a
    exact ⟨a, b, by omega⟩
theorem ModeHyp.unquote {text : T} {first : Bool} {lone o : Int} {p : Nat} {r : T} (x : ModeHyp text first lone p (34 :: r) o .inq) : ModeHyp text first lone (p + 1) r o .out := by
  have e : closeQ (34 :: r) = some r := by rw [closeQ_cons 34 _ (.inl (by decide)), if_pos rfl]
  obtain ⟨a, b⟩ := x
  have hl : p + ((34 :: r).length - r.length) = p + 1 := by rw [List.length_cons]; omega
  refine ⟨fun hf q u => ?_, fun hf => ?_⟩
  · obtain ⟨on, h1, h2, h3⟩ := a hf
    exact h3 r q e (by rw [hl]; exact u)
  · obtain ⟨r', hq, q, h1, u⟩ := b hf
    rw [e] at hq
    obtain rfl := Option.some.inj hq
    exact ⟨q, h1, by rw [← hl]; exact u⟩
theorem ModeHyp.quote {text : T} {first : Bool} {lone o : Int} {p : Nat} {r : T} (hne : (p : Int) ≠ lone) (x : ModeHyp text first lone p (34 :: r) o .out) : ModeHyp text first lone (p + 1) r p .inq := by
  obtain ⟨a, b⟩ := x
  refine ⟨fun hf => ⟨p, rfl, fun h => a hf p (.here h), fun r' q h u => a hf q (.close h u)⟩, fun hf => ?_⟩
  obtain ⟨q, rfl, u⟩ := b hf
  rcases u.quote_inv with ⟨rfl, _⟩ | ⟨r', h, u'⟩
  · exact absurd rfl hne
  · exact ⟨r', h, q, rfl, u'⟩
theorem ModeHyp.alone {text : T} {first : Bool} {lone o : Int} {p : Nat} {r : T} (hl : first = true → lone = -1) (he : (p : Int) = lone) (x : ModeHyp text first lone p (34 :: r) o .out) : ModeHyp text first lone (p + 1) r o .lone := by
  obtain ⟨a, b⟩ := x
  have hf : first = false := by
    cases first with
    | false => rfl
    | true => have := hl rfl; omega
  obtain ⟨q, h1, u⟩ := b hf
  obtain rfl : p = q := by omega
  rcases u.quote_inv with ⟨_, h⟩ | ⟨r', h, u'⟩
  · exact ⟨h, hf, by omega⟩
  · have := u'.le; omega
end Mine

end
section
open PySem
set_option Elab.async false
set_option maxRecDepth 100000
namespace Mine
/-- a state of the run -/
structure At (cs : List Int) (text : T) (first : Bool) (lone : Int) (f : Nat) (r : T) (p k : Nat) (l : Bool) (m : Mode) (o : Int) (ls : Lines) : Prop where
  hf : r.length ≤ f
  hd : text.drop p = r
  hp : p ≤ text.length
  hk : k + r.length ≤ 50
  hc : CanInv (text.take p) l
  hx : ChkInv (text.take p) k m
  hm : ModeHyp text first lone p r o m
  g : Good ls
  hls : ls.length + r.length ≤ 100
abbrev Res (cs : List Int) (text : T) (first : Bool) (lone : Int) (p k : Nat) (l : Bool) (m : Mode) (o : Int) (ls : Lines) : Prop :=
  ∃ ls', Go text cs (if first = true then 1 else 0) lone (cs.getD (rl (m == .inq) l) 0 :: under cs (m == .inq) k) p o ls (can true text && chk 0 text) ls' ∧ Good ls' ∧ ls'.length ≤ 102
section
variable {cs : List Int} {text : T} {first : Bool} {lone : Int} {f : Nat} {p k : Nat} {l : Bool} {m : Mode} {o : Int} {ls : Lines}
theorem and_false_l {a b : Bool} (h : a = false) : (a && b) = false := by rw [h]; rfl
theorem inq_of {m : Mode} (h : (m == .inq) = true) : m = .inq := by cases m <;> first | rfl | cases h
theorem not_inq_of {m : Mode} (h : (m == .inq) = false) : m ≠ .inq := by rintro rfl; cases h
theorem case_nil (C : CsOk cs) (K : TextOk text) (again : first = true → ∀ o : Nat, Unc 0 text o → ∃ ls', Go text cs 0 o [cs.getD 4 0, 0] 0 (-1) [] (can true text && chk 0 text) ls' ∧ Good ls' ∧ ls'.length ≤ 102)
    (x : At cs text first lone f [] p k l m o ls) : Res cs text first lone p k l m o ls := by
  by_cases h : m = .inq
  · subst h
    have hk := x.hk
    have hls := x.hls
    simp at hk hls
    obtain ⟨t1, t2⟩ := tail_ok x.hc x.hx
    refine emit C K (rt := []) (trt := []) (o' := o) (right_end (rl_lt _ _) x.hd) rfl (fun _ q => by cases q) (by decide) (by omega) x.g (by omega) (by simp) t1 t2 fun ls₁ g₁ h₁ => ?_
    obtain ⟨a, b⟩ := x.hm
    cases first with
    | true =>
      obtain ⟨on, rfl, h2, _⟩ := a rfl
      obtain ⟨ls', g1, g2, g3⟩ := again rfl on (h2 rfl)
      refine ⟨ls', .again ?_ g1, g2, g3⟩
      have := congrArg List.length x.hd
      have := x.hp
      simp at *; omega
    | false => obtain ⟨r', e, _⟩ := b rfl; cases e
  · have hk := x.hk
    have hls := x.hls
    simp at hk hls
    exact run_end C K x.hd x.hp (by omega) x.hc x.hx h x.g (by omega)
/-- what the right does not look at -/
theorem not_end {inq : Bool} {c : Nat} (h : inq = true ∨ c ≠ 41) (h' : inq = false ∨ c ≠ 34) : ¬ ((inq = false ∧ c = 41) ∨ (inq = true ∧ c = 34)) := by
  rintro (⟨rfl, rfl⟩ | ⟨rfl, rfl⟩)
  · rcases h with h | h
    · cases h
    · exact h rfl
  · rcases h' with h | h
    · cases h
    · exact h rfl
theorem case_sign (C : CsOk cs) (K : TextOk text) (ih : Run cs text first lone f) {c : Nat} {r : T} (h92 : c ≠ 92) (h34 : c ≠ 34) (hnl : ¬ (c = 10 ∨ c = 13)) (hdot : ¬ (c = 46 ∧ l = true)) (hpar : m = .inq ∨ (c ≠ 40 ∧ c ≠ 41))
    (x : At cs text first lone (f + 1) (c :: r) p k l m o ls) : Res cs text first lone p k l m o ls := by
  have hr : lawRight (rl (m == .inq) l) cs text p lone = toZ [c] ++ [cs.getD (rl (m == .inq) false) 0] := by
    rw [right_cons _ _ x.hd, if_neg (not_end (by rcases hpar with rfl | ⟨_, h⟩; exact .inl rfl; exact .inr h) (.inr h34)), if_neg hdot, if_neg (by omega), if_neg h92, if_neg, if_neg (by simp [h34])]
    · rfl
    · rintro ⟨a, b⟩
      rcases hpar with rfl | ⟨h, _⟩
      · cases a
      · exact h b
  refine glide C K ih (m' := m) (l' := false) (w := [c]) (r' := r) rfl hr (by simp) (by simp) x.hd x.hp x.hf (by simp) x.hk x.g x.hls ?_ ?_ (x.hm.sign h34 h92)
  · exact inv_can x.hc fun tail => can_sign l c tail hnl fun q => hdot ⟨q.2, q.1⟩
  · exact x.hx.sign c h92 h34 hpar
theorem case_dot (C : CsOk cs) (K : TextOk text) (ih : Run cs text first lone f) {r : T}
    (x : At cs text first lone (f + 1) (46 :: r) p k true m o ls) : Res cs text first lone p k true m o ls := by
  have hr : lawRight (rl (m == .inq) true) cs text p lone = toZ [46, 46] ++ [cs.getD (rl (m == .inq) false) 0] := by
    rw [right_cons _ _ x.hd, if_neg (not_end (.inr (by decide)) (.inr (by decide))), if_pos ⟨rfl, rfl⟩]; rfl
  have hc' : CanInv (text.take p ++ [46, 46]) false := inv_can x.hc fun tail => can_dot tail
  have hx' : ChkInv (text.take p ++ [46, 46]) k m := by
    have := (x.hx.sign 46 (by decide) (by decide) (.inr (by decide))).sign 46 (by decide) (by decide) (.inr (by decide))
    rw [List.append_assoc] at this
    exact this
  by_cases h : ∃ r', r = 46 :: r'
  · obtain ⟨r', rfl⟩ := h
    exact glide C K ih (m' := m) (l' := false) (w := [46, 46]) (r' := r') rfl hr (by simp) (by simp) x.hd x.hp x.hf (by simp) x.hk x.g x.hls hc' hx' ((x.hm.sign (by decide) (by decide)).sign (by decide) (by decide))
  · have hk := x.hk
    have hls := x.hls
    refine slip C K (m := m) (l' := false) (v := [46]) (c := 46) (u := []) (r' := r) hr (by simp) (by simp) x.hd (by omega) x.g (by omega) (by simp [K.at x.hd]; decide) hc' hx' ?_ (by decide) ?_
    · intro q
      cases r with
      | nil => cases q
      | cons a r => exact h ⟨r, by simp at q; rw [q]⟩
    · refine and_false_l ?_
      rw [val_can x.hd x.hc, can_cons true 46 r (by rintro r' ⟨q, _⟩; cases q) (by rintro r' ⟨_, _, q⟩; exact h ⟨r', q⟩), if_pos (.inr (.inr ⟨rfl, rfl⟩))]
theorem hdm_ne {c : Nat} {r : T} (h : ∀ r', r ≠ c :: r') : r.head? ≠ some c := by
  intro q
  cases r with
  | nil => cases q
  | cons a r => simp at q; exact h r (by rw [q])
theorem case_nl (C : CsOk cs) (K : TextOk text) (ih : Run cs text first lone f) {c : Nat} {r : T} (hnl : c = 13 ∨ c = 10)
    (x : At cs text first lone (f + 1) (c :: r) p k l m o ls) : Res cs text first lone p k l m o ls := by
  have hr : lawRight (rl (m == .inq) l) cs text p lone = toZ [13, 10] ++ [cs.getD (rl (m == .inq) true) 0] := by
    rw [right_cons _ _ x.hd, if_neg (not_end (.inr (by omega)) (.inr (by omega))), if_neg (by rintro ⟨q, _⟩; omega), if_pos hnl]; rfl
  have hc' : CanInv (text.take p ++ [13, 10]) true := inv_can x.hc fun tail => can_crlf l tail
  have hx' : ChkInv (text.take p ++ [13, 10]) k m := by
    have := (x.hx.sign 13 (by decide) (by decide) (.inr (by decide))).sign 10 (by decide) (by decide) (.inr (by decide))
    rw [List.append_assoc] at this
    exact this
  have hk := x.hk
  have hls := x.hls
  have hb : (∀ r', ¬ (c = 13 ∧ r = 10 :: r')) → (can true text && chk 0 text) = false := fun hno => by
    refine and_false_l ?_
    rw [val_can x.hd x.hc, can_cons l c r hno (by rintro r' ⟨_, q, _⟩; omega), if_pos (by omega)]
  have hall : ∀ d ∈ ([13, 10] : T), 0 < d ∧ d < 256 ∧ inTab (d : Int) = false := by decide
  rcases cut3 c r with ⟨r', rfl, rfl⟩ | hno
  · exact glide C K ih (m' := m) (l' := true) (w := [13, 10]) (r' := r') rfl hr (by simp) (by simp) x.hd x.hp x.hf (by simp) x.hk x.g x.hls hc' hx' ((x.hm.sign (by decide) (by decide)).sign (by decide) (by decide))
  · rcases hnl with rfl | rfl
    · exact slip C K (m := m) (l' := true) (v := [13]) (c := 10) (u := []) (r' := r) hr (by simp) (by simp) x.hd (by omega) x.g (by omega) hall hc' hx' (hdm_ne fun r' q => hno r' ⟨rfl, q⟩) (by decide) (hb hno)
    · exact slip C K (m := m) (l' := true) (v := []) (c := 13) (u := [10]) (r' := 10 :: r) hr (by simp) (by simp) x.hd (by omega) x.g (by omega) hall hc' hx' (by simp) (by decide) (hb hno)
theorem case_esc (C : CsOk cs) (K : TextOk text) (ih : Run cs text first lone f) {c : Nat} {r : T}
    (x : At cs text first lone (f + 1) (92 :: c :: r) p k l m o ls) : Res cs text first lone p k l m o ls := by
  have hk := x.hk
  have hls := x.hls
  have can1 : ∀ y, can l (92 :: y) = can false y := fun y => can_sign l 92 y (by decide) (by rintro ⟨_, q⟩; cases q)
  by_cases hnl : c = 13 ∨ c = 10
  · have hr : lawRight (rl (m == .inq) l) cs text p lone = toZ [92, 13, 10] ++ [cs.getD (rl (m == .inq) true) 0] := by
      rw [right_cons _ _ x.hd, if_neg (not_end (.inr (by decide)) (.inr (by decide))), if_neg (by rintro ⟨q, _⟩; cases q), if_neg (by decide), if_pos rfl, List.headD_cons, if_pos hnl]; rfl
    have hc' : CanInv (text.take p ++ [92, 13, 10]) true := inv_can x.hc fun tail => by
      show can l (92 :: 13 :: 10 :: tail) = _
      rw [can1, can_crlf]
    have hx' : ChkInv (text.take p ++ [92, 13, 10]) k m := by
      have := (x.hx.esc 13).sign 10 (by decide) (by decide) (.inr (by decide))
      rw [List.append_assoc] at this
      exact this
    have hall : ∀ d ∈ ([92, 13, 10] : T), 0 < d ∧ d < 256 ∧ inTab (d : Int) = false := by decide
    have hb : (∀ r', ¬ (c = 13 ∧ r = 10 :: r')) → (can true text && chk 0 text) = false := fun hno => by
      refine and_false_l ?_
      rw [val_can x.hd x.hc, can1, can_cons false c r hno (by rintro r' ⟨q, _⟩; cases q), if_pos (by omega)]
    rcases cut3 c r with ⟨r', rfl, rfl⟩ | hno
    · exact glide C K ih (m' := m) (l' := true) (w := [92, 13, 10]) (r' := r') rfl hr (by simp) (by simp) x.hd x.hp x.hf (by simp) x.hk x.g x.hls hc' hx' (x.hm.esc.sign (by decide) (by decide))
    · rcases hnl with rfl | rfl
      · exact slip C K (m := m) (l' := true) (v := [92, 13]) (c := 10) (u := []) (r' := r) hr (by simp) (by simp) x.hd (by omega) x.g (by omega) hall hc' hx' (hdm_ne fun r' q => hno r' ⟨rfl, q⟩) (by decide) (hb hno)
      · exact slip C K (m := m) (l' := true) (v := [92]) (c := 13) (u := [10]) (r' := 10 :: r) hr (by simp) (by simp) x.hd (by omega) x.g (by omega) hall hc' hx' (by simp) (by decide) (hb hno)
  · have hr : lawRight (rl (m == .inq) l) cs text p lone = toZ [92, c] ++ [cs.getD (rl (m == .inq) false) 0] := by
      rw [right_cons _ _ x.hd, if_neg (not_end (.inr (by decide)) (.inr (by decide))), if_neg (by rintro ⟨q, _⟩; cases q), if_neg (by decide), if_pos rfl, List.headD_cons, if_neg hnl]; rfl
    refine glide C K ih (m' := m) (l' := false) (w := [92, c]) (r' := r) rfl hr (by simp) (by simp) x.hd x.hp x.hf (by simp) x.hk x.g x.hls (inv_can x.hc fun tail => ?_) (x.hx.esc c) x.hm.esc
    show can l (92 :: c :: tail) = _
    rw [can1, can_sign false c tail (by omega) (by rintro ⟨q, _⟩; cases q)]
theorem case_unquote (C : CsOk cs) (K : TextOk text) (ih : Run cs text first lone f) {r : T}
    (x : At cs text first lone (f + 1) (34 :: r) p k l .inq o ls) : Res cs text first lone p k l .inq o ls := by
  have hk := x.hk
  have hr : lawRight (rl true l) cs text p lone = [] := by
    rw [right_cons _ _ x.hd, if_pos (.inr ⟨rfl, rfl⟩)]
  refine move C K ih (inq := true) (m' := .out) (l' := false) (k' := k) (o' := o) (w := [34]) (r' := r) (trt := []) hr rfl (fun _ q => by cases q) (by decide) x.hd x.hp x.hf (by simp) (by omega) (by simp at hk; omega) x.g x.hls (by simp) (inv_can x.hc fun tail => can_sign l 34 tail (by decide) (by rintro ⟨_, q⟩; cases q)) x.hx.unquote rfl rfl x.hm.unquote
theorem case_open (C : CsOk cs) (K : TextOk text) (ih : Run cs text first lone f) {r : T} (hm : m ≠ .inq)
    (x : At cs text first lone (f + 1) (40 :: r) p k l m o ls) : Res cs text first lone p k l m o ls := by
  have hk := x.hk
  have hmq : (m == .inq) = false := by cases m <;> first | rfl | exact absurd rfl hm
  have hr : lawRight (rl (m == .inq) l) cs text p lone = [40, cs.getD 0 0, 41, cs.getD 0 0] := by
    rw [right_cons _ _ x.hd, hmq, if_neg (not_end (.inr (by decide)) (.inr (by decide))), if_neg (by rintro ⟨q, _⟩; cases q), if_neg (by decide), if_neg (by decide), if_pos ⟨rfl, rfl⟩]
  refine move C K ih (m' := m) (l' := false) (k' := k + 1) (o' := o) (w := [40]) (r' := r) (trt := [40, 41]) hr ?_ ?_ (by simp) x.hd x.hp x.hf (by simp) (by omega) (by simp at hk; omega) x.g x.hls (by simp) (inv_can x.hc fun tail => can_sign l 40 tail (by decide) (by rintro ⟨_, q⟩; cases q)) (x.hx.paren hm) ?_ ?_ (x.hm.sign (by decide) (by decide))
  · show signs' (((40 : Nat) : Int) :: cs.getD 0 0 :: ((41 : Nat) : Int) :: [cs.getD 0 0]) = _
    rw [signs_cons (by decide), signs_cs C (by decide), signs_cons (by decide), signs_cs C (by decide)]; rfl
  · intro n hn
    simp at hn
    rcases hn with rfl | rfl | rfl | rfl
    · exact symOk_sign (c := 40) (by decide)
    · exact symOk_cs C (by decide)
    · exact symOk_sign (c := 41) (by decide)
    · exact symOk_cs C (by decide)
  · rw [hmq]; rfl
  · rw [hmq]; rfl
theorem case_close (C : CsOk cs) (K : TextOk text) (ih : Run cs text first lone f) {r : T} (hm : m ≠ .inq)
    (x : At cs text first lone (f + 1) (41 :: r) p k l m o ls) : Res cs text first lone p k l m o ls := by
  have hk := x.hk
  have hls := x.hls
  have hmq : (m == .inq) = false := by cases m <;> first | rfl | exact absurd rfl hm
  have hr : lawRight (rl (m == .inq) l) cs text p lone = [] := by
    rw [right_cons _ _ x.hd, hmq, if_pos (.inl ⟨rfl, rfl⟩)]
  cases k with
  | succ k =>
    refine move C K ih (m' := m) (l' := false) (k' := k) (o' := o) (w := [41]) (r' := r) (trt := []) hr rfl (fun _ q => by cases q) (by decide) x.hd x.hp x.hf (by simp) (by omega) (by simp at hk; omega) x.g x.hls (by simp) (inv_can x.hc fun tail => can_sign l 41 tail (by decide) (by rintro ⟨_, q⟩; cases q)) (x.hx.unparen hm) ?_ ?_ (x.hm.sign (by decide) (by decide))
    · rw [hmq]; rfl
    · rw [hmq]; rfl
  | zero =>
    obtain ⟨t1, t2⟩ := tail_ok x.hc x.hx
    refine emit C K (rt := []) (trt := []) (o' := o) hr rfl (fun _ q => by cases q) (by decide) (by omega) x.g (by omega) (by simp) t1 t2 fun ls₁ g₁ h₁ => ⟨ls₁, ?_, g₁, by omega⟩
    have hmm : m = .out ∨ (m = .lone ∧ closeQ (41 :: r) = none) := by
      cases m with
      | out => exact .inl rfl
      | inq => exact absurd rfl hm
      | lone => exact .inr ⟨rfl, x.hm.1⟩
    have hb : (can true text && chk 0 text) = false := by
      rw [val_chk x.hd x.hx hmm, chk_cons _ 41 _ (.inl (by decide)) (by decide), if_neg (by decide), if_pos rfl, if_pos (by decide), Bool.and_false]
    rw [hb, hmq]
    have := goEnd (cs := cs) (n := if first = true then 1 else 0) (lone := lone) (o := o) (ls := ls₁) (st := []) x.hp x.hd
    rw [decide_eq_false (by simp)] at this
    exact this
theorem case_quote (C : CsOk cs) (K : TextOk text) (ih : Run cs text first lone f) (hl : first = true → lone = -1) {r : T}
    (x : At cs text first lone (f + 1) (34 :: r) p k l .out o ls) : Res cs text first lone p k l .out o ls := by
  have hk := x.hk
  have hls := x.hls
  have can1 : CanInv (text.take p ++ [34]) false := inv_can x.hc fun tail => can_sign l 34 tail (by decide) (by rintro ⟨_, q⟩; cases q)
  by_cases he : (p : Int) = lone
  · have hr : lawRight (rl false l) cs text p lone = toZ [34] ++ [cs.getD (rl false false) 0] := by
      rw [right_cons _ _ x.hd, if_neg (not_end (.inr (by decide)) (.inl rfl)), if_neg (by rintro ⟨q, _⟩; cases q), if_neg (by decide), if_neg (by decide), if_neg (by rintro ⟨_, q⟩; cases q), if_neg (fun q => q.2 he)]; rfl
    exact glide C K ih (m := .out) (m' := .lone) (l' := false) (w := [34]) (r' := r) rfl hr (by simp) (by simp) x.hd x.hp x.hf (by simp) x.hk x.g x.hls can1 x.hx.lone (x.hm.alone hl he)
  · have hr : lawRight (rl false l) cs text p lone = [34, cs.getD 2 0, 34, cs.getD 0 0] := by
      rw [right_cons _ _ x.hd, if_neg (not_end (.inr (by decide)) (.inl rfl)), if_neg (by rintro ⟨q, _⟩; cases q), if_neg (by decide), if_neg (by decide), if_neg (by rintro ⟨_, q⟩; cases q), if_pos ⟨rfl, he⟩]
    refine move C K ih (inq := false) (m' := .inq) (l' := false) (k' := k) (o' := p) (w := [34]) (r' := r) (trt := [34, 34]) hr ?_ ?_ (by simp) x.hd x.hp x.hf (by simp) (by omega) (by simp at hk; omega) x.g x.hls (by simp) can1 x.hx.quote rfl rfl (x.hm.quote he)
    · show signs' (((34 : Nat) : Int) :: cs.getD 2 0 :: ((34 : Nat) : Int) :: [cs.getD 0 0]) = _
      rw [signs_cons (by decide), signs_cs C (by decide), signs_cons (by decide), signs_cs C (by decide)]; rfl
    · intro n hn
      simp at hn
      rcases hn with rfl | rfl | rfl | rfl
      · exact symOk_sign (c := 34) (by decide)
      · exact symOk_cs C (by decide)
      · exact symOk_sign (c := 34) (by decide)
      · exact symOk_cs C (by decide)
end
theorem run {cs : List Int} {text : T} (C : CsOk cs) (K : TextOk text) {first : Bool} {lone : Int} (hl : first = true → lone = -1)
    (again : first = true → ∀ o : Nat, Unc 0 text o → ∃ ls', Go text cs 0 o [cs.getD 4 0, 0] 0 (-1) [] (can true text && chk 0 text) ls' ∧ Good ls' ∧ ls'.length ≤ 102) : ∀ f, Run cs text first lone f := by
  intro f
  induction f with
  | zero =>
    intro r p k l m o ls hf hd hp hk hc hx hm g hls
    obtain rfl : r = [] := List.length_eq_zero_iff.mp (by omega)
    exact case_nil C K again ⟨hf, hd, hp, hk, hc, hx, hm, g, hls⟩
  | succ f ih =>
    intro r p k l m o ls hf hd hp hk hc hx hm g hls
    have x : At cs text first lone (f + 1) r p k l m o ls := ⟨hf, hd, hp, hk, hc, hx, hm, g, hls⟩
    cases r with
    | nil => exact case_nil C K again x
    | cons c r =>
      by_cases h92 : c = 92
      · subst h92
        cases r with
        | nil => exact absurd rfl (K.end_ p _ hd)
        | cons d r => exact case_esc C K ih x
      · by_cases hnl : c = 13 ∨ c = 10
        · exact case_nl C K ih hnl x
        · by_cases hdot : c = 46 ∧ l = true
          · obtain ⟨rfl, rfl⟩ := hdot
            exact case_dot C K ih x
          · by_cases h34 : c = 34
            · subst h34
              cases m with
              | out => exact case_quote C K ih hl x
              | inq => exact case_unquote C K ih x
              | lone =>
                have := hm.1
                rw [closeQ_cons 34 _ (.inl (by decide)), if_pos rfl] at this
                cases this
            · by_cases hq : m = .inq
              · exact case_sign C K ih h92 h34 (by omega) hdot (.inl hq) x
              · by_cases h40 : c = 40
                · subst h40; exact case_open C K ih hq x
                · by_cases h41 : c = 41
                  · subst h41; exact case_close C K ih hq x
                  · exact case_sign C K ih h92 h34 (by omega) hdot (.inr ⟨h40, h41⟩) x
end Mine

end
section
open PySem
set_option Elab.async false
set_option maxRecDepth 100000
namespace Mine
theorem Go.more {text : T} {cs : List Int} {n : Nat} {lone : Int} {st : List Int} {p : Nat} {o : Int} {ls ls' : Lines} {b : Bool} (g : Go text cs n lone st p o ls b ls') (d : Nat) : Go text cs (n + d) lone st p o ls b ls' := by
  induction g with
  | eof => exact .eof
  | expand role h hj hno hr hend hst hls hne next ih => exact .expand role h hj hno hr hend hst hls hne ih
  | eat c h0 h hat next ih => exact .eat c h0 h hat ih
  | @again n lone st p o ls b ls' hp next ih => rw [Nat.add_right_comm]; exact .again hp ih
  | fail c h0 h h1 h2 => exact .fail c h0 h h1 h2
theorem start {cs : List Int} {text : T} (C : CsOk cs) (K : TextOk text) {first : Bool} {lone : Int} (hl : first = true → lone = -1)
    (again : first = true → ∀ o : Nat, Unc 0 text o → ∃ ls', Go text cs 0 o [cs.getD 4 0, 0] 0 (-1) [] (can true text && chk 0 text) ls' ∧ Good ls' ∧ ls'.length ≤ 102) (hm : ModeHyp text first lone 0 text (-1) .out) :
    ∃ ls', Go text cs (if first = true then 1 else 0) lone [cs.getD 4 0, 0] 0 (-1) [] (can true text && chk 0 text) ls' ∧ Good ls' ∧ ls'.length ≤ 102 := by
  have lk : LineOk [] (([cs.getD 1 0] ++ under cs false 0).dropLast) := lineOk_mk C [] [] [cs.getD 1 0] false 0 (by rw [signs_cs C (by decide)]; rfl) (fun n hn => by rw [List.mem_singleton.mp hn]; exact symOk_cs C (by decide)) (by simp) (by decide) (by simp) rfl rfl
  have hkl := K.len
  obtain ⟨ls', g1, g2, g3⟩ := run C K hl again text.length text 0 0 true .out (-1) [([], ([cs.getD 1 0] ++ under cs false 0).dropLast)] (Nat.le_refl _) rfl (Nat.zero_le _) (by omega) (fun _ => rfl) (fun _ => rfl) hm (fun y hy => by rw [List.mem_singleton.mp hy]; exact lk) (by simp; omega)
  refine ⟨ls', goExpand C (by decide) (K.end_ 0) (by simp) (by simp) (by simp) ?_, g2, g3⟩
  have e : lawRight 4 cs text 0 lone = [cs.getD 1 0] := rfl
  rw [e]
  exact g1
theorem readOk {cs : List Int} {text : T} (C : CsOk cs) (K : TextOk text) : ∃ ls', Go text cs 5 (-1) [cs.getD 4 0, 0] 0 (-1) [] (can true text && chk 0 text) ls' ∧ Good ls' ∧ ls'.length ≤ 102 := by
  obtain ⟨ls', g1, g2, g3⟩ := start C K (first := true) (lone := -1) (fun _ => rfl) (fun _ o u => start C K (first := false) (lone := o) (fun q => (by cases q)) (fun q => (by cases q)) ⟨fun q => (by cases q), fun _ => ⟨o, rfl, u⟩⟩) ⟨fun _ q u => u, fun q => (by cases q)⟩
  exact ⟨ls', g1.more 4, g2, g3⟩
theorem D_last : ∀ (n : Nat) (b : Bool) (l : T), l.length ≤ n → (D b l = [] → l = []) ∧ ((D b l).getLast? = some 92 → l.getLast? = some 92) := by
  intro n
  induction n with
  | zero =>
    intro b l h
    have : l = [] := List.length_eq_zero_iff.mp (by omega)
    subst this; cases b <;> exact ⟨fun _ => rfl, fun q => (by cases q)⟩
  | succ n ih =>
    intro b l h
    have last : ∀ (c c' : Nat) (x y : T), (c = c' ∨ c ≠ 92) → (x = [] → y = []) → (x.getLast? = some 92 → y.getLast? = some 92) → (c :: x).getLast? = some 92 → (c' :: y).getLast? = some 92 := by
      intro c c' x y hc h1 h2 h3
      cases x with
      | nil =>
        obtain rfl := h1 rfl
        simp at h3
        subst h3
        rcases hc with rfl | q
        · rfl
        · exact absurd rfl q
      | cons a x =>
        rw [List.getLast?_cons_cons] at h3
        have := h2 h3
        rw [List.getLast?_cons, this]; rfl
    cases beg b l with
    | nil => cases b <;> exact ⟨fun _ => rfl, fun q => (by cases q)⟩
    | @nl _ r =>
      rw [D_nl]
      obtain ⟨a, c⟩ := ih true r (by simp at h; omega)
      exact ⟨fun q => (by cases q), last 13 13 _ _ (.inl rfl) (fun q => (by cases q)) (last 10 10 _ _ (.inl rfl) a c)⟩
    | @ret _ c r hc hno =>
      rw [D_ret b c r hc hno]
      obtain ⟨a, d⟩ := ih true r (by simpa using h)
      refine ⟨fun q => (by cases q), fun q => ?_⟩
      rw [List.getLast?_cons_cons] at q
      exact last 10 c _ _ (.inr (by decide)) a d q
    | @dot r =>
      rw [D_dot]
      obtain ⟨a, d⟩ := ih false r (by simpa using h)
      refine ⟨fun q => (by cases q), fun q => ?_⟩
      rw [List.getLast?_cons_cons] at q
      exact last 46 46 _ _ (.inl rfl) a d q
    | @esc _ c r hc =>
      rw [D_esc]
      obtain ⟨a, d⟩ := ih false (c :: r) (by simpa using h)
      exact ⟨fun q => (by cases q), last 92 92 _ _ (.inl rfl) a d⟩
    | @escnl _ r =>
      rw [D_esc]
      obtain ⟨a, d⟩ := ih false (13 :: 10 :: r) (by simpa using h)
      exact ⟨fun q => (by cases q), last 92 92 _ _ (.inl rfl) a d⟩
    | @escret _ c r hc hno =>
      rw [D_esc]
      obtain ⟨a, d⟩ := ih false (c :: r) (by simpa using h)
      exact ⟨fun q => (by cases q), last 92 92 _ _ (.inl rfl) a d⟩
    | last => exact ⟨fun q => (by rw [D_esc] at q; cases q), fun _ => rfl⟩
    | @sign _ c r h92 hc hb =>
      rw [D_cons b c r hc hb]
      obtain ⟨a, d⟩ := ih false r (by simpa using h)
      exact ⟨fun q => (by cases q), last c c _ _ (.inl rfl) a d⟩
theorem mem_dots : ∀ (b : Bool) (l : T), ∀ c ∈ dots b l, c = 46 ∨ c ∈ l
  | _, [], _, h => by simp [dots] at h
  | b, a :: r, c, h => by
    rw [dots] at h
    split at h
    · rcases List.mem_cons.mp h with q | h
      · exact .inl q
      · rcases List.mem_cons.mp h with q | h
        · exact .inl q
        · exact (mem_dots _ r c h).imp id fun q => List.mem_cons_of_mem _ q
    · rcases List.mem_cons.mp h with q | h
      · exact .inr (by rw [q]; exact List.mem_cons_self ..)
      · exact (mem_dots _ r c h).imp id fun q => List.mem_cons_of_mem _ q
theorem dots_len : ∀ (b : Bool) (l : T), (dots b l).length ≤ 2 * l.length
  | _, [] => by simp [dots]
  | b, a :: r => by
    rw [dots]
    split
    · have := dots_len false r; simp; omega
    · have := dots_len (a == 10) r; simp; omega
theorem mem_crlf : ∀ (n : Nat) (l : T), l.length ≤ n → ∀ c ∈ crlf l, c = 13 ∨ c = 10 ∨ c ∈ l := by
  intro n
  induction n with
  | zero =>
    intro l h c hc
    have : l = [] := List.length_eq_zero_iff.mp (by omega)
    subst this; cases hc
  | succ n ih =>
    intro l h c hc
    cases l with
    | nil => cases hc
    | cons a r =>
      rcases cut3 a r with ⟨r', rfl, rfl⟩ | hno
      · rw [show crlf (13 :: 10 :: r') = 13 :: 10 :: crlf r' by simp [crlf]] at hc
        rcases List.mem_cons.mp hc with q | hc
        · exact .inl q
        · rcases List.mem_cons.mp hc with q | hc
          · exact .inr (.inl q)
          · rcases ih r' (by simp at h; omega) c hc with q | q | q
            · exact .inl q
            · exact .inr (.inl q)
            · exact .inr (.inr (by simp [q]))
      · rw [crlf_cons a r hno] at hc
        have key : c ∈ crlf r → c = 13 ∨ c = 10 ∨ c ∈ a :: r := fun hc => by
          rcases ih r (by simpa using h) c hc with q | q | q
          · exact .inl q
          · exact .inr (.inl q)
          · exact .inr (.inr (by simp [q]))
        split at hc
        · rcases List.mem_cons.mp hc with q | hc
          · exact .inl q
          · rcases List.mem_cons.mp hc with q | hc
            · exact .inr (.inl q)
            · exact key hc
        · rcases List.mem_cons.mp hc with q | hc
          · exact .inr (.inr (by rw [q]; exact List.mem_cons_self ..))
          · exact key hc
theorem textOk_sent {l : T} (K : TextOk l) (hl : l.length ≤ 9) : TextOk (quoted l) := by
  refine ⟨fun c hc => ?_, fun q => K.last ((D_last _ true l (Nat.le_refl _)).2 q), ?_⟩
  · rcases mem_dots _ _ c hc with rfl | hc
    · decide
    · rcases mem_crlf _ l (Nat.le_refl _) c hc with rfl | rfl | hc
      · decide
      · decide
      · exact K.sign c hc
  · have h1 := dots_len true (crlf l)
    have h2 := crlf_len l
    show (dots true (crlf l)).length ≤ 50
    omega
theorem kinds_ok (n : Nat) : ∀ c ∈ kinds10.getD n [], 0 < c ∧ c < 256 ∧ inTab (c : Int) = false := by
  rcases Nat.lt_or_ge n 10 with q | q
  · match n, q with
    | 0, _ | 1, _ | 2, _ | 3, _ | 4, _ | 5, _ | 6, _ | 7, _ | 8, _ | 9, _ => decide
  · rw [List.getD_eq_getElem?_getD, List.getElem?_eq_none (by exact q)]
    intro c hc; cases hc
theorem textOk_law (xs : List Int) : TextOk (lawText xs) ∧ (lawText xs).length ≤ 9 := by
  have hr : ∀ c ∈ rawText xs, 0 < c ∧ c < 256 ∧ inTab (c : Int) = false := fun c hc => by
    unfold rawText at hc
    obtain ⟨z, hz, hc⟩ := List.mem_flatten.mp hc
    obtain ⟨k, _, rfl⟩ := List.mem_map.mp hz
    exact kinds_ok _ c hc
  have hl := rawText_len xs
  unfold lawText
  split
  · refine ⟨⟨fun c hc => ?_, by simp, by simp; omega⟩, by simp; omega⟩
    rcases List.mem_append.mp hc with q | q
    · exact hr c q
    · rw [List.mem_singleton.mp q]; decide
  · rename_i h
    exact ⟨⟨hr, h, by omega⟩, by omega⟩
theorem plainLaw (xs : List Int) : ∃ letter sent x cs taken early much few, LawOk xs letter sent x cs taken early much few := by
  obtain ⟨K, hl⟩ := textOk_law xs
  generalize hL : lawText xs = l at K hl
  have K' := textOk_sent K hl
  have hx0 : 0 ≤ (((xs.drop 8).take 1).sum + 5) % 390 := Int.emod_nonneg _ (by decide)
  have hx1 : (((xs.drop 8).take 1).sum + 5) % 390 < 390 := Int.emod_lt_of_pos _ (by decide)
  obtain ⟨x, hx⟩ := Int.eq_ofNat_of_zero_le hx0
  have hx2 : x < 390 := by omega
  have C := csOk_codes x hx2
  obtain ⟨much, a1, a2, a3⟩ := readOk C K'
  obtain ⟨few, b1, b2, b3⟩ := readOk C K
  have h1 := un_len _ true l (Nat.le_refl _)
  have h2 := rep_len [13, 10] [10] (by decide) (by decide) _ l (Nat.le_refl _)
  have h3 := rep_len [13] [10] (by decide) (by decide) _ (rep [13, 10] [10] l) (Nat.le_refl _)
  obtain ⟨c1, c2⟩ := C.big 4 (by decide)
  refine ⟨l, quoted l, x, lawCodes x, can true (quoted l) && chk 0 (quoted l), can true l && chk 0 l, much, few, ?_⟩
  exact {
    letter_ := hL
    x_ := hx
    xl := hx2
    cs_ := rfl
    sent_ := rfl
    ll := hl
    sl := by have := K'.len; omega
    ul := by rw [unsent_un]; omega
    c4 := C.out
    c4r := ⟨by omega, c2⟩
    csl := C.len
    unq := unsent_law l
    rl := ⟨by omega, by omega⟩
    g1 := a1
    g2 := b1
    k1 := by rw [check_chk, can_sent, Bool.true_and]
    k2 := by rw [← check_sent, check_chk, can_sent, Bool.true_and]
    e1 := by
      have e : can true l = decide (quoted (unsent l) = l) := by
        rw [Bool.eq_iff_iff]
        simp [can_iff]
      rw [can_sent, Bool.true_and, ← e, ← check_chk (quoted l), check_sent, check_chk, Bool.and_comm]
    m1 := a2
    m2 := b2
    n1 := by omega
    n2 := by omega }
end Mine

end
theorem PySem.Challenge.cw_sh0014_01_holds : PySem.Challenge.rw_sh0014_01.Holds :=
  Mine.joined Mine.left fun xs _ => Mine.plainLaw xs
