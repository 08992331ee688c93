import PyProof.Rows.All
import Wide.All
import OpenK.AllK
import Wide.FinOn
import Lean
import PySem.Challenge.RW_pe0140_03
set_option Elab.async false
set_option maxRecDepth 100000
set_option maxHeartbeats 8000000
set_option compiler.extract_closed false
namespace Mine
section
open PySem PySem.W
open PySem.Sre

abbrev C1 : Array Nat := #[14, 4, 0, 1, 1, 6, 1, 16, 46, 1]
abbrev C2 : Array Nat := #[14, 9, 4, 1, 2, 16, 10, 16, 13, 0, 7, 7, 16, 13, 16, 10, 15, 18, 5, 16, 10, 15, 13, 11, 16, 13, 5, 5, 0, 16, 10, 1, 15, 2, 0, 1]

theorem runFor_done (k : Nat) (m : M) (h : m.outcome.isSome = true) : M.runFor k m = m := by
  cases k with
  | zero => rfl
  | succ k => unfold M.runFor; simp [h]
theorem runFor_add (n k : Nat) (m : M) : M.runFor (n + k) m = M.runFor k (M.runFor n m) := by
  induction n generalizing m with
  | zero => simp [M.runFor]
  | succ n ih =>
    by_cases h : m.outcome.isSome = true
    · rw [runFor_done _ _ h, runFor_done _ _ h, runFor_done _ _ h]
    · have e : ∀ j, M.runFor (j + 1) m = M.runFor j m.step := fun j => by
        show (if m.outcome.isSome = true then m else M.runFor j m.step) = _
        rw [if_neg h]
      rw [Nat.succ_add, e, e, ih]
theorem runFor_succ (j : Nat) (m : M) (h : m.outcome.isSome = false) : M.runFor (j + 1) m = M.runFor j m.step := by
  show (if m.outcome.isSome = true then m else M.runFor j m.step) = _
  rw [h]; rfl

/-- state at an attempt at s -/
abbrev st1 (text : Array Nat) (lim s : Nat) (b : Bool) (σ : Sre.Seen) : M :=
  { code := C1, text, lim, start := s, lastStart := lim, pc := 5, pos := s, handed := s, outermost := b, marks := #[], frames := [{ wait := .nextStart, pc := 5, pos := s, outermost := b }], weight := 1, seen := σ }

theorem cond1 (lim i : Nat) : (decide (i > lim) || decide (lim - i < (header C1).1)) = decide (¬ i < lim) := by
  show (decide (i > lim) || decide (lim - i < 1)) = decide (¬ i < lim)
  by_cases h : i < lim
  · simp only [h, not_true_eq_false, decide_false, Bool.or_eq_false_iff, decide_eq_false_iff_not]; omega
  · simp only [h, not_false_eq_true, decide_true, Bool.or_eq_true, decide_eq_true_eq]; omega
theorem search1 (text : Array Nat) (lim i : Nat) (h : i < lim) : forSearch C1 text 0 i lim false = st1 text lim i true (({} : Sre.Seen).add 14) := by
  unfold forSearch
  dsimp only
  rw [cond1]
  simp only [h, not_true_eq_false, decide_false]
  rfl
theorem search1_end (text : Array Nat) (lim i : Nat) (h : ¬ i < lim) : (M.runFor 2 (forSearch C1 text 0 i lim false)).outcome = some .failed := by
  unfold forSearch
  dsimp only
  rw [cond1]
  simp only [h, not_false_eq_true, decide_true]
  rfl

theorem step1_at (text : Array Nat) (lim s : Nat) (b : Bool) (σ : Sre.Seen) :
   (st1 text lim s b σ).step = if (s == 0 || text.getD (s - 1) 0 == 10) = true then { st1 text lim s b σ with pc := 7, seen := (σ.add 6).add 44 } else { st1 text lim s b σ with answer := some false, seen := (σ.add 6).add 44 } := rfl

theorem step_lit (m : M) (ho : m.outcome = none) (ha : m.answer = none) (hpc : m.pc < m.code.size) (hop : m.code.getD m.pc 0 = 16) (hp : m.pos < m.lim) (hw : itemWidth m.code m.pc = 2) :
    m.step = if (m.text.getD m.pos 0 == m.code.getD (m.pc + 1) 0) = true then { m with seen := m.seen.add 16, pc := m.pc + 2, pos := m.pos + 1 } else { m with seen := m.seen.add 16, answer := some false } := by
  unfold M.step
  rw [ho, ha]
  simp only [Option.isSome_none, Bool.false_eq_true, if_false, if_pos hpc]
  unfold M.exec
  have e : ops[m.word 0]? = some .LITERAL := by
    show ops[m.code.getD m.pc 0]? = _
    rw [hop]; rfl
  rw [e]
  have e2 : m.word 0 = 16 := hop
  simp only [e2]
  rw [if_neg (Nat.not_le.mpr hp)]
  have e3 : ∀ sn, accepts m.code m.pc (m.text.getD m.pos 0) sn = .ok (m.text.getD m.pos 0 == m.code.getD (m.pc + 1) 0, sn) := by
    intro sn
    unfold accepts
    rw [hop]
    rfl
  rw [e3]
  cases (m.text.getD m.pos 0 == m.code.getD (m.pc + 1) 0)
  · simp only [M.say, ho]; rfl
  · simp only [hw, ha, ho]; rfl
theorem step_lit_end (m : M) (ho : m.outcome = none) (ha : m.answer = none) (hpc : m.pc < m.code.size) (hop : m.code.getD m.pc 0 = 16) (hp : ¬ m.pos < m.lim) :
    m.step = { m with seen := m.seen.add 16, answer := some false } := by
  unfold M.step
  rw [ho, ha]
  simp only [Option.isSome_none, Bool.false_eq_true, if_false, if_pos hpc]
  unfold M.exec
  have e : ops[m.word 0]? = some .LITERAL := by
    show ops[m.code.getD m.pc 0]? = _
    rw [hop]; rfl
  rw [e]
  have e2 : m.word 0 = 16 := hop
  simp only [e2]
  rw [if_pos (Nat.not_lt.mp hp)]
  simp only [M.say, ho]

/-- what a search gives -/
def Finds (code text : Array Nat) (lim i : Nat) (r : Option (Nat × Nat)) : Prop :=
  ∃ n m, n ≤ 2 ^ 60 ∧ M.runFor n (forSearch code text 0 i lim false) = m ∧ match r with
    | some (b, e) => m.outcome = some .matched ∧ m.start = b ∧ m.handed = e
    | none => m.outcome = some .failed

theorem one (m : M) (h : m.outcome.isSome = false) : M.runFor 1 m = m.step := runFor_succ 0 m h

theorem step1_no (text : Array Nat) (lim s : Nat) (b : Bool) (σ : Sre.Seen) (hs : s < lim) (h : ¬ ((s = 0 ∨ text.getD (s - 1) 0 = 10) ∧ text.getD s 0 = 46)) :
    ∃ σ' n, n ≤ 3 ∧ M.runFor n (st1 text lim s b σ) = st1 text lim (s + 1) false σ' := by
  by_cases h1 : (s == 0 || text.getD (s - 1) 0 == 10) = true
  · have h2 : (text.getD s 0 == 46) = false := by
      simp only [Bool.or_eq_true, beq_iff_eq] at h1
      simp only [beq_eq_false_iff_ne, ne_eq]
      exact fun e => h ⟨h1, e⟩
    refine ⟨?s, 3, Nat.le_refl _, ?_⟩
    rotate_left
    · rw [runFor_succ 2 _ rfl, step1_at, if_pos h1, runFor_succ 1 _ rfl, step_lit _ rfl rfl (show 7 < 10 from by decide) rfl hs rfl]
      dsimp only
      rw [show C1.getD (7 + 1) 0 = 46 from rfl, h2]
      simp only [Bool.false_eq_true, if_false]
      rw [one _ rfl]
      show (if s < lim then _ else _) = _
      rw [if_pos hs]
      rfl
  · refine ⟨?s2, 2, by decide, ?_⟩
    rotate_left
    · rw [runFor_succ 1 _ rfl, step1_at, if_neg h1, one _ rfl]
      show (if s < lim then _ else _) = _
      rw [if_pos hs]
      rfl
theorem step1_yes (text : Array Nat) (lim s : Nat) (b : Bool) (σ : Sre.Seen) (hs : s < lim) (h : ((s = 0 ∨ text.getD (s - 1) 0 = 10) ∧ text.getD s 0 = 46)) :
    (M.runFor 5 (st1 text lim s b σ)).outcome = some .matched ∧ (M.runFor 5 (st1 text lim s b σ)).start = s ∧ (M.runFor 5 (st1 text lim s b σ)).handed = s + 1 := by
  have h1 : (s == 0 || text.getD (s - 1) 0 == 10) = true := by
    simp only [Bool.or_eq_true, beq_iff_eq]; exact h.1
  have h2 : (text.getD s 0 == 46) = true := by simp only [beq_iff_eq]; exact h.2
  rw [runFor_succ 4 _ rfl, step1_at, if_pos h1, runFor_succ 3 _ rfl, step_lit _ rfl rfl (show 7 < 10 from by decide) rfl hs rfl]
  dsimp only
  rw [show C1.getD (7 + 1) 0 = 46 from rfl, h2]
  simp only [if_true]
  cases b <;> exact ⟨rfl, rfl, rfl⟩
theorem fail_end (m : M) (lim pc : Nat) (b : Bool) (ho : m.outcome = none) (ha : m.answer = some false) (hf : m.frames = [{ wait := .nextStart, pc := pc, pos := lim, outermost := b }]) (hl : m.lastStart = lim) :
    (M.runFor 2 m).outcome = some .failed := by
  rw [runFor_succ 1 _ (by rw [ho]; rfl)]
  have e : m.step.answer = some false ∧ m.step.frames = [] ∧ m.step.outcome = none := by
    unfold M.step
    rw [ho, ha, hf]
    simp only [Option.isSome_none, Bool.false_eq_true, if_false]
    show ((if lim < m.lastStart then _ else _ : M).answer = _ ∧ (if lim < m.lastStart then _ else _ : M).frames = _ ∧ (if lim < m.lastStart then _ else _ : M).outcome = _)
    rw [hl, if_neg (Nat.lt_irrefl _)]
    exact ⟨rfl, rfl, rfl⟩
  obtain ⟨e2, e3, e4⟩ := e
  rw [one _ (by rw [e4]; rfl)]
  generalize m.step = m' at *
  unfold M.step
  rw [e4, e2, e3]
  rfl
theorem step1_end (text : Array Nat) (lim : Nat) (b : Bool) (σ : Sre.Seen) :
    ∃ n, n ≤ 4 ∧ (M.runFor n (st1 text lim lim b σ)).outcome = some .failed := by
  by_cases h1 : (lim == 0 || text.getD (lim - 1) 0 == 10) = true
  · refine ⟨4, Nat.le_refl _, ?_⟩
    rw [runFor_succ 3 _ rfl, step1_at, if_pos h1, runFor_succ 2 _ rfl, step_lit_end _ rfl rfl (show 7 < 10 from by decide) rfl (Nat.lt_irrefl _)]
    exact fail_end _ lim 5 b rfl rfl rfl rfl
  · refine ⟨3, by decide, ?_⟩
    rw [runFor_succ 2 _ rfl, step1_at, if_neg h1]
    exact fail_end _ lim 5 b rfl rfl rfl rfl

/-- what the substitution with repl makes of the text behind i -/
def SubSpec (code text repl : Array Nat) (res : Nat → List Nat) : Prop :=
  ∀ i, i ≤ text.size → ∃ r, Finds code text text.size i r ∧ match r with
    | none => res i = text.toList.drop i
    | some (b, e) => i ≤ b ∧ b < e ∧ e ≤ text.size ∧ res i = (text.toList.drop i).take (b - i) ++ repl.toList ++ res e

def dotL : Bool → List Nat → List Nat
  | _, [] => []
  | b, c :: r => if (b && c == 46) = true then 46 :: 46 :: dotL false r else c :: dotL (c == 10) r
def res1 (text : Array Nat) (i : Nat) : List Nat := dotL (i == 0 || text.getD (i - 1) 0 == 10) (text.toList.drop i)

theorem drop_at {text : Array Nat} {s : Nat} (h : s < text.size) : text.toList.drop s = text.getD s 0 :: text.toList.drop (s + 1) := by
  have e : text.getD s 0 = text.toList[s]'(by simpa using h) := by simp [Array.getD, h]
  rw [e]
  exact List.drop_eq_getElem_cons _

theorem find1 (text : Array Nat) : ∀ k s b σ, s + k = text.size → ∃ n r, n ≤ 5 * k + 5 ∧ (match r with
      | some (p, e) => (M.runFor n (st1 text text.size s b σ)).outcome = some .matched ∧ (M.runFor n (st1 text text.size s b σ)).start = p ∧ (M.runFor n (st1 text text.size s b σ)).handed = e
      | none => (M.runFor n (st1 text text.size s b σ)).outcome = some .failed) ∧ match r with
    | none => res1 text s = text.toList.drop s
    | some (p, e) => s ≤ p ∧ p < e ∧ e ≤ text.size ∧ res1 text s = (text.toList.drop s).take (p - s) ++ [46, 46] ++ res1 text e := by
  intro k
  induction k with
  | zero =>
    intro s b σ hk
    have hs : s = text.size := by omega
    subst hs
    obtain ⟨n, hn, ho⟩ := step1_end text text.size b σ
    refine ⟨n, none, by omega, ho, ?_⟩
    have : text.toList.drop text.size = [] := by simp
    show dotL _ (text.toList.drop text.size) = text.toList.drop text.size
    rw [this]; rfl
  | succ k ih =>
    intro s b σ hk
    have hs : s < text.size := by omega
    by_cases hit : (s = 0 ∨ text.getD (s - 1) 0 = 10) ∧ text.getD s 0 = 46
    · refine ⟨5, some (s, s + 1), by omega, step1_yes text text.size s b σ hs hit, Nat.le_refl _, by omega, by omega, ?_⟩
      have h1 : (s == 0 || text.getD (s - 1) 0 == 10) = true := by
        simp only [Bool.or_eq_true, beq_iff_eq]; exact hit.1
      show dotL _ (text.toList.drop s) = (text.toList.drop s).take (s - s) ++ [46, 46] ++ dotL _ (text.toList.drop (s + 1))
      rw [drop_at hs, h1, hit.2, Nat.sub_self]
      have h2 : ((s + 1 == 0) || text.getD (s + 1 - 1) 0 == 10) = false := by
        rw [Nat.add_sub_cancel, hit.2]; rfl
      rw [h2]; rfl
    · obtain ⟨σ', n₀, hn₀, e₀⟩ := step1_no text text.size s b σ hs hit
      obtain ⟨n, r, hn, h1, h2⟩ := ih (s + 1) false σ' (by omega)
      have e := runFor_add n₀ n (st1 text text.size s b σ)
      rw [e₀] at e
      have hres : res1 text s = text.getD s 0 :: res1 text (s + 1) := by
        show dotL _ (text.toList.drop s) = _
        rw [drop_at hs]
        show (if _ then _ else _) = _
        rw [if_neg]
        · rfl
        · simp only [Bool.and_eq_true, Bool.or_eq_true, beq_iff_eq]; exact hit
      refine ⟨n₀ + n, r, by omega, ?_, ?_⟩
      · rw [e]; exact h1
      · cases r with
        | none => rw [hres, drop_at hs, h2]
        | some q =>
          obtain ⟨p, en⟩ := q
          obtain ⟨a1, a2, a3, a4⟩ := h2
          refine ⟨by omega, a2, a3, ?_⟩
          rw [hres, drop_at hs, a4, show p - s = (p - (s + 1)) + 1 from by omega]
          rfl
theorem spec1 (text : Array Nat) (hsz : text.size ≤ 2 ^ 40) : SubSpec C1 text #[46, 46] (res1 text) := by
  intro i hi
  by_cases h : i < text.size
  · obtain ⟨n, r, hn, h1, h2⟩ := find1 text (text.size - i) i true (({} : Sre.Seen).add 14) (by omega)
    refine ⟨r, ⟨n, _, by omega, by rw [search1 _ _ _ h], ?_⟩, h2⟩
    exact h1
  · refine ⟨none, ⟨2, _, by omega, rfl, search1_end _ _ _ h⟩, ?_⟩
    have e : text.toList.drop i = [] := by
      rw [List.drop_eq_nil_iff]; simp; omega
    show dotL _ (text.toList.drop i) = _
    rw [e]; rfl

def Goes (N : Nat) (m : M) (P : M → Prop) : Prop := ∃ n, n ≤ N ∧ P (M.runFor n m)
theorem goes_step {N : Nat} {m m' : M} {P : M → Prop} (h : m.outcome.isSome = false) (e : m.step = m') (g : Goes N m' P) : Goes (N + 1) m P := by
  obtain ⟨n, hn, hp⟩ := g
  exact ⟨n + 1, by omega, by rw [runFor_succ n m h, e]; exact hp⟩
theorem goes_now {N : Nat} {m : M} {P : M → Prop} (h : P m) : Goes N m P := ⟨0, Nat.zero_le _, h⟩

abbrev B2 (text : Array Nat) (lim p pc pos : Nat) (fr : List Sre.Frame) (wt : Nat) (om : Bool) (an : Option Bool) (hd : Nat) (σ : Sre.Seen) : M :=
  { code := C2, text, lim, start := p, lastStart := lim, pc, pos, handed := hd, outermost := om, marks := #[], frames := fr, weight := wt, answer := an, seen := σ }
abbrev fNS (p : Nat) : Sre.Frame := { wait := .nextStart, pc := 10, pos := p, outermost := true }
abbrev fNB (p pc : Nat) : Sre.Frame := { wait := .nextBranch, pc := pc, pos := p, outermost := true }
abbrev fLN (p : Nat) : Sre.Frame := { wait := .lookNot, pc := 26, pos := p, outermost := true }

theorem lit2_yes {N : Nat} {text : Array Nat} {lim p pc pos : Nat} {fr : List Sre.Frame} {wt : Nat} {om : Bool} {hd c : Nat} {σ : Sre.Seen} {P : M → Prop} (hc : text.getD pos 0 = c) (hp : pos < lim)
    (h0 : C2.getD pc 0 = 16) (h1 : C2.getD (pc + 1) 0 = c) (h2 : itemWidth C2 pc = 2) (h3 : pc < 36)
    (g : Goes N (B2 text lim p (pc + 2) (pos + 1) fr wt om none hd (σ.add 16)) P) : Goes (N + 1) (B2 text lim p pc pos fr wt om none hd σ) P := by
  refine goes_step rfl ?_ g
  rw [step_lit _ rfl rfl h3 h0 hp h2]
  dsimp only
  rw [hc, h1, if_pos (beq_self_eq_true c)]
theorem lit2_no {N : Nat} {text : Array Nat} {lim p pc pos : Nat} {fr : List Sre.Frame} {wt : Nat} {om : Bool} {hd c : Nat} {σ : Sre.Seen} {P : M → Prop} (hc : pos < lim → text.getD pos 0 ≠ c)
    (h0 : C2.getD pc 0 = 16) (h1 : C2.getD (pc + 1) 0 = c) (h2 : itemWidth C2 pc = 2) (h3 : pc < 36)
    (g : Goes N (B2 text lim p pc pos fr wt om (some false) hd (σ.add 16)) P) : Goes (N + 1) (B2 text lim p pc pos fr wt om none hd σ) P := by
  refine goes_step rfl ?_ g
  by_cases hp : pos < lim
  · rw [step_lit _ rfl rfl h3 h0 hp h2]
    dsimp only
    rw [h1]
    have := hc hp
    rw [if_neg (by simpa only [beq_iff_eq] using this)]
  · rw [step_lit_end _ rfl rfl h3 h0 hp]

def Ends2 (p e : Nat) (m : M) : Prop := m.outcome = some .matched ∧ m.start = p ∧ m.handed = e
section
variable {text : Array Nat} {lim p pos nb hd : Nat} {σ : Sre.Seen}
theorem s2a : (B2 text lim p 35 pos [fNB p nb, fNS p] 2 true none hd σ).step = B2 text lim p 35 pos [fNB p nb, fNS p] 2 true (some true) pos (σ.add 1) := rfl
theorem s2b : (B2 text lim p 35 pos [fNB p nb, fNS p] 2 true (some true) hd σ).step = B2 text lim p nb p [fNS p] 1 true (some true) hd σ := rfl
theorem s2c : (B2 text lim p nb pos [fNS p] 1 true (some true) hd σ).step = B2 text lim p 10 p [] 0 true (some true) hd σ := rfl
theorem s2d : Ends2 p hd (B2 text lim p 10 pos [] 0 true (some true) hd σ).step := ⟨rfl, rfl, rfl⟩
theorem s2e : (B2 text lim p 10 p [fNS p] 1 true none hd σ).step = B2 text lim p 12 p [fNB p 11, fNS p] 2 true none p (σ.add 7) := rfl
theorem s2f : (B2 text lim p nb pos [fNB p 11, fNS p] 2 true (some false) hd σ).step = B2 text lim p 19 p [fNB p 18, fNS p] 2 true none p σ := rfl
theorem s2g : (B2 text lim p nb pos [fNB p 18, fNS p] 2 true (some false) hd σ).step = B2 text lim p 24 p [fNB p 23, fNS p] 2 true none p σ := rfl
theorem s2h : (B2 text lim p 21 pos [fNB p nb, fNS p] 2 true none hd σ).step = B2 text lim p 35 pos [fNB p nb, fNS p] 2 true none hd (σ.add 15) := rfl
theorem s2i : (B2 text lim p 16 pos [fNB p nb, fNS p] 2 true none hd σ).step = B2 text lim p 35 pos [fNB p nb, fNS p] 2 true none hd (σ.add 15) := rfl
theorem s2j : (B2 text lim p 32 pos [fNB p nb, fNS p] 2 true none hd σ).step = B2 text lim p 35 pos [fNB p nb, fNS p] 2 true none hd (σ.add 15) := rfl
theorem s2k : (B2 text lim p 26 pos [fNB p nb, fNS p] 2 true none hd σ).step = B2 text lim p 29 pos [fLN pos, fNB p nb, fNS p] 3 false none pos (σ.add 5) := by
  unfold M.step
  simp only [Option.isSome_none, Bool.false_eq_true, if_false]
  rfl
theorem s2l {q : Nat} : (B2 text lim p 29 pos [fLN q, fNB p nb, fNS p] 3 false (some false) hd σ).step = B2 text lim p 32 q [fNB p nb, fNS p] 2 true none hd σ := rfl
end

theorem tail2 {text : Array Nat} {lim p pos : Nat} {nb : Nat} {hd : Nat} {σ : Sre.Seen} : Goes 5 (B2 text lim p 35 pos [fNB p nb, fNS p] 2 true none hd σ) (Ends2 p pos) :=
  goes_step rfl s2a (goes_step rfl s2b (goes_step rfl s2c (goes_step rfl rfl (goes_now s2d))))
theorem goes_le {N N' : Nat} {m : M} {P : M → Prop} (g : Goes N m P) (h : N ≤ N') : Goes N' m P := let ⟨n, a, b⟩ := g; ⟨n, Nat.le_trans a h, b⟩
theorem at10 {text : Array Nat} {lim p : Nat} {σ : Sre.Seen} (hp : p < lim) (hc : text.getD p 0 = 10) : Goes 20 (B2 text lim p 10 p [fNS p] 1 true none p σ) (Ends2 p (p + 1)) := by
  refine goes_step rfl s2e ?_
  refine lit2_no (c := 13) (fun _ => by rw [hc]; decide) rfl rfl rfl (by decide) ?_
  refine goes_step rfl s2f ?_
  refine lit2_yes (c := 10) hc hp rfl rfl rfl (by decide) ?_
  refine goes_step rfl s2h ?_
  exact goes_le tail2 (by decide)
theorem at1310 {text : Array Nat} {lim p : Nat} {σ : Sre.Seen} (hp : p + 1 < lim) (hc : text.getD p 0 = 13) (hd : text.getD (p + 1) 0 = 10) : Goes 20 (B2 text lim p 10 p [fNS p] 1 true none p σ) (Ends2 p (p + 2)) := by
  refine goes_step rfl s2e ?_
  refine lit2_yes (c := 13) hc (by omega) rfl rfl rfl (by decide) ?_
  refine lit2_yes (c := 10) hd hp rfl rfl rfl (by decide) ?_
  refine goes_step rfl s2i ?_
  exact goes_le tail2 (by decide)
theorem at13 {text : Array Nat} {lim p : Nat} {σ : Sre.Seen} (hp : p < lim) (hc : text.getD p 0 = 13) (hd : p + 1 < lim → text.getD (p + 1) 0 ≠ 10) : Goes 30 (B2 text lim p 10 p [fNS p] 1 true none p σ) (Ends2 p (p + 1)) := by
  refine goes_step rfl s2e ?_
  refine lit2_yes (c := 13) hc (by omega) rfl rfl rfl (by decide) ?_
  refine lit2_no (c := 10) hd rfl rfl rfl (by decide) ?_
  refine goes_step rfl s2f ?_
  refine lit2_no (c := 10) (fun _ => by rw [hc]; decide) rfl rfl rfl (by decide) ?_
  refine goes_step rfl s2g ?_
  refine lit2_yes (c := 13) hc (by omega) rfl rfl rfl (by decide) ?_
  refine goes_step rfl s2k ?_
  refine lit2_no (c := 10) hd rfl rfl rfl (by decide) ?_
  refine goes_step rfl s2l ?_
  refine goes_step rfl s2j ?_
  exact goes_le tail2 (by decide)

theorem inSet2 (c : Nat) (σ : Sre.Seen) : ∃ σ', inSet C2 c C2.size 5 true σ = .ok (c == 10 || c == 13, σ') := by
  show ∃ σ', (if (c == 10) = true then Except.ok (true, σ.add 16) else if (c == 13) = true then Except.ok (true, (σ.add 16).add 16) else Except.ok (false, ((σ.add 16).add 16).add 0)) = _
  by_cases h1 : (c == 10) = true
  · rw [if_pos h1, h1]; exact ⟨_, rfl⟩
  · rw [if_neg h1, Bool.eq_false_iff.mpr h1]
    by_cases h2 : (c == 13) = true
    · rw [if_pos h2, h2]; exact ⟨_, rfl⟩
    · rw [if_neg h2, Bool.eq_false_iff.mpr h2]; exact ⟨_, rfl⟩

/-- the first place at or behind s that holds a line end's sign -/
def eolAt (text : Array Nat) : Nat → Nat → Option Nat
  | 0, _ => none
  | k + 1, s => if (text.getD s 0 == 10 || text.getD s 0 == 13) = true then some s else eolAt text k (s + 1)
theorem admitted2 (text : Array Nat) (m : M) (hc : m.code = C2) (ht : m.text = text) (lim : Nat) (hl : m.lim = lim) : ∀ k s σ, s + k = lim → ∃ σ', M.admitted m (k + 1) s σ = .ok (eolAt text k s, σ')
  | 0, s, σ, h => by
    unfold M.admitted
    rw [if_pos (by omega)]
    exact ⟨_, rfl⟩
  | k + 1, s, σ, h => by
    unfold M.admitted
    rw [if_neg (by omega), hc, ht]
    obtain ⟨σ', e⟩ := inSet2 (text.getD s 0) σ
    rw [e]
    unfold eolAt
    cases h2 : (text.getD s 0 == 10 || text.getD s 0 == 13)
    · simp only [Bool.false_eq_true, if_false]
      exact admitted2 text m hc ht lim hl k (s + 1) σ' (by omega)
    · simp only [if_true]
      exact ⟨_, rfl⟩

theorem cond2 (lim i : Nat) : (decide (i > lim) || decide (lim - i < (header C2).1)) = decide (¬ i < lim) := cond1 lim i
theorem search2_end (text : Array Nat) (lim i : Nat) (h : ¬ i < lim) : (M.runFor 2 (forSearch C2 text 0 i lim false)).outcome = some .failed := by
  unfold forSearch
  dsimp only
  rw [cond2]
  simp only [h, not_false_eq_true, decide_true]
  rfl
abbrev m02 (text : Array Nat) (lim i : Nat) : M := { code := C2, text, lim, start := i, lastStart := lim, pc := 10, pos := i, handed := i, marks := #[], seen := ({} : Sre.Seen).add 14 }
theorem search2_eq (text : Array Nat) (lim i : Nat) (h : i < lim) : forSearch C2 text 0 i lim false = (match M.admitted (m02 text lim i) (lim + 1 - i) i (({} : Sre.Seen).add 14) with
    | .ok (some s, seen) => ({ m02 text lim i with mustAdvance := false, seen }).attemptAt s true
    | .ok (none, seen) => ({ m02 text lim i with seen }).say false
    | .error why => (m02 text lim i).stick why) := by
  unfold forSearch
  dsimp only
  rw [cond2]
  simp only [h, not_true_eq_false, decide_false, Bool.false_eq_true, if_false]
  rfl
theorem search2 (text : Array Nat) (lim i : Nat) (h : i < lim) : ∃ σ, match eolAt text (lim - i) i with
    | some p => forSearch C2 text 0 i lim false = B2 text lim p 10 p [fNS p] 1 true none p σ
    | none => (M.runFor 2 (forSearch C2 text 0 i lim false)).outcome = some .failed := by
  obtain ⟨σ, e⟩ := admitted2 text (m02 text lim i) rfl rfl lim rfl (lim - i) i (({} : Sre.Seen).add 14) (by omega)
  refine ⟨σ, ?_⟩
  rw [search2_eq _ _ _ h, show lim + 1 - i = lim - i + 1 from by omega, e]
  cases eolAt text (lim - i) i with
  | none => rfl
  | some p => rfl

def fixL : List Nat → List Nat
  | [] => []
  | 13 :: 10 :: r => 13 :: 10 :: fixL r
  | c :: r => if (c == 10 || c == 13) = true then 13 :: 10 :: fixL r else c :: fixL r
theorem fixL_13_10 (r : List Nat) : fixL (13 :: 10 :: r) = 13 :: 10 :: fixL r := by rw [fixL]
theorem fixL_other (c : Nat) (r : List Nat) (h : c = 13 → ∀ r', r ≠ 10 :: r') : fixL (c :: r) = if (c == 10 || c == 13) = true then 13 :: 10 :: fixL r else c :: fixL r := by
  rw [fixL]
  intro r' e1 e2
  exact h e1 r' e2
def res2 (text : Array Nat) (i : Nat) : List Nat := fixL (text.toList.drop i)

theorem eol_spec (text : Array Nat) : ∀ k s, s + k = text.size → match eolAt text k s with
    | none => res2 text s = text.toList.drop s
    | some p => s ≤ p ∧ p < text.size ∧ (text.getD p 0 = 10 ∨ text.getD p 0 = 13) ∧ res2 text s = (text.toList.drop s).take (p - s) ++ res2 text p
  | 0, s, h => by
    show fixL (text.toList.drop s) = text.toList.drop s
    have e : text.toList.drop s = [] := by
      rw [List.drop_eq_nil_iff]; simp; omega
    rw [e]; rfl
  | k + 1, s, h => by
    have hs : s < text.size := by omega
    unfold eolAt
    by_cases h2 : (text.getD s 0 == 10 || text.getD s 0 == 13) = true
    · rw [if_pos h2]
      refine ⟨Nat.le_refl _, hs, by simpa only [Bool.or_eq_true, beq_iff_eq] using h2, ?_⟩
      rw [Nat.sub_self]; rfl
    · rw [if_neg h2]
      have ih := eol_spec text k (s + 1) (by omega)
      have hr : res2 text s = text.getD s 0 :: res2 text (s + 1) := by
        show fixL (text.toList.drop s) = _
        rw [drop_at hs, fixL_other _ _ (fun e => by rw [e] at h2; exact absurd rfl h2), if_neg h2]
        rfl
      cases he : eolAt text k (s + 1) with
      | none => rw [he] at ih; dsimp only at ih ⊢; rw [hr, drop_at hs, ih]
      | some p =>
        rw [he] at ih
        obtain ⟨a1, a2, a3, a4⟩ := ih
        refine ⟨by omega, a2, a3, ?_⟩
        rw [hr, drop_at hs, a4, show p - s = (p - (s + 1)) + 1 from by omega]
        rfl

theorem spec2 (text : Array Nat) (hsz : text.size ≤ 2 ^ 40) : SubSpec C2 text #[13, 10] (res2 text) := by
  intro i hi
  by_cases h : i < text.size
  · obtain ⟨σ, hσ⟩ := search2 text text.size i h
    have hs := eol_spec text (text.size - i) i (by omega)
    cases he : eolAt text (text.size - i) i with
    | none =>
      rw [he] at hσ hs
      exact ⟨none, ⟨2, _, by omega, rfl, hσ⟩, hs⟩
    | some p =>
      rw [he] at hσ hs
      obtain ⟨a1, a2, a3, a4⟩ := hs
      have fin : ∀ e N, N ≤ 30 → p < e → e ≤ text.size → Goes N (B2 text text.size p 10 p [fNS p] 1 true none p σ) (Ends2 p e) → res2 text p = [13, 10] ++ res2 text e →
          ∃ r, Finds C2 text text.size i r ∧ match r with
            | none => res2 text i = text.toList.drop i
            | some (b, e) => i ≤ b ∧ b < e ∧ e ≤ text.size ∧ res2 text i = (text.toList.drop i).take (b - i) ++ (#[13, 10] : Array Nat).toList ++ res2 text e := by
        intro e N hN hpe hes ⟨n, hn, g⟩ hr
        refine ⟨some (p, e), ⟨n, _, by omega, by rw [hσ], g⟩, a1, hpe, hes, ?_⟩
        rw [a4, hr, List.append_assoc]
      rcases a3 with a3 | a3
      · refine fin (p + 1) 20 (by decide) (by omega) (by omega) (at10 a2 a3) ?_
        show fixL (text.toList.drop p) = _
        rw [drop_at a2, a3, fixL_other 10 _ (fun e => absurd e (by decide))]
        rfl
      · by_cases h10 : p + 1 < text.size ∧ text.getD (p + 1) 0 = 10
        · refine fin (p + 2) 20 (by decide) (by omega) (by omega) (at1310 h10.1 a3 h10.2) ?_
          show fixL (text.toList.drop p) = _
          rw [drop_at a2, a3, drop_at h10.1, h10.2, fixL_13_10]
          rfl
        · refine fin (p + 1) 30 (by decide) (by omega) (by omega) (at13 a2 a3 (fun e => fun e' => h10 ⟨e, e'⟩)) ?_
          show fixL (text.toList.drop p) = _
          rw [drop_at a2, a3, fixL_other]
          · rfl
          · intro _ r' e
            by_cases hl : p + 1 < text.size
            · rw [drop_at hl] at e
              exact h10 ⟨hl, (List.cons.inj e).1⟩
            · have : text.toList.drop (p + 1) = [] := by
                rw [List.drop_eq_nil_iff]; simp; omega
              rw [this] at e; cases e
  · refine ⟨none, ⟨2, _, by omega, rfl, search2_end _ _ _ h⟩, ?_⟩
    have e : text.toList.drop i = [] := by
      rw [List.drop_eq_nil_iff]; simp; omega
    show fixL (text.toList.drop i) = _
    rw [e]; rfl
end
section
open PySem PySem.W PyProof.Rows PySem.Calls
open PySem.Builtin PySem.Builtin.Re

theorem slot_pat_sub : Slot "re.Pattern" "sub" "re.Pattern.sub" :=
  .of (owner := "re.Pattern") (n := "sub") (by rw [typeLookup_type, builtinLookup_eq_fast]; kernel_rfl) (by decide +kernel) (by decide +kernel) (by decide +kernel)
    (by first | exact .inl (by decide +kernel) | exact .inr (by decide +kernel)) (by rw [isSubtype_type]; kernel_rfl)
theorem type_pat_sub : typeOf (.builtin "re.Pattern.sub") = pure (.type "method_descriptor") := by show builtinType _ = _; rw [builtinType_eq_fast]; kernel_rfl
theorem entry_pat_sub : entryFor table "re.Pattern.sub" = some Builtin.«re.Pattern.sub» := entryFor_of_tree (by kernel_rfl)
theorem entry_pat_loop : entryFor table "re.Pattern.sub.loop" = some Builtin.«re.Pattern.sub.loop» := entryFor_of_tree (by kernel_rfl)
theorem args_pat_sub (a b c : Value) : argsOk "re.Pattern.sub" ⟨[a, b, c], []⟩ := by unfold argsOk; kernel_rfl
theorem plain_pat_loop : plainId "re.Pattern.sub.loop" = true := by decide +kernel
theorem attrs_pat : PlainAttrs "re.Pattern" where
  ga := ⟨"object.__getattribute__", by rw [typeLookup_type, builtinLookup_eq_fast]; kernel_rfl, by decide +kernel⟩
  noGetattr := by rw [typeLookup_type, builtinLookup_eq_fast]; kernel_rfl
theorem str_nocall : typeLookup (.type "str") "__call__" = pure none := by rw [typeLookup_type, builtinLookup_eq_fast]; kernel_rfl
end
section
open PySem PySem.W PyProof.Rows PySem.Calls
open PySem.Builtin PySem.Builtin.Re

section
variable {prog : Program} {w : World} {M : Model} {A : Around} {E : Value → Shared → Prop} {s : Shared}

theorem drive_ok : ∀ (turns : Nat) (m : Sre.M) (n : Nat) {Q : Sre.M → Shared → Prop}, n ≤ 4 * turns → (Sre.M.runFor n m).outcome.isSome = true → Q (Sre.M.runFor n m) s → wpAny M A (reDrive (turns + 1) m) Q E s
  | 0, m, n, Q, hn, ho, h => by
    have : n = 0 := by omega
    subst this
    unfold reDrive
    have e : m.runFor reTurnSteps = m := runFor_done _ _ ho
    rw [e]
    have ho' : m.outcome.isSome = true := ho
    simp only [ho', if_true]
    exact wpAny_pure h
  | turns + 1, m, n, Q, hn, ho, h => by
    unfold reDrive
    by_cases h4 : n ≤ 4
    · have e : m.runFor reTurnSteps = Sre.M.runFor n m := by
        show Sre.M.runFor 4 m = _
        rw [show 4 = n + (4 - n) from by omega, runFor_add, runFor_done _ _ ho]
      rw [e]
      simp only [ho, if_true]
      exact wpAny_pure h
    · have e : Sre.M.runFor n m = Sre.M.runFor (n - 4) (m.runFor reTurnSteps) := by
        show _ = Sre.M.runFor (n - 4) (Sre.M.runFor 4 m)
        rw [← runFor_add, show 4 + (n - 4) = n from by omega]
      simp only
      split
      · rename_i h2
        rw [e, runFor_done _ _ h2] at h
        exact wpAny_pure h
      · refine wpAny_bind (wpAny_rule ?_)
        refine drive_ok turns _ (n - 4) (by omega) (by rw [← e]; exact ho) (by rw [← e]; exact h)

theorem rules_ok (f : Nat → Bool) (g : Nat → String) {Q : PUnit → Shared → Prop} (h : Q ⟨⟩ s) : ∀ l : List Nat, wpAny M A (forIn l PUnit.unit (fun i _ => do
    if f i = true then rule (g i)
    pure (ForInStep.yield PUnit.unit))) Q E s
  | [] => by rw [List.forIn_nil]; exact wpAny_pure h
  | i :: r => by
    rw [List.forIn_cons]
    refine wpAny_bind ?_
    split
    · exact wpAny_bind (wpAny_rule (wpAny_pure (rules_ok f g h r)))
    · exact wpAny_pure (rules_ok f g h r)

theorem runToEnd_ok {code text : Array Nat} {lim i : Nat} {r : Option (Nat × Nat)} {Q : Option Sre.M → Shared → Prop} (hf : Finds code text lim i r)
    (h : match r with
      | some (b, e) => ∀ m : Sre.M, m.start = b → m.handed = e → Q (some m) s
      | none => Q none s) : wpAny M A (reRunToEnd (Sre.forSearch code text 0 i lim false)) Q E s := by
  obtain ⟨n, m, hn, hm, ho⟩ := hf
  unfold reRunToEnd
  have hs : m.outcome.isSome = true := by
    cases r with
    | none => rw [show m.outcome = _ from ho]; rfl
    | some q => rw [ho.1]; rfl
  refine wpAny_bind (drive_ok (2 ^ 64 - 1) _ n (by omega) (by rw [hm]; exact hs) ?_)
  rw [hm]
  refine wpAny_bind (rules_ok (fun i => m.seen.has i) (fun i => Sre.names.getD i "") ?_ _)
  cases r with
  | none => rw [show m.outcome = _ from ho]; exact wpAny_pure h
  | some q => rw [ho.1]; exact wpAny_pure (h m ho.2.1 ho.2.2)

structure PatAt (h : Heap) (p : Addr) (code : Array Nat) : Prop where
  is : ∃ o c oc vs items n, h.get? p = some o ∧ o.cls = .type "re.Pattern" ∧ o.dict = none ∧ o.data = .fields vs ∧ vs.getD 5 .none = .ref c ∧ vs.getD 6 .none = .int 0 0 ∧ vs.getD 2 .none = .int 0 0 ∧
    h.get? c = some oc ∧ oc.data = .seq items n ∧ (items.map reRawOf).map (·.toNat) = code
theorem PatAt.keeps {h h' : Heap} {p : Addr} {code : Array Nat} (P : PatAt h p code) (k : ∀ b o, h.get? b = some o → h'.get? b = some o) : PatAt h' p code := by
  obtain ⟨o, c, oc, vs, items, n, h1, h2, h3, h4, h5, h6, h7, h8, h9, h10⟩ := P.is
  exact ⟨o, c, oc, vs, items, n, k _ _ h1, h2, h3, h4, h5, h6, h7, k _ _ h8, h9, h10⟩
theorem PatAt.typeIs {p : Addr} {code : Array Nat} (P : PatAt s.heap p code) : s.TypeIs (.ref p) "re.Pattern" := by
  obtain ⟨o, c, oc, vs, items, n, h1, h2, _⟩ := P.is
  exact ⟨o, h1, h2⟩

abbrev tgt (p : Addr) (x : Str) (tx : Tok) (code : Array Nat) : ReTarget := { pattern := .ref p, string := .str x tx, code, text := x.cps, kind := 0, groups := 0, pos := 0, lim := x.cps.size }
theorem wholeTarget_ok {p : Addr} {code : Array Nat} {x : Str} {tx : Tok} {Q : ReTarget → Shared → Prop} (P : PatAt s.heap p code) (h : Q (tgt p x tx code) s) :
    wpAny M A (reWholeTarget (.ref p) (.str x tx)) Q E s := by
  obtain ⟨o, c, oc, vs, items, n, h1, h2, h3, h4, h5, h6, h7, h8, h9, h10⟩ := P.is
  unfold reWholeTarget fieldsOf
  refine wpAny_bind (wpAny_bind (wpAny_load h1 ?_))
  rw [h4]
  refine wpAny_pure ?_
  unfold reTextOf asStr?
  refine wpAny_bind (wpAny_bind (wpAny_pure (wpAny_pure ?_)))
  rw [h6]
  simp only [reRawNat]
  unfold reNoCollectionInside
  refine wpAny_bind (m := pure ()) (wpAny_pure ?_)
  unfold reRawItems
  rw [h5]
  unfold seqItems?
  refine wpAny_bind (wpAny_bind (wpAny_bind (wpAny_load h8 ?_)))
  rw [h9]
  refine wpAny_pure (wpAny_pure (wpAny_pure ?_))
  simp only [Option.getD_some, h10, h7]
  exact h

theorem flat_join (l : List (Str × Tok)) : (Txt.join ⟨#[]⟩ (l.map (·.1))) = ⟨(l.flatMap (fun q => q.1.cps.toList)).toArray⟩ := by
  unfold Txt.join
  rw [StrLaws.glued_eq_join]
  induction l with
  | nil => rfl
  | cons q r ih =>
    cases r with
    | nil => refine Str.ext' ?_; simp [Str.join]
    | cons q' r' =>
      rw [List.map_cons, List.map_cons] at *
      rw [Str.join]
      · rw [ih]
        refine Str.ext' ?_
        simp [Str.cps_append]
      · intro e; cases e
theorem sum_flat (l : List (Str × Tok)) : ((l.map (·.1)).map (·.length)).sum = (l.flatMap (fun q => q.1.cps.toList)).length := by
  induction l with
  | nil => rfl
  | cons q r ih => simp only [List.map_cons, List.sum_cons, List.flatMap_cons, List.length_append, ih]; rfl
theorem stays_upd {hb h : Heap} {l : Addr} {f : Obj → Obj} (k : hb.StaysIn h) (hl : hb.get? l = none) : hb.StaysIn (h.update l f) := fun b o e =>
  (Heap.get?_update_ne _ _ _ _ (fun q => by rw [q, hl] at e; cases e)).trans (k b o e)
theorem push_ok {hb : Heap} {l : Addr} {ls : List (Str × Tok)} {n : Nat} {o : Obj} {y : Str} {ty : Tok} {Q : Unit → Shared → Prop} (hl0 : hb.get? l = none) (k : hb.StaysIn s.heap) (ho : s.heap.get? l = some o) (hc : o.cls = .type "list")
    (hd : o.data = .seq (strValues ls).toArray n) (hn : ls.length ≤ 2 ^ 23)
    (h : ∀ h' o' n', hb.StaysIn h' → h'.get? l = some o' → o'.cls = .type "list" → o'.data = .seq (strValues (ls ++ [(y, ty)])).toArray n' → Q () { s with heap := h' }) :
    wpAny M A (updateSeq l (·.push (.str y ty))) Q E s := by
  have hz : (strValues ls).toArray.size ≤ 2 ^ 23 := by simpa [strValues] using hn
  obtain ⟨n', hd'⟩ := Obj.data_mapSeq hd (·.push (.str y ty))
  have hsl : (sizeLine : Nat) = 16777216 := rfl
  refine wpAny_updateSeq ho hd (h _ _ n' (stays_upd k hl0) (Heap.get?_update_self _ ho (Obj.isFreed_of_seq hd')) ((Obj.cls_mapSeq ..).trans hc) ?_) (by omega) (by simp only [Array.size_push]; omega)
  rw [hd']
  simp [strValues]

theorem slice_ok {text : Array Nat} {b e : Nat} {Q : Value → Shared → Prop} (hsz : text.size ≤ 2 ^ 23) (h : ∀ t tk, Q (.str ⟨text.extract b e⟩ t) { s with toks := tk }) : wpAny M A (reSlice text 0 b e) Q E s := by
  unfold reSlice
  have hsl : (sizeLine : Nat) = 16777216 := rfl
  exact wpAny_mkStr (h _ _) (by show (text.extract b e).size ≤ _; simp only [Array.size_extract]; omega)

theorem loop_ok {hb : Heap} {p l : Addr} {code : Array Nat} {x repl : Str} {tx tr : Tok} {res : Nat → List Nat} {T : List Nat} {R : Result → Shared → Prop} (P : PatAt hb p code) (S : SubSpec code x.cps repl.cps res)
    (hx : x.cps.size ≤ 2 ^ 20) (hT : T.length ≤ 2 ^ 22) (hl0 : hb.get? l = none) :
    ∀ (k i : Nat) (nn : Int) (ls : List (Str × Tok)) (n : Nat) (o : Obj) (s : Shared), i + k = x.cps.size → hb.StaysIn s.heap → s.heap.get? l = some o → o.cls = .type "list" → o.data = .seq (strValues ls).toArray n →
      ls.flatMap (fun q => q.1.cps.toList) ++ res i = T → ls.length ≤ 2 * i →
      (∀ h' tk' t', hb.StaysIn h' → R (.ok (.ret (.str ⟨T.toArray⟩ t'))) { s with heap := h', toks := tk' }) →
      codeAny (model prog w) A (.builtin "re.Pattern.sub.loop" ⟨[.ref p, .str x tx, .str repl tr, .int 0 0, .int 0 0, .int nn 0, .int i 0, .int i 0, .bool false, .ref l, .bool false], []⟩) R s := by
  intro k
  induction k using Nat.strongRecOn with
  | ind k ih =>
    intro i nn ls n o s hk st ho hc hd hacc hlen hR
    refine codeAny_builtin entry_pat_loop ?_
    rw [Around.under_plainId plain_pat_loop]
    unfold «re.Pattern.sub.loop»
    refine wpAny_bind (wholeTarget_ok (P.keeps st) ?_)
    refine wpAny_bind (m := reLiteralCannotBeTurned (.str repl tr)) ?_
    unfold reLiteralCannotBeTurned asStr?
    refine wpAny_bind (wpAny_pure ?_)
    refine wpAny_pure ?_
    obtain ⟨r, hf, hr⟩ := S i (by omega)
    refine wpAny_bind (m := reNextFound (tgt p x tx code) ((i : Int)).toNat false) ?_
    unfold reNextFound
    rw [Int.toNat_natCast]
    refine runToEnd_ok hf ?_
    cases r with
    | none =>
      dsimp only at hr ⊢
      have fin : ∀ (ls' : List (Str × Tok)) (n' : Nat) (o' : Obj) (h' : Heap) (tk : Nat), hb.StaysIn h' → h'.get? l = some o' → o'.cls = .type "list" → o'.data = .seq (strValues ls').toArray n' → ls'.flatMap (fun q => q.1.cps.toList) = T →
          wpAny (model prog w) A.in1 (do
            let joiner ← reSlice x.cps 0 0 0
            let text ← if ((← seqItems? (.ref l)).getD #[]).isEmpty then pure joiner
              else call (.builtin "str.join") [joiner, .ref l]
            ret text) (fun fin s' => match fin with | .done f => R (.ok f) s' | .again c' => c'.quiet = true ∧ codeAny (model prog w) A c' R s') (fun e s' => R (.error e) s') { s with heap := h', toks := tk } := by
        intro ls' n' o' h' tk st' ho' hc' hd' hT'
        refine wpAny_bind (slice_ok (by omega) fun t tk₁ => ?_)
        unfold seqItems?
        refine wpAny_bind (wpAny_bind (wpAny_load ho' ?_))
        rw [hd']
        refine wpAny_pure ?_
        simp only [Option.getD_some]
        have e0 : (⟨x.cps.extract 0 0⟩ : Str) = ⟨#[]⟩ := by simp
        rw [e0]
        split
        · rename_i he
          have : ls' = [] := by
            cases ls' with
            | nil => rfl
            | cons a r => simp [strValues] at he
          subst this
          subst hT'
          refine wpAny_bind (wpAny_pure (wpAny_pure ?_))
          exact hR h' _ _ st'
        · refine wpAny_bind ?_
          refine SC.join (D := l) (l := ls') ⟨o', ho', hc', n', hd'⟩ rfl ?_ fun t' kk => ?_
          · unfold JoinOk
            rw [StrLaws.joinTotal, sum_flat, hT']
            have hsl : (sizeLine : Nat) = 16777216 := rfl
            simp only [Builtin.Str.tooLong, Bool.not_eq_true', decide_eq_false_iff_not]
            show ¬ (_ + _ * 0 > _)
            omega
          · rw [flat_join, hT']
            refine wpAny_pure ?_
            exact hR h' _ _ st'
      split
      · rename_i hlt
        refine wpAny_bind (slice_ok (by omega) fun t tk₁ => ?_)
        refine wpAny_bind (push_ok (s := { s with toks := tk₁ }) hl0 st ho hc hd (by omega) fun h' o' n' st' ho' hc' hd' => ?_)
        refine fin _ n' o' h' tk₁ st' ho' hc' hd' ?_
        rw [← hacc, hr, List.flatMap_append]
        simp [List.take_of_length_le]
      · rename_i hlt
        refine fin ls n o s.heap s.toks st ho hc hd ?_
        rw [← hacc, hr]
        have : x.cps.toList.drop i = [] := by
          rw [List.drop_eq_nil_iff]; simp; omega
        rw [this, List.append_nil]
    | some q =>
      obtain ⟨b, e⟩ := q
      intro m hm1 hm2
      dsimp only at hr ⊢
      obtain ⟨hib, hbe, hes, hr⟩ := hr
      have fin : ∀ (ls' : List (Str × Tok)) (n' : Nat) (o' : Obj) (h' : Heap) (tk : Nat), hb.StaysIn h' → h'.get? l = some o' → o'.cls = .type "list" → o'.data = .seq (strValues ls').toArray n' →
          ls'.flatMap (fun q => q.1.cps.toList) ++ repl.cps.toList ++ res e = T → ls'.length ≤ 2 * i + 1 →
          wpAny (model prog w) A.in1 (do
            updateSeq l fun x => x.push (.str repl tr)
            again (.builtin "re.Pattern.sub.loop" ⟨[.ref p, .str x tx, .str repl tr, rawInt 0, rawInt 0, rawInt (nn + 1), rawInt m.handed, rawInt m.handed, .bool (m.handed == m.start), .ref l, .bool false], []⟩))
            (fun fin s' => match fin with | .done f => R (.ok f) s' | .again c' => c'.quiet = true ∧ codeAny (model prog w) A c' R s') (fun e s' => R (.error e) s') { s with heap := h', toks := tk } := by
        intro ls' n' o' h' tk st' ho' hc' hd' hT' hlen'
        refine wpAny_bind (push_ok (s := { s with heap := h', toks := tk }) hl0 st' ho' hc' hd' (by omega) fun h₂ o₂ n₂ st₂ ho₂ hc₂ hd₂ => ?_)
        refine wpAny_pure ⟨plainId_quiet plain_pat_loop _, ?_⟩
        have em : (m.handed == m.start) = false := by
          rw [hm1, hm2]; simp only [beq_eq_false_iff_ne, ne_eq]; omega
        rw [em, hm2]
        refine ih (x.cps.size - e) (by omega) e (nn + 1) _ n₂ o₂ { s with heap := h₂, toks := tk } (by omega) st₂ ho₂ hc₂ hd₂ ?_ ?_ hR
        · rw [List.flatMap_append, ← hT']; simp
        · simp only [List.length_append, List.length_cons, List.length_nil]; omega
      rw [hm1]
      split
      · rename_i hlt
        refine wpAny_bind (slice_ok (by omega) fun t tk₁ => ?_)
        refine wpAny_bind (push_ok (s := { s with toks := tk₁ }) hl0 st ho hc hd (by omega) fun h' o' n' st' ho' hc' hd' => ?_)
        rw [hm1] at fin
        refine fin _ n' o' h' tk₁ st' ho' hc' hd' ?_ (by simp only [List.length_append, List.length_cons, List.length_nil]; omega)
        rw [← hacc, hr, List.flatMap_append]
        simp
      · rename_i hlt
        rw [hm1] at fin
        refine fin ls n o s.heap s.toks st ho hc hd ?_ (by omega)
        rw [← hacc, hr]
        have : b - i = 0 := by omega
        rw [this]; simp

theorem named_ok (a b : Value) : reNamed "re.Pattern.sub" "sub" ["repl", "string", "count"] 2 [a, b] [] = pure [some a, some b, none] := rfl

/-- the call of a pattern's sub with a literal replacement -/
theorem call_sub {p : Addr} {code : Array Nat} {x repl : Str} {tx tr : Tok} {res : Nat → List Nat} {Q : Value → Shared → Prop} (P : PatAt s.heap p code) (S : SubSpec code x.cps repl.cps res) (hb : repl.cps.contains 92 = false)
    (hx : x.cps.size ≤ 2 ^ 20) (hT : (res 0).length ≤ 2 ^ 22)
    (h : ∀ h' tk' t', s.heap.StaysIn h' → Q (.str ⟨(res 0).toArray⟩ t') { s with heap := h', toks := tk' }) :
    wpAny (model prog w) A (call (.builtin "re.Pattern.sub") [.ref p, .str repl tr, .str x tx]) Q E s := by
  refine wpAny_call (codeAny_call_builtin slot_pat_sub.plain entry_pat_sub (slot_pat_sub.check _ _ _ _ _ _ _ _ P.typeIs (args_pat_sub _ _ _) ?_))
  unfold «re.Pattern.sub» reSubstitute
  show wpAny _ _ (reNamed "re.Pattern.sub" "sub" ["repl", "string", "count"] 2 [.str repl tr, .str x tx] [] >>= _) _ _ _
  rw [named_ok]
  refine wpAny_bind (wpAny_pure ?_)
  refine wpAny_bind (m := pure 0) (wpAny_pure ?_)
  refine wpAny_bind (wpAny_specialOf (typeIs_str _ _ _) str_nocall ?_)
  simp only [Option.isSome_none, Bool.false_eq_true, if_false]
  refine wpAny_bind (m := asStr? (.str repl tr)) ?_
  unfold asStr?
  refine wpAny_pure ?_
  refine wpAny_bind (wpAny_pure ?_)
  rw [hb]
  simp only [Bool.not_false, if_true]
  refine wpAny_bind (wpAny_pure ?_)
  refine wpAny_bind (wpAny_holding (wholeTarget_ok P ?_))
  dsimp only
  rw [if_neg (by decide)]
  refine wpAny_bind (wpAny_newList ?_)
  refine wpAny_pure ⟨plainId_quiet plain_pat_loop _, ?_⟩
  have hfresh : s.heap.get? s.heap.objs.size = none := by
    cases q : s.heap.get? s.heap.objs.size with
    | none => rfl
    | some o => exact absurd (Heap.lt_size q) (Nat.lt_irrefl _)
  refine loop_ok (hb := s.heap) (T := res 0) P S hx hT hfresh x.cps.size 0 0 [] 0 _ _ (by omega) ?_ (Heap.get?_push_size _ rfl) rfl rfl rfl (Nat.zero_le _) ?_
  · exact fun b o e => Heap.get?_push_of_some _ e
  · exact fun h' tk' t' k => h h' tk' t' k
theorem getMethod_sub {p : Addr} {code : Array Nat} {pl : Sem Bool} {Q : Value × List Value → Shared → Prop} (P : PatAt s.heap p code) (h : Q (.builtin "re.Pattern.sub", [.ref p]) s) : wpAny M A (getMethod (.ref p) "sub" pl) Q E s := by
  obtain ⟨o, c, oc, vs, items, n, h1, h2, h3, _⟩ := P.is
  exact getMethod_builtin P.typeIs attrs_pat slot_pat_sub type_pat_sub (fun a e => by cases e; exact ⟨o, h1, h3⟩) h

end
end
section
open PySem PySem.W PyProof.Rows PySem.Calls

theorem fr_stays {h₀ h h' : Heap} {L : Addr} {m : Str → Option Value} (F : Fr h₀ L h m) (k : h.StaysIn h') : Fr h₀ L h' m := by
  obtain ⟨oL, es, ep, hL, r⟩ := F.ns
  exact ⟨⟨oL, es, ep, k _ _ hL, r⟩, fun b o e => k _ _ (F.keep b o e), F.above⟩
theorem news_stays {h₀ h h' : Heap} {L : Addr} {news : List (Addr × Obj)} (N : News h₀ L h news) (k : h.StaysIn h') : News h₀ L h' news :=
  fun p hp => ⟨k _ _ (N p hp).1, (N p hp).2⟩

def fixE (x : Str) : Str := ⟨(fixL x.cps.toList).toArray⟩
def dotE (x : Str) : Str := ⟨(dotL true x.cps.toList).toArray⟩

theorem dotL_len : ∀ (l : List Nat) (b : Bool), (dotL b l).length ≤ 2 * l.length
  | [], _ => by simp [dotL]
  | c :: r, b => by
    unfold dotL
    split
    · have := dotL_len r false; simp only [List.length_cons]; omega
    · have := dotL_len r (c == 10); simp only [List.length_cons]; omega
theorem fixL_len : ∀ (n : Nat) (l : List Nat), l.length ≤ n → (fixL l).length ≤ 2 * l.length
  | _, [], _ => by simp [fixL]
  | 0, c :: r, h => by simp at h
  | n + 1, c :: r, h => by
    by_cases e : c = 13 ∧ ∃ r', r = 10 :: r'
    · obtain ⟨rfl, r', rfl⟩ := e
      rw [fixL_13_10]
      have := fixL_len n r' (by simp only [List.length_cons] at h; omega)
      simp only [List.length_cons]; omega
    · rw [fixL_other c r (fun a r' b => e ⟨a, r', b⟩)]
      have := fixL_len n r (by simp only [List.length_cons] at h; omega)
      split <;> simp only [List.length_cons] <;> omega

theorem fixE_len (x : Str) : (fixE x).length ≤ 2 * x.length := by
  show (fixL x.cps.toList).toArray.size ≤ 2 * x.cps.size
  have := fixL_len x.cps.toList.length x.cps.toList (Nat.le_refl _)
  simpa using this
theorem patK {K : Frag} {h : Heap} {p c : Addr} {vs items : Array Value} {n : Nat} {sl sl' : Array (Option Value)} {code : Array Nat} {d' : Option Addr} {cl' : Value} (X : K.In h) (h1 : K.lookup p = some ⟨.type "re.Pattern", none, .fields vs, sl⟩) (h5 : vs.getD 5 .none = .ref c)
    (h2 : K.lookup c = some ⟨cl', d', .seq items n, sl'⟩) (h6 : vs.getD 6 .none = .int 0 0) (h7 : vs.getD 2 .none = .int 0 0) (h8 : (items.map Builtin.Re.reRawOf).map (·.toNat) = code) : PatAt h p code :=
  ⟨_, c, _, vs, items, n, X _ _ h1, rfl, rfl, rfl, h5, h6, h7, X _ _ h2, rfl, h8⟩

section
variable {prog : Program} {w : World} {A : Around} {E : Value → Shared → Prop} {s : Shared} {K : Frag} {L : Addr} {h₀ : Heap} {m : Str → Option Value} {news : List (Addr × Obj)} {p : Addr} {x repl : Str} {tx tr : Tok} {Q : Value → Shared → Prop}

theorem patMeth_K {code : Array Nat} {M : Model} {pl : Sem Bool} {Q : Value × List Value → Shared → Prop} (F : Fr h₀ L s.heap m) (P : PatAt h₀ p code) (h : Q (.builtin "re.Pattern.sub", [.ref p]) s) : wpAny M A (getMethod (.ref p) (Str.ofString "sub") pl) Q E s :=
  getMethod_sub (P.keeps F.keep) h

theorem sub1_K (F : Fr h₀ L s.heap m) (N : News h₀ L s.heap news) (P : PatAt h₀ p C1) (hr : repl = Str.ofString "..") (hx : x.length ≤ 2 ^ 20)
    (h : ∀ h' tk' t', Fr h₀ L h' m → News h₀ L h' news → Q (.str (dotE x) t') { s with heap := h', toks := tk' }) : wpAny (model prog w) A (call (.builtin "re.Pattern.sub") [.ref p, .str repl tr, .str x tx]) Q E s := by
  subst hr
  have hx' : x.cps.size ≤ 2 ^ 20 := hx
  have S := spec1 x.cps (by omega)
  refine call_sub (P.keeps F.keep) (by have e : (Str.ofString "..").cps = #[46, 46] := by decide +kernel
                                       rw [e]; exact S) (by decide +kernel) hx' ?_ fun h' tk' t' k => ?_
  · show (dotL true x.cps.toList).length ≤ _
    have := dotL_len x.cps.toList true
    have e : x.cps.toList.length = x.cps.size := by simp
    omega
  · exact h h' tk' t' (fr_stays F k) (news_stays N k)
theorem sub2_K (F : Fr h₀ L s.heap m) (N : News h₀ L s.heap news) (P : PatAt h₀ p C2) (hr : repl = Str.ofString "\r\n") (hx : x.length ≤ 2 ^ 20)
    (h : ∀ h' tk' t', Fr h₀ L h' m → News h₀ L h' news → Q (.str (fixE x) t') { s with heap := h', toks := tk' }) : wpAny (model prog w) A (call (.builtin "re.Pattern.sub") [.ref p, .str repl tr, .str x tx]) Q E s := by
  subst hr
  have hx' : x.cps.size ≤ 2 ^ 20 := hx
  have S := spec2 x.cps (by omega)
  refine call_sub (P.keeps F.keep) (by have e : (Str.ofString "\r\n").cps = #[13, 10] := by decide +kernel
                                       rw [e]; exact S) (by decide +kernel) hx' ?_ fun h' tk' t' k => ?_
  · show (fixL x.cps.toList).length ≤ _
    have := fixL_len x.cps.toList.length x.cps.toList (Nat.le_refl _)
    have e : x.cps.toList.length = x.cps.size := by simp
    omega
  · exact h h' tk' t' (fr_stays F k) (news_stays N k)
end
end
section
open PySem PySem.W PyProof.Rows
def colStep (n : Int) (a : Int) (c : Int) : Int := if c = 9 then a - Int.fmod a n + n else a + 1
def colL (l : List Int) (n : Int) : Int := l.foldl (colStep n) 0
def col (x : Str) (n : Int) : Int := colL (KStt.codes x) n
theorem colL_snoc (l : List Int) (c n : Int) : colL (l ++ [c]) n = colStep n (colL l n) c := by
  unfold colL; rw [List.foldl_append]; rfl
theorem one_eq (k : Nat) (c : Nat) : (({ cps := #[k] } : Str) == { cps := #[c] }) = (k == c) := by
  by_cases h : k = c
  · subst h; simp
  · have : ¬ (({ cps := #[k] } : Str) = { cps := #[c] }) := fun e => h (by injection e with e; simpa using e)
    rw [beq_eq_false_iff_ne.mpr h, beq_eq_false_iff_ne.mpr this]
theorem tab_eq : Str.ofString "\t" = { cps := #[9] } := by decide +kernel
theorem spc_eq : Str.ofString " " = { cps := #[32] } := by decide +kernel
theorem col_start (n : Int) : (0 : Int) = colL [] n ∧ (0 : Int) ≤ 0 ∧ (0 : Int) ≤ 100 * (([] : List Int).length : Int) := ⟨rfl, by omega, by simp⟩
theorem col_tab {pre : List Int} {a n : Int} {k : Nat} {P : Prop} (e : a = colL pre n) (h0 : 0 ≤ a) (hb : a ≤ 100 * (pre.length : Int)) (hn : 1 ≤ n ∧ n ≤ 100 ∧ P) (hc : (({ cps := #[k] } : Str) == Str.ofString "\t") = true) :
    a - Int.fmod a n + n = colL (pre ++ [(k : Int)]) n ∧ 0 ≤ a - Int.fmod a n + n ∧ a - Int.fmod a n + n ≤ 100 * ((pre ++ [(k : Int)]).length : Int) := by
  rw [tab_eq, one_eq, beq_iff_eq] at hc
  subst hc
  have f1 := Int.fmod_nonneg_of_pos a (show 0 < n by omega)
  have f2 := Int.fmod_lt_of_pos a (show 0 < n by omega)
  have f3 : Int.fmod a n ≤ a := by
    have := Int.fmod_eq_emod_of_nonneg a (show 0 ≤ n by omega)
    rw [this]
    have d := Int.mul_ediv_add_emod a n
    have q : 0 ≤ n * (a / n) := Int.mul_nonneg (by omega) (Int.ediv_nonneg h0 (by omega))
    omega
  refine ⟨?_, by omega, ?_⟩
  · rw [colL_snoc, ← e]; rfl
  · simp only [List.length_append, List.length_cons, List.length_nil]; omega
theorem col_other {pre : List Int} {a n : Int} {k : Nat} (e : a = colL pre n) (h0 : 0 ≤ a) (hb : a ≤ 100 * (pre.length : Int)) (hc : (({ cps := #[k] } : Str) == Str.ofString "\t") = false) :
    a + 1 = colL (pre ++ [(k : Int)]) n ∧ 0 ≤ a + 1 ∧ a + 1 ≤ 100 * ((pre ++ [(k : Int)]).length : Int) := by
  rw [tab_eq, one_eq, beq_eq_false_iff_ne] at hc
  refine ⟨?_, by omega, ?_⟩
  · rw [colL_snoc, ← e]; unfold colStep; rw [if_neg (by omega)]
  · simp only [List.length_append, List.length_cons, List.length_nil]; omega
end
section
open PySem PySem.W PyProof.Rows PySem.Calls PySem.Spec

section
variable {prog : Program} {w : World} {A A₀ : Around} {E : Value → Shared → Prop} {s : Shared} {K : Frag} {C L : Addr} {g h₀ base : Heap} {m mg mb : Str → Option Value} {tr news : List (Addr × Obj)} {p : Program} {loose : List Str} {mean : ExcName → Option Value} {Q : Value → Shared → Prop}

def Ret (R : Result → Shared → Prop) (v : Value) (s' : Shared) : Prop := R (.ok (.ret v)) s'

theorem code_defP {R : Result → Shared → Prop} {name qual : Str} {params : Arguments} {body : List Stmt} {scope : Scope} {dV kV doc pm cdv ct oc : Value} {an od : Option Addr} {osl : Array (Option Value)} {f : Addr} {args : Args} {binds : List (Str × Value)}
    (hg : g.StaysIn s.heap) (hsz : g.objs.size ≤ s.heap.objs.size) (X : K.In g) (T : Top p loose mean mg mb g)
    (ho : K.lookup f = some ⟨oc, od, .func (fnOf name qual params body scope dV kV doc pm an cdv ct), osl⟩) (hcd : codeIn K cdv qual = true) (hroom : A.depth < recursionLimit)
    (hbind : BindsTo s (fnOf name qual params body scope dV kV doc pm an cdv ct) args binds) (hloc : ∀ y ∈ binds, scope.names.lookup y.1 = some .local)
    (htr : ∀ q ∈ tr, s.heap.get? q.1 = some q.2 ∧ g.get? q.1 = none)
    (h : ∀ L' h₁ tk, Fr g L' h₁ (fun y => binds.reverse.lookup y) → News g L' h₁ tr → (∀ q ∈ tr, q.1 < L') →
      wpAny (model prog w) (A.deeper (envOf qual scope L' f cdv)) (execs body (envOf qual scope L' f cdv))
        (fun fl s' => Ret R (match fl with | .ret v => v | _ => .none) s')
        (fun e s' => wpAny (model prog w) (A.deeper (envOf qual scope L' f cdv)) (leaving (envOf qual scope L' f cdv) e) (fun _ s'' => R (.error e) s'') (fun e' s'' => R (.error e') s'') s')
        { s with heap := h₁, toks := tk })
    (hco : scope.isCoroutine = false) (hgen : scope.isGenerator = false) (hk : scope.kind = .function)
    (hcell : ∀ x ∈ scope.names, x.2 ≠ .cell) : codeAny (model prog w) A (.call (.ref f) args) R s := by
  have X' := X.keeps hg
  have T' := T.keeps hg
  refine codeAny_call_def (fd := fnOf name qual params body scope dV kV doc pm an cdv ct) (body := body) (binds := binds) hroom (X' _ _ ho) rfl T'.nolimit (codeRec_of X' hcd) rfl hbind hcell hloc (fun h₁ hns hk₁ => ?_) hco hgen hk
  exact h s.heap.objs.size h₁ _ ⟨hns, fun b o e => hk₁ b o (hg b o e), hsz⟩ (fun q hq => ⟨hk₁ _ _ (htr q hq).1, Nat.ne_of_lt (Heap.lt_size (htr q hq).1), (htr q hq).2⟩) (fun q hq => Heap.lt_size (htr q hq).1)

theorem call_clsP {pos : List Value} {fI : Addr} (X : K.In s.heap) (hm : makesIn K C = true) (hi : findIn K (.ref C) "__init__" = some (some (.ref fI))) (hf : isFn K (.ref fI) = true)
    (h : codeAny (model prog w) (A.under (.builtin "type.__call__" ⟨.ref C :: pos, []⟩)) (.call (.ref fI) ⟨.ref (s.heap.objs.size + 1) :: pos, []⟩)
      (InitBack (s.heap.objs.size + 1) fun r s' => match r with | .ok (.ret v) => Q v s' | .ok _ => False | .error e => E e s') { s with heap := (s.heap.push (dictOf [] 0)).push (instObj C s.heap.objs.size) }) :
    wpAny (model prog w) A (call (.ref C) pos []) Q E s := by
  refine wpAny_call ?_
  obtain ⟨hh, g, d, t, os⟩ := s
  exact make_core (makes_of X hm) (looks_findIn X hi) (fun self => bind_fn X self (beq_iff_eq.mp hf)) (.inl rfl) h

theorem new_none {h : Heap} : h.get? h.objs.size = none := by
  cases q : h.get? h.objs.size with
  | none => rfl
  | some o => exact absurd (Heap.lt_size q) (Nat.lt_irrefl _)

theorem new_none1 {h : Heap} : h.get? (h.objs.size + 1) = none := by
  cases q : h.get? (h.objs.size + 1) with
  | none => rfl
  | some o => exact absurd (Nat.lt_trans (Nat.lt_succ_self _) (Heap.lt_size q)) (Nat.lt_irrefl _)
theorem call_initP {name qual : Str} {params : Arguments} {body : List Stmt} {scope : Scope} {dV kV doc pm cdv ct oc : Value} {an od : Option Addr} {osl : Array (Option Value)} {fI : Addr} {pos : List Value} {binds : Addr → List (Str × Value)}
    (X : K.In s.heap) (T : Top p loose mean mg mb s.heap) (hm : makesIn K C = true) (hi : findIn K (.ref C) "__init__" = some (some (.ref fI))) (hf : isFn K (.ref fI) = true)
    (ho : K.lookup fI = some ⟨oc, od, .func (fnOf name qual params body scope dV kV doc pm an cdv ct), osl⟩) (hcd : codeIn K cdv qual = true) (hroom : (A.under (.builtin "type.__call__" ⟨.ref C :: pos, []⟩)).depth < recursionLimit)
    (hbind : ∀ x s', BindsTo s' (fnOf name qual params body scope dV kV doc pm an cdv ct) ⟨.ref x :: pos, []⟩ (binds x)) (hloc : ∀ x, ∀ y ∈ binds x, scope.names.lookup y.1 = some .local)
    (h : ∀ L' h₁ x d tk, Fr s.heap L' h₁ (fun y => (binds x).reverse.lookup y) → News s.heap L' h₁ [(x, instObj C d), (d, dictOf [] 0)] → d < x → x < L' →
      wpAny (model prog w) ((A.under (.builtin "type.__call__" ⟨.ref C :: pos, []⟩)).deeper (envOf qual scope L' fI cdv)) (execs body (envOf qual scope L' fI cdv))
        (fun fl s' => Ret (InitBack x fun r s' => match r with | .ok (.ret v) => Q v s' | .ok _ => False | .error e => E e s') (match fl with | .ret v => v | _ => .none) s')
        (fun e s' => wpAny (model prog w) ((A.under (.builtin "type.__call__" ⟨.ref C :: pos, []⟩)).deeper (envOf qual scope L' fI cdv)) (leaving (envOf qual scope L' fI cdv) e) (fun _ s'' => E e s'') (fun e' s'' => E e' s'') s')
        { s with heap := h₁, toks := tk })
    (hco : scope.isCoroutine = false) (hgen : scope.isGenerator = false) (hk : scope.kind = .function)
    (hcell : ∀ x ∈ scope.names, x.2 ≠ .cell) : wpAny (model prog w) A (call (.ref C) pos []) Q E s := by
  refine call_clsP X hm hi hf ?_
  refine code_defP (g := s.heap) (tr := [(s.heap.objs.size + 1, instObj C s.heap.objs.size), (s.heap.objs.size, dictOf [] 0)]) (s := { s with heap := (s.heap.push (dictOf [] 0)).push (instObj C s.heap.objs.size) })
    (fun b o e => Heap.get?_push_of_some _ (Heap.get?_push_of_some _ e)) (by simp only [Heap.size_push]; omega) X T ho hcd hroom (hbind _ _) (hloc _) ?_ ?_ hco hgen hk hcell
  · refine List.forall_mem_cons.mpr ⟨⟨?_, ?_⟩, List.forall_mem_cons.mpr ⟨⟨?_, new_none⟩, List.forall_mem_nil _⟩⟩
    · have := Heap.get?_push_size (s.heap.push (dictOf [] 0)) (o := instObj C s.heap.objs.size) rfl
      rwa [Heap.size_push] at this
    · exact new_none1
    · exact Heap.get?_push_of_some _ (Heap.get?_push_size _ rfl)
  · intro L' h₁ tk F N lt
    exact h L' h₁ _ _ tk F N (Nat.lt_succ_self _) (lt _ (.head _))

/-- the frames below a call from a frame -/
theorem belowP {outer : List Env} {env : Env} (B : Below A₀ base outer h₀) (F : Fr h₀ L s.heap m) (hA : A.frames = some (env :: outer)) (hf : env.frame = some L) (hke : env.scope.kind = .function) : Below A base (env :: outer) s.heap :=
  let B₁ := pushX B F hf hke
  ⟨hA, B₁.stays, B₁.frames⟩

/-- a call's claim: what stood stays; P of the value and the new heap -/
abbrev PCl (prog : Program) (w : World) (K : Frag) (p : Program) (loose : List Str) (mean : ExcName → Option Value) (mg mb : Str → Option Value) (f : Addr) (vs : List Value) (pre : Heap → Prop) (post : Heap → Value → Heap → Prop) : Prop :=
  ∀ (dp un : Nat) (gd : Option (List Code)) (cn : Str) (cs : Scope) (a : Addr) (ccd : Value) (cl : List (Str × Addr)) (outer : List Env) (A₀ : Around) (base h₀ : Heap) (L : Addr) (m : Str → Option Value) (s : Shared) (Q E : Value → Shared → Prop),
    Below A₀ base outer h₀ → Fr h₀ L s.heap m → K.In h₀ → Top p loose mean mg mb h₀ → cs.kind = .function →
    pre s.heap → dp + 8 < recursionLimit → un + 64 < cLine → (∀ v h' tk', s.heap.StaysIn h' → post s.heap v h' → Q v { s with heap := h', toks := tk' }) →
      wpAny (model prog w) (ktrTop dp un gd cn cs L a ccd cl outer) (call (.ref f) vs) Q E s

theorem news_ne {h : Heap} {a b : Addr} {o o' : Obj} (N : News h₀ L h news) (h1 : (a, o) ∈ news) (h2 : (b, o') ∈ news) (e : o ≠ o') : @Ne Nat a b := fun q => e (Option.some.inj ((N _ h1).1.symm.trans ((congrArg h.get? q).trans (N _ h2).1)))
theorem ws_end {h : Heap} {led : List (Addr × Obj)} (N : News g L h news) (_ : True) (hs : ∀ q ∈ led, q ∈ news) : ∀ q ∈ led, h.get? q.1 = some q.2 ∧ g.get? q.1 = none := fun q hq => ⟨(N q (hs q hq)).1, (N q (hs q hq)).2.2⟩
end

section
variable {prog : Program} {w : World} {A : Around} {E : Value → Shared → Prop} {s : Shared} {env : Env} {h₀ : Heap} {x : Str} {body : List Stmt} {Q : Flow → Shared → Prop}

/-- a turn's end: the frame, the ledger with the iterator's entry -/
def TurnEnd (h₀ : Heap) (L : Addr) (it : Addr) (io : Obj) (J : (Str → Option Value) → List (Addr × Obj) → Prop) (s₁ s₂ : Shared) : Prop :=
  ∃ h' tk m' news', s₂ = { s₁ with heap := h', toks := tk } ∧ Fr h₀ L h' m' ∧ News h₀ L h' ((it, io) :: news') ∧ (∀ q ∈ news', q.1 ≠ it) ∧ J m' news'
def TurnPost (h₀ : Heap) (L : Addr) (it : Addr) (io : Obj) (J : (Str → Option Value) → List (Addr × Obj) → Prop) (s₁ : Shared) (Q : Flow → Shared → Prop) (f : Flow) (s₂ : Shared) : Prop :=
  match f with
  | .ret v => Q (.ret v) s₂
  | .brk => Q .next s₂
  | _ => TurnEnd h₀ L it io J s₁ s₂

theorem loop_one {I : Addr} {n : Nat} {P : Nat → Value → Prop} {St : Nat → Heap → Prop} {m₀ : Str → Option Value} {news : List (Addr × Obj)} (J : Nat → (Str → Option Value) → List (Addr × Obj) → Prop)
    (W : Walks prog w A I [I] [I] n P St) (hSt : ∀ i h, St i h → ∃ o, h.get? I = some o) (hL : env.locals ≠ I) (hI : h₀.get? I = none) (hn : ∀ q ∈ news, q.1 ≠ I) (hst : St 0 s.heap)
    (F : Fr h₀ env.locals s.heap m₀) (N : News h₀ env.locals s.heap news) (hj : J 0 m₀ news)
    (turn : ∀ i v m₁ news₁ h tk io, i < n → P i v → J i m₁ news₁ → Fr h₀ env.locals h (fun y => if y = x then some v else m₁ y) → News h₀ env.locals h ((I, io) :: news₁) → (∀ q ∈ news₁, q.1 ≠ I) →
      wpAny (model prog w) A (execs body env) (TurnPost h₀ env.locals I io (J (i + 1)) { s with heap := h, toks := tk } Q) E { s with heap := h, toks := tk })
    (done : ∀ m₁ news₁ h tk, J n m₁ news₁ → Fr h₀ env.locals h m₁ → News h₀ env.locals h news₁ → Q .next { s with heap := h, toks := tk }) :
    LoopAtV prog w A h₀ env x body Q E (.ref I) s := by
  refine ⟨I, [I], [I], n, P, St, m₀, news, J, rfl, W, ?_, ?_, ?_, hst, F, N, hj, ?_, ?_⟩
  · intro hm; exact hL (List.mem_singleton.mp hm)
  · intro b hb; rw [List.mem_singleton.mp hb]; exact hI
  · intro p hp hq; exact hn p hp (List.mem_singleton.mp hq)
  · rintro i v m₁ news₁ s₁ own ⟨hh', tk', rfl⟩ hin hP hJ hoff hown howns hall hst' F₁ N₁
    obtain ⟨io, hio⟩ := hSt _ _ hst'
    have hm := hall I (.head _) hI io hio
    have sub : ∀ p ∈ own, p = (I, io) := fun p hp => by
      have e1 := List.mem_singleton.mp (hown p hp)
      have e2 := howns p hp
      rw [e1] at e2
      have e3 : p.2 = io := Option.some.inj (e2.symm.trans hio)
      exact Prod.ext e1 e3
    have N₂ : News h₀ env.locals hh' ((I, io) :: news₁) := fun p hp => by
      rcases List.mem_cons.mp hp with rfl | hp
      · exact N₁ _ (List.mem_append_left _ hm)
      · exact N₁ _ (List.mem_append_right _ hp)
    refine wpAny_mono (turn i v m₁ news₁ hh' tk' io hin hP hJ F₁ N₂ fun q hq e => hoff q hq (by rw [e]; exact .head _)) (fun f s₂ t => ?_) fun _ _ e => e
    have fin : TurnEnd h₀ env.locals I io (J (i + 1)) { s with heap := hh', toks := tk' } s₂ → LoopStepU h₀ env.locals [I] own (J (i + 1)) { s with heap := hh', toks := tk' } .next s₂ := by
      rintro ⟨h', tk, m', news', e, F', N', ho', hj'⟩
      refine ⟨rfl, h', tk, m', news', e, F', fun p hp => ?_, fun p hp hq => ho' p hp (List.mem_singleton.mp hq), hj'⟩
      rcases List.mem_append.mp hp with hp | hp
      · rw [sub p hp]; exact N' _ (.head _)
      · exact N' _ (.tail _ hp)
    cases f with
    | ret v => exact .ret t
    | brk => exact .brk t
    | next => exact .next (fin t)
    | cont => exact .cont (fin t)
  · intro h' tk m' news' F' N' _ hJ
    exact done m' news' h' tk hJ F' N'

theorem loop_str {xt : Str} {tx : Tok} {m₀ : Str → Option Value} {news : List (Addr × Obj)} (J : Nat → (Str → Option Value) → List (Addr × Obj) → Prop)
    (hh : A.handled = none) (F : Fr h₀ env.locals s.heap m₀) (N : News h₀ env.locals s.heap news) (hj : J 0 m₀ news)
    (turn : ∀ i c t m₁ news₁ h tk it io, xt.cps[i]? = some c → J i m₁ news₁ → Fr h₀ env.locals h (fun y => if y = x then some (.str ⟨#[c]⟩ t) else m₁ y) → News h₀ env.locals h ((it, io) :: news₁) → (∀ q ∈ news₁, q.1 ≠ it) →
      wpAny (model prog w) A (execs body env) (TurnPost h₀ env.locals it io (J (i + 1)) { s with heap := h, toks := tk } Q) E { s with heap := h, toks := tk })
    (done : ∀ m₁ news₁ h tk, J xt.cps.size m₁ news₁ → Fr h₀ env.locals h m₁ → News h₀ env.locals h news₁ → Q .next { s with heap := h, toks := tk }) :
    wpAny (model prog w) A (pyIter (.str xt tx)) (fun it s₂ => LoopAtV prog w A h₀ env x body Q E it s₂) E s := by
  have hL : env.locals ≠ s.heap.objs.size := Nat.ne_of_lt F.ns.lt
  have hI : h₀.get? s.heap.objs.size = none := next_is_new F
  have hn : ∀ q ∈ news, q.1 ≠ s.heap.objs.size := fun q hq => Nat.ne_of_lt (Heap.lt_size (N q hq).1)
  cases ha : xt.cps.all (· < 128)
  · refine wpAny_pyIter_wide ha (loop_one (s := { s with heap := s.heap.push _ }) J (Walks.strWide hh _ xt tx) (fun _ _ st => let ⟨o, ho, _⟩ := st; ⟨o, ho⟩) hL hI hn ⟨_, Heap.get?_push_size _ rfl, rfl, rfl⟩ (F.push _) (fun p hp => ⟨Heap.get?_push_of_some _ (N p hp).1, (N p hp).2⟩) hj ?_ ?_)
    · rintro i v m₁ news₁ h tk io _ ⟨c, u, hc, rfl⟩ hJ F₁ N₁ hq
      exact turn i c u m₁ news₁ h tk _ io hc hJ F₁ N₁ hq
    · exact fun m₁ news₁ h tk hJ F₁ N₁ => done m₁ news₁ h tk hJ F₁ N₁
  · refine wpAny_pyIter_ascii ha (loop_one (s := { s with heap := s.heap.push _ }) J (Walks.strAscii hh _ xt tx) (fun _ _ st => let ⟨o, ho, _⟩ := st; ⟨o, ho⟩) hL hI hn ⟨_, Heap.get?_push_size _ rfl, rfl, rfl⟩ (F.push _) (fun p hp => ⟨Heap.get?_push_of_some _ (N p hp).1, (N p hp).2⟩) hj ?_ ?_)
    · rintro i v m₁ news₁ h tk io _ ⟨c, u, hc, rfl⟩ hJ F₁ N₁ hq
      exact turn i c u m₁ news₁ h tk _ io hc hJ F₁ N₁ hq
    · exact fun m₁ news₁ h tk hJ F₁ N₁ => done m₁ news₁ h tk hJ F₁ N₁

theorem loop_range {r : Addr} {a₀ b₀ : Int} {t₀ u₀ v₀ : Tok} {n : Nat} {m₀ : Str → Option Value} {news : List (Addr × Obj)} (J : Nat → (Str → Option Value) → List (Addr × Obj) → Prop)
    (hh : A.handled = none) (hr : IsRange s.heap r a₀ b₀ 1 t₀ u₀ v₀) (hsmall : Builtin.Range.small a₀ b₀ 1 = true) (hsz : Builtin.Range.rangeSize a₀ b₀ 1 = (n : Int)) (F : Fr h₀ env.locals s.heap m₀) (N : News h₀ env.locals s.heap news) (hj : J 0 m₀ news)
    (turn : ∀ (i : Nat) t m₁ news₁ h tk it io, i < n → J i m₁ news₁ → Fr h₀ env.locals h (fun y => if y = x then some (.int (a₀ + i) t) else m₁ y) → News h₀ env.locals h ((it, io) :: news₁) → (∀ q ∈ news₁, q.1 ≠ it) →
      wpAny (model prog w) A (execs body env) (TurnPost h₀ env.locals it io (J (i + 1)) { s with heap := h, toks := tk } Q) E { s with heap := h, toks := tk })
    (done : ∀ m₁ news₁ h tk, J n m₁ news₁ → Fr h₀ env.locals h m₁ → News h₀ env.locals h news₁ → Q .next { s with heap := h, toks := tk }) :
    wpAny (model prog w) A (pyIter (.ref r)) (fun it s₂ => LoopAtV prog w A h₀ env x body Q E it s₂) E s := by
  have hL : env.locals ≠ s.heap.objs.size := Nat.ne_of_lt F.ns.lt
  have hI : h₀.get? s.heap.objs.size = none := next_is_new F
  have hn : ∀ q ∈ news, q.1 ≠ s.heap.objs.size := fun q hq => Nat.ne_of_lt (Heap.lt_size (N q hq).1)
  refine wpAny_pyIter_range hr hsmall ?_
  have W : Walks prog w A s.heap.objs.size [s.heap.objs.size] [s.heap.objs.size] n (fun i v => i < n ∧ ∃ t, v = .int (a₀ + i * 1) t)
      (fun i h => IsRangeIter h s.heap.objs.size (a₀ + (i : Nat) * 1) ((n : Int) - (i : Nat)) 1) := (Walks.range hh _ a₀ 1 n).bound
  refine loop_one (s := { s with heap := s.heap.push _ }) J W (fun _ _ st => ⟨_, st⟩) hL hI hn (by show IsRangeIter _ _ _ _ _; rw [hsz]; simpa using Heap.get?_push_size _ rfl) (F.push _) (fun p hp => ⟨Heap.get?_push_of_some _ (N p hp).1, (N p hp).2⟩) hj ?_ ?_
  · rintro i v m₁ news₁ h tk io hi ⟨_, t, rfl⟩ hJ F₁ N₁ hq
    have e1 : a₀ + (i : Int) * 1 = a₀ + (i : Int) := by omega
    rw [e1] at F₁
    exact turn i t m₁ news₁ h tk _ io hi hJ F₁ N₁ hq
  · exact fun m₁ news₁ h tk hJ F₁ N₁ => done m₁ news₁ h tk hJ F₁ N₁

def LJ {σ : Type} (Led : σ → List (Addr × Obj)) (ps : σ → List (Str × Value)) (Inv : Nat → σ → Prop) (i : Nat) (m₁ : Str → Option Value) (news₁ : List (Addr × Obj)) : Prop :=
  ∃ c : σ, news₁ = Led c ∧ (∀ p ∈ ps c, m₁ p.1 = some p.2) ∧ Inv i c
theorem fr_kstX {L : Addr} {h : Heap} {ps : List (Str × Value)} {m₁ : Str → Option Value} {v : Value} (h1 : ∀ p ∈ ps, m₁ p.1 = some p.2) (F : Fr h₀ L h (fun y => if y = x then some v else m₁ y)) :
    Fr h₀ L h (fun y => if y = x then some v else kstB m₁ ps y) := by
  have : (fun y => if y = x then some v else kstB m₁ ps y) = fun y => if y = x then some v else m₁ y := by
    funext y
    rw [kstB_eq h1 fun _ => rfl]
  rw [this]; exact F
theorem fr_kst {L : Addr} {h : Heap} {ps : List (Str × Value)} {m₁ : Str → Option Value} (h1 : ∀ p ∈ ps, m₁ p.1 = some p.2) (F : Fr h₀ L h m₁) : Fr h₀ L h (kstB m₁ ps) := by
  have : kstB m₁ ps = m₁ := by
    funext y
    rw [kstB_eq h1 fun _ => rfl]
  rw [this]; exact F

theorem loop_strC {σ : Type} {xt : Str} {tx : Tok} {m₀ : Str → Option Value} {news : List (Addr × Obj)} (Led : σ → List (Addr × Obj)) (fix : List (Addr × Obj)) (ps : σ → List (Str × Value)) (fps : List (Str × Value)) (Inv : Nat → σ → Prop) (c₀ : σ)
    (hh : A.handled = none) (F : Fr h₀ env.locals s.heap m₀) (N : News h₀ env.locals s.heap news) (hN : ∀ p ∈ Led c₀ ++ fix, p ∈ news) (hm : ∀ p ∈ ps c₀ ++ fps, m₀ p.1 = some p.2) (hi : Inv 0 c₀)
    (turn : ∀ i ch t (c : σ) (u : Str → Option Value) h tk it io, xt.cps[i]? = some ch → Inv i c → Fr h₀ env.locals h (fun y => if y = x then some (.str ⟨#[ch]⟩ t) else kstB u (ps c ++ fps) y) → News h₀ env.locals h ((it, io) :: (Led c ++ fix)) → (∀ q ∈ Led c ++ fix, q.1 ≠ it) →
      wpAny (model prog w) A (execs body env) (TurnPost h₀ env.locals it io (LJ (fun c => Led c ++ fix) (fun c => ps c ++ fps) Inv (i + 1)) { s with heap := h, toks := tk } Q) E { s with heap := h, toks := tk })
    (done : ∀ (c : σ) (u : Str → Option Value) h tk, Inv xt.cps.size c → Fr h₀ env.locals h (kstB u (ps c ++ fps)) → News h₀ env.locals h (Led c ++ fix) → Q .next { s with heap := h, toks := tk }) :
    wpAny (model prog w) A (pyIter (.str xt tx)) (fun it s₂ => LoopAtV prog w A h₀ env x body Q E it s₂) E s := by
  refine loop_str (LJ (fun c => Led c ++ fix) (fun c => ps c ++ fps) Inv) hh F (fun p hp => N p (hN p hp)) ⟨c₀, rfl, hm, hi⟩ ?_ ?_
  · rintro i ch t m₁ _ h tk it io hc ⟨c, rfl, hm', hi'⟩ F₁ N₁ hq
    exact turn i ch t c m₁ h tk it io hc hi' (fr_kstX hm' F₁) N₁ hq
  · rintro m₁ _ h tk ⟨c, rfl, hm', hi'⟩ F₁ N₁
    exact done c m₁ h tk hi' (fr_kst hm' F₁) N₁
theorem loop_rangeC {σ : Type} {r : Addr} {a₀ b₀ : Int} {t₀ u₀ v₀ : Tok} {n : Nat} {m₀ : Str → Option Value} {news : List (Addr × Obj)} (Led : σ → List (Addr × Obj)) (fix : List (Addr × Obj)) (ps : σ → List (Str × Value)) (fps : List (Str × Value)) (Inv : Nat → σ → Prop) (c₀ : σ)
    (hh : A.handled = none) (hr : IsRange s.heap r a₀ b₀ 1 t₀ u₀ v₀) (hsmall : Builtin.Range.small a₀ b₀ 1 = true) (hsz : Builtin.Range.rangeSize a₀ b₀ 1 = (n : Int))
    (F : Fr h₀ env.locals s.heap m₀) (N : News h₀ env.locals s.heap news) (hN : ∀ p ∈ Led c₀ ++ fix, p ∈ news) (hm : ∀ p ∈ ps c₀ ++ fps, m₀ p.1 = some p.2) (hi : Inv 0 c₀)
    (turn : ∀ (i : Nat) t (c : σ) (u : Str → Option Value) h tk it io, i < n → Inv i c → Fr h₀ env.locals h (fun y => if y = x then some (.int (a₀ + i) t) else kstB u (ps c ++ fps) y) → News h₀ env.locals h ((it, io) :: (Led c ++ fix)) → (∀ q ∈ Led c ++ fix, q.1 ≠ it) →
      wpAny (model prog w) A (execs body env) (TurnPost h₀ env.locals it io (LJ (fun c => Led c ++ fix) (fun c => ps c ++ fps) Inv (i + 1)) { s with heap := h, toks := tk } Q) E { s with heap := h, toks := tk })
    (done : ∀ (c : σ) (u : Str → Option Value) h tk, Inv n c → Fr h₀ env.locals h (kstB u (ps c ++ fps)) → News h₀ env.locals h (Led c ++ fix) → Q .next { s with heap := h, toks := tk }) :
    wpAny (model prog w) A (pyIter (.ref r)) (fun it s₂ => LoopAtV prog w A h₀ env x body Q E it s₂) E s := by
  refine loop_range (LJ (fun c => Led c ++ fix) (fun c => ps c ++ fps) Inv) hh hr hsmall hsz F (fun p hp => N p (hN p hp)) ⟨c₀, rfl, hm, hi⟩ ?_ ?_
  · rintro i t m₁ _ h tk it io hn ⟨c, rfl, hm', hi'⟩ F₁ N₁ hq
    exact turn i t c m₁ h tk it io hn hi' (fr_kstX hm' F₁) N₁ hq
  · rintro m₁ _ h tk ⟨c, rfl, hm', hi'⟩ F₁ N₁
    exact done c m₁ h tk hi' (fr_kst hm' F₁) N₁

/-- a turn's end where the loop may be left: what holds then is told by Fin -/
def TurnPostB {σ : Type} (h₀ : Heap) (L : Addr) (it : Addr) (io : Obj) (Led : σ → List (Addr × Obj)) (ps : σ → List (Str × Value)) (Inv : σ → Prop) (Fin : σ → Prop) (s₁ : Shared) (Q : Flow → Shared → Prop) (f : Flow) (s₂ : Shared) : Prop :=
  match f with
  | .ret v => Q (.ret v) s₂
  | .brk => ∃ h' tk m' c, s₂ = { s₁ with heap := h', toks := tk } ∧ Fr h₀ L h' m' ∧ News h₀ L h' (Led c) ∧ (∀ p ∈ ps c, m' p.1 = some p.2) ∧ Fin c
  | _ => TurnEnd h₀ L it io (LJ Led ps (fun _ => Inv) 0) s₁ s₂
theorem turnB_next {σ : Type} {Led : σ → List (Addr × Obj)} {ps : σ → List (Str × Value)} {Inv Fin : σ → Prop} {L it : Addr} {io : Obj} {s₁ : Shared} {h' : Heap} {tk : Nat} {m' : Str → Option Value} {news' : List (Addr × Obj)} (c : σ)
    (F : Fr h₀ L h' m') (N : News h₀ L h' news') (hm : ∀ p ∈ ps c, m' p.1 = some p.2) (hN : ∀ p ∈ (it, io) :: Led c, p ∈ news') (hne : ∀ q ∈ Led c, q.1 ≠ it) (hi : Inv c) :
    TurnPostB h₀ L it io Led ps Inv Fin s₁ Q .next { s₁ with heap := h', toks := tk } :=
  ⟨h', tk, m', Led c, rfl, F, fun p hp => N p (hN p hp), hne, c, rfl, hm, hi⟩
theorem turnB_brk {σ : Type} {Led : σ → List (Addr × Obj)} {ps : σ → List (Str × Value)} {Inv Fin : σ → Prop} {L it : Addr} {io : Obj} {s₁ : Shared} {h' : Heap} {tk : Nat} {m' : Str → Option Value} {news' : List (Addr × Obj)} (c : σ)
    (F : Fr h₀ L h' m') (N : News h₀ L h' news') (hm : ∀ p ∈ ps c, m' p.1 = some p.2) (hN : ∀ p ∈ Led c, p ∈ news') (hi : Fin c) :
    TurnPostB h₀ L it io Led ps Inv Fin s₁ Q .brk { s₁ with heap := h', toks := tk } :=
  ⟨h', tk, m', c, rfl, F, fun p hp => N p (hN p hp), hm, hi⟩
theorem postB {σ : Type} {Led : σ → List (Addr × Obj)} {ps : σ → List (Str × Value)} {Inv : Nat → σ → Prop} {Fin : σ → Prop} {i : Nat} {L it : Addr} {io : Obj} {h : Heap} {tk : Nat} {f : Flow} {s₂ : Shared}
    (after : ∀ (c : σ) (u : Str → Option Value) h tk, Fin c → Fr h₀ L h (kstB u (ps c)) → News h₀ L h (Led c) → Q .next { s with heap := h, toks := tk })
    (t : TurnPostB h₀ L it io Led ps (Inv i) Fin { s with heap := h, toks := tk } Q f s₂) : TurnPost h₀ L it io (LJ Led ps Inv i) { s with heap := h, toks := tk } Q f s₂ := by
  cases f with
  | ret v => exact t
  | brk =>
    obtain ⟨h', tk', m', c, rfl, F, N, hm, hf⟩ := t
    exact after c m' h' tk' hf (fr_kst hm F) N
  | next => exact t
  | cont => exact t
theorem loop_strB {σ : Type} {xt : Str} {tx : Tok} {m₀ : Str → Option Value} {news : List (Addr × Obj)} (Led : σ → List (Addr × Obj)) (fix : List (Addr × Obj)) (ps : σ → List (Str × Value)) (fps : List (Str × Value)) (Inv : Nat → σ → Prop) (Fin : σ → Prop) (c₀ : σ)
    (hh : A.handled = none) (F : Fr h₀ env.locals s.heap m₀) (N : News h₀ env.locals s.heap news) (hm : ∀ p ∈ ps c₀ ++ fps, m₀ p.1 = some p.2) (hN : ∀ p ∈ Led c₀ ++ fix, p ∈ news) (hi : Inv 0 c₀) (hfin : ∀ c, Inv xt.cps.size c → Fin c)
    (turn : ∀ i ch t (c : σ) (u : Str → Option Value) h tk it io, xt.cps[i]? = some ch → Inv i c → Fr h₀ env.locals h (fun y => if y = x then some (.str ⟨#[ch]⟩ t) else kstB u (ps c ++ fps) y) → News h₀ env.locals h ((it, io) :: (Led c ++ fix)) → (∀ q ∈ Led c ++ fix, q.1 ≠ it) →
      wpAny (model prog w) A (execs body env) (TurnPostB h₀ env.locals it io (fun c => Led c ++ fix) (fun c => ps c ++ fps) (Inv (i + 1)) Fin { s with heap := h, toks := tk } Q) E { s with heap := h, toks := tk })
    (after : ∀ (c : σ) (u : Str → Option Value) h tk, Fin c → Fr h₀ env.locals h (kstB u (ps c ++ fps)) → News h₀ env.locals h (Led c ++ fix) → Q .next { s with heap := h, toks := tk }) :
    wpAny (model prog w) A (pyIter (.str xt tx)) (fun it s₂ => LoopAtV prog w A h₀ env x body Q E it s₂) E s := by
  refine loop_strC Led fix ps fps Inv c₀ hh F N hN hm hi ?_ fun c u h tk hi' F₁ N₁ => after c u h tk (hfin c hi') F₁ N₁
  intro i ch t c u h tk it io hc hi' F₁ N₁ hq
  exact wpAny_mono (turn i ch t c u h tk it io hc hi' F₁ N₁ hq) (fun f s₂ t => postB after t) fun _ _ e => e
theorem loop_rangeB {σ : Type} {r : Addr} {a₀ b₀ : Int} {t₀ u₀ v₀ : Tok} {n : Nat} {m₀ : Str → Option Value} {news : List (Addr × Obj)} (Led : σ → List (Addr × Obj)) (fix : List (Addr × Obj)) (ps : σ → List (Str × Value)) (fps : List (Str × Value)) (Inv : Nat → σ → Prop) (Fin : σ → Prop) (c₀ : σ)
    (hh : A.handled = none) (hr : IsRange s.heap r a₀ b₀ 1 t₀ u₀ v₀) (hsmall : Builtin.Range.small a₀ b₀ 1 = true) (hsz : Builtin.Range.rangeSize a₀ b₀ 1 = (n : Int))
    (F : Fr h₀ env.locals s.heap m₀) (N : News h₀ env.locals s.heap news) (hm : ∀ p ∈ ps c₀ ++ fps, m₀ p.1 = some p.2) (hN : ∀ p ∈ Led c₀ ++ fix, p ∈ news) (hi : Inv 0 c₀) (hfin : ∀ c, Inv n c → Fin c)
    (turn : ∀ (i : Nat) t (c : σ) (u : Str → Option Value) h tk it io, i < n → Inv i c → Fr h₀ env.locals h (fun y => if y = x then some (.int (a₀ + i) t) else kstB u (ps c ++ fps) y) → News h₀ env.locals h ((it, io) :: (Led c ++ fix)) → (∀ q ∈ Led c ++ fix, q.1 ≠ it) →
      wpAny (model prog w) A (execs body env) (TurnPostB h₀ env.locals it io (fun c => Led c ++ fix) (fun c => ps c ++ fps) (Inv (i + 1)) Fin { s with heap := h, toks := tk } Q) E { s with heap := h, toks := tk })
    (after : ∀ (c : σ) (u : Str → Option Value) h tk, Fin c → Fr h₀ env.locals h (kstB u (ps c ++ fps)) → News h₀ env.locals h (Led c ++ fix) → Q .next { s with heap := h, toks := tk }) :
    wpAny (model prog w) A (pyIter (.ref r)) (fun it s₂ => LoopAtV prog w A h₀ env x body Q E it s₂) E s := by
  refine loop_rangeC Led fix ps fps Inv c₀ hh hr hsmall hsz F N hN hm hi ?_ fun c u h tk hi' F₁ N₁ => after c u h tk (hfin c hi') F₁ N₁
  intro i t c u h tk it io hc hi' F₁ N₁ hq
  exact wpAny_mono (turn i t c u h tk it io hc hi' F₁ N₁ hq) (fun f s₂ t => postB after t) fun _ _ e => e
end
end
section
open PySem PySem.W PyProof.Rows
structure WsS where
  cnt : List Int
  b : Nat
  n : Nat
  nt : Nat
def bump (cnt : List Int) (b : Nat) : List Int :=
  if cnt.length ≤ b then (cnt ++ List.replicate (b - cnt.length + 1) 0).set b ((cnt ++ List.replicate (b - cnt.length + 1) 0).getD b 0 + 1) else cnt.set b (cnt.getD b 0 + 1)
def wsStep (σ : WsS) (c : Nat) : Option WsS :=
  if c = 32 then some ⟨σ.cnt, σ.b + 1, σ.n + 1, σ.nt⟩ else if c = 9 then some ⟨bump σ.cnt σ.b, 0, σ.n + 1, σ.nt + 1⟩ else none
def wsRun : WsS → List Nat → WsS
  | σ, [] => σ
  | σ, c :: r => match wsStep σ c with
    | some σ' => wsRun σ' r
    | none => σ
def wsPre : WsS → List Nat → Option WsS
  | σ, [] => some σ
  | σ, c :: r => (wsStep σ c).bind fun σ' => wsPre σ' r
def ws0 : WsS := ⟨[], 0, 0, 0⟩
def wsOf (x : Str) : WsS := wsRun ws0 x.cps.toList

theorem wsPre_snoc : ∀ (l : List Nat) (σ : WsS) (c : Nat), wsPre σ (l ++ [c]) = (wsPre σ l).bind fun σ' => wsStep σ' c
  | [], σ, c => by
    show (wsStep σ c).bind (fun σ' => some σ') = wsStep σ c
    cases wsStep σ c <;> rfl
  | d :: r, σ, c => by
    show (wsStep σ d).bind (fun σ' => wsPre σ' (r ++ [c])) = ((wsStep σ d).bind fun σ' => wsPre σ' r).bind _
    cases h : wsStep σ d with
    | none => rfl
    | some σ' => exact wsPre_snoc r σ' c
theorem run_of_pre : ∀ (l : List Nat) (σ σ' : WsS), wsPre σ l = some σ' → wsRun σ l = σ'
  | [], σ, σ', h => by simpa [wsPre, wsRun] using h
  | c :: r, σ, σ', h => by
    unfold wsPre at h
    unfold wsRun
    cases hs : wsStep σ c with
    | none => rw [hs] at h; cases h
    | some τ => rw [hs] at h; exact run_of_pre r τ σ' h
theorem run_stop : ∀ (l : List Nat) (σ σ' : WsS) (c : Nat) (r : List Nat), wsPre σ l = some σ' → wsStep σ' c = none → wsRun σ (l ++ c :: r) = σ'
  | [], σ, σ', c, r, h, hs => by
    have : σ = σ' := by simpa [wsPre] using h
    subst this
    show (match wsStep σ c with | some σ' => wsRun σ' r | none => σ) = σ
    rw [hs]
  | d :: l, σ, σ', c, r, h, hs => by
    unfold wsPre at h
    show (match wsStep σ d with | some τ => wsRun τ (l ++ c :: r) | none => σ) = σ'
    cases hd : wsStep σ d with
    | none => rw [hd] at h; cases h
    | some τ => rw [hd] at h; exact run_stop l τ σ' c r h hs
/-- sizes -/
def WsB (k : Nat) (σ : WsS) : Prop := σ.cnt.length + σ.b ≤ k ∧ σ.n = k ∧ σ.nt ≤ k ∧ ∀ v ∈ σ.cnt, 0 ≤ v ∧ v ≤ (k : Int)
theorem bump_len (cnt : List Int) (b : Nat) : (bump cnt b).length = max cnt.length (b + 1) := by
  unfold bump
  split
  · simp; omega
  · simp; omega
theorem bump_mem (cnt : List Int) (b k : Nat) (h : ∀ v ∈ cnt, 0 ≤ v ∧ v ≤ (k : Int)) : ∀ v ∈ bump cnt b, 0 ≤ v ∧ v ≤ ((k + 1 : Nat) : Int) := by
  have set_mem : ∀ (l : List Int) (hl : ∀ v ∈ l, 0 ≤ v ∧ v ≤ (k : Int)), ∀ v ∈ l.set b (l.getD b 0 + 1), 0 ≤ v ∧ v ≤ ((k + 1 : Nat) : Int) := by
    intro l hl v hv
    rcases List.mem_or_eq_of_mem_set hv with hv | rfl
    · have := hl v hv; omega
    · by_cases hb : b < l.length
      · have e : l.getD b 0 = l[b] := by simp [List.getD, hb]
        have := hl l[b] (List.getElem_mem hb)
        rw [e]; omega
      · have e : l.getD b 0 = 0 := by
          have : l[b]? = none := by simp; omega
          simp [List.getD, this]
        rw [e]; omega
  unfold bump
  split
  · refine set_mem _ fun v hv => ?_
    rcases List.mem_append.mp hv with hv | hv
    · exact h v hv
    · rw [(List.mem_replicate.mp hv).2]; omega
  · exact set_mem _ h
theorem wsB_step {k : Nat} {σ σ' : WsS} {c : Nat} (h : WsB k σ) (e : wsStep σ c = some σ') : WsB (k + 1) σ' := by
  obtain ⟨h1, h2, h3, h4⟩ := h
  unfold wsStep at e
  split at e
  · cases e
    exact ⟨by simp only; omega, by simp only; omega, by simp only; omega, fun v hv => by have := h4 v hv; omega⟩
  · split at e
    · cases e
      refine ⟨?_, by simp only; omega, by simp only; omega, bump_mem _ _ _ h4⟩
      simp only [bump_len]; omega
    · cases e
theorem wsB_pre : ∀ (l : List Nat) (k : Nat) (σ σ' : WsS), WsB k σ → wsPre σ l = some σ' → WsB (k + l.length) σ'
  | [], k, σ, σ', h, e => by
    have : σ = σ' := by simpa [wsPre] using e
    subst this; exact h
  | c :: r, k, σ, σ', h, e => by
    unfold wsPre at e
    cases hs : wsStep σ c with
    | none => rw [hs] at e; cases e
    | some τ =>
      rw [hs] at e
      have := wsB_pre r (k + 1) τ σ' (wsB_step h hs) e
      rwa [show k + 1 + r.length = k + (c :: r).length from by simp only [List.length_cons]; omega] at this
theorem wsB_0 : WsB 0 ws0 := ⟨by decide, rfl, by decide, fun v hv => nomatch hv⟩

/-- a Whitespace object: its four objects on the ledger -/
structure WsO where
  a : Addr
  d : Addr
  p : Addr
  c : Addr
  r : Value
  t1 : Tok
  t2 : Tok
  t3 : Tok
  t4 : Tok
  t5 : Tok
  tn : Tok
  tnt : Tok
  tb : Tok
  σ : WsS
  vs : List Value
  n1 : Nat
  n2 : Nat
def WsO.led (P : Params) (C : Addr) (o : WsO) : List (Addr × Obj) :=
  [(o.a, instObj C o.d),
   (o.d, dictOf [⟨PyData.keyHash P (Str.ofString "raw"), .str (Str.ofString "raw") o.t1, o.r⟩, ⟨PyData.keyHash P (Str.ofString "n"), .str (Str.ofString "n") o.t2, .int (o.σ.n : Int) o.tn⟩,
      ⟨PyData.keyHash P (Str.ofString "nt"), .str (Str.ofString "nt") o.t3, .int (o.σ.nt : Int) o.tnt⟩, ⟨PyData.keyHash P (Str.ofString "norm"), .str (Str.ofString "norm") o.t4, .ref o.p⟩,
      ⟨PyData.keyHash P (Str.ofString "is_simple"), .str (Str.ofString "is_simple") o.t5, .bool (decide ((o.σ.cnt.length : Int) ≤ 1))⟩] 5),
   (o.p, { cls := .type "tuple", data := .seq #[.ref o.c, .int (o.σ.b : Int) o.tb] o.n1 }),
   (o.c, { cls := .type "tuple", data := .seq o.vs.toArray o.n2 })]
def WsSm (k : Nat) (σ : WsS) : Prop := σ.cnt.length + σ.b ≤ k ∧ σ.n ≤ k ∧ σ.nt ≤ k ∧ ∀ v ∈ σ.cnt, 0 ≤ v ∧ v ≤ (k : Int)
theorem wsSm_of {k k' : Nat} {σ : WsS} (h : WsB k σ) (hk : k ≤ k') : WsSm k' σ :=
  ⟨by have := h.1; omega, by have := h.2.1; omega, by have := h.2.2.1; omega, fun v hv => by have := h.2.2.2 v hv; omega⟩
structure WsO.Ok (o : WsO) : Prop where
  vals : IntsAre o.vs o.σ.cnt
  small : WsSm (2 ^ 15) o.σ
theorem take_next {x : Str} {i ch : Nat} (hc : x.cps[i]? = some ch) : x.cps.toList.take (i + 1) = x.cps.toList.take i ++ [ch] := by
  have : x.cps.toList[i]? = some ch := by simpa using hc
  rw [List.take_add_one, this]; rfl
theorem pre_next {x : Str} {i ch : Nat} {σ σ' : WsS} (hc : x.cps[i]? = some ch) (h : wsPre ws0 (x.cps.toList.take i) = some σ) (e : wsStep σ ch = some σ') : wsPre ws0 (x.cps.toList.take (i + 1)) = some σ' := by
  rw [take_next hc, wsPre_snoc, h]; exact e
theorem step_space {σ : WsS} {ch : Nat} (h : (({ cps := #[ch] } : Str) == Str.ofString " ") = true) : wsStep σ ch = some ⟨σ.cnt, σ.b + 1, σ.n + 1, σ.nt⟩ := by
  rw [spc_eq, one_eq, beq_iff_eq] at h
  subst h; rfl
theorem step_tab {σ : WsS} {ch : Nat} (h : (({ cps := #[ch] } : Str) == Str.ofString "\t") = true) : wsStep σ ch = some ⟨bump σ.cnt σ.b, 0, σ.n + 1, σ.nt + 1⟩ := by
  rw [tab_eq, one_eq, beq_iff_eq] at h
  subst h; rfl
theorem step_none {σ : WsS} {ch : Nat} (h : (({ cps := #[ch] } : Str) == Str.ofString " ") = false) (h2 : (({ cps := #[ch] } : Str) == Str.ofString "\t") = false) : wsStep σ ch = none := by
  rw [spc_eq, one_eq, beq_eq_false_iff_ne] at h
  rw [tab_eq, one_eq, beq_eq_false_iff_ne] at h2
  unfold wsStep
  rw [if_neg h, if_neg h2]
theorem bumpK1 {cnt : List Int} {b : Nat} (h : (cnt.length : Int) ≤ (b : Int)) : (cnt ++ (List.replicate ((b : Int) - (cnt.length : Int) + 1).toNat [0]).flatten).set (b : Int).toNat ((cnt ++ (List.replicate ((b : Int) - (cnt.length : Int) + 1).toNat [0]).flatten).getD (b : Int).toNat 0 + 1) = bump cnt b := by
  unfold bump
  rw [if_pos (by omega)]
  have e : (List.replicate ((b : Int) - (cnt.length : Int) + 1).toNat ([0] : List Int)).flatten = List.replicate (b - cnt.length + 1) 0 := by
    have : ((b : Int) - (cnt.length : Int) + 1).toNat = b - cnt.length + 1 := by omega
    rw [this]
    generalize b - cnt.length + 1 = k
    induction k with
    | zero => rfl
    | succ k ih => rw [List.replicate_succ, List.flatten_cons, ih, List.replicate_succ]; rfl
  rw [e, Int.toNat_natCast]
theorem bumpK2 {cnt : List Int} {b : Nat} (h : ¬ (cnt.length : Int) ≤ (b : Int)) : cnt.set (b : Int).toNat (cnt.getD (b : Int).toNat 0 + 1) = bump cnt b := by
  unfold bump
  rw [if_neg (by omega), Int.toNat_natCast]
theorem run_end {x : Str} {σ : WsS} (h : wsPre ws0 (x.cps.toList.take x.cps.size) = some σ) : wsOf x = σ := by
  have e : x.cps.toList.take x.cps.size = x.cps.toList := List.take_of_length_le (by simp)
  rw [e] at h
  exact run_of_pre _ _ _ h
theorem run_brk {x : Str} {i ch : Nat} {σ : WsS} (hc : x.cps[i]? = some ch) (h : wsPre ws0 (x.cps.toList.take i) = some σ) (e : wsStep σ ch = none) : wsOf x = σ := by
  unfold wsOf
  have h1 : x.cps.toList = x.cps.toList.take i ++ ch :: x.cps.toList.drop (i + 1) := by
    have h2 := List.take_append_drop (i + 1) x.cps.toList
    rw [take_next hc, List.append_assoc] at h2
    exact h2.symm
  rw [h1]
  exact run_stop _ _ _ _ _ h e
end
section
open PySem PySem.W PyProof.Rows
def lng (σ : WsS) : Int := if (σ.b : Int) > (σ.cnt.length : Int) - 1 then (σ.b : Int) else (σ.cnt.length : Int) - 1
def ilv (σ : WsS) (n : Int) : Nat → Int
  | 0 => 0
  | i + 1 => ilv σ n i + Int.fdiv (n + i) n * σ.cnt.getD (n + (i : Int)).toNat 0
def ind (σ : WsS) (n : Int) : Int := (σ.b : Int) + n * (ilv σ n ((σ.cnt.length : Int) - n).toNat + (σ.nt : Int))
theorem fdiv_bound {a n : Int} (hn : 1 ≤ n) (ha : 0 ≤ a) : 0 ≤ Int.fdiv a n ∧ Int.fdiv a n ≤ a := by
  have e := Int.fdiv_eq_ediv_of_nonneg a (show 0 ≤ n by omega)
  rw [e]
  refine ⟨Int.ediv_nonneg ha (by omega), ?_⟩
  have := Int.ediv_le_self n ha
  omega
def smp (σ : WsS) : Bool := decide ((σ.cnt.length : Int) ≤ 1)
def lmax (σ τ : WsS) : Int := if lng τ > lng σ then lng τ else lng σ
def lessUp (σ τ : WsS) : Nat → Bool
  | 0 => true
  | i + 1 => lessUp σ τ i && decide (ind σ (2 + i) < ind τ (2 + i))
def lessB (σ τ : WsS) : Bool := if (τ.n : Int) ≤ (σ.n : Int) then false else if smp σ && smp τ then decide ((σ.nt : Int) ≤ (τ.nt : Int)) else lessUp σ τ (lmax σ τ + 1 + 1 - 2).toNat
abbrev Row3 := Int × Int × Int
end
section
open PySem PySem.W PyProof.Rows PySem.Calls PySem.Spec
section
variable {prog : Program} {w : World} {A A₀ : Around} {E : Value → Shared → Prop} {s : Shared} {K : Frag} {C L : Addr} {g h₀ base : Heap} {m mg mb : Str → Option Value} {tr news : List (Addr × Obj)} {p : Program} {loose : List Str} {mean : ExcName → Option Value} {Q : Value → Shared → Prop}

theorem enterT {env : Env} {outer : List Env} {R : Result → Shared → Prop} {name qual : Str} {params : Arguments} {body : List Stmt} {scope : Scope} {dV kV doc pm cdv ct oc : Value} {an od : Option Addr} {osl : Array (Option Value)} {f : Addr} {args : Args} {binds : List (Str × Value)}
    (B : Below A₀ base outer h₀) (F : Fr h₀ L s.heap m) (X₀ : K.In h₀) (N : News h₀ L s.heap tr) (T : Top p loose mean mg mb h₀) (hA : A.frames = some (env :: outer)) (hf : env.frame = some L) (hke : env.scope.kind = .function)
    (ho : K.lookup f = some ⟨oc, od, .func (fnOf name qual params body scope dV kV doc pm an cdv ct), osl⟩) (hcd : codeIn K cdv qual = true) (hroom : A.depth < recursionLimit)
    (hbind : BindsTo s (fnOf name qual params body scope dV kV doc pm an cdv ct) args binds) (hloc : ∀ y ∈ binds, scope.names.lookup y.1 = some .local)
    (h : ∀ g L' h₁ tk, (∀ b o, s.heap.get? b = some o → g.get? b = some o ∨ (b, o) ∈ tr) → (∀ b, s.heap.get? b = none → g.get? b = none) → (∀ b, g.get? b = none → s.heap.get? b = none ∨ ∃ o, (b, o) ∈ tr) → Fr g L' h₁ (fun y => binds.reverse.lookup y) → News g L' h₁ tr → Below A base (env :: outer) g → K.In g → Top p loose mean mg mb g → (∀ q ∈ tr, q.1 < L') →
      wpAny (model prog w) (A.deeper (envOf qual scope L' f cdv)) (execs body (envOf qual scope L' f cdv))
        (fun fl s' => Ret R (match fl with | .ret v => v | _ => .none) s')
        (fun e s' => wpAny (model prog w) (A.deeper (envOf qual scope L' f cdv)) (leaving (envOf qual scope L' f cdv) e) (fun _ s'' => R (.error e) s'') (fun e' s'' => R (.error e') s'') s')
        { s with heap := h₁, toks := tk })
    (hco : scope.isCoroutine = false) (hgen : scope.isGenerator = false) (hk : scope.kind = .function)
    (hcell : ∀ x ∈ scope.names, x.2 ≠ .cell) : codeAny (model prog w) A (.call (.ref f) args) R s := by
  obtain ⟨FG, BG, st, lv⟩ := groundX (R := R) B F N hA hf hke
  have X1 := X₀.keeps st
  have T1 := T.keeps st
  refine code_defP (tr := tr) (fun b o e => of_hideAll _ e) (Nat.le_of_eq (hideAll_size _ _)) X1 T1 ho hcd hroom hbind hloc (fun q hq => ⟨(N q hq).1, hideAll_none _ (List.mem_map_of_mem hq)⟩) (fun L' h₁ tk F' N' lt => ?_) hco hgen hk hcell
  refine h _ L' h₁ tk (fun b o e => ?_) (fun b e => ?_) (fun b e => ?_) F' N' BG (X₀.keeps st) (T.keeps st) lt
  · by_cases hb : b ∈ tr.map (·.1)
    · obtain ⟨q, hq, rfl⟩ := List.mem_map.mp hb
      have := (N q hq).1
      rw [e] at this
      exact .inr (by rw [Option.some.inj this]; exact hq)
    · exact .inl (hideAll_get _ e hb)
  · cases q : (hideAll s.heap (tr.map (·.1))).get? b with
    | none => rfl
    | some o => rw [of_hideAll _ q] at e; cases e
  · by_cases hb : b ∈ tr.map (·.1)
    · obtain ⟨q, hq, rfl⟩ := List.mem_map.mp hb
      exact .inr ⟨q.2, hq⟩
    · cases q : s.heap.get? b with
      | none => exact .inl rfl
      | some o => rw [hideAll_get _ q hb] at e; cases e

theorem stays_of {h h' : Heap} {L' : Addr} {m' : Str → Option Value} (cov : ∀ b o, h.get? b = some o → g.get? b = some o ∨ (b, o) ∈ tr) (F : Fr g L' h' m') (N : News g L' h' news) (sub : ∀ q ∈ tr, q ∈ news) : h.StaysIn h' :=
  fun b o e => (cov b o e).elim (fun e' => F.keep b o e') fun e' => (N _ (sub _ e')).1

/-- two addresses apart, hidden from omega -/
def NeQ (a b : Nat) : Prop := a ≠ b
theorem neq_out {a b : Nat} (h : NeQ a b) : a ≠ b := h
theorem neq_symm {a b : Nat} (h : NeQ a b) : b ≠ a := fun e => h e.symm
theorem neq_in {a b : Nat} (h : a ≠ b) : NeQ a b := h
/-- a loop at its iterator's making: the walk stops here -/
def MyIter (prog : Program) (w : World) (A : Around) (h₀ : Heap) (env : Env) (x : Str) (body : List Stmt) (Q : Flow → Shared → Prop) (E : Value → Shared → Prop) (xv : Value) (s₁ : Shared) : Prop :=
  wpAny (model prog w) A (pyIter xv) (fun it s₂ => LoopAtV prog w A h₀ env x body Q E it s₂) E s₁
theorem For_mine {env : Env} {x : Str} {body : List Stmt} {Q : Flow → Shared → Prop} {px pos : Pos} {iter : Expr} (_F : Fr h₀ env.locals s.heap m) (hx : env.kindOf x = some .local)
    (hp : (env.scope.kind == .class || (env.scope.kind == .module && env.locals != env.globals)) = false)
    (h : wpAny (model prog w) A (eval iter env) (fun xv s₁ => MyIter prog w A h₀ env x body Q E xv s₁) E s)
    (hs : ∀ x, foldedSetIterable iter env x = pure x := by intro _; rfl)
    (hE : PassesOwn (model prog w) A env E := by passes_own) :
    wpAny (model prog w) A (exec (.For (.Name x px) iter body [] pos) env) Q E s := For_invV h₀ hx hp h hs
abbrev MCl (prog : Program) (w : World) (K : Frag) (p : Program) (loose : List Str) (mean : ExcName → Option Value) (mg mb : Str → Option Value) (k j : Nat) (f : Addr) (vs : List Value) (tr : List (Addr × Obj)) (pre : Prop) (post : Value → Heap → Heap → Prop) : Prop :=
  ∀ (dp un : Nat) (gd : Option (List Code)) (cn : Str) (cs : Scope) (a : Addr) (ccd : Value) (cl : List (Str × Addr)) (outer : List Env) (A₀ : Around) (base h₀ : Heap) (L : Addr) (m : Str → Option Value) (s : Shared) (Q E : Value → Shared → Prop),
    Below A₀ base outer h₀ → Fr h₀ L s.heap m → K.In h₀ → Top p loose mean mg mb h₀ → cs.kind = .function → News h₀ L s.heap tr →
    pre → dp + k < recursionLimit → un + j < cLine → (∀ v h' tk', s.heap.StaysIn h' → post v s.heap h' → Q v { s with heap := h', toks := tk' }) →
      wpAny (model prog w) (ktrTop dp un gd cn cs L a ccd cl outer) (call (.ref f) vs) Q E s

theorem news_add {led : List (Addr × Obj)} {h' : Heap} (F : Fr h₀ L s.heap m) (N : News h₀ L s.heap news) (st : s.heap.StaysIn h') (hq : ∀ q ∈ led, h'.get? q.1 = some q.2 ∧ s.heap.get? q.1 = none) : News h₀ L h' (led ++ news) := by
  intro q hm
  rcases List.mem_append.mp hm with hm | hm
  · refine ⟨(hq q hm).1, fun e => ?_, ?_⟩
    · obtain ⟨oL, _, _, hL, _⟩ := F.ns
      have := (hq q hm).2
      rw [e, hL] at this; cases this
    · cases z : h₀.get? q.1 with
      | none => rfl
      | some o => have := (hq q hm).2; rw [F.keep _ _ z] at this; cases this
  · exact news_stays N st q hm

theorem mcl_use {K : Frag} {k j : Nat} {f : Addr} {vs : List Value} {pre : Prop} {post : Value → Heap → Heap → Prop} {dp un : Nat} {gd : Option (List Code)} {cn : Str} {cs : Scope} {a : Addr} {ccd : Value} {cl : List (Str × Addr)} {outer : List Env}
    (C : MCl prog w K p loose mean mg mb k j f vs tr pre post) (B : Below A₀ base outer h₀) (F : Fr h₀ L s.heap m) (X : K.In h₀) (T : Top p loose mean mg mb h₀) (hk : cs.kind = .function) (N : News h₀ L s.heap news) (sub : ∀ q ∈ tr, q ∈ news)
    (hp : pre) (hd : dp + k < recursionLimit) (hu : un + j < cLine) (h : ∀ v h' tk', s.heap.StaysIn h' → Fr h₀ L h' m → News h₀ L h' news → post v s.heap h' → Q v { s with heap := h', toks := tk' }) :
    wpAny (model prog w) (ktrTop dp un gd cn cs L a ccd cl outer) (call (.ref f) vs) Q E s :=
  C _ _ _ _ _ _ _ _ _ _ _ _ _ _ _ _ _ B F X T hk (fun q hq => N q (sub q hq)) hp hd hu fun v h' tk' st po => h v h' tk' st (fr_stays F st) (news_stays N st) po
end
end
section
open PySem PySem.W PyProof.Rows PySem.Calls PySem.Spec
section
variable {prog : Program} {w : World} {A : Around} {E : Value → Shared → Prop} {s : Shared} {L t : Addr} {h₀ : Heap} {m : Str → Option Value} {news : List (Addr × Obj)} {Q : Value → Shared → Prop} {vs : List Value} {ns : List Int} {n : Nat}
theorem lenT_K (N : News h₀ L s.heap news) (hm : (t, ({ cls := .type "tuple", data := .seq vs.toArray n } : Obj)) ∈ news) (hi : IntsAre vs ns) (hl : ns.length ≤ 2 ^ 20)
    (h : Q (.int (ns.length : Int) (s.toks + 1)) { s with toks := s.toks + 1 + 1 }) : wpAny (model prog w) A (call (.builtin "len") [.ref t]) Q E s := by
  have e : vs.toArray.size = ns.length := by simp [hi.length]
  refine len_tuple (N.isTup hm) (by rw [e]; omega) ?_
  rw [e]; exact h
theorem itemT_K {value slice : Expr} {k : Int} {u : Tok} (N : News h₀ L s.heap news) (hm : (t, ({ cls := .type "tuple", data := .seq vs.toArray n } : Obj)) ∈ news) (hi : IntsAre vs ns) (h0 : 0 ≤ k) (h1 : k < (ns.length : Int)) (hl : ns.length ≤ 2 ^ 20)
    (h : ∀ v, Q (.int (ns.getD k.toNat 0) v) s)
    (hs : subscripted slice false (.ref t) (.int k u) = operate [.ref t, .int k u] (getItem (.ref t) (.int k u)) := by with_unfolding_all rfl) :
    wpAny (model prog w) A (subscriptTail value slice (.ref t) (.int k u)) Q E s := by
  have e : vs.length = ns.length := hi.length
  have hk : k.toNat < ns.length := by omega
  obtain ⟨v, hv⟩ := hi.get k.toNat ns[k.toNat] (by simp [hk])
  refine item_tupleT (N.isTup hm) (by omega) (by omega) (j := k.toNat) ?_ hv ?_ hs
  · unfold seqIndex?
    rw [e]
    simp only [show ¬ k < 0 from by omega, if_false]
    rw [if_pos (by simp; omega)]
  · have : ns.getD k.toNat 0 = ns[k.toNat] := by simp [List.getD, hk]
    rw [← this]; exact h v
end
end
section
open PySem PySem.W PyProof.Rows PySem.Calls PySem.Spec
inductive RowsAt (tups : List (Addr × Obj)) : List Value → List Row3 → Prop where
  | nil : RowsAt tups [] []
  | snoc {vs : List Value} {rs : List Row3} {q : Addr} {a b c : Int} {t u v : Tok} {n : Nat} : RowsAt tups vs rs → (q, ({ cls := .type "tuple", data := .seq #[.int a t, .int b u, .int c v] n } : Obj)) ∈ tups → RowsAt tups (vs ++ [.ref q]) (rs ++ [(a, b, c)])
theorem RowsAt.mono {tups tups' : List (Addr × Obj)} {vs : List Value} {rs : List Row3} (h : RowsAt tups vs rs) (hs : ∀ p ∈ tups, p ∈ tups') : RowsAt tups' vs rs := by
  induction h with
  | nil => exact .nil
  | snoc _ hm ih => exact .snoc ih (hs _ hm)
theorem RowsAt.length {tups : List (Addr × Obj)} {vs : List Value} {rs : List Row3} (h : RowsAt tups vs rs) : vs.length = rs.length := by
  induction h with
  | nil => rfl
  | snoc _ _ ih => simp [ih]
end
section
open PySem PySem.W PyProof.Rows PySem.Calls PySem.Spec
def dotS (k : Nat) : Str := ⟨(List.replicate k 46).toArray⟩
theorem dotS_len (k : Nat) : (dotS k).length = k := by simp [dotS, Str.length]
theorem dot_eq : Str.ofString "." = ⟨#[46]⟩ := by decide +kernel
theorem mul_dot {n : Int} (h0 : 0 ≤ n) : Txt.mul (Str.ofString ".") n = dotS n.toNat := by
  rw [dot_eq]
  unfold Txt.mul
  by_cases h : n < 1
  · rw [if_pos h]
    have : n.toNat = 0 := by omega
    rw [this]; rfl
  · rw [if_neg h]
    by_cases h1 : (n == 1 || (⟨#[46]⟩ : Str).length == 0) = true
    · rw [if_pos h1]
      have : n = 1 := by
        simp only [Bool.or_eq_true, beq_iff_eq] at h1
        rcases h1 with h1 | h1
        · exact h1
        · exact absurd h1 (by decide)
      subst this; rfl
    · rw [if_neg h1]
      unfold dotS
      congr 1
      have : ∀ (k : Nat) (acc : Array Nat), (List.replicate k (#[46] : Array Nat)).foldl (· ++ ·) acc = acc ++ (List.replicate k 46).toArray := by
        intro k
        induction k with
        | zero => intro acc; simp
        | succ k ih =>
          intro acc
          rw [List.replicate_succ, List.foldl_cons, ih, List.replicate_succ]
          apply Array.toList_inj.mp
          simp
      rw [this]; simp
section
variable {prog : Program} {w : World} {A : Around} {E : Value → Shared → Prop} {s : Shared} {L t : Addr} {h₀ : Heap} {m : Str → Option Value} {news : List (Addr × Obj)} {Q : Value → Shared → Prop}
theorem dotMul_K {n : Int} {t u : Tok} (h0 : 0 ≤ n) (h1 : n ≤ 1000) (h : ∀ t tk, (dotS n.toNat).length = n.toNat ∧ (n.toNat : Int) = n → Q (.str (dotS n.toNat) t) { s with toks := tk }) : wpAny (model prog w) A (binaryOp .Mult (.str (Str.ofString ".") t) (.int n u)) Q E s := by
  refine SB.mul (mulOk_of 16 1048576 (by decide) (by omega) (by omega) (by decide) (by decide)) ?_
  intro t' k
  rw [mul_dot h0]
  exact h t' k ⟨dotS_len _, by omega⟩
theorem fm3_0 (x : Int) : 0 ≤ Int.fmod x 3 := Int.fmod_nonneg_of_pos x (by decide)
theorem fm3_1 (x : Int) : Int.fmod x 3 ≤ 1000 := by have := Int.fmod_lt_of_pos x (show (0 : Int) < 3 by decide); omega
theorem len_lit_tab : (Str.ofString "\t").length = 1 := by decide +kernel
theorem len_lit_e : (Str.ofString "").length = 0 := by decide +kernel
theorem len_lit_a2 : (Str.ofString "a\r\n").length = 3 := by decide +kernel
end
end
section
open PySem PySem.W PyProof.Rows
/-- the sum of (j / n) * c over the places -/
def wsum (n : Nat) : Nat → List Int → Int
  | _, [] => 0
  | j, c :: r => ((j / n : Nat) : Int) * c + wsum n (j + 1) r
theorem wsum_cons (n j : Nat) (c : Int) (r : List Int) : wsum n j (c :: r) = ((j / n : Nat) : Int) * c + wsum n (j + 1) r := rfl
theorem wsum_app (n : Nat) : ∀ (l r : List Int) (j : Nat), wsum n j (l ++ r) = wsum n j l + wsum n (j + l.length) r
  | [], r, j => by simp [wsum]
  | c :: l, r, j => by
    rw [List.cons_append, wsum_cons, wsum_cons, wsum_app n l r (j + 1)]
    rw [show j + 1 + l.length = j + (c :: l).length from by simp only [List.length_cons]; omega]
    omega
theorem wsum_zeros (n : Nat) : ∀ (k j : Nat), wsum n j (List.replicate k 0) = 0
  | 0, _ => rfl
  | k + 1, j => by rw [List.replicate_succ]; unfold wsum; rw [wsum_zeros n k]; simp
theorem wsum_set (n : Nat) : ∀ (l : List Int) (b j : Nat), b < l.length → wsum n j (l.set b (l.getD b 0 + 1)) = wsum n j l + ((j + b) / n : Nat)
  | [], _, _, h => by simp at h
  | c :: l, 0, j, _ => by
    show wsum n j ((c + 1) :: l) = _
    rw [wsum_cons, wsum_cons, Int.mul_add, Int.mul_one]; simp only [Nat.add_zero]; omega
  | c :: l, b + 1, j, h => by
    show wsum n j (c :: l.set b (l.getD b 0 + 1)) = _
    rw [wsum_cons, wsum_cons, wsum_set n l b (j + 1) (by simpa using h), show j + 1 + b = j + (b + 1) from by omega]
    omega
theorem wsum_bump (n : Nat) (cnt : List Int) (b : Nat) : wsum n 0 (bump cnt b) = wsum n 0 cnt + (b / n : Nat) := by
  unfold bump
  split
  · rw [wsum_set n _ b 0 (by simp; omega), wsum_app, wsum_zeros, Nat.zero_add]; omega
  · rw [wsum_set n _ b 0 (by omega), Nat.zero_add]
/-- the made-out column -/
def colN (σ : WsS) (n : Nat) : Int := (σ.b : Int) + n * (wsum n 0 σ.cnt + (σ.nt : Int))

theorem wsum_small (n : Nat) : ∀ (l : List Int) (j : Nat), j + l.length ≤ n → wsum n j l = 0
  | [], _, _ => rfl
  | c :: l, j, h => by
    simp only [List.length_cons] at h
    unfold wsum
    rw [wsum_small n l (j + 1) (by omega), Nat.div_eq_of_lt (by omega)]; simp
theorem ilv_eq (σ : WsS) (n : Nat) (hn : 1 ≤ n) : ∀ k : Nat, n + k ≤ σ.cnt.length → ilv σ n k = wsum n 0 (σ.cnt.take (n + k))
  | 0, h => by
    unfold ilv
    rw [wsum_small n _ 0 (by simp; omega)]
  | k + 1, h => by
    unfold ilv
    rw [ilv_eq σ n hn k (by omega)]
    have hk : n + k < σ.cnt.length := by omega
    have e1 : (n : Int) + (k : Int) = ((n + k : Nat) : Int) := by omega
    rw [e1, Int.toNat_natCast]
    have e2 : σ.cnt.getD (n + k) 0 = σ.cnt[n + k] := by simp [List.getD, hk]
    have e3 : Int.fdiv ((n + k : Nat) : Int) (n : Int) = (((n + k) / n : Nat) : Int) := by
      rw [Int.fdiv_eq_ediv_of_nonneg _ (by omega)]; rfl
    rw [show n + (k + 1) = (n + k) + 1 from by omega, List.take_add_one]
    have e4 : σ.cnt[n + k]? = some σ.cnt[n + k] := by simp [hk]
    rw [e4, wsum_app]
    have e5 : (σ.cnt.take (n + k)).length = n + k := by simp; omega
    rw [e5, e2, e3]
    simp [wsum]
theorem ind_eq (σ : WsS) (n : Nat) (hn : 1 ≤ n) : ind σ n = colN σ n := by
  unfold ind colN
  by_cases h : n ≤ σ.cnt.length
  · have e : ((σ.cnt.length : Int) - (n : Int)).toNat = σ.cnt.length - n := by omega
    rw [e, ilv_eq σ n hn _ (by omega), show n + (σ.cnt.length - n) = σ.cnt.length from by omega, List.take_length]
  · have e : ((σ.cnt.length : Int) - (n : Int)).toNat = 0 := by omega
    rw [e, wsum_small n _ 0 (by omega)]; rfl

def sp (c : Nat) : Nat := if c = 46 then 32 else c
def DT (l : List Nat) : Prop := ∀ c ∈ l, c = 46 ∨ c = 9

theorem step_sp {σ : WsS} {c : Nat} (h : c = 46 ∨ c = 9) : ∃ σ', wsStep σ (sp c) = some σ' := by
  rcases h with rfl | rfl
  · exact ⟨_, rfl⟩
  · exact ⟨_, rfl⟩
theorem pre_all : ∀ (l : List Nat) (σ : WsS), DT l → ∃ σ', wsPre σ (l.map sp) = some σ'
  | [], σ, _ => ⟨σ, rfl⟩
  | c :: r, σ, h => by
    obtain ⟨τ, e⟩ := step_sp (σ := σ) (h c (.head _))
    obtain ⟨σ', e'⟩ := pre_all r τ fun d hd => h d (.tail _ hd)
    exact ⟨σ', by rw [List.map_cons]; unfold wsPre; rw [e]; exact e'⟩
theorem col_tabN (b n : Nat) (K : Int) (hn : 1 ≤ n) : ((b : Int) + n * K) - Int.fmod ((b : Int) + n * K) n + n = (n : Int) * (K + (b / n : Nat) + 1) := by
  have e1 : Int.fmod ((b : Int) + n * K) n = ((b % n : Nat) : Int) := by
    rw [Int.fmod_eq_emod_of_nonneg _ (by omega), Int.add_mul_emod_self_left]; rfl
  rw [e1]
  have e2 : (b : Int) = n * (b / n : Nat) + (b % n : Nat) := by
    have := Nat.div_add_mod b n
    exact_mod_cast this.symm
  rw [Int.mul_add, Int.mul_add, Int.mul_one]
  omega
theorem step_col (n : Nat) (hn : 1 ≤ n) {σ σ' : WsS} {c : Nat} (h : c = 46 ∨ c = 9) (e : wsStep σ (sp c) = some σ') : colStep n (colN σ n) (c : Int) = colN σ' n := by
  rcases h with rfl | rfl
  · cases e
    unfold colStep
    rw [if_neg (by decide)]
    unfold colN
    simp only
    omega
  · cases e
    unfold colStep
    rw [if_pos (by decide)]
    unfold colN
    rw [col_tabN _ _ _ hn]
    simp only [wsum_bump]
    rw [show wsum n 0 σ.cnt + (σ.nt : Int) + ((σ.b / n : Nat) : Int) + 1 = wsum n 0 σ.cnt + ((σ.b / n : Nat) : Int) + ((σ.nt + 1 : Nat) : Int) from by omega]
    simp
theorem pre_col (n : Nat) (hn : 1 ≤ n) : ∀ (l : List Nat) (σ σ' : WsS), DT l → wsPre σ (l.map sp) = some σ' → (l.map fun (c : Nat) => (c : Int)).foldl (colStep n) (colN σ n) = colN σ' n
  | [], σ, σ', _, e => by
    have : σ = σ' := by simpa [wsPre] using e
    subst this; rfl
  | c :: r, σ, σ', h, e => by
    rw [List.map_cons] at e
    unfold wsPre at e
    cases hs : wsStep σ (sp c) with
    | none => rw [hs] at e; cases e
    | some τ =>
      rw [hs] at e
      rw [List.map_cons, List.foldl_cons, step_col n hn (h c (.head _)) hs]
      exact pre_col n hn r τ σ' (fun d hd => h d (.tail _ hd)) e
end
section
open PySem PySem.W PyProof.Rows
theorem lessUp_iff (σ τ : WsS) : ∀ k : Nat, lessUp σ τ k = true ↔ ∀ i : Nat, i < k → ind σ (2 + (i : Int)) < ind τ (2 + (i : Int))
  | 0 => by simp [lessUp]
  | k + 1 => by
    unfold lessUp
    rw [Bool.and_eq_true, lessUp_iff σ τ k, decide_eq_true_eq]
    constructor
    · rintro ⟨h1, h2⟩ i hi
      by_cases e : i = k
      · subst e; exact h2
      · exact h1 i (by omega)
    · intro h
      exact ⟨fun i hi => h i (by omega), h k (by omega)⟩
end
section
open PySem PySem.W PyProof.Rows
/-- the state behind a lead of dots and tabs, the dots read as blanks -/
def SL (l : List Nat) : WsS := wsRun ws0 (l.map sp)
theorem SL_pre {l : List Nat} (h : DT l) : wsPre ws0 (l.map sp) = some (SL l) := by
  obtain ⟨σ, e⟩ := pre_all l ws0 h
  rw [e, SL, run_of_pre _ _ _ e]
theorem SL_row {l r : List Nat} {c : Nat} (h : DT l) (h1 : c ≠ 32) (h2 : c ≠ 9) : wsRun ws0 (l.map sp ++ c :: r) = SL l :=
  run_stop _ _ _ _ _ (SL_pre h) (by unfold wsStep; rw [if_neg h1, if_neg h2])
def colD (l : List Nat) (n : Int) : Int := colL (l.map fun (c : Nat) => (c : Int)) n
theorem col_colD (x : Str) (n : Int) : col x n = colD x.cps.toList n := rfl
theorem SL_ind {l : List Nat} (h : DT l) {n : Nat} (hn : 1 ≤ n) : ind (SL l) n = colD l n := by
  rw [ind_eq _ n hn, ← pre_col n hn l ws0 _ h (SL_pre h)]
  have : colN ws0 n = 0 := by simp [colN, ws0, wsum]
  rw [this]; rfl
/-- the longest run of dots -/
def mrun : List Nat → Nat → Nat → Nat
  | [], cur, best => max cur best
  | c :: r, cur, best => if c = 9 then mrun r 0 (max cur best) else mrun r (cur + 1) best
-- columns
theorem colStep_shift (n : Nat) (hn : 1 ≤ n) (k a c : Int) : colStep n (n * k + a) c = n * k + colStep n a c := by
  unfold colStep
  split
  · have : Int.fmod (n * k + a) n = Int.fmod a n := by
      rw [Int.fmod_eq_emod_of_nonneg _ (by omega), Int.fmod_eq_emod_of_nonneg _ (by omega), Int.add_comm, Int.add_mul_emod_self_left]
    rw [this]; omega
  · omega
theorem col_shift (n : Nat) (hn : 1 ≤ n) (k : Int) : ∀ (l : List Int) (a : Int), l.foldl (colStep n) (n * k + a) = n * k + l.foldl (colStep n) a
  | [], a => rfl
  | c :: l, a => by rw [List.foldl_cons, List.foldl_cons, colStep_shift n hn, col_shift n hn k l]
theorem col_dots (n : Int) : ∀ (k : Nat) (a : Int), (List.replicate k (46 : Int)).foldl (colStep n) a = a + k
  | 0, a => by simp
  | k + 1, a => by
    rw [List.replicate_succ, List.foldl_cons, col_dots n k]
    unfold colStep
    rw [if_neg (by decide)]; omega
theorem colD_dots (k n : Nat) : colD (List.replicate k 46) n = k := by
  unfold colD colL
  rw [List.map_replicate]
  have := col_dots n k 0
  simpa using this
/-- dots, a tab, more -/
theorem colD_lead (k n : Nat) (hn : 1 ≤ n) (r : List Nat) : colD (List.replicate k 46 ++ 9 :: r) n = n * ((k / n : Nat) : Int) + n + colD r n := by
  unfold colD colL
  rw [List.map_append, List.map_replicate, List.foldl_append, List.map_cons, List.foldl_cons]
  have e := col_dots n k 0
  rw [show ((46 : Nat) : Int) = 46 from rfl, e, Int.zero_add]
  have e2 : colStep n (k : Int) ((9 : Nat) : Int) = (n : Int) * (((k / n : Nat) : Int) + 1) + 0 := by
    unfold colStep
    rw [if_pos (by decide)]
    have := col_tabN k n 0 hn
    simp only [Int.mul_zero, Int.add_zero, Int.zero_add] at this
    rw [this]; omega
  rw [e2, col_shift n hn, Int.mul_add, Int.mul_one]
end
section
open PySem PySem.W PyProof.Rows
open StrLaws Builtin Builtin.Str
/-- rows with both signs between -/
def joinR : List (List Nat) → List Nat
  | [] => []
  | [p] => p
  | p :: q :: r => p ++ 13 :: 10 :: joinR (q :: r)
def crlf : Str := ⟨#[13, 10]⟩
theorem crlf_eq : Str.ofString "\r\n" = crlf := by decide +kernel
theorem at_crlf {x : Str} {i : Nat} : At x crlf x.length i ↔ ∃ r, x.cps.toList.drop i = 13 :: 10 :: r := by
  unfold At
  rw [subAt_eq]
  have hn : x.cps.toList.length = x.length := by simp [Str.length]
  have hl : crlf.length = 2 := rfl
  have ht : crlf.cps.toList = [13, 10] := rfl
  rw [hl, ht]
  constructor
  · intro ⟨_, h⟩
    have h := eq_of_beq h
    match hd : x.cps.toList.drop i with
    | [] => rw [hd] at h; simp at h
    | [_] => rw [hd] at h; simp at h
    | a :: b :: r =>
      rw [hd] at h
      simp at h
      exact ⟨r, by rw [h.1, h.2]⟩
  · intro ⟨r, h⟩
    refine ⟨?_, ?_⟩
    · have := congrArg List.length h
      rw [List.length_drop, hn] at this
      simp at this; omega
    · rw [h]; rfl
theorem drop_in {pre p t : List Nat} {c : Nat} (h1 : pre.length ≤ c) (h2 : c < pre.length + p.length) : ∃ a ∈ p, ∃ r, (pre ++ (p ++ t)).drop c = a :: r := by
  have hj : c - pre.length < p.length := by omega
  refine ⟨p[c - pre.length], List.getElem_mem hj, (p.drop (c - pre.length + 1)) ++ t, ?_⟩
  rw [List.drop_append, List.drop_of_length_le h1, List.nil_append, List.drop_append_of_le_length (by omega)]
  rw [List.drop_eq_getElem_cons hj]
  rfl
theorem sub_mid {x : Str} {pre p t : List Nat} (e : x.cps.toList = pre ++ (p ++ t)) : (strSub x pre.length (pre.length + p.length)).cps.toList = p := by
  rw [strSub_toList, e, List.drop_left', Nat.add_sub_cancel_left, List.take_left']
  · rfl
  · rfl
theorem rows_of (x : Str) : ∀ (ps : List (List Nat)) (p pre : List Nat) (cuts : List Nat) (f : Nat), (∀ q ∈ p :: ps, 13 ∉ q) → x.cps.toList = pre ++ joinR (p :: ps) → ChainG x crlf x.length pre.length cuts f → (∀ k, f ≤ k → ¬ At x crlf x.length k) → (partsFrom x 2 pre.length cuts).map (·.cps.toList) = p :: ps
  | [], p, pre, cuts, f, hp, e, hG, hn => by
    have e : x.cps.toList = pre ++ (p ++ []) := by rw [e, List.append_nil]; rfl
    have hl : x.length = pre.length + p.length := by
      have := congrArg List.length e
      simpa [Str.length] using this
    match cuts, hG with
    | [], _ =>
      show [(strSub x pre.length x.length).cps.toList] = [p]
      rw [hl, sub_mid e]
    | c :: r, hG =>
      exfalso
      obtain ⟨r', hr⟩ := at_crlf.mp hG.2.1
      have h1 := hG.1
      have h2 := hG.2.1.1
      have h3 : crlf.length = 2 := rfl
      obtain ⟨a, ha, r2, e2⟩ := drop_in (pre := pre) (p := p) (t := []) h1 (by omega)
      rw [e, e2] at hr
      cases hr
      exact hp p (.head _) ha
  | q :: ps, p, pre, cuts, f, hp, e, hG, hn => by
    have e : x.cps.toList = pre ++ (p ++ 13 :: 10 :: joinR (q :: ps)) := e
    have hA : At x crlf x.length (pre.length + p.length) := by
      refine at_crlf.mpr ⟨joinR (q :: ps), ?_⟩
      rw [e, ← List.append_assoc, ← List.length_append]
      exact List.drop_left
    match cuts, hG with
    | [], hG =>
      exfalso
      have hf : f = pre.length := hG
      exact hn _ (by omega) hA
    | c :: r, hG =>
      obtain ⟨h1, hc, hgap, hG'⟩ := hG
      have hcc : c = pre.length + p.length := by
        by_cases h : c < pre.length + p.length
        · exfalso
          obtain ⟨r', hr⟩ := at_crlf.mp hc
          obtain ⟨a, ha, r2, e2⟩ := drop_in (pre := pre) (p := p) (t := 13 :: 10 :: joinR (q :: ps)) h1 h
          rw [e, e2] at hr
          cases hr
          exact hp p (.head _) ha
        · by_cases h' : pre.length + p.length < c
          · exact absurd hA (hgap _ (by omega) h')
          · omega
      subst hcc
      show (strSub x pre.length (pre.length + p.length)).cps.toList :: (partsFrom x 2 (pre.length + p.length + 2) r).map (·.cps.toList) = p :: q :: ps
      rw [sub_mid e]
      have hl : (pre ++ (p ++ [13, 10])).length = pre.length + p.length + 2 := by simp; omega
      have := rows_of x ps q (pre ++ (p ++ [13, 10])) r f (fun z hz => hp z (.tail _ hz)) (by rw [e]; simp) (by rw [hl]; exact hG') hn
      rw [hl] at this
      rw [this]
theorem kind_crlf : strKind crlf = 1 := by decide +kernel
theorem split_rows {x : Str} {p : List Nat} {ps : List (List Nat)} (hp : ∀ q ∈ p :: ps, 13 ∉ q) (e : x.cps.toList = joinR (p :: ps)) : (Txt.split x crlf).map (·.cps.toList) = p :: ps := by
  obtain ⟨f, hG, hn⟩ := occ_tight x crlf (by decide)
  have key := rows_of x ps p [] _ f hp (by simpa using e) hG hn
  unfold Txt.split
  split
  · rename_i hc
    rw [Bool.or_eq_true, decide_eq_true_eq, decide_eq_true_eq, kind_crlf] at hc
    have := strKind_pos x
    have h3 : crlf.length = 2 := rfl
    have hlt : x.length < 2 := by omega
    match ho : occurrences x crlf 0 x.length (x.length + 1), hG with
    | [], _ =>
      rw [ho] at key
      have k2 : [(strSub x 0 x.length).cps.toList] = p :: ps := key
      rw [sub_whole] at k2
      exact k2
    | c :: r, hG => have := hG.2.1.1; omega
  · split
    · rename_i he
      rw [List.isEmpty_iff.mp he] at key
      have k2 : [(strSub x 0 x.length).cps.toList] = p :: ps := key
      rw [sub_whole] at k2
      exact k2
    · rw [partsBetween_eq]
      exact key
/-- the dots read as blanks -/
theorem sp_free : ∀ l : List Nat, 46 ∉ l → l.map sp = l
  | [], _ => rfl
  | c :: r, h => by
    have h1 : ¬ c = 46 := fun e => h (e ▸ List.mem_cons_self ..)
    rw [List.map_cons, sp_free r (fun m => h (.tail _ m)), sp, if_neg h1]
theorem sp_join : ∀ parts : List Str, (∀ p ∈ parts, 46 ∉ p.cps.toList) → (Str.join ⟨#[46]⟩ parts).cps.toList.map sp = (Str.join ⟨#[32]⟩ parts).cps.toList
  | [], _ => rfl
  | [p], h => sp_free _ (h p (List.mem_singleton.mpr rfl))
  | p :: q :: r, h => by
    have ih := sp_join (q :: r) fun a ha => h a (List.mem_cons_of_mem _ ha)
    show (p ++ ⟨#[46]⟩ ++ Str.join ⟨#[46]⟩ (q :: r)).cps.toList.map sp = (p ++ ⟨#[32]⟩ ++ Str.join ⟨#[32]⟩ (q :: r)).cps.toList
    simp only [Str.cps_append, Array.toList_append]
    rw [List.map_append, List.map_append, ih, sp_free _ (h p (List.mem_cons_self ..))]
    rfl
theorem replace_sp (x : Str) : (Txt.replace x (Str.ofString ".") (Str.ofString " ")).cps.toList = x.cps.toList.map sp := by
  rw [dot_eq, spc_eq, replace_one, ← sp_join _ (split_free x 46), join_split]
/-- all but the first sign -/
theorem slice1 (x : Str) {c : Nat} {r : List Nat} (h : x.cps.toList = c :: r) : (Txt.slice x (some 1) none).cps.toList = r := by
  have e := sliceText_from (x := x) (i := 1) (by rw [h]; simp; omega)
  have e2 : Txt.slice x (some 1) none = sliceText x (some 1) none := rfl
  rw [e2, e, h]
  simp
end
section
open PySem PySem.W PyProof.Rows
def evenP : List (List Nat) → List Nat
  | [] => []
  | p :: r => p ++ 13 :: 10 :: evenP r
def typedP : List (List Nat × List Nat) → List Nat
  | [] => []
  | p :: r => p.1 ++ (p.2 ++ typedP r)
def IsEnd (e : List Nat) : Prop := e = [13, 10] ∨ e = [10] ∨ e = [13]
def Plain (p : List Nat) : Prop := ∀ c ∈ p, c ≠ 10 ∧ c ≠ 13
theorem fix_plain : ∀ (p t : List Nat), Plain p → fixL (p ++ t) = p ++ fixL t
  | [], _, _ => rfl
  | c :: p, t, h => by
    obtain ⟨h1, h2⟩ := h c (.head _)
    rw [List.cons_append, fixL_other c _ (fun e => absurd e h2), if_neg (by simp [h1, h2]), fix_plain p t (fun d hd => h d (.tail _ hd))]
    rfl
theorem fix_end {e t : List Nat} (h : IsEnd e) (ht : ∀ r, t ≠ 10 :: r) : fixL (e ++ t) = 13 :: 10 :: fixL t := by
  rcases h with rfl | rfl | rfl
  · exact fixL_13_10 t
  · show fixL (10 :: t) = _
    rw [fixL_other 10 t (fun e => absurd e (by decide)), if_pos (by decide)]
  · show fixL (13 :: t) = _
    rw [fixL_other 13 t (fun _ r e => ht r e), if_pos (by decide)]
theorem typed_head : ∀ (l : List (List Nat × List Nat)), (∀ q ∈ l, Plain q.1 ∧ q.1 ≠ []) → ∀ r, typedP l ≠ 10 :: r
  | [], _, r, e => by cases e
  | (p, x) :: l, h, r, e => by
    match p, h (p, x) (.head _) with
    | [], h => exact h.2 rfl
    | c :: p, h =>
      have : c = 10 := by cases e; rfl
      exact (h.1 c (.head _)).1 this
theorem fix_typed : ∀ (l : List (List Nat × List Nat)), (∀ q ∈ l, Plain q.1 ∧ q.1 ≠ []) → (∀ q ∈ l, IsEnd q.2) → fixL (typedP l) = evenP (l.map Prod.fst)
  | [], _, _ => rfl
  | (p, x) :: l, h, he => by
    show fixL (p ++ (x ++ typedP l)) = p ++ 13 :: 10 :: evenP (l.map Prod.fst)
    rw [fix_plain _ _ (h (p, x) (.head _)).1, fix_end (he (p, x) (.head _)) (typed_head l fun q hq => h q (.tail _ hq)), fix_typed l (fun q hq => h q (.tail _ hq)) (fun q hq => he q (.tail _ hq))]
theorem even_typed : ∀ (l : List (List Nat)), evenP l = typedP (l.map fun p => (p, [13, 10]))
  | [] => rfl
  | p :: l => by
    show p ++ 13 :: 10 :: evenP l = p ++ ([13, 10] ++ _)
    rw [even_typed l]; rfl
theorem fix_even (l : List (List Nat)) (h : ∀ q ∈ l, Plain q ∧ q ≠ []) : fixL (evenP l) = evenP l := by
  rw [even_typed, fix_typed, ← even_typed, List.map_map]
  · have : (Prod.fst ∘ fun (p : List Nat) => (p, [13, 10])) = id := rfl
    rw [this, List.map_id, even_typed]
  · intro q hq
    obtain ⟨p, hp, rfl⟩ := List.mem_map.mp hq
    exact h p hp
  · intro q hq
    obtain ⟨p, hp, rfl⟩ := List.mem_map.mp hq
    exact .inl rfl
def addDot (p : List Nat) : List Nat := if p.head? = some 46 then 46 :: p else p
theorem dotL_cons (b : Bool) (c : Nat) (r : List Nat) : dotL b (c :: r) = if (b && c == 46) = true then 46 :: 46 :: dotL false r else c :: dotL (c == 10) r := rfl
theorem dot_plain : ∀ (p t : List Nat), Plain p → dotL false (p ++ t) = p ++ dotL false t
  | [], _, _ => rfl
  | c :: p, t, h => by
    obtain ⟨h1, h2⟩ := h c (.head _)
    rw [List.cons_append, dotL_cons, if_neg (by simp), show (c == 10) = false from by simp [h1], dot_plain p t (fun d hd => h d (.tail _ hd))]
    rfl
theorem dot_end (t : List Nat) (b : Bool) : dotL b (13 :: 10 :: t) = 13 :: 10 :: dotL true t := by
  rw [dotL_cons, if_neg (by simp), dotL_cons, if_neg (by simp)]
  rfl
theorem dot_row {p : List Nat} (h : Plain p) (t : List Nat) : dotL true (p ++ 13 :: 10 :: t) = addDot p ++ 13 :: 10 :: dotL true t := by
  match p, h with
  | [], _ => exact dot_end t true
  | c :: p, h =>
    have h1 := (h c (.head _)).1
    have hp : Plain p := fun d hd => h d (.tail _ hd)
    rw [List.cons_append, dotL_cons]
    unfold addDot
    by_cases hc : c = 46
    · subst hc
      rw [if_pos (by simp), if_pos (by rfl), dot_plain _ _ hp, dot_end]
      rfl
    · rw [if_neg (by simp [hc]), if_neg (by simp [hc]), show (c == 10) = false from by simp [h1], dot_plain _ _ hp, dot_end]
      rfl
theorem dot_even : ∀ (l : List (List Nat)), (∀ q ∈ l, Plain q) → dotL true (evenP l) = evenP (l.map addDot)
  | [], _ => rfl
  | p :: l, h => by
    show dotL true (p ++ 13 :: 10 :: evenP l) = addDot p ++ 13 :: 10 :: evenP (l.map addDot)
    rw [dot_row (h p (.head _)), dot_even l fun q hq => h q (.tail _ hq)]
theorem even_join : ∀ (l : List (List Nat)), evenP l = joinR (l ++ [[]])
  | [] => rfl
  | [p] => rfl
  | p :: q :: l => by
    show p ++ 13 :: 10 :: evenP (q :: l) = p ++ 13 :: 10 :: joinR (q :: l ++ [[]])
    rw [even_join (q :: l)]
theorem split_even {x : Str} {l : List (List Nat)} (h : ∀ q ∈ l, Plain q) (e : x.cps.toList = evenP l) : (Txt.split x (Str.ofString "\r\n")).map (·.cps.toList) = l ++ [[]] := by
  rw [crlf_eq]
  match l, h, e with
  | [], _, e => exact split_rows (ps := []) (fun q hq => by simp at hq; subst hq; simp) e
  | p :: l, h, e =>
    refine split_rows (p := p) (ps := l ++ [[]]) ?_ (by rw [e, even_join]; rfl)
    intro q hq h13
    rcases List.mem_cons.mp hq with rfl | hq
    · exact (h q (.head _) 13 h13).2 rfl
    · rcases List.mem_append.mp hq with hq | hq
      · exact (h q (.tail _ hq) 13 h13).2 rfl
      · rw [List.mem_singleton.mp hq] at h13; cases h13
end
section
open PySem PySem.W PyProof.Rows PySem.Calls
section
variable {prog : Program} {w : World} {A : Around} {E : Value → Shared → Prop} {s : Shared} {env : Env} {h₀ : Heap} {x : Str} {body : List Stmt} {Q : Flow → Shared → Prop}
end
end
section
open PySem PySem.W PyProof.Rows PySem.Calls PySem.Spec
def leadL (d i : Nat) (r : List Nat) : List Nat := List.replicate (d + i) 46 ++ r
def TabOr (r : List Nat) : Prop := r = [] ∨ ∃ t, r = 9 :: t
theorem lead_dt {d i : Nat} {r : List Nat} (h : DT r) : DT (leadL d i r) := by
  intro c hc
  rcases List.mem_append.mp hc with hc | hc
  · exact .inl (List.eq_of_mem_replicate hc)
  · exact h c hc
theorem row_ws {x : Str} {l r : List Nat} {c : Nat} (h : DT l) (h1 : c ≠ 32) (h2 : c ≠ 9) (h3 : c ≠ 46) (e : x.cps.toList = l ++ c :: r) : wsRun ws0 (Txt.replace x (Str.ofString ".") (Str.ofString " ")).cps.toList = SL l := by
  rw [replace_sp, e, List.map_append, List.map_cons, show sp c = c from if_neg h3]
  exact SL_row h h1 h2
section
variable {prog : Program} {w : World} {A : Around} {E : Value → Shared → Prop} {s : Shared} {L t : Addr} {h₀ : Heap} {m : Str → Option Value} {news : List (Addr × Obj)} {Q : Value → Shared → Prop}
theorem dot3_K {x : Int} {t u : Tok} (h : ∀ t tk (k : Nat), k ≤ 2 → Q (.str (dotS k) t) { s with toks := tk }) : wpAny (model prog w) A (binaryOp .Mult (.str (Str.ofString ".") t) (.int (Int.fmod x 3) u)) Q E s :=
  dotMul_K (fm3_0 x) (fm3_1 x) fun t tk _ => h t tk _ (by have := Int.fmod_lt_of_pos x (show (0 : Int) < 3 by decide); omega)
theorem dotN_K {n : Int} {k : Nat} {t u : Tok} (hk : n = k) (hb : k ≤ 1000) (h : ∀ t tk, Q (.str (dotS k) t) { s with toks := tk }) : wpAny (model prog w) A (binaryOp .Mult (.str (Str.ofString ".") t) (.int n u)) Q E s := by
  subst hk
  exact dotMul_K (by omega) (by omega) fun t tk _ => by simpa using h t tk
end
theorem piece_list (k : Nat) : (Str.ofString "\t" ++ dotS k).cps.toList = 9 :: List.replicate k 46 := by
  rw [tab_eq, Str.cps_append, Array.toList_append]
  simp [dotS]
theorem dots_dt (k : Nat) : DT (List.replicate k 46) := fun c hc => .inl (List.eq_of_mem_replicate hc)
theorem dt_app {a b : List Nat} (h1 : DT a) (h2 : DT b) : DT (a ++ b) := fun c hc => (List.mem_append.mp hc).elim (h1 c) (h2 c)
theorem dt_tab {b : List Nat} (h2 : DT b) : DT (9 :: b) := fun c hc => (List.mem_cons.mp hc).elim (fun e => .inr e) (h2 c)
theorem app_list (x y : Str) : (x ++ y).cps.toList = x.cps.toList ++ y.cps.toList := by rw [Str.cps_append, Array.toList_append]
theorem str_len (x : Str) : x.length = x.cps.toList.length := by simp [Str.length]
structure Rest (n : Nat) (x : Str) : Prop where
  dt : DT x.cps.toList
  hd : TabOr x.cps.toList
  run : mrun x.cps.toList 0 0 ≤ 2
  len : x.length ≤ 3 * n
theorem rest0 : Rest 0 (Str.ofString "") := by
  have e : (Str.ofString "").cps.toList = [] := by decide +kernel
  refine ⟨?_, .inl e, ?_, ?_⟩
  · rw [e]; exact fun c hc => nomatch hc
  · rw [e]; decide
  · rw [str_len, e]; simp
structure EndS (e : Str) : Prop where
  is : IsEnd e.cps.toList
  len : e.length ≤ 2
section
variable {prog : Program} {w : World} {A : Around} {E : Value → Shared → Prop} {s : Shared} {L t : Addr} {h₀ : Heap} {m : Str → Option Value} {news : List (Addr × Obj)} {Q : Value → Shared → Prop}
theorem endsItem_K {value slice : Expr} {l : Addr} {x : Int} {u t1 t2 t3 : Tok} {n : Nat} (N : News h₀ L s.heap news) (hm : (l, PySem.W.listOf #[Value.str (Str.ofString "\x0d\n") t1, Value.str (Str.ofString "\n") t2, Value.str (Str.ofString "\x0d") t3] n) ∈ news)
    (h : ∀ e t', EndS e → Q (.str e t') s)
    (hs : subscripted slice false (.ref l) (.int (Int.fmod x 3) u) = operate [.ref l, .int (Int.fmod x 3) u] (getItem (.ref l) (.int (Int.fmod x 3) u)) := by with_unfolding_all rfl) :
    wpAny (model prog w) A (subscriptTail value slice (.ref l) (.int (Int.fmod x 3) u)) Q E s := by
  have h0 := fm3_0 x
  have h1 := Int.fmod_lt_of_pos x (show (0 : Int) < 3 by decide)
  have hl : s.heap.IsList l #[Value.str (Str.ofString "\x0d\n") t1, Value.str (Str.ofString "\n") t2, Value.str (Str.ofString "\x0d") t3] := ⟨_, N.get hm, rfl, _, rfl⟩
  have key : ∀ v, (#[Value.str (Str.ofString "\x0d\n") t1, Value.str (Str.ofString "\n") t2, Value.str (Str.ofString "\x0d") t3] : Array Value)[(Int.fmod x 3).toNat]? = some v → Q v s → wpAny (model prog w) A (subscriptTail value slice (.ref l) (.int (Int.fmod x 3) u)) Q E s :=
    fun v hv hQ => tail_any hl.typeIs slot_list_getitem.lookup (wpAny_getItem_list hl h0 (by omega) (x := v) hv hQ) hs
  have hc : (Int.fmod x 3).toNat = 0 ∨ (Int.fmod x 3).toNat = 1 ∨ (Int.fmod x 3).toNat = 2 := by omega
  rcases hc with e | e | e <;> rw [e] at key
  · exact key _ rfl (h _ _ ⟨.inl (by decide +kernel), by decide +kernel⟩)
  · exact key _ rfl (h _ _ ⟨.inr (.inl (by decide +kernel)), by decide +kernel⟩)
  · exact key _ rfl (h _ _ ⟨.inr (.inr (by decide +kernel)), by decide +kernel⟩)
end
theorem lst_a2 : (Str.ofString "a\r\n").cps.toList = [97, 13, 10] := by decide +kernel
theorem dotS_list (k : Nat) : (dotS k).cps.toList = List.replicate k 46 := by simp [dotS]
theorem str_eq {x y : Str} (h : x.cps.toList = y.cps.toList) : x = y := Str.ext' (Array.toList_inj.mp h)
theorem fixE_list (x : Str) : (fixE x).cps.toList = fixL x.cps.toList := by simp [fixE]
theorem dotE_list (x : Str) : (dotE x).cps.toList = dotL true x.cps.toList := by simp [dotE]
theorem repl_len (x : Str) : (Txt.replace x (Str.ofString ".") (Str.ofString " ")).length = x.length := by
  rw [str_len, replace_sp, List.length_map, ← str_len]
section
variable {prog : Program} {w : World} {A : Around} {E : Value → Shared → Prop} {s : Shared} {L t : Addr} {h₀ : Heap} {m : Str → Option Value} {news : List (Addr × Obj)} {Q : Value → Shared → Prop}
theorem map_range_get {f : Int → Int} {n : Nat} {k : Int} (h0 : 1 ≤ k) (h1 : k < 1 + (n : Int)) : ((rangeKs 1 n).map f)[(k - 1).toNat]? = some (f k) := by
  have : (k - 1).toNat < n := by omega
  have e : (1 : Int) + ((k - 1).toNat : Int) = k := by omega
  generalize (k - 1).toNat = j at *
  rw [rangeKs, List.map_map, List.getElem?_map, List.getElem?_range this, ← e]
  rfl
theorem ints_at {vs : List Value} {ns : List Int} (h : IntsAre vs ns) : ∀ {i : Nat} {k : Int}, ns[i]? = some k → ∃ t, vs[i]? = some (.int k t) := by
  induction h with
  | nil => intro i k e; cases i <;> cases e
  | cons n t _ ih =>
    intro i k e
    cases i with
    | zero => cases e; exact ⟨t, rfl⟩
    | succ i => exact ih (by simpa using e)
def JoinP {σ : Type} (h₀ : Heap) (L : Addr) (ps : σ → List (Str × Value)) (led : List (Addr × Obj)) (P : σ → Prop) (s : Shared) (f : Flow) (s' : Shared) : Prop :=
  f = .next ∧ ∃ h' tk' m' c, s' = { s with heap := h', toks := tk' } ∧ Fr h₀ L h' m' ∧ News h₀ L h' led ∧ (∀ p ∈ ps c, m' p.1 = some p.2) ∧ P c
theorem join_end {σ : Type} {ps : σ → List (Str × Value)} {led : List (Addr × Obj)} {P : σ → Prop} {h' : Heap} {tk' : Nat} {m' : Str → Option Value} (c : σ)
    (F : Fr h₀ L h' m') (N : News h₀ L h' news) (hm : ∀ p ∈ ps c, m' p.1 = some p.2) (hN : ∀ q ∈ led, q ∈ news) (hp : P c) : JoinP h₀ L ps led P s .next { s with heap := h', toks := tk' } :=
  ⟨rfl, h', tk', m', c, rfl, F, fun q hq => N q (hN q hq), hm, hp⟩
theorem join_K {σ : Type} {st : Stmt} {env : Env} {Q : Flow → Shared → Prop} (h₀ : Heap) (L : Addr) (ps : σ → List (Str × Value)) (led : List (Addr × Obj)) (P : σ → Prop)
    (hw : wpAny (model prog w) A (exec st env) (JoinP h₀ L ps led P s) E s)
    (k : ∀ c u h' tk', P c → Fr h₀ L h' (kstB u (ps c)) → News h₀ L h' led → Q .next { s with heap := h', toks := tk' }) : wpAny (model prog w) A (exec st env) Q E s :=
  wpAny_mono hw (by rintro f s' ⟨rfl, h', tk', m', c, rfl, F, N, hm, hp⟩; exact k c m' h' tk' hp (fr_kst hm F) N) fun _ _ e => e
end
section
variable {prog : Program} {w : World} {A : Around} {E : Value → Shared → Prop} {s : Shared} {h₀ : Heap} {L : Addr} {m : Str → Option Value} {news : List (Addr × Obj)} {Q : Value → Shared → Prop}
end
theorem cb_use {prog : Program} {w : World} {K : Frag} {p : Program} {loose : List Str} {mean : ExcName → Option Value} {mg mb : Str → Option Value} {f : Addr} {news : List (Addr × Obj)} {pre : Prop} {vs : List Value} {R : Tok → Value} {dp un : Nat} {gd : Option (List Code)} {cn : Str} {cs : Scope} {a : Addr} {ccd : Value} {cl : List (Str × Addr)} {outer : List Env} {A₀ : Around} {base h₀ : Heap} {L : Addr} {m : Str → Option Value} {s : Shared} {Q E : Value → Shared → Prop}
    (C : CbClaim prog w K p loose mean mg mb f news [] pre vs R) (B : Below A₀ base outer h₀) (F : Fr h₀ L s.heap m) (X : K.In h₀) (T : Top p loose mean mg mb h₀) (hk : cs.kind = .function) (N : News h₀ L s.heap news) (hp : pre) (hd : dp + 1 < recursionLimit) (hu : un + 8 < cLine)
    (h : ∀ t h' tk', Fr h₀ L h' m → News h₀ L h' news → Q (R t) { s with heap := h', toks := tk' }) : wpAny (model prog w) (ktrTop dp un gd cn cs L a ccd cl outer) (call (.ref f) vs) Q E s :=
  C _ _ _ _ _ _ _ _ _ _ _ _ _ _ _ _ _ B F X N T hk hp hd hu h
end
section
open PySem PySem.W PyProof.Rows PySem.Calls PySem.Spec
section
variable {prog : Program} {w : World} {A : Around} {E : Value → Shared → Prop} {s : Shared} {env : Env} {h₀ : Heap} {L : Addr} {target : Expr} {body : List Stmt} {Q : Flow → Shared → Prop}
/-- the loop at its iterator, the target of any kind: it is bound within the turn -/
def LoopC (prog : Program) (w : World) (A : Around) (env : Env) (target : Expr) (body : List Stmt) (Q : Flow → Shared → Prop) (E : Value → Shared → Prop) (it : Value) (s₂ : Shared) : Prop :=
  codeAny (model prog w) A (.forLoop target it body [] env) (fun r s' => match r with | .ok f => Q f s' | .error e => cameBackBy (model prog w) A env E e s') s₂
/-- a loop at its iterator's making, the target of any kind: the walk stops here -/
def MyIterC (prog : Program) (w : World) (A : Around) (env : Env) (target : Expr) (body : List Stmt) (Q : Flow → Shared → Prop) (E : Value → Shared → Prop) (xv : Value) (s₁ : Shared) : Prop :=
  wpAny (model prog w) A (pyIter xv) (fun it s₂ => LoopC prog w A env target body Q E it s₂) E s₁
theorem For_C {iter : Expr} {pos : Pos} (h : wpAny (model prog w) A (eval iter env) (fun xv s₁ => MyIterC prog w A env target body Q E xv s₁) E s)
    (hs : ∀ x, foldedSetIterable iter env x = pure x := by intro _; rfl) : wpAny (model prog w) A (exec (.For target iter body [] pos) env) Q E s := wpAny_For h hs
theorem loopC_walks {I : Addr} {fp : List Addr} {n : Nat} {P : Nat → Value → Prop} {St : Nat → Heap → Prop} {m₀ : Str → Option Value} {news : List (Addr × Obj)} (J : Nat → (Str → Option Value) → List (Addr × Obj) → Prop)
    (hE : PassesOwn (model prog w) A env E) (W : Walks prog w A I fp [I] n P St) (hgo : ∀ v, letOwnedTupleGo target (.ref I) v = pure ()) (hL : L ≠ I) (hI : h₀.get? I = none) (hn : ∀ q ∈ news, q.1 ≠ I) (hst : St 0 s.heap)
    (hSt : ∀ i h, St i h → ∃ o, h.get? I = some o) (hfp : ∀ b ∈ fp, b = I ∨ ∃ o, ∀ i m₁ news₁, J i m₁ news₁ → (b, o) ∈ news₁)
    (F : Fr h₀ L s.heap m₀) (N : News h₀ L s.heap news) (hj : J 0 m₀ news)
    (turn : ∀ i v m₁ news₁ h tk io, i < n → P i v → J i m₁ news₁ → Fr h₀ L h m₁ → News h₀ L h ((I, io) :: news₁) → (∀ q ∈ news₁, q.1 ≠ I) →
      wpAny (model prog w) A (assign target env v) (fun _ s₂ => wpAny (model prog w) A (execs body env) (TurnPost h₀ L I io (J (i + 1)) { s with heap := h, toks := tk } Q) E s₂) E { s with heap := h, toks := tk })
    (done : ∀ m₁ news₁ h tk, J n m₁ news₁ → Fr h₀ L h m₁ → News h₀ L h news₁ → Q .next { s with heap := h, toks := tk }) :
    LoopC prog w A env target body Q E (.ref I) s := by
  unfold LoopC
  refine codeAny_forLoop (fun k s' => ∃ i h tk m₁ news₁, s' = { s with heap := h, toks := tk } ∧ St i h ∧ Fr h₀ L h m₁ ∧ News h₀ L h news₁ ∧ (∀ q ∈ news₁, q.1 ≠ I) ∧ J i m₁ news₁ ∧ i ≤ n ∧ k = n - i) ?_ n
    ⟨0, s.heap, s.toks, m₀, news, rfl, hst, F, N, hn, hj, Nat.zero_le _, rfl⟩ hgo
  rintro k s' ⟨i, h, tk, m₁, news₁, rfl, st, F₁, N₁, off, hJ, hi, rfl⟩
  have keep : ∀ h₁ : Heap, (∀ b o, b ∉ [I] → h.get? b = some o → h₁.get? b = some o) → Fr h₀ L h₁ m₁ ∧ News h₀ L h₁ news₁ := fun h₁ hk =>
    ⟨⟨F₁.ns.at' fun o e => hk _ o (fun hm => hL (List.mem_singleton.mp hm)) e, fun b o e => hk b o (fun hm => by rw [List.mem_singleton.mp hm, hI] at e; cases e) (F₁.keep b o e), F₁.above⟩,
      fun q hq => ⟨hk _ _ (fun hm => off q hq (List.mem_singleton.mp hm)) (N₁ q hq).1, (N₁ q hq).2⟩⟩
  by_cases hlt : i < n
  · refine W.item i _ _ _ hlt st fun v h₁ tk₁ hP st₁ hk₁ => ?_
    obtain ⟨F₂, N₂⟩ := keep h₁ hk₁
    obtain ⟨io, hio⟩ := hSt _ _ st₁
    have N₃ : News h₀ L h₁ ((I, io) :: news₁) := List.forall_mem_cons.mpr ⟨⟨hio, Ne.symm hL, hI⟩, N₂⟩
    refine wpAny_passesOwn hE (wpAny_mono (turn i v m₁ news₁ h₁ tk₁ io hlt hP hJ F₂ N₃ off) (fun _ s₂ h₂ => wpAny_passesOwn hE (wpAny_mono h₂ (fun f s₃ t => ?_) fun _ _ e => e)) fun _ _ e => e)
    have fin : TurnEnd h₀ L I io (J (i + 1)) { s with heap := h₁, toks := tk₁ } s₃ → ∃ m, m < n - i ∧ ∃ i h tk m₁ news₁, s₃ = { s with heap := h, toks := tk } ∧ St i h ∧ Fr h₀ L h m₁ ∧ News h₀ L h news₁ ∧ (∀ q ∈ news₁, q.1 ≠ I) ∧ J i m₁ news₁ ∧ i ≤ n ∧ m = n - i := by
      rintro ⟨h', tk', m', news', rfl, F', N', off', hJ'⟩
      refine ⟨n - (i + 1), by omega, i + 1, h', tk', m', news', rfl, ?_, F', fun q hq => N' q (.tail _ hq), off', hJ', hlt, rfl⟩
      refine W.frame _ _ _ st₁ fun b hb o e => ?_
      rcases hfp b hb with rfl | ⟨o₁, hm₁⟩
      · rw [hio] at e
        rw [← e]; exact (N' _ (.head _)).1
      · rw [(N₂ _ (hm₁ _ _ _ hJ)).1] at e
        rw [← e]; exact (N' _ (.tail _ (hm₁ _ _ _ hJ'))).1
    cases f with
    | next => exact fin t
    | cont => exact fin t
    | brk => exact t
    | ret v => exact t
  · have hin : i = n := by omega
    subst hin
    refine W.done _ _ _ st fun h₁ tk₁ hk₁ => wpAny_execs_nil ?_
    obtain ⟨F₂, N₂⟩ := keep h₁ hk₁
    exact done _ _ _ _ hJ F₂ N₂
theorem loopC_range {σ : Type} {r : Addr} {a₀ b₀ : Int} {t₀ u₀ v₀ : Tok} {n : Nat} {m₀ : Str → Option Value} {news : List (Addr × Obj)} (Led : σ → List (Addr × Obj)) (ps : σ → List (Str × Value)) (Inv : Nat → σ → Prop) (Fin : σ → Prop) (c₀ : σ)
    (hE : PassesOwn (model prog w) A env E) (hgo : ∀ it v, letOwnedTupleGo target it v = pure ()) (hh : A.handled = none) (hr : IsRange s.heap r a₀ b₀ 1 t₀ u₀ v₀) (hsmall : Builtin.Range.small a₀ b₀ 1 = true) (hsz : Builtin.Range.rangeSize a₀ b₀ 1 = (n : Int))
    (F : Fr h₀ L s.heap m₀) (N : News h₀ L s.heap news) (hm : ∀ p ∈ ps c₀, m₀ p.1 = some p.2) (hN : ∀ p ∈ Led c₀, p ∈ news) (hi : Inv 0 c₀) (hfin : ∀ c, Inv n c → Fin c)
    (turn : ∀ (i : Nat) t (c : σ) (u : Str → Option Value) h tk it io, i < n → Inv i c → Fr h₀ L h (kstB u (ps c)) → News h₀ L h ((it, io) :: Led c) → (∀ q ∈ Led c, q.1 ≠ it) →
      wpAny (model prog w) A (assign target env (.int (a₀ + i) t)) (fun _ s₂ => wpAny (model prog w) A (execs body env) (TurnPostB h₀ L it io Led ps (Inv (i + 1)) Fin { s with heap := h, toks := tk } Q) E s₂) E { s with heap := h, toks := tk })
    (after : ∀ (c : σ) (u : Str → Option Value) h tk, Fin c → Fr h₀ L h (kstB u (ps c)) → News h₀ L h (Led c) → Q .next { s with heap := h, toks := tk }) :
    MyIterC prog w A env target body Q E (.ref r) s := by
  refine wpAny_pyIter_range hr hsmall ?_
  have W : Walks prog w A s.heap.objs.size [s.heap.objs.size] [s.heap.objs.size] n (fun i v => i < n ∧ ∃ t, v = .int (a₀ + i * 1) t)
      (fun i h => IsRangeIter h s.heap.objs.size (a₀ + (i : Nat) * 1) ((n : Int) - (i : Nat)) 1) := (Walks.range hh _ a₀ 1 n).bound
  refine loopC_walks (s := { s with heap := s.heap.push _ }) (LJ Led ps Inv) hE W (hgo _) (Nat.ne_of_lt F.ns.lt) (next_is_new F) (fun q hq => Nat.ne_of_lt (Heap.lt_size (N q (hN q hq)).1))
    (by show IsRangeIter _ _ _ _ _; rw [hsz]; simpa using Heap.get?_push_size _ rfl) (fun _ _ st => ⟨_, st⟩) (fun b hb => .inl (List.mem_singleton.mp hb)) (F.push _) (fun p hp => ⟨Heap.get?_push_of_some _ (N p (hN p hp)).1, (N p (hN p hp)).2⟩) ⟨c₀, rfl, hm, hi⟩ ?_ ?_
  · rintro i v m₁ _ h tk io hlt ⟨_, t, rfl⟩ ⟨c, rfl, hm', hi'⟩ F₁ N₁ hq
    have e1 : a₀ + (i : Int) * 1 = a₀ + (i : Int) := by omega
    rw [e1]
    exact wpAny_mono (turn i t c m₁ h tk _ io hlt hi' (fr_kst hm' F₁) N₁ hq) (fun _ s₂ h₂ => wpAny_mono h₂ (fun f s₃ t => postB after t) fun _ _ e => e) fun _ _ e => e
  · rintro m₁ _ h tk ⟨c, rfl, hm', hi'⟩ F₁ N₁
    exact after c m₁ h tk (hfin c hi') (fr_kst hm' F₁) N₁
theorem loopC_list {σ : Type} {ax : Addr} {ao : Obj} {vs : Array Value} {m₀ : Str → Option Value} {news : List (Addr × Obj)} (Led : σ → List (Addr × Obj)) (ps : σ → List (Str × Value)) (Inv : Nat → σ → Prop) (Fin : σ → Prop) (c₀ : σ)
    (hE : PassesOwn (model prog w) A env E) (hgo : ∀ it v, letOwnedTupleGo target it v = pure ()) (hh : A.handled = none) (hao : ao.cls = .type "list" ∧ ∃ n, ao.data = .seq vs n)
    (F : Fr h₀ L s.heap m₀) (N : News h₀ L s.heap news) (hfx : ∀ c, (ax, ao) ∈ Led c) (hm : ∀ p ∈ ps c₀, m₀ p.1 = some p.2) (hN : ∀ p ∈ Led c₀, p ∈ news) (hi : Inv 0 c₀) (hfin : ∀ c, Inv vs.size c → Fin c)
    (turn : ∀ (i : Nat) v (c : σ) (u : Str → Option Value) h tk it io, vs[i]? = some v → Inv i c → Fr h₀ L h (kstB u (ps c)) → News h₀ L h ((it, io) :: Led c) → (∀ q ∈ Led c, q.1 ≠ it) →
      wpAny (model prog w) A (assign target env v) (fun _ s₂ => wpAny (model prog w) A (execs body env) (TurnPostB h₀ L it io Led ps (Inv (i + 1)) Fin { s with heap := h, toks := tk } Q) E s₂) E { s with heap := h, toks := tk })
    (after : ∀ (c : σ) (u : Str → Option Value) h tk, Fin c → Fr h₀ L h (kstB u (ps c)) → News h₀ L h (Led c) → Q .next { s with heap := h, toks := tk }) :
    MyIterC prog w A env target body Q E (.ref ax) s := by
  have hm0 := hN _ (hfx c₀)
  have hls : s.heap.IsList ax vs := ⟨ao, (N _ hm0).1, hao.1, hao.2⟩
  have hn : ∀ q ∈ Led c₀, q.1 ≠ s.heap.objs.size := fun q hq => Nat.ne_of_lt (Heap.lt_size (N q (hN q hq)).1)
  refine wpAny_pyIter_list hls ?_
  refine loopC_walks (s := { s with heap := s.heap.push _ }) (LJ Led ps Inv) hE (Walks.list (prog := prog) (w := w) hh s.heap.objs.size ax (hn _ (hfx c₀)) vs) (hgo _) (Nat.ne_of_lt F.ns.lt) (next_is_new F) hn
    ⟨⟨_, Heap.get?_push_size _ rfl, rfl, rfl⟩, hls.at fun o e => Heap.get?_push_of_some _ e⟩ (fun _ _ st => let ⟨o, ho, _⟩ := st.1; ⟨o, ho⟩) (fun b hb => ?_) (F.push _) (fun p hp => ⟨Heap.get?_push_of_some _ (N p (hN p hp)).1, (N p (hN p hp)).2⟩) ⟨c₀, rfl, hm, hi⟩ ?_ ?_
  · rcases List.mem_cons.mp hb with rfl | hb
    · exact .inl rfl
    · rw [List.mem_singleton.mp hb]
      exact .inr ⟨ao, fun i m₁ _ ⟨c, e, _⟩ => e ▸ hfx c⟩
  · rintro i v m₁ _ h tk io hlt hP ⟨c, rfl, hm', hi'⟩ F₁ N₁ hq
    exact wpAny_mono (turn i v c m₁ h tk _ io hP hi' (fr_kst hm' F₁) N₁ hq) (fun _ s₂ h₂ => wpAny_mono h₂ (fun f s₃ t => postB after t) fun _ _ e => e) fun _ _ e => e
  · rintro m₁ _ h tk ⟨c, rfl, hm', hi'⟩ F₁ N₁
    exact after c m₁ h tk (hfin c hi') (fr_kst hm' F₁) N₁
end
end
section
open PySem PySem.W PyProof.Rows PySem.Calls PySem.Spec
section
variable {prog : Program} {w : World} {A : Around} {E : Value → Shared → Prop} {s : Shared} {L t : Addr} {h₀ : Heap} {m : Str → Option Value} {news news' : List (Addr × Obj)}
theorem dot13 (x : Int) : ∃ d : Nat, 1 + Int.fmod x 3 = (d : Int) ∧ 1 ≤ d ∧ d ≤ 3 := by
  have a1 := fm3_0 x
  have a2 := Int.fmod_lt_of_pos x (show (0 : Int) < 3 by decide)
  exact ⟨(1 + Int.fmod x 3).toNat, by omega, by omega, by omega⟩
theorem le3 {k : Nat} (h : k ≤ 3) : k ≤ 1000 := by omega
theorem dotC_K {Q : Value → Shared → Prop} {k : Nat} {t u : Tok} (hb : k ≤ 1000) (h : ∀ t tk, Q (.str (dotS k) t) { s with toks := tk }) : wpAny (model prog w) A (binaryOp .Mult (.str (Str.ofString ".") t) (.int (k : Int) u)) Q E s := dotN_K rfl hb h
end
end
section
open PySem PySem.W PyProof.Rows
theorem lst_b3 : (Str.ofString "b\r\n").cps.toList = [98, 13, 10] := by decide +kernel
def rows2P (ra rb : List Nat) (a b i : Nat) : List (List Nat) := [leadL a i ra ++ [97], leadL b i rb ++ [98]]
def page2L (ra rb : List Nat) (a b i : Nat) : List Nat := evenP (rows2P ra rb a b i)
def mail2S (ra rb : Str) (a b i : Nat) : Str := (dotS (a + i) ++ ra) ++ Str.ofString "a\r\n" ++ (dotS (b + i) ++ rb) ++ Str.ofString "b\r\n"
theorem mail2_list (ra rb : Str) (a b i : Nat) : (mail2S ra rb a b i).cps.toList = page2L ra.cps.toList rb.cps.toList a b i := by
  unfold mail2S
  simp only [app_list, lst_a2, lst_b3, dotS_list]
  simp [page2L, rows2P, evenP, leadL]
theorem rows2_plain {ra rb : List Nat} {a b i : Nat} (h1 : DT ra) (h2 : DT rb) : ∀ q ∈ rows2P ra rb a b i, Plain q ∧ q ≠ [] := by
  have key : ∀ l t : List Nat, DT l → (∀ c ∈ t, c ≠ 10 ∧ c ≠ 13) → t ≠ [] → Plain (l ++ t) ∧ l ++ t ≠ [] := by
    intro l t hl ht h0
    refine ⟨fun c hc => ?_, by simp [h0]⟩
    rcases List.mem_append.mp hc with hc | hc
    · rcases hl c hc with rfl | rfl <;> decide
    · exact ht c hc
  intro q hq
  rcases List.mem_cons.mp hq with rfl | hq
  · exact key _ _ (lead_dt h1) (by decide) (by decide)
  · rw [List.mem_singleton.mp hq]
    exact key _ _ (lead_dt h2) (by decide) (by decide)
section
variable {rA rB : Str} {n a b i : Nat}
def Pg2I (rA rB : Str) (a b i : Nat) (p m : Str) : Prop := p.length ≤ 1000 ∧ fixE p = mail2S rA rB a b (i - 1) ∧ (i = 0 → m = mail2S rA rB a b 0)
def Pg2M (rA rB : Str) (a b i : Nat) (p m : Str) : Prop := p.length ≤ 1000 ∧ fixE p = mail2S rA rB a b i ∧ m = mail2S rA rB a b i
theorem len_b3 : (Str.ofString "b\r\n").length = 3 := by decide +kernel
theorem mail2_len (rA rB : Str) (a b i : Nat) : (mail2S rA rB a b i).length = a + i + rA.length + 3 + (b + i + rB.length) + 3 := by
  unfold mail2S
  simp only [Str.length_append, len_lit_a2, len_b3, dotS_len]
theorem pg2_next {p m : Str} (h : Pg2M rA rB a b i p m) : Pg2I rA rB a b (i + 1) p m := ⟨h.1, h.2.1, fun e => absurd e (by omega)⟩
end
end
section
open PySem PySem.W PyProof.Rows
theorem near (x n : Nat) (hn : 1 ≤ n) : (x : Int) + 1 ≤ n * ((x / n : Nat) : Int) + n := by
  have h1 := Nat.div_add_mod x n
  have h2 := Nat.mod_lt x (show n > 0 by omega)
  have : ((n * (x / n) : Nat) : Int) = n * ((x / n : Nat) : Int) := by simp
  omega
end
section
open PySem PySem.W PyProof.Rows
def lessAt (rA rB : Str) (a b j : Nat) : Bool := lessB (SL (leadL a j rA.cps.toList)) (SL (leadL b j rB.cps.toList))
def Alw (rA rB : Str) (a b i : Nat) (c : Bool) : Prop := c = true ↔ ∀ j, j < i → lessAt rA rB a b j = true
def IsCell (o : Obj) : Prop := ∃ x, o.data = .cell x
section
variable {rA rB : Str} {n a b i : Nat} {c : Bool}
theorem alw0 : Alw rA rB a b 0 true := ⟨fun _ _ h => absurd h (by omega), fun _ => rfl⟩
end
end
section
open PySem PySem.W PyProof.Rows PySem.Calls PySem.Spec
section
variable {prog : Program} {w : World} {A : Around} {E : Value → Shared → Prop} {s : Shared} {L t : Addr} {h₀ : Heap} {m : Str → Option Value} {news news' : List (Addr × Obj)}
end
def ApLed (led nw : List (Addr × Obj)) : Prop := ∀ q ∈ led, ∀ p ∈ nw, q.1 ≠ p.1
theorem mail2_rows {rA rB : Str} {n a b i : Nat} (hA : Rest n rA) (hB : Rest n rB) : ∃ r0 r1 r2, Txt.split (mail2S rA rB a b i) (Str.ofString "\r\n") = [r0, r1, r2] ∧ r0.cps.toList = leadL a i rA.cps.toList ++ [97] ∧ r1.cps.toList = leadL b i rB.cps.toList ++ [98] := by
  have e := split_even (x := mail2S rA rB a b i) (l := rows2P rA.cps.toList rB.cps.toList a b i) (fun q hq => (rows2_plain hA.dt hB.dt q hq).1) (mail2_list _ _ _ _ _)
  match hs : Txt.split (mail2S rA rB a b i) (Str.ofString "\r\n"), e with
  | [], h => simp [rows2P] at h
  | [_], h => simp [rows2P] at h
  | [_, _], h => simp [rows2P] at h
  | [r0, r1, r2], e =>
    simp only [List.map_cons, List.map_nil, rows2P, List.cons_append, List.nil_append, List.cons.injEq, and_true] at e
    exact ⟨r0, r1, r2, rfl, e.1, e.2.1⟩
  | _ :: _ :: _ :: _ :: _, h => simp [rows2P] at h
section
variable {prog : Program} {w : World} {A : Around} {E : Value → Shared → Prop} {s : Shared} {L : Addr} {h₀ : Heap} {m : Str → Option Value} {news : List (Addr × Obj)} {Q : Value → Shared → Prop}
theorem rows2_K {rA rB : Str} {n a b i : Nat} {t u : Tok} (F : Fr h₀ L s.heap m) (N : News h₀ L s.heap news) (hA : Rest n rA) (hB : Rest n rB) (hs : rA.length ≤ 100) (hr : rB.length ≤ 100) (ha : a ≤ 3) (hb : b ≤ 3) (hi : i < 4)
    (h : ∀ D r0 r1 r2 t0 t1 t2 h' tk', r0.cps.toList = leadL a i rA.cps.toList ++ [97] → r1.cps.toList = leadL b i rB.cps.toList ++ [98] → r0.length ≤ 1000 → r1.length ≤ 1000 → Fr h₀ L h' m → News h₀ L h' ((D, PySem.W.listOf #[.str r0 t0, .str r1 t1, .str r2 t2] 0) :: news) → (∀ p ∈ news, p.1 < D) → Q (.ref D) { s with heap := h', toks := tk' }) :
    wpAny (model prog w) A (call (.builtin "str.split") [.str (mail2S rA rB a b i) t, .str (Str.ofString "\r\n") u]) Q E s := by
  refine KSpl.split1 F N (by decide +kernel) (fun D l h' tk' e _ F' N' lt => ?_) (by rw [mail2_len, sizeLine_eq]; omega)
  obtain ⟨r0, r1, r2, es, e0, e1⟩ := mail2_rows (a := a) (b := b) (i := i) hA hB
  rw [es] at e
  match l, e with
  | [(p, ta), (q, tb), (c, tc)], e =>
    simp only [List.map_cons, List.map_nil, List.cons.injEq, and_true] at e
    obtain ⟨rfl, rfl, rfl⟩ := e
    refine h D _ _ _ ta tb tc h' tk' e0 e1 ?_ ?_ F' N' lt
    · rw [str_len, e0, List.length_append]; unfold leadL; rw [List.length_append, ← str_len]; simp; omega
    · rw [str_len, e1, List.length_append]; unfold leadL; rw [List.length_append, ← str_len]; simp; omega
theorem ApLed.ne {led nw : List (Addr × Obj)} (ap : ApLed led nw) {a b : Addr} {o o' : Obj} (h1 : (a, o) ∈ led) (h2 : (b, o') ∈ nw) : NeQ a b := ap _ h1 _ h2
end
theorem pcl_ws2 {prog : Program} {w : World} {K : Frag} {p : Program} {loose : List Str} {mean : ExcName → Option Value} {mg mb : Str → Option Value} {C : Addr} {x : Str} {t : Tok} {dp un : Nat} {gd : Option (List Code)} {cn : Str} {cs : Scope} {a : Addr} {ccd : Value} {cl : List (Str × Addr)} {outer : List Env} {A₀ : Around} {base h₀ : Heap} {L : Addr} {m : Str → Option Value} {news : List (Addr × Obj)} {s : Shared} {Q E : Value → Shared → Prop} {wp : Params}
    (Cl : PCl prog w K p loose mean mg mb C [.str x t] (fun _ => x.length ≤ 2 ^ 15) (fun h v h' => ∃ o : WsO, v = .ref o.a ∧ o.σ = wsOf x ∧ o.Ok ∧ ∀ q ∈ o.led wp C, h'.get? q.1 = some q.2 ∧ h.get? q.1 = none))
    (B : Below A₀ base outer h₀) (F : Fr h₀ L s.heap m) (X : K.In h₀) (T : Top p loose mean mg mb h₀) (hk : cs.kind = .function) (N : News h₀ L s.heap news) (hp : x.length ≤ 2 ^ 15) (hd : dp + 8 < recursionLimit) (hu : un + 64 < cLine)
    (h : ∀ (o : WsO) h' tk', o.σ = wsOf x → o.Ok → ApLed (o.led wp C) news → Fr h₀ L h' m → News h₀ L h' (o.led wp C ++ news) → Q (.ref o.a) { s with heap := h', toks := tk' }) :
    wpAny (model prog w) (ktrTop dp un gd cn cs L a ccd cl outer) (call (.ref C) [.str x t]) Q E s :=
  Cl _ _ _ _ _ _ _ _ _ _ _ _ _ _ _ _ _ B F X T hk hp hd hu fun v h' tk' st po => by
    obtain ⟨o, rfl, hσ, ok, hq⟩ := po
    exact h o h' tk' hσ ok (fun q hq' p hp' e => by have := (hq q hq').2; rw [e, (N p hp').1] at this; cases this) (fr_stays F st) (news_add F N st hq)
end
section
open PySem PySem.W PyProof.Rows PySem.Calls
abbrev cellObj : Obj := { cls := .type "cell", data := .cell none }
section
variable {M : Model} {A : Around} {E : Value → Shared → Prop} {s : Shared}
/-- the frame of a comprehension whose target alone is a cell -/
theorem newEnvC_K {scope : Scope} {env : Env} {x : Str} {Q : Env → Shared → Prop} (hcf : ∀ n, cellsFrom n scope.names [] = [(x, n)]) (hpc : ∀ h, pushCells h scope.names = h.push cellObj)
    (h : ∀ cenv : Env, cenv.locals = s.heap.objs.size → { cenv with scope := relabel scope env } = compEnvC scope [(x, s.heap.objs.size + 1)] s.heap.objs.size env →
      Q cenv { s with heap := (s.heap.push { cls := .type "dict", data := .dict #[] }).push cellObj }) :
    wpAny M A (newFunctionEnv scope env.globals [] [] env.qual none .none (some env)) Q E s := by
  simp only [newFunctionEnv, Option.isSome_some, if_true]
  refine wpAny_bind (wpAny_alloc ?_)
  refine wpAny_bind (wpAny_layCells _ (fun name kind cells => by cases kind == NameKind.cell <;> simp) _ _ _ _ ?_)
  rw [hcf, hpc]
  refine wpAny_bind ?_
  rw [List.forIn_nil]
  refine wpAny_pure (wpAny_pure (h _ rfl ?_))
  simp only [Heap.size_push, compEnvC]
end
def Apart (I C D : Addr) (nw : List (Addr × Obj)) : Prop := ∀ p ∈ nw, p.1 ≠ I ∧ p.1 ≠ C ∧ p.1 ≠ C + 1 ∧ p.1 ≠ D
section
variable {prog : Program} {w : World} {A : Around} {E : Value → Shared → Prop} {s : Shared} {h₀ : Heap} {L : Addr} {m : Str → Option Value} {env : Env}
/-- a turn's end: the ledger with the comprehension's own four -/
def EndC (h₀ : Heap) (L : Addr) (m : Str → Option Value) (s₁ : Shared) (I : Addr) (oI : Obj) (C : Addr) (oC oc : Obj) (D : Addr) (ys : List Value) (src : Addr × Obj) (rest : Value → List (Addr × Obj) → Prop) (y : Value) (s₂ : Shared) : Prop :=
  ∃ h' tk nw', s₂ = { s₁ with heap := h', toks := tk } ∧ Fr h₀ L h' m ∧ News h₀ L h' ((I, oI) :: (C, oC) :: (C + 1, oc) :: (D, LCg.lst ys) :: nw') ∧ Apart I C D nw' ∧ src ∈ nw' ∧ rest y nw'
theorem EndC.intro {s₁ : Shared} {I C D : Addr} {oI oC oc : Obj} {ys : List Value} {src : Addr × Obj} {rest : Value → List (Addr × Obj) → Prop} {y : Value} {h' : Heap} {tk : Nat} {all : List (Addr × Obj)} (nw' : List (Addr × Obj))
    (F : Fr h₀ L h' m) (N : News h₀ L h' all) (sub : ∀ p ∈ (I, oI) :: (C, oC) :: (C + 1, oc) :: (D, LCg.lst ys) :: nw', p ∈ all) (off : Apart I C D nw') (hs : src ∈ nw') (r : rest y nw') :
    EndC h₀ L m s₁ I oI C oC oc D ys src rest y { s₁ with heap := h', toks := tk } := ⟨h', tk, nw', rfl, F, fun p hp => N p (sub p hp), off, hs, r⟩
def RestC (prog : Program) (w : World) (A : Around) (h₀ : Heap) (L : Addr) (m : Str → Option Value) (env : Env) (elt : Expr) (x : Str) (scope : Scope) (s : Shared) (src : Addr × Obj) (vs : Array Value)
    (Fin : List Value → List (Addr × Obj) → Prop) : Nat → Nat → List Value → List (Addr × Obj) → Prop
  | 0, _, ys, nw => Fin ys nw
  | k + 1, i, ys, nw => ∀ v I oI C oC oc D h tk (E' : Value → Shared → Prop), vs[i]? = some v → oc.data = .cell (some v) → Fr h₀ L h m → News h₀ L h ((I, oI) :: (C, oC) :: (C + 1, oc) :: (D, LCg.lst ys) :: nw) → Apart I C D nw →
      (NeQ I C ∧ NeQ I (C + 1) ∧ NeQ I D ∧ NeQ C D ∧ NeQ (C + 1) D) →
      wpAny (model prog w) A (eval elt (compEnvC scope [(x, C + 1)] C env)) (EndC h₀ L m { s with heap := h, toks := tk } I oI C oC oc D ys src (fun y nw' => RestC prog w A h₀ L m env elt x scope s src vs Fin k (i + 1) (ys ++ [y]) nw')) E' { s with heap := h, toks := tk }
/-- what the source of such a comprehension must be -/
def SrcCC (prog : Program) (w : World) (A : Around) (h₀ : Heap) (L : Addr) (m : Str → Option Value) (env : Env) (elt : Expr) (x : Str) (scope : Scope) (Fin : Shared → List Value → List (Addr × Obj) → Prop) (xv : Value) (s₁ : Shared) : Prop :=
  ∃ ax ao vs nw, xv = .ref ax ∧ (ao.cls = .type "list" ∧ ∃ n, ao.data = .seq vs n) ∧ A.handled = none ∧ Fr h₀ L s₁.heap m ∧ News h₀ L s₁.heap nw ∧ (ax, ao) ∈ nw ∧ vs.size ≤ sizeLine ∧
      ∀ s₂ : Shared, (∃ g, s₂ = { s₁ with heap := g }) → RestC prog w A h₀ L m env elt x scope s₂ (ax, ao) vs (Fin s₁) vs.size 0 [] nw
theorem SrcCC.intro {elt : Expr} {x : Str} {scope : Scope} {Fin : Shared → List Value → List (Addr × Obj) → Prop} {ax : Addr} {ao : Obj} {vs : Array Value} {nw : List (Addr × Obj)} {s₁ : Shared} (hao : ao.cls = .type "list" ∧ ∃ n, ao.data = .seq vs n)
    (hh : A.handled = none) (F : Fr h₀ L s₁.heap m) (N : News h₀ L s₁.heap nw) (hm : (ax, ao) ∈ nw) (hsz : vs.size ≤ sizeLine)
    (h : ∀ g, RestC prog w A h₀ L m env elt x scope { s₁ with heap := g } (ax, ao) vs (Fin s₁) vs.size 0 [] nw) : SrcCC prog w A h₀ L m env elt x scope Fin (.ref ax) s₁ :=
  ⟨ax, ao, vs, nw, rfl, hao, hh, F, N, hm, hsz, fun _ ⟨g, e⟩ => e ▸ h g⟩
theorem ListComp_C {elt iter : Expr} {x : Str} {px : Pos} {scope : Scope} {pos : Pos} {Q : Value → Shared → Prop} (_F₀ : Fr h₀ L s.heap m)
    (hclos : closureFor scope env = pure []) (hcf : ∀ n, cellsFrom n scope.names [] = [(x, n)]) (hpc : ∀ h, pushCells h scope.names = h.push cellObj) (hkind : scope.kind = .function)
    (hx : ∀ cl C, (compEnvC scope cl C env).kindOf x = some .cell) (hnames : ∀ y ∈ scope.names, y.2 = .local → scope.names.lookup y.1 = some .local)
    (h : wpAny (model prog w) A (eval iter env) (SrcCC prog w A h₀ L m env elt x scope (fun s₁ ys nw' => ∀ D h' tk', Fr h₀ L h' m → News h₀ L h' ((D, LCg.lst ys) :: nw') → (∀ p ∈ nw', p.1 ≠ D) → Q (.ref D) { s₁ with heap := h', toks := tk' })) E s)
    (hs : ∀ x, foldedSetIterable iter env x = pure x := by intro _; rfl) :
    wpAny (model prog w) A (eval (.ListComp elt [⟨.Name x px, iter, [], 0⟩] scope pos) env) Q E s := by
  rw [eval_ListComp]
  refine wpAny_comprehension_free (use := none) rfl hs hclos hkind hnames (wpAny_mono h (fun xv s₁ h₁ => ?_) fun _ _ e => e)
  obtain ⟨ax, ao, vs, nw, rfl, hao, hh, F, N, hsrc, hsz, R⟩ := h₁
  have hls : s₁.heap.IsList ax vs := ⟨ao, (N _ hsrc).1, hao.1, hao.2⟩
  have hlt : ax < s₁.heap.objs.size := Heap.lt_size (N _ hsrc).1
  refine wpAny_pyIter_list hls ?_
  have hI : (s₁.heap.push { cls := .type "list_iterator", data := .fields #[.ref ax, .int 0 0] }).get? s₁.heap.objs.size = some { cls := .type "list_iterator", data := .fields #[.ref ax, .int 0 0] } := Heap.get?_push_size _ rfl
  have hI₀ : h₀.get? s₁.heap.objs.size = none := next_is_new F
  have hIL : L ≠ s₁.heap.objs.size := Nat.ne_of_lt F.ns.lt
  have offI : ∀ p ∈ nw, p.1 ≠ s₁.heap.objs.size := fun p hp => Nat.ne_of_lt (Heap.lt_size (N p hp).1)
  have W := Walks.list (prog := prog) (w := w) (A := A) hh s₁.heap.objs.size ax (Nat.ne_of_lt hlt) vs
  have st0 : (s₁.heap.push { cls := .type "list_iterator", data := .fields #[.ref ax, .int 0 0] }).IsListIter s₁.heap.objs.size ax 0 ∧ (s₁.heap.push { cls := .type "list_iterator", data := .fields #[.ref ax, .int 0 0] }).IsList ax vs :=
    ⟨⟨_, Heap.get?_push_size _ rfl, rfl, rfl⟩, hls.push _⟩
  have F1 := F.push { cls := .type "list_iterator", data := .fields #[.ref ax, .int 0 0] }
  have N1 : News h₀ L (s₁.heap.push { cls := .type "list_iterator", data := .fields #[.ref ax, .int 0 0] }) nw := N.grown fun _ _ e => Heap.get?_push_of_some _ e
  have hsize : (s₁.heap.push { cls := .type "list_iterator", data := .fields #[.ref ax, .int 0 0] }).objs.size = s₁.heap.objs.size + 1 := Heap.size_push ..
  replace R := R { s₁ with heap := s₁.heap.push { cls := .type "list_iterator", data := .fields #[.ref ax, .int 0 0] } } ⟨_, rfl⟩
  generalize s₁.heap.objs.size = I at *
  generalize s₁.heap.push { cls := .type "list_iterator", data := .fields #[.ref ax, .int 0 0] } = g at *
  -- the result's list, the frame, the cell
  refine wpAny_newObj_type ?_
  dsimp only
  refine newEnvC_K hcf hpc fun cenv hloc hcenv => ?_
  rw [hcenv, hloc]
  dsimp only
  simp only [Heap.size_push]
  have fresh₀ : ∀ a, g.objs.size ≤ a → h₀.get? a = none := fun a ha => by
    cases e : h₀.get? a with
    | none => rfl
    | some o' => exact absurd (Heap.lt_size (F1.keep a o' e)) (Nat.not_lt.mpr ha)
  have hLlt : L < g.objs.size := F1.ns.lt
  have ltN : ∀ p ∈ nw, p.1 < g.objs.size := fun p hp => Heap.lt_size (N1 p hp).1
  have hIlt : I < g.objs.size := by omega
  generalize hD : g.objs.size = D at *
  have hI1 : @LT.lt Nat _ I D := hIlt
  have hL1 : @LT.lt Nat _ L D := hLlt
  have nID : I ≠ D := Nat.ne_of_lt hI1
  have nIC : I ≠ D + 1 := Nat.ne_of_lt (Nat.lt_succ_of_lt hI1)
  have nIc : I ≠ D + 1 + 1 := Nat.ne_of_lt (Nat.lt_succ_of_lt (Nat.lt_succ_of_lt hI1))
  have nLD : L ≠ D := Nat.ne_of_lt hL1
  have nLC : L ≠ D + 1 := Nat.ne_of_lt (Nat.lt_succ_of_lt hL1)
  have nLc : L ≠ D + 1 + 1 := Nat.ne_of_lt (Nat.lt_succ_of_lt (Nat.lt_succ_of_lt hL1))
  have nDC : D ≠ D + 1 := Nat.ne_of_lt (Nat.lt_succ_self _)
  have nCc : D + 1 ≠ D + 1 + 1 := Nat.ne_of_lt (Nat.lt_succ_self _)
  have nDc : D ≠ D + 1 + 1 := Nat.ne_of_lt (Nat.lt_succ_of_lt (Nat.lt_succ_self _))
  have f0 : h₀.get? D = none := fresh₀ _ (Nat.le_refl _)
  have f1 : h₀.get? (D + 1) = none := fresh₀ _ (Nat.le_succ _)
  have f2 : h₀.get? (D + 1 + 1) = none := fresh₀ _ (Nat.le_succ_of_le (Nat.le_succ _))
  have hd1 : ((g.push { cls := .type "list", data := .seq ([] : List Value).toArray } : Heap).push { cls := .type "dict", data := .dict #[] }).objs.size = D + 1 + 1 := by simp only [Heap.size_push, hD]
  have hcellAt : ((((g.push { cls := .type "list", data := .seq ([] : List Value).toArray } : Heap).push { cls := .type "dict", data := .dict #[] })).push cellObj).get? (D + 1 + 1) = some cellObj := by
    rw [← hd1]; exact Heap.get?_push_size _ rfl
  have hNs : ((((g.push { cls := .type "list", data := .seq ([] : List Value).toArray } : Heap).push { cls := .type "dict", data := .dict #[] })).push cellObj).Ns (D + 1) (fun _ => none) := by
    have := (Heap.Ns.new (g.push { cls := .type "list", data := .seq ([] : List Value).toArray }) (.type "dict"))
    rw [Heap.size_push, hD] at this
    exact this.keeps fun b o e => Heap.get?_push_of_some _ e
  have hAcc : ((((g.push { cls := .type "list", data := .seq ([] : List Value).toArray } : Heap).push { cls := .type "dict", data := .dict #[] })).push cellObj).get? D = some (LCg.lst []) := by
    refine Heap.get?_push_of_some _ (Heap.get?_push_of_some _ ?_)
    rw [← hD]; exact Heap.get?_push_size _ rfl
  have old : ∀ b o, g.get? b = some o → ((((g.push { cls := .type "list", data := .seq ([] : List Value).toArray } : Heap).push { cls := .type "dict", data := .dict #[] })).push cellObj).get? b = some o :=
    fun b o e => Heap.get?_push_of_some _ (Heap.get?_push_of_some _ (Heap.get?_push_of_some _ e))
  generalize (((g.push { cls := .type "list", data := .seq ([] : List Value).toArray } : Heap).push { cls := .type "dict", data := .dict #[] })).push cellObj = g1 at *
  obtain ⟨oC, hC1, hC2⟩ := LCg.ns_obj hNs
  have st1 : g1.IsListIter I ax 0 ∧ g1.IsList ax vs := W.frame _ _ _ st0 fun b _ o e => old b o e
  have loop : ∀ s₃ : Shared, (∃ tk, s₃ = { s₁ with heap := g1, toks := tk }) →
      codeAny (model prog w) A (.compLoop (.ListComp elt [⟨.Name x px, iter, [], 0⟩] scope pos) 0 (.ref I) (.ref D) (compEnvC scope [(x, D + 1 + 1)] (D + 1) env)) (compPost (model prog w) A E none Q (.ref D) (D + 1)) s₃ := by
    rintro s₃ ⟨tk₃, rfl⟩
    refine codeAny_compLoop_tests
      (fun k s' => ∃ h' tk i ys nw' oC' oc v₀ m', s' = { s₁ with heap := h', toks := tk } ∧ i ≤ vs.size ∧ k = vs.size + 1 - i ∧ ys.length = i ∧ (h'.IsListIter I ax i ∧ h'.IsList ax vs) ∧ Fr h₀ L h' m ∧ LCg.NsObj oC' m' ∧ oc.data = .cell v₀ ∧
        News h₀ L h' ((D + 1, oC') :: (D + 1 + 1, oc) :: (D, LCg.lst ys) :: nw') ∧ Apart I (D + 1) D nw' ∧ (ax, ao) ∈ nw' ∧ RestC prog w A h₀ L m env elt x scope { s₁ with heap := g } (ax, ao) vs
        (fun ys nw' => ∀ D h' tk', Fr h₀ L h' m → News h₀ L h' ((D, LCg.lst ys) :: nw') → (∀ p ∈ nw', p.1 ≠ D) → Q (.ref D) { s₁ with heap := h', toks := tk' }) (vs.size - i) i ys nw') ?_ (vs.size + 1)
      ⟨g1, tk₃, 0, [], nw, oC, cellObj, none, _, rfl, Nat.zero_le _, rfl, rfl, st1, F1.keeps old, hC2, rfl, ?_, ?_, hsrc, R⟩
    · rintro k s' ⟨h', tk, i, ys, nw', oC', oc, v₀, m', rfl, hi, rfl, hyl, hst, F', hoC, hoc, N', off', hs', R'⟩
      have zC := N' _ (.head _)
      have zc := N' _ (.tail _ (.head _))
      have zD := N' _ (.tail _ (.tail _ (.head _)))
      by_cases hlt : i < vs.size
      · obtain ⟨j, hj⟩ : ∃ j, vs.size - i = j + 1 := ⟨vs.size - i - 1, by omega⟩
        rw [hj] at R'
        refine W.item i _ _ _ hlt hst fun v h₂ tk₂ hPv hst₂ hk₂ => ?_
        have up₂ : ∀ b o, b ≠ I → h'.get? b = some o → h₂.get? b = some o := fun b o hb e => hk₂ b o (fun hm => hb (List.mem_singleton.mp hm)) e
        refine wpAny_assign_Name (wpAny_storeName_cell (by simp [compEnvC, relabel, hkind]) (hx _ _) (c := D + 1 + 1) (by simp [compEnvC]) ⟨oc, up₂ _ _ (Ne.symm nIc) zc.1, hoc⟩ fun h₃ hv₃ hs₃ => ?_)
        refine wpAny_tests_nil ?_
        simp only [if_true]
        obtain ⟨oc₃, hc₃, hd₃⟩ := hv₃
        have up₃ : ∀ b o, b ≠ I → b ≠ D + 1 + 1 → h'.get? b = some o → h₃.get? b = some o := fun b o hb hb' e => hs₃.extBut b o hb' (up₂ b o hb e)
        have hst₃ : h₃.IsListIter I ax (i + 1) ∧ h₃.IsList ax vs := W.frame _ _ _ hst₂ fun b hb o e => hs₃.extBut b o (fun q => by
          rcases List.mem_cons.mp hb with r | r
          · exact nIc (r.symm.trans q)
          · exact (off' _ hs').2.2.1 ((List.mem_singleton.mp r).symm.trans q)) e
        obtain ⟨oI, heI, hoI⟩ := hst₃.1
        have F₃ : Fr h₀ L h₃ m := ⟨F'.ns.at' fun o e => up₃ L o hIL nLc e, fun b o e => up₃ b o (fun q => by rw [q, hI₀] at e; cases e) (fun q => by rw [q, f2] at e; cases e) (F'.keep b o e), F'.above⟩
        have N₃ : News h₀ L h₃ ((I, oI) :: (D + 1, oC') :: (D + 1 + 1, oc₃) :: (D, LCg.lst ys) :: nw') := by
          refine List.forall_mem_cons.mpr ⟨⟨heI, Ne.symm hIL, hI₀⟩, List.forall_mem_cons.mpr ⟨⟨up₃ _ _ (Ne.symm nIC) nCc zC.1, zC.2⟩, List.forall_mem_cons.mpr ⟨⟨hc₃, zc.2⟩, List.forall_mem_cons.mpr ⟨⟨up₃ _ _ (Ne.symm nID) nDc zD.1, zD.2⟩, fun p hp => ?_⟩⟩⟩⟩
          have z := N' p (.tail _ (.tail _ (.tail _ hp)))
          have o := off' p hp
          exact ⟨up₃ _ _ o.1 o.2.2.1 z.1, z.2⟩
        refine wpAny_mono (R' v I oI (D + 1) oC' oc₃ D h₃ _ _ hPv hd₃ F₃ N₃ off' ⟨nIC, nIc, nID, Ne.symm nDC, Ne.symm nDc⟩) (fun y s₄ h₄ => ?_) fun _ _ e => e
        obtain ⟨h₄, tk₄, nw₄, rfl, F₄, N₄, off₄, hs₄, R₄⟩ := h₄
        have yI := N₄ _ (.head _)
        have yC := N₄ _ (.tail _ (.head _))
        have yc := N₄ _ (.tail _ (.tail _ (.head _)))
        have yD := N₄ _ (.tail _ (.tail _ (.tail _ (.head _))))
        refine append_at (hsz := by show ys.toArray.size ≤ sizeLine; rw [List.size_toArray, hyl]; exact Nat.le_trans hi hsz) yD.1 fun h₅ hs₅ hD₅ => ?_
        have up₅ : ∀ b o, b ≠ D → h₄.get? b = some o → h₅.get? b = some o := fun b o hb e => hs₅.extBut b o hb e
        have hls₄ : h₅.IsList ax vs := ⟨ao, up₅ _ _ (off₄ _ hs₄).2.2.2 (N₄ _ (.tail _ (.tail _ (.tail _ (.tail _ hs₄))))).1, hao.1, hao.2⟩
        refine ⟨vs.size + 1 - (i + 1), by omega, h₅, tk₄, i + 1, ys ++ [y], nw₄, oC', oc₃, _, m', rfl, hlt, rfl, by rw [List.length_append, List.length_singleton, hyl], ⟨⟨oI, up₅ _ _ nID yI.1, hoI⟩, hls₄⟩, F₄.change hs₅ yD.2.1 yD.2.2, hoC, hd₃, ?_, off₄, hs₄, ?_⟩
        · refine List.forall_mem_cons.mpr ⟨⟨up₅ _ _ (Ne.symm nDC) yC.1, yC.2⟩, List.forall_mem_cons.mpr ⟨⟨up₅ _ _ (Ne.symm nDc) yc.1, yc.2⟩, List.forall_mem_cons.mpr ⟨⟨hD₅.trans (congrArg some (LCg.lst_snoc ys y)), yD.2⟩, fun p hp => ?_⟩⟩⟩
          have z := N₄ p (.tail _ (.tail _ (.tail _ (.tail _ hp))))
          exact ⟨up₅ _ _ (off₄ p hp).2.2.2 z.1, z.2⟩
        · rw [show vs.size - (i + 1) = j by omega]
          exact R₄
      · obtain rfl : i = vs.size := Nat.le_antisymm hi (Nat.not_lt.mp hlt)
        rw [Nat.sub_self] at R'
        refine W.done _ _ _ hst fun h₂ tk₂ hk₂ => ?_
        have up₂ : ∀ b o, b ≠ I → h'.get? b = some o → h₂.get? b = some o := fun b o hb e => hk₂ b o (fun hm => hb (List.mem_singleton.mp hm)) e
        refine ⟨m', hoC.ns (up₂ _ _ (Ne.symm nIC) zC.1), fun h₃ hs₃ => R' D h₃ tk₂ ?_ ?_ fun p hp => (off' p hp).2.2.2⟩
        · exact ⟨F'.ns.at' fun o e => hs₃.extBut _ _ nLC (up₂ L o hIL e), fun b o e => hs₃.extBut _ _ (fun q => by rw [q, f1] at e; cases e) (up₂ b o (fun q => by rw [q, hI₀] at e; cases e) (F'.keep b o e)), F'.above⟩
        · refine List.forall_mem_cons.mpr ⟨⟨hs₃.extBut _ _ nDC (up₂ _ _ (Ne.symm nID) zD.1), zD.2⟩, fun p hp => ?_⟩
          have z := N' p (.tail _ (.tail _ (.tail _ hp)))
          have o := off' p hp
          exact ⟨hs₃.extBut _ _ o.2.1 (up₂ _ _ o.1 z.1), z.2⟩
    · refine List.forall_mem_cons.mpr ⟨⟨hC1, Ne.symm nLC, f1⟩, List.forall_mem_cons.mpr ⟨⟨hcellAt, Ne.symm nLc, f2⟩, List.forall_mem_cons.mpr ⟨⟨hAcc, Ne.symm nLD, f0⟩, fun p hp => ?_⟩⟩⟩
      have z := N1 p hp
      exact ⟨old _ _ z.1, z.2⟩
    · intro p hp
      have l : @LT.lt Nat _ p.1 D := ltN p hp
      exact ⟨offI p hp, Nat.ne_of_lt (Nat.lt_succ_of_lt l), Nat.ne_of_lt (Nat.lt_succ_of_lt (Nat.lt_succ_of_lt l)), Nat.ne_of_lt l⟩
  exact codeAny_compStart_list (loop _ ⟨_, rfl⟩) (W.self 0 _ _ _ st1 (loop _ ⟨_, rfl⟩))
end
end
section
open PySem PySem.W PyProof.Rows PySem.Calls
section
variable {prog : Program} {w : World} {A : Around} {E : Value → Shared → Prop} {s : Shared} {h₀ : Heap} {L : Addr} {m : Str → Option Value} {env : Env}
def ApartL (I C D : Addr) (nw : List (Addr × Obj)) : Prop := ∀ p ∈ nw, p.1 ≠ I ∧ p.1 ≠ C ∧ p.1 ≠ D
/-- a turn's end: the ledger with the comprehension's own three -/
def EndL (h₀ : Heap) (L : Addr) (m : Str → Option Value) (s₁ : Shared) (I : Addr) (oI : Obj) (C : Addr) (oC : Obj) (D : Addr) (ys : List Value) (src : Addr × Obj) (rest : Value → List (Addr × Obj) → Prop) (y : Value) (s₂ : Shared) : Prop :=
  ∃ h' tk nw', s₂ = { s₁ with heap := h', toks := tk } ∧ Fr h₀ L h' m ∧ News h₀ L h' ((I, oI) :: (C, oC) :: (D, LCg.lst ys) :: nw') ∧ ApartL I C D nw' ∧ src ∈ nw' ∧ rest y nw'
theorem EndL.led {s₁ : Shared} {I C D : Addr} {oI oC : Obj} {ys : List Value} {src : Addr × Obj} {rest : Value → List (Addr × Obj) → Prop} {y : Value} {h' : Heap} {tk : Nat} {nw : List (Addr × Obj)} (led : List (Addr × Obj))
    (F : Fr h₀ L h' m) (N : News h₀ L h' (led ++ (I, oI) :: (C, oC) :: (D, LCg.lst ys) :: nw)) (ap : ApLed led ((I, oI) :: (C, oC) :: (D, LCg.lst ys) :: nw)) (off : ApartL I C D nw) (hs : src ∈ nw) (r : rest y (led ++ nw)) :
    EndL h₀ L m s₁ I oI C oC D ys src rest y { s₁ with heap := h', toks := tk } := by
  refine ⟨h', tk, led ++ nw, rfl, F, fun p hp => N p ?_, fun p hp => ?_, List.mem_append_right _ hs, r⟩
  · rcases List.mem_cons.mp hp with rfl | hp
    · exact List.mem_append_right _ (.head _)
    · rcases List.mem_cons.mp hp with rfl | hp
      · exact List.mem_append_right _ (.tail _ (.head _))
      · rcases List.mem_cons.mp hp with rfl | hp
        · exact List.mem_append_right _ (.tail _ (.tail _ (.head _)))
        · rcases List.mem_append.mp hp with hp | hp
          · exact List.mem_append_left _ hp
          · exact List.mem_append_right _ (.tail _ (.tail _ (.tail _ hp)))
  · rcases List.mem_append.mp hp with hp | hp
    · exact ⟨ap p hp _ (.head _), ap p hp _ (.tail _ (.head _)), ap p hp _ (.tail _ (.tail _ (.head _)))⟩
    · exact off p hp
def RestL (prog : Program) (w : World) (A : Around) (h₀ : Heap) (L : Addr) (m : Str → Option Value) (env : Env) (elt : Expr) (x : Str) (scope : Scope) (cl : List (Str × Addr)) (s : Shared) (src : Addr × Obj) (vs : Array Value)
    (Fin : List Value → List (Addr × Obj) → Prop) : Nat → Nat → List Value → List (Addr × Obj) → Prop
  | 0, _, ys, nw => Fin ys nw
  | k + 1, i, ys, nw => ∀ v I oI C oC D m₂ h tk (E' : Value → Shared → Prop), vs[i]? = some v → LCg.NsObj oC m₂ → m₂ x = some v → Fr h₀ L h m → News h₀ L h ((I, oI) :: (C, oC) :: (D, LCg.lst ys) :: nw) → ApartL I C D nw →
      wpAny (model prog w) A (eval elt (compEnvC scope cl C env)) (EndL h₀ L m { s with heap := h, toks := tk + 1 } I oI C oC D ys src (fun y nw' => RestL prog w A h₀ L m env elt x scope cl s src vs Fin k (i + 1) (ys ++ [y]) nw')) E' { s with heap := h, toks := tk + 1 }
theorem RestL.zero {elt : Expr} {x : Str} {scope : Scope} {cl : List (Str × Addr)} {src : Addr × Obj} {vs : Array Value} {Fin : List Value → List (Addr × Obj) → Prop} {i : Nat} {ys : List Value} {nw : List (Addr × Obj)} (h : Fin ys nw) : RestL prog w A h₀ L m env elt x scope cl s src vs Fin 0 i ys nw := h
theorem RestL.succ {elt : Expr} {x : Str} {scope : Scope} {cl : List (Str × Addr)} {src : Addr × Obj} {vs : Array Value} {Fin : List Value → List (Addr × Obj) → Prop} {k i : Nat} {ys : List Value} {nw : List (Addr × Obj)}
    (h : ∀ v I oI C oC D m₂ h tk (E' : Value → Shared → Prop), vs[i]? = some v → LCg.NsObj oC m₂ → m₂ x = some v → Fr h₀ L h m → News h₀ L h ((I, oI) :: (C, oC) :: (D, LCg.lst ys) :: nw) → ApartL I C D nw →
      wpAny (model prog w) A (eval elt (compEnvC scope cl C env)) (EndL h₀ L m { s with heap := h, toks := tk + 1 } I oI C oC D ys src (fun y nw' => RestL prog w A h₀ L m env elt x scope cl s src vs Fin k (i + 1) (ys ++ [y]) nw')) E' { s with heap := h, toks := tk + 1 }) :
    RestL prog w A h₀ L m env elt x scope cl s src vs Fin (k + 1) i ys nw := h
theorem RestC.zero {elt : Expr} {x : Str} {scope : Scope} {src : Addr × Obj} {vs : Array Value} {Fin : List Value → List (Addr × Obj) → Prop} {i : Nat} {ys : List Value} {nw : List (Addr × Obj)} (h : Fin ys nw) : RestC prog w A h₀ L m env elt x scope s src vs Fin 0 i ys nw := h
theorem RestC.succ {elt : Expr} {x : Str} {scope : Scope} {src : Addr × Obj} {vs : Array Value} {Fin : List Value → List (Addr × Obj) → Prop} {k i : Nat} {ys : List Value} {nw : List (Addr × Obj)}
    (h : ∀ v I oI C oC oc D h tk (E' : Value → Shared → Prop), vs[i]? = some v → oc.data = .cell (some v) → Fr h₀ L h m → News h₀ L h ((I, oI) :: (C, oC) :: (C + 1, oc) :: (D, LCg.lst ys) :: nw) → Apart I C D nw →
      (NeQ I C ∧ NeQ I (C + 1) ∧ NeQ I D ∧ NeQ C D ∧ NeQ (C + 1) D) →
      wpAny (model prog w) A (eval elt (compEnvC scope [(x, C + 1)] C env)) (EndC h₀ L m { s with heap := h, toks := tk } I oI C oC oc D ys src (fun y nw' => RestC prog w A h₀ L m env elt x scope s src vs Fin k (i + 1) (ys ++ [y]) nw')) E' { s with heap := h, toks := tk }) :
    RestC prog w A h₀ L m env elt x scope s src vs Fin (k + 1) i ys nw := h
/-- the block of a comprehension over a list, its target a local -/
theorem block_L {elt iter : Expr} {x : Str} {px : Pos} {scope : Scope} {cl : List (Str × Addr)} {pos : Pos} {ax : Addr} {ao : Obj} {vs : Array Value} {nw : List (Addr × Obj)} {Fin : List Value → List (Addr × Obj) → Prop} {RR : Value → Addr → Result → Shared → Prop}
    (hcell : ∀ y ∈ scope.names, y.2 ≠ .cell) (hkind : scope.kind = .function) (hx : scope.names.lookup x = some .local)
    (hao : ao.cls = .type "list" ∧ ∃ n, ao.data = .seq vs n) (hh : A.handled = none) (F : Fr h₀ L s.heap m) (N : News h₀ L s.heap nw) (hsrc : (ax, ao) ∈ nw) (hsz : vs.size ≤ sizeLine)
    (R : ∀ s₂ : Shared, (∃ g, s₂ = { s with heap := g }) → RestL prog w A h₀ L m env elt x scope cl s₂ (ax, ao) vs Fin vs.size 0 [] nw)
    (hRR : ∀ D C h tk m' ys nw', Fr h₀ L h m → News h₀ L h ((D, LCg.lst ys) :: nw') → (∀ p ∈ nw', p.1 ≠ D) → h.Ns C m' → h₀.get? C = none → C ≠ L → C ≠ D → (∀ p ∈ nw', p.1 ≠ C) → Fin ys nw' → RR (.ref D) C (.ok .next) { s with heap := h, toks := tk }) :
    wpAny (model prog w) A (pyIter (.ref ax)) (fun it s₂ => wpAny (model prog w) A (newList []) (fun acc s₃ => wpAny (model prog w) A (newFunctionEnv scope env.globals cl [] env.qual none .none (some env)) (fun cenv s₄ =>
      codeAny (model prog w) A (.compStart (.ListComp elt [⟨.Name x px, iter, [], 0⟩] scope pos) 0 it acc { cenv with scope := relabel scope env }) (RR acc cenv.locals) s₄) E s₃) E s₂) E s := by
  have hls : s.heap.IsList ax vs := ⟨ao, (N _ hsrc).1, hao.1, hao.2⟩
  have hlt : ax < s.heap.objs.size := Heap.lt_size (N _ hsrc).1
  refine wpAny_pyIter_list hls ?_
  have hI₀ : h₀.get? s.heap.objs.size = none := next_is_new F
  have hIL : L ≠ s.heap.objs.size := Nat.ne_of_lt F.ns.lt
  have offI : ∀ p ∈ nw, p.1 ≠ s.heap.objs.size := fun p hp => Nat.ne_of_lt (Heap.lt_size (N p hp).1)
  have W := Walks.list (prog := prog) (w := w) (A := A) hh s.heap.objs.size ax (Nat.ne_of_lt hlt) vs
  have st0 : (s.heap.push { cls := .type "list_iterator", data := .fields #[.ref ax, .int 0 0] }).IsListIter s.heap.objs.size ax 0 ∧ (s.heap.push { cls := .type "list_iterator", data := .fields #[.ref ax, .int 0 0] }).IsList ax vs :=
    ⟨⟨_, Heap.get?_push_size _ rfl, rfl, rfl⟩, hls.push _⟩
  have F1 := F.push { cls := .type "list_iterator", data := .fields #[.ref ax, .int 0 0] }
  have N1 : News h₀ L (s.heap.push { cls := .type "list_iterator", data := .fields #[.ref ax, .int 0 0] }) nw := N.grown fun _ _ e => Heap.get?_push_of_some _ e
  have hsize : (s.heap.push { cls := .type "list_iterator", data := .fields #[.ref ax, .int 0 0] }).objs.size = s.heap.objs.size + 1 := Heap.size_push ..
  replace R := R { s with heap := s.heap.push { cls := .type "list_iterator", data := .fields #[.ref ax, .int 0 0] } } ⟨_, rfl⟩
  generalize s.heap.objs.size = I at *
  generalize s.heap.push { cls := .type "list_iterator", data := .fields #[.ref ax, .int 0 0] } = g at *
  refine wpAny_newObj_type (wpAny_newFunctionEnv hcell (by intro y hy; simp at hy) (fun g1 hns₁ hsb₁ => ?_) hkind)
  dsimp only at hns₁ hsb₁ ⊢
  have fresh₀ : ∀ a, g.objs.size ≤ a → h₀.get? a = none := fun a ha => by
    cases e : h₀.get? a with
    | none => rfl
    | some o' => exact absurd (Heap.lt_size (F1.keep a o' e)) (Nat.not_lt.mpr ha)
  have hL1 : @LT.lt Nat _ L g.objs.size := F1.ns.lt
  have ltN : ∀ p ∈ nw, @LT.lt Nat _ p.1 g.objs.size := fun p hp => Heap.lt_size (N1 p hp).1
  have hI1 : @LT.lt Nat _ I g.objs.size := by rw [hsize]; exact Nat.lt_succ_self _
  have hC : (g.push { cls := .type "list", dict := none, data := .seq ([] : List Value).toArray }).objs.size = g.objs.size + 1 := Heap.size_push ..
  have hAcc : (g.push { cls := .type "list", dict := none, data := .seq ([] : List Value).toArray }).get? g.objs.size = some (LCg.lst []) := Heap.get?_push_size _ rfl
  have old1 : ∀ b o, g.get? b = some o → (g.push { cls := .type "list", dict := none, data := .seq ([] : List Value).toArray }).get? b = some o := fun b o e => Heap.get?_push_of_some _ e
  have lt1 : ∀ b o, g.get? b = some o → @LT.lt Nat _ b g.objs.size := fun b o e => Heap.lt_size e
  rw [hC] at hns₁ hsb₁ ⊢
  generalize g.push { cls := .type "list", dict := none, data := .seq ([] : List Value).toArray } = H2 at *
  generalize hD : g.objs.size = D at *
  have nID : I ≠ D := Nat.ne_of_lt hI1
  have nIC : I ≠ D + 1 := Nat.ne_of_lt (Nat.lt_succ_of_lt hI1)
  have nLD : L ≠ D := Nat.ne_of_lt hL1
  have nLC : L ≠ D + 1 := Nat.ne_of_lt (Nat.lt_succ_of_lt hL1)
  have nDC : D ≠ D + 1 := Nat.ne_of_lt (Nat.lt_succ_self _)
  have f0 : h₀.get? D = none := fresh₀ _ (Nat.le_refl _)
  have f1 : h₀.get? (D + 1) = none := fresh₀ _ (Nat.le_succ _)
  have old : ∀ b o, g.get? b = some o → g1.get? b = some o := fun b o e => hsb₁.extBut b o (Nat.ne_of_lt (Nat.lt_succ_of_lt (lt1 b o e))) (Heap.get?_push_of_some _ (old1 b o e))
  have hacc : g1.get? D = some (LCg.lst []) := hsb₁.extBut _ _ nDC (Heap.get?_push_of_some _ hAcc)
  obtain ⟨oC, hC1, hC2⟩ := LCg.ns_obj hns₁
  have st1 : g1.IsListIter I ax 0 ∧ g1.IsList ax vs := W.frame _ _ _ st0 fun b _ o e => old b o e
  have loop : ∀ s₃ : Shared, (∃ tk, s₃ = { s with heap := g1, toks := tk }) →
      codeAny (model prog w) A (.compLoop (.ListComp elt [⟨.Name x px, iter, [], 0⟩] scope pos) 0 (.ref I) (.ref D) (compEnvC scope cl (D + 1) env)) (RR (.ref D) (D + 1)) s₃ := by
    rintro s₃ ⟨tk₃, rfl⟩
    refine codeAny_compLoop_tests
      (fun k s' => ∃ h' tk i ys nw' oC' m', s' = { s with heap := h', toks := tk } ∧ i ≤ vs.size ∧ k = vs.size + 1 - i ∧ ys.length = i ∧ (h'.IsListIter I ax i ∧ h'.IsList ax vs) ∧ Fr h₀ L h' m ∧ LCg.NsObj oC' m' ∧
        News h₀ L h' ((D + 1, oC') :: (D, LCg.lst ys) :: nw') ∧ ApartL I (D + 1) D nw' ∧ (ax, ao) ∈ nw' ∧ RestL prog w A h₀ L m env elt x scope cl { s with heap := g } (ax, ao) vs Fin (vs.size - i) i ys nw') ?_ (vs.size + 1)
      ⟨g1, tk₃, 0, [], nw, oC, _, rfl, Nat.zero_le _, rfl, rfl, st1, F1.keeps old, hC2, ?_, ?_, hsrc, R⟩
    · rintro k s' ⟨h', tk, i, ys, nw', oC', m', rfl, hi, rfl, hyl, hst, F', hoC, N', off', hs', R'⟩
      have zC := N' _ (.head _)
      have zD := N' _ (.tail _ (.head _))
      by_cases hlt : i < vs.size
      · obtain ⟨j, hj⟩ : ∃ j, vs.size - i = j + 1 := ⟨vs.size - i - 1, by omega⟩
        rw [hj] at R'
        refine W.item i _ _ _ hlt hst fun v h₂ tk₂ hPv hst₂ hk₂ => ?_
        have up₂ : ∀ b o, b ≠ I → h'.get? b = some o → h₂.get? b = some o := fun b o hb e => hk₂ b o (fun hm => hb (List.mem_singleton.mp hm)) e
        refine wpAny_assign_Name (wpAny_storeName_local (lookup_relabel_local hx) (hoC.ns (up₂ _ _ (Ne.symm nIC) zC.1)) (fun h₃ hn₃ hs₃ => ?_) (by simp [compEnvC, relabel, hkind]))
        refine wpAny_tests_nil ?_
        simp only [if_true]
        obtain ⟨oC₃, hc₃, hd₃⟩ := LCg.ns_obj hn₃
        have up₃ : ∀ b o, b ≠ I → b ≠ D + 1 → h'.get? b = some o → h₃.get? b = some o := fun b o hb hb' e => hs₃.extBut b o hb' (up₂ b o hb e)
        have hst₃ : h₃.IsListIter I ax (i + 1) ∧ h₃.IsList ax vs := W.frame _ _ _ hst₂ fun b hb o e => hs₃.extBut b o (fun q => by
          have q' : b = D + 1 := q
          rcases List.mem_cons.mp hb with r | r
          · exact nIC (r.symm.trans q')
          · exact (off' _ hs').2.1 ((List.mem_singleton.mp r).symm.trans q')) e
        obtain ⟨oI, heI, hoI⟩ := hst₃.1
        have F₃ : Fr h₀ L h₃ m := ⟨F'.ns.at' fun o e => up₃ L o hIL nLC e, fun b o e => up₃ b o (fun q => by rw [q, hI₀] at e; cases e) (fun q => by rw [q, f1] at e; cases e) (F'.keep b o e), F'.above⟩
        have N₃ : News h₀ L h₃ ((I, oI) :: (D + 1, oC₃) :: (D, LCg.lst ys) :: nw') := by
          refine List.forall_mem_cons.mpr ⟨⟨heI, Ne.symm hIL, hI₀⟩, List.forall_mem_cons.mpr ⟨⟨hc₃, zC.2⟩, List.forall_mem_cons.mpr ⟨⟨up₃ _ _ (Ne.symm nID) nDC zD.1, zD.2⟩, fun p hp => ?_⟩⟩⟩
          have z := N' p (.tail _ (.tail _ hp))
          have o := off' p hp
          exact ⟨up₃ _ _ o.1 o.2.1 z.1, z.2⟩
        refine wpAny_mono (R' v I oI (D + 1) oC₃ D _ h₃ _ _ hPv hd₃ (by simp) F₃ N₃ off') (fun y s₄ h₄ => ?_) fun _ _ e => e
        obtain ⟨h₄, tk₄, nw₄, rfl, F₄, N₄, off₄, hs₄, R₄⟩ := h₄
        have yI := N₄ _ (.head _)
        have yC := N₄ _ (.tail _ (.head _))
        have yD := N₄ _ (.tail _ (.tail _ (.head _)))
        refine append_at (hsz := by show ys.toArray.size ≤ sizeLine; rw [List.size_toArray, hyl]; exact Nat.le_trans hi hsz) yD.1 fun h₅ hs₅ hD₅ => ?_
        have up₅ : ∀ b o, b ≠ D → h₄.get? b = some o → h₅.get? b = some o := fun b o hb e => hs₅.extBut b o hb e
        have hls₄ : h₅.IsList ax vs := ⟨ao, up₅ _ _ (off₄ _ hs₄).2.2 (N₄ _ (.tail _ (.tail _ (.tail _ hs₄)))).1, hao.1, hao.2⟩
        refine ⟨vs.size + 1 - (i + 1), by omega, h₅, tk₄, i + 1, ys ++ [y], nw₄, oC₃, _, rfl, hlt, rfl, by rw [List.length_append, List.length_singleton, hyl], ⟨⟨oI, up₅ _ _ nID yI.1, hoI⟩, hls₄⟩, F₄.change hs₅ yD.2.1 yD.2.2, hd₃, ?_, off₄, hs₄, ?_⟩
        · refine List.forall_mem_cons.mpr ⟨⟨up₅ _ _ (Ne.symm nDC) yC.1, yC.2⟩, List.forall_mem_cons.mpr ⟨⟨hD₅.trans (congrArg some (LCg.lst_snoc ys y)), yD.2⟩, fun p hp => ?_⟩⟩
          have z := N₄ p (.tail _ (.tail _ (.tail _ hp)))
          exact ⟨up₅ _ _ (off₄ p hp).2.2 z.1, z.2⟩
        · rw [show vs.size - (i + 1) = j by omega]
          exact R₄
      · obtain rfl : i = vs.size := Nat.le_antisymm hi (Nat.not_lt.mp hlt)
        rw [Nat.sub_self] at R'
        refine W.done _ _ _ hst fun h₂ tk₂ hk₂ => ?_
        have up₂ : ∀ b o, b ≠ I → h'.get? b = some o → h₂.get? b = some o := fun b o hb e => hk₂ b o (fun hm => hb (List.mem_singleton.mp hm)) e
        refine hRR D (D + 1) h₂ tk₂ m' ys nw' ⟨F'.ns.at' fun o e => up₂ L o hIL e, fun b o e => up₂ b o (fun q => by rw [q, hI₀] at e; cases e) (F'.keep b o e), F'.above⟩ ?_ (fun p hp => (off' p hp).2.2) (hoC.ns (up₂ _ _ (Ne.symm nIC) zC.1)) f1 (Ne.symm nLC) (Ne.symm nDC) (fun p hp => (off' p hp).2.1) R'
        refine List.forall_mem_cons.mpr ⟨⟨up₂ _ _ (Ne.symm nID) zD.1, zD.2⟩, fun p hp => ?_⟩
        have z := N' p (.tail _ (.tail _ hp))
        exact ⟨up₂ _ _ (off' p hp).1 z.1, z.2⟩
    · refine List.forall_mem_cons.mpr ⟨⟨hC1, Ne.symm nLC, f1⟩, List.forall_mem_cons.mpr ⟨⟨hacc, Ne.symm nLD, f0⟩, fun p hp => ?_⟩⟩
      have z := N1 p hp
      exact ⟨old _ _ z.1, z.2⟩
    · intro p hp
      have l := ltN p hp
      exact ⟨offI p hp, Nat.ne_of_lt (Nat.lt_succ_of_lt l), Nat.ne_of_lt l⟩
  exact codeAny_compStart_list (loop _ ⟨_, rfl⟩) (W.self 0 _ _ _ st1 (loop _ ⟨_, rfl⟩))
/-- what the source of such a comprehension must be -/
def SrcLL (prog : Program) (w : World) (A : Around) (h₀ : Heap) (L : Addr) (m : Str → Option Value) (env : Env) (elt : Expr) (x : Str) (scope : Scope) (cl : List (Str × Addr)) (Fin : Shared → List Value → List (Addr × Obj) → Prop) (xv : Value) (s₁ : Shared) : Prop :=
  ∃ ax ao vs nw, xv = .ref ax ∧ (ao.cls = .type "list" ∧ ∃ n, ao.data = .seq vs n) ∧ A.handled = none ∧ Fr h₀ L s₁.heap m ∧ News h₀ L s₁.heap nw ∧ (ax, ao) ∈ nw ∧ vs.size ≤ sizeLine ∧
    ∀ s₂ : Shared, (∃ g, s₂ = { s₁ with heap := g }) → RestL prog w A h₀ L m env elt x scope cl s₂ (ax, ao) vs (Fin s₁) vs.size 0 [] nw
theorem SrcLL.intro {elt : Expr} {x : Str} {scope : Scope} {cl : List (Str × Addr)} {Fin : Shared → List Value → List (Addr × Obj) → Prop} {ax : Addr} {ao : Obj} {vs : Array Value} {nw : List (Addr × Obj)} {s₁ : Shared} (hao : ao.cls = .type "list" ∧ ∃ n, ao.data = .seq vs n)
    (hh : A.handled = none) (F : Fr h₀ L s₁.heap m) (N : News h₀ L s₁.heap nw) (hm : (ax, ao) ∈ nw) (hsz : vs.size ≤ sizeLine)
    (h : ∀ g, RestL prog w A h₀ L m env elt x scope cl { s₁ with heap := g } (ax, ao) vs (Fin s₁) vs.size 0 [] nw) : SrcLL prog w A h₀ L m env elt x scope cl Fin (.ref ax) s₁ :=
  ⟨ax, ao, vs, nw, rfl, hao, hh, F, N, hm, hsz, fun _ ⟨g, e⟩ => e ▸ h g⟩
theorem ListComp_LL {elt iter : Expr} {x : Str} {px : Pos} {scope : Scope} {cl : List (Str × Addr)} {pos : Pos} {Q : Value → Shared → Prop} (_F₀ : Fr h₀ L s.heap m)
    (hclos : closureFor scope env = pure cl) (hcell : ∀ y ∈ scope.names, y.2 ≠ .cell) (hkind : scope.kind = .function)
    (hnames : ∀ y ∈ scope.names, y.2 = .local → scope.names.lookup y.1 = some .local) (hx : scope.names.lookup x = some .local)
    (h : wpAny (model prog w) A (eval iter env) (SrcLL prog w A h₀ L m env elt x scope cl (fun s₁ ys nw => ∀ D h tk, Fr h₀ L h m → News h₀ L h ((D, LCg.lst ys) :: nw) → (∀ p ∈ nw, p.1 ≠ D) → Q (.ref D) { s₁ with heap := h, toks := tk })) E s)
    (hs : ∀ x, foldedSetIterable iter env x = pure x := by intro _; rfl) :
    wpAny (model prog w) A (eval (.ListComp elt [⟨.Name x px, iter, [], 0⟩] scope pos) env) Q E s := by
  rw [eval_ListComp]
  refine wpAny_comprehension_free (use := none) rfl hs hclos hkind hnames (wpAny_mono h (fun xv s₁ h₁ => ?_) fun _ _ e => e)
  obtain ⟨ax, ao, vs, nw, rfl, hao, hh, F, N, hsrc, hsz, R⟩ := h₁
  refine block_L hcell hkind hx hao hh F N hsrc hsz R ?_
  intro D C h' tk m' ys nw' F' N' oD hn hC₀ hCL hCD offC fin
  refine ⟨m', hn, fun h'' hs'' => fin D h'' tk (F'.change hs'' hCL hC₀) (fun p hp => ?_) oD⟩
  refine ⟨hs''.extBut _ _ ?_ (N' p hp).1, (N' p hp).2⟩
  rcases List.mem_cons.mp hp with rfl | hp
  · exact Ne.symm hCD
  · exact offC p hp
theorem Assign_LL {elt iter : Expr} {x y : Str} {px py : Pos} {scope : Scope} {cl : List (Str × Addr)} {pos spos : Pos} {Q : Flow → Shared → Prop} (_F₀ : Fr h₀ L s.heap m) (hLe : env.locals = L)
    (hsw : swapsWith (.ListComp elt [⟨.Name x px, iter, [], 0⟩] scope pos) (some (.Name y py)) spos.line env = pure true)
    (hclos : closureFor scope env = pure cl) (hcell : ∀ z ∈ scope.names, z.2 ≠ .cell) (hkind : scope.kind = .function)
    (hnames : ∀ z ∈ scope.names, z.2 = .local → scope.names.lookup z.1 = some .local) (hx : scope.names.lookup x = some .local)
    (hy : env.kindOf y = some .local) (hp : (env.scope.kind == .class || (env.scope.kind == .module && env.locals != env.globals)) = false)
    (h : wpAny (model prog w) A (eval iter env) (SrcLL prog w A h₀ L m env elt x scope cl (fun s₁ ys nw => ∀ D h tk, Fr h₀ L h (fun z => if z = y then some (.ref D) else m z) → News h₀ L h ((D, LCg.lst ys) :: nw) → (∀ p ∈ nw, p.1 ≠ D) → Q .next { s₁ with heap := h, toks := tk })) E s)
    (hs : ∀ x, foldedSetIterable iter env x = pure x := by intro _; rfl) :
    wpAny (model prog w) A (exec (.Assign [.Name y py] (.ListComp elt [⟨.Name x px, iter, [], 0⟩] scope pos) spos) env) Q E s := by
  subst hLe
  rw [exec_Assign_Name_used _ _ _ _ hsw]
  refine wpAny_bind (wpAny_standAt (wpAny_bind ?_))
  show wpAny _ A (do let _ ← comprehension (.ListComp elt [⟨.Name x px, iter, [], 0⟩] scope pos) scope env _ (newList []) false (eval iter env) (some (assign (.Name y py) env))) _ _ s
  refine wpAny_bind (wpAny_mono (wpAny_comprehension_free (use := some (assign (.Name y py) env)) (Q := fun _ s' => Q .next s') rfl hs hclos hkind hnames
    (wpAny_mono h (fun xv s₁ h₁ => ?_) fun _ _ e => e)) (fun _ s' hq => wpAny_pure (wpAny_pure hq)) fun _ _ e => e)
  obtain ⟨ax, ao, vs, nw, rfl, hao, hh, F, N, hsrc, hsz, R⟩ := h₁
  refine block_L hcell hkind hx hao hh F N hsrc hsz R ?_
  intro D C h' tk m' ys nw' F' N' oD hn hC₀ hCL hCD offC fin
  show wpAny _ A (assign (.Name y py) env (.ref D)) _ _ _
  refine wpAny_assign_Name (wpAny_storeName_local hy F'.ns (fun h₂ hn₂ hs₂ => ?_) hp)
  have hL₀ : h₀.get? env.locals = none := Heap.get?_none_of_le F'.above
  have F₂ : Fr h₀ env.locals h₂ (fun z => if z = y then some (.ref D) else m z) := ⟨hn₂, fun b o e => hs₂.extBut b o (fun q => by rw [q, hL₀] at e; cases e) (F'.keep b o e), F'.above⟩
  refine ⟨m', hn.sameBut hs₂ hCL, fun h'' hs'' => fin D h'' _ (F₂.change hs'' hCL hC₀) (fun p hp => ?_) oD⟩
  have z : h₂.get? p.1 = some p.2 := hs₂.extBut _ _ (N' p hp).2.1 (N' p hp).1
  refine ⟨hs''.extBut _ _ ?_ z, (N' p hp).2⟩
  rcases List.mem_cons.mp hp with rfl | hp
  · exact Ne.symm hCD
  · exact offC p hp
end
end
section
open PySem PySem.W PyProof.Rows PySem.Calls
theorem off1_ne {D : Addr} : ∀ {nw : List (Addr × Obj)}, LCg.Off1 D nw → ∀ p ∈ nw, p.1 ≠ D
  | [], _, _, h => nomatch h
  | q :: r, o, p, h => by
    rcases List.mem_cons.mp h with rfl | h
    · exact o.1
    · exact off1_ne o.2 p h
section
variable {prog : Program} {w : World} {A : Around} {E : Value → Shared → Prop} {s : Shared} {news : List (Addr × Obj)}
/-- a statement's end told anew: the frame's names, the ledger, and what is known of them -/
def JoinQ {σ : Type} (h₀ : Heap) (L : Addr) (ps : σ → List (Str × Value)) (led : σ → List (Addr × Obj)) (P : σ → Prop) (s : Shared) (f : Flow) (s' : Shared) : Prop :=
  f = .next ∧ ∃ h' tk' m' c, s' = { s with heap := h', toks := tk' } ∧ Fr h₀ L h' m' ∧ News h₀ L h' (led c) ∧ (∀ p ∈ ps c, m' p.1 = some p.2) ∧ P c
theorem joinQ_end {σ : Type} {h₀ : Heap} {L : Addr} {ps : σ → List (Str × Value)} {led : σ → List (Addr × Obj)} {P : σ → Prop} {h' : Heap} {tk' : Nat} {m' : Str → Option Value} (c : σ)
    (F : Fr h₀ L h' m') (N : News h₀ L h' news) (hm : ∀ p ∈ ps c, m' p.1 = some p.2) (hN : ∀ q ∈ led c, q ∈ news) (hp : P c) : JoinQ h₀ L ps led P s .next { s with heap := h', toks := tk' } :=
  ⟨rfl, h', tk', m', c, rfl, F, fun q hq => N q (hN q hq), hm, hp⟩
theorem joinQ_K {σ : Type} {st : Stmt} {env : Env} {Q : Flow → Shared → Prop} (h₀ : Heap) (L : Addr) (ps : σ → List (Str × Value)) (led : σ → List (Addr × Obj)) (P : σ → Prop)
    (hw : wpAny (model prog w) A (exec st env) (JoinQ h₀ L ps led P s) E s)
    (k : ∀ c u h' tk', P c → Fr h₀ L h' (kstB u (ps c)) → News h₀ L h' (led c) → Q .next { s with heap := h', toks := tk' }) : wpAny (model prog w) A (exec st env) Q E s :=
  wpAny_mono hw (by rintro f s' ⟨rfl, h', tk', m', c, rfl, F, N, hm, hp⟩; exact k c m' h' tk' hp (fr_kst hm F) N) fun _ _ e => e
end
section
variable {h₀ : Heap} {L : Addr} {m : Str → Option Value}
theorem EndC.one {s₁ : Shared} {I C D D' : Addr} {oI oC oc ob : Obj} {ys : List Value} {src : Addr × Obj} {rest : Value → List (Addr × Obj) → Prop} {y : Value} {h' : Heap} {tk : Nat} {nw : List (Addr × Obj)}
    (F : Fr h₀ L h' m) (N : News h₀ L h' ((D', ob) :: (I, oI) :: (C, oC) :: (C + 1, oc) :: (D, LCg.lst ys) :: nw)) (o1 : LCg.Off1 D' ((I, oI) :: (C, oC) :: (C + 1, oc) :: (D, LCg.lst ys) :: nw)) (off : Apart I C D nw) (hs : src ∈ nw) (r : rest y ((D', ob) :: nw)) :
    EndC h₀ L m s₁ I oI C oC oc D ys src rest y { s₁ with heap := h', toks := tk } := by
  refine EndC.intro ((D', ob) :: nw) F N (fun p hp => ?_) (fun p hp => ?_) (.tail _ hs) r
  · rcases List.mem_cons.mp hp with rfl | hp
    · exact .tail _ (.head _)
    · rcases List.mem_cons.mp hp with rfl | hp
      · exact .tail _ (.tail _ (.head _))
      · rcases List.mem_cons.mp hp with rfl | hp
        · exact .tail _ (.tail _ (.tail _ (.head _)))
        · rcases List.mem_cons.mp hp with rfl | hp
          · exact .tail _ (.tail _ (.tail _ (.tail _ (.head _))))
          · rcases List.mem_cons.mp hp with rfl | hp
            · exact .head _
            · exact .tail _ (.tail _ (.tail _ (.tail _ (.tail _ hp))))
  · rcases List.mem_cons.mp hp with rfl | hp
    · exact ⟨Ne.symm o1.1, Ne.symm o1.2.1, Ne.symm o1.2.2.1, Ne.symm o1.2.2.2.1⟩
    · exact off p hp
end
end
section
open PySem PySem.W PyProof.Rows PySem.Calls PySem.Spec
theorem map_range0_get {f : Int → Int} {n : Nat} {k : Int} (h0 : 0 ≤ k) (h1 : k < (n : Int)) : ((rangeKs 1 n).map f)[k.toNat]? = some (f (k + 1)) := by
  have e := map_range_get (f := f) (n := n) (k := k + 1) (by omega) (by omega)
  rwa [show (k + 1 - 1).toNat = k.toNat from by congr 1; omega] at e
section
variable {prog : Program} {w : World} {A : Around} {E : Value → Shared → Prop} {s : Shared} {L t : Addr} {h₀ : Heap} {m : Str → Option Value} {news : List (Addr × Obj)} {Q : Value → Shared → Prop}
theorem colItem_K {value slice : Expr} {l : Addr} {ys : List Value} {f : Int → Int} {k : Int} {u : Tok} (N : News h₀ L s.heap news) (hm : (l, LCg.lst ys) ∈ news) (hi : IntsAre ys ((rangeKs 1 7).map f)) (h0 : 0 ≤ k) (h1 : k < 0 + ((7 : Nat) : Int))
    (h : ∀ v, Q (.int (f (k + 1)) v) s)
    (hs : subscripted slice false (.ref l) (.int k u) = operate [.ref l, .int k u] (getItem (.ref l) (.int k u)) := by with_unfolding_all rfl) :
    wpAny (model prog w) A (subscriptTail value slice (.ref l) (.int k u)) Q E s := by
  have hl : s.heap.IsList l ys.toArray := ⟨_, N.get hm, rfl, _, rfl⟩
  obtain ⟨t, e⟩ := ints_at hi (map_range0_get (f := f) h0 (by omega))
  exact tail_any hl.typeIs slot_list_getitem.lookup (wpAny_getItem_list hl (by omega) (by omega) (x := .int (f (k + 1)) t) (by simpa using e) (h t)) hs
end
end
section
open PySem PySem.W PyProof.Rows
/-- a row of law 3: its dots, and what follows them -/
abbrev Rw := Nat × Str
structure RowOk (q : Rw) : Prop where
  d3 : q.1 ≤ 3
  len : q.2.length ≤ 20
  dt : DT q.2.cps.toList
  tb : TabOr q.2.cps.toList
/-- its lead behind s sendings -/
def up (q : Rw) (s : Nat) : List Nat := List.replicate (if q.1 = 0 then 0 else q.1 + s) 46 ++ q.2.cps.toList
def rowP (q : Rw) (s : Nat) : List Nat := up q s ++ [97, 46]
def page3 (rs : List Rw) (s : Nat) : List Nat := evenP (rs.map fun q => rowP q s)
theorem up_dt {q : Rw} (h : RowOk q) (s : Nat) : DT (up q s) := dt_app (dots_dt _) h.dt
theorem rowP_plain {q : Rw} (h : RowOk q) (s : Nat) : Plain (rowP q s) ∧ rowP q s ≠ [] := by
  refine ⟨fun c hc => ?_, by simp [rowP]⟩
  rcases List.mem_append.mp hc with hc | hc
  · rcases up_dt h s c hc with rfl | rfl <;> decide
  · exact (show ∀ c ∈ [97, 46], c ≠ 10 ∧ c ≠ 13 by decide) c hc
theorem rows_plain3 {rs : List Rw} (h : ∀ q ∈ rs, RowOk q) (s : Nat) : ∀ p ∈ rs.map (fun q => rowP q s), Plain p ∧ p ≠ [] := by
  intro p hp
  obtain ⟨q, hq, rfl⟩ := List.mem_map.mp hp
  exact rowP_plain (h q hq) s
theorem dot_row3 {q : Rw} (h : RowOk q) (s : Nat) : addDot (rowP q s) = rowP q (s + 1) := by
  unfold rowP up
  by_cases e : q.1 = 0
  · rw [if_pos e, if_pos e]
    rcases h.tb with e2 | ⟨t, e2⟩ <;> rw [e2] <;> rfl
  · rw [if_neg e, if_neg e, show q.1 + s = (q.1 + s - 1) + 1 from by omega, show q.1 + (s + 1) = (q.1 + s - 1) + 1 + 1 from by omega, List.replicate_succ, List.replicate_succ, List.replicate_succ]
    rfl
theorem page3_fix {rs : List Rw} (h : ∀ q ∈ rs, RowOk q) (s : Nat) : fixL (page3 rs s) = page3 rs s := fix_even _ (rows_plain3 h s)
theorem page3_next {rs : List Rw} (h : ∀ q ∈ rs, RowOk q) (s : Nat) : dotL true (page3 rs s) = page3 rs (s + 1) := by
  unfold page3
  rw [dot_even _ (fun p hp => (rows_plain3 h s p hp).1), List.map_map]
  congr 1
  exact List.map_congr_left fun q hq => dot_row3 (h q hq) s
/-- the typed page -/
def Typ (rs : List Rw) (x : List Nat) : Prop := ∃ es : List (List Nat), es.length = rs.length ∧ (∀ e ∈ es, IsEnd e) ∧ x = typedP ((rs.map fun q => rowP q 0).zip es)
theorem typ_nil : Typ [] [] := ⟨[], rfl, (fun _ h => by cases h), rfl⟩
theorem typed_snoc : ∀ (l : List (List Nat × List Nat)) (p : List Nat × List Nat), typedP (l ++ [p]) = typedP l ++ (p.1 ++ p.2)
  | [], p => by simp [typedP]
  | q :: l, p => by
    show q.1 ++ (q.2 ++ typedP (l ++ [p])) = q.1 ++ (q.2 ++ typedP l) ++ (p.1 ++ p.2)
    rw [typed_snoc l p]; simp
theorem typ_snoc {rs : List Rw} {x e : List Nat} {q : Rw} (h : Typ rs x) (he : IsEnd e) : Typ (rs ++ [q]) (x ++ (rowP q 0 ++ e)) := by
  obtain ⟨es, hl, hes, rfl⟩ := h
  refine ⟨es ++ [e], by simp [hl], fun c hc => ?_, ?_⟩
  · rcases List.mem_append.mp hc with hc | hc
    · exact hes c hc
    · rw [List.mem_singleton.mp hc]; exact he
  · rw [List.map_append, List.zip_append (by simp [hl])]
    exact (typed_snoc ((rs.map fun q => rowP q 0).zip es) (rowP q 0, e)).symm
theorem typ_fix {rs : List Rw} {x : List Nat} (h : Typ rs x) (hr : ∀ q ∈ rs, RowOk q) : fixL x = page3 rs 0 := by
  obtain ⟨es, hl, hes, rfl⟩ := h
  rw [fix_typed]
  · rw [List.map_fst_zip (by simp [hl])]; rfl
  · rintro ⟨p, e⟩ hp
    exact rows_plain3 hr 0 p (List.of_mem_zip hp).1
  · rintro ⟨p, e⟩ hp
    exact hes e (List.of_mem_zip hp).2
theorem even_snoc : ∀ (l : List (List Nat)) (p : List Nat), evenP (l ++ [p]) = evenP l ++ (p ++ [13, 10])
  | [], p => by simp [evenP]
  | q :: l, p => by
    show q ++ 13 :: 10 :: evenP (l ++ [p]) = (q ++ 13 :: 10 :: evenP l) ++ (p ++ [13, 10])
    rw [even_snoc l p]; simp
theorem page3_snoc (rs : List Rw) (q : Rw) (s : Nat) : page3 (rs ++ [q]) s = page3 rs s ++ (rowP q s ++ [13, 10]) := by
  unfold page3
  rw [List.map_append]
  exact even_snoc _ _
theorem page3_split {rs : List Rw} {x : Str} {s : Nat} (h : ∀ q ∈ rs, RowOk q) (e : x.cps.toList = page3 rs s) : (Txt.split x (Str.ofString "\r\n")).map (·.cps.toList) = (rs.map fun q => rowP q s) ++ [[]] :=
  split_even (fun p hp => (rows_plain3 h s p hp).1) e
theorem row3_ws {x : Str} {q : Rw} {s : Nat} (h : RowOk q) (e : x.cps.toList = rowP q s) : wsOf (Txt.replace x (Str.ofString ".") (Str.ofString " ")) = SL (up q s) :=
  row_ws (r := [46]) (up_dt h s) (by decide) (by decide) (by decide) e
-- the columns
theorem col3_still {q : Rw} (h : q.1 = 0) (s n : Nat) : colD (up q s) n = col q.2 n := by
  unfold up; rw [if_pos h]; rfl
theorem col3_bare {q : Rw} (h : q.1 ≠ 0) (e : q.2.cps.toList = []) (s n : Nat) : colD (up q s) n = ((q.1 + s : Nat) : Int) := by
  unfold up; rw [if_neg h, e, List.append_nil, colD_dots]
theorem col3_tab {q : Rw} (h : q.1 ≠ 0) {t : List Nat} (e : q.2.cps.toList = 9 :: t) (s n : Nat) (hn : 1 ≤ n) : colD (up q s) n = n * (((q.1 + s) / n : Nat) : Int) + n + colD t n := by
  unfold up; rw [if_neg h, e, colD_lead _ _ hn]
theorem behind3 {q : Rw} {t : List Nat} (e : q.2.cps.toList = 9 :: t) (n : Int) : col (Txt.slice q.2 (some 1) none) n = colD t n := by
  rw [col_colD, slice1 q.2 e]
/-- the moves of a row with dots and a tab -/
def mv (n d : Nat) (b : Int) (s : Nat) : Int := n * (((d + s) / n : Nat) : Int) + n + b
theorem mv_first {n d : Nat} {b : Int} (hn : 1 ≤ n) : Int.fmod (mv n d b 0 - b) n = 0 := by
  have e : mv n d b 0 - b = (n : Int) * ((((d + 0) / n : Nat) : Int) + 1) := by unfold mv; rw [Int.mul_add, Int.mul_one]; omega
  rw [e, Int.fmod_eq_emod_of_nonneg _ (by omega), Int.mul_emod_right]
theorem div_step (x n : Nat) (hn : 1 ≤ n) : (x + 1) / n = x / n ∨ (x + 1) / n = x / n + 1 := by
  have h1 := Nat.div_add_mod x n
  have h2 := Nat.mod_lt x (show n > 0 by omega)
  by_cases e : x % n + 1 < n
  · left
    exact Nat.div_eq_of_lt_le (by rw [Nat.mul_comm]; omega) (by rw [Nat.add_mul, Nat.one_mul, Nat.mul_comm]; omega)
  · right
    exact Nat.div_eq_of_lt_le (by rw [Nat.add_mul, Nat.one_mul, Nat.mul_comm]; omega) (by rw [Nat.add_mul, Nat.add_mul, Nat.one_mul, Nat.mul_comm]; omega)
theorem mv_step {n d : Nat} {b : Int} (hn : 1 ≤ n) (s : Nat) : mv n d b (s + 1) - mv n d b s = 0 ∨ mv n d b (s + 1) - mv n d b s = n := by
  unfold mv
  rw [← Nat.add_assoc]
  rcases div_step (d + s) n hn with e | e <;> rw [e]
  · left; omega
  · right
    rw [show ((((d + s) / n + 1 : Nat)) : Int) = (((d + s) / n : Nat) : Int) + 1 from by omega, Int.mul_add, Int.mul_one]; omega
/-- so many quotients in a row come to the first number -/
def qsum (n : Nat) : Nat → Nat → Nat
  | _, 0 => 0
  | x, k + 1 => x / n + qsum n (x + 1) k
theorem qsum_last (n : Nat) : ∀ (k x : Nat), qsum n x (k + 1) = qsum n x k + (x + k) / n
  | 0, x => by simp [qsum]
  | k + 1, x => by
    show x / n + qsum n (x + 1) (k + 1) = x / n + qsum n (x + 1) k + (x + (k + 1)) / n
    rw [qsum_last n k (x + 1), show x + 1 + k = x + (k + 1) from by omega]; omega
theorem qsum_all {n : Nat} (hn : 1 ≤ n) : ∀ x : Nat, qsum n x n = x
  | 0 => by
    have : ∀ k x, x + k ≤ n → qsum n x k = 0 := by
      intro k
      induction k with
      | zero => intros; rfl
      | succ k ih => intro x hx; show x / n + qsum n (x + 1) k = 0; rw [ih (x + 1) (by omega), Nat.div_eq_of_lt (by omega)]
    exact this n 0 (by omega)
  | x + 1 => by
    have h1 := qsum_all hn x
    obtain ⟨m, rfl⟩ : ∃ m, n = m + 1 := ⟨n - 1, by omega⟩
    have h2 := qsum_last (m + 1) m (x + 1)
    have h3 : qsum (m + 1) x (m + 1) = x / (m + 1) + qsum (m + 1) (x + 1) m := rfl
    have h4 : (x + 1 + m) / (m + 1) = x / (m + 1) + 1 := by rw [show x + 1 + m = x + (m + 1) from by omega, Nat.add_div_right _ (by omega)]
    omega
/-- the columns over any so many sendings in a row as the size has columns -/
def csum (n d : Nat) (b : Int) : Nat → Nat → Int
  | _, 0 => 0
  | f, k + 1 => mv n d b f + csum n d b (f + 1) k
theorem csum_eq (n d : Nat) (b : Int) : ∀ (k f : Nat), csum n d b f k = n * ((qsum n (d + f) k : Nat) : Int) + k * (n + b)
  | 0, f => by simp [csum, qsum]
  | k + 1, f => by
    show mv n d b f + csum n d b (f + 1) k = n * ((((d + f) / n + qsum n (d + f + 1) k : Nat)) : Int) + ((k + 1 : Nat) : Int) * (n + b)
    rw [csum_eq n d b k (f + 1), show d + (f + 1) = d + f + 1 from by omega]
    unfold mv
    rw [show ((((d + f) / n + qsum n (d + f + 1) k : Nat)) : Int) = (((d + f) / n : Nat) : Int) + ((qsum n (d + f + 1) k : Nat) : Int) from by omega, show ((k + 1 : Nat) : Int) = (k : Int) + 1 from by omega]
    simp only [Int.mul_add, Int.add_mul, Int.one_mul]
    omega
theorem csum_all {n d : Nat} {b : Int} (hn : 1 ≤ n) (f : Nat) : csum n d b f n = n * (d + f + n + b) := by
  rw [csum_eq, qsum_all hn, ← Int.mul_add]
  congr 1
  omega
end
section
open PySem PySem.W PyProof.Rows PySem.Calls PySem.Spec
def repS (x : Str) (k : Nat) : Str := if k = 0 then Str.ofString "" else if k = 1 then x else x ++ x
theorem str_empty_len {x : Str} (h : x.length = 0) : x.cps.toList = [] := by
  rw [str_len] at h
  exact List.eq_nil_of_length_eq_zero h
theorem mul_rep {x : Str} {k : Nat} (hk : k ≤ 2) : Txt.mul x (k : Int) = repS x k := by
  have e0 : (Str.ofString "").cps.toList = [] := by decide +kernel
  unfold Txt.mul repS
  have : k = 0 ∨ k = 1 ∨ k = 2 := by omega
  rcases this with rfl | rfl | rfl
  · rw [if_pos (by decide), if_pos rfl]
    exact str_eq (by rw [e0]; rfl)
  · rw [if_neg (by decide), if_pos (by simp)]; rfl
  · rw [if_neg (by decide)]
    by_cases h : x.length = 0
    · rw [if_pos (by rw [h]; rfl), if_neg (by decide), if_neg (by decide)]
      exact str_eq (by rw [app_list, str_empty_len h]; rfl)
    · have hb : ¬ ((((2 : Nat) : Int) == 1 || x.length == 0) = true) := by simp only [Bool.or_eq_true, beq_iff_eq]; omega
      rw [if_neg hb, if_neg (by decide), if_neg (by decide)]
      refine str_eq ?_
      rw [app_list]
      simp [List.replicate]
section
variable {prog : Program} {w : World} {A : Around} {E : Value → Shared → Prop} {s : Shared} {Q : Value → Shared → Prop}
theorem mulTail_K {x : Str} {k : Nat} {t u : Tok} (hk : k ≤ 2) (hx : x.length ≤ 16) (h : ∀ t tk, Q (.str (repS x k) t) { s with toks := tk }) : wpAny (model prog w) A (binaryOp .Mult (.str x t) (.int (k : Int) u)) Q E s := by
  refine SB.mul (mulOk_of 16 1048576 hx (by omega) (by omega) (by decide) (by decide)) fun t' tk => ?_
  rw [mul_rep hk]; exact h t' tk
theorem mulLen_K {x : Str} {k : Nat} {t u : Tok} (hk : k ≤ 2) (hx : x.length ≤ 16) (h : ∀ t tk, Q (.str (repS x k) t) { s with toks := tk }) : wpAny (model prog w) A (binaryOp .Mult (.str x t) (.int (((dotS k).length : Nat) : Int) u)) Q E s := by
  rw [dotS_len]; exact mulTail_K hk hx h
theorem dots13_K {x : Int} {t u : Tok} (h : ∀ t tk (d : Nat), 1 ≤ d → d ≤ 3 → 1 + Int.fmod x 3 = (d : Int) → Q (.str (dotS d) t) { s with toks := tk }) : wpAny (model prog w) A (binaryOp .Mult (.str (Str.ofString ".") t) (.int (1 + Int.fmod x 3) u)) Q E s := by
  obtain ⟨d, hd, h1, h3⟩ := dot13 x
  exact dotN_K hd (by omega) fun t tk => h t tk d h1 h3 hd
end
theorem tab_len (k : Nat) : (Str.ofString "\t" ++ dotS k).length = 1 + k := by
  rw [Str.length_append, len_lit_tab, dotS_len]
/-- the four kinds of rows -/
theorem rowOk0 {d k : Nat} (hd : d ≤ 3) (hk : k ≤ 2) : RowOk (d, Str.ofString "\t" ++ dotS k) where
  d3 := hd
  len := by show (Str.ofString "\t" ++ dotS k).length ≤ 20; rw [tab_len]; omega
  dt := by show DT (Str.ofString "\t" ++ dotS k).cps.toList; rw [piece_list]; exact dt_tab (dots_dt k)
  tb := .inr ⟨_, piece_list k⟩
theorem rowOk1 {d k : Nat} (hd : d ≤ 3) (hk : k ≤ 2) : RowOk (d, Str.ofString "\t" ++ dotS k ++ Str.ofString "\t") where
  d3 := hd
  len := by show (Str.ofString "\t" ++ dotS k ++ Str.ofString "\t").length ≤ 20; rw [Str.length_append, tab_len, len_lit_tab]; omega
  dt := by
    show DT (Str.ofString "\t" ++ dotS k ++ Str.ofString "\t").cps.toList
    rw [app_list, piece_list, tab_eq]
    exact dt_app (dt_tab (dots_dt k)) (dt_tab (fun c hc => nomatch hc))
  tb := .inr ⟨_, by
    show (Str.ofString "\t" ++ dotS k ++ Str.ofString "\t").cps.toList = _
    rw [app_list, piece_list]; rfl⟩
theorem rowOk2 {d : Nat} (hd : d ≤ 3) : RowOk (d, Str.ofString "") where
  d3 := hd
  len := by show (Str.ofString "").length ≤ 20; rw [len_lit_e]; omega
  dt := by
    have e : (Str.ofString "").cps.toList = [] := by decide +kernel
    show DT (Str.ofString "").cps.toList
    rw [e]; exact fun c hc => nomatch hc
  tb := .inl (show (Str.ofString "").cps.toList = [] by decide +kernel)
theorem rowOk3 {d k : Nat} (hd : d ≤ 3) (hk : k ≤ 2) : RowOk (0, repS (Str.ofString "\t" ++ dotS d) k) := by
  have one : RowOk (0, Str.ofString "\t" ++ dotS d) :=
    { d3 := Nat.zero_le _
      len := by show (Str.ofString "\t" ++ dotS d).length ≤ 20; rw [tab_len]; omega
      dt := by show DT (Str.ofString "\t" ++ dotS d).cps.toList; rw [piece_list]; exact dt_tab (dots_dt d)
      tb := .inr ⟨_, piece_list d⟩ }
  have e : k = 0 ∨ k = 1 ∨ k = 2 := by omega
  rcases e with rfl | rfl | rfl
  · exact rowOk2 (by omega)
  · exact one
  · exact
    { d3 := Nat.zero_le _
      len := by show (Str.ofString "\t" ++ dotS d ++ (Str.ofString "\t" ++ dotS d)).length ≤ 20; rw [Str.length_append, tab_len]; omega
      dt := by
        show DT (Str.ofString "\t" ++ dotS d ++ (Str.ofString "\t" ++ dotS d)).cps.toList
        rw [app_list]; exact dt_app one.dt one.dt
      tb := .inr ⟨_, by
        show (Str.ofString "\t" ++ dotS d ++ (Str.ofString "\t" ++ dotS d)).cps.toList = _
        rw [app_list, piece_list]; rfl⟩ }
end
section
open PySem PySem.W PyProof.Rows PySem.Calls PySem.Spec
def mvI (n d : Nat) (b k : Int) : Int := mv n d b k.toNat
theorem mvI_first {n d : Nat} {b : Int} (hn : 1 ≤ n) : Int.fmod (mvI n d b 0 - b) n = 0 := mv_first hn
theorem mvI_step {n d : Nat} {b : Int} (hn : 1 ≤ n) (j : Nat) : mvI n d b (0 + (j : Int) + 1) - mvI n d b (0 + (j : Int)) = 0 ∨ mvI n d b (0 + (j : Int) + 1) - mvI n d b (0 + (j : Int)) = n := by
  have e1 : (0 + (j : Int) + 1).toNat = j + 1 := by omega
  have e2 : (0 + (j : Int)).toNat = j := by omega
  unfold mvI
  rw [e1, e2]
  exact mv_step hn j
theorem mv_bound {n d : Nat} {b : Int} (hn : n ≤ 4) (hd : d ≤ 3) (h0 : 0 ≤ b) (hb : b ≤ 100) {s : Nat} (hs : s ≤ 7) : 0 ≤ mv n d b s ∧ mv n d b s ≤ 1000 := by
  unfold mv
  have h1 : n * ((d + s) / n) ≤ d + s := Nat.mul_div_le _ _
  have h2 : (n : Int) * (((d + s) / n : Nat) : Int) = ((n * ((d + s) / n) : Nat) : Int) := by simp
  rw [h2]; omega
section
variable {prog : Program} {w : World} {A : Around} {E : Value → Shared → Prop} {s : Shared} {L t : Addr} {h₀ : Heap} {m : Str → Option Value} {news : List (Addr × Obj)} {Q : Value → Shared → Prop}
theorem item0_K {value slice : Expr} {l : Addr} {ys : List Value} {f : Int → Int} {k : Int} {u : Tok} (N : News h₀ L s.heap news) (hm : (l, LCg.lst ys) ∈ news) (hi : IntsAre ys ((rangeKs 0 7).map f)) (h0 : 0 ≤ k) (h1 : k < 7)
    (h : ∀ v, Q (.int (f k) v) s)
    (hs : subscripted slice false (.ref l) (.int k u) = operate [.ref l, .int k u] (getItem (.ref l) (.int k u)) := by with_unfolding_all rfl) :
    wpAny (model prog w) A (subscriptTail value slice (.ref l) (.int k u)) Q E s := by
  have hl : s.heap.IsList l ys.toArray := ⟨_, N.get hm, rfl, _, rfl⟩
  have e0 : ((rangeKs 0 7).map f)[k.toNat]? = some (f k) := by
    have : k.toNat < 7 := by omega
    have e : (0 : Int) + (k.toNat : Int) = k := by omega
    rw [rangeKs, List.map_map, List.getElem?_map, List.getElem?_range this]
    show some (f (0 + (k.toNat : Int))) = _
    rw [e]
  obtain ⟨t, e⟩ := ints_at hi e0
  exact tail_any hl.typeIs slot_list_getitem.lookup (wpAny_getItem_list hl (by omega) (by omega) (x := .int (f k) t) (by simpa using e) (h t)) hs
end
theorem any_two {n x : Int} (h : x = 0 ∨ x = n) (e : ([0, n].any fun y => y == x) = false) : False := by
  simp only [List.any_cons, List.any_nil, Bool.or_false, Bool.or_eq_false_iff, beq_eq_false_iff_ne] at e
  rcases h with h | h
  · exact e.1 h.symm
  · exact e.2 h.symm
theorem sum_mv (n d : Nat) (b : Int) : ∀ (k f : Nat), ((List.range k).map fun j => mv n d b (f + j)).sum = csum n d b f k
  | 0, _ => rfl
  | k + 1, f => by
    rw [List.range_succ_eq_map, List.map_cons, List.map_map, List.sum_cons]
    show mv n d b (f + 0) + _ = mv n d b f + csum n d b (f + 1) k
    rw [Nat.add_zero, ← sum_mv n d b k (f + 1)]
    congr 3
    funext j
    show mv n d b (f + (j + 1)) = mv n d b (f + 1 + j)
    congr 1; omega
theorem drop_take_mv (n d : Nat) (b : Int) {f k : Nat} (h : f + k ≤ 7) : ((((rangeKs 0 7).map fun x => mvI n d b x).drop f).take k) = (List.range k).map fun j => mv n d b (f + j) := by
  apply List.ext_getElem
  · simp [rangeKs]; omega
  · intro i h1 h2
    simp only [List.length_map, List.length_range] at h2
    simp only [List.getElem_take, List.getElem_drop, List.getElem_map, rangeKs, List.getElem_range]
    unfold mvI
    congr 1; omega
theorem sum_slice {n d j : Nat} {b : Int} (hn : 1 ≤ n) (h : j + n < 8) : (List.take (min (0 + (j : Int) + (n : Int)).toNat (List.map (fun k => mvI n d b k) (rangeKs 0 7)).length - (0 + (j : Int)).toNat) (List.drop (0 + (j : Int)).toNat (List.map (fun k => mvI n d b k) (rangeKs 0 7)))).sum = (n : Int) * ((d : Int) + (0 + (j : Int)) + (n : Int) + b) := by
  have e1 : (0 + (j : Int) + (n : Int)).toNat = j + n := by omega
  have e2 : (0 + (j : Int)).toNat = j := by omega
  have e3 : (List.map (fun k => mvI n d b k) (rangeKs 0 7)).length = 7 := by rw [List.length_map, rangeKs_length]
  rw [e1, e2, e3, show min (j + n) 7 - j = n from by omega, drop_take_mv n d b (by omega), sum_mv, csum_all hn, Int.zero_add]
end
section
open PySem PySem.W PyProof.Rows PySem.Calls PySem.Spec
section
variable {prog : Program} {w : World} {A : Around} {E : Value → Shared → Prop} {s : Shared} {Q : Value → Shared → Prop}
theorem replS_K {x : Str} {t u v : Tok} (hx : x.length ≤ 1000) (hu : 1 ≤ u) (huv : v = u + 1) (hn : 1 ≤ s.toks) (h : ∀ t' k, 1 ≤ k → Q (.str (Txt.replace x (Str.ofString ".") (Str.ofString " ")) t') { s with toks := k }) : wpAny (model prog w) A (call (.builtin "str.replace") [.str x t, .str (Str.ofString ".") u, .str (Str.ofString " ") v]) Q E s := by
  subst huv
  exact wpAny_with_toks hn (SC.replaceW (Nat.pos_iff_ne_zero.mp hu) (Nat.succ_ne_zero u) (Nat.ne_of_lt (Nat.lt_succ_self u)) (by decide +kernel) (by omega) (by decide +kernel) fun t' k ht => h t' k ht)
end
theorem pcl_ws3 {prog : Program} {w : World} {K : Frag} {p : Program} {loose : List Str} {mean : ExcName → Option Value} {mg mb : Str → Option Value} {C : Addr} {x : Str} {t : Tok} {dp un : Nat} {gd : Option (List Code)} {cn : Str} {cs : Scope} {a : Addr} {ccd : Value} {cl : List (Str × Addr)} {outer : List Env} {A₀ : Around} {base h₀ : Heap} {L : Addr} {m : Str → Option Value} {news : List (Addr × Obj)} {s : Shared} {Q E : Value → Shared → Prop} {wp : Params}
    (Cl : PCl prog w K p loose mean mg mb C [.str x t] (fun _ => x.length ≤ 2 ^ 15) (fun h v h' => ∃ o : WsO, v = .ref o.a ∧ o.σ = wsOf x ∧ o.Ok ∧ ∀ q ∈ o.led wp C, h'.get? q.1 = some q.2 ∧ h.get? q.1 = none))
    (B : Below A₀ base outer h₀) (F : Fr h₀ L s.heap m) (X : K.In h₀) (T : Top p loose mean mg mb h₀) (hk : cs.kind = .function) (N : News h₀ L s.heap news) (hp : x.length ≤ 2 ^ 15) (hd : dp + 8 < recursionLimit) (hu : un + 64 < cLine) (hn : 1 ≤ s.toks)
    (h : ∀ (o : WsO) h' tk', o.σ = wsOf x → o.Ok → ApLed (o.led wp C) news → 1 ≤ tk' → Fr h₀ L h' m → News h₀ L h' (o.led wp C ++ news) → Q (.ref o.a) { s with heap := h', toks := tk' }) :
    wpAny (model prog w) (ktrTop dp un gd cn cs L a ccd cl outer) (call (.ref C) [.str x t]) Q E s :=
  wpAny_with_toks hn (pcl_ws2 Cl B F X T hk N hp hd hu fun o h' tk' e1 e2 e3 e4 e5 ht => h o h' tk' e1 e2 e3 ht e4 e5)
end
section
open PySem PySem.W PyProof.Rows PySem.Calls PySem.Spec
abbrev tupO (d : Nat) (r : Str) (t1 t2 : Tok) (n : Nat) : Obj := { cls := .type "tuple", data := .seq #[.int (d : Int) t1, .str r t2] n }
/-- the rows' tuples -/
inductive RowsT (tups : List (Addr × Obj)) : List Value → List Rw → Prop where
  | nil : RowsT tups [] []
  | snoc {vs : List Value} {rs : List Rw} {p : Addr} {d : Nat} {r : Str} {t1 t2 : Tok} {n : Nat} : RowsT tups vs rs → (p, tupO d r t1 t2 n) ∈ tups → RowOk (d, r) → RowsT tups (vs ++ [.ref p]) (rs ++ [(d, r)])
theorem RowsT.mono {tups tups' : List (Addr × Obj)} {vs : List Value} {rs : List Rw} (h : RowsT tups vs rs) (hs : ∀ p ∈ tups, p ∈ tups') : RowsT tups' vs rs := by
  induction h with
  | nil => exact .nil
  | snoc _ hm hk ih => exact .snoc ih (hs _ hm) hk
theorem RowsT.length {tups : List (Addr × Obj)} {vs : List Value} {rs : List Rw} (h : RowsT tups vs rs) : vs.length = rs.length := by
  induction h with
  | nil => rfl
  | snoc _ _ _ ih => simp [ih]
theorem RowsT.ok {tups : List (Addr × Obj)} {vs : List Value} {rs : List Rw} (h : RowsT tups vs rs) : ∀ q ∈ rs, RowOk q := by
  induction h with
  | nil => exact fun _ h => nomatch h
  | snoc _ _ hk ih =>
    intro q hq
    rcases List.mem_append.mp hq with hq | hq
    · exact ih q hq
    · rw [List.mem_singleton.mp hq]; exact hk
theorem RowsT.get {tups : List (Addr × Obj)} {vs : List Value} {rs : List Rw} (h : RowsT tups vs rs) : ∀ {i : Nat} {v : Value}, vs[i]? = some v → ∃ p d r t1 t2 n, v = .ref p ∧ rs[i]? = some (d, r) ∧ RowOk (d, r) ∧ (p, tupO d r t1 t2 n) ∈ tups := by
  induction h with
  | nil => intro i v e; cases i <;> cases e
  | @snoc vs rs p d r t1 t2 n hr hm hk ih =>
    intro i v e
    have hl := hr.length
    by_cases hi : i < vs.length
    · rw [List.getElem?_append_left hi] at e
      obtain ⟨p', d', r', a, b, c, e1, e2, e3, e4⟩ := ih e
      exact ⟨p', d', r', a, b, c, e1, by rw [List.getElem?_append_left (by omega)]; exact e2, e3, e4⟩
    · have hi' : i = vs.length := by
        have := (List.getElem?_eq_some_iff.mp e).1
        simp at this; omega
      subst hi'
      rw [List.getElem?_append_right (Nat.le_refl _), Nat.sub_self] at e
      cases e
      exact ⟨p, d, r, t1, t2, n, rfl, by rw [hl, List.getElem?_append_right (Nat.le_refl _), Nat.sub_self]; rfl, hk, hm⟩
section
variable {prog : Program} {w : World} {A : Around} {E : Value → Shared → Prop} {s : Shared} {h₀ : Heap} {L : Addr} {m : Str → Option Value} {env : Env}
/-- a comprehension's turns by what holds between them -/
theorem RestL.ind {elt : Expr} {x : Str} {scope : Scope} {cl : List (Str × Addr)} {src : Addr × Obj} {vs : Array Value} {Fin : List Value → List (Addr × Obj) → Prop} {nw : List (Addr × Obj)} (Inv : Nat → List Value → List (Addr × Obj) → Prop) (h0 : Inv 0 [] nw)
    (turn : ∀ i ys nw, Inv i ys nw → ∀ v I oI C oC D m₂ h tk (E' : Value → Shared → Prop), vs[i]? = some v → LCg.NsObj oC m₂ → m₂ x = some v → Fr h₀ L h m → News h₀ L h ((I, oI) :: (C, oC) :: (D, LCg.lst ys) :: nw) → ApartL I C D nw →
      wpAny (model prog w) A (eval elt (compEnvC scope cl C env)) (EndL h₀ L m { s with heap := h, toks := tk + 1 } I oI C oC D ys src (fun y nw' => Inv (i + 1) (ys ++ [y]) nw')) E' { s with heap := h, toks := tk + 1 })
    (fin : ∀ ys nw, Inv vs.size ys nw → Fin ys nw) : RestL prog w A h₀ L m env elt x scope cl s src vs Fin vs.size 0 [] nw := by
  suffices key : ∀ k i ys nw, i + k = vs.size → Inv i ys nw → RestL prog w A h₀ L m env elt x scope cl s src vs Fin k i ys nw from key vs.size 0 [] nw (by omega) h0
  intro k
  induction k with
  | zero =>
    intro i ys nw hi hv
    obtain rfl : i = vs.size := by omega
    exact RestL.zero (fin ys nw hv)
  | succ k ih =>
    intro i ys nw hi hv
    refine RestL.succ fun v I oI C oC D m₂ h tk E' e1 e2 e3 F N off => ?_
    refine wpAny_mono (turn i ys nw hv v I oI C oC D m₂ h tk E' e1 e2 e3 F N off) (fun y s₂ hq => ?_) fun _ _ e => e
    obtain ⟨h', tk', nw', e, F', N', off', hs', hv'⟩ := hq
    exact ⟨h', tk', nw', e, F', N', off', hs', ih (i + 1) _ _ (by omega) hv'⟩
/-- a turn's end that lays one new object -/
theorem EndL.new {s₁ : Shared} {I C D p : Addr} {oI oC o : Obj} {ys : List Value} {src : Addr × Obj} {rest : Value → List (Addr × Obj) → Prop} {y : Value} {h h' : Heap} {tk : Nat} {nw : List (Addr × Obj)}
    (F₀ : Fr h₀ L h m) (N₀ : News h₀ L h ((I, oI) :: (C, oC) :: (D, LCg.lst ys) :: nw)) (st : h.StaysIn h') (hg : h'.get? p = some o) (hn : h.get? p = none) (off : ApartL I C D nw) (hs : src ∈ nw) (r : rest y ((p, o) :: nw)) :
    EndL h₀ L m s₁ I oI C oC D ys src rest y { s₁ with heap := h', toks := tk } := by
  have ap : ApLed [(p, o)] ((I, oI) :: (C, oC) :: (D, LCg.lst ys) :: nw) := fun q hq z hz e => by
    rw [List.mem_singleton.mp hq] at e
    have := (N₀ z hz).1
    have e' : p = z.1 := e
    rw [← e', hn] at this; cases this
  refine EndL.led [(p, o)] (fr_stays F₀ st) ?_ ap off hs r
  have N₁ := news_add (s := { s₁ with heap := h }) (led := [(p, o)]) F₀ N₀ st (fun q hq => by rw [List.mem_singleton.mp hq]; exact ⟨hg, hn⟩)
  exact N₁
end
theorem ints_mem {vs : List Value} {ns : List Int} (h : IntsAre vs ns) : ∀ {i : Nat} {v : Value}, vs[i]? = some v → ∃ k t, v = .int k t ∧ ns[i]? = some k := by
  induction h with
  | nil => intro i v e; cases i <;> cases e
  | cons n t _ ih =>
    intro i v e
    cases i with
    | zero => cases e; exact ⟨n, t, rfl, rfl⟩
    | succ i => exact ih (by simpa using e)
theorem num108 {zs : List Int} {i : Nat} {k : Int} (h : (List.map (fun k' => Int.fmod k' 108) (List.take 4 zs) ++ [0])[i]? = some k) : 0 ≤ k ∧ k < 108 := by
  have hm := List.mem_of_getElem? h
  rcases List.mem_append.mp hm with hm | hm
  · obtain ⟨z, _, rfl⟩ := List.mem_map.mp hm
    exact ⟨Int.fmod_nonneg_of_pos z (by decide), Int.fmod_lt_of_pos z (by decide)⟩
  · rw [List.mem_singleton.mp hm]; decide
theorem num_len {zs : List Int} {vs : List Value} (h : IntsAre vs (List.map (fun k' => Int.fmod k' 108) (List.take 4 zs) ++ [0])) : 1 ≤ vs.length ∧ vs.length ≤ 5 := by
  have e := h.length
  simp only [List.length_append, List.length_map, List.length_take, List.length_cons, List.length_nil] at e
  omega
section
variable {prog : Program} {w : World} {A : Around} {E : Value → Shared → Prop} {s : Shared} {h₀ : Heap} {L l : Addr} {news : List (Addr × Obj)} {Q : Value → Shared → Prop}
theorem lenLst_K {ys : List Value} (N : News h₀ L s.heap news) (hm : (l, LCg.lst ys) ∈ news) (hl : ys.length ≤ 1000) (h : Q (.int (ys.length : Int) (s.toks + 1)) { s with toks := s.toks + 1 + 1 }) :
    wpAny (model prog w) A (call (.builtin "len") [.ref l]) Q E s := by
  have hls : s.heap.IsList l ys.toArray := ⟨_, N.get hm, rfl, _, rfl⟩
  refine len_list hls (by rw [List.size_toArray]; omega) ?_
  rw [List.size_toArray]; exact h
end
end
section
open PySem PySem.W PyProof.Rows PySem.Calls PySem.Spec
theorem len_lit_ad : (Str.ofString "a.").length = 2 := by decide +kernel
theorem lst_ad : (Str.ofString "a.").cps.toList = [97, 46] := by decide +kernel
theorem len_lit_ar : (Str.ofString "a.\r\n").length = 4 := by decide +kernel
theorem lst_ar : (Str.ofString "a.\r\n").cps.toList = [97, 46, 13, 10] := by decide +kernel
theorem up0 (d : Nat) (r : Str) : up (d, r) 0 = List.replicate d 46 ++ r.cps.toList := by
  unfold up
  by_cases e : d = 0
  · subst e; rfl
  · rw [if_neg e]; rfl
theorem typ_turn {rs : List Rw} {i d : Nat} {r x e : Str} (h : Typ (rs.take i) x.cps.toList) (hi : rs[i]? = some (d, r)) (he : EndS e) : Typ (rs.take (i + 1)) (x ++ dotS d ++ r ++ Str.ofString "a." ++ e).cps.toList := by
  rw [List.take_add_one, hi]
  have := typ_snoc (q := (d, r)) h he.is
  have e2 : (x ++ dotS d ++ r ++ Str.ofString "a." ++ e).cps.toList = x.cps.toList ++ (rowP (d, r) 0 ++ e.cps.toList) := by
    simp only [app_list, lst_ad, dotS_list, rowP, up0, List.append_assoc]
  rw [e2]; exact this
theorem typ_0 {rs : List Rw} : Typ (rs.take 0) (Str.ofString "").cps.toList := by
  have e : (Str.ofString "").cps.toList = [] := by decide +kernel
  rw [e]; exact typ_nil
theorem typ_all {rs : List Rw} {x : List Nat} {n : Nat} (h : Typ (rs.take n) x) (hn : rs.length ≤ n) : Typ rs x := by rwa [List.take_of_length_le hn] at h
section
variable {prog : Program} {w : World} {A : Around} {E : Value → Shared → Prop} {s : Shared} {L t : Addr} {h₀ : Heap} {m : Str → Option Value} {news : List (Addr × Obj)} {Q : Value → Shared → Prop}
theorem itemV_K {value slice : Expr} {l : Addr} {vs : List Value} {v : Value} {n i : Nat} {k : Int} {u : Tok} (N : News h₀ L s.heap news) (hm : (l, PySem.W.listOf vs.toArray n) ∈ news) (hk : k = 0 + (i : Int)) (hv : vs[i]? = some v) (hi : i ≤ 1000) (h : Q v s)
    (hs : subscripted slice false (.ref l) (.int k u) = operate [.ref l, .int k u] (getItem (.ref l) (.int k u)) := by with_unfolding_all rfl) :
    wpAny (model prog w) A (subscriptTail value slice (.ref l) (.int k u)) Q E s := by
  subst hk
  have hl : s.heap.IsList l vs.toArray := ⟨_, N.get hm, rfl, _, rfl⟩
  exact tail_any hl.typeIs slot_list_getitem.lookup (wpAny_getItem_list hl (by omega) (by omega) (x := v) (by rw [show (0 + (i : Int)).toNat = i from by omega]; simpa using hv) h) hs
end
end
section
open PySem PySem.W PyProof.Rows PySem.Calls PySem.Spec
/-- the leads of one sending: a list of Whitespace objects, all in the ledger's tail -/
structure WsAt (P : Params) (C : Addr) (big : List (Addr × Obj)) (ws : List Value) (rs : List Rw) (s : Nat) : Prop where
  len : ws.length = rs.length
  item : ∀ (j : Nat) (q : Rw), rs[j]? = some q → ∃ o : WsO, ws[j]? = some (Value.ref o.a) ∧ o.Ok ∧ o.σ = SL (up q s) ∧ ∀ z ∈ o.led P C, z ∈ big
theorem WsAt.mono {P : Params} {C : Addr} {big big' : List (Addr × Obj)} {ws : List Value} {rs : List Rw} {s : Nat} (h : WsAt P C big ws rs s) (hs : ∀ z ∈ big, z ∈ big') : WsAt P C big' ws rs s :=
  ⟨h.len, fun j q hq => let ⟨o, a, b, c, d⟩ := h.item j q hq; ⟨o, a, b, c, fun z hz => hs z (d z hz)⟩⟩
theorem wsAt_nil (P : Params) (C : Addr) (big : List (Addr × Obj)) (s : Nat) : WsAt P C big [] [] s := ⟨rfl, fun j q h => by cases j <;> cases h⟩
theorem WsAt.snoc {P : Params} {C : Addr} {big : List (Addr × Obj)} {ws : List Value} {rs : List Rw} {s : Nat} {q : Rw} {o : WsO} (h : WsAt P C big ws rs s) (ok : o.Ok) (hσ : o.σ = SL (up q s)) (hl : ∀ z ∈ o.led P C, z ∈ big) : WsAt P C big (ws ++ [Value.ref o.a]) (rs ++ [q]) s := by
  refine ⟨by simp [h.len], fun j p hp => ?_⟩
  have hlen := h.len
  by_cases hj : j < rs.length
  · rw [List.getElem?_append_left hj] at hp
    obtain ⟨o', a, b, c, d⟩ := h.item j p hp
    exact ⟨o', by rw [List.getElem?_append_left (by omega)]; exact a, b, c, d⟩
  · have hj' : j = rs.length := by
      have := (List.getElem?_eq_some_iff.mp hp).1
      simp at this; omega
    subst hj'
    rw [List.getElem?_append_right (Nat.le_refl _), Nat.sub_self] at hp
    cases hp
    exact ⟨o, by rw [← hlen, List.getElem?_append_right (Nat.le_refl _), Nat.sub_self]; rfl, ok, hσ, hl⟩
/-- the leads of all sendings so far -/
structure LeadsAt (P : Params) (C : Addr) (big : List (Addr × Obj)) (vals : List Value) (rs : List Rw) (n : Nat) : Prop where
  len : vals.length = n
  item : ∀ s : Nat, s < n → ∃ (l : Addr) (ws : List Value), vals[s]? = some (Value.ref l) ∧ (l, LCg.lst ws) ∈ big ∧ WsAt P C big ws rs s
theorem leadsAt_0 (P : Params) (C : Addr) (big : List (Addr × Obj)) (rs : List Rw) : LeadsAt P C big [] rs 0 := ⟨rfl, fun s h => absurd h (by omega)⟩
theorem LeadsAt.mono {P : Params} {C : Addr} {big big' : List (Addr × Obj)} {vals : List Value} {rs : List Rw} {n : Nat} (h : LeadsAt P C big vals rs n) (hs : ∀ z ∈ big, z ∈ big') : LeadsAt P C big' vals rs n :=
  ⟨h.len, fun s hn => let ⟨l, ws, a, b, c⟩ := h.item s hn; ⟨l, ws, a, hs _ b, c.mono hs⟩⟩
theorem LeadsAt.snoc {P : Params} {C : Addr} {big : List (Addr × Obj)} {vals ws : List Value} {rs : List Rw} {n : Nat} {l : Addr} (h : LeadsAt P C big vals rs n) (hl : (l, LCg.lst ws) ∈ big) (hw : WsAt P C big ws rs n) : LeadsAt P C big (vals ++ [Value.ref l]) rs (n + 1) := by
  refine ⟨by simp [h.len], fun s hs => ?_⟩
  have hlen := h.len
  by_cases e : s < n
  · obtain ⟨l', ws', a, b, c⟩ := h.item s e
    exact ⟨l', ws', by rw [List.getElem?_append_left (by omega)]; exact a, b, c⟩
  · have e' : s = n := by omega
    subst e'
    exact ⟨l, ws, by rw [← hlen, List.getElem?_append_right (Nat.le_refl _), Nat.sub_self]; rfl, hl, hw⟩
-- the pages
theorem rowP_len {q : Rw} (h : RowOk q) (s : Nat) : (rowP q s).length ≤ 25 + s := by
  have h1 := h.d3
  have h2 := h.len
  rw [str_len] at h2
  unfold rowP up
  simp only [List.length_append, List.length_replicate, List.length_cons, List.length_nil]
  split <;> omega
theorem page3_len : ∀ {rs : List Rw} (s : Nat), (∀ q ∈ rs, RowOk q) → (page3 rs s).length ≤ rs.length * (27 + s)
  | [], _, _ => by simp [page3, evenP]
  | q :: rs, s, h => by
    have h1 := rowP_len (h q (.head _)) s
    have h2 := page3_len s (fun p hp => h p (.tail _ hp))
    show (rowP q s ++ 13 :: 10 :: page3 rs s).length ≤ (rs.length + 1) * (27 + s)
    rw [Nat.add_mul, List.length_append, List.length_cons, List.length_cons]
    omega
def Pg3I (rs : List Rw) (i : Nat) (p m : Str) : Prop := p.length ≤ 1000 ∧ (fixE p).cps.toList = page3 rs (i - 1) ∧ (i = 0 → m.cps.toList = page3 rs 0)
def Pg3M (rs : List Rw) (i : Nat) (p m : Str) : Prop := p.length ≤ 1000 ∧ (fixE p).cps.toList = page3 rs i ∧ m.cps.toList = page3 rs i
section
variable {rs : List Rw} {i : Nat} {p m : Str}
theorem pg3_0 (h : Typ rs p.cps.toList) (hr : ∀ q ∈ rs, RowOk q) (hl : p.length ≤ 250) : Pg3I rs 0 p (fixE p) := by
  have e : (fixE p).cps.toList = page3 rs 0 := by rw [fixE_list]; exact typ_fix h hr
  exact ⟨by omega, e, fun _ => e⟩
theorem pg3_stay (h : Pg3I rs i p m) (h0 : i = 0) : Pg3M rs i p m := by
  subst h0; exact ⟨h.1, h.2.1, h.2.2 rfl⟩
theorem pg3_send (hr : ∀ q ∈ rs, RowOk q) (hn : rs.length ≤ 5) (hi : i < 7) (h : Pg3I rs i p m) (h0 : 0 < i) : Pg3M rs i (dotE (fixE p)) (dotE (fixE p)) := by
  have e : (dotE (fixE p)).cps.toList = page3 rs i := by
    rw [dotE_list, h.2.1, page3_next hr, show i - 1 + 1 = i from by omega]
  refine ⟨?_, ?_, e⟩
  · rw [str_len, e]
    have h1 := page3_len i hr
    have h2 : rs.length * (27 + i) ≤ 5 * 33 := Nat.mul_le_mul hn (by omega)
    omega
  · rw [fixE_list, e, page3_fix hr]
theorem pg3_next (h : Pg3M rs i p m) : Pg3I rs (i + 1) p m := ⟨h.1, h.2.1, fun e => absurd e (by omega)⟩
theorem pg3_mlen (hr : ∀ q ∈ rs, RowOk q) (hn : rs.length ≤ 5) (hi : i < 7) (h : m.cps.toList = page3 rs i) : m.length ≤ 1000 := by
  rw [str_len, h]
  have h1 := page3_len i hr
  have h2 : rs.length * (27 + i) ≤ 5 * 33 := Nat.mul_le_mul hn (by omega)
  omega
/-- the told page, row by row -/
def Tld (rs : List Rw) (i j : Nat) (t : Str) : Prop := t.cps.toList = page3 (rs.take j) i ∧ t.length ≤ 50 * j
theorem tld_0 : Tld rs i 0 (Str.ofString "") := by
  have e : (Str.ofString "").cps.toList = [] := by decide +kernel
  exact ⟨by rw [e]; rfl, by rw [len_lit_e]; omega⟩
theorem tld_dots {j d : Nat} {r t : Str} (h : Tld rs i j t) (hj : rs[j]? = some (d, r)) (hd : 0 < d) (hd3 : d ≤ 3) (hi : i < 7) (hr : r.length ≤ 20) : Tld rs i (j + 1) (t ++ dotS (d + i) ++ r ++ Str.ofString "a.\r\n") := by
  refine ⟨?_, ?_⟩
  · rw [List.take_add_one, hj]
    show _ = page3 (rs.take j ++ [(d, r)]) i
    rw [page3_snoc, ← h.1]
    simp only [app_list, dotS_list, lst_ar, rowP, up]
    rw [if_neg (by omega)]
    simp
  · have := h.2
    simp only [Str.length_append, dotS_len, len_lit_ar]; omega
theorem tld_none {j d : Nat} {r t : Str} (h : Tld rs i j t) (hj : rs[j]? = some (d, r)) (hd : ¬ 0 < d) (hr : r.length ≤ 20) : Tld rs i (j + 1) (t ++ r ++ Str.ofString "a.\r\n") := by
  refine ⟨?_, ?_⟩
  · rw [List.take_add_one, hj]
    show _ = page3 (rs.take j ++ [(d, r)]) i
    rw [page3_snoc, ← h.1]
    simp only [app_list, lst_ar, rowP, up]
    rw [if_pos (by omega)]
    simp
  · have := h.2
    simp only [Str.length_append, len_lit_ar]; omega
theorem tld_all {n : Nat} {t : Str} (h : Tld rs i n t) (hn : rs.length ≤ n) (hm : m.cps.toList = page3 rs i) : m = t := by
  have e := h.1
  rw [List.take_of_length_le hn] at e
  exact str_eq (hm.trans e.symm)
end
structure St3 where
  p : Str
  tp : Tok
  m : Str
  tm : Tok
  arr : Array Value
  n : Nat
  big : List (Addr × Obj)
  od : Obj
def Far (l a b c d : Addr) (big : List (Addr × Obj)) : Prop := ∀ q ∈ big, q.1 ≠ l ∧ q.1 ≠ a ∧ q.1 ≠ b ∧ q.1 ≠ c ∧ q.1 ≠ d
theorem allLt_mem {d : Nat} : ∀ {l : List (Addr × Obj)}, AllLt d l → ∀ q ∈ l, @LT.lt Nat _ q.1 d
  | [], _, _, h => nomatch h
  | p :: r, a, q, h => by
    rcases List.mem_cons.mp h with rfl | h
    · exact a.1
    · exact allLt_mem a.2 q h
theorem le9 {d i : Nat} (h : d ≤ 3) (hi : i < 7) : d + i ≤ 1000 := by omega
end
section
open PySem PySem.W PyProof.Rows PySem.Calls
section
variable {prog : Program} {w : World} {A : Around} {E : Value → Shared → Prop} {s : Shared} {env : Env} {h₀ : Heap} {L : Addr} {target : Expr} {body : List Stmt} {Q : Flow → Shared → Prop}
theorem loopT_walks {I : Addr} {fp : List Addr} {n : Nat} {P : Nat → Value → Prop} {St : Nat → Heap → Prop} {m₀ : Str → Option Value} {news : List (Addr × Obj)} (J : Nat → (Str → Option Value) → List (Addr × Obj) → Prop)
    (hE : PassesOwn (model prog w) A env E) (W : Walks prog w A I fp [I] n P St) (hgo : ∀ i v (E' : Value → Shared → Prop) (s' : Shared) (Q' : Unit → Shared → Prop), i < n → P i v → St (i + 1) s'.heap → Q' () s' → wpAny (model prog w) A (letOwnedTupleGo target (.ref I) v) Q' E' s') (hL : L ≠ I) (hI : h₀.get? I = none) (hn : ∀ q ∈ news, q.1 ≠ I) (hst : St 0 s.heap)
    (hSt : ∀ i h, St i h → ∃ o, h.get? I = some o) (hfp : ∀ b ∈ fp, b = I ∨ ∃ o, ∀ i m₁ news₁, J i m₁ news₁ → (b, o) ∈ news₁)
    (F : Fr h₀ L s.heap m₀) (N : News h₀ L s.heap news) (hj : J 0 m₀ news)
    (turn : ∀ i v m₁ news₁ h tk io, i < n → P i v → J i m₁ news₁ → Fr h₀ L h m₁ → News h₀ L h ((I, io) :: news₁) → (∀ q ∈ news₁, q.1 ≠ I) →
      wpAny (model prog w) A (assign target env v) (fun _ s₂ => wpAny (model prog w) A (execs body env) (TurnPost h₀ L I io (J (i + 1)) { s with heap := h, toks := tk } Q) E s₂) E { s with heap := h, toks := tk })
    (done : ∀ m₁ news₁ h tk, J n m₁ news₁ → Fr h₀ L h m₁ → News h₀ L h news₁ → Q .next { s with heap := h, toks := tk }) :
    LoopC prog w A env target body Q E (.ref I) s := by
  unfold LoopC
  refine codeAny_forLoop_any (fun k s' => ∃ i h tk m₁ news₁, s' = { s with heap := h, toks := tk } ∧ St i h ∧ Fr h₀ L h m₁ ∧ News h₀ L h news₁ ∧ (∀ q ∈ news₁, q.1 ≠ I) ∧ J i m₁ news₁ ∧ i ≤ n ∧ k = n - i) ?_ n
    ⟨0, s.heap, s.toks, m₀, news, rfl, hst, F, N, hn, hj, Nat.zero_le _, rfl⟩
  rintro k s' ⟨i, h, tk, m₁, news₁, rfl, st, F₁, N₁, off, hJ, hi, rfl⟩
  have keep : ∀ h₁ : Heap, (∀ b o, b ∉ [I] → h.get? b = some o → h₁.get? b = some o) → Fr h₀ L h₁ m₁ ∧ News h₀ L h₁ news₁ := fun h₁ hk =>
    ⟨⟨F₁.ns.at' fun o e => hk _ o (fun hm => hL (List.mem_singleton.mp hm)) e, fun b o e => hk b o (fun hm => by rw [List.mem_singleton.mp hm, hI] at e; cases e) (F₁.keep b o e), F₁.above⟩,
      fun q hq => ⟨hk _ _ (fun hm => off q hq (List.mem_singleton.mp hm)) (N₁ q hq).1, (N₁ q hq).2⟩⟩
  by_cases hlt : i < n
  · refine W.item i _ _ _ hlt st fun v h₁ tk₁ hP st₁ hk₁ => ?_
    obtain ⟨F₂, N₂⟩ := keep h₁ hk₁
    obtain ⟨io, hio⟩ := hSt _ _ st₁
    have N₃ : News h₀ L h₁ ((I, io) :: news₁) := List.forall_mem_cons.mpr ⟨⟨hio, Ne.symm hL, hI⟩, N₂⟩
    refine hgo i v _ { s with heap := h₁, toks := tk₁ } _ hlt hP st₁ ?_
    refine wpAny_passesOwn hE (wpAny_mono (turn i v m₁ news₁ h₁ tk₁ io hlt hP hJ F₂ N₃ off) (fun _ s₂ h₂ => wpAny_passesOwn hE (wpAny_mono h₂ (fun f s₃ t => ?_) fun _ _ e => e)) fun _ _ e => e)
    have fin : TurnEnd h₀ L I io (J (i + 1)) { s with heap := h₁, toks := tk₁ } s₃ → ∃ m, m < n - i ∧ ∃ i h tk m₁ news₁, s₃ = { s with heap := h, toks := tk } ∧ St i h ∧ Fr h₀ L h m₁ ∧ News h₀ L h news₁ ∧ (∀ q ∈ news₁, q.1 ≠ I) ∧ J i m₁ news₁ ∧ i ≤ n ∧ m = n - i := by
      rintro ⟨h', tk', m', news', rfl, F', N', off', hJ'⟩
      refine ⟨n - (i + 1), by omega, i + 1, h', tk', m', news', rfl, ?_, F', fun q hq => N' q (.tail _ hq), off', hJ', hlt, rfl⟩
      refine W.frame _ _ _ st₁ fun b hb o e => ?_
      rcases hfp b hb with rfl | ⟨o₁, hm₁⟩
      · rw [hio] at e
        rw [← e]; exact (N' _ (.head _)).1
      · rw [(N₂ _ (hm₁ _ _ _ hJ)).1] at e
        rw [← e]; exact (N' _ (.tail _ (hm₁ _ _ _ hJ'))).1
    cases f with
    | next => exact fin t
    | cont => exact fin t
    | brk => exact t
    | ret v => exact t
  · have hin : i = n := by omega
    subst hin
    refine W.done _ _ _ st fun h₁ tk₁ hk₁ => wpAny_execs_nil ?_
    obtain ⟨F₂, N₂⟩ := keep h₁ hk₁
    exact done _ _ _ _ hJ F₂ N₂
theorem loopT_list {σ : Type} {elts : List Expr} {x1 : Nat} {pos : Pos} {ax : Addr} {ao : Obj} {vs : Array Value} {m₀ : Str → Option Value} {news : List (Addr × Obj)} (Led : σ → List (Addr × Obj)) (ps : σ → List (Str × Value)) (Inv : Nat → σ → Prop) (Fin : σ → Prop) (c₀ : σ)
    (hE : PassesOwn (model prog w) A env E) (hrefs : ∀ (i : Nat) (v : Value), vs[i]? = some v → ∃ T, v = Value.ref T) (hh : A.handled = none) (hao : ao.cls = .type "list" ∧ ∃ n, ao.data = .seq vs n)
    (F : Fr h₀ L s.heap m₀) (N : News h₀ L s.heap news) (hfx : ∀ c, (ax, ao) ∈ Led c) (hm : ∀ p ∈ ps c₀, m₀ p.1 = some p.2) (hN : ∀ p ∈ Led c₀, p ∈ news) (hi : Inv 0 c₀) (hfin : ∀ c, Inv vs.size c → Fin c)
    (turn : ∀ (i : Nat) v (c : σ) (u : Str → Option Value) h tk it io, vs[i]? = some v → Inv i c → Fr h₀ L h (kstB u (ps c)) → News h₀ L h ((it, io) :: Led c) → (∀ q ∈ Led c, q.1 ≠ it) →
      wpAny (model prog w) A (assign (.Tuple elts x1 pos) env v) (fun _ s₂ => wpAny (model prog w) A (execs body env) (TurnPostB h₀ L it io Led ps (Inv (i + 1)) Fin { s with heap := h, toks := tk } Q) E s₂) E { s with heap := h, toks := tk })
    (after : ∀ (c : σ) (u : Str → Option Value) h tk, Fin c → Fr h₀ L h (kstB u (ps c)) → News h₀ L h (Led c) → Q .next { s with heap := h, toks := tk }) :
    MyIterC prog w A env (.Tuple elts x1 pos) body Q E (.ref ax) s := by
  have hm0 := hN _ (hfx c₀)
  have hls : s.heap.IsList ax vs := ⟨ao, (N _ hm0).1, hao.1, hao.2⟩
  have hn : ∀ q ∈ Led c₀, q.1 ≠ s.heap.objs.size := fun q hq => Nat.ne_of_lt (Heap.lt_size (N q (hN q hq)).1)
  refine wpAny_pyIter_list hls ?_
  refine loopT_walks (s := { s with heap := s.heap.push _ }) (LJ Led ps Inv) hE (Walks.list (prog := prog) (w := w) hh s.heap.objs.size ax (hn _ (hfx c₀)) vs) (fun i v E' s' Q' _ hP st hQ => by obtain ⟨T, rfl⟩ := hrefs i v hP; exact wpAny_letOwnedTupleGo_listiter st.1 hQ) (Nat.ne_of_lt F.ns.lt) (next_is_new F) hn
    ⟨⟨_, Heap.get?_push_size _ rfl, rfl, rfl⟩, hls.at fun o e => Heap.get?_push_of_some _ e⟩ (fun _ _ st => let ⟨o, ho, _⟩ := st.1; ⟨o, ho⟩) (fun b hb => ?_) (F.push _) (fun p hp => ⟨Heap.get?_push_of_some _ (N p (hN p hp)).1, (N p (hN p hp)).2⟩) ⟨c₀, rfl, hm, hi⟩ ?_ ?_
  · rcases List.mem_cons.mp hb with rfl | hb
    · exact .inl rfl
    · rw [List.mem_singleton.mp hb]
      exact .inr ⟨ao, fun i m₁ _ ⟨c, e, _⟩ => e ▸ hfx c⟩
  · rintro i v m₁ _ h tk io hlt hP ⟨c, rfl, hm', hi'⟩ F₁ N₁ hq
    exact wpAny_mono (turn i v c m₁ h tk _ io hP hi' (fr_kst hm' F₁) N₁ hq) (fun _ s₂ h₂ => wpAny_mono h₂ (fun f s₃ t => postB after t) fun _ _ e => e) fun _ _ e => e
  · rintro m₁ _ h tk ⟨c, rfl, hm', hi'⟩ F₁ N₁
    exact after c m₁ h tk (hfin c hi') (fr_kst hm' F₁) N₁
end
end
section
open PySem PySem.W PyProof.Rows PySem.Calls PySem.Spec
/-- the rows of a page as values -/
structure RowsV (vs : List Value) (rs : List Rw) (s : Nat) : Prop where
  len : vs.length = rs.length + 1
  item : ∀ (j : Nat) (q : Rw), rs[j]? = some q → ∃ (x : Str) (t : Tok), vs[j]? = some (Value.str x t) ∧ x.cps.toList = rowP q s
theorem getElem?_of_map {α β : Type} {f : α → β} {l : List α} {j : Nat} {b : β} (h : (l.map f)[j]? = some b) : ∃ a, l[j]? = some a ∧ f a = b := by
  rw [List.getElem?_map] at h
  cases e : l[j]? with
  | none => rw [e] at h; cases h
  | some a => rw [e] at h; exact ⟨a, rfl, Option.some.inj h⟩
theorem rowsV_of {l : List (Str × Tok)} {rs : List Rw} {s : Nat} {m : Str} (e : l.map (·.1) = Txt.split m (Str.ofString "\r\n")) (hs : (Txt.split m (Str.ofString "\r\n")).map (·.cps.toList) = (rs.map fun q => rowP q s) ++ [[]]) : RowsV (strValues l) rs s := by
  rw [← e, List.map_map] at hs
  have hl : l.length = rs.length + 1 := by
    have := congrArg List.length hs
    simpa using this
  refine ⟨?_, fun j q hq => ?_⟩
  · have : (strValues l).length = l.length := by simp [strValues]
    omega
  · have hj : j < rs.length := (List.getElem?_eq_some_iff.mp hq).1
    have h1 : ((rs.map fun q => rowP q s) ++ [[]])[j]? = some (rowP q s) := by
      rw [List.getElem?_append_left (by simpa using hj), List.getElem?_map, hq]; rfl
    rw [← hs] at h1
    obtain ⟨⟨x, t⟩, h2, h3⟩ := getElem?_of_map h1
    refine ⟨x, t, ?_, h3⟩
    unfold strValues
    rw [List.getElem?_map, h2]; rfl
section
variable {prog : Program} {w : World} {A : Around} {E : Value → Shared → Prop} {s : Shared} {L l : Addr} {h₀ : Heap} {m : Str → Option Value} {news : List (Addr × Obj)} {Q : Value → Shared → Prop} {value slice : PySem.Expr} {vl vu : Value}
theorem rows3_K {x : Str} {rs : List Rw} {i : Nat} {t u : Tok} (F : Fr h₀ L s.heap m) (N : News h₀ L s.heap news) (hm : x.cps.toList = page3 rs i) (hok : ∀ q ∈ rs, RowOk q) (hl : x.length ≤ 1000)
    (h : ∀ D vs h' tk', RowsV vs rs i → Fr h₀ L h' m → News h₀ L h' ((D, PySem.W.listOf vs.toArray 0) :: news) → (∀ p ∈ news, p.1 < D) → Q (.ref D) { s with heap := h', toks := tk' }) :
    wpAny (model prog w) A (call (.builtin "str.split") [.str x t, .str (Str.ofString "\r\n") u]) Q E s := by
  refine KSpl.split1 F N (by decide +kernel) (fun D l h' tk' e _ F' N' lt => ?_) (by rw [sizeLine_eq]; omega)
  exact h D _ h' tk' (rowsV_of e (page3_split hok hm)) F' N' lt
theorem sliceTake_K {vs : List Value} {y : Int} {n : Nat} (hy : y = (n : Int)) (hn : n ≤ vs.length) (hz : vs.length ≤ 1000) (F : Fr h₀ L s.heap m) (N : News h₀ L s.heap news) (hm : (l, PySem.W.listOf vs.toArray 0) ∈ news) (pl : IsPart vl none) (pu : IsPart vu (some y))
    (h : ∀ D h', Fr h₀ L h' m → News h₀ L h' ((D, PySem.W.listOf (vs.take n).toArray 0) :: news) → (∀ p ∈ news, p.1 < D) → Q (.ref D) { s with heap := h' })
    (hs : subscripted slice false (.ref l) (.ref s.heap.objs.size) = operate [.ref s.heap.objs.size, .ref l] (getItem (.ref l) (.ref s.heap.objs.size))) (ht : ∀ r, letTemporaryGo value (.ref l) r = pure ()) :
    wpAny (model prog w) A (subscriptTail value slice (.ref l) (.ref s.heap.objs.size)) Q E { s with heap := s.heap.push { cls := .type "slice", data := .fields #[vl, vu, .none] } } := by
  subst hy
  have hl : s.heap.IsList l vs.toArray := ⟨_, N.get hm, rfl, _, rfl⟩
  refine kmk_slice F N hl pl pu (fun D h' F' N' l1 => h D h' F' ?_ l1) hs ht (by rw [sizeLine_eq, List.size_toArray]; omega)
  have e : sliceBounds none (some (n : Int)) none vs.toArray.size = (((0 : Nat) : Int), ((n : Nat) : Int), 1) := by
    simp only [sliceBounds, Option.getD_none, show (1 : Int) > 0 by decide, if_true, if_neg (show ¬ ((n : Int) < 0) by omega)]
    congr 1
    congr 1
    rw [List.size_toArray]; omega
  rw [kmk_pick_nat vs.toArray e] at N'
  simpa using N'
end
end
section
open PySem PySem.W PyProof.Rows PySem.Calls PySem.Spec
theorem EndL.put {h₀ : Heap} {L : Addr} {m : Str → Option Value} {s₁ : Shared} {I C D : Addr} {oI oC : Obj} {ys : List Value} {src : Addr × Obj} {rest : Value → List (Addr × Obj) → Prop} {y : Value} {h' : Heap} {tk : Nat} {E9 lg big : List (Addr × Obj)} (led : List (Addr × Obj))
    (F : Fr h₀ L h' m) (N : News h₀ L h' (led ++ (I, oI) :: (C, oC) :: (D, LCg.lst ys) :: (E9 ++ (lg ++ big)))) (ap : ApLed led ((I, oI) :: (C, oC) :: (D, LCg.lst ys) :: (E9 ++ (lg ++ big)))) (off : ApartL I C D (E9 ++ (lg ++ big))) (hs : src ∈ E9) (r : rest y (E9 ++ ((led ++ lg) ++ big))) :
    EndL h₀ L m s₁ I oI C oC D ys src rest y { s₁ with heap := h', toks := tk } := by
  refine ⟨h', tk, E9 ++ ((led ++ lg) ++ big), rfl, F, fun p hp => ?_, fun p hp => ?_, List.mem_append_left _ hs, r⟩
  · refine N p ?_
    rcases List.mem_cons.mp hp with rfl | hp
    · exact List.mem_append_right _ (.head _)
    · rcases List.mem_cons.mp hp with rfl | hp
      · exact List.mem_append_right _ (.tail _ (.head _))
      · rcases List.mem_cons.mp hp with rfl | hp
        · exact List.mem_append_right _ (.tail _ (.tail _ (.head _)))
        · rcases List.mem_append.mp hp with hp | hp
          · exact List.mem_append_right _ (.tail _ (.tail _ (.tail _ (List.mem_append_left _ hp))))
          · rcases List.mem_append.mp hp with hp | hp
            · rcases List.mem_append.mp hp with hp | hp
              · exact List.mem_append_left _ hp
              · exact List.mem_append_right _ (.tail _ (.tail _ (.tail _ (List.mem_append_right _ (List.mem_append_left _ hp)))))
            · exact List.mem_append_right _ (.tail _ (.tail _ (.tail _ (List.mem_append_right _ (List.mem_append_right _ hp)))))
  · have one : ∀ p ∈ led, p.1 ≠ I ∧ p.1 ≠ C ∧ p.1 ≠ D := fun p hp => ⟨ap p hp _ (.head _), ap p hp _ (.tail _ (.head _)), ap p hp _ (.tail _ (.tail _ (.head _)))⟩
    rcases List.mem_append.mp hp with hp | hp
    · exact off p (List.mem_append_left _ hp)
    · rcases List.mem_append.mp hp with hp | hp
      · rcases List.mem_append.mp hp with hp | hp
        · exact one p hp
        · exact off p (List.mem_append_right _ (List.mem_append_left _ hp))
      · exact off p (List.mem_append_right _ (List.mem_append_right _ hp))
theorem far_nil (l a b c d : Addr) : Far l a b c d [] := fun _ h => nomatch h
theorem far_app {l a b c d : Addr} {x y : List (Addr × Obj)} (h1 : Far l a b c d x) (h2 : Far l a b c d y) : Far l a b c d (x ++ y) := fun q hq => (List.mem_append.mp hq).elim (h1 q) (h2 q)
theorem far_led {l a b c d : Addr} {o1 o2 o3 o4 o5 : Obj} {led nw : List (Addr × Obj)} (ap : ApLed led nw) (h1 : (l, o1) ∈ nw) (h2 : (a, o2) ∈ nw) (h3 : (b, o3) ∈ nw) (h4 : (c, o4) ∈ nw) (h5 : (d, o5) ∈ nw) : Far l a b c d led :=
  fun q hq => ⟨ap q hq _ h1, ap q hq _ h2, ap q hq _ h3, ap q hq _ h4, ap q hq _ h5⟩
theorem news_sub {h₀ h : Heap} {L : Addr} {nw nw' : List (Addr × Obj)} (N : News h₀ L h nw) (hs : ∀ q ∈ nw', q ∈ nw) : News h₀ L h nw' := fun q hq => N q (hs q hq)
section
variable {prog : Program} {w : World} {A : Around} {E : Value → Shared → Prop} {s : Shared} {L t : Addr} {h₀ : Heap} {m : Str → Option Value} {news : List (Addr × Obj)} {Q : Value → Shared → Prop}
theorem neSelf_K {x : Str} {t u : Tok} (h : Q (.bool false) s) : wpAny (model prog w) A (compareOp .NotEq (.str x t) (.str x u)) Q E s :=
  ne_str (by
    have e : (x != x) = false := by simp
    rw [e]; exact h)
theorem itemA_K {value slice : Expr} {l : Addr} {arr : Array Value} {v : Value} {n : Nat} {k : Int} {u : Tok} (N : News h₀ L s.heap news) (hm : (l, PySem.W.listOf arr n) ∈ news) (h0 : 0 ≤ k) (h1 : k < 0 + ((7 : Nat) : Int)) (hv : arr.toList[k.toNat]? = some v) (h : Q v s)
    (hs : subscripted slice false (.ref l) (.int k u) = operate [.ref l, .int k u] (getItem (.ref l) (.int k u)) := by with_unfolding_all rfl) :
    wpAny (model prog w) A (subscriptTail value slice (.ref l) (.int k u)) Q E s := by
  have hl : s.heap.IsList l arr := ⟨_, N.get hm, rfl, _, rfl⟩
  exact tail_any hl.typeIs slot_list_getitem.lookup (wpAny_getItem_list hl h0 (by omega) (x := v) (by simpa using hv) h) hs
end
end
section
open PySem PySem.W PyProof.Rows
open_top hd3 for PySem.Challenge.rw_pe0140_03
end
section
open PySem PySem.W PyProof.Rows
local macro_rules | `(tactic| walk_at "getMethod ref") => `(tactic| (k_here; k_dflt (refine' patMeth_K ?k1 ?k2 ?_; (case k1 => k_asm); (case k2 => refine' patK ?h0 ?h1 ?h5 ?h2 ?h6 ?h7 ?h8; (case h0 => k_asm); (case h1 => k_is); (case h5 => rfl); (case h2 => k_is); (case h6 => rfl); (case h7 => rfl); (case h8 => first | rfl | decide +kernel)); k_whole)))
local macro_rules | `(tactic| walk_at "call builtin:re.Pattern.sub") => `(tactic| (k_here; k_dflt (first
  | (refine' sub2_K ?k1 ?k2 ?k3 ?k4 ?k5 ?_; (case k1 => k_asm); (case k2 => k_asm); (case k3 => refine' patK ?h0 ?h1 ?h5 ?h2 ?h6 ?h7 ?h8; (case h0 => k_asm); (case h1 => k_is); (case h5 => rfl); (case h2 => k_is); (case h6 => rfl); (case h7 => rfl); (case h8 => first | rfl | decide +kernel)); (case k4 => rfl); (case k5 => first | omega | (have hFx := fixE_len; omega)); k_whole)
  | (refine' sub1_K ?k1 ?k2 ?k3 ?k4 ?k5 ?_; (case k1 => k_asm); (case k2 => k_asm); (case k3 => refine' patK ?h0 ?h1 ?h5 ?h2 ?h6 ?h7 ?h8; (case h0 => k_asm); (case h1 => k_is); (case h5 => rfl); (case h2 => k_is); (case h6 => rfl); (case h7 => rfl); (case h8 => first | rfl | decide +kernel)); (case k4 => rfl); (case k5 => first | omega | exact Nat.le_trans (fixE_len _) (by omega)); k_whole)); intro h' tk' t' F' N'; (try k_sweep)))
theorem fixClaim (w : World) (loose mean) (mg mb) (news) (x : Str) (t : Tok)  :
  CbClaim PySem.Challenge.rw_pe0140_03.row.prog w (hd3.heap_39 w.params) hd3.view_39 loose mean mg mb 128 news [] (x.length ≤ 2 ^ 15) [.str x t] (fun t => .str (fixE x) t) := by
  k_fill
  dsimp only [CbClaim, CbLists, CbRet]; intros; rename_i hret
  refine wpAny_call ?_
  k_dflt cell_enter
  k_steps
  all_goals cb_end hret
theorem quoteClaim (w : World) (loose mean) (mg mb) (news) (x : Str) (t : Tok)  :
  CbClaim PySem.Challenge.rw_pe0140_03.row.prog w (hd3.heap_39 w.params) hd3.view_39 loose mean mg mb 121 news [] (x.length ≤ 2 ^ 15) [.str x t] (fun t => .str (dotE (fixE x)) t) := by
  k_fill
  dsimp only [CbClaim, CbLists, CbRet]; intros; rename_i hret
  refine wpAny_call ?_
  k_dflt cell_enter
  k_steps
  all_goals cb_end hret
end
section
open PySem PySem.W PyProof.Rows
theorem colClaim (w : World) (loose mean) (mg mb) (news) (x : Str) (t : Tok) (n : Int) (u : Tok)  :
  CbClaim PySem.Challenge.rw_pe0140_03.row.prog w (hd3.heap_39 w.params) hd3.view_39 loose mean mg mb 135 news [] (1 ≤ n ∧ n ≤ 100 ∧ x.length ≤ 2 ^ 15) [.str x t, .int n u] (fun t => .int (col x n) t) := by
  k_fill
  k_with_none
  k_with "pyIter str" => k_state (fun pre at_ => at_ = colL pre n ∧ 0 ≤ at_ ∧ at_ ≤ 100 * (pre.length : Int)) "at"
  k_with "state" => first | exact col_start _ | exact col_tab (by assumption) (by assumption) (by assumption) (by assumption) (by assumption) | exact col_other (by assumption) (by assumption) (by assumption) (by assumption)
  k_with "tree" => simp only [col]
  dsimp only [CbClaim, CbLists, CbRet]; intros; rename_i hret
  refine wpAny_call ?_
  k_dflt cell_enter
  k_steps
  all_goals cb_end hret
end
section
open PySem PySem.W PyProof.Rows
local macro_rules | `(tactic| walk_at "my init") => `(tactic| (
  refine' call_initP ?k1 ?k2 ?h1 ?h2 ?h3 ?k6 ?k7 ?k8 ?k9 ?kB ?_ ?c2 ?c3 ?c4 ?c5
  (case k1 => k_asm)
  (case k2 => k_asm)
  (case h1 => k_is)
  (case h2 => k_is)
  (case h3 => k_is)
  (case k6 => k_is)
  (case k7 => k_is)
  (case k8 => ktr_room)
  (case k9 => exact fun _ _ => BindsTo.of_eq rfl)
  (case c5 => decide)
  (case kB => exact fun _ => locs rfl)
  (case c2 => exact rfl)
  (case c3 => exact rfl)
  (case c4 => exact rfl)))
local macro_rules | `(tactic| walk_at "exec For") => `(tactic| (k_here; (rename Fr _ _ _ _ => lF'); (with_unfolding_all refine' For_invVF lF' ?k1 ?k2 ?_; (case k1 => exact rfl); (case k2 => exact rfl); k_whole)))
theorem wsClaim (w : World) (loose mean) (mg mb) (x : Str) (t : Tok)  :
  PCl PySem.Challenge.rw_pe0140_03.row.prog w (hd3.heap_39 w.params) hd3.view_39 loose mean mg mb 100 [.str x t] (fun _ => x.length ≤ 2 ^ 15) (fun h v h' => ∃ o : WsO, v = .ref o.a ∧ o.σ = wsOf x ∧ o.Ok ∧ ∀ q ∈ o.led w.params 100, h'.get? q.1 = some q.2 ∧ h.get? q.1 = none) := by
  k_fill
  k_with_none
  intro dp un gd cn cs a ccd cl outer A₀ base h₀ L m s Q E B F X T hk hp hd hu hret
  have BG := belowP (A := ktrTop dp un gd cn cs L a ccd cl outer) (env := envX cn cs L a ccd cl) B F rfl rfl hk
  have XG := X.keeps F.keep
  have TG := T.keeps F.keep
  clear X T F B
  k_dflt (walk_at "my init")
  intro L' h₁ x' d' tk0 F' N' l1 l2; replace l1 := ltN l1; replace l2 := ltN l2
  (try dsimp only)
  (try k_fold)
  k_steps
  refine' loop_strB (σ := Addr × List Value × Nat × WsS × Tok × Tok × Tok) (fun c => [(c.1, listOf c.2.1.toArray c.2.2.1)]) [(x', instObj 100 d'), (d', dictOf [⟨_, .str (Str.ofString "raw") _, .str x t⟩] 1)]
    (fun c => [(Str.ofString "count", .ref c.1), (Str.ofString "b", .int (c.2.2.2.1.b : Int) c.2.2.2.2.1), (Str.ofString "n", .int (c.2.2.2.1.n : Int) c.2.2.2.2.2.1), (Str.ofString "nt", .int (c.2.2.2.1.nt : Int) c.2.2.2.2.2.2)])
    [(Str.ofString "S", .str (Str.ofString " ") _), (Str.ofString "T", .str (Str.ofString "\t") _), (Str.ofString "self", .ref x')]
    (fun i c => IntsAre c.2.1 c.2.2.2.1.cnt ∧ wsPre ws0 (x.cps.toList.take i) = some c.2.2.2.1 ∧ c.1 ≠ x' ∧ c.1 ≠ d')
    (fun c => IntsAre c.2.1 c.2.2.2.1.cnt ∧ wsOf x = c.2.2.2.1 ∧ WsSm (2 ^ 15) c.2.2.2.1 ∧ c.1 ≠ x' ∧ c.1 ≠ d')
    (_, [], _, ws0, _, _, _) rfl ?kF ?kN ?hm ?hN ?hi ?hfin ?turn ?after
  (case kF => k_asm)
  (case kN => k_asm)
  case hm =>
    dsimp only [List.cons_append, List.nil_append]
    (repeat' (refine' List.forall_mem_cons.mpr ⟨?_, ?_⟩)) <;> first | exact List.forall_mem_nil _ | (with_unfolding_all exact rfl)
  case hN =>
    dsimp only [List.cons_append, List.nil_append]
    (repeat' (refine' List.forall_mem_cons.mpr ⟨?_, ?_⟩)) <;> first | exact List.forall_mem_nil _ | k_mem
  case hi =>
    refine ⟨.nil, rfl, ?_, ?_⟩ <;> (dsimp only; refine neN ?_; omega)
  case hfin =>
    rintro ⟨l, vs, nn, σ, tb, tn, tnt⟩ ⟨hI, hpre, hl1, hl2⟩
    have hx : x.cps.size ≤ 2 ^ 15 := hp
    have hB := wsB_pre _ 0 ws0 σ wsB_0 hpre
    exact ⟨hI, run_end hpre, wsSm_of hB (by simp; omega), hl1, hl2⟩
  case turn =>
    rintro i ch tc ⟨l, vs, nn, σ, tb, tn, tnt⟩ u h tk it io hc ⟨hI, hpre, hl1, hl2⟩ F₁ N₁ hq
    dsimp only [List.cons_append, List.nil_append, kstB] at F₁ N₁ hq hI hpre hl1 hl2
    have hq1 := neN (hq _ (.head _))
    have hq2 := neN (hq _ (.tail _ (.head _)))
    have hq3 := neN (hq _ (.tail _ (.tail _ (.head _))))
    replace hl1 := neN hl1
    replace hl2 := neN hl2
    dsimp only at hq1 hq2 hq3
    replace F₁ : Fr s.heap L' h _ := F₁
    replace N₁ : News s.heap L' h _ := N₁
    rename Fr _ _ _ _ => Fl
    k_sweep
    have hi : i < x.cps.size := by
      rcases Nat.lt_or_ge i x.cps.size with h | h
      · exact h
      · rw [Array.getElem?_eq_none h] at hc; cases hc
    have hx : x.cps.size ≤ 2 ^ 15 := hp
    have hB := wsB_pre _ 0 ws0 σ wsB_0 hpre
    have htl : (x.cps.toList.take i).length = i := by simp; omega
    rw [htl] at hB
    have hS : WsSm (2 ^ 15) σ := wsSm_of hB (by omega)
    obtain ⟨hB1, hB2, hB3, hB4⟩ := hB
    have hvl := hI.length
    clear htl
    k_steps
    · (try dsimp only)
      refine' turnB_next (l, vs, nn, ⟨σ.cnt, σ.b + 1, σ.n + 1, σ.nt⟩, _, _, tnt) ?kF1 ?kN1 ?hm1 ?hN1 ?hne1 ?hi1
      (case kF1 => k_asm)
      (case kN1 => k_asm)
      case hm1 =>
        dsimp only [List.cons_append, List.nil_append]
        (repeat' (refine' List.forall_mem_cons.mpr ⟨?_, ?_⟩)) <;> first | exact List.forall_mem_nil _ | (with_unfolding_all exact rfl)
      case hN1 =>
        dsimp only [List.cons_append, List.nil_append]
        (repeat' (refine' List.forall_mem_cons.mpr ⟨?_, ?_⟩)) <;> first | exact List.forall_mem_nil _ | k_mem
      case hne1 =>
        dsimp only [List.cons_append, List.nil_append]
        (repeat' (refine' List.forall_mem_cons.mpr ⟨?_, ?_⟩)) <;> first | exact List.forall_mem_nil _ | k_ne
      case hi1 => exact ⟨hI, pre_next hc hpre (step_space (by assumption)), hl1, hl2⟩
    · (try dsimp only)
      refine' turnB_next (σ := Addr × List Value × Nat × WsS × Tok × Tok × Tok) (_, _, _, WsS.mk (bump σ.cnt σ.b) 0 (σ.n + 1) (σ.nt + 1), _, _, _) ?kF2 ?kN2 ?hm2 ?hN2 ?hne2 ?hi2
      (case kF2 => k_asm)
      (case kN2 => k_asm)
      case hm2 =>
        dsimp only [List.cons_append, List.nil_append]
        (repeat' (refine' List.forall_mem_cons.mpr ⟨?_, ?_⟩)) <;> first | exact List.forall_mem_nil _ | (with_unfolding_all exact rfl)
      case hN2 =>
        dsimp only [List.cons_append, List.nil_append]
        (repeat' (refine' List.forall_mem_cons.mpr ⟨?_, ?_⟩)) <;> first | exact List.forall_mem_nil _ | k_mem
      case hne2 =>
        dsimp only [List.cons_append, List.nil_append]
        (repeat' (refine' List.forall_mem_cons.mpr ⟨?_, ?_⟩)) <;> first | exact List.forall_mem_nil _ | k_ne
      case hi2 =>
        refine ⟨?_, pre_next hc hpre (step_tab (by assumption)), ?_, ?_⟩
        · rw [← bumpK1 (by assumption)]; assumption
        · k_ne
        · k_ne
    · (try dsimp only)
      refine' turnB_next (σ := Addr × List Value × Nat × WsS × Tok × Tok × Tok) (_, _, _, WsS.mk (bump σ.cnt σ.b) 0 (σ.n + 1) (σ.nt + 1), _, _, _) ?kF3 ?kN3 ?hm3 ?hN3 ?hne3 ?hi3
      (case kF3 => k_asm)
      (case kN3 => k_asm)
      case hm3 =>
        dsimp only [List.cons_append, List.nil_append]
        (repeat' (refine' List.forall_mem_cons.mpr ⟨?_, ?_⟩)) <;> first | exact List.forall_mem_nil _ | (with_unfolding_all exact rfl)
      case hN3 =>
        dsimp only [List.cons_append, List.nil_append]
        (repeat' (refine' List.forall_mem_cons.mpr ⟨?_, ?_⟩)) <;> first | exact List.forall_mem_nil _ | k_mem
      case hne3 =>
        dsimp only [List.cons_append, List.nil_append]
        (repeat' (refine' List.forall_mem_cons.mpr ⟨?_, ?_⟩)) <;> first | exact List.forall_mem_nil _ | k_ne
      case hi3 =>
        refine ⟨?_, pre_next hc hpre (step_tab (by assumption)), ?_, ?_⟩
        · rw [← bumpK2 (by assumption)]; assumption
        · k_ne
        · k_ne
    · (try dsimp only)
      refine' turnB_brk (l, vs, nn, σ, tb, tn, tnt) ?kF4 ?kN4 ?hm4 ?hN4 ?hi4
      (case kF4 => k_asm)
      (case kN4 => k_asm)
      case hm4 =>
        dsimp only [List.cons_append, List.nil_append]
        (repeat' (refine' List.forall_mem_cons.mpr ⟨?_, ?_⟩)) <;> first | exact List.forall_mem_nil _ | (with_unfolding_all exact rfl)
      case hN4 =>
        dsimp only [List.cons_append, List.nil_append]
        (repeat' (refine' List.forall_mem_cons.mpr ⟨?_, ?_⟩)) <;> first | exact List.forall_mem_nil _ | k_mem
      case hi4 => exact ⟨hI, run_brk hc hpre (step_none (by assumption) (by assumption)), hS, hl1, hl2⟩
  case after =>
    rintro ⟨l, vs, nn, σ, tb, tn, tnt⟩ u h tk ⟨hI, hσ, hS, hl1, hl2⟩ F₁ N₁
    dsimp only [List.cons_append, List.nil_append, kstB] at F₁ N₁ hI hσ hl1 hl2 hS
    replace hl1 := neN hl1
    replace hl2 := neN hl2
    replace F₁ : Fr s.heap L' h _ := F₁
    replace N₁ : News s.heap L' h _ := N₁
    k_sweep
    have hvl := hI.length
    obtain ⟨hB1, hB2, hB3, hB4⟩ := id hS
    (try dsimp only)
    k_steps
    rename News _ _ _ _ => NN
    have hD := news_ne NN (.tail _ (.head _)) (.tail _ (.tail _ (.tail _ (.tail _ (.head _))))) (by intro e; injection e with e; exact absurd e (by decide))
    have hD2 := news_ne NN (.tail _ (.head _)) (.tail _ (.tail _ (.tail _ (.head _)))) (by intro e; injection e with e; cases e)
    k_steps
    (try dsimp only)
    refine ⟨rfl, ?_⟩
    dsimp only
    rename Fr _ _ _ _ => FF
    rename News _ _ _ _ => NN
    refine' hret _ _ _ FF.keep ⟨WsO.mk x' d' _ _ _ _ _ _ _ _ _ _ _ σ vs _ _, rfl, hσ.symm, ⟨hI, hS⟩, ?ww⟩
    case ww =>
      refine ws_end NN trivial ?_
      dsimp only [WsO.led]
      (repeat' (refine' List.forall_mem_cons.mpr ⟨?_, ?_⟩)) <;> first | exact List.forall_mem_nil _ | k_mem
end
open PySem PySem.W PyProof.Rows
local macro_rules | `(tactic| walk_at "my six") => `(tactic| ((any_goals ((with_reducible show Below _ _ _ _); k_asm)); (any_goals ((with_reducible show Fr _ _ _ _); k_asm)); (any_goals ((with_reducible show Frag.In _ _); k_asm)); (any_goals ((with_reducible show Top _ _ _ _ _ _); k_asm)); (any_goals ((with_reducible show _ = ScopeKind.function); first | exact rfl | assumption)); (any_goals ((with_reducible show News _ _ _ _); k_asm))))
local macro_rules | `(tactic| walk_at "my post") => `(tactic| ((try k_sweep); (try dsimp only); (try k_fold)))
local macro_rules | `(tactic| k_ne) => `(tactic| (refine neN ?_; (try dsimp only); first | exact neq_out (by assumption) | exact neq_symm (by assumption)))
local macro_rules | `(tactic| walk_at "my enter") => `(tactic| (
  refine' enterT ?k1 ?k2 ?k3 ?k4 ?k5 ?kA ?kF ?kK ?k6 ?k7 ?k8 ?k9 ?kB ?_ ?c2 ?c3 ?c4 ?c5
  (case kA => exact rfl)
  (case kF => exact rfl)
  (case kK => assumption)
  (case k1 => k_asm)
  (case k2 => k_asm)
  (case k3 => k_asm)
  (case k4 => k_asm)
  (case k5 => k_asm)
  (case k6 => k_is)
  (case k7 => k_is)
  (case k8 => ktr_room)
  (case k9 => exact BindsTo.of_eq rfl)
  (case c5 => decide)
  (case kB => exact locs rfl)
  (case c2 => exact rfl)
  (case c3 => exact rfl)
  (case c4 => exact rfl)
  k_whole))
local macro_rules | `(tactic| walk_at "call builtin:len") => `(tactic| (k_here; (with_reducible show wpAny _ _ (call (Value.builtin "len") [Value.ref _]) _ _ _); k_dflt (refine' lenT_K ?k1 ?k2 ?k3 ?k4 ?_; (case k1 => k_asm); (case k2 => k_mem); (case k3 => assumption); (case k4 => omega); k_whole)))
local macro_rules | `(tactic| walk_at "subscriptTail") => `(tactic| (k_here; (with_reducible show wpAny _ _ (subscriptTail _ _ (Value.ref _) (Value.int _ _)) _ _ _); k_dflt (refine' itemT_K ?k1 ?k2 ?k3 ?k4 ?k5 ?k6 ?_; (case k1 => k_asm); (case k2 => k_mem); (case k3 => assumption); (case k4 => omega); (case k5 => omega); (case k6 => omega); k_whole); intro u'))
local macro_rules | `(tactic| walk_at "my sub") => `(tactic| ((repeat' (refine' List.forall_mem_cons.mpr ⟨?_, ?_⟩)) <;> first | exact List.forall_mem_nil _ | (intro zq zh; (repeat (first | exact zh | refine List.Mem.tail _ ?_)); done) | k_mem))
local macro_rules | `(tactic| walk_at "my vals") => `(tactic| ((repeat' (refine' List.forall_mem_cons.mpr ⟨?_, ?_⟩)) <;> first | exact List.forall_mem_nil _ | (with_unfolding_all exact rfl)))
local macro_rules | `(tactic| walk_at "my ne") => `(tactic| ((repeat' (refine' List.forall_mem_cons.mpr ⟨?_, ?_⟩)) <;> first | exact List.forall_mem_nil _ | k_ne | assumption))
local macro_rules | `(tactic| walk_at "my for") => `(tactic| (k_here; (rename Fr _ _ _ _ => lF'); (with_unfolding_all refine' For_mine lF' ?k1 ?k2 ?_; (case k1 => exact rfl); (case k2 => exact rfl); k_whole)))
local macro_rules | `(tactic| walk_at "exec For Name Call cons nil") => `(tactic| walk_at "my for")
section
theorem indClaim (w : World) (loose mean) (mg mb) (o : WsO) (ho : o.Ok) (n : Int) (u : Tok) :
  MCl PySem.Challenge.rw_pe0140_03.row.prog w (hd3.heap_39 w.params) hd3.view_39 loose mean mg mb 2 16 69 [.ref o.a, .int n u] (o.led w.params 100) (1 ≤ n ∧ n ≤ 100) (fun v _ _ => ∃ t, v = .int (ind o.σ n) t) := by
  k_fill
  k_with_none
  intro dp un gd cn cs a ccd cl outer A₀ base h₀ L m s Q E B F X T hk N hp hd hu hret
  refine wpAny_call ?_
  k_dflt (walk_at "my enter")
  intro g L' h₁ tk0 cov cn1 cn2 F' N' B' X' T' lt
  clear F N B X T
  dsimp only [WsO.led] at N' lt cov
  obtain ⟨hI, hS⟩ := ho
  have hvl := hI.length
  obtain ⟨hB1, hB2, hB3, hB4⟩ := id hS
  obtain ⟨hn1, hn2⟩ := hp
  (try dsimp only)
  (try k_fold)
  k_steps
  unfold MyIter
  rename IsRange _ _ _ _ _ _ _ _ => hR
  refine' loop_rangeB (σ := Int × Tok) (fun c => []) (o.led w.params 100) (fun c => [(Str.ofString "il", .int c.1 c.2)]) [(Str.ofString "count", .ref o.c), (Str.ofString "trailing", .int (o.σ.b : Int) o.tb), (Str.ofString "tabsize", .int n u), (Str.ofString "self", .ref o.a)]
    (fun i c => c.1 = ilv o.σ n i) (fun c => c.1 = ilv o.σ n ((o.σ.cnt.length : Int) - n).toNat) (0, _) rfl hR (small_one (by omega) (by omega) (by omega) (by omega)) (rangeSize_nat _ _) ?kF ?kN ?hm ?hN ?hi ?hfin ?turn ?after
  (case kF => k_asm)
  (case kN => k_asm)
  case hm =>
    dsimp only [List.cons_append, List.nil_append]
    (repeat' (refine' List.forall_mem_cons.mpr ⟨?_, ?_⟩)) <;> first | exact List.forall_mem_nil _ | (with_unfolding_all exact rfl)
  case hN =>
    dsimp only [List.cons_append, List.nil_append, WsO.led]
    (repeat' (refine' List.forall_mem_cons.mpr ⟨?_, ?_⟩)) <;> first | exact List.forall_mem_nil _ | k_mem
  case hi => rfl
  case hfin => exact fun c h => h
  case turn =>
    rintro i ti ⟨il, til⟩ u' h tk it io hlt hinv F₁ N₁ hq
    dsimp only [List.cons_append, List.nil_append, kstB, WsO.led] at F₁ N₁ hq hinv
    replace F₁ : Fr g L' h _ := F₁
    replace N₁ : News g L' h _ := N₁
    k_sweep
    have hlt' : n + (i : Int) < (o.σ.cnt.length : Int) := by omega
    have hdv := fdiv_bound (a := n + (i : Int)) hn1 (by omega)
    obtain ⟨hdv1, hdv2⟩ := hdv
    k_steps
    (try dsimp only)
    refine' turnB_next (σ := Int × Tok) (il + Int.fdiv (n + (i : Int)) n * o.σ.cnt.getD (n + (i : Int)).toNat 0, _) ?kF1 ?kN1 ?hm1 ?hN1 ?hne1 ?hi1
    (case kF1 => k_asm)
    (case kN1 => k_asm)
    case hm1 =>
      dsimp only [List.cons_append, List.nil_append]
      (repeat' (refine' List.forall_mem_cons.mpr ⟨?_, ?_⟩)) <;> first | exact List.forall_mem_nil _ | (with_unfolding_all exact rfl)
    case hN1 =>
      dsimp only [List.cons_append, List.nil_append, WsO.led]
      (repeat' (refine' List.forall_mem_cons.mpr ⟨?_, ?_⟩)) <;> first | exact List.forall_mem_nil _ | k_mem
    case hne1 => exact hq
    case hi1 =>
      dsimp only
      rw [hinv]; rfl
  case after =>
    rintro ⟨il, til⟩ u' h tk hinv F₁ N₁
    dsimp only [List.cons_append, List.nil_append, kstB, WsO.led] at F₁ N₁ hinv
    replace F₁ : Fr g L' h _ := F₁
    replace N₁ : News g L' h _ := N₁
    k_sweep
    (try dsimp only)
    k_steps
    dsimp only [Ret]
    rename Fr _ _ _ _ => FF
    rename News _ _ _ _ => NN
    refine hret _ _ _ (stays_of cov FF NN ?_) ?_
    · walk_at "my sub"
    · rw [hinv]; exact ⟨_, rfl⟩
end
section
local macro_rules | `(tactic| walk_at "binaryOp Mult str int") => `(tactic| (k_here; first
  | ((with_reducible show wpAny _ _ (binaryOp Operator.Mult (Value.str (Str.ofString ".") _) (Value.int (Int.fmod _ 3) _)) _ _ _); (refine' dot3_K ?_; k_whole; intro t' tk' kd hkd); (try dsimp only))
  | ((with_reducible show wpAny _ _ (binaryOp Operator.Mult (Value.str (Str.ofString ".") _) (Value.int (1 + Int.fmod _ 3) _)) _ _ _); (refine' dots13_K ?_; k_whole; intro t' tk' dd hd1 hd3 hde); (try dsimp only))
  | ((with_reducible show wpAny _ _ (binaryOp Operator.Mult (Value.str (_ ++ dotS _) _) (Value.int _ _)) _ _ _); (refine' mulLen_K ?h0 ?h1 ?_; (case h0 => assumption); (case h1 => (rw [tab_len]; omega)); k_whole; intro t' tk'); (try dsimp only))))
local macro_rules | `(tactic| walk_at "binaryOp Add str str") => `(tactic| (k_here; (with_reducible show wpAny _ _ (binaryOp Operator.Add (Value.str _ _) (Value.str _ _)) _ _ _); refine' PyProof.Rows.add_str ?_ ?hsz; (case hsz => (simp only [Str.length_append, len_lit_tab, sizeLine_eq, dotS_len]; omega)); k_whole; intro t' tk'; (try dsimp only)))
local macro_rules | `(tactic| walk_at "call builtin:len cons nil") => `(tactic| (k_here; (with_reducible show wpAny _ _ (call (Value.builtin "len") [Value.str (dotS _) _]) _ _ _); k_dflt (refine' P.len_str ?h1 ?_; (case h1 => (rw [dotS_len]; omega)); k_whole)))

theorem rowClaim (w : World) (loose mean) (mg mb) (k : Int) (t : Tok) :
  MCl PySem.Challenge.rw_pe0140_03.row.prog w (hd3.heap_39 w.params) hd3.view_39 loose mean mg mb 4 32 142 [.int k t] [] (0 ≤ k ∧ k < 108) (fun v h h' => ∃ (p : Addr) (d : Nat) (r : Str) (t1 t2 : Tok) (n : Nat), v = .ref p ∧ RowOk (d, r) ∧ h'.get? p = some { cls := .type "tuple", data := .seq #[.int (d : Int) t1, .str r t2] n } ∧ h.get? p = none) := by
  k_fill
  k_with_none
  intro dp un gd cn cs a ccd cl outer A₀ base h₀ L m s Q E B F X T hk N hp hd hu hret
  obtain ⟨hk0, hk1⟩ := hp
  refine wpAny_call ?_
  k_dflt (walk_at "my enter")
  intro g L' h₁ tk0 cov cn1 cn2 F' N' B' X' T' lt
  clear F N B X T
  (try dsimp only)
  (try k_fold)
  k_steps
  all_goals (
    dsimp only [Ret]
    rename Fr _ _ _ _ => FF
    rename News _ _ _ _ => NN
    obtain ⟨dz, hdz, hz1, hz3⟩ := dot13 (Int.fdiv k 4))
  · rw [hdz] at NN
    refine hret _ _ _ (stays_of cov FF NN (List.forall_mem_nil _)) ⟨_, dz, _, _, _, _, rfl, rowOk0 hz3 (by assumption), (NN _ (.head _)).1, ?_⟩
    exact (cn2 _ (NN _ (.head _)).2.2).elim id fun ⟨_, h⟩ => nomatch h
  · rw [hdz] at NN
    refine hret _ _ _ (stays_of cov FF NN (List.forall_mem_nil _)) ⟨_, dz, _, _, _, _, rfl, rowOk1 hz3 (by assumption), (NN _ (.head _)).1, ?_⟩
    exact (cn2 _ (NN _ (.head _)).2.2).elim id fun ⟨_, h⟩ => nomatch h
  · rw [hdz] at NN
    refine hret _ _ _ (stays_of cov FF NN (List.forall_mem_nil _)) ⟨_, dz, _, _, _, _, rfl, rowOk2 hz3, (NN _ (.head _)).1, ?_⟩
    exact (cn2 _ (NN _ (.head _)).2.2).elim id fun ⟨_, h⟩ => nomatch h
  · refine hret _ _ _ (stays_of cov FF NN (List.forall_mem_nil _)) ⟨_, 0, _, _, _, _, rfl, rowOk3 (by assumption) (by assumption), (NN _ (.head _)).1, ?_⟩
    exact (cn2 _ (NN _ (.head _)).2.2).elim id fun ⟨_, h⟩ => nomatch h
end
section
local macro_rules | `(tactic| walk_at "my mv") => `(tactic| (k_here; (with_reducible show wpAny _ _ (subscriptTail _ _ (Value.ref _) (Value.int _ _)) _ _ _); k_dflt (refine' item0_K ?k1 ?k2 ?k3 ?k4 ?k5 ?_; (case k1 => k_asm); (case k2 => k_mem); (case k3 => assumption); (case k4 => omega); (case k5 => omega); k_whole); intro u'))
local macro_rules | `(tactic| walk_at "subscriptTail Name Constant ref int") => `(tactic| walk_at "my mv")
local macro_rules | `(tactic| walk_at "subscriptTail Name BinOp ref int") => `(tactic| walk_at "my mv")
local macro_rules | `(tactic| walk_at "subscriptTail Name Name ref int") => `(tactic| walk_at "my mv")

theorem movesClaim (w : World) (loose mean) (mg mb) (D : Addr) (ys : List Value) (n d : Nat) (b : Int) (u1 u2 u3 : Tok) :
  MCl PySem.Challenge.rw_pe0140_03.row.prog w (hd3.heap_39 w.params) hd3.view_39 loose mean mg mb 4 32 149 [.ref D, .int (n : Int) u1, .int (d : Int) u2, .int b u3] [(D, LCg.lst ys)]
    (IntsAre ys ((rangeKs 0 7).map fun k => mvI n d b k) ∧ 1 ≤ n ∧ n ≤ 4 ∧ d ≤ 3 ∧ 0 ≤ b ∧ b ≤ 100) (fun v _ _ => v = .bool true) := by
  k_fill
  k_with_none
  intro dp un gd cn cs a ccd cl outer A₀ base h₀ L m s Q E B F X T hk N hp hd hu hret
  obtain ⟨hI, hn1, hn4, hd3', hb0, hb1⟩ := hp
  have hfst : Int.fmod (mvI n d b 0 - b) n = 0 := mvI_first hn1
  have hc0 : 0 ≤ mvI n d b 0 ∧ mvI n d b 0 ≤ 1000 := mv_bound hn4 hd3' hb0 hb1 (by decide)
  refine wpAny_call ?_
  k_dflt (walk_at "my enter")
  intro g L' h₁ tk0 cov cn1 cn2 F' N' B' X' T' lt
  clear F N B X T
  (try dsimp only)
  (try k_fold)
  k_steps
  · exact absurd hfst (by assumption)
  rename IsRange _ _ _ _ _ _ _ _ => hRg
  have hR' : IsRange _ _ (0 : Int) 6 1 _ _ _ := hRg
  unfold MyIter
  refine' loop_rangeB (σ := Unit) (n := 6) (fun _ => []) [(D, LCg.lst ys)] (fun _ => []) [(Str.ofString "columns", .ref D), (Str.ofString "size", .int (n : Int) u1), (Str.ofString "dots", .int (d : Int) u2), (Str.ofString "behind", .int b u3)]
    (fun _ _ => True) (fun _ => True) () rfl hR' (by decide) (by rfl) ?kF ?kN ?hm ?hN ?hi ?hfin ?turn ?after
  (case kF => k_asm)
  (case kN => k_asm)
  case hm =>
    (try dsimp only [List.nil_append])
    walk_at "my vals"
  case hN =>
    (try dsimp only [List.nil_append])
    walk_at "my sub"
  case hi => trivial
  case hfin => exact fun _ _ => trivial
  case turn =>
    rintro j tj c u h tk it io hj _ F₁ N₁ hq
    dsimp only [List.nil_append, kstB] at F₁ N₁ hq
    have hst := mvI_step (d := d) (b := b) hn1 j
    rename Fr _ _ _ _ => FF
    clear hR' hRg
    k_steps
    · refine' turnB_next (σ := Unit) () ?kF1 ?kN1 ?hm1 ?hN1 ?hne1 ?hi1
      (case kF1 => k_asm)
      (case kN1 => k_asm)
      case hm1 =>
        (try dsimp only [List.nil_append])
        walk_at "my vals"
      case hN1 =>
        (try dsimp only [List.nil_append])
        walk_at "my sub"
      case hne1 => exact hq
      case hi1 => trivial
    · exact (any_two hst (by assumption)).elim
  case after =>
    rintro c u h tk _ F₁ N₁
    dsimp only [List.nil_append, kstB] at F₁ N₁
    clear hR' hRg
    (try dsimp only)
    k_steps
    rename IsRange _ _ _ _ _ _ _ _ => hRg
    have hR' : IsRange _ _ (0 : Int) (8 - (n : Int)) 1 _ _ _ := hRg
    have hsm := small_one (a := 0) (b := 8 - (n : Int)) (by omega) (by omega) (by omega) (by omega)
    unfold MyIter
    refine' loop_rangeB (σ := Unit) (fun _ => []) [(D, LCg.lst ys)] (fun _ => []) [(Str.ofString "columns", .ref D), (Str.ofString "size", .int (n : Int) u1), (Str.ofString "dots", .int (d : Int) u2), (Str.ofString "behind", .int b u3)]
      (fun _ _ => True) (fun _ => True) () rfl hR' hsm (rangeSize_nat _ _) ?kF2 ?kN2 ?hm2 ?hN2 ?hi2 ?hfin2 ?turn2 ?after2
    (case kF2 => k_asm)
    (case kN2 => k_asm)
    case hm2 =>
      (try dsimp only [List.nil_append])
      walk_at "my vals"
    case hN2 =>
      (try dsimp only [List.nil_append])
      walk_at "my sub"
    case hi2 => trivial
    case hfin2 => exact fun _ _ => trivial
    case turn2 =>
      rintro j tj c2 u' h' tk2 it io hj _ F₂ N₂ hq
      dsimp only [List.nil_append, kstB] at F₂ N₂ hq
      have hj8 : j + n < 8 := by omega
      clear hR' hRg hsm
      k_steps
      · exact absurd (sum_slice hn1 hj8) (by assumption)
      · refine' turnB_next (σ := Unit) () ?kF1 ?kN1 ?hm1 ?hN1 ?hne1 ?hi1
        (case kF1 => k_asm)
        (case kN1 => k_asm)
        case hm1 =>
          (try dsimp only [List.nil_append])
          walk_at "my vals"
        case hN1 =>
          (try dsimp only [List.nil_append])
          walk_at "my sub"
        case hne1 => exact hq
        case hi1 => trivial
    case after2 =>
      rintro c2 u' h' tk2 _ F₂ N₂
      dsimp only [List.nil_append, kstB] at F₂ N₂
      clear hR' hRg hsm
      (try dsimp only)
      k_steps
      dsimp only [Ret]
      rename Fr _ _ _ _ => FF
      rename News _ _ _ _ => NN
      refine hret _ _ _ (stays_of cov FF NN ?_) rfl
      walk_at "my sub"
end
section
open PySem PySem.W PyProof.Rows PySem.Calls PySem.Spec
theorem foldl_small {n : Int} (h1 : 1 ≤ n) (h4 : n ≤ 4) : ∀ (l : List Int) (a : Int), 0 ≤ a → 0 ≤ l.foldl (colStep n) a ∧ l.foldl (colStep n) a ≤ a + 4 * (l.length : Int)
  | [], a, h => ⟨h, by simp⟩
  | c :: l, a, h => by
    have hs : 0 ≤ colStep n a c ∧ colStep n a c ≤ a + 4 := by
      unfold colStep
      have f1 := Int.fmod_nonneg_of_pos a (show 0 < n by omega)
      have f2 := Int.fmod_lt_of_pos a (show 0 < n by omega)
      split <;> omega
    obtain ⟨k1, k2⟩ := foldl_small h1 h4 l _ hs.1
    refine ⟨k1, ?_⟩
    rw [List.foldl_cons, List.length_cons]; omega
theorem col_small {n : Int} (h1 : 1 ≤ n) (h4 : n ≤ 4) {x : Str} (hx : x.length ≤ 20) : 0 ≤ col x n ∧ col x n ≤ 100 := by
  have h := foldl_small h1 h4 (x.cps.toList.map fun (c : Nat) => (c : Int)) 0 (Int.le_refl 0)
  rw [str_len] at hx
  rw [List.length_map] at h
  rw [col_colD]
  unfold colD colL
  exact ⟨h.1, by have := h.2; omega⟩
theorem size1 (k : Nat) : (1 : Int) + (k : Int) = ((1 + k : Nat) : Int) := by omega
theorem cols_eq {d k : Nat} {r : Str} (h : RowOk (d, r)) {g : Int → Int} (hg : ∀ s : Nat, s < 7 → colD (up (d, r) s) ((1 + k : Nat) : Int) = g (s : Int)) :
    List.map (fun kk => ind (SL (up (d, r) kk.toNat)) (1 + (k : Int))) (rangeKs 0 7) = List.map g (rangeKs 0 7) := by
  refine List.map_congr_left fun kk hkk => ?_
  have hm := mem_rangeKs hkk
  have e := hg kk.toNat (by omega)
  rw [show ((kk.toNat : Nat) : Int) = kk from by omega] at e
  rw [← e, size1]
  exact SL_ind (up_dt h _) (by omega)
theorem cols_still {d k : Nat} {r : Str} (h : RowOk (d, r)) (h0 : (d : Int) = 0) :
    List.map (fun kk => ind (SL (up (d, r) kk.toNat)) (1 + (k : Int))) (rangeKs 0 7) = (List.replicate (Int.toNat 7) [col r (1 + (k : Int))]).flatten := by
  rw [cols_eq h (g := fun _ => col r (1 + (k : Int))) fun s _ => by rw [col3_still (q := (d, r)) (show d = 0 by omega), size1]]
  rfl
theorem cols_bare {d k : Nat} {r : Str} (h : RowOk (d, r)) (h0 : (d : Int) ≠ 0) (e : (r == Str.ofString "") = true) :
    List.map (fun kk => ind (SL (up (d, r) kk.toNat)) (1 + (k : Int))) (rangeKs 0 7) = List.map (fun k' => (d : Int) + k') (rangeKs 0 (7 - 0 : Int).toNat) := by
  have e0 : (Str.ofString "").cps.toList = [] := by decide +kernel
  have e1 : r.cps.toList = [] := by rw [eq_of_beq e]; exact e0
  exact cols_eq h fun s _ => by rw [col3_bare (q := (d, r)) (show d ≠ 0 by omega) e1]; show ((d + s : Nat) : Int) = _; omega
theorem cols_moves {d k : Nat} {r : Str} (h : RowOk (d, r)) (h0 : (d : Int) ≠ 0) (e : (r == Str.ofString "") = false) :
    List.map (fun kk => ind (SL (up (d, r) kk.toNat)) (1 + (k : Int))) (rangeKs 0 7) = List.map (fun x => mvI (1 + k) d (col (Txt.slice r (some 1) none) (1 + (k : Int))) x) (rangeKs 0 7) := by
  have e0 : (Str.ofString "").cps.toList = [] := by decide +kernel
  rcases h.tb with e1 | ⟨t, e1⟩
  · have : r = Str.ofString "" := str_eq (by rw [e0]; exact e1)
    rw [this] at e; simp at e
  · refine cols_eq h fun s _ => ?_
    rw [col3_tab (q := (d, r)) (show d ≠ 0 by omega) e1 s (1 + k) (by omega), behind3 (q := (d, r)) e1, size1]
    unfold mvI mv
    rfl
theorem moves_pre {d k : Nat} {r : Str} {ys : List Value} (h : RowOk (d, r)) (hk : k ≤ 3) (h0 : (d : Int) ≠ 0) (e : (r == Str.ofString "") = false) (hI : IntsAre ys (List.map (fun kk => ind (SL (up (d, r) kk.toNat)) (1 + (k : Int))) (rangeKs 0 7))) (hs : (Txt.slice r (some 1) none).length ≤ r.length) :
    IntsAre ys ((rangeKs 0 7).map fun x => mvI (1 + k) d (col (Txt.slice r (some 1) none) (1 + (k : Int))) x) ∧ 1 ≤ 1 + k ∧ 1 + k ≤ 4 ∧ d ≤ 3 ∧ 0 ≤ col (Txt.slice r (some 1) none) (1 + (k : Int)) ∧ col (Txt.slice r (some 1) none) (1 + (k : Int)) ≤ 100 := by
  have hl : r.length ≤ 20 := h.len
  have hc := col_small (n := 1 + (k : Int)) (x := Txt.slice r (some 1) none) (by omega) (by omega) (by omega)
  exact ⟨cols_moves h h0 e ▸ hI, by omega, by omega, h.d3, hc.1, hc.2⟩
theorem movesClaim2 (w : World) (loose mean) (mg mb) (D : Addr) (ys : List Value) (k d : Nat) (b : Int) (u1 u2 u3 : Tok) :
  MCl PySem.Challenge.rw_pe0140_03.row.prog w (hd3.heap_39 w.params) hd3.view_39 loose mean mg mb 4 32 149 [.ref D, .int (1 + (k : Int)) u1, .int (d : Int) u2, .int b u3] [(D, LCg.lst ys)]
    (IntsAre ys ((rangeKs 0 7).map fun x => mvI (1 + k) d b x) ∧ 1 ≤ 1 + k ∧ 1 + k ≤ 4 ∧ d ≤ 3 ∧ 0 ≤ b ∧ b ≤ 100) (fun v _ _ => v = .bool true) := by
  rw [size1]
  exact movesClaim w loose mean mg mb D ys (1 + k) d b u1 u2 u3
end
section
local macro_rules | `(tactic| walk_at "my fix") => `(tactic| (refine' cb_use (fixClaim _ _ _ _ _ _ _ _) ?_ ?_ ?_ ?_ ?_ ?_ ?_ ?_ ?_ ?_; walk_at "my six"; (omega); ktr_room; ktr_units; k_whole; intro t' h' tk' F' N'; walk_at "my post"))
local macro_rules | `(tactic| walk_at "my quote") => `(tactic| (refine' cb_use (quoteClaim _ _ _ _ _ _ _ _) ?_ ?_ ?_ ?_ ?_ ?_ ?_ ?_ ?_ ?_; walk_at "my six"; (omega); ktr_room; ktr_units; k_whole; intro t' h' tk' F' N'; walk_at "my post"))
local macro_rules | `(tactic| walk_at "my ws") => `(tactic| (refine' pcl_ws3 (wsClaim _ _ _ _ _ _ _) ?k1 ?k2 ?k3 ?k4 ?k5 ?k6 ?pre ?hd ?hu ?hn ?_; walk_at "my six"; ((rw [repl_len]; omega)); ktr_room; ktr_units; (case hn => assumption); k_whole; intro o' h' tk' eo' ok' ap' ht' F' N'; (dsimp only [WsO.led, List.cons_append, List.nil_append] at N'); walk_at "my post"))
local macro_rules | `(tactic| walk_at "call builtin:str.replace") => `(tactic| (k_here; k_dflt (refine' replS_K ?h0 ?h1 ?h2 ?h3 ?_; (case h0 => assumption); (case h1 => first | assumption | exact Nat.succ_le_succ (Nat.zero_le _)); (case h2 => exact rfl); (case h3 => exact Nat.succ_le_succ (Nat.zero_le _)); k_whole); intro t' tk' ht'; (try dsimp only)))
local macro_rules | `(tactic| walk_at "my ind") => `(tactic| (refine' mcl_use (indClaim _ _ _ _ _ _ ?ok _ _) ?_ ?_ ?_ ?_ ?_ ?_ ?_ ?_ ?_ ?_ ?_; (case ok => assumption); walk_at "my six"; ((dsimp only [WsO.led]; walk_at "my sub")); ((refine ⟨?_, ?_⟩ <;> omega)); ktr_room; ktr_units; k_whole; intro v' h' tk' st' F' N' po'; obtain ⟨t', e'⟩ := po'; subst e'; clear st'; walk_at "my post"))
local macro_rules | `(tactic| walk_at "my col") => `(tactic| (refine' cb_use (colClaim _ _ _ _ _ _ _ _ _ _) ?_ ?_ ?_ ?_ ?_ ?_ ?_ ?_ ?_ ?_; walk_at "my six"; (first | assumption | (refine ⟨?_, ?_, ?_⟩ <;> omega)); ktr_room; ktr_units; k_whole; intro t' h' tk' F' N'; walk_at "my post"))
local macro_rules | `(tactic| walk_at "my moves") => `(tactic| (refine' mcl_use (movesClaim2 _ _ _ _ _ _ _ _ _ _ _ _ _) ?k1 ?k2 ?k3 ?k4 ?k5 ?k6 ?sub ?pre ?hd ?hu ?_; (case pre => exact moves_pre (by assumption) (by assumption) (by assumption) (by assumption) (by assumption) (by assumption)); (case k2 => k_asm); (case k1 => k_asm); (case k3 => k_asm); (case k4 => k_asm); (case k5 => first | exact rfl | assumption); (case k6 => k_asm); (case sub => walk_at "my sub"); (case hd => ktr_room); (case hu => ktr_units); k_whole; intro v' h' tk' st' F' N' po'; subst po'; clear st'; walk_at "my post"))
local macro_rules | `(tactic| walk_at "call ref") => `(tactic| (k_here; first
  | ((with_reducible show wpAny _ _ (call (Value.ref 128) _) _ _ _); k_dflt (walk_at "my fix"))
  | ((with_reducible show wpAny _ _ (call (Value.ref 121) _) _ _ _); k_dflt (walk_at "my quote"))
  | ((with_reducible show wpAny _ _ (call (Value.ref 100) _) _ _ _); k_dflt (walk_at "my ws"))
  | ((with_reducible show wpAny _ _ (call (Value.ref 69) _) _ _ _); k_dflt (walk_at "my ind"))
  | ((with_reducible show wpAny _ _ (call (Value.ref 135) _) _ _ _); k_dflt (walk_at "my col"))
  | ((with_reducible show wpAny _ _ (call (Value.ref 149) _) _ _ _); k_dflt (walk_at "my moves"))))
local macro_rules | `(tactic| walk_at "exec For Name Call cons nil") => `(tactic| (k_here; (refine' For_C ?_; k_whole)))
local macro_rules | `(tactic| walk_at "call builtin:len") => `(tactic| (k_here; (with_reducible show wpAny _ _ (call (Value.builtin "len") [Value.ref _]) _ _ _); k_dflt (refine' lenLst_K ?k1 ?k2 ?k3 ?_; (case k1 => k_asm); (case k2 => k_mem); (case k3 => assumption); k_whole)))
local macro_rules | `(tactic| walk_at "subscriptTail") => `(tactic| (k_here; (with_reducible show wpAny _ _ (subscriptTail _ _ (Value.ref _) (Value.int (Int.fmod _ 3) _)) _ _ _); k_dflt (refine' endsItem_K ?k1 ?k2 ?_; (case k1 => k_asm); (case k2 => k_mem); k_whole); intro e' te' hEnd; have hEndL := hEnd.len))
local macro_rules | `(tactic| k_all) => `(tactic| assumption)
local macro_rules | `(tactic| walk_at "binaryOp Mult str int") => `(tactic| (k_here; first
  | ((with_reducible show wpAny _ _ (binaryOp Operator.Mult (Value.str (Str.ofString ".") _) (Value.int (_ + (0 + _)) _)) _ _ _); (refine' dotN_K ?h0 ?h1 ?_; (case h0 => with_reducible assumption); (case h1 => exact le9 (by with_reducible assumption) (by with_reducible assumption)); k_whole; intro t' tk'); (try dsimp only))
  | ((with_reducible show wpAny _ _ (binaryOp Operator.Mult (Value.str (Str.ofString ".") _) (Value.int (Nat.cast _) _)) _ _ _); (refine' dotC_K ?h0 ?_; (case h0 => exact le3 (by with_reducible assumption)); k_whole; intro t' tk'); (try dsimp only))))
local macro_rules | `(tactic| walk_at "binaryOp Add str str") => `(tactic| (k_here; (with_reducible show wpAny _ _ (binaryOp Operator.Add (Value.str _ _) (Value.str _ _)) _ _ _); refine' PyProof.Rows.add_str ?_ ?hsz; (case hsz => (simp only [Str.length_append, len_lit_e, len_lit_ad, len_lit_ar, sizeLine_eq, dotS_len]; omega)); k_whole; intro t' tk'; (try dsimp only)))
local macro_rules | `(tactic| walk_at "compareOp NotEq str str") => `(tactic| (k_here; (refine neSelf_K ?_)))
local macro_rules | `(tactic| walk_at "call builtin:str.split") => `(tactic| (k_here; (with_reducible show wpAny _ _ (call (Value.builtin "str.split") [Value.str _ _, _]) _ _ _); k_dflt (refine' rows3_K ?k1 ?k2 ?k3 ?k4 ?k5 ?_; (case k1 => k_asm); (case k2 => k_asm); (case k3 => assumption); (case k4 => assumption); (case k5 => assumption); k_whole); intro D' vs' h' tk' hv' F' N' lt'; (try k_sweep)))
local macro_rules | `(tactic| walk_at "subscriptTail Call Attribute cons nil Slice ref ref") => `(tactic| (k_here; k_dflt (refine kba_turn (value' := PySem.Expr.Name (PySem.Str.ofString "_") ⟨0, 0, 0, 0⟩) (fun _ => rfl) ?_)))
local macro_rules | `(tactic| walk_at "subscriptTail Name Slice ref ref") => `(tactic| (k_here; (with_reducible show wpAny _ _ (subscriptTail _ (PySem.Expr.Slice _ _ none _) (Value.ref _) (Value.ref _)) _ _ _); k_dflt (refine' sliceTake_K ?k0 ?k1 ?k2 ?F ?N ?m ?p ?q ?_ ?s ?t; (case F => k_asm); (case N => k_asm); (case m => k_mem); (case p => kmk_part); (case q => kmk_part); (case k0 => exact rfl); (case k1 => assumption); (case k2 => assumption); (case s => with_unfolding_all rfl); (case t => kmk_pure)); intro D' h' F' N' l1; (try k_lt l1); (try k_sweep)))
local macro_rules | `(tactic| walk_at "subscriptTail Name Name ref int") => `(tactic| (k_here; (with_reducible show wpAny _ _ (subscriptTail _ _ (Value.ref _) (Value.int _ _)) _ _ _); k_dflt (first | (refine' itemV_K ?k1 ?k2 ?k3 ?k4 ?k5 ?_; (case k1 => k_asm); (case k2 => k_mem); (case k3 => exact rfl); (case k4 => assumption); (case k5 => assumption); k_whole) | (refine' itemA_K ?k1 ?k2 ?k3 ?k4 ?k5 ?_; (case k1 => k_asm); (case k2 => k_mem); (case k3 => assumption); (case k4 => assumption); (case k5 => assumption); k_whole))))
local macro_rules | `(tactic| walk_at "subscriptTail Subscript") => `(tactic| (k_here; (with_reducible show wpAny _ _ (subscriptTail _ _ (Value.ref _) (Value.int _ _)) _ _ _); k_dflt (refine' itemV_K ?k1 ?k2 ?k3 ?k4 ?k5 ?_; (case k1 => k_asm); (case k2 => k_mem); (case k3 => exact rfl); (case k4 => assumption); (case k5 => assumption); k_whole)))
theorem law3 : PySem.Challenge.rw_pe0140_03.Holds := by
  refine hd3 ?_
  w_strict (
    k_go0
    (all_goals try k_fold)
    rename Fr _ _ _ _ => F0
    rename News _ _ _ _ => N0
    rename CellsAre _ _ _ => C0
    clear C0
    rename Top _ _ _ _ _ _ => T0
    rename Frag.In _ _ => X0
    rename Below _ _ _ _ => B0
    rename _ = Data.cell (bindC _ _ _ _) => cd4
    replace cd4 : _ = Data.cell none := cd4
    rename _ = Data.cell (bindC _ _ _ _) => cd3
    replace cd3 : _ = Data.cell none := cd3
    rename _ = Data.cell (bindC _ _ _ _) => cd2
    replace cd2 : _ = Data.cell none := cd2
    rename _ = Data.cell (bindC _ _ _ _) => cd1
    replace cd1 : _ = Data.cell none := cd1
    rename Heap.CodeRec _ _ _ => hcd
    (try clear hcd)
    rename PySem.W.Dflts _ _ _ _ _ _ => hz
    clear hz
    rename_i w3 w2 w1 w0
    rename Shared => s1
    rename World => W
    rename List Int => zs
    have hT : ∀ h' tk m', Fr s1.heap s1.heap.objs.size h' m' → qk (.ret (.bool true)) { s1 with heap := h', toks := tk } := by
      intro h' tk m' F
      wrow_close
    clear_value qk
    iterate 35 (first | (k_unfold; (try dsimp only)) | walk1 | (dsimp only; walk1))
    rename_i lN wsn hh1 hIn l1a hh2 tkE lE hh3 l1b hh4 FF NN
    obtain ⟨hl1, hl5⟩ := num_len hIn
    k_here
    k_dflt (refine' Assign_LL (m := _) ?kFU1 ?hLeU1 ?hswU1 ?hclosU1 ?hcellU1 ?hkindU1 ?hnamesU1 ?hxU1 ?hyU1 ?hpU1 ?_ ?hsU1)
    (case hsU1 => intro _; exact rfl)
    (case kFU1 => k_asm)
    (case hLeU1 => exact rfl)
    (case hswU1 => with_unfolding_all exact rfl)
    (case hclosU1 => with_unfolding_all exact rfl)
    (case hcellU1 => decide)
    (case hkindU1 => exact rfl)
    (case hnamesU1 => decide)
    (case hxU1 => exact rfl)
    (case hyU1 => exact rfl)
    (case hpU1 => exact rfl)
    iterate 1 (first | (k_unfold; (try dsimp only)) | walk1 | (dsimp only; walk1))
    k_dflt (refine' SrcLL.intro ?haoU1 ?hhU1 ?FU1 ?NU1 ?hmU1 ?szU1 ?_)
    (case hhU1 => exact rfl)
    (case FU1 => k_asm)
    (case NU1 => k_asm)
    (case hmU1 => k_mem)
    (case haoU1 => exact ⟨rfl, _, rfl⟩)
    (case szU1 => (rw [sizeLine_eq]; simp only [List.size_toArray]; omega))
    intro g
    refine RestL.ind (fun i ys nw => ∃ tups rs, (∀ q ∈ [(lE, PySem.W.listOf #[Value.str (Str.ofString "\x0d\n") tkE, Value.str (Str.ofString "\n") (tkE + 1), Value.str (Str.ofString "\x0d") (tkE + 1 + 1)] 0), (lN, PySem.W.listOf wsn.toArray 0), (s1.heap.objs.size + 1 + 1 + 1 + 1, w3), (s1.heap.objs.size + 1 + 1 + 1, w2), (s1.heap.objs.size + 1 + 1, w1), (s1.heap.objs.size + 1, w0)] ++ tups, q ∈ nw) ∧ RowsT tups ys rs ∧ rs.length = i ∧ ApLed tups [(lE, PySem.W.listOf #[Value.str (Str.ofString "\x0d\n") tkE, Value.str (Str.ofString "\n") (tkE + 1), Value.str (Str.ofString "\x0d") (tkE + 1 + 1)] 0), (lN, PySem.W.listOf wsn.toArray 0), (s1.heap.objs.size + 1 + 1 + 1 + 1, w3), (s1.heap.objs.size + 1 + 1 + 1, w2), (s1.heap.objs.size + 1 + 1, w1), (s1.heap.objs.size + 1, w0)]) ?h0U1 ?turnU1 ?finU1
    case h0U1 =>
      refine ⟨[], [], ?_, .nil, rfl, fun q hq => nomatch hq⟩
      rw [List.append_nil]
      walk_at "my sub"
    case turnU1 =>
      rintro i ys nw ⟨tups, rs, hsub, hrs, hlen, hap⟩ v I oI C oC D m₂ h tk E' hv hC hx F₁ N₁ off
      obtain ⟨k, tv, rfl, hk⟩ := ints_mem hIn (i := i) (v := v) (by simpa using hv)
      obtain ⟨hk0, hk1⟩ := num108 hk
      have Nx : News s1.heap s1.heap.objs.size h ((I, oI) :: (C, oC) :: (D, LCg.lst ys) :: [(lE, PySem.W.listOf #[Value.str (Str.ofString "\x0d\n") tkE, Value.str (Str.ofString "\n") (tkE + 1), Value.str (Str.ofString "\x0d") (tkE + 1 + 1)] 0), (lN, PySem.W.listOf wsn.toArray 0), (s1.heap.objs.size + 1 + 1 + 1 + 1, w3), (s1.heap.objs.size + 1 + 1 + 1, w2), (s1.heap.objs.size + 1 + 1, w1), (s1.heap.objs.size + 1, w0)]) := fun q hq => N₁ q (by
        rcases List.mem_cons.mp hq with rfl | hq
        · exact .head _
        · rcases List.mem_cons.mp hq with rfl | hq
          · exact .tail _ (.head _)
          · rcases List.mem_cons.mp hq with rfl | hq
            · exact .tail _ (.tail _ (.head _))
            · exact .tail _ (.tail _ (.tail _ (hsub q (List.mem_append_left _ hq)))))
      clear FF NN
      iterate 8 (first | (k_unfold; (try dsimp only)) | walk1 | (dsimp only; walk1))
      k_here
      k_dflt (refine' mcl_use (rowClaim _ _ _ _ _ _ _) ?k1 ?k2 ?k3 ?k4 ?k5 ?k6 ?sub ?pre ?hd ?hu ?_)
      (case k1 => k_asm)
      (case k2 => k_asm)
      (case k3 => k_asm)
      (case k4 => k_asm)
      (case k5 => first | exact rfl | assumption)
      (case k6 => exact N₁)
      (case sub => exact List.forall_mem_nil _)
      (case pre => exact ⟨hk0, hk1⟩)
      (case hd => ktr_room)
      (case hu => ktr_units)
      rintro v' h' tk' st' F' N' ⟨p, d, r, t1, t2, n', rfl, hok, hg, hnone⟩
      (try dsimp only at hg hnone)
      refine EndL.new F₁ N₁ st' hg hnone off (hsub _ (List.mem_append_left _ (.tail _ (.head _)))) ?_
      refine ⟨(p, tupO d r t1 t2 n') :: tups, rs ++ [(d, r)], ?_, .snoc (hrs.mono fun q hq => .tail _ hq) (.head _) hok, by simp [hlen], ?_⟩
      rotate_left
      · intro q hq x hx e
        rcases List.mem_cons.mp hq with rfl | hq
        · have := (N₁ x (.tail _ (.tail _ (.tail _ (hsub x (List.mem_append_left _ hx)))))).1
          have e' : p = x.1 := e
          rw [← e', hnone] at this; cases this
        · exact hap q hq x hx e
      intro q hq
      rcases List.mem_append.mp hq with hq | hq
      · exact .tail _ (hsub q (List.mem_append_left _ hq))
      · rcases List.mem_cons.mp hq with rfl | hq
        · exact .head _
        · exact .tail _ (hsub q (List.mem_append_right _ hq))
    case finU1 =>
      rintro ys nw ⟨tups, rs, hsub, hrs, hlen, hap⟩ D h tk F₁ N₁ offD
      have hrl : rs.length = wsn.length := by rw [hlen]; simp
      have hvl := hrs.length
      have hn1 : 1 ≤ rs.length := by omega
      have hn5 : rs.length ≤ 5 := by omega
      have hy5 : ys.length ≤ 1000 := by omega
      have N₂ : News s1.heap s1.heap.objs.size h ((D, LCg.lst ys) :: ([(lE, PySem.W.listOf #[Value.str (Str.ofString "\x0d\n") tkE, Value.str (Str.ofString "\n") (tkE + 1), Value.str (Str.ofString "\x0d") (tkE + 1 + 1)] 0), (lN, PySem.W.listOf wsn.toArray 0), (s1.heap.objs.size + 1 + 1 + 1 + 1, w3), (s1.heap.objs.size + 1 + 1 + 1, w2), (s1.heap.objs.size + 1 + 1, w1), (s1.heap.objs.size + 1, w0)] ++ tups)) := fun q hq => N₁ q (by
        rcases List.mem_cons.mp hq with rfl | hq
        · exact .head _
        · exact .tail _ (hsub q hq))
      have offD2 : ∀ q ∈ [(lE, PySem.W.listOf #[Value.str (Str.ofString "\x0d\n") tkE, Value.str (Str.ofString "\n") (tkE + 1), Value.str (Str.ofString "\x0d") (tkE + 1 + 1)] 0), (lN, PySem.W.listOf wsn.toArray 0), (s1.heap.objs.size + 1 + 1 + 1 + 1, w3), (s1.heap.objs.size + 1 + 1 + 1, w2), (s1.heap.objs.size + 1 + 1, w1), (s1.heap.objs.size + 1, w0)] ++ tups, q.1 ≠ D := fun q hq => offD q (hsub q hq)
      clear FF NN offD N₁ hsub
      replace F₁ : Fr s1.heap s1.heap.objs.size h _ := F₁
      dsimp only [List.cons_append, List.nil_append] at N₂
      (try dsimp only)
      iterate 19 (first | (k_unfold; (try dsimp only)) | walk1 | (dsimp only; walk1))
      rename IsRange _ _ _ _ _ _ _ _ => hRg
      rename Fr _ _ _ _ => FF1
      rename News _ _ _ _ => NN1
      have hR' : IsRange _ _ (0 : Int) (ys.length : Int) 1 _ _ _ := hRg
      have hsm := small_one (a := 0) (b := (ys.length : Int)) (by omega) (by omega) (by omega) (by omega)
      have hnl : ((ys.length : Int) - 0).toNat = ys.length := by omega
      refine' loopC_range (σ := Str × Tok × Obj × Obj) (fun c => (s1.heap.objs.size + 1, c.2.2.1) :: (s1.heap.objs.size + 1 + 1, c.2.2.2) :: (s1.heap.objs.size + 1 + 1 + 1, w2) :: (s1.heap.objs.size + 1 + 1 + 1 + 1, w3) :: (D, LCg.lst ys) :: (lE, PySem.W.listOf #[Value.str (Str.ofString "\x0d\n") tkE, Value.str (Str.ofString "\n") (tkE + 1), Value.str (Str.ofString "\x0d") (tkE + 1 + 1)] 0) :: (lN, PySem.W.listOf wsn.toArray 0) :: tups)
        (fun c => [(Str.ofString "page", .str c.1 c.2.1), (Str.ofString "rows", .ref D), (Str.ofString "ends", .ref lE), (Str.ofString "numbers", .ref lN)])
        (fun i c => Typ (rs.take i) c.1.cps.toList ∧ c.1.length ≤ 50 * i ∧ IsCell c.2.2.1 ∧ IsCell c.2.2.2)
        (fun c => Typ rs c.1.cps.toList ∧ c.1.length ≤ 250 ∧ IsCell c.2.2.1 ∧ IsCell c.2.2.2)
        (Str.ofString "", _, w0, w1) ?hEU2 ?hgoU2 rfl hR' hsm (rangeSize_nat _ _) ?kFU2 ?kNU2 ?hmU2 ?hNU2 ?hiU2 ?hfinU2 ?turnU2 ?afterU2
      case hEU2 => passes_own
      case hgoU2 => exact fun _ _ => rfl
      (case kFU2 => k_asm)
      (case kNU2 => k_asm)
      case hmU2 =>
        (try dsimp only)
        walk_at "my vals"
      case hNU2 =>
        (try dsimp only)
        walk_at "my sub"
      case hiU2 =>
        refine ⟨typ_0, by rw [len_lit_e]; omega, ?_, ?_⟩ <;> (dsimp only [IsCell]; exact ⟨_, by with_reducible assumption⟩)
      case hfinU2 =>
        rintro c ⟨a1, a2, a3, a4⟩
        rw [hnl] at a1 a2
        exact ⟨typ_all a1 (by omega), by omega, a3, a4⟩
      case afterU2 =>
        rintro ⟨pg, tpg, q0, q1⟩ u1 h1 tk1 ⟨hTyp, hpl, hq0, hq1⟩ F₂ N₂
        dsimp only [kstB] at F₂ N₂ hTyp hpl hq0 hq1
        replace F₂ : Fr s1.heap s1.heap.objs.size h1 _ := F₂
        replace N₂ : News s1.heap s1.heap.objs.size h1 _ := N₂
        clear FF1 NN1 hR' hRg hsm
        (try dsimp only)
        obtain ⟨y0, hq0'⟩ := hq0
        obtain ⟨y1, hq1'⟩ := hq1
        have ht1 : ∀ q ∈ tups, q.1 ≠ s1.heap.objs.size + 1 := fun q hq => hap q hq (s1.heap.objs.size + 1, w0) (by k_mem)
        have hD1 : NeQ (s1.heap.objs.size + 1) D := offD2 (s1.heap.objs.size + 1, w0) (by k_mem)
        have ht2 : ∀ q ∈ tups, q.1 ≠ s1.heap.objs.size + 1 + 1 := fun q hq => hap q hq (s1.heap.objs.size + 1 + 1, w1) (by k_mem)
        have hD2 : NeQ (s1.heap.objs.size + 1 + 1) D := offD2 (s1.heap.objs.size + 1 + 1, w1) (by k_mem)
        have ht3 : ∀ q ∈ tups, q.1 ≠ s1.heap.objs.size + 1 + 1 + 1 := fun q hq => hap q hq (s1.heap.objs.size + 1 + 1 + 1, w2) (by k_mem)
        have hD3 : NeQ (s1.heap.objs.size + 1 + 1 + 1) D := offD2 (s1.heap.objs.size + 1 + 1 + 1, w2) (by k_mem)
        have ht4 : ∀ q ∈ tups, q.1 ≠ s1.heap.objs.size + 1 + 1 + 1 + 1 := fun q hq => hap q hq (s1.heap.objs.size + 1 + 1 + 1 + 1, w3) (by k_mem)
        have hD4 : NeQ (s1.heap.objs.size + 1 + 1 + 1 + 1) D := offD2 (s1.heap.objs.size + 1 + 1 + 1 + 1, w3) (by k_mem)
        iterate 17 (first | (k_unfold; (try dsimp only)) | walk1 | (dsimp only; walk1))
        rename_i lL hh1 FFx NNx l1L
        iterate 1 (first | (k_unfold; (try dsimp only)) | walk1 | (dsimp only; walk1))
        rename Obj => oLd
        rename _ = Data.cell (some (Value.ref lL)) => hcL
        iterate 2 (first | (k_unfold; (try dsimp only)) | walk1 | (dsimp only; walk1))
        k_here
        refine' For_C ?_
        iterate 7 (first | (k_unfold; (try dsimp only)) | walk1 | (dsimp only; walk1))
        rename IsRange _ _ _ _ _ _ _ _ => hRg
        rename Fr _ _ _ _ => FF1
        rename News _ _ _ _ => NN1
        have hR' : IsRange _ _ (0 : Int) 7 1 _ _ _ := hRg
        have hfar : Far lL (s1.heap.objs.size + 1) (s1.heap.objs.size + 1 + 1) (s1.heap.objs.size + 1 + 1 + 1) (s1.heap.objs.size + 1 + 1 + 1 + 1) tups := fun q hq => ⟨Nat.ne_of_lt (allLt_mem l1L.2.2.2.2.2.2.2 q hq), ht1 q hq, ht2 q hq, ht3 q hq, ht4 q hq⟩
        have hok : ∀ q ∈ rs, RowOk q := hrs.ok
        refine' loopC_range (σ := St3) (n := 7) (fun c => (lL, PySem.W.listOf c.arr c.n) :: (s1.heap.objs.size + 1, q0) :: (s1.heap.objs.size + 1 + 1, c.od) :: (s1.heap.objs.size + 1 + 1 + 1, oLd) :: (s1.heap.objs.size + 1 + 1 + 1 + 1, w3) :: (D, LCg.lst ys) :: c.big)
          (fun c => [(Str.ofString "page", .str c.p c.tp), (Str.ofString "mail", .str c.m c.tm), (Str.ofString "rows", .ref D)])
          (fun i c => Pg3I rs i c.p c.m ∧ LeadsAt W.params 100 c.big c.arr.toList rs i ∧ (∀ q ∈ tups, q ∈ c.big) ∧ Far lL (s1.heap.objs.size + 1) (s1.heap.objs.size + 1 + 1) (s1.heap.objs.size + 1 + 1 + 1) (s1.heap.objs.size + 1 + 1 + 1 + 1) c.big ∧ IsCell c.od)
          (fun c => LeadsAt W.params 100 c.big c.arr.toList rs 7 ∧ (∀ q ∈ tups, q ∈ c.big) ∧ Far lL (s1.heap.objs.size + 1) (s1.heap.objs.size + 1 + 1) (s1.heap.objs.size + 1 + 1 + 1) (s1.heap.objs.size + 1 + 1 + 1 + 1) c.big ∧ IsCell c.od)
          ⟨pg, _, fixE pg, _, #[], 0, tups, q1⟩ ?hEU4 ?hgoU4 rfl hR' (by decide) (by rfl) ?kFU4 ?kNU4 ?hmU4 ?hNU4 ?hiU4 ?hfinU4 ?turnU4 ?afterU4
        case hEU4 => passes_own
        case hgoU4 => exact fun _ _ => rfl
        (case kFU4 => k_asm)
        (case kNU4 => k_asm)
        case hmU4 =>
          (try dsimp only)
          walk_at "my vals"
        case hNU4 =>
          (try dsimp only)
          walk_at "my sub"
        case hiU4 => exact ⟨pg3_0 hTyp hok hpl, leadsAt_0 _ _ _ _, fun _ h => h, hfar, ⟨_, hq1'⟩⟩
        case hfinU4 => exact fun c hc => hc.2
        case afterU4 =>
          rintro ⟨p, tp, m, tm, arr, nn, big, od⟩ u2 h2 tk2 ⟨hLs, hTb, hFar, hod⟩ F₃ N₃
          dsimp only [kstB] at F₃ N₃ hLs hTb hFar hod
          replace F₃ : Fr s1.heap s1.heap.objs.size h2 _ := F₃
          replace N₃ : News s1.heap s1.heap.objs.size h2 _ := N₃
          clear FF1 NN1 hR' hRg
          (try dsimp only)
          obtain ⟨y6, hod⟩ := hod
          have hy5 : ys.length ≤ 1000 := by omega
          iterate 15 (first | (k_unfold; (try dsimp only)) | walk1 | (dsimp only; walk1))
          rename IsRange _ _ _ _ _ _ _ _ => hRg
          rename Fr _ _ _ _ => FF1
          rename News _ _ _ _ => NN1
          have hR' : IsRange _ _ (0 : Int) (ys.length : Int) 1 _ _ _ := hRg
          have hsm := small_one (a := 0) (b := (ys.length : Int)) (by omega) (by omega) (by omega) (by omega)
          refine' loopC_range (σ := Obj × Obj × Obj) (fun c => (lL, PySem.W.listOf arr nn) :: (s1.heap.objs.size + 1, c.1) :: (s1.heap.objs.size + 1 + 1, c.2.1) :: (s1.heap.objs.size + 1 + 1 + 1, oLd) :: (s1.heap.objs.size + 1 + 1 + 1 + 1, c.2.2) :: (D, LCg.lst ys) :: big)
            (fun c => [(Str.ofString "rows", .ref D)])
            (fun _ c => IsCell c.1 ∧ IsCell c.2.1 ∧ IsCell c.2.2) (fun _ => True)
            (q0, od, w3) ?hEU12 ?hgoU12 rfl hR' hsm (rangeSize_nat _ _) ?kFU12 ?kNU12 ?hmU12 ?hNU12 ?hiU12 ?hfinU12 ?turnU12 ?afterU12
          case hEU12 => passes_own
          case hgoU12 => exact fun _ _ => rfl
          (case kFU12 => k_asm)
          (case kNU12 => k_asm)
          case hmU12 =>
            (try dsimp only)
            walk_at "my vals"
          case hNU12 =>
            (try dsimp only)
            walk_at "my sub"
          case hiU12 => exact ⟨⟨_, hq0'⟩, ⟨_, hod⟩, ⟨_, by with_reducible assumption⟩⟩
          case hfinU12 => exact fun _ _ => trivial
          case afterU12 =>
            rintro c u3 h3 tk3 _ F₄ N₄
            dsimp only [kstB] at F₄ N₄
            replace F₄ : Fr s1.heap s1.heap.objs.size h3 _ := F₄
            replace N₄ : News s1.heap s1.heap.objs.size h3 _ := N₄
            clear FF1 NN1 hR' hRg hsm
            (try dsimp only)
            k_steps
            exact hT _ _ _ (by assumption)
          case turnU12 =>
            rintro i ti ⟨cP, cD, cS⟩ u3 h3 tk3 it io hlt ⟨⟨yP, hcP⟩, ⟨yD, hcD⟩, ⟨yS, hcS⟩⟩ F₄ N₄ hq
            dsimp only [kstB] at F₄ N₄ hq hcP hcD hcS
            replace F₄ : Fr s1.heap s1.heap.objs.size h3 _ := F₄
            replace N₄ : News s1.heap s1.heap.objs.size h3 _ := N₄
            clear FF1 NN1 hR' hRg hsm
            have hi5 : i < 5 := by omega
            have hi10 : i ≤ 1000 := by omega
            obtain ⟨v, hv⟩ : ∃ v, ys[i]? = some v := ⟨_, List.getElem?_eq_getElem (by omega)⟩
            obtain ⟨pt, d, r, t1, t2, n', rfl, hri, hrok, hmem⟩ := hrs.get hv
            have hd3 : d ≤ 3 := hrok.d3
            have hr20 : r.length ≤ 20 := hrok.len
            simp only [List.forall_mem_cons] at hq
            obtain ⟨z0, z1, z2, z3, z4, z5, hqt⟩ := hq
            replace z0 := neq_in z0
            replace z1 := neq_in z1
            replace z2 := neq_in z2
            replace z3 := neq_in z3
            replace z4 := neq_in z4
            replace z5 := neq_in z5
            have hmb := hTb _ hmem
            obtain ⟨b1, b2, b3, b4, b5⟩ := hFar _ hmb
            replace b1 := neq_in b1
            replace b2 := neq_in b2
            replace b3 := neq_in b3
            replace b4 := neq_in b4
            replace b5 := neq_in b5
            have hb2 : ∀ q ∈ big, q.1 ≠ s1.heap.objs.size + 1 := fun q hq => (hFar q hq).2.1
            have hb3 : ∀ q ∈ big, q.1 ≠ s1.heap.objs.size + 1 + 1 := fun q hq => (hFar q hq).2.2.1
            have hb5 : ∀ q ∈ big, q.1 ≠ s1.heap.objs.size + 1 + 1 + 1 + 1 := fun q hq => (hFar q hq).2.2.2.2
            have hpi : NeQ pt it := hqt _ hmb
            have Np : News s1.heap s1.heap.objs.size h3 ((pt, tupO d r t1 t2 n') :: (it, io) :: (lL, PySem.W.listOf arr nn) :: (s1.heap.objs.size + 1, cP) :: (s1.heap.objs.size + 1 + 1, cD) :: (s1.heap.objs.size + 1 + 1 + 1, oLd) :: (s1.heap.objs.size + 1 + 1 + 1 + 1, cS) :: (D, LCg.lst ys) :: big) := fun q hq => by
              rcases List.mem_cons.mp hq with rfl | hq
              · exact N₄ _ (by (repeat (first | exact hmb | refine List.Mem.tail _ ?_)))
              · exact N₄ q hq
            clear N₄
            iterate 2 (first | (k_unfold; (try dsimp only)) | walk1 | (dsimp only; walk1))
            rename Obj => oP
            rename _ = Data.cell (some _) => hcP'
            iterate 11 (first | (k_unfold; (try dsimp only)) | walk1 | (dsimp only; walk1))
            rename Obj => oQ
            rename _ = Data.cell (some _) => hcQ
            iterate 15 (first | (k_unfold; (try dsimp only)) | walk1 | (dsimp only; walk1))
            rename IsRange _ _ _ _ _ _ _ _ => hRg
            rename Fr _ _ _ _ => FF2
            rename News _ _ _ _ => NN2
            have hR' : IsRange _ _ (1 : Int) 5 1 _ _ _ := hRg
            refine' loopC_range (σ := Obj) (n := 4) (fun c => (pt, tupO d r t1 t2 n') :: (it, io) :: (lL, PySem.W.listOf arr nn) :: (s1.heap.objs.size + 1, oP) :: (s1.heap.objs.size + 1 + 1, oQ) :: (s1.heap.objs.size + 1 + 1 + 1, oLd) :: (s1.heap.objs.size + 1 + 1 + 1 + 1, c) :: (D, LCg.lst ys) :: big)
              (fun c => [(Str.ofString "rows", .ref D), (Str.ofString "rest", .str r t2)])
              (fun _ c => IsCell c) (fun c => IsCell c)
              cS ?hEU13 ?hgoU13 rfl hR' (by decide) (by rfl) ?kFU13 ?kNU13 ?hmU13 ?hNU13 ?hiU13 ?hfinU13 ?turnU13 ?afterU13
            case hEU13 => passes_own
            case hgoU13 => exact fun _ _ => rfl
            (case kFU13 => k_asm)
            (case kNU13 => k_asm)
            case hmU13 =>
              (try dsimp only)
              walk_at "my vals"
            case hNU13 =>
              (try dsimp only)
              walk_at "my sub"
            case hiU13 => exact ⟨_, hcS⟩
            case hfinU13 => exact fun _ hc => hc
            case afterU13 =>
              rintro cS2 u5 h5 tk5 hcS2 F₅ N₅
              dsimp only [kstB] at F₅ N₅ hcS2
              replace F₅ : Fr s1.heap s1.heap.objs.size h5 _ := F₅
              replace N₅ : News s1.heap s1.heap.objs.size h5 _ := N₅
              clear FF2 NN2 hR' hRg
              (try dsimp only)
              k_steps
              refine' turnB_next (σ := Obj × Obj × Obj) (oP, oQ, cS2) ?kF1U13 ?kN1U13 ?hm1U13 ?hN1U13 ?hne1U13 ?hi1U13
              (case kF1U13 => k_asm)
              (case kN1U13 => k_asm)
              case hm1U13 =>
                (try dsimp only)
                walk_at "my vals"
              case hN1U13 =>
                (try dsimp only)
                walk_at "my sub"
              case hne1U13 =>
                (try dsimp only)
                walk_at "my ne"
              case hi1U13 => exact ⟨⟨_, hcP'⟩, ⟨_, hcQ⟩, hcS2⟩
            case turnU13 =>
              rintro k tj cS2 u5 h5 tk5 it2 io2 hlt4 hcS2 F₅ N₅ hq2
              dsimp only [kstB] at F₅ N₅ hq2 hcS2
              replace F₅ : Fr s1.heap s1.heap.objs.size h5 _ := F₅
              replace N₅ : News s1.heap s1.heap.objs.size h5 _ := N₅
              clear FF2 NN2 hR' hRg
              obtain ⟨yS2, hcS2⟩ := hcS2
              simp only [List.forall_mem_cons] at hq2
              obtain ⟨v0, v1, v2, v3, v4, v5, v6, v7, hqt2⟩ := hq2
              replace v0 := neq_in v0
              replace v1 := neq_in v1
              replace v2 := neq_in v2
              replace v3 := neq_in v3
              replace v4 := neq_in v4
              replace v5 := neq_in v5
              replace v6 := neq_in v6
              replace v7 := neq_in v7
              iterate 2 (first | (k_unfold; (try dsimp only)) | walk1 | (dsimp only; walk1))
              rename Obj => oSz
              rename _ = Data.cell (some _) => hcS'
              iterate 2 (first | (k_unfold; (try dsimp only)) | walk1 | (dsimp only; walk1))
              refine' joinQ_K (σ := Addr × List Value) s1.heap s1.heap.objs.size (fun c => [(Str.ofString "columns", .ref c.1), (Str.ofString "rows", .ref D), (Str.ofString "rest", .str r t2)])
                (fun c => (c.1, LCg.lst c.2) :: (it2, io2) :: (pt, tupO d r t1 t2 n') :: (it, io) :: (lL, PySem.W.listOf arr nn) :: (s1.heap.objs.size + 1, oP) :: (s1.heap.objs.size + 1 + 1, oQ) :: (s1.heap.objs.size + 1 + 1 + 1, oLd) :: (s1.heap.objs.size + 1 + 1 + 1 + 1, oSz) :: (D, LCg.lst ys) :: big) (fun c => IntsAre c.2 (List.map (fun kk => ind (SL (up (d, r) kk.toNat)) (1 + (k : Int))) (rangeKs 0 7))) ?hwCU14 ?kCU14
              case hwCU14 =>
                iterate 8 (first | (k_unfold; (try dsimp only)) | walk1 | (dsimp only; walk1))
                k_here
                k_dflt (refine LCg.CompSrc.range (by rfl) (by k_asm) (by k_asm) (by assumption) (by first | decide | rfl) (by first | rfl | decide) (by first | size_fits | exact Nat.le_of_ble_eq_true rfl) ?_)
                intro g'
                refine' kcf_range (fun kk => ind (SL (up (d, r) kk.toNat)) (1 + (k : Int))) (fun kk t' I oI C oC Dq m₂ yq h tk E' hk0 hk1 hC hx F₁ N₁ off ne mk => ?_) ?_
                · have hk1' : kk < 0 + ((7 : Nat) : Int) := hk1
                  obtain ⟨lq, wsq, hl1, hl2, hl3⟩ := hLs.item kk.toNat (by omega)
                  obtain ⟨o, ho1, ok, hσ, hled⟩ := hl3.item i (d, r) hri
                  have Nx : News s1.heap s1.heap.objs.size h ((lq, LCg.lst wsq) :: (o.led W.params 100 ++ ((I, oI) :: (C, oC) :: (Dq, LCg.lst yq) :: (it2, io2) :: (pt, tupO d r t1 t2 n') :: (it, io) :: (lL, PySem.W.listOf arr nn) :: (s1.heap.objs.size + 1, oP) :: (s1.heap.objs.size + 1 + 1, oQ) :: (s1.heap.objs.size + 1 + 1 + 1, oLd) :: (s1.heap.objs.size + 1 + 1 + 1 + 1, oSz) :: (D, LCg.lst ys) :: big))) := fun q hq => N₁ q (by
                    have bg : ∀ z ∈ big, z ∈ (I, oI) :: (C, oC) :: (Dq, LCg.lst yq) :: (it2, io2) :: (pt, tupO d r t1 t2 n') :: (it, io) :: (lL, PySem.W.listOf arr nn) :: (s1.heap.objs.size + 1, oP) :: (s1.heap.objs.size + 1 + 1, oQ) :: (s1.heap.objs.size + 1 + 1 + 1, oLd) :: (s1.heap.objs.size + 1 + 1 + 1 + 1, oSz) :: (D, LCg.lst ys) :: big := fun z hz => by (repeat (first | exact hz | refine List.Mem.tail _ ?_))
                    rcases List.mem_cons.mp hq with rfl | hq
                    · exact bg _ hl2
                    · rcases List.mem_append.mp hq with hq | hq
                      · exact bg _ (hled q hq)
                      · exact hq)
                  dsimp only [WsO.led, List.cons_append, List.nil_append] at Nx
                  clear N₁
                  repeat (first | (k_unfold; (try dsimp only)) | walk1 | (dsimp only; walk1))
                  exact ⟨rfl, _, by rw [hσ]⟩
                · unfold KPfDone
                  intro yq hIq
                  unfold LCg.FinA
                  intro Dc hc tkc Fc Nc oc
                  refine' joinQ_end (σ := Addr × List Value) (Dc, yq) ?kF1U14 ?kN1U14 ?hm1U14 ?hN1U14 ?hp1U14
                  (case kF1U14 => k_asm)
                  (case kN1U14 => k_asm)
                  case hm1U14 =>
                    (try dsimp only)
                    walk_at "my vals"
                  case hN1U14 =>
                    (try dsimp only)
                    walk_at "my sub"
                  case hp1U14 => exact hIq
              rintro ⟨lC, yC⟩ u6 h6 tk6 hIc F₆ N₆
              dsimp only [kstB] at F₆ N₆ hIc
              replace F₆ : Fr s1.heap s1.heap.objs.size h6 _ := F₆
              replace N₆ : News s1.heap s1.heap.objs.size h6 _ := N₆
              (try dsimp only)
              rename Fr _ _ _ _ => F₆
              have hk4 : k ≤ 3 := by omega
              have hcp : 1 ≤ 1 + (k : Int) ∧ 1 + (k : Int) ≤ 100 ∧ r.length ≤ 2 ^ 15 := ⟨by omega, by omega, by omega⟩
              iterate 8 (first | (k_unfold; (try dsimp only)) | walk1 | (dsimp only; walk1))
              · repeat (first | (k_unfold; (try dsimp only)) | walk1 | (dsimp only; walk1))
                · refine' turnB_next (σ := Obj) oSz ?kF1U16 ?kN1U16 ?hm1U16 ?hN1U16 ?hne1U16 ?hi1U16
                  (case kF1U16 => k_asm)
                  (case kN1U16 => k_asm)
                  case hm1U16 =>
                    (try dsimp only)
                    walk_at "my vals"
                  case hN1U16 =>
                    (try dsimp only)
                    walk_at "my sub"
                  case hne1U16 =>
                    (try dsimp only)
                    walk_at "my ne"
                  case hi1U16 => exact ⟨_, hcS'⟩
                · exact absurd (cols_still hrok (by assumption)) (by assumption)
              · iterate 9 (first | (k_unfold; (try dsimp only)) | walk1 | (dsimp only; walk1))
                · repeat (first | (k_unfold; (try dsimp only)) | walk1 | (dsimp only; walk1))
                  · refine' turnB_next (σ := Obj) oSz ?kF1U16 ?kN1U16 ?hm1U16 ?hN1U16 ?hne1U16 ?hi1U16
                    (case kF1U16 => k_asm)
                    (case kN1U16 => k_asm)
                    case hm1U16 =>
                      (try dsimp only)
                      walk_at "my vals"
                    case hN1U16 =>
                      (try dsimp only)
                      walk_at "my sub"
                    case hne1U16 =>
                      (try dsimp only)
                      walk_at "my ne"
                    case hi1U16 => exact ⟨_, hcS'⟩
                  · exact absurd (cols_bare hrok (by assumption) (by assumption)) (by assumption)
                · repeat (first | (k_unfold; (try dsimp only)) | walk1 | (dsimp only; walk1))
                  refine' turnB_next (σ := Obj) oSz ?kF1U16 ?kN1U16 ?hm1U16 ?hN1U16 ?hne1U16 ?hi1U16
                  (case kF1U16 => k_asm)
                  (case kN1U16 => k_asm)
                  case hm1U16 =>
                    (try dsimp only)
                    walk_at "my vals"
                  case hN1U16 =>
                    (try dsimp only)
                    walk_at "my sub"
                  case hne1U16 =>
                    (try dsimp only)
                    walk_at "my ne"
                  case hi1U16 => exact ⟨_, hcS'⟩
        case turnU4 =>
          rintro i ti ⟨p, tp, m, tm, arr, nn, big, od⟩ u2 h2 tk2 it io hlt ⟨hPg, hLs, hTb, hFar, hod⟩ F₃ N₃ hq
          dsimp only [kstB] at F₃ N₃ hq hPg hLs hTb hFar hod
          replace F₃ : Fr s1.heap s1.heap.objs.size h2 _ := F₃
          replace N₃ : News s1.heap s1.heap.objs.size h2 _ := N₃
          clear FF1 NN1 hR' hRg
          obtain ⟨y2, hod⟩ := hod
          simp only [List.forall_mem_cons] at hq
          obtain ⟨z0, z1, z2, z3, z4, z5, hqt⟩ := hq
          replace z0 := neq_in z0
          replace z1 := neq_in z1
          replace z2 := neq_in z2
          replace z3 := neq_in z3
          replace z4 := neq_in z4
          replace z5 := neq_in z5
          iterate 4 (first | (k_unfold; (try dsimp only)) | walk1 | (dsimp only; walk1))
          refine' join_K (σ := Str × Tok × Str × Tok) s1.heap s1.heap.objs.size (fun c => [(Str.ofString "page", .str c.1 c.2.1), (Str.ofString "mail", .str c.2.2.1 c.2.2.2), (Str.ofString "rows", .ref D), (Str.ofString "sent", .int (0 + (i : Int)) ti)])
            ((it, io) :: (lL, PySem.W.listOf arr nn) :: (s1.heap.objs.size + 1, q0) :: (s1.heap.objs.size + 1 + 1, od) :: (s1.heap.objs.size + 1 + 1 + 1, oLd) :: (s1.heap.objs.size + 1 + 1 + 1 + 1, w3) :: (D, LCg.lst ys) :: big)
            (fun c => Pg3M rs i c.1 c.2.2.1) ?hw0U6 ?k0U6
          case hw0U6 =>
            have hpl1 : p.length ≤ 1000 := hPg.1
            k_steps
            · refine' join_end (σ := Str × Tok × Str × Tok) (dotE (fixE p), _, dotE (fixE p), _) ?kF1U6 ?kN1U6 ?hm1U6 ?hN1U6 ?hp1U6
              (case kF1U6 => k_asm)
              (case kN1U6 => k_asm)
              case hm1U6 =>
                dsimp only
                walk_at "my vals"
              case hN1U6 => walk_at "my sub"
              case hp1U6 => exact pg3_send hok hn5 hlt hPg (by omega)
            · refine' join_end (σ := Str × Tok × Str × Tok) (p, tp, m, tm) ?kF1U6 ?kN1U6 ?hm1U6 ?hN1U6 ?hp1U6
              (case kF1U6 => k_asm)
              (case kN1U6 => k_asm)
              case hm1U6 =>
                dsimp only
                walk_at "my vals"
              case hN1U6 => walk_at "my sub"
              case hp1U6 => exact pg3_stay hPg (by omega)
          rename Fr _ _ _ _ => Fz
          rename News _ _ _ _ => Nz
          clear Fz Nz
          rintro ⟨p', tp', m', tm'⟩ u3 h3 tk3 hPm F₄ N₄
          dsimp only [kstB] at F₄ N₄ hPm
          (try clear F₃ N₃)
          clear hPg
          obtain ⟨hPm1, hPm2, hPm3⟩ := hPm
          replace F₄ : Fr s1.heap s1.heap.objs.size h3 _ := F₄
          replace N₄ : News s1.heap s1.heap.objs.size h3 _ := N₄
          iterate 5 (first | (k_unfold; (try dsimp only)) | walk1 | (dsimp only; walk1))
          k_here
          refine' For_C ?_
          iterate 1 (first | (k_unfold; (try dsimp only)) | walk1 | (dsimp only; walk1))
          rename Fr _ _ _ _ => FF6
          rename News _ _ _ _ => NN6
          refine' loopT_list (ax := D) (ao := LCg.lst ys) (vs := ys.toArray) (σ := Str × Tok × Obj) (fun c => (it, io) :: (lL, PySem.W.listOf arr nn) :: (s1.heap.objs.size + 1, q0) :: (s1.heap.objs.size + 1 + 1, c.2.2) :: (s1.heap.objs.size + 1 + 1 + 1, oLd) :: (s1.heap.objs.size + 1 + 1 + 1 + 1, w3) :: (D, LCg.lst ys) :: big)
            (fun c => [(Str.ofString "told", .str c.1 c.2.1), (Str.ofString "page", .str p' tp'), (Str.ofString "mail", .str m' tm'), (Str.ofString "rows", .ref D), (Str.ofString "sent", .int (0 + (i : Int)) ti)])
            (fun j c => Tld rs i j c.1 ∧ IsCell c.2.2) (fun c => Tld rs i ys.length c.1 ∧ IsCell c.2.2)
            (Str.ofString "", _, od) ?hEU6 ?hgoU6 rfl ?haoU6 ?kFU6 ?kNU6 ?hfxU6 ?hmU6 ?hNU6 ?hiU6 ?hfinU6 ?turnU6 ?afterU6
          case hEU6 => passes_own
          case hgoU6 =>
            intro z v hv
            obtain ⟨pt, _, _, _, _, _, rfl, _⟩ := hrs.get (show ys[z]? = some v by simpa using hv)
            exact ⟨pt, rfl⟩
          (case haoU6 => exact ⟨rfl, _, rfl⟩)
          (case kFU6 => k_asm)
          (case kNU6 => k_asm)
          (case hfxU6 => exact fun _ => by (repeat (first | exact .head _ | refine List.Mem.tail _ ?_)))
          case hmU6 =>
            (try dsimp only)
            walk_at "my vals"
          case hNU6 =>
            (try dsimp only)
            walk_at "my sub"
          case hiU6 => exact ⟨tld_0, ⟨_, hod⟩⟩
          case hfinU6 => exact fun c hc => ⟨by have := hc.1; rwa [List.size_toArray] at this, hc.2⟩
          case afterU6 =>
            rintro ⟨td, ttd, od2⟩ u4 h4 tk4 ⟨hTd, hod2⟩ F₅ N₅
            dsimp only [kstB] at F₅ N₅ hTd hod2
            replace F₅ : Fr s1.heap s1.heap.objs.size h4 _ := F₅
            replace N₅ : News s1.heap s1.heap.objs.size h4 _ := N₅
            clear FF6 NN6
            (try dsimp only)
            have hmt : m' = td := tld_all hTd (by omega) hPm3
            subst hmt
            have hml : m'.length ≤ 1000 := pg3_mlen hok hn5 hlt hPm3
            obtain ⟨y5, hod2'⟩ := hod2
            iterate 16 (first | (k_unfold; (try dsimp only)) | walk1 | (dsimp only; walk1))
            k_here
            k_dflt (refine' ListComp_LL (m := _) ?kFU9 ?hclosU9 ?hcellU9 ?hkindU9 ?hnamesU9 ?hxU9 ?_ ?hsU9)
            (case hsU9 => intro _; exact rfl)
            (case kFU9 => k_asm)
            (case hclosU9 => with_unfolding_all exact rfl)
            (case hcellU9 => decide)
            (case hkindU9 => exact rfl)
            (case hnamesU9 => decide)
            (case hxU9 => exact rfl)
            iterate 9 (first | (k_unfold; (try dsimp only)) | walk1 | (dsimp only; walk1))
            rename RowsV _ _ _ => hRV
            rename List Value => vs9
            have hvs1 := Nat.le_trans (show ys.length ≤ rs.length + 1 by omega) (Nat.le_of_eq hRV.len.symm)
            have hvs2 := Nat.le_trans (Nat.le_of_eq hRV.len) (show rs.length + 1 ≤ 1000 by omega)
            iterate 13 (first | (k_unfold; (try dsimp only)) | walk1 | (dsimp only; walk1))
            rename_i Ds hh9 FF9 NN9 ll9
            have htl : (List.take ys.length vs9).length = ys.length := by rw [List.length_take]; omega
            have NX : News s1.heap s1.heap.objs.size hh9 ([(Ds, PySem.W.listOf (List.take ys.length vs9).toArray 0), (it, io), (lL, PySem.W.listOf arr nn), (s1.heap.objs.size + 1, q0), (s1.heap.objs.size + 1 + 1, od2), (s1.heap.objs.size + 1 + 1 + 1, oLd), (s1.heap.objs.size + 1 + 1 + 1 + 1, w3), (D, LCg.lst ys)] ++ ([] ++ big)) := by
              refine news_sub NN9 ?_
              dsimp only [List.cons_append, List.nil_append]
              walk_at "my sub"
            k_dflt (refine' SrcLL.intro (nw := [(Ds, PySem.W.listOf (List.take ys.length vs9).toArray 0), (it, io), (lL, PySem.W.listOf arr nn), (s1.heap.objs.size + 1, q0), (s1.heap.objs.size + 1 + 1, od2), (s1.heap.objs.size + 1 + 1 + 1, oLd), (s1.heap.objs.size + 1 + 1 + 1 + 1, w3), (D, LCg.lst ys)] ++ ([] ++ big)) ?haoU9 ?hhU9 ?FU9 NX ?hmU9 ?szU9 ?_)
            (case hhU9 => exact rfl)
            (case FU9 => k_asm)
            (case hmU9 => exact .head _)
            (case haoU9 => exact ⟨rfl, _, rfl⟩)
            (case szU9 => (rw [sizeLine_eq]; simp only [List.size_toArray]; omega))
            intro g
            refine RestL.ind (fun j ws nw => ∃ lg, nw = [(Ds, PySem.W.listOf (List.take ys.length vs9).toArray 0), (it, io), (lL, PySem.W.listOf arr nn), (s1.heap.objs.size + 1, q0), (s1.heap.objs.size + 1 + 1, od2), (s1.heap.objs.size + 1 + 1 + 1, oLd), (s1.heap.objs.size + 1 + 1 + 1 + 1, w3), (D, LCg.lst ys)] ++ (lg ++ big) ∧ Far lL (s1.heap.objs.size + 1) (s1.heap.objs.size + 1 + 1) (s1.heap.objs.size + 1 + 1 + 1) (s1.heap.objs.size + 1 + 1 + 1 + 1) lg ∧ (∀ q ∈ lg, q.1 ≠ it) ∧ WsAt W.params 100 lg ws (rs.take j) i) ?h0U9 ?turnU9 ?finU9
            case h0U9 => exact ⟨[], rfl, far_nil _ _ _ _ _, List.forall_mem_nil _, wsAt_nil _ _ _ _⟩
            case turnU9 =>
              rintro j ws nw ⟨lg, rfl, hfl, hlit, hws⟩ v I oI C oC Dq m₂ h tk E' hv hC hx F₁ N₁ off
              have hjn : j < ys.length := by
                have := (Array.getElem?_eq_some_iff.mp hv).1
                simp only [List.size_toArray] at this; omega
              obtain ⟨q, hq⟩ : ∃ q, rs[j]? = some q := ⟨_, List.getElem?_eq_getElem (by omega)⟩
              obtain ⟨x9, t9, hx9, hxr⟩ := hRV.item j q hq
              obtain rfl : v = .str x9 t9 := by
                have : (List.take ys.length vs9)[j]? = some v := by simpa using hv
                rw [List.getElem?_take_of_lt hjn, hx9] at this
                exact (Option.some.inj this).symm
              have hqok : RowOk q := hok q (List.mem_of_getElem? hq)
              have hxl : x9.length ≤ 1000 := by rw [str_len, hxr]; have := rowP_len hqok i; omega
              clear FF9 NN9 NX
              dsimp only [List.cons_append, List.nil_append] at N₁
              iterate 18 (first | (k_unfold; (try dsimp only)) | walk1 | (dsimp only; walk1))
              rename WsO => o9
              rename WsO.Ok _ => ok9
              rename WsO.σ _ = wsOf _ => es9
              rename ApLed _ _ => ap9
              have hσ9 : o9.σ = SL (up q i) := es9.trans (row3_ws hqok hxr)
              refine' EndL.put (E9 := [(Ds, PySem.W.listOf (List.take ys.length vs9).toArray 0), (it, io), (lL, PySem.W.listOf arr nn), (s1.heap.objs.size + 1, q0), (s1.heap.objs.size + 1 + 1, od2), (s1.heap.objs.size + 1 + 1 + 1, oLd), (s1.heap.objs.size + 1 + 1 + 1 + 1, w3), (D, LCg.lst ys)]) (lg := lg) (big := big) (WsO.led W.params 100 o9) ?FU10 ?NU10 ?apU10 off ?hsU10 ?rU10
              (case FU10 => k_asm)
              (case NU10 => k_asm)
              (case apU10 => exact ap9)
              (case hsU10 => exact .head _)
              case rU10 =>
                refine ⟨o9.led W.params 100 ++ lg, rfl, far_app (far_led ap9 (by k_mem) (by k_mem) (by k_mem) (by k_mem) (by k_mem)) hfl, fun z hz => (List.mem_append.mp hz).elim (fun hz => ap9 z hz (it, io) (by k_mem)) (hlit z), ?_⟩
                rw [List.take_add_one, hq]
                exact (hws.mono fun z hz => List.mem_append_right _ hz).snoc ok9 hσ9 fun z hz => List.mem_append_left _ hz
            case finU9 =>
              rintro ws nw ⟨lg, rfl, hfl, hlit, hws⟩ Dn h tk F₁ N₁ offD
              clear FF9 NN9 NX
              have hrt : rs.take ys.length = rs := List.take_of_length_le (by omega)
              have hsz9 : (List.take ys.length vs9).toArray.size = ys.length := by rw [List.size_toArray]; exact htl
              rw [hsz9, hrt] at hws
              have hasz : arr.size ≤ 16777216 := by have := hLs.len; rw [Array.length_toList] at this; omega
              have hnL : NeQ lL Dn := offD (lL, PySem.W.listOf arr nn) (by k_mem)
              have hfb : Far lL (s1.heap.objs.size + 1) (s1.heap.objs.size + 1 + 1) (s1.heap.objs.size + 1 + 1 + 1) (s1.heap.objs.size + 1 + 1 + 1 + 1) (lg ++ big) := far_app hfl hFar
              have htail : ∀ q ∈ lg ++ big, q.1 ≠ lL := fun q hq => (hfb q hq).1
              have htit : ∀ q ∈ lg ++ big, q.1 ≠ it := fun q hq => (List.mem_append.mp hq).elim (hlit q) (hqt q)
              have hoS1 : NeQ (s1.heap.objs.size + 1) Dn := offD (s1.heap.objs.size + 1, q0) (by k_mem)
              have hoS2 : NeQ (s1.heap.objs.size + 1 + 1) Dn := offD (s1.heap.objs.size + 1 + 1, od2) (by k_mem)
              have hoS3 : NeQ (s1.heap.objs.size + 1 + 1 + 1) Dn := offD (s1.heap.objs.size + 1 + 1 + 1, oLd) (by k_mem)
              have hoS4 : NeQ (s1.heap.objs.size + 1 + 1 + 1 + 1) Dn := offD (s1.heap.objs.size + 1 + 1 + 1 + 1, w3) (by k_mem)
              have hoit : NeQ it Dn := offD (it, io) (by k_mem)
              have NY : News s1.heap s1.heap.objs.size h ((Dn, LCg.lst ws) :: (it, io) :: (lL, PySem.W.listOf arr nn) :: (s1.heap.objs.size + 1, q0) :: (s1.heap.objs.size + 1 + 1, od2) :: (s1.heap.objs.size + 1 + 1 + 1, oLd) :: (s1.heap.objs.size + 1 + 1 + 1 + 1, w3) :: (D, LCg.lst ys) :: (lg ++ big)) := by
                refine news_sub N₁ ?_
                dsimp only [List.cons_append, List.nil_append]
                walk_at "my sub"
              clear N₁ offD
              k_steps
              refine' turnB_next (σ := St3) ⟨p', tp', m', tm', arr.push (.ref Dn), nn + 1, (Dn, LCg.lst ws) :: (lg ++ big), od2⟩ ?kF1U11 ?kN1U11 ?hm1U11 ?hN1U11 ?hne1U11 ?hi1U11
              (case kF1U11 => k_asm)
              (case kN1U11 => k_asm)
              case hm1U11 =>
                (try dsimp only)
                walk_at "my vals"
              case hN1U11 =>
                (try dsimp only)
                walk_at "my sub"
              case hne1U11 =>
                (try dsimp only)
                walk_at "my ne"
              case hi1U11 =>
                refine ⟨pg3_next ⟨hPm1, hPm2, hPm3⟩, ?_, fun z hz => .tail _ (List.mem_append_right _ (hTb z hz)), ?_, ⟨_, hod2'⟩⟩
                · dsimp only
                  rw [Array.toList_push]
                  exact (hLs.mono fun z hz => .tail _ (List.mem_append_right _ hz)).snoc (.head _) (hws.mono fun z hz => .tail _ (List.mem_append_left _ hz))
                · exact List.forall_mem_cons.mpr ⟨⟨neq_symm hnL, neq_symm hoS1, neq_symm hoS2, neq_symm hoS3, neq_symm hoS4⟩, hfb⟩
          case turnU6 =>
            rintro j v ⟨td, ttd, od2⟩ u4 h4 tk4 it2 io2 hv ⟨hTd, hod2⟩ F₅ N₅ hq2
            dsimp only [kstB] at F₅ N₅ hq2 hTd hod2
            replace F₅ : Fr s1.heap s1.heap.objs.size h4 _ := F₅
            replace N₅ : News s1.heap s1.heap.objs.size h4 _ := N₅
            clear FF6 NN6
            obtain ⟨y3, hod2⟩ := hod2
            obtain ⟨pt, d, r, t1, t2, n', rfl, hri, hrok, hmem⟩ := hrs.get (show ys[j]? = some v by simpa using hv)
            have hd3 : d ≤ 3 := hrok.d3
            have hr20 : r.length ≤ 20 := hrok.len
            have hj5 : j < 5 := by
              have := (List.getElem?_eq_some_iff.mp hri).1
              omega
            have htd : td.length ≤ 250 := by have := hTd.2; omega
            simp only [List.forall_mem_cons] at hq2
            obtain ⟨v0, v1, v2, v3, v4, v5, v6, hqt2⟩ := hq2
            replace v0 := neq_in v0
            replace v1 := neq_in v1
            replace v2 := neq_in v2
            replace v3 := neq_in v3
            replace v4 := neq_in v4
            replace v5 := neq_in v5
            replace v6 := neq_in v6
            have hmb := hTb _ hmem
            obtain ⟨b1, b2, b3, b4, b5⟩ := hFar _ hmb
            replace b1 := neq_in b1
            replace b2 := neq_in b2
            replace b3 := neq_in b3
            replace b4 := neq_in b4
            replace b5 := neq_in b5
            have hb3 : ∀ q ∈ big, q.1 ≠ s1.heap.objs.size + 1 + 1 := fun q hq => (hFar q hq).2.2.1
            have hpi : NeQ pt it2 := hqt2 _ hmb
            have hpi1 : NeQ pt it := hqt _ hmb
            have Np : News s1.heap s1.heap.objs.size h4 ((pt, tupO d r t1 t2 n') :: (it2, io2) :: (it, io) :: (lL, PySem.W.listOf arr nn) :: (s1.heap.objs.size + 1, q0) :: (s1.heap.objs.size + 1 + 1, od2) :: (s1.heap.objs.size + 1 + 1 + 1, oLd) :: (s1.heap.objs.size + 1 + 1 + 1 + 1, w3) :: (D, LCg.lst ys) :: big) := fun q hq => by
              rcases List.mem_cons.mp hq with rfl | hq
              · exact N₅ _ (by (repeat (first | exact hmb | refine List.Mem.tail _ ?_)))
              · exact N₅ q hq
            clear N₅
            have hdi : (d : Int) + (0 + (i : Int)) = ((d + i : Nat) : Int) := by omega
            k_steps
            · rename Obj => oX
              rename _ = Data.cell (some (Value.int (d : Int) _)) => hcX
              refine' turnB_next (σ := Str × Tok × Obj) (td ++ dotS (d + i) ++ r ++ Str.ofString "a.\r\n", _, oX) ?kF1U8 ?kN1U8 ?hm1U8 ?hN1U8 ?hne1U8 ?hi1U8
              (case kF1U8 => k_asm)
              (case kN1U8 => k_asm)
              case hm1U8 =>
                (try dsimp only)
                walk_at "my vals"
              case hN1U8 =>
                (try dsimp only)
                walk_at "my sub"
              case hne1U8 =>
                (try dsimp only)
                walk_at "my ne"
              case hi1U8 => exact ⟨tld_dots hTd hri (by omega) hd3 hlt hr20, ⟨_, hcX⟩⟩
            · rename Obj => oX
              rename _ = Data.cell (some (Value.int (d : Int) _)) => hcX
              refine' turnB_next (σ := Str × Tok × Obj) (td ++ r ++ Str.ofString "a.\r\n", _, oX) ?kF1U8 ?kN1U8 ?hm1U8 ?hN1U8 ?hne1U8 ?hi1U8
              (case kF1U8 => k_asm)
              (case kN1U8 => k_asm)
              case hm1U8 =>
                (try dsimp only)
                walk_at "my vals"
              case hN1U8 =>
                (try dsimp only)
                walk_at "my sub"
              case hne1U8 =>
                (try dsimp only)
                walk_at "my ne"
              case hi1U8 => exact ⟨tld_none hTd hri (by omega) hr20, ⟨_, hcX⟩⟩
      case turnU2 =>
        rintro i ti ⟨pg, tpg, q0, q1⟩ u1 h1 tk1 it io hlt ⟨hTyp, hpl, hq0, hq1⟩ F₂ N₂ hq
        dsimp only [kstB] at F₂ N₂ hq hTyp hpl hq0 hq1
        replace F₂ : Fr s1.heap s1.heap.objs.size h1 _ := F₂
        replace N₂ : News s1.heap s1.heap.objs.size h1 _ := N₂
        clear FF1 NN1 hR' hRg hsm
        have hi5 : i < 5 := by omega
        have hpl2 : pg.length ≤ 250 := by omega
        have hi10 : i ≤ 1000 := by omega
        obtain ⟨v, hv⟩ : ∃ v, ys[i]? = some v := ⟨_, List.getElem?_eq_getElem (by omega)⟩
        obtain ⟨p, d, r, t1, t2, n', rfl, hri, hok, hmem⟩ := hrs.get hv
        have hd3 : d ≤ 3 := hok.d3
        have hr20 : r.length ≤ 20 := hok.len
        obtain ⟨vn, hvn⟩ : ∃ v, wsn[i]? = some v := ⟨_, List.getElem?_eq_getElem (by omega)⟩
        obtain ⟨kn, tn, rfl, hkn⟩ := ints_mem hIn hvn
        obtain ⟨y0, hq0⟩ := hq0
        obtain ⟨y1, hq1⟩ := hq1
        simp only [List.forall_mem_cons] at hq
        obtain ⟨z0, z1, z2, z3, z4, z5, z6, hqt⟩ := hq
        replace z0 := neq_in z0
        replace z1 := neq_in z1
        replace z2 := neq_in z2
        replace z3 := neq_in z3
        replace z4 := neq_in z4
        replace z5 := neq_in z5
        replace z6 := neq_in z6
        have hpt : (p, tupO d r t1 t2 n') ∈ tups := hmem
        have hp1 : NeQ p (s1.heap.objs.size + 1) := hap _ hmem (s1.heap.objs.size + 1, w0) (by k_mem)
        have hp2 : NeQ p (s1.heap.objs.size + 1 + 1) := hap _ hmem (s1.heap.objs.size + 1 + 1, w1) (by k_mem)
        have ht1 : ∀ q ∈ tups, q.1 ≠ s1.heap.objs.size + 1 := fun q hq => hap q hq (s1.heap.objs.size + 1, w0) (by k_mem)
        have ht2 : ∀ q ∈ tups, q.1 ≠ s1.heap.objs.size + 1 + 1 := fun q hq => hap q hq (s1.heap.objs.size + 1 + 1, w1) (by k_mem)
        have hD1 : NeQ (s1.heap.objs.size + 1) D := offD2 (s1.heap.objs.size + 1, w0) (by k_mem)
        have hD2 : NeQ (s1.heap.objs.size + 1 + 1) D := offD2 (s1.heap.objs.size + 1 + 1, w1) (by k_mem)
        have Np : News s1.heap s1.heap.objs.size h1 ((p, tupO d r t1 t2 n') :: (it, io) :: (s1.heap.objs.size + 1, q0) :: (s1.heap.objs.size + 1 + 1, q1) :: (s1.heap.objs.size + 1 + 1 + 1, w2) :: (s1.heap.objs.size + 1 + 1 + 1 + 1, w3) :: (D, LCg.lst ys) :: (lE, PySem.W.listOf #[Value.str (Str.ofString "\x0d\n") tkE, Value.str (Str.ofString "\n") (tkE + 1), Value.str (Str.ofString "\x0d") (tkE + 1 + 1)] 0) :: (lN, PySem.W.listOf wsn.toArray 0) :: tups) := fun q hq => by
          rcases List.mem_cons.mp hq with rfl | hq
          · exact N₂ _ (by (repeat (first | exact hpt | refine List.Mem.tail _ ?_)))
          · exact N₂ q hq
        have hpi : NeQ p it := hqt _ hpt
        clear N₂
        iterate 2 (first | (k_unfold; (try dsimp only)) | walk1 | (dsimp only; walk1))
        rename Obj => oP
        rename _ = Data.cell (some _) => hcP
        iterate 11 (first | (k_unfold; (try dsimp only)) | walk1 | (dsimp only; walk1))
        rename Obj => oQ
        rename _ = Data.cell (some _) => hcQ
        k_steps
        rename EndS _ => hEnd
        rename Str => eS
        refine' turnB_next (σ := Str × Tok × Obj × Obj) (pg ++ dotS d ++ r ++ Str.ofString "a." ++ eS, _, oP, oQ) ?kF1U3 ?kN1U3 ?hm1U3 ?hN1U3 ?hne1U3 ?hi1U3
        (case kF1U3 => k_asm)
        (case kN1U3 => k_asm)
        case hm1U3 =>
          (try dsimp only)
          walk_at "my vals"
        case hN1U3 =>
          (try dsimp only)
          walk_at "my sub"
        case hne1U3 =>
          (try dsimp only)
          walk_at "my ne"
        case hi1U3 =>
          have := hEnd.len
          refine ⟨typ_turn hTyp hri hEnd, ?_, ⟨_, hcP⟩, ⟨_, hcQ⟩⟩
          simp only [Str.length_append, len_lit_ad, dotS_len]; omega)
end
end Mine
theorem PySem.Challenge.cw_pe0140_03_holds : PySem.Challenge.rw_pe0140_03.Holds :=
  Mine.law3
