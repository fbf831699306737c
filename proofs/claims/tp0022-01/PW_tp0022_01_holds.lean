import PyProof.Rows.All
import PySem.Builtin.Re_Pattern.W2All
import Flt.Mod
import Wide.All
import OpenK.AllK
import Wide.FinOn
import PySem.Challenge.RW_tp0022_01
set_option Elab.async false
set_option linter.unusedVariables false
set_option linter.unusedSimpArgs false
section
namespace Mine
open PySem PySem.Sre

theorem runFor_done (m : M) (h : m.outcome.isSome = true) : ∀ n, m.runFor n = m
  | 0 => rfl
  | n + 1 => by show (if m.outcome.isSome then m else _) = m; rw [if_pos h]

theorem runFor_succ (m : M) (n : Nat) (h : m.outcome = none) : m.runFor (n + 1) = m.step.runFor n := by
  show (if m.outcome.isSome then m else _) = _
  rw [if_neg (by rw [h]; decide)]

theorem runFor_add : ∀ (a b : Nat) (m : M), m.runFor (a + b) = (m.runFor a).runFor b
  | 0, b, m => by rw [Nat.zero_add]; rfl
  | a + 1, b, m => by
    by_cases h : m.outcome.isSome = true
    · rw [runFor_done m h, runFor_done m h, runFor_done m h]
    · have h' : m.outcome = none := by cases e : m.outcome with | none => rfl | some _ => rw [e] at h; exact absurd rfl h
      rw [show a + 1 + b = (a + b) + 1 by omega, runFor_succ m _ h', runFor_succ m _ h', runFor_add a b]

/-- the machine goes from m to m' in at most n steps -/
def Goes (n : Nat) (m m' : M) : Prop := ∃ k, k ≤ n ∧ m.runFor k = m'

theorem Goes.refl (m : M) : Goes 0 m m := ⟨0, Nat.le_refl _, rfl⟩
theorem Goes.trans {a b : Nat} {m m' m'' : M} (h : Goes a m m') (h' : Goes b m' m'') : Goes (a + b) m m'' := by
  obtain ⟨k, hk, rfl⟩ := h
  obtain ⟨l, hl, rfl⟩ := h'
  exact ⟨k + l, by omega, runFor_add k l m⟩
theorem Goes.step {m m' m'' : M} {n : Nat} (h0 : m.outcome = none) (h : m.step = m') (h' : Goes n m' m'') : Goes (n + 1) m m'' := by
  obtain ⟨k, hk, rfl⟩ := h'
  exact ⟨k + 1, by omega, by rw [runFor_succ m k h0, h]⟩
theorem Goes.mono {a b : Nat} {m m' : M} (h : Goes a m m') (hab : a ≤ b) : Goes b m m' := by
  obtain ⟨k, hk, e⟩ := h
  exact ⟨k, by omega, e⟩
theorem Goes.runFor_ge {n N : Nat} {m m' : M} (h : Goes n m m') (hd : m'.outcome.isSome = true) (hN : n ≤ N) : m.runFor N = m' := by
  obtain ⟨k, hk, rfl⟩ := h
  rw [show N = k + (N - k) by omega, runFor_add, runFor_done _ hd]

def code1 : Array Nat := #[14, 4, 0, 1, 1, 6, 1, 16, 46, 1]

end Mine
end
section
open PySem PySem.Sre PySem.Builtin PySem.Builtin.Re PySem.Flt
set_option Elab.async false
set_option linter.unusedVariables false
namespace Mine
section
variable {M : Model} {A : Around} {E : Value → Shared → Prop} {s : Shared}
theorem drive {Q : Sre.M → Shared → Prop} : ∀ {n : Nat} {m m' : Sre.M}, 0 < n → m.runFor (4 * n) = m' → m'.outcome.isSome = true → Q m' s → wpAny M A (reDrive n m) Q E s
  | 0, _, _, h, _, _, _ => absurd h (Nat.lt_irrefl _)
  | n + 1, m, m', _, hr, hd, hq => by
    unfold reDrive
    have e4 : reTurnSteps = 4 := rfl
    rw [e4]
    have hsplit : (m.runFor 4).runFor (4 * n) = m' := by rw [← runFor_add, ← hr]; congr 1; omega
    cases h : (m.runFor 4).outcome.isSome with
    | true =>
      rw [runFor_done _ h] at hsplit
      dsimp only
      rw [if_pos h, hsplit]
      exact wpAny_pure hq
    | false =>
      dsimp only
      rw [if_neg (by rw [h]; decide)]
      have hn : 0 < n := by
        cases n with
        | zero => rw [← hsplit] at hd; rw [show (m.runFor 4).runFor (4 * 0) = m.runFor 4 from rfl, h] at hd; cases hd
        | succ k => exact Nat.succ_pos _
      exact wpAny_bind (wpAny_rule (drive hn hsplit hd hq))

theorem rules_pass {α : Type} (f : α → Bool) (g : α → String) {Q : PUnit → Shared → Prop} : ∀ (l : List α), Q PUnit.unit s →
    wpAny M A (forIn l PUnit.unit fun i _ => do
      if f i then rule (g i)
      pure (ForInStep.yield PUnit.unit)) Q E s
  | [], hq => wpAny_pure hq
  | a :: r, hq => by
    rw [List.forIn_cons]
    refine wpAny_bind ?_
    cases h : f a with
    | true => exact wpAny_bind (wpAny_rule (wpAny_pure (rules_pass f g r hq)))
    | false => exact wpAny_pure (rules_pass f g r hq)

theorem runToEnd {Q : Option Sre.M → Shared → Prop} {m m' : Sre.M} {k : Nat} {r : Option Sre.M} (hg : Goes k m m') (hk : k ≤ 2 ^ 64) (hd : (m'.outcome = some .matched ∧ r = some m') ∨ (m'.outcome = some .failed ∧ r = none)) (hq : Q r s) :
    wpAny M A (reRunToEnd m) Q E s := by
  have hsome : m'.outcome.isSome = true := by rcases hd with ⟨h, _⟩ | ⟨h, _⟩ <;> rw [h] <;> rfl
  unfold reRunToEnd
  refine wpAny_bind (drive (by decide) (hg.runFor_ge hsome (by omega)) hsome ?_)
  refine wpAny_bind ?_
  refine rules_pass (fun i => m'.seen.has i) (fun i => Sre.names.getD i "") _ ?_
  rcases hd with ⟨h, e⟩ | ⟨h, e⟩
  · rw [h]; subst e; exact wpAny_pure hq
  · rw [h]; subst e; exact wpAny_pure hq
end
end Mine
end
section
open PySem PySem.Sre PySem.Builtin PySem.Builtin.Re PySem.Flt
set_option Elab.async false
set_option linter.unusedVariables false
namespace Mine

/-- the search from pos over the whole text, with no must: finds (b, e), or nothing -/
def Finds (code text : Array Nat) (pos : Nat) (r : Option (Nat × Nat)) : Prop :=
  ∃ m' k, Goes k (forSearch code text 0 pos text.size false) m' ∧ k ≤ 2 ^ 64 ∧
    match r with
    | none => m'.outcome = some .failed
    | some (b, e) => m'.outcome = some .matched ∧ m'.start = b ∧ m'.handed = e

theorem step_say {m : Sre.M} {b : Bool} (ho : m.outcome = none) (ha : m.answer = some b) (hf : m.frames = []) : m.step = { m with outcome := some (if b then .matched else .failed) } := by
  unfold M.step
  rw [if_neg (by rw [ho]; decide), ha, hf]

theorem Finds.fail_now {code text : Array Nat} {pos : Nat} {m : Sre.M} (h : forSearch code text 0 pos text.size false = m) (ho : m.outcome = none) (ha : m.answer = some false) (hf : m.frames = []) : Finds code text pos none := by
  refine ⟨_, 1, Goes.step (m := forSearch code text 0 pos text.size false) (by rw [h]; exact ho) rfl (Goes.refl _), by decide, ?_⟩
  rw [h, step_say ho ha hf]; rfl

theorem finds_past {code text : Array Nat} {pos : Nat} (h : pos ≥ text.size) (hl : 1 ≤ (header code).1) : Finds code text pos none := by
  refine Finds.fail_now rfl ?_ ?_ ?_ <;>
  · unfold forSearch
    have : (decide (pos > text.size) || decide (text.size - pos < (header code).1)) = true := by
      simp only [Bool.or_eq_true, decide_eq_true_eq]; right; omega
    dsimp only
    rw [if_pos (by simpa using this)]
    rfl

/-! the sets -/
/-- the code's first set lets c through | not -/
def InFirst (code : Array Nat) (c : Nat) (b : Bool) : Prop := ∀ seen, ∃ seen', inSet code c code.size 5 true seen = .ok (b, seen')

theorem admitted_none {m : Sre.M} : ∀ {fuel s : Nat} {seen : Seen}, (∀ k, s ≤ k → k < m.lim → InFirst m.code (m.text.getD k 0) false) → ∃ seen', M.admitted m fuel s seen = .ok (none, seen')
  | 0, _, seen, _ => ⟨seen, rfl⟩
  | fuel + 1, s, seen, h => by
    unfold M.admitted
    by_cases hs : s ≥ m.lim
    · rw [if_pos hs]; exact ⟨_, rfl⟩
    · rw [if_neg hs]
      obtain ⟨seen', e⟩ := h s (Nat.le_refl _) (by omega) seen
      rw [e]
      exact admitted_none (fuel := fuel) (s := s + 1) (seen := seen') fun k hk => h k (by omega)
theorem admitted_some {m : Sre.M} {b : Nat} (hb : b < m.lim) (hin : InFirst m.code (m.text.getD b 0) true) : ∀ {fuel s : Nat} {seen : Seen}, s ≤ b → b < s + fuel → (∀ k, s ≤ k → k < b → InFirst m.code (m.text.getD k 0) false) →
    ∃ seen', M.admitted m fuel s seen = .ok (some b, seen')
  | 0, s, _, h1, h2, _ => absurd h2 (by omega)
  | fuel + 1, s, seen, h1, h2, h => by
    unfold M.admitted
    rw [if_neg (by omega)]
    by_cases hs : s = b
    · subst hs
      obtain ⟨seen', e⟩ := hin seen
      rw [e]; exact ⟨_, rfl⟩
    · obtain ⟨seen', e⟩ := h s (Nat.le_refl _) (by omega) seen
      rw [e]
      exact admitted_some hb hin (by omega) (by omega) fun k hk => h k (by omega)


/-- the machine about to look for a start -/
def m0 (code text : Array Nat) (lim body pos : Nat) : Sre.M :=
  { code, text, lim, start := pos, lastStart := lim, pc := body + 1, pos := pos, handed := pos, marks := #[], seen := ({} : Seen).add 14 }

def code2 : Array Nat := #[14, 9, 4, 1, 2, 16, 10, 16, 13, 0, 7, 7, 16, 13, 16, 10, 15, 18, 5, 16, 10, 15, 13, 11, 16, 13, 5, 5, 0, 16, 10, 1, 15, 2, 0, 1]
def codeN : Array Nat := #[14, 10, 4, 1, 1, 22, 0, 31, 16, 127, 0, 13, 7, 22, 0, 31, 16, 127, 0, 1]
def codeV : Array Nat := #[14, 14, 4, 1, 1, 9, 4294966783, 0, 0, 2147483648, 0, 0, 0, 0, 0, 13, 11, 9, 4294966783, 0, 0, 2147483648, 0, 0, 0, 0, 0, 1]
/-- a code of ours: least 1, its body -/
def Starts (code : Array Nat) (body : Nat) : Prop := (header code).1 = 1 ∧ ∀ (text : Array Nat) (pos lim : Nat), pos < lim → forSearch code text 0 pos lim false = M.attemptFrom (m0 code text lim body pos) pos true

theorem starts1 : Starts code1 4 := ⟨rfl, fun text pos lim hp => by
  unfold forSearch
  dsimp only
  rw [if_neg (by show ¬ (decide (pos > lim) || decide (lim - pos < 1)) = true; simp; omega)]
  rfl⟩
theorem starts2 : Starts code2 9 := ⟨rfl, fun text pos lim hp => by
  unfold forSearch
  dsimp only
  rw [if_neg (by show ¬ (decide (pos > lim) || decide (lim - pos < 1)) = true; simp; omega)]
  rfl⟩
theorem startsN : Starts codeN 10 := ⟨rfl, fun text pos lim hp => by
  unfold forSearch
  dsimp only
  rw [if_neg (by show ¬ (decide (pos > lim) || decide (lim - pos < 1)) = true; simp; omega)]
  rfl⟩
theorem startsV : Starts codeV 14 := ⟨rfl, fun text pos lim hp => by
  unfold forSearch
  dsimp only
  rw [if_neg (by show ¬ (decide (pos > lim) || decide (lim - pos < 1)) = true; simp; omega)]
  rfl⟩

theorem finds_none_first {code text : Array Nat} {body pos : Nat} (hs : Starts code body) (hfs : ∀ m : Sre.M, m.code = code → m.hasFirstSet = true) (h : ∀ k, pos ≤ k → k < text.size → InFirst code (text.getD k 0) false) :
    Finds code text pos none := by
  by_cases hp : pos ≥ text.size
  · exact finds_past hp (by rw [hs.1]; exact Nat.le_refl _)
  · have e := hs.2 text pos text.size (by omega)
    have key : ∃ sn, M.attemptFrom (m0 code text text.size body pos) pos true = M.say { (m0 code text text.size body pos) with seen := sn } false := by
      unfold M.attemptFrom
      rw [hfs _ rfl]
      obtain ⟨sn, e2⟩ := admitted_none (m := m0 code text text.size body pos) (fuel := text.size + 1 - pos) (s := pos) (seen := (m0 code text text.size body pos).seen) h
      refine ⟨sn, ?_⟩
      show (match M.admitted (m0 code text text.size body pos) (text.size + 1 - pos) pos (m0 code text text.size body pos).seen with
        | .ok (some s, seen) => { (m0 code text text.size body pos) with mustAdvance := false, seen }.attemptAt s true
        | .ok (none, seen) => { (m0 code text text.size body pos) with seen }.say false
        | .error why => (m0 code text text.size body pos).stick why) = _
      rw [e2]
    obtain ⟨sn, e3⟩ := key
    exact Finds.fail_now (e.trans e3) rfl rfl rfl

theorem first2 (m : Sre.M) (h : m.code = code2) : m.hasFirstSet = true := by unfold M.hasFirstSet; rw [h]; rfl
theorem firstN (m : Sre.M) (h : m.code = codeN) : m.hasFirstSet = true := by unfold M.hasFirstSet; rw [h]; rfl
theorem firstV (m : Sre.M) (h : m.code = codeV) : m.hasFirstSet = true := by unfold M.hasFirstSet; rw [h]; rfl
theorem first1 (m : Sre.M) (h : m.code = code1) : m.hasFirstSet = false := by unfold M.hasFirstSet; rw [h]; rfl

theorem inFirstN {c : Nat} (h : 32 ≤ c) (h2 : c < 127) : InFirst codeN c false := by
  intro seen
  refine ⟨((seen.add 22).add 16).add 0, ?_⟩
  have e1 : (decide (0 ≤ c) && decide (c ≤ 31)) = false := by simp; omega
  have e2 : (c == 127) = false := by simp; omega
  show (if (decide (0 ≤ c) && decide (c ≤ 31)) = true then _ else if (c == 127) = true then _ else _) = _
  rw [e1, e2]
  rfl
theorem inFirstV {c : Nat} (h : 32 ≤ c) (h2 : c < 127) : InFirst codeV c false := by
  intro seen
  refine ⟨(seen.add 9).add 0, ?_⟩
  have e1 : (decide (c < 256) && (codeV.getD (5 + (1 + c / 32)) 0).testBit (c % 32)) = false := by
    have : ∀ c, c < 127 → 32 ≤ c → (decide (c < 256) && (codeV.getD (5 + (1 + c / 32)) 0).testBit (c % 32)) = false := by decide +kernel
    exact this c h2 h
  show (if (decide (c < 256) && (codeV.getD (5 + (1 + c / 32)) 0).testBit (c % 32)) = true then _ else _) = _
  rw [e1]
  rfl
theorem inFirst2 {c : Nat} (h : c ≠ 10) (h2 : c ≠ 13) : InFirst code2 c false := by
  intro seen
  refine ⟨((seen.add 16).add 16).add 0, ?_⟩
  have e1 : (c == 10) = false := by simpa using h
  have e2 : (c == 13) = false := by simpa using h2
  show (if (c == 10) = true then _ else if (c == 13) = true then _ else _) = _
  rw [e1, e2]
  rfl
theorem inFirst2' {c : Nat} (h : c = 10 ∨ c = 13) : InFirst code2 c true := by
  intro seen
  rcases h with rfl | rfl
  · exact ⟨_, rfl⟩
  · exact ⟨_, rfl⟩
theorem findsN {text : Array Nat} (h : ∀ c ∈ text.toList, 32 ≤ c ∧ c < 127) : Finds codeN text 0 none :=
  finds_none_first startsN firstN fun k _ hk => by
    have hm : text.getD k 0 ∈ text.toList := by simp [Array.getD, hk]
    exact inFirstN (h _ hm).1 (h _ hm).2
theorem findsV {text : Array Nat} (h : ∀ c ∈ text.toList, 32 ≤ c ∧ c < 127) : Finds codeV text 0 none :=
  finds_none_first startsV firstV fun k _ hk => by
    have hm : text.getD k 0 ∈ text.toList := by simp [Array.getD, hk]
    exact inFirstV (h _ hm).1 (h _ hm).2
theorem finds2_none {text : Array Nat} {pos : Nat} (h : ∀ k, pos ≤ k → k < text.size → text.getD k 0 ≠ 10 ∧ text.getD k 0 ≠ 13) : Finds code2 text pos none :=
  finds_none_first starts2 first2 fun k h1 h2 => inFirst2 (h k h1 h2).1 (h k h1 h2).2
end Mine
end
section
open PySem PySem.Sre PySem.Builtin PySem.Builtin.Re PySem.Flt
set_option Elab.async false
set_option linter.unusedVariables false
set_option linter.unusedSimpArgs false
namespace Mine

/-- pattern 2's machine -/
def st2 (text : Array Nat) (lim b : Nat) (sn : Seen) (pc pos handed : Nat) (om : Bool) (fr : List Sre.Frame) (wt : Nat) (ans : Option Bool) : Sre.M :=
  { code := code2, text, lim, start := b, lastStart := lim, mustAdvance := false, pc, pos, handed, outermost := om, marks := #[], frames := fr, weight := wt, answer := ans, seen := sn }
def fS (b : Nat) : Sre.Frame := { wait := .nextStart, pc := 10, pos := b, outermost := true }
def fB (pc b : Nat) : Sre.Frame := { wait := .nextBranch, pc := pc, pos := b, outermost := true }
def fL (b : Nat) : Sre.Frame := { wait := .lookNot, pc := 26, pos := b, outermost := true }

section
variable {text : Array Nat} {lim b : Nat} {sn : Seen} {pos hd wt : Nat} {om : Bool} {fr : List Sre.Frame}

theorem go2 : (st2 text lim b sn 10 b hd true [fS b] 1 none).step = st2 text lim b (sn.add 7) 12 b b true [fB 11 b, fS b] 2 none := rfl

/-- one literal -/
def litOk (text : Array Nat) (lim pos c : Nat) : Bool := decide (pos < lim) && text.getD pos 0 == c
set_option maxRecDepth 10000 in
theorem lit2 (pc c : Nat) (h : (pc = 12 ∧ c = 13) ∨ (pc = 14 ∧ c = 10) ∨ (pc = 19 ∧ c = 10) ∨ (pc = 24 ∧ c = 13) ∨ (pc = 29 ∧ c = 10)) (hok : litOk text lim pos c = true) :
    (st2 text lim b sn pc pos hd om fr wt none).step = st2 text lim b (sn.add 16) (pc + 2) (pos + 1) hd om fr wt none := by
  unfold litOk at hok
  rw [Bool.and_eq_true, decide_eq_true_eq] at hok
  obtain ⟨h1, h2⟩ := hok
  have h3 : ¬ (lim ≤ pos) := by omega
  rcases h with ⟨rfl, rfl⟩ | ⟨rfl, rfl⟩ | ⟨rfl, rfl⟩ | ⟨rfl, rfl⟩ | ⟨rfl, rfl⟩ <;>
  · unfold M.step
    simp only [st2]
    rw [beq_iff_eq, Array.getD_eq_getD_getElem?] at h2
    simp [M.exec, M.word, code2, ops, M.say, accepts, itemWidth, h3, h2]
set_option maxRecDepth 10000 in
theorem lit2no (pc c : Nat) (h : (pc = 12 ∧ c = 13) ∨ (pc = 14 ∧ c = 10) ∨ (pc = 19 ∧ c = 10) ∨ (pc = 24 ∧ c = 13) ∨ (pc = 29 ∧ c = 10)) (hok : litOk text lim pos c = false) :
    (st2 text lim b sn pc pos hd om fr wt none).step = st2 text lim b (sn.add 16) pc pos hd om fr wt (some false) := by
  unfold litOk at hok
  by_cases h1 : pos < lim
  · have h3 : ¬ (lim ≤ pos) := by omega
    rw [decide_eq_true h1, Bool.true_and] at hok
    rw [Array.getD_eq_getD_getElem?] at hok
    have h2 : ¬ (text[pos]?.getD 0 = c) := by simpa using hok
    rcases h with ⟨rfl, rfl⟩ | ⟨rfl, rfl⟩ | ⟨rfl, rfl⟩ | ⟨rfl, rfl⟩ | ⟨rfl, rfl⟩ <;>
    · unfold M.step
      simp only [st2]
      simp [M.exec, M.word, code2, ops, M.say, accepts, itemWidth, h3, hok]
  · have h3 : lim ≤ pos := by omega
    rcases h with ⟨rfl, rfl⟩ | ⟨rfl, rfl⟩ | ⟨rfl, rfl⟩ | ⟨rfl, rfl⟩ | ⟨rfl, rfl⟩ <;>
    · unfold M.step
      simp only [st2]
      simp [M.exec, M.word, code2, ops, M.say, accepts, itemWidth, h3]

theorem next18 (r : List Sre.Frame) : (st2 text lim b sn pos hd wt om (fB 11 b :: r) 2 (some false)).step = st2 text lim b sn 19 b b true (fB 18 b :: r) 2 none := rfl
theorem next23 (r : List Sre.Frame) : (st2 text lim b sn pos hd wt om (fB 18 b :: r) 2 (some false)).step = st2 text lim b sn 24 b b true (fB 23 b :: r) 2 none := rfl
theorem jump16 : (st2 text lim b sn 16 pos hd om fr wt none).step = st2 text lim b (sn.add 15) 35 pos hd om fr wt none := rfl
theorem jump21 : (st2 text lim b sn 21 pos hd om fr wt none).step = st2 text lim b (sn.add 15) 35 pos hd om fr wt none := rfl
theorem jump32 : (st2 text lim b sn 32 pos hd om fr wt none).step = st2 text lim b (sn.add 15) 35 pos hd om fr wt none := rfl
theorem succ35 : (st2 text lim b sn 35 pos hd true fr wt none).step = st2 text lim b (sn.add 1) 35 pos pos true fr wt (some true) := rfl
theorem look26 (r : List Sre.Frame) : (st2 text lim b sn 26 (b + 1) hd true r 2 none).step = st2 text lim b (sn.add 5) 29 (b + 1) (b + 1) false (fL (b + 1) :: r) 3 none := rfl
theorem look26' (r : List Sre.Frame) {p q h : Nat} : (st2 text lim b sn p q h om (fL (b + 1) :: r) 3 (some false)).step = st2 text lim b sn 32 (b + 1) h true r 2 none := rfl
theorem yesB (f : Nat) (r : List Sre.Frame) {p q h w : Nat} : (st2 text lim b sn p q h om (fB f b :: r) w (some true)).step = st2 text lim b sn f b h true r (w - 1) (some true) := rfl
theorem yesS {p q h w : Nat} : (st2 text lim b sn p q h om [fS b] w (some true)).step = st2 text lim b sn 10 b h true [] (w - 1) (some true) := rfl
theorem yesEnd {p q h w : Nat} : (st2 text lim b sn p q h om [] w (some true)).step = { (st2 text lim b sn p q h om [] w (some true)) with outcome := some .matched } := rfl
end

/-- the way in: the first admitted place -/
theorem begin2 {text : Array Nat} {b pos : Nat} (hp : pos ≤ b) (hb : b < text.size) (hin : text.getD b 0 = 10 ∨ text.getD b 0 = 13) (hf : ∀ k, pos ≤ k → k < b → text.getD k 0 ≠ 10 ∧ text.getD k 0 ≠ 13) :
    ∃ sn, forSearch code2 text 0 pos text.size false = st2 text text.size b sn 10 b b true [fS b] 1 none := by
  rw [starts2.2 text pos text.size (by omega)]
  unfold M.attemptFrom
  rw [first2 _ rfl]
  obtain ⟨sn, e2⟩ := admitted_some (m := m0 code2 text text.size 9 pos) (b := b) hb (inFirst2' hin) (fuel := text.size + 1 - pos) (s := pos) (seen := (m0 code2 text text.size 9 pos).seen) hp (by omega) (fun k h1 h2 => inFirst2 (hf k h1 h2).1 (hf k h1 h2).2)
  refine ⟨sn, ?_⟩
  show (match M.admitted (m0 code2 text text.size 9 pos) (text.size + 1 - pos) pos (m0 code2 text text.size 9 pos).seen with
    | .ok (some s, seen) => { (m0 code2 text text.size 9 pos) with mustAdvance := false, seen }.attemptAt s true
    | .ok (none, seen) => { (m0 code2 text text.size 9 pos) with seen }.say false
    | .error why => (m0 code2 text text.size 9 pos).stick why) = _
  rw [e2]
  rfl

theorem finds2_crlf {text : Array Nat} {b pos : Nat} (hp : pos ≤ b) (hb : b + 1 < text.size) (h1 : text.getD b 0 = 13) (h2 : text.getD (b + 1) 0 = 10) (hf : ∀ k, pos ≤ k → k < b → text.getD k 0 ≠ 10 ∧ text.getD k 0 ≠ 13) :
    Finds code2 text pos (some (b, b + 2)) := by
  obtain ⟨sn, e⟩ := begin2 hp (by omega) (.inr h1) hf
  refine ⟨{ (st2 text text.size b (((((sn.add 7).add 16).add 16).add 15).add 1) 10 b (b + 2) true [] 0 (some true)) with outcome := some .matched }, 9, ?_, by decide, ?_⟩
  · rw [e]
    refine (Goes.step rfl go2 ?_ : Goes (8 + 1) _ _)
    refine (Goes.step rfl (lit2 (text := text) (lim := text.size) (pos := b) 12 13 (by simp) (by unfold litOk; rw [h1]; simp; omega)) ?_ : Goes (7 + 1) _ _)
    refine (Goes.step rfl (lit2 (text := text) (lim := text.size) (pos := b + 1) 14 10 (by simp) (by unfold litOk; rw [h2]; simp; omega)) ?_ : Goes (6 + 1) _ _)
    refine (Goes.step rfl jump16 ?_ : Goes (5 + 1) _ _)
    refine (Goes.step rfl succ35 ?_ : Goes (4 + 1) _ _)
    refine (Goes.step rfl (yesB 11 _) ?_ : Goes (3 + 1) _ _)
    refine (Goes.step rfl yesS ?_ : Goes (2 + 1) _ _)
    refine (Goes.step rfl yesEnd ?_ : Goes (1 + 1) _ _)
    exact (Goes.refl _).mono (by decide)
  · exact ⟨rfl, rfl, rfl⟩
theorem finds2_lf {text : Array Nat} {b pos : Nat} (hp : pos ≤ b) (hb : b < text.size) (h1 : text.getD b 0 = 10) (hf : ∀ k, pos ≤ k → k < b → text.getD k 0 ≠ 10 ∧ text.getD k 0 ≠ 13) :
    Finds code2 text pos (some (b, b + 1)) := by
  obtain ⟨sn, e⟩ := begin2 hp hb (.inl h1) hf
  refine ⟨{ (st2 text text.size b (((((sn.add 7).add 16).add 16).add 15).add 1) 10 b (b + 1) true [] 0 (some true)) with outcome := some .matched }, 9, ?_, by decide, ?_⟩
  · rw [e]
    refine (Goes.step rfl go2 ?_ : Goes (8 + 1) _ _)
    refine (Goes.step rfl (lit2no 12 13 (by simp) (by unfold litOk; rw [h1]; simp)) ?_ : Goes (7 + 1) _ _)
    refine (Goes.step rfl (next18 _) ?_ : Goes (6 + 1) _ _)
    refine (Goes.step rfl (lit2 19 10 (by simp) (by unfold litOk; rw [h1]; simp; omega)) ?_ : Goes (5 + 1) _ _)
    refine (Goes.step rfl jump21 ?_ : Goes (4 + 1) _ _)
    refine (Goes.step rfl succ35 ?_ : Goes (3 + 1) _ _)
    refine (Goes.step rfl (yesB 18 _) ?_ : Goes (2 + 1) _ _)
    refine (Goes.step rfl yesS ?_ : Goes (1 + 1) _ _)
    refine (Goes.step rfl yesEnd ?_ : Goes (0 + 1) _ _)
    exact Goes.refl _
  · exact ⟨rfl, rfl, rfl⟩
theorem finds2_cr {text : Array Nat} {b pos : Nat} (hp : pos ≤ b) (hb : b < text.size) (h1 : text.getD b 0 = 13) (h2 : litOk text text.size (b + 1) 10 = false) (hf : ∀ k, pos ≤ k → k < b → text.getD k 0 ≠ 10 ∧ text.getD k 0 ≠ 13) :
    Finds code2 text pos (some (b, b + 1)) := by
  obtain ⟨sn, e⟩ := begin2 hp hb (.inr h1) hf
  refine ⟨{ (st2 text text.size b (((((((((sn.add 7).add 16).add 16).add 16).add 16).add 5).add 16).add 15).add 1) 10 b (b + 1) true [] 0 (some true)) with outcome := some .matched }, 15, ?_, by decide, ?_⟩
  · rw [e]
    refine (Goes.step rfl go2 ?_ : Goes (14 + 1) _ _)
    refine (Goes.step rfl (lit2 12 13 (by simp) (by unfold litOk; rw [h1]; simp; omega)) ?_ : Goes (13 + 1) _ _)
    refine (Goes.step rfl (lit2no 14 10 (by simp) h2) ?_ : Goes (12 + 1) _ _)
    refine (Goes.step rfl (next18 _) ?_ : Goes (11 + 1) _ _)
    refine (Goes.step rfl (lit2no 19 10 (by simp) (by unfold litOk; rw [h1]; simp)) ?_ : Goes (10 + 1) _ _)
    refine (Goes.step rfl (next23 _) ?_ : Goes (9 + 1) _ _)
    refine (Goes.step rfl (lit2 24 13 (by simp) (by unfold litOk; rw [h1]; simp; omega)) ?_ : Goes (8 + 1) _ _)
    refine (Goes.step rfl (look26 _) ?_ : Goes (7 + 1) _ _)
    refine (Goes.step rfl (lit2no 29 10 (by simp) h2) ?_ : Goes (6 + 1) _ _)
    refine (Goes.step rfl (look26' _) ?_ : Goes (5 + 1) _ _)
    refine (Goes.step rfl jump32 ?_ : Goes (4 + 1) _ _)
    refine (Goes.step rfl succ35 ?_ : Goes (3 + 1) _ _)
    refine (Goes.step rfl (yesB 23 _) ?_ : Goes (2 + 1) _ _)
    refine (Goes.step rfl yesS ?_ : Goes (1 + 1) _ _)
    refine (Goes.step rfl yesEnd ?_ : Goes (0 + 1) _ _)
    exact Goes.refl _
  · exact ⟨rfl, rfl, rfl⟩
end Mine
end
section
open PySem PySem.Sre PySem.Builtin PySem.Builtin.Re PySem.Flt
set_option Elab.async false
set_option linter.unusedVariables false
set_option linter.unusedSimpArgs false
namespace Mine

/-- pattern 1's machine about to try the place s; o: is it the first try -/
def st1 (text : Array Nat) (lim s : Nat) (sn : Seen) (pc pos handed : Nat) (om : Bool) (fr : List Sre.Frame) (wt : Nat) (ans : Option Bool) : Sre.M :=
  { code := code1, text, lim, start := s, lastStart := lim, mustAdvance := false, pc, pos, handed, outermost := om, marks := #[], frames := fr, weight := wt, answer := ans, seen := sn }
def fT (s : Nat) (om : Bool) : Sre.Frame := { wait := .nextStart, pc := 5, pos := s, outermost := om }

section
variable {text : Array Nat} {lim s : Nat} {sn : Seen} {pos hd wt : Nat} {om : Bool} {fr : List Sre.Frame}
/-- a line begins at s -/
def bol (text : Array Nat) (s : Nat) : Bool := s == 0 || text.getD (s - 1) 0 == 10
set_option maxRecDepth 10000 in
theorem at1yes (h : bol text pos = true) : (st1 text lim s sn 5 pos hd om fr wt none).step = st1 text lim s ((sn.add 6).add 44) 7 pos hd om fr wt none := by
  unfold bol at h
  unfold M.step
  simp only [st1]
  rw [Array.getD_eq_getD_getElem?] at h
  simp only [Bool.or_eq_true, beq_iff_eq] at h
  simp [M.exec, M.word, code1, ops, M.isAt, M.say, h]
set_option maxRecDepth 10000 in
theorem at1no (h : bol text pos = false) : (st1 text lim s sn 5 pos hd om fr wt none).step = st1 text lim s ((sn.add 6).add 44) 5 pos hd om fr wt (some false) := by
  unfold bol at h
  unfold M.step
  simp only [st1]
  rw [Array.getD_eq_getD_getElem?] at h
  simp only [Bool.or_eq_false_iff, beq_eq_false_iff_ne, ne_eq] at h
  simp [M.exec, M.word, code1, ops, M.isAt, M.say, h]
set_option maxRecDepth 10000 in
theorem dot1yes (hok : litOk text lim pos 46 = true) : (st1 text lim s sn 7 pos hd om fr wt none).step = st1 text lim s (sn.add 16) 9 (pos + 1) hd om fr wt none := by
  unfold litOk at hok
  rw [Bool.and_eq_true, decide_eq_true_eq] at hok
  obtain ⟨h1, h2⟩ := hok
  have h3 : ¬ (lim ≤ pos) := by omega
  unfold M.step
  simp only [st1]
  rw [beq_iff_eq, Array.getD_eq_getD_getElem?] at h2
  simp [M.exec, M.word, code1, ops, M.say, accepts, itemWidth, h3, h2]
set_option maxRecDepth 10000 in
theorem dot1no (hok : litOk text lim pos 46 = false) : (st1 text lim s sn 7 pos hd om fr wt none).step = st1 text lim s (sn.add 16) 7 pos hd om fr wt (some false) := by
  unfold litOk at hok
  by_cases h1 : pos < lim
  · have h3 : ¬ (lim ≤ pos) := by omega
    rw [decide_eq_true h1, Bool.true_and] at hok
    rw [Array.getD_eq_getD_getElem?] at hok
    unfold M.step
    simp only [st1]
    simp [M.exec, M.word, code1, ops, M.say, accepts, itemWidth, h3, hok]
  · have h3 : lim ≤ pos := by omega
    unfold M.step
    simp only [st1]
    simp [M.exec, M.word, code1, ops, M.say, accepts, itemWidth, h3]
theorem succ9t : (st1 text lim s sn 9 pos hd true fr wt none).step = st1 text lim s (sn.add 1) 9 pos pos true fr wt (some true) := rfl
theorem succ9f : (st1 text lim s sn 9 pos hd false fr wt none).step = st1 text lim s (sn.add 1) 9 pos pos false fr wt (some true) := rfl
theorem succ9 : (st1 text lim s sn 9 pos hd om fr wt none).step = st1 text lim s (sn.add 1) 9 pos pos om fr wt (some true) := by cases om; exact succ9f; exact succ9t
theorem yes1 {p q h w : Nat} {o : Bool} : (st1 text lim s sn p q h o [fT s om] w (some true)).step = st1 text lim s sn 5 s h om [] (w - 1) (some true) := rfl
theorem end1 {p q h w : Nat} {o : Bool} : (st1 text lim s sn p q h o [] w (some true)).step = { (st1 text lim s sn p q h o [] w (some true)) with outcome := some .matched } := rfl
theorem endno {p q h w : Nat} {o : Bool} : (st1 text lim s sn p q h o [] w (some false)).step = { (st1 text lim s sn p q h o [] w (some false)) with outcome := some .failed } := rfl
theorem over1 {p q h : Nat} {o : Bool} (hs : s < lim) : (st1 text lim s sn p q h o [fT s om] 1 (some false)).step = st1 text lim (s + 1) sn 5 (s + 1) (s + 1) false [fT (s + 1) false] 1 none := by
  show M.resume { (st1 text lim s sn p q h o [] 0 none) with pc := 5, pos := s, outermost := om } (fT s om) false = _
  unfold M.resume
  show (if s < lim then _ else _) = _
  rw [if_pos hs]
  rfl
theorem over1end {p q h : Nat} {o : Bool} (hs : ¬ s < lim) : (st1 text lim s sn p q h o [fT s om] 1 (some false)).step = st1 text lim s sn 5 s h om [] 0 (some false) := by
  show M.resume { (st1 text lim s sn p q h o [] 0 none) with pc := 5, pos := s, outermost := om } (fT s om) false = _
  unfold M.resume
  show (if s < lim then _ else _) = _
  rw [if_neg hs]
  rfl
end

theorem begin1 {text : Array Nat} {pos : Nat} (hp : pos < text.size) : ∃ sn, forSearch code1 text 0 pos text.size false = st1 text text.size pos sn 5 pos pos true [fT pos true] 1 none := by
  rw [starts1.2 text pos text.size hp]
  unfold M.attemptFrom
  rw [first1 _ rfl]
  exact ⟨_, rfl⟩

/-- a place where pattern 1 fits -/
def dotAt (text : Array Nat) (s : Nat) : Bool := bol text s && litOk text text.size s 46
theorem try1_yes {text : Array Nat} {s : Nat} {sn : Seen} {om : Bool} (h : dotAt text s = true) :
    ∃ m', Goes 5 (st1 text text.size s sn 5 s s om [fT s om] 1 none) m' ∧ m'.outcome = some .matched ∧ m'.start = s ∧ m'.handed = s + 1 := by
  unfold dotAt at h
  rw [Bool.and_eq_true] at h
  refine ⟨{ (st1 text text.size s (((((sn.add 6).add 44).add 16).add 1)) 5 s (s + 1) om [] 0 (some true)) with outcome := some .matched }, ?_, rfl, rfl, rfl⟩
  refine (Goes.step rfl (at1yes h.1) ?_ : Goes (4 + 1) _ _)
  refine (Goes.step rfl (dot1yes h.2) ?_ : Goes (3 + 1) _ _)
  refine (Goes.step rfl succ9 ?_ : Goes (2 + 1) _ _)
  refine (Goes.step rfl yes1 ?_ : Goes (1 + 1) _ _)
  refine (Goes.step rfl end1 ?_ : Goes (0 + 1) _ _)
  exact Goes.refl _
theorem try1_no {text : Array Nat} {s : Nat} {sn : Seen} {om : Bool} (h : dotAt text s = false) :
    ∃ sn' p q hd, Goes 2 (st1 text text.size s sn 5 s s om [fT s om] 1 none) (st1 text text.size s sn' p q hd om [fT s om] 1 (some false)) := by
  unfold dotAt at h
  cases hb : bol text s with
  | false => exact ⟨_, _, _, _, (Goes.step rfl (at1no hb) (Goes.refl _)).mono (by decide)⟩
  | true =>
    rw [hb, Bool.true_and] at h
    exact ⟨_, _, _, _, (Goes.step rfl (at1yes hb) (Goes.step rfl (dot1no h) (Goes.refl _)))⟩
theorem walk1_to {text : Array Nat} {b : Nat} (hb : b ≤ text.size) : ∀ (n s : Nat) (sn : Seen) (om : Bool), s + n = b → (∀ k, s ≤ k → k < b → dotAt text k = false) →
    ∃ sn' om', Goes (3 * n) (st1 text text.size s sn 5 s s om [fT s om] 1 none) (st1 text text.size b sn' 5 b b om' [fT b om'] 1 none)
  | 0, s, sn, om, h, _ => by
    have : s = b := by omega
    subst this
    exact ⟨sn, om, (Goes.refl _).mono (by decide)⟩
  | n + 1, s, sn, om, h, hf => by
    obtain ⟨sn', p, q, hd, g⟩ := try1_no (text := text) (s := s) (sn := sn) (om := om) (hf s (Nat.le_refl _) (by omega))
    obtain ⟨sn2, om2, g2⟩ := walk1_to hb n (s + 1) sn' false (by omega) (fun k h1 h2 => hf k (by omega) h2)
    exact ⟨sn2, om2, (g.trans (Goes.step rfl (over1 (by omega)) g2)).mono (by omega)⟩
theorem finds1_some {text : Array Nat} {pos b : Nat} (hsz : text.size ≤ 2 ^ 40) (hp : pos ≤ b) (h : dotAt text b = true) (hf : ∀ k, pos ≤ k → k < b → dotAt text k = false) : Finds code1 text pos (some (b, b + 1)) := by
  have hb : b < text.size := by
    unfold dotAt litOk at h
    simp only [Bool.and_eq_true, decide_eq_true_eq] at h
    exact h.2.1
  obtain ⟨sn, e⟩ := begin1 (text := text) (pos := pos) (by omega)
  obtain ⟨sn2, om2, g⟩ := walk1_to (text := text) (b := b) (by omega) (b - pos) pos sn true (by omega) hf
  obtain ⟨m', g2, h1, h2, h3⟩ := try1_yes (sn := sn2) (om := om2) h
  refine ⟨m', 3 * (b - pos) + 5, ?_, by omega, h1, h2, h3⟩
  rw [e]; exact g.trans g2
theorem finds1_none {text : Array Nat} {pos : Nat} (hsz : text.size ≤ 2 ^ 40) (hf : ∀ k, pos ≤ k → k < text.size → dotAt text k = false) : Finds code1 text pos none := by
  by_cases hp : pos < text.size
  · obtain ⟨sn, e⟩ := begin1 (text := text) (pos := pos) hp
    obtain ⟨sn2, om2, g⟩ := walk1_to (text := text) (b := text.size) (Nat.le_refl _) (text.size - pos) pos sn true (by omega) hf
    have hlast : dotAt text text.size = false := by unfold dotAt litOk; simp
    obtain ⟨sn3, p, q, hd, g2⟩ := try1_no (text := text) (s := text.size) (sn := sn2) (om := om2) hlast
    refine ⟨{ (st1 text text.size text.size sn3 5 text.size hd om2 [] 0 (some false)) with outcome := some .failed }, 3 * (text.size - pos) + (2 + 2), ?_, by omega, rfl⟩
    rw [e]
    exact g.trans (g2.trans (Goes.step rfl (over1end (by omega)) (Goes.step rfl endno (Goes.refl _))))
  · exact finds_past (by omega) (by decide)
end Mine
end
section
open PySem PySem.Sre PySem.Builtin PySem.Builtin.Re PySem.Flt PyProof.Rows
set_option Elab.async false
set_option linter.unusedVariables false
set_option linter.unusedSimpArgs false
set_option maxRecDepth 100000
namespace Mine
theorem slot_search : Slot "re.Pattern" "search" "re.Pattern.search" :=
  .of (owner := "re.Pattern") (n := "search") (by rw [typeLookup_type, builtinLookup_eq_fast]; kernel_rfl) (by decide +kernel) (by decide +kernel) (by decide +kernel)
    (by first | exact .inl (by decide +kernel) | exact .inr (by decide +kernel)) (by rw [isSubtype_type]; kernel_rfl)
theorem type_search : typeOf (.builtin "re.Pattern.search") = pure (.type "method_descriptor") := by show builtinType _ = _; rw [builtinType_eq_fast]; kernel_rfl
theorem entry_search : entryFor table "re.Pattern.search" = some Builtin.«re.Pattern.search» := entryFor_of_tree (by kernel_rfl)
theorem slot_sub : Slot "re.Pattern" "sub" "re.Pattern.sub" :=
  .of (owner := "re.Pattern") (n := "sub") (by rw [typeLookup_type, builtinLookup_eq_fast]; kernel_rfl) (by decide +kernel) (by decide +kernel) (by decide +kernel)
    (by first | exact .inl (by decide +kernel) | exact .inr (by decide +kernel)) (by rw [isSubtype_type]; kernel_rfl)
theorem type_sub : typeOf (.builtin "re.Pattern.sub") = pure (.type "method_descriptor") := by show builtinType _ = _; rw [builtinType_eq_fast]; kernel_rfl
theorem entry_sub : entryFor table "re.Pattern.sub" = some Builtin.«re.Pattern.sub» := entryFor_of_tree (by kernel_rfl)
theorem entry_loop : entryFor table "re.Pattern.sub.loop" = some Builtin.«re.Pattern.sub.loop» := entryFor_of_tree (by kernel_rfl)
theorem plainAttrs_pat : PlainAttrs "re.Pattern" :=
  ⟨⟨"object.__getattribute__", by rw [typeLookup_type, builtinLookup_eq_fast]; kernel_rfl, by decide +kernel⟩, by rw [typeLookup_type, builtinLookup_eq_fast]; kernel_rfl⟩
theorem owner_pat : Manifest.owners.lookup (String.ofList ['n', 'r', 'e', 't', 't', 'a', 'P', '.', 'e', 'r'].reverse) = some Manifest.sig_re_Pattern := by kernel_rfl
theorem args_search (a b : Value) : argsOk "re.Pattern.search" ⟨[a, b], []⟩ := by
  unfold argsOk; rw [signature?_of (id := "re.Pattern.search") (n := ['h', 'c', 'r', 'a', 'e', 's']) (o := ['n', 'r', 'e', 't', 't', 'a', 'P', '.', 'e', 'r']) (by kernel_rfl) owner_pat]; kernel_rfl
theorem args_sub (a b c : Value) : argsOk "re.Pattern.sub" ⟨[a, b, c], []⟩ := by
  unfold argsOk; rw [signature?_of (id := "re.Pattern.sub") (n := ['b', 'u', 's']) (o := ['n', 'r', 'e', 't', 't', 'a', 'P', '.', 'e', 'r']) (by kernel_rfl) owner_pat]; kernel_rfl
end Mine
end
section
open PySem PySem.Sre PySem.Builtin PySem.Builtin.Re PySem.Flt PyProof.Rows
set_option Elab.async false
set_option linter.unusedVariables false
set_option linter.unusedSimpArgs false
set_option maxRecDepth 100000
namespace Mine
/-- a compiled pattern of texts, no groups, its code -/
def Pat (h : Heap) (a : Addr) (code : Array Nat) : Prop :=
  ∃ (fs : Array Value) (T : Addr) (ws : Array Value) (n : Nat), h.get? a = some { cls := .type "re.Pattern", data := .fields fs } ∧ fs.getD 5 .none = .ref T ∧ reRawNat (fs.getD 2 .none) = 0 ∧ reRawNat (fs.getD 6 .none) = 0 ∧
    h.get? T = some { cls := .type "tuple", data := .seq ws n } ∧ (ws.map reRawOf).map (·.toNat) = code
theorem Pat.keeps {h h' : Heap} {a : Addr} {c : Array Nat} (x : Pat h a c) (hk : ∀ b o, h.get? b = some o → h'.get? b = some o) : Pat h' a c := by
  obtain ⟨fs, T, ws, n, h1, h2, h3, h4, h5, h6⟩ := x
  exact ⟨fs, T, ws, n, hk _ _ h1, h2, h3, h4, hk _ _ h5, h6⟩

section
variable {prog : Program} {w : World} {A : Around} {E : Value → Shared → Prop} {s : Shared} {a : Addr} {code : Array Nat}
theorem get_search {pl : Sem Bool} {Q : Value × List Value → Shared → Prop} {M : Model} (P : Pat s.heap a code) (h : Q (.builtin "re.Pattern.search", [.ref a]) s) : wpAny M A (getMethod (.ref a) "search" pl) Q E s := by
  obtain ⟨fs, T, ws, n, h1, _⟩ := P
  exact getMethod_builtin ⟨_, h1, rfl⟩ plainAttrs_pat slot_search type_search (fun b e => by cases e; exact ⟨_, h1, rfl⟩) h
theorem get_sub {pl : Sem Bool} {Q : Value × List Value → Shared → Prop} {M : Model} (P : Pat s.heap a code) (h : Q (.builtin "re.Pattern.sub", [.ref a]) s) : wpAny M A (getMethod (.ref a) "sub" pl) Q E s := by
  obtain ⟨fs, T, ws, n, h1, _⟩ := P
  exact getMethod_builtin ⟨_, h1, rfl⟩ plainAttrs_pat slot_sub type_sub (fun b e => by cases e; exact ⟨_, h1, rfl⟩) h

theorem rawItems {Q : Array Int → Shared → Prop} {M : Model} {T : Addr} {ws : Array Value} {n : Nat} (ho : s.heap.get? T = some { cls := .type "tuple", data := .seq ws n }) (h : Q (ws.map reRawOf) s) : wpAny M A (reRawItems (.ref T)) Q E s := by
  unfold reRawItems
  exact wpAny_bind (wpAny_seqItems ho rfl (wpAny_pure h))
theorem textOf_str {Q : Array Nat × Nat → Shared → Prop} {M : Model} {x : Str} {t : Tok} (h : Q (x.cps, 0) s) : wpAny M A (reTextOf (.str x t)) Q E s := by
  unfold reTextOf
  exact wpAny_bind (wpAny_pure (wpAny_pure h))

theorem whole_target {Q : ReTarget → Shared → Prop} {M : Model} {x : Str} {t : Tok} (P : Pat s.heap a code) (h : Q { pattern := .ref a, string := .str x t, code := code, text := x.cps, kind := 0, groups := 0, pos := 0, lim := x.cps.size } s) :
    wpAny M A (reWholeTarget (.ref a) (.str x t)) Q E s := by
  obtain ⟨fs, T, ws, n, h1, h2, h3, h4, h5, h6⟩ := P
  unfold reWholeTarget
  refine wpAny_bind (wpAny_fieldsOf h1 rfl (wpAny_bind (textOf_str ?_)))
  dsimp only
  rw [h4, h2, h3]
  rw [if_neg (by decide), if_neg (by decide)]
  refine wpAny_bind (wpAny_pure ?_ : wpAny M A (reNoCollectionInside (.str x t) 0) _ E s)
  refine wpAny_bind (rawItems h5 (wpAny_pure ?_))
  rw [h6]; exact h

theorem named_search (x : Str) (t : Tok) : reNamed "re.Pattern.search" "search" ["string", "pos", "endpos"] 1 [.str x t] [] = pure [some (.str x t), none, none] := rfl
theorem named_sub (r x : Str) (tr t : Tok) : reNamed "re.Pattern.sub" "sub" ["repl", "string", "count"] 2 [.str r tr, .str x t] [] = pure [some (.str r tr), some (.str x t), none] := rfl

theorem search_target {Q : ReTarget → Shared → Prop} {M : Model} {x : Str} {t : Tok} (hsz : x.cps.size ≤ 2 ^ 60) (P : Pat s.heap a code) (h : Q { pattern := .ref a, string := .str x t, code := code, text := x.cps, kind := 0, groups := 0, pos := 0, lim := x.cps.size } s) :
    wpAny M A (reTarget "re.Pattern.search" "search" ⟨[.ref a, .str x t], []⟩) Q E s := by
  obtain ⟨fs, T, ws, n, h1, h2, h3, h4, h5, h6⟩ := P
  unfold reTarget
  dsimp only
  rw [named_search]
  refine wpAny_bind (wpAny_pure ?_)
  dsimp only
  refine wpAny_bind (wpAny_pure (wpAny_bind (wpAny_pure ?_)))
  refine wpAny_bind (wpAny_fieldsOf h1 rfl (wpAny_bind (textOf_str ?_)))
  dsimp only
  rw [h4, h2, h3]
  rw [if_neg (by decide), if_neg (by decide)]
  refine wpAny_bind (wpAny_pure ?_ : wpAny M A (reNoCollectionInside (.str x t) 0) _ E s)
  refine wpAny_bind (rawItems h5 (wpAny_pure ?_))
  rw [h6]
  have e1 : min ((0 : Int)).toNat x.cps.size = 0 := by simp
  have e2 : min ((2 ^ 63 - 1 : Int)).toNat x.cps.size = x.cps.size := by
    have : ((2 ^ 63 - 1 : Int)).toNat = 9223372036854775807 := rfl
    rw [this]; omega
  rw [e1, e2]
  exact h

theorem call_search {Q : Value → Shared → Prop} {x : Str} {t : Tok} (hsz : x.cps.size ≤ 2 ^ 60) (P : Pat s.heap a code) (hf : Finds code x.cps 0 none) (h : Q .none s) :
    wpAny (model prog w) A (call (.builtin "re.Pattern.search") [.ref a, .str x t]) Q E s := by
  have P' := P
  obtain ⟨fs, T, ws, n, h1, _⟩ := P'
  refine wpAny_call (codeAny_call_builtin slot_search.plain entry_search (slot_search.check _ _ _ _ _ _ _ _ ⟨_, h1, rfl⟩ (args_search _ _) ?_))
  unfold Builtin.«re.Pattern.search»
  refine wpAny_bind (search_target hsz P ?_)
  unfold reAnswer
  obtain ⟨m', k, g, hk, hd⟩ := hf
  refine wpAny_bind (runToEnd (r := none) g hk (.inr ⟨hd, rfl⟩) ?_)
  exact wpAny_pure h
end
end Mine
end
section
open PySem PySem.W PySem.Calls PyProof.Rows
set_option Elab.async false
set_option linter.unusedVariables false
namespace Mine

section
variable {prog : Program} {w : World} {A : Around} {E : Value → Shared → Prop} {s : Shared}

theorem mul_is {x : Str} {n : Int} {t u : Tok} {Q : Value → Shared → Prop} (hok : MulOk x n) (h : ∀ t' k, Q (.str (Txt.mul x n) t') { s with toks := k }) :
    wpAny (model prog w) A (binaryOp .Mult (.int n u) (.str x t)) Q E s := by
  refine lm_binaryOp_repeat_right (T := "str") (U := "int") (by decide) (fun s' => typeIs_int s' n u) (typeIs_str s x t) F.fills_int_mul noFill_str_mul F.slot_int_mul lm_noRepeat_int repeat_str F.slot_int_index.lookup
    (call_gives F.slot_int_mul (typeIs_int s n u) F.entry_int_mul (F.args_int_mul_2 _ _) (AutoIntG3.int___mul___int_str_0 n u x t)
      ⟨rfl, typeIs_str _ x t, call_gives F.slot_str_mul (typeIs_str s x t) F.entry_str_mul (F.args_str_mul_2 _ _) (gives_str_mul x n t u hok.1 hok.2.1 hok.2.2) ?_⟩)
  unfold Txt.mul at h
  by_cases h1 : n < 1
  · rw [if_pos h1]; have h' := h s.toks (s.toks + 1); rw [if_pos h1] at h'; exact ⟨by decide, h'⟩
  · rw [if_neg h1]; refine post_val_or_made (fun hc => fits_reps (hok.2.2 h1 (by simpa using hc))) fun t' k => ?_
    have h' := h t' k; rw [if_neg h1] at h'; exact h'
end

section
variable {prog : Program} {w : World} {A : Around} {s : Shared} {K : Frag} {h₀ : Heap} {p : Program} {loose : List Str} {mean : ExcName → Option Value} {mg mb : Str → Option Value}
  {R : Result → Shared → Prop} {name qual : Str} {params : Arguments} {body : List Stmt} {scope : Scope} {dV kV doc pm cdv ct oc : Value} {an od : Option Addr} {osl : Array (Option Value)} {f : Addr} {args : Args} {binds : List (Str × Value)}

/-- entering a def of the text's, over the whole heap but for the addresses hs, which may be turned -/
theorem enterH (hs : List Addr) (X₀ : K.In h₀) (T : Top p loose mean mg mb h₀) (st : h₀.StaysIn s.heap) (hh : ∀ a ∈ hs, h₀.get? a = none)
    (ho : K.lookup f = some ⟨oc, od, .func (fnOf name qual params body scope dV kV doc pm an cdv ct), osl⟩) (hcd : codeIn K cdv qual = true) (hroom : A.depth < recursionLimit)
    (hbind : BindsTo s (fnOf name qual params body scope dV kV doc pm an cdv ct) args binds) (hloc : ∀ y ∈ binds, scope.names.lookup y.1 = some .local)
    (hcell : ∀ x ∈ scope.names, x.2 ≠ .cell) (hco : scope.isCoroutine = false) (hgen : scope.isGenerator = false) (hk : scope.kind = .function)
    (h : ∀ g L' h₁, Fr g L' h₁ (fun y => binds.reverse.lookup y) → K.In g → Top p loose mean mg mb g → h₀.StaysIn g → (∀ b o, s.heap.get? b = some o → b ∉ hs → g.get? b = some o) →
      (∀ b ∈ hs, g.get? b = none) → s.heap.StaysIn h₁ → (∀ b o, s.heap.get? b = some o → b ≠ L') →
      wpAny (model prog w) (A.deeper (envOf qual scope L' f cdv)) (execs body (envOf qual scope L' f cdv))
        (fun fl s' => R (.ok (.ret (match fl with | .ret v => v | _ => .none))) s') (fun _ _ => False)
        { s with heap := h₁, toks := s.toks + binds.length }) : codeAny (model prog w) A (.call (.ref f) args) R s := by
  have nm : ∀ b o, h₀.get? b = some o → b ∉ hs := fun b o e q => by rw [hh b q] at e; cases e
  have stg : h₀.StaysIn (hideAll s.heap hs) := fun b o e => hideAll_get _ (st b o e) (nm b o e)
  refine codeAny_call_def (fd := fnOf name qual params body scope dV kV doc pm an cdv ct) (body := body) (binds := binds) hroom ((X₀.keeps st) _ _ ho) rfl (T.nolimit.keeps st) (codeRec_of (X₀.keeps st) hcd) rfl hbind hcell hloc (fun h₁ hns hk₁ => ?_) hco hgen hk
  refine wpAny_mono (h (hideAll s.heap hs) s.heap.objs.size h₁ ⟨hns, fun b o e => hk₁ b o (of_hideAll _ e), Nat.le_of_eq (hideAll_size _ _)⟩ (X₀.keeps stg) (T.keeps stg) stg
    (fun b o e n => hideAll_get _ e n) (fun b hb => hideAll_none _ hb) hk₁ (fun b o e => Nat.ne_of_lt (Heap.lt_size e))) (fun fl s' hl => hl) fun e s' x => x.elim
end


section
variable {prog : Program} {w : World} {A : Around} {E : Value → Shared → Prop} {s : Shared} {env : Env} {g : Heap}

/-- how a turn of a loop over a list ends -/
def TurnEnd (g : Heap) (L : Addr) (s : Shared) (I : Addr) (oI : Obj) (J : (Str → Option Value) → List (Addr × Obj) → Prop) (Q : Flow → Shared → Prop) (f : Flow) (s₄ : Shared) : Prop :=
  match f with
  | .ret v => Q (.ret v) s₄
  | .brk => Q .next s₄
  | _ => ∃ h' tk' m' news', s₄ = { s with heap := h', toks := tk' } ∧ Fr g L h' m' ∧ News g L h' ((I, oI) :: news') ∧ (∀ p ∈ news', p.1 ≠ I) ∧ J m' news'

/-- what must hold where a loop over a list begins -/
def LStart (g : Heap) (L : Addr) (s : Shared) (l : Addr) (J : (Str → Option Value) → List (Addr × Obj) → Prop) (x : Value) (s₁ : Shared) : Prop :=
  x = .ref l ∧ s₁ = { s with heap := s₁.heap, toks := s₁.toks } ∧ ∃ m news, Fr g L s₁.heap m ∧ News g L s₁.heap news ∧ J m news
theorem LStart.intro {g h : Heap} {L l : Addr} {s : Shared} {J : (Str → Option Value) → List (Addr × Obj) → Prop} {m : Str → Option Value} {news : List (Addr × Obj)} {tk : Nat} (F : Fr g L h m) (N : News g L h news) (j : J m news) :
    LStart g L s l J (.ref l) { s with heap := h, toks := tk } := ⟨rfl, rfl, m, news, F, N, j⟩
theorem TurnEnd.next {g h' : Heap} {L I : Addr} {oI : Obj} {s : Shared} {J : (Str → Option Value) → List (Addr × Obj) → Prop} {Q : Flow → Shared → Prop} {m' : Str → Option Value} {news' : List (Addr × Obj)} {tk' : Nat}
    (F : Fr g L h' m') (N : News g L h' ((I, oI) :: news')) (ho : ∀ p ∈ news', p.1 ≠ I) (j : J m' news') : TurnEnd g L s I oI J Q .next { s with heap := h', toks := tk' } := ⟨h', tk', m', news', rfl, F, N, ho, j⟩
/-- a loop over a list, from where the list is known -/
structure LoopL (prog : Program) (w : World) (A : Around) (g : Heap) (env : Env) (target : PySem.Expr) (body : List Stmt) (Q : Flow → Shared → Prop) (E : Value → Shared → Prop) (s : Shared) (l : Addr) (items : Array Value)
    (J : Nat → (Str → Option Value) → List (Addr × Obj) → Prop) (s₁ : Shared) : Prop where
  same : s₁ = { s with heap := s₁.heap, toks := s₁.toks }
  start : ∃ m news, Fr g env.locals s₁.heap m ∧ News g env.locals s₁.heap news ∧ J 0 m news
  go : ∀ (I : Addr) (v : Value) (i j : Nat) (Q' : Unit → Shared → Prop) (E' : Value → Shared → Prop) (s' : Shared), items[j]? = some v → s'.heap.IsListIter I l i → Q' () s' → wpAny (model prog w) A (letOwnedTupleGo target (.ref I) v) Q' E' s'
  list : ∀ i m news h, J i m news → Fr g env.locals h m → News g env.locals h news → h.IsList l items
  turn : ∀ I oI i v m news h tk, oI.cls = .type "list_iterator" → items[i]? = some v → J i m news → (∀ p ∈ news, p.1 ≠ I) → Fr g env.locals h m → News g env.locals h ((I, oI) :: news) →
      wpAny (model prog w) A (assign target env v) (fun _ s₃ => wpAny (model prog w) A (execs body env) (TurnEnd g env.locals s I oI (J (i + 1)) Q) E s₃) E { s with heap := h, toks := tk }
  done : ∀ h tk m news, J items.size m news → Fr g env.locals h m → News g env.locals h news → Q .next { s with heap := h, toks := tk }
def LoopX (prog : Program) (w : World) (A : Around) (g : Heap) (env : Env) (target : PySem.Expr) (body : List Stmt) (Q : Flow → Shared → Prop) (E : Value → Shared → Prop) (s : Shared) (x : Value) (s₁ : Shared) : Prop :=
  ∃ l items J, x = .ref l ∧ LoopL prog w A g env target body Q E s l items J s₁

theorem for_listX {target iter : PySem.Expr} {body : List Stmt} {pos : Pos} {Q : Flow → Shared → Prop}
    (hh : A.handled = none)
    (h : wpAny (model prog w) A (eval iter env) (LoopX prog w A g env target body Q E s) E s)
    (hs : ∀ x, foldedSetIterable iter env x = pure x)
    (hE : PassesOwn (model prog w) A env E) :
    wpAny (model prog w) A (exec (.For target iter body [] pos) env) Q E s := by
  refine wpAny_For (wpAny_mono h (fun xv s₁ h₁ => ?_) fun _ _ e => e) hs
  obtain ⟨l, items, J, rfl, hs₁, ⟨m, news, F, N, h0⟩, hgo, hlist, turn, done⟩ := h₁
  have hls := hlist 0 m news s₁.heap h0 F N
  obtain ⟨ol, hol, _⟩ := id hls
  have hlt : l < s₁.heap.objs.size := Heap.lt_size hol
  have hne : l ≠ s₁.heap.objs.size := Nat.ne_of_lt hlt
  refine wpAny_pyIter_list hls ?_
  generalize hI : s₁.heap.objs.size = I at hne
  have W := Walks.list (prog := prog) (w := w) hh I l hne items
  have hLI : env.locals ≠ I := by rw [← hI]; exact Nat.ne_of_lt F.ns.lt
  have hgI : g.get? I = none := by
    cases q : g.get? I with
    | none => rfl
    | some o => exact absurd (Heap.lt_size (F.keep _ _ q)) (by rw [hI]; exact Nat.lt_irrefl _)
  refine codeAny_forLoop_any (R := fun r s' => match r with | .ok f => Q f s' | .error e => cameBackBy (model prog w) A env E e s')
    (fun k s' => ∃ h' tk m' news' i, s' = { s with heap := h', toks := tk } ∧ h'.IsListIter I l i ∧ Fr g env.locals h' m' ∧ News g env.locals h' news' ∧ (∀ p ∈ news', p.1 ≠ I) ∧ J i m' news' ∧ i ≤ items.size ∧ k = items.size + 1 - i) ?_ (items.size + 1)
    ⟨s₁.heap.push { cls := .type "list_iterator", data := .fields #[.ref l, .int 0 0] }, s₁.toks, m, news, 0, by rw [hs₁], ⟨_, by rw [← hI]; exact Heap.get?_push_size _ rfl, rfl, rfl⟩, F.push _,
      (fun p hp => ⟨Heap.get?_push_of_some _ (N p hp).1, (N p hp).2⟩), (fun p hp e => absurd (Heap.lt_size (N p hp).1) (by rw [e, hI]; exact Nat.lt_irrefl _)), h0, Nat.zero_le _, rfl⟩
  rintro k s' ⟨h', tk, m', news', i, rfl, hit, F', N', hoff, hJ, hi, rfl⟩
  have hl' := hlist i m' news' h' hJ F' N'
  have next : ∀ h₁ : Heap, (∀ b o, b ∉ [I] → h'.get? b = some o → h₁.get? b = some o) → Fr g env.locals h₁ m' ∧ News g env.locals h₁ news' := fun h₁ hk₁ =>
    ⟨⟨F'.ns.at' fun o e => hk₁ _ o (by simpa using hLI) e, fun b o e => hk₁ b o (by simp; intro q; rw [q, hgI] at e; cases e) (F'.keep b o e), F'.above⟩, fun p hp => ⟨hk₁ _ _ (by simpa using hoff p hp) (N' p hp).1, (N' p hp).2⟩⟩
  by_cases hlt : i < items.size
  · refine W.item i _ _ _ hlt ⟨hit, hl'⟩ fun v h₁ tk₁ hP hst₁ hk₁ => ?_
    obtain ⟨F₁, N₁⟩ := next h₁ hk₁
    obtain ⟨oI, hoI, hoc, hod⟩ := id hst₁.1
    refine hgo I v (i + 1) i _ _ _ hP hst₁.1 ?_
    have N₂ : News g env.locals h₁ ((I, oI) :: news') := fun p hp => by
      rcases List.mem_cons.mp hp with rfl | hp
      · exact ⟨hoI, Ne.symm hLI, hgI⟩
      · exact N₁ p hp
    refine wpAny_passesOwn hE (wpAny_mono (turn I oI i v m' news' h₁ tk₁ hoc hP hJ hoff F₁ N₂) (fun _ s₃ h₃ => wpAny_passesOwn hE (wpAny_mono h₃ (fun f s₄ h₄ => ?_) fun _ _ e => e)) fun _ _ e => e)
    cases f with
    | ret v => exact h₄
    | brk => exact h₄
    | next =>
      obtain ⟨h₄', tk₄, m₄, news₄, rfl, F₄, N₄, hoff₄, hJ₄⟩ := h₄
      exact ⟨items.size + 1 - (i + 1), by omega, h₄', tk₄, m₄, news₄, i + 1, rfl, ⟨oI, (N₄ _ (List.mem_cons_self ..)).1, hoc, hod⟩, F₄, fun p hp => N₄ p (List.mem_cons_of_mem _ hp), hoff₄, hJ₄, hlt, rfl⟩
    | cont =>
      obtain ⟨h₄', tk₄, m₄, news₄, rfl, F₄, N₄, hoff₄, hJ₄⟩ := h₄
      exact ⟨items.size + 1 - (i + 1), by omega, h₄', tk₄, m₄, news₄, i + 1, rfl, ⟨oI, (N₄ _ (List.mem_cons_self ..)).1, hoc, hod⟩, F₄, fun p hp => N₄ p (List.mem_cons_of_mem _ hp), hoff₄, hJ₄, hlt, rfl⟩
  · have hin : i = items.size := by omega
    subst hin
    refine W.done _ _ _ ⟨hit, hl'⟩ fun h₁ tk₁ hk₁ => wpAny_execs_nil ?_
    obtain ⟨F₁, N₁⟩ := next h₁ hk₁
    exact done h₁ tk₁ m' news' hJ F₁ N₁

theorem for_list {target iter : PySem.Expr} {body : List Stmt} {pos : Pos} {Q : Flow → Shared → Prop} {l : Addr} {items : Array Value} (J : Nat → (Str → Option Value) → List (Addr × Obj) → Prop)
    (hh : A.handled = none)
    (hgo : ∀ (I : Addr) (v : Value) (i j : Nat) (Q' : Unit → Shared → Prop) (E' : Value → Shared → Prop) (s' : Shared), items[j]? = some v → s'.heap.IsListIter I l i → Q' () s' → wpAny (model prog w) A (letOwnedTupleGo target (.ref I) v) Q' E' s')
    (hlist : ∀ i m news h, J i m news → Fr g env.locals h m → News g env.locals h news → h.IsList l items)
    (h : wpAny (model prog w) A (eval iter env) (LStart g env.locals s l (J 0)) E s)
    (turn : ∀ I oI i v m news h tk, oI.cls = .type "list_iterator" → items[i]? = some v → J i m news → (∀ p ∈ news, p.1 ≠ I) → Fr g env.locals h m → News g env.locals h ((I, oI) :: news) →
      wpAny (model prog w) A (assign target env v) (fun _ s₃ => wpAny (model prog w) A (execs body env) (TurnEnd g env.locals s I oI (J (i + 1)) Q) E s₃) E { s with heap := h, toks := tk })
    (done : ∀ h tk m news, J items.size m news → Fr g env.locals h m → News g env.locals h news → Q .next { s with heap := h, toks := tk })
    (hs : ∀ x, foldedSetIterable iter env x = pure x)
    (hE : PassesOwn (model prog w) A env E) :
    wpAny (model prog w) A (exec (.For target iter body [] pos) env) Q E s :=
  for_listX hh (wpAny_mono h (fun x s₁ h₁ => by
    obtain ⟨rfl, hs₁, hst⟩ := h₁
    exact ⟨l, items, J, rfl, hs₁, hst, hgo, hlist, turn, done⟩) fun _ _ e => e) hs hE

theorem go_name {x : Str} {px : Pos} {l : Addr} {items : Array Value} (I : Addr) (v : Value) (i j : Nat) (Q' : Unit → Shared → Prop) (E' : Value → Shared → Prop) (s' : Shared) (_h : items[j]? = some v) (_hi : s'.heap.IsListIter I l i) (hq : Q' () s') :
    wpAny (model prog w) A (letOwnedTupleGo (.Name x px) (.ref I) v) Q' E' s' := wpAny_pure hq
end

section
variable {prog : Program} {w : World} {A : Around} {s : Shared} {g : Heap}
theorem go_tuple {elts : List PySem.Expr} {x1 : Nat} {px : Pos} {l : Addr} {items : Array Value} (hr : ∀ (j : Nat) (v : Value), items[j]? = some v → ∃ T, v = Value.ref T) (I : Addr) (v : Value) (i j : Nat) (Q' : Unit → Shared → Prop) (E' : Value → Shared → Prop) (s' : Shared) (h : items[j]? = some v) (hi : s'.heap.IsListIter I l i) (hq : Q' () s') :
    wpAny (model prog w) A (letOwnedTupleGo (.Tuple elts x1 px) (.ref I) v) Q' E' s' := by
  obtain ⟨T, rfl⟩ := hr j v h
  exact wpAny_letOwnedTupleGo_listiter hi hq
theorem stays_of {hp g h' : Heap} {L : Addr} {m : Str → Option Value} (hg : ∀ (b : Addr) (o : Obj), hp.get? b = some o → ¬b ∈ ([] : List Addr) → g.get? b = some o) (F : Fr g L h' m) : hp.StaysIn h' :=
  fun b o e => F.keep b o (hg b o e (by simp))
/-- the way out, when some objects were hidden: they are in the ledger still -/
theorem stays_news {hp g h' : Heap} {L : Addr} {m : Str → Option Value} {tab news : List (Addr × Obj)} (ht : ∀ p ∈ tab, hp.get? p.1 = some p.2) (hg : ∀ (b : Addr) (o : Obj), hp.get? b = some o → ¬b ∈ tab.map (·.1) → g.get? b = some o) (F : Fr g L h' m) (N : News g L h' news) (hs : ∀ p ∈ tab, p ∈ news) : hp.StaysIn h' :=
  fun b o e => by
    by_cases hb : b ∈ tab.map (·.1)
    · obtain ⟨p, hp', rfl⟩ := List.mem_map.mp hb
      have h1 := ht p hp'
      rw [e] at h1
      cases h1
      exact (N p (hs p hp')).1
    · exact F.keep b o (hg b o e hb)
theorem news_enter {hp g h₁ : Heap} {L' : Addr} {tab : List (Addr × Obj)} (ht : ∀ p ∈ tab, hp.get? p.1 = some p.2) (hn : ∀ b ∈ tab.map (·.1), g.get? b = none) (hk : hp.StaysIn h₁) (hL : ∀ b o, hp.get? b = some o → b ≠ L') : News g L' h₁ tab :=
  fun p hp' => ⟨hk _ _ (ht p hp'), hL _ _ (ht p hp'), hn _ (List.mem_map_of_mem hp')⟩
theorem keep2 {P : Prop} {g h h' : Heap} {L : Addr} {m : Str → Option Value} {news : List (Addr × Obj)} (F : Fr g L h m) (N : News g L h news) (hs : h.StaysIn h') (k : Fr g L h' m → News g L h' news → P) : P :=
  k (F.keeps hs) (N.grown hs)
end
theorem fresh_of {hp g : Heap} {r : Addr} {hs : List Addr} (hg : ∀ (b : Addr) (o : Obj), hp.get? b = some o → ¬b ∈ hs → g.get? b = some o) (hr : g.get? r = none) (hne : r ∉ hs) : hp.get? r = none := by
  cases q : hp.get? r with
  | none => rfl
  | some o => rw [hg r o q hne] at hr; cases hr
theorem ltN' {a b : Nat} (h : b ≤ a) : ¬ a < b := Nat.not_lt.mpr h
abbrev tupO (a b : Value) : Obj := { cls := .type "tuple", data := .seq #[a, b] }

def AllNe (d : Addr) : List (Addr × Obj) → Prop
  | [] => True
  | p :: r => @Ne Nat p.1 d ∧ AllNe d r
theorem allNe_of {d : Addr} : ∀ {l : List (Addr × Obj)}, (∀ p ∈ l, p.1 ≠ d) → AllNe d l
  | [], _ => trivial
  | p :: _, h => ⟨h p (.head _), allNe_of fun q hq => h q (.tail _ hq)⟩
theorem allLt_mem {d : Addr} {l : List (Addr × Obj)} : AllLt d l → ∀ p ∈ l, p.1 < d := by
  induction l with
  | nil => intro _ p hp; exact nomatch hp
  | cons q r ih =>
    intro h p hp
    rcases List.mem_cons.mp hp with e | e
    · rw [e]; exact h.1
    · exact ih h.2 p e
theorem allLt_ne {d : Addr} {l : List (Addr × Obj)} (h : AllLt d l) : ∀ p ∈ l, p.1 ≠ d := fun p hp => Nat.ne_of_lt (allLt_mem h p hp)
section
variable {g h h' : Heap} {L r : Addr} {m : Str → Option Value} {news : List (Addr × Obj)} {o : Obj}
/-- a callee has made an object: onto the ledger -/
theorem keep3 {P : Prop} (F : Fr g L h m) (N : News g L h news) (hs : h.StaysIn h') (hf : h.get? r = none) (hr : h'.get? r = some o) (k : Fr g L h' m → News g L h' ((r, o) :: news) → (∀ p ∈ news, p.1 ≠ r) → P) : P := by
  refine k (F.keeps hs) (fun p hp => ?_) fun p hp e => ?_
  · rcases List.mem_cons.mp hp with rfl | hp
    · refine ⟨hr, fun e => ?_, ?_⟩
      · obtain ⟨oL, _, _, hL, _⟩ := F.ns
        rw [show r = L from e, hL] at hf; cases hf
      · cases q : g.get? r with
        | none => rfl
        | some o' => rw [F.keep _ _ q] at hf; cases hf
    · exact N.grown hs p hp
  · have := (N p hp).1
    rw [e, hf] at this; cases this
end
end Mine
end
section
open PySem PySem.W PySem.Calls PyProof.Rows PySem.Builtin PySem.Builtin.Str
set_option Elab.async false
set_option linter.unusedVariables false
namespace Mine

/-- a text by its signs -/
def lit (l : List Nat) : Str := ⟨l.toArray⟩
theorem lit_cps (l : List Nat) : (lit l).cps.toList = l := rfl
theorem lit_len (l : List Nat) : (lit l).length = l.length := by simp [lit, PySem.Str.length]
theorem lit_add (a b : List Nat) : lit a ++ lit b = lit (a ++ b) := PySem.Str.ext' (by simp [lit, PySem.Str.cps_append])
theorem lit_inj {a b : List Nat} (h : lit a = lit b) : a = b := by
  have := congrArg (fun x : Str => x.cps.toList) h
  exact this
theorem lit_of (x : Str) : x = lit x.cps.toList := by cases x; simp [lit]

def digs (p : Nat) : List Nat := (Nat.toDigits 10 p).map Char.toNat
theorem digs_str (p : Nat) : PySem.Str.ofString (toString ((p : Nat) : Int)) = lit (digs p) := by
  rw [lit_of (PySem.Str.ofString _), KIN.signs_num]; rfl
theorem digs_range (p : Nat) : ∀ c ∈ digs p, 48 ≤ c ∧ c ≤ 57 := by
  intro c hc
  obtain ⟨ch, hch, e⟩ := List.mem_map.mp hc
  have h := Nat.isDigit_of_mem_toDigits (by decide) (by decide) hch
  subst e
  unfold Char.isDigit at h
  simp only [ge_iff_le, Bool.and_eq_true, decide_eq_true_eq] at h
  exact ⟨h.1, h.2⟩
theorem digs_len {p : Nat} (h : p < 65536) : (digs p).length ≤ 5 := by
  unfold digs
  rw [List.length_map]
  exact (Nat.length_toDigits_le_iff (by decide) (by decide)).mpr (by omega)

/-- the mark of a port -/
def mk (p : Nat) : Nat := if p % 4 = 0 then 124 else if p % 4 = 1 then 58 else if p % 4 = 2 then 33 else 46
theorem mk_cases (p : Nat) : mk p = 124 ∨ mk p = 58 ∨ mk p = 33 ∨ mk p = 46 := by
  unfold mk; split; · simp
  split; · simp
  split <;> simp

def replyL (p : Nat) : List Nat := [50, 50, 57, 32, 120, 40] ++ ([mk p, mk p, mk p] ++ (digs p ++ ([mk p] ++ [41])))
def rowL (d p : Nat) : List Nat := List.replicate d 46 ++ replyL p
@[irreducible] def row (d p : Nat) : Str := lit (rowL d p)
@[irreducible] def reply (p : Nat) : Str := lit (replyL p)
theorem row_lit (d p : Nat) : row d p = lit (rowL d p) := by unfold row; rfl
theorem reply_lit (p : Nat) : reply p = lit (replyL p) := by unfold reply; rfl

theorem replyL_len (p : Nat) : (replyL p).length = 11 + (digs p).length := by
  simp [replyL]; omega
theorem rowL_len (d p : Nat) : (rowL d p).length = d + 11 + (digs p).length := by
  simp [rowL, replyL_len]; omega
theorem row_len (d p : Nat) : (row d p).length = d + 11 + (digs p).length := by rw [row_lit, lit_len, rowL_len]
theorem reply_len (p : Nat) : (reply p).length = 11 + (digs p).length := by rw [reply_lit, lit_len, replyL_len]

theorem replyL_range (p : Nat) : ∀ c ∈ replyL p, 32 ≤ c ∧ c ≤ 124 := by
  intro c hc
  have hm := mk_cases p
  have hd := digs_range p
  simp only [replyL, List.mem_append, List.mem_cons, List.not_mem_nil, or_false] at hc
  rcases hc with h | h | h | h | h
  · omega
  · omega
  · have := hd c h; omega
  · omega
  · omega
theorem rowL_range (d p : Nat) : ∀ c ∈ rowL d p, 32 ≤ c ∧ c ≤ 124 := by
  intro c hc
  rcases List.mem_append.mp hc with h | h
  · have := List.eq_of_mem_replicate h; omega
  · exact replyL_range p c h


theorem takeWhile_dots (d : Nat) (r : List Nat) (hr : r.head? ≠ some 46) : (List.replicate d 46 ++ r).takeWhile (fun c => (#[46] : Array Nat).contains c) = List.replicate d 46 := by
  induction d with
  | zero =>
    cases r with
    | nil => rfl
    | cons c t =>
      have : c ≠ 46 := fun e => hr (by rw [e]; rfl)
      simp [List.takeWhile_cons, this]
  | succ d ih =>
    rw [List.replicate_succ, List.cons_append, List.takeWhile_cons, ih]
    simp
theorem replyL_head (p : Nat) : (replyL p).head? ≠ some 46 := by simp [replyL]
theorem lstrip_row (d p : Nat) : Txt.lstripChars (row d p) (Str.ofString ".") = reply p := by
  rw [reply_lit, row_lit, show Str.ofString "." = ⟨#[46]⟩ from by decide +kernel]
  unfold Txt.lstripChars
  rw [PyProof.Rows.stripBy_eq]
  apply PySem.Str.ext'
  apply Array.toList_inj.mp
  rw [StrLaws.strSub_toList, lit_cps]
  have h1 : stripLo (fun c => (#[46] : Array Nat).contains c) true (lit (rowL d p)) = d := by
    unfold stripLo
    rw [if_pos rfl, lit_cps]
    unfold rowL
    rw [takeWhile_dots d _ (replyL_head p), List.length_replicate]
  have h2 : stripHi (fun c => (#[46] : Array Nat).contains c) false (lit (rowL d p)) d = (rowL d p).length := by
    unfold stripHi
    rw [if_neg (by decide), lit_len]
  show List.take (stripHi (fun c => (#[46] : Array Nat).contains c) false _ (stripLo (fun c => (#[46] : Array Nat).contains c) true _) - stripLo (fun c => (#[46] : Array Nat).contains c) true _) (List.drop (stripLo (fun c => (#[46] : Array Nat).contains c) true _) _) = _
  rw [h1, h2, ← List.length_drop, List.take_length]
  unfold rowL
  rw [List.drop_left' (by simp)]
  rfl

/-! find -/
theorem getD_lit (l : List Nat) (k : Nat) : (lit l).cps.getD k 0 = l.getD k 0 := by
  simp [lit, Array.getD_eq_getD_getElem?, List.getD_eq_getElem?_getD]
theorem find3_at {l : List Nat} {c : Nat} {i : Int} {a k : Nat} (hi : i = (a : Int)) (ha : a ≤ k) (hk : k < l.length) (hc : l.getD k 0 = c) (hn : ∀ v, a ≤ v → v < k → l.getD v 0 ≠ c) :
    Txt.find3 (lit l) ⟨#[c]⟩ i = (k : Int) := by
  have hf : fromIndex (lit l).length i = a := by
    unfold fromIndex
    rw [hi]
    omega
  rcases StrLaws.find3_spec (lit l) c i with ⟨_, h⟩ | ⟨j, h, h1, h2, h3, h4⟩
  · rw [hf, lit_len] at h
    exact absurd (by rw [getD_lit]; exact hc) (h k ha hk)
  · rw [hf] at h1 h4
    rw [lit_len] at h2
    rw [getD_lit] at h3
    rw [h]
    have e : j = k := by
      rcases Nat.lt_trichotomy j k with q | q | q
      · exact absurd h3 (hn j h1 q)
      · exact q
      · exact absurd (by rw [getD_lit]; exact hc) (h4 k ha q)
    rw [e]

theorem reply_drop6 (p : Nat) : (replyL p).drop 6 = [mk p, mk p, mk p] ++ (digs p ++ ([mk p] ++ [41])) := rfl
theorem replyL_at (p k : Nat) : (replyL p).getD (6 + k) 0 = ([mk p, mk p, mk p] ++ (digs p ++ ([mk p] ++ [41]))).getD k 0 := by
  rw [← reply_drop6, List.getD_eq_getElem?_getD, List.getD_eq_getElem?_getD, List.getElem?_drop]

theorem find_open (p : Nat) : Txt.find (reply p) (Str.ofString "(") = 5 := by
  rw [find_is_find3, reply_lit, show Str.ofString "(" = ⟨#[40]⟩ from by decide +kernel]
  refine find3_at (a := 0) (k := 5) rfl (by decide) (by rw [replyL_len]; omega) rfl ?_
  intro v _ h
  have : v = 0 ∨ v = 1 ∨ v = 2 ∨ v = 3 ∨ v = 4 := by omega
  rcases this with rfl | rfl | rfl | rfl | rfl <;> simp [replyL]
theorem find_close (p : Nat) : Txt.find3 (reply p) (Str.ofString ")") 6 = ((10 + (digs p).length : Nat) : Int) := by
  rw [reply_lit, show Str.ofString ")" = ⟨#[41]⟩ from by decide +kernel]
  have hm := mk_cases p
  refine find3_at (a := 6) rfl (by omega) (by rw [replyL_len]; omega) ?_ ?_
  · rw [show 10 + (digs p).length = 6 + (4 + (digs p).length) by omega, replyL_at, ← List.append_assoc, ← List.append_assoc]
    rw [List.getD_eq_getElem?_getD, List.getElem?_append_right (by simp; omega)]
    have : 4 + (digs p).length - ([mk p, mk p, mk p] ++ digs p ++ [mk p]).length = 0 := by simp; omega
    rw [this]; rfl
  · intro v h1 h2
    rw [show v = 6 + (v - 6) by omega, replyL_at, ← List.append_assoc, ← List.append_assoc]
    have hl : v - 6 < ([mk p, mk p, mk p] ++ digs p ++ [mk p]).length := by simp; omega
    rw [List.getD_eq_getElem?_getD, List.getElem?_append_left hl, List.getElem?_eq_getElem hl, Option.getD_some]
    have hmem := List.getElem_mem hl
    simp only [List.mem_append, List.mem_cons, List.not_mem_nil, or_false] at hmem
    have hd := digs_range p
    intro e
    rw [e] at hmem
    rcases hmem with (h | h) | h
    · omega
    · have := hd _ h; omega
    · omega

/-! slices -/
theorem slice_229 (p : Nat) : StrLaws.sliceText (reply p) none (some 3) = Str.ofString "229" := by
  rw [reply_lit, StrLaws.sliceText_to ⟨by omega, by rw [lit_cps, replyL_len]; omega⟩, lit_cps]
  rw [show Str.ofString "229" = lit [50, 50, 57] from by decide +kernel]
  rfl
def midL (p : Nat) : List Nat := [mk p, mk p, mk p] ++ (digs p ++ [mk p])
theorem slice_mid (p : Nat) : StrLaws.sliceText (reply p) (some 6) (some ((10 + (digs p).length : Nat) : Int)) = lit (midL p) := by
  rw [reply_lit, StrLaws.sliceText_plain ⟨by omega, by omega, by rw [lit_cps, replyL_len]; omega⟩, lit_cps]
  have : (((10 + (digs p).length : Nat) : Int) - 6).toNat = (midL p).length := by simp [midL]; omega
  rw [this]
  show lit (List.take _ (List.drop 6 (replyL p))) = _
  rw [reply_drop6, show [mk p, mk p, mk p] ++ (digs p ++ ([mk p] ++ [41])) = midL p ++ [41] from by simp [midL], List.take_left' rfl]
theorem item_six (p : Nat) : Txt.item (reply p) 6 = lit [mk p] := by
  rw [reply_lit]
  have h : (lit (replyL p)).cps[(6 : Int).toNat]? = some (mk p) := by
    simp [lit, replyL]
  rw [item_meets (by decide) h]; rfl
theorem item_end (p : Nat) : Txt.item (reply p) ((9 + (digs p).length : Nat) : Int) = lit [mk p] := by
  rw [reply_lit]
  refine (item_meets (n := mk p) (by omega) ?_).trans rfl
  rw [Int.toNat_natCast]
  show (replyL p).toArray[9 + (digs p).length]? = _
  rw [List.getElem?_toArray, show 9 + (digs p).length = 6 + (3 + (digs p).length) by omega, ← List.getElem?_drop, reply_drop6, ← List.append_assoc]
  rw [List.getElem?_append_right (by simp; omega)]
  have : 3 + (digs p).length - ([mk p, mk p, mk p] ++ digs p).length = 0 := by simp; omega
  rw [this]; rfl

/-! split by one sign -/
theorem join_lit (c : Nat) : ∀ ps : List (List Nat), Str.join (lit [c]) (ps.map lit) = lit (List.intercalate [c] ps)
  | [] => rfl
  | [a] => by simp [Str.join, List.intercalate]
  | a :: b :: r => by
    have ih := join_lit c (b :: r)
    show lit a ++ lit [c] ++ Str.join (lit [c]) ((b :: r).map lit) = _
    rw [ih, lit_add, lit_add]
    simp [List.intercalate, List.intersperse]
theorem inter_cons (c : Nat) (a b : List Nat) (r : List (List Nat)) : List.intercalate [c] (a :: b :: r) = a ++ c :: List.intercalate [c] (b :: r) := by
  simp [List.intercalate, List.intersperse]
theorem first_cut {c : Nat} : ∀ {a a' t t' : List Nat}, c ∉ a → c ∉ a' → a ++ c :: t = a' ++ c :: t' → a = a' ∧ t = t'
  | [], [], _, _, _, _, h => ⟨rfl, by simpa using h⟩
  | [], x :: a', _, _, _, h', h => by
    simp only [List.nil_append, List.cons_append, List.cons.injEq] at h
    exact absurd (by rw [h.1]; simp) h'
  | x :: a, [], _, _, h', _, h => by
    simp only [List.nil_append, List.cons_append, List.cons.injEq] at h
    exact absurd (by rw [h.1]; simp) h'
  | x :: a, y :: a', t, t', h1, h2, h => by
    simp only [List.cons_append, List.cons.injEq] at h
    obtain ⟨e1, e2⟩ := first_cut (fun q => h1 (List.mem_cons_of_mem _ q)) (fun q => h2 (List.mem_cons_of_mem _ q)) h.2
    exact ⟨by rw [h.1, e1], e2⟩
theorem inter_unique {c : Nat} : ∀ {ps qs : List (List Nat)}, ps ≠ [] → qs ≠ [] → (∀ x ∈ ps, c ∉ x) → (∀ x ∈ qs, c ∉ x) → List.intercalate [c] ps = List.intercalate [c] qs → ps = qs
  | [], _, h, _, _, _, _ => absurd rfl h
  | _ :: _, [], _, h, _, _, _ => absurd rfl h
  | [a], [b], _, _, _, _, h => by simpa [List.intercalate] using h
  | [a], b :: b' :: r, _, _, h1, h2, h => by
    rw [inter_cons] at h
    have : c ∈ a := by
      have e : a = b ++ c :: List.intercalate [c] (b' :: r) := by simpa [List.intercalate] using h
      rw [e]; simp
    exact absurd this (h1 a (by simp))
  | a :: a' :: r, [b], _, _, h1, h2, h => by
    rw [inter_cons] at h
    have : c ∈ b := by
      have e : a ++ c :: List.intercalate [c] (a' :: r) = b := by simpa [List.intercalate] using h
      rw [← e]; simp
    exact absurd this (h2 b (by simp))
  | a :: a' :: r, b :: b' :: q, _, _, h1, h2, h => by
    rw [inter_cons, inter_cons] at h
    obtain ⟨e1, e2⟩ := first_cut (h1 a (by simp)) (h2 b (by simp)) h
    have ih := inter_unique (ps := a' :: r) (qs := b' :: q) (by simp) (by simp) (fun x hx => h1 x (List.mem_cons_of_mem _ hx)) (fun x hx => h2 x (List.mem_cons_of_mem _ hx)) e2
    rw [e1, ih]
theorem split_one {c : Nat} {ps : List (List Nat)} (hne : ps ≠ []) (hf : ∀ x ∈ ps, c ∉ x) : Txt.split (lit (List.intercalate [c] ps)) (lit [c]) = ps.map lit := by
  have hj := StrLaws.join_split (lit (List.intercalate [c] ps)) (lit [c])
  have hfree := StrLaws.split_free (lit (List.intercalate [c] ps)) c
  generalize hg : Txt.split (lit (List.intercalate [c] ps)) (lit [c]) = qs at hj
  have hfree' : ∀ x ∈ qs, c ∉ x.cps.toList := by rw [← hg]; exact hfree
  have hq : qs = (qs.map fun x => x.cps.toList).map lit := by
    rw [List.map_map]
    exact (List.map_id' qs).symm.trans (List.map_congr_left fun x _ => lit_of x)
  have hqne : qs ≠ [] := by
    intro e
    rw [e] at hj
    have : ([] : List Nat) = List.intercalate [c] ps := lit_inj hj
    cases ps with
    | nil => exact hne rfl
    | cons a r =>
      cases r with
      | nil =>
        rw [e] at hg
        unfold Txt.split at hg
        split at hg
        · cases hg
        · split at hg
          · cases hg
          · rw [StrLaws.partsBetween_eq] at hg
            obtain ⟨x, y, hxy⟩ := StrLaws.partsFrom_ne (lit (List.intercalate [c] [a])) (lit [c]).length 0 (occurrences (lit (List.intercalate [c] [a])) (lit [c]) 0 (lit (List.intercalate [c] [a])).length ((lit (List.intercalate [c] [a])).length + 1))
            rw [hxy] at hg; cases hg
      | cons b r => rw [inter_cons] at this; simp at this
  rw [hq, join_lit] at hj
  have e := inter_unique (c := c) (by simpa using hqne) hne (by intro x hx; obtain ⟨y, hy, rfl⟩ := List.mem_map.mp hx; exact hfree' y hy) hf (lit_inj hj)
  rw [hq, e]
theorem split_mid (p : Nat) : Txt.split (lit (midL p)) (lit [mk p]) = [lit [], lit [], lit [], lit (digs p), lit []] := by
  have h : midL p = List.intercalate [mk p] [[], [], [], digs p, []] := by simp [midL, List.intercalate, List.intersperse]
  rw [h, split_one (by simp)]
  · rfl
  · have hm := mk_cases p
    have hd := digs_range p
    intro x hx
    simp only [List.mem_cons, List.not_mem_nil, or_false] at hx
    have key : mk p ∉ digs p := fun q => by have := hd _ q; omega
    rcases hx with rfl | rfl | rfl | rfl | rfl
    · simp
    · simp
    · simp
    · exact key
    · simp
end Mine
end
section
open PySem PySem.Sre PySem.Builtin PySem.Builtin.Re PySem.Builtin.Str PySem.Flt PyProof.Rows
set_option Elab.async false
set_option linter.unusedVariables false
set_option linter.unusedSimpArgs false
set_option maxRecDepth 100000
namespace Mine

/-- what sub makes of the text from pos on -/
inductive Subs (code : Array Nat) (text repl : List Nat) : Nat → List Nat → Prop
  | done {pos : Nat} : Finds code text.toArray pos none → pos ≤ text.length → Subs code text repl pos (text.drop pos)
  | step {pos b e : Nat} {out : List Nat} : Finds code text.toArray pos (some (b, e)) → pos ≤ b → b < e → e ≤ text.length → Subs code text repl e out →
      Subs code text repl pos ((text.drop pos).take (b - pos) ++ (repl ++ out))

def catS (l : List (Str × Tok)) : List Nat := l.flatMap fun p => p.1.cps.toList
theorem catS_snoc (l : List (Str × Tok)) (x : Str) (t : Tok) : catS (l ++ [(x, t)]) = catS l ++ x.cps.toList := by simp [catS]
theorem join_empty : ∀ ss : List Str, (Str.join Str.empty ss).cps.toList = ss.flatMap fun x => x.cps.toList
  | [] => rfl
  | [x] => by simp [Str.join]
  | x :: y :: r => by
    have ih := join_empty (y :: r)
    show (x ++ Str.empty ++ Str.join Str.empty (y :: r)).cps.toList = _
    rw [PySem.Str.cps_append, PySem.Str.cps_append, Array.toList_append, ih]
    simp [Str.empty]
theorem join_cat (l : List (Str × Tok)) : Txt.join Str.empty (l.map (·.1)) = lit (catS l) := by
  unfold Txt.join
  rw [StrLaws.glued_eq_join, lit_of (Str.join _ _), join_empty]
  simp [catS, List.flatMap_map]
theorem joinOk_cat {l : List (Str × Tok)} (h : (catS l).length ≤ 16777216) : JoinOk Str.empty (l.map (·.1)) = true := by
  unfold JoinOk tooLong
  rw [StrLaws.joinTotal, sizeLine_eq]
  have h1 : Str.empty.length = 0 := rfl
  have h2 : ((l.map (·.1)).map (·.length)).sum = (catS l).length := by
    simp only [catS, List.length_flatMap, List.map_map]
    rfl
  rw [h1, h2]
  simp; omega

theorem strValues_snoc (l : List (Str × Tok)) (x : Str) (t : Tok) : strValues (l ++ [(x, t)]) = strValues l ++ [.str x t] := by simp [strValues]

section
variable {prog : Program} {w : World} {A : Around} {E : Value → Shared → Prop} {s : Shared} {a l : Addr} {code : Array Nat} {base : Heap}

def lstAt (h : Heap) (l : Addr) (vs : List Value) : Prop := ∃ n, h.get? l = some { cls := .type "list", data := .seq vs.toArray n }

/-- one push -/
theorem push_list {Q : Unit → Shared → Prop} {M : Model} {vs : List Value} {v : Value} (hl : lstAt s.heap l vs) (hb : base.get? l = none) (hs : base.StaysIn s.heap) (hz : vs.length ≤ 1000000)
    (h : ∀ h', lstAt h' l (vs ++ [v]) → base.StaysIn h' → Q () { s with heap := h' }) : wpAny M A (updateSeq l (·.push v)) Q E s := by
  obtain ⟨n, ho⟩ := hl
  refine wpAny_updateSeq ho rfl ?_ (by rw [sizeLine_eq, List.size_toArray]; omega) (by rw [sizeLine_eq, Array.size_push, List.size_toArray]; omega)
  refine h _ ⟨n + 1, ?_⟩ (fun b o e => ?_)
  · rw [Heap.get?_update_self _ ho rfl]
    simp [Obj.mapSeq]
  · have hne : l ≠ b := fun q => by rw [q, e] at hb; cases hb
    rw [Heap.get?_update_other _ _ hne]
    exact hs b o e

theorem slice_str {Q : Value → Shared → Prop} {M : Model} {text : List Nat} {b e : Nat} (hz : text.length ≤ 16777216) (h : ∀ t' k, Q (.str (lit ((text.drop b).take (e - b))) t') { s with toks := k }) :
    wpAny M A (reSlice text.toArray 0 b e) Q E s := by
  unfold reSlice
  rw [if_pos (by decide)]
  have e1 : (⟨text.toArray.extract b e⟩ : Str) = lit ((text.drop b).take (e - b)) := by
    apply PySem.Str.ext'
    apply Array.toList_inj.mp
    rw [lit_cps]
    simp [Array.toList_extract, List.extract_eq_take_drop]
  rw [e1]
  unfold mkStr
  rw [if_neg (by rw [lit_len, sizeLine_eq]; simp; omega)]
  exact wpAny_bind (wpAny_fresh (wpAny_pure (h _ _)))

theorem next_found {Q : Option Sre.M → Shared → Prop} {M : Model} {text : List Nat} {pos : Nat} {r : Option (Nat × Nat)} {p v : Value} (hf : Finds code text.toArray pos r)
    (h : ∀ m' : Option Sre.M, (match r with | none => m' = none | some (b, e) => ∃ m, m' = some m ∧ m.start = b ∧ m.handed = e) → Q m' s) :
    wpAny M A (reNextFound { pattern := p, string := v, code := code, text := text.toArray, kind := 0, groups := 0, pos := 0, lim := text.toArray.size } pos false) Q E s := by
  unfold reNextFound
  obtain ⟨m', k, g, hk, hd⟩ := hf
  cases r with
  | none => exact runToEnd (r := none) g hk (.inr ⟨hd, rfl⟩) (h none rfl)
  | some be =>
    obtain ⟨b, e⟩ := be
    obtain ⟨h1, h2, h3⟩ := hd
    exact runToEnd (r := some m') g hk (.inl ⟨h1, rfl⟩) (h (some m') ⟨m', rfl, h2, h3⟩)

def loopArgs (a l : Addr) (x : Str) (t : Tok) (r : Str) (tr : Tok) (n pos : Int) : Args :=
  ⟨[.ref a, .str x t, .str r tr, .int 0 0, .int 0 0, .int n 0, .int pos 0, .int pos 0, .bool false, .ref l, .bool false], []⟩

theorem sub_loop {text repl : List Nat} {t tr : Tok} {R : Result → Shared → Prop} (hz : text.length ≤ 16777216) {pos : Nat} {out : List Nat} (D : Subs code text repl pos out) :
    ∀ (s : Shared) (n : Int) (acc : List (Str × Tok)), Pat base a code → base.StaysIn s.heap → base.get? l = none → lstAt s.heap l (strValues acc) → acc.length + 2 * (text.length - pos) ≤ 900000 → (catS acc ++ out).length ≤ 16777216 →
    (∀ t' h' tk', base.StaysIn h' → R (.ok (.ret (.str (lit (catS acc ++ out)) t'))) { s with heap := h', toks := tk' }) →
    codeAny (model prog w) A (.builtin "re.Pattern.sub.loop" (loopArgs a l (lit text) t (lit repl) tr n pos)) R s := by
  induction D with
  | @done pos hf hle =>
    intro s n acc P hs hb hl hacc hsz hR
    refine codeAny_builtin entry_loop ?_
    unfold Builtin.«re.Pattern.sub.loop» loopArgs
    dsimp only
    refine wpAny_bind (whole_target (code := code) (P.keeps hs) ?_)
    rw [if_pos (by decide)]
    unfold reLiteralCannotBeTurned
    refine wpAny_bind (wpAny_bind (wpAny_pure ?_))
    rw [if_neg (by simp)]
    refine wpAny_pure ?_
    rw [if_neg (by simp)]
    refine wpAny_bind (next_found (code := code) (text := text) (pos := ((pos : Int)).toNat) (r := none) (by rw [Int.toNat_natCast]; exact hf) fun m' hm => ?_)
    subst hm
    dsimp only
    rw [Int.toNat_natCast]
    have fin : ∀ (s' : Shared) (acc' : List (Str × Tok)), s' = { s with heap := s'.heap, toks := s'.toks } → base.StaysIn s'.heap → lstAt s'.heap l (strValues acc') → catS acc' = catS acc ++ text.drop pos →
        wpAny (model prog w) (A.under (Code.builtin "re.Pattern.sub.loop" ⟨[.ref a, .str (lit text) t, .str (lit repl) tr, .int 0 0, .int 0 0, .int n 0, .int pos 0, .int pos 0, .bool false, .ref l, .bool false], []⟩))
          (do
            let joiner ← reSlice (lit text).cps 0 0 0
            let __do_lift ← seqItems? (Value.ref l)
            if (__do_lift.getD #[]).isEmpty = true then do
              let text ← pure joiner
              ret text
            else do
              let text ← call (Value.builtin "str.join") [joiner, Value.ref l]
              ret text)
          (fun fin s' => match fin with | .done f => R (.ok f) s' | .again c' => c'.quiet = true ∧ codeAny (model prog w) A c' R s') (fun e s' => R (.error e) s') s' := by
      intro s' acc' hs' hst ⟨k, hl'⟩ hcat
      refine wpAny_bind (slice_str (text := text) hz fun t' k' => ?_)
      rw [show List.take (0 - 0) (List.drop 0 text) = [] from by simp]
      refine wpAny_bind (wpAny_seqItems (by exact hl') rfl ?_)
      rw [Option.getD_some]
      cases acc' with
      | nil =>
        rw [if_pos (by rfl)]
        refine wpAny_bind (wpAny_pure (wpAny_pure ?_))
        rw [hs']
        have e : ([] : List Nat) = catS acc ++ text.drop pos := by rw [← hcat]; rfl
        rw [e]
        exact hR _ _ _ hst
      | cons p r =>
        rw [if_neg (by simp [strValues])]
        refine wpAny_bind (SC.join (l := p :: r) (texts := (p :: r).map (·.1)) ⟨_, hl', rfl, _, rfl⟩ rfl (by exact joinOk_cat (l := p :: r) (by rw [hcat]; exact hsz)) fun t'' k'' => ?_)
        refine wpAny_pure ?_
        rw [show (lit [] : Str) = Str.empty from rfl, join_cat, hcat, hs']
        exact hR _ _ _ hst
    by_cases hlt : pos < (lit text).cps.size
    · rw [if_pos hlt]
      refine wpAny_bind (slice_str (text := text) hz fun t' k' => ?_)
      refine wpAny_bind (push_list (base := base) (vs := strValues acc) hl hb hs (by simp [strValues]; omega) fun h' hl' hs' => ?_)
      have e : text.drop pos = List.take (text.toArray.size - pos) (text.drop pos) := by
        rw [List.take_of_length_le (by simp)]
      refine fin _ (acc ++ [(lit (List.take ((lit text).cps.size - pos) (List.drop pos text)), t')]) rfl hs' (by rw [strValues_snoc]; exact hl') ?_
      rw [catS_snoc, lit_cps]
      show _ ++ List.take (text.toArray.size - pos) _ = _
      rw [← e]
    · rw [if_neg hlt]
      have h0 : text.drop pos = [] := by
        have : ¬ pos < text.length := by simpa [lit] using hlt
        rw [List.drop_eq_nil_iff]; omega
      exact fin s acc rfl hs hl (by rw [h0, List.append_nil])
  | @step pos b e out hf h1 h2 h3 hD ih =>
    intro s n acc P hs hb hl hacc hsz hR
    refine codeAny_builtin entry_loop ?_
    unfold Builtin.«re.Pattern.sub.loop» loopArgs
    dsimp only
    refine wpAny_bind (whole_target (code := code) (P.keeps hs) ?_)
    rw [if_pos (by decide)]
    unfold reLiteralCannotBeTurned
    refine wpAny_bind (wpAny_bind (wpAny_pure ?_))
    rw [if_neg (by simp)]
    refine wpAny_pure ?_
    rw [if_neg (by simp)]
    refine wpAny_bind (next_found (code := code) (text := text) (pos := ((pos : Int)).toNat) (r := some (b, e)) (by rw [Int.toNat_natCast]; exact hf) fun m' hm => ?_)
    obtain ⟨m, rfl, hmb, hme⟩ := hm
    dsimp only
    rw [Int.toNat_natCast, hmb, hme]
    have fin : ∀ (s' : Shared) (acc' : List (Str × Tok)), s' = { s with heap := s'.heap, toks := s'.toks } → base.StaysIn s'.heap → lstAt s'.heap l (strValues acc') → catS acc' = catS acc ++ (text.drop pos).take (b - pos) → acc'.length ≤ acc.length + 1 →
        wpAny (model prog w) (A.under (Code.builtin "re.Pattern.sub.loop" ⟨[.ref a, .str (lit text) t, .str (lit repl) tr, .int 0 0, .int 0 0, .int n 0, .int pos 0, .int pos 0, .bool false, .ref l, .bool false], []⟩))
          (do
            let item ← pure (Value.str (lit repl) tr)
            if (item != Value.none) = true then do
              updateSeq l fun x => x.push item
              again (Code.builtin "re.Pattern.sub.loop" ⟨[.ref a, .str (lit text) t, .str (lit repl) tr, rawInt 0, rawInt 0, rawInt (n + 1), rawInt e, rawInt e, Value.bool (e == b), Value.ref l, Value.bool false], []⟩)
            else
              again (Code.builtin "re.Pattern.sub.loop" ⟨[.ref a, .str (lit text) t, .str (lit repl) tr, rawInt 0, rawInt 0, rawInt (n + 1), rawInt e, rawInt e, Value.bool (e == b), Value.ref l, Value.bool false], []⟩))
          (fun fin s' => match fin with | .done f => R (.ok f) s' | .again c' => c'.quiet = true ∧ codeAny (model prog w) A c' R s') (fun e s' => R (.error e) s') s' := by
      intro s' acc' hs' hst hl' hcat hlen
      refine wpAny_bind (wpAny_pure ?_)
      rw [if_pos (by rfl)]
      refine wpAny_bind (push_list (base := base) (vs := strValues acc') hl' hb hst (by simp [strValues]; omega) fun h' hl2 hs2 => ?_)
      refine wpAny_pure ⟨plainId_quiet (by decide +kernel) _, ?_⟩
      rw [show (e == b) = false from by simp; omega]
      have key := ih { s' with heap := h' } (n + 1) (acc' ++ [(lit repl, tr)]) P hs2 hb (by rw [strValues_snoc]; exact hl2) (by simp; omega)
        (by rw [catS_snoc, hcat, lit_cps]; simpa [List.append_assoc] using hsz) (fun t' h2 tk' hst2 => by
          have q := hR t' h2 tk' hst2
          rw [catS_snoc, hcat, lit_cps, hs']
          simpa [List.append_assoc] using q)
      exact key
    by_cases hlt : pos < b
    · rw [if_pos hlt]
      refine wpAny_bind (slice_str (text := text) hz fun t' k' => ?_)
      refine wpAny_bind (push_list (base := base) (vs := strValues acc) hl hb hs (by simp [strValues]; omega) fun h' hl' hs' => ?_)
      rw [if_pos (by decide)]
      refine fin _ (acc ++ [(lit (List.take (b - pos) (List.drop pos text)), t')]) rfl hs' (by rw [strValues_snoc]; exact hl') ?_ (by simp)
      rw [catS_snoc, lit_cps]
    · rw [if_neg hlt, if_pos (by decide)]
      have h0 : b - pos = 0 := by omega
      exact fin s acc rfl hs hl (by rw [h0]; simp) (by omega)
end
end Mine
end
section
open PySem PySem.Sre PySem.Builtin PySem.Builtin.Re PySem.Builtin.Str PySem.Flt PyProof.Rows
set_option Elab.async false
set_option linter.unusedVariables false
set_option linter.unusedSimpArgs false
set_option maxRecDepth 100000
namespace Mine
theorem str_no_call : typeLookup (.type "str") "__call__" = pure none := by rw [typeLookup_type, builtinLookup_eq_fast]; kernel_rfl
section
variable {prog : Program} {w : World} {A : Around} {E : Value → Shared → Prop} {s : Shared} {a l : Addr} {code : Array Nat}
theorem call_sub {Q : Value → Shared → Prop} {text repl out : List Nat} {t tr : Tok} (hz : text.length ≤ 100000) (hr : 92 ∉ repl) (P : Pat s.heap a code) (D : Subs code text repl 0 out) (ho : out.length ≤ 16777216)
    (h : ∀ t' h' tk', s.heap.StaysIn h' → Q (.str (lit out) t') { s with heap := h', toks := tk' }) :
    wpAny (model prog w) A (call (.builtin "re.Pattern.sub") [.ref a, .str (lit repl) tr, .str (lit text) t]) Q E s := by
  have P' := P
  obtain ⟨fs, T, ws, n, h1, _⟩ := P'
  refine wpAny_call (codeAny_call_builtin slot_sub.plain entry_sub (slot_sub.check _ _ _ _ _ _ _ _ ⟨_, h1, rfl⟩ (args_sub _ _ _) ?_))
  unfold Builtin.«re.Pattern.sub» reSubstitute
  dsimp only
  rw [named_sub]
  refine wpAny_bind (wpAny_pure ?_)
  dsimp only
  refine wpAny_bind (wpAny_pure ?_)
  refine wpAny_bind (wpAny_specialOf (typeIs_str _ _ _) str_no_call ?_)
  rw [if_neg (by simp)]
  refine wpAny_bind (wpAny_pure ?_)
  have hc : (!(lit repl).cps.contains 92) = true := by
    simp [lit, hr]
  dsimp only
  refine wpAny_bind (wpAny_pure ?_)
  rw [hc, if_neg (by simp), if_pos rfl]
  refine wpAny_bind (wpAny_pure ?_)
  dsimp only
  refine wpAny_bind (wpAny_holding (whole_target P ?_))
  rw [if_neg (by decide)]
  refine wpAny_bind (wpAny_newObj_type ?_)
  refine wpAny_pure ⟨plainId_quiet (by decide +kernel) _, ?_⟩
  have hnew : s.heap.get? s.heap.objs.size = none := by
    cases q : s.heap.get? s.heap.objs.size with
    | none => rfl
    | some o => exact absurd (Heap.lt_size q) (Nat.lt_irrefl _)
  refine sub_loop (base := s.heap) (l := s.heap.objs.size) (by omega) D _ 0 [] P (fun b o e => Heap.get?_push_of_some _ e) hnew ⟨0, Heap.get?_push_size _ rfl⟩ (by simp; omega) (by simpa [catS] using ho) ?_
  intro t' h' tk' hs
  exact h t' h' tk' hs
end
end Mine
end
section
open PySem PySem.W PySem.Calls PyProof.Rows PySem.Builtin PySem.Builtin.Str
set_option Elab.async false
set_option linter.unusedVariables false
namespace Mine
theorem c_229x : Str.ofString "229 x(" = lit [50, 50, 57, 32, 120, 40] := by decide +kernel
theorem c_close : Str.ofString ")" = lit [41] := by decide +kernel
theorem c_dot : Str.ofString "." = lit [46] := by decide +kernel

theorem mul_lit1 (c n : Nat) : Txt.mul (lit [c]) (n : Int) = lit (List.replicate n c) := by
  unfold Txt.mul
  by_cases h : (n : Int) < 1
  · rw [if_pos h]
    have : n = 0 := by omega
    subst this; rfl
  · rw [if_neg h]
    by_cases h1 : n = 1
    · subst h1; rfl
    · have : ((n : Int) == 1 || (lit [c]).length == 0) = false := by
        simp [lit_len]; omega
      rw [if_neg (by rw [this]; decide)]
      apply PySem.Str.ext'
      apply Array.toList_inj.mp
      have key : ∀ (m : Nat) (acc : Array Nat), ((List.replicate m (lit [c]).cps).foldl (· ++ ·) acc).toList = acc.toList ++ List.replicate m c := by
        intro m
        induction m with
        | zero => intro acc; simp
        | succ m ih =>
          intro acc
          rw [List.replicate_succ, List.foldl_cons, ih, Array.toList_append, lit_cps, List.append_assoc]
          rfl
      rw [Int.toNat_natCast]
      exact (key n #[]).trans (by rfl)

section
variable {prog : Program} {w : World} {A : Around} {E : Value → Shared → Prop} {s : Shared} {Q : Value → Shared → Prop}
theorem r_add {x y : Str} {a b : List Nat} {t u : Tok} (hx : x = lit a) (hy : y = lit b) (hs : a.length + b.length ≤ 16777216) (h : ∀ t' k, Q (.str (lit (a ++ b)) t') { s with toks := k }) :
    wpAny (model prog w) A (binaryOp .Add (.str x t) (.str y u)) Q E s := by
  subst hx hy
  refine SB.add (fun t' k => ?_) (by rw [lit_len, lit_len, sizeLine_eq]; exact hs)
  rw [lit_add]; exact h t' k
theorem r_mul {x : Str} {c n : Nat} {t u : Tok} (hx : x = lit [c]) (hn : n ≤ 1048576) (h : ∀ t' k, Q (.str (lit (List.replicate n c)) t') { s with toks := k }) :
    wpAny (model prog w) A (binaryOp .Mult (.int (n : Int) u) (.str x t)) Q E s := by
  subst hx
  refine mul_is (mulOk_of 16 1048576 (by rw [lit_len]; simp) (by omega) (by omega) (by decide) (by decide)) fun t' k => ?_
  rw [mul_lit1]; exact h t' k
theorem r_mul3 {x : Str} {c : Nat} {t u : Tok} (hx : x = lit [c]) (h : ∀ t' k, Q (.str (lit [c, c, c]) t') { s with toks := k }) :
    wpAny (model prog w) A (binaryOp .Mult (.int 3 u) (.str x t)) Q E s := r_mul (n := 3) hx (by decide) h
theorem r_str {p : Nat} {t : Tok} (hp : p < 65536) (h : ∀ t' k, Q (.str (lit (digs p)) t') { s with toks := k }) :
    wpAny (model prog w) A (call (.type "str") [.int (p : Int) t]) Q E s := by
  refine P.str_of_int ?_ ?_
  · have : ((p : Int)).natAbs = p := by omega
    rw [this]
    have h2 : p.log2 < 17 := by
      by_cases h0 : p = 0
      · subst h0; decide
      · exact (Nat.log2_lt h0).mpr (by omega)
    omega
  · show Q (.str (PySem.Str.ofString (toString (p : Int))) s.toks) _
    rw [digs_str]; exact h _ _
theorem item_mark (p : Nat) : Txt.item (Str.ofString "|:!.") (Int.fmod (p : Int) 4) = lit [mk p] := by
  have h : Int.fmod (p : Int) 4 = ((p % 4 : Nat) : Int) := by
    rw [Int.fmod_eq_emod_of_nonneg _ (by omega)]; omega
  have h4 : p % 4 < 4 := Nat.mod_lt _ (by decide)
  rw [h]
  unfold mk
  generalize p % 4 = k at h4
  have : k = 0 ∨ k = 1 ∨ k = 2 ∨ k = 3 := by omega
  rcases this with rfl | rfl | rfl | rfl <;> decide +kernel
theorem r_mark {value slice : PySem.Expr} {p : Nat} {t u : Tok} (h : ∀ t' k, Q (.str (lit [mk p]) t') { s with toks := k })
    (hs : subscripted slice false (.str (Str.ofString "|:!.") t) (.int (Int.fmod (p : Int) 4) u) = operate [.str (Str.ofString "|:!.") t, .int (Int.fmod (p : Int) 4) u] (getItem (.str (Str.ofString "|:!.") t) (.int (Int.fmod (p : Int) 4) u)) := by with_unfolding_all rfl)
    (ht : ∀ r, letTemporaryGo value (.str (Str.ofString "|:!.") t) r = pure () := by intro _; with_unfolding_all rfl) :
    wpAny (model prog w) A (subscriptTail value slice (.str (Str.ofString "|:!.") t) (.int (Int.fmod (p : Int) 4) u)) Q E s := by
  have h0 := fmod_lo (p : Int) (n := 4) (by decide)
  have h1 := fmod_hi (p : Int) (n := 4) (by decide)
  refine KXi.item (n := 4) (by decide +kernel) (by omega) h1 (by decide) (fun _ => ?_) hs ht
  rw [item_mark]; exact h _ _
end

/-! names: letters -/
@[irreducible] def nm (up : Bool) (i : Nat) : Str := lit [if up then 65 + i else 97 + i]
theorem nm_lit (up : Bool) (i : Nat) : nm up i = lit [if up then 65 + i else 97 + i] := by unfold nm; rfl
theorem nm_lower (up : Bool) {i : Nat} (h : i < 5) : Txt.lower (nm up i) = nm false i := by
  rw [nm_lit, nm_lit]
  have : i = 0 ∨ i = 1 ∨ i = 2 ∨ i = 3 ∨ i = 4 := by omega
  rcases this with rfl | rfl | rfl | rfl | rfl <;> cases up <;> decide +kernel
theorem nm_inj {i j : Nat} : (nm false i == nm false j) = decide (i = j) := by
  rw [nm_lit, nm_lit]
  by_cases h : i = j
  · subst h; simp
  · rw [decide_eq_false h, beq_eq_false_iff_ne]
    intro e
    have := lit_inj e
    simp at this
    exact h this
theorem nm_range (up : Bool) {i : Nat} (h : i < 5) : ∀ c ∈ (nm up i).cps.toList, 32 ≤ c ∧ c < 127 := by
  rw [nm_lit, lit_cps]
  intro c hc
  cases up <;> simp at hc <;> omega
theorem nm_size (up : Bool) (i : Nat) : (nm up i).cps.size ≤ 100000 := by rw [nm_lit]; simp [lit]
theorem row_range (d p : Nat) : ∀ c ∈ (row d p).cps.toList, 32 ≤ c ∧ c < 127 := by
  rw [row_lit, lit_cps]
  intro c hc
  have := rowL_range d p c hc
  omega
theorem row_size {d p : Nat} (hd : d ≤ 1000) (hp : p < 65536) : (row d p).cps.size ≤ 100000 := by
  have := row_len d p
  have h2 := digs_len hp
  unfold PySem.Str.length at this
  omega
section
variable {prog : Program} {w : World} {A : Around} {E : Value → Shared → Prop} {s : Shared} {Q : Value → Shared → Prop}
theorem r_lower {up : Bool} {i : Nat} {t : Tok} (hi : i < 5) (h : ∀ t' k, Q (.str (nm false i) t') { s with toks := k }) : wpAny (model prog w) A (call (.builtin "str.lower") [.str (nm up i) t]) Q E s := by
  refine SCL.lower (by rw [nm_lit, lit_len]; simp) fun _ => ?_
  rw [nm_lower up hi]; exact h _ _
theorem r_eq_nm {i j : Nat} {t u : Tok} (h : Q (.bool (decide (i = j))) s) : wpAny (model prog w) A (compareOp .Eq (.str (nm false i) t) (.str (nm false j) u)) Q E s := by
  refine PyProof.Rows.eq_str ?_
  rw [nm_inj]; exact h
end

/-! parse229's steps -/
section
variable {prog : Program} {w : World} {A : Around} {E : Value → Shared → Prop} {s : Shared} {Q : Value → Shared → Prop} {h₀ : Heap} {L : Addr} {m : Str → Option Value} {news : List (Addr × Obj)} {value slice : PySem.Expr} {p : Nat} {t u v : Tok}
theorem r_slice3 {j : Int} {uj : Tok} (hj : j = 3) (hp : p < 65536) (F : Fr h₀ L s.heap m) (N : News h₀ L s.heap news) (h : ∀ h' t' k, Fr h₀ L h' m → News h₀ L h' news → Q (.str (Str.ofString "229") t') { s with heap := h', toks := k })
    (hs : subscripted slice false (.str (reply p) t) (.ref s.heap.objs.size) = operate [.ref s.heap.objs.size, .str (reply p) t] (getItem (.str (reply p) t) (.ref s.heap.objs.size)) := by with_unfolding_all rfl)
    (ht : ∀ r, letTemporaryGo value (.str (reply p) t) r = pure () := by intro _; with_unfolding_all rfl) :
    wpAny (model prog w) A (subscriptTail value slice (.str (reply p) t) (.ref s.heap.objs.size)) Q E { s with heap := s.heap.push { cls := .type "slice", data := .fields #[.none, .int j uj, .none] } } := by
  subst hj
  have hd := digs_len hp
  refine slice_strN_ns F N (fun h' t' k a b => ?_) hs ht (by rw [reply_len, sizeLine_eq]; omega)
  rw [show Txt.slice (reply p) none (some 3) = Str.ofString "229" from slice_229 p]
  exact h h' t' k a b
theorem r_sliceM {i j : Int} {ui uj : Tok} (hi : i = 6) (hj : j = ((10 + (digs p).length : Nat) : Int)) (hp : p < 65536) (F : Fr h₀ L s.heap m) (N : News h₀ L s.heap news) (h : ∀ h' t' k, Fr h₀ L h' m → News h₀ L h' news → Q (.str (lit (midL p)) t') { s with heap := h', toks := k })
    (hs : subscripted slice false (.str (reply p) t) (.ref s.heap.objs.size) = operate [.ref s.heap.objs.size, .str (reply p) t] (getItem (.str (reply p) t) (.ref s.heap.objs.size)) := by with_unfolding_all rfl)
    (ht : ∀ r, letTemporaryGo value (.str (reply p) t) r = pure () := by intro _; with_unfolding_all rfl) :
    wpAny (model prog w) A (subscriptTail value slice (.str (reply p) t) (.ref s.heap.objs.size)) Q E { s with heap := s.heap.push { cls := .type "slice", data := .fields #[.int i ui, .int j uj, .none] } } := by
  subst hi hj
  have hd := digs_len hp
  refine slice_strN_ss F N (fun h' t' k a b => ?_) hs ht (by rw [reply_len, sizeLine_eq]; omega)
  rw [show Txt.slice (reply p) (some 6) (some ((10 + (digs p).length : Nat) : Int)) = lit (midL p) from slice_mid p]
  exact h h' t' k a b
theorem r_find5 (h : ∀ t' k, Q (.int 5 t') { s with toks := k }) : wpAny (model prog w) A (call (.builtin "str.find") [.str (reply p) t, .str (Str.ofString "(") u]) Q E s := by
  refine SC.find ?_
  rw [find_open]; exact h _ _
theorem r_find6 {i : Int} (hi : i = 6) (h : ∀ t' k, Q (.int ((10 + (digs p).length : Nat) : Int) t') { s with toks := k }) : wpAny (model prog w) A (call (.builtin "str.find") [.str (reply p) t, .str (Str.ofString ")") u, .int i v]) Q E s := by
  subst hi
  refine SC.find3 ?_
  rw [find_close]; exact h _ _
theorem r_item6 {i : Int} (hi : i = 6) (hp : p < 65536) (h : ∀ t' k, Q (.str (lit [mk p]) t') { s with toks := k })
    (hs : subscripted slice false (.str (reply p) t) (.int i u) = operate [.str (reply p) t, .int i u] (getItem (.str (reply p) t) (.int i u)) := by with_unfolding_all rfl)
    (ht : ∀ r, letTemporaryGo value (.str (reply p) t) r = pure () := by intro _; with_unfolding_all rfl) :
    wpAny (model prog w) A (subscriptTail value slice (.str (reply p) t) (.int i u)) Q E s := by
  have hd := digs_len hp
  refine KXi.item (n := (reply p).length) rfl (by omega) (by rw [reply_len]; omega) (by rw [reply_len]; omega) (fun _ => ?_) hs ht
  subst hi
  rw [item_six]; exact h _ _
theorem r_itemE {i : Int} (hi : i = ((9 + (digs p).length : Nat) : Int)) (hp : p < 65536) (h : ∀ t' k, Q (.str (lit [mk p]) t') { s with toks := k })
    (hs : subscripted slice false (.str (reply p) t) (.int i u) = operate [.str (reply p) t, .int i u] (getItem (.str (reply p) t) (.int i u)) := by with_unfolding_all rfl)
    (ht : ∀ r, letTemporaryGo value (.str (reply p) t) r = pure () := by intro _; with_unfolding_all rfl) :
    wpAny (model prog w) A (subscriptTail value slice (.str (reply p) t) (.int i u)) Q E s := by
  have hd := digs_len hp
  refine KXi.item (n := (reply p).length) rfl (by omega) (by rw [reply_len]; omega) (by rw [reply_len]; omega) (fun _ => ?_) hs ht
  subst hi
  rw [item_end]; exact h _ _
theorem r_ne_self {x y : Str} (e : x = y) (h : Q (.bool false) s) : wpAny (model prog w) A (compareOp .NotEq (.str x t) (.str y u)) Q E s := by
  subst e
  refine PyProof.Rows.ne_str ?_
  rw [show (x != x) = false from bne_self_eq_false x]; exact h
theorem strs5 {l : List (Str × Tok)} {a b c d e : Str} (h : l.map (·.1) = [a, b, c, d, e]) : ∃ t0 t1 t2 t3 t4, strValues l = [.str a t0, .str b t1, .str c t2, .str d t3, .str e t4] := by
  match l, h with
  | [x0, x1, x2, x3, x4], h =>
    simp only [List.map_cons, List.map_nil, List.cons.injEq, and_true] at h
    obtain ⟨rfl, rfl, rfl, rfl, rfl⟩ := h
    exact ⟨x0.2, x1.2, x2.2, x3.2, x4.2, rfl⟩
theorem r_split {hp : p < 65536} (F : Fr h₀ L s.heap m) (N : News h₀ L s.heap news)
    (h : ∀ D h' k t0 t1 t2 t3 t4, Fr h₀ L h' m → News h₀ L h' ((D, listOf #[.str (lit []) t0, .str (lit []) t1, .str (lit []) t2, .str (lit (digs p)) t3, .str (lit []) t4] 0) :: news) → (∀ q ∈ news, q.1 < D) → Q (.ref D) { s with heap := h', toks := k }) :
    wpAny (model prog w) A (call (.builtin "str.split") [.str (lit (midL p)) t, .str (lit [mk p]) u]) Q E s := by
  have hd := digs_len hp
  refine splitN1 F N (by rw [lit_len]; rfl) (fun l h' k hl F' N' => ?_) (by rw [lit_len, sizeLine_eq]; simp [midL]; omega)
  rw [split_mid] at hl
  obtain ⟨t0, t1, t2, t3, t4, e⟩ := strs5 hl
  rw [e] at N'
  exact h _ h' k t0 t1 t2 t3 t4 F' N' (fun q hq => Heap.lt_size (N q hq).1)
theorem r_int (hp : p < 65536) (h : ∀ t' k, Q (.int (p : Int) t') { s with toks := k }) : wpAny (model prog w) A (call (.type "int") [.str (lit (digs p)) t]) Q E s := by
  rw [← digs_str]
  exact KIN.call_num (by omega) (by omega) (h _ _)
theorem r_lstrip {d : Nat} (hp : p < 65536) (hd : d ≤ 1000) (h : ∀ t' k, Q (.str (reply p) t') { s with toks := k }) : wpAny (model prog w) A (call (.builtin "str.lstrip") [.str (row d p) t, .str (Str.ofString ".") u]) Q E s := by
  have h5 := digs_len hp
  refine SC.lstripChars (fun t' k => ?_) (by rw [row_len, sizeLine_eq]; omega)
  rw [lstrip_row]; exact h t' k
end

section
variable {prog : Program} {w : World} {A : Around} {E : Value → Shared → Prop} {s : Shared} {Q : Value → Shared → Prop} {t u : Tok}
end
end Mine
end
section
open PySem PySem.W PySem.Calls PyProof.Rows
set_option Elab.async false
set_option linter.unusedVariables false
namespace Mine
section
variable {prog : Program} {w : World} {A : Around} {s : Shared} {K : Frag} {h₀ : Heap} {p : Program} {loose : List Str} {mean : ExcName → Option Value} {mg mb : Str → Option Value}
  {R : Result → Shared → Prop} {name qual : Str} {params : Arguments} {body : List Stmt} {scope : Scope} {dV kV doc pm cdv ct oc : Value} {an od : Option Addr} {osl : Array (Option Value)} {f : Addr} {args : Args} {binds : List (Str × Value)}

/-- entering a def that has cells, over the whole heap but for the objects of tab, which may be turned -/
theorem enterC (tab : List (Addr × Obj)) (X₀ : K.In h₀) (T : Top p loose mean mg mb h₀) (st : h₀.StaysIn s.heap) (ht : ∀ q ∈ tab, s.heap.get? q.1 = some q.2) (hh : ∀ a ∈ tab.map (·.1), h₀.get? a = none)
    (ho : K.lookup f = some ⟨oc, od, .func (fnOf name qual params body scope dV kV doc pm an cdv ct), osl⟩) (hcd : codeIn K cdv qual = true) (hroom : A.depth < recursionLimit)
    (hbind : BindsTo s (fnOf name qual params body scope dV kV doc pm an cdv ct) args binds)
    (hkind : (binds.all fun y => scope.names.lookup y.1 == some .local || scope.names.lookup y.1 == some .cell) = true)
    (hnd : ((cellsFrom 0 scope.names []).map (·.1)).Nodup)
    (hco : scope.isCoroutine = false) (hgen : scope.isGenerator = false) (hk : scope.kind = .function)
    (h : ∀ g L' h₁ tk cells, Fr g L' h₁ (bindL (envOfC qual scope L' f cdv).kindOf binds fun _ => none) → K.In g → Top p loose mean mg mb g → h₀.StaysIn g → (∀ b o, s.heap.get? b = some o → b ∉ tab.map (·.1) → g.get? b = some o) →
      (∀ b ∈ tab.map (·.1), g.get? b = none) → s.heap.StaysIn h₁ → (∀ b o, s.heap.get? b = some o → b ≠ L') →
      News g L' h₁ (cells ++ tab) → CellsAre (bindC (envOfC qual scope L' f cdv).kindOf binds fun _ => none) (cellsFrom (L' + 1) scope.names []) cells → (∀ q ∈ tab, q.1 < L') →
      wpAny (model prog w) (A.deeper (envOfC qual scope L' f cdv)) (execs body (envOfC qual scope L' f cdv))
        (fun fl s' => R (.ok (.ret (match fl with | .ret v => v | _ => .none))) s') (fun _ _ => False)
        { s with heap := h₁, toks := tk }) : codeAny (model prog w) A (.call (.ref f) args) R s := by
  have nm : ∀ b o, h₀.get? b = some o → b ∉ tab.map (·.1) := fun b o e q => by rw [hh b q] at e; cases e
  have stg : h₀.StaysIn (hideAll s.heap (tab.map (·.1))) := fun b o e => hideAll_get _ (st b o e) (nm b o e)
  refine codeAny_call_function (fd := fnOf name qual params body scope dV kV doc pm an cdv ct) hroom ((X₀.keeps st) _ _ ho) rfl hco hgen rfl (codeRec_of (X₀.keeps st) hcd) (hbind _ _ _ _ ?_)
  refine wpAny_newFunctionEnv_cells hk (kindsX hkind _) fun env' he s' x => ?_
  subst he
  refine ⟨(T.nolimit.keeps st).keeps x.toInCall.keep, codeAny_func ?_⟩
  obtain ⟨h₁, tk, rfl, _⟩ := x.done
  have hk₁ := x.toInCall.keep
  obtain ⟨cells, NC, Y⟩ := Cl.news (h₀ := s.heap) (Nat.le_refl _) fun n c hm => ⟨x.cell n c (lookup_of_mem_nodup (cellsFrom_names scope.names 0 (s.heap.objs.size + 1) [] [] rfl ▸ hnd) hm), x.above n c hm⟩
  refine wpAny_mono (h (hideAll s.heap (tab.map fun q : Addr × Obj => q.1)) s.heap.objs.size h₁ tk cells ⟨x.toInCall.ns, fun b o e => hk₁ b o (of_hideAll _ e), Nat.le_of_eq (hideAll_size _ _)⟩ (X₀.keeps stg) (T.keeps stg) stg
    (fun b o e n => hideAll_get _ e n) (fun b hb => hideAll_none _ hb) hk₁ (fun b o e => Nat.ne_of_lt (Heap.lt_size e)) (fun p hp => ?_) Y (fun q hq => Heap.lt_size (ht q hq))) (fun fl s' hl => hl) fun e s' x => x.elim
  rcases List.mem_append.mp hp with hp | hp
  · refine ⟨(NC p hp).1, (NC p hp).2.1, ?_⟩
    cases q : (hideAll s.heap (tab.map (·.1))).get? p.1 with
    | none => rfl
    | some o => have := of_hideAll _ q; rw [(NC p hp).2.2] at this; cases this
  · exact ⟨hk₁ _ _ (ht p hp), Nat.ne_of_lt (Heap.lt_size (ht p hp)), hideAll_none _ (List.mem_map_of_mem hp)⟩
end

section
variable {prog : Program} {w : World} {A : Around} {E : Value → Shared → Prop} {s : Shared} {env : Env}
/-- a list comprehension over a list, from where the list is known -/
structure CompL (prog : Program) (w : World) (A : Around) (env : Env) (scope : Scope) (cl : List (Str × Addr)) (x : Str) (ifs : List PySem.Expr) (elt : PySem.Expr) (Q : Value → Shared → Prop) (l : Addr) (items : Array Value) (p : Value → Bool) (F : Value → Value → Prop) (s₁ : Shared) : Prop where
  list : s₁.heap.IsList l items
  size : items.size ≤ sizeLine
  tests : ∀ C v s₃ m₃ E', v ∈ items.toList → s₁.heap.objs.size ≤ C → s₃.heap.Ns C m₃ → m₃ x = some v → s₁.heap.StaysIn s₃.heap →
    wpAny (model prog w) A (forIn ifs true fun c r => if r = true then do let ok ← isTrue c (compEnvC scope cl C env) (eval c (compEnvC scope cl C env)); pure (ForInStep.yield ok) else pure (ForInStep.yield r))
      (fun ok s₄ => ok = p v ∧ Keeps s₃ s₄) E' s₃
  elt : ∀ C v s₃ m₃ E', v ∈ items.toList → p v = true → s₁.heap.objs.size ≤ C → s₃.heap.Ns C m₃ → m₃ x = some v → s₁.heap.StaysIn s₃.heap →
    wpAny (model prog w) A (eval elt (compEnvC scope cl C env)) (fun y s₄ => F v y ∧ Keeps s₃ s₄) E' s₃
  out : ∀ D h' tk ys n, s₁.heap.get? D = none → h'.get? D = some (listOf ys n) → Paired F (items.toList.filter p) ys.toList → s₁.heap.StaysIn h' → Q (.ref D) { s₁ with heap := h', toks := tk }
def CompX (prog : Program) (w : World) (A : Around) (env : Env) (scope : Scope) (cl : List (Str × Addr)) (x : Str) (ifs : List PySem.Expr) (elt : PySem.Expr) (Q : Value → Shared → Prop) (xv : Value) (s₁ : Shared) : Prop :=
  ∃ l items p F, xv = .ref l ∧ CompL prog w A env scope cl x ifs elt Q l items p F s₁
theorem list_same {vs : List Value} {items : Array Value} (h1 : vs.length = items.size) (h2 : ∀ (j : Nat) (v : Value), vs[j]? = some v → items[j]? = some v) : vs = items.toList := by
  apply List.ext_getElem?
  intro j
  cases q : vs[j]? with
  | some v => rw [Array.getElem?_toList, h2 j v q]
  | none =>
    have := List.getElem?_eq_none_iff.mp q
    rw [List.getElem?_eq_none (by simpa using h1 ▸ this)]
theorem comp_list {elt iter : PySem.Expr} {x : Str} {px : Pos} {ifs : List PySem.Expr} {scope : Scope} {cl : List (Str × Addr)} {pos : Pos} {Q : Value → Shared → Prop}
    (hh : A.handled = none) (hclos : closureFor scope env = pure cl) (hcell : ∀ y ∈ scope.names, y.2 ≠ .cell) (hkind : scope.kind = .function)
    (hnames : ∀ y ∈ scope.names, y.2 = .local → scope.names.lookup y.1 = some .local) (hx : scope.names.lookup x = some .local)
    (h : wpAny (model prog w) A (eval iter env) (CompX prog w A env scope cl x ifs elt Q) E s)
    (hs : ∀ x, foldedSetIterable iter env x = pure x) :
    wpAny (model prog w) A (eval (.ListComp elt [⟨.Name x px, iter, ifs, 0⟩] scope pos) env) Q E s := by
  rw [eval_ListComp]
  refine wpAny_comprehension_free (use := none) rfl hs hclos hkind hnames (wpAny_mono h (fun xv s₁ h₁ => ?_) fun _ _ e => e)
  obtain ⟨l, items, p, F, rfl, H⟩ := h₁
  refine wpAny_pyIter_list H.list ?_
  obtain ⟨ol, hol, _⟩ := id H.list
  have hlt : l < s₁.heap.objs.size := Heap.lt_size hol
  have hne : l ≠ s₁.heap.objs.size := Nat.ne_of_lt hlt
  have hst : s₁.heap.StaysIn (s₁.heap.push { cls := .type "list_iterator", data := .fields #[.ref l, .int 0 0] }) := fun b o e => Heap.get?_push_of_some _ e
  have hne2 : ∀ b o, s₁.heap.get? b = some o → b ∉ [s₁.heap.objs.size] := fun b o e hb => by
    have := Heap.lt_size e
    rw [List.mem_singleton.mp hb] at this
    exact Nat.lt_irrefl _ this
  have hsz : s₁.heap.objs.size ≤ (s₁.heap.push { cls := .type "list_iterator", data := .fields #[.ref l, .int 0 0] }).objs.size := by rw [Heap.size_push]; exact Nat.le_succ _
  refine comp_block_walkC (RR := fun acc C => compPost (model prog w) A E none Q acc C) (Walks.list hh s₁.heap.objs.size l hne items) H.size p F hcell hkind hx
    ⟨⟨_, Heap.get?_push_size _ rfl, rfl, rfl⟩, H.list.at fun o e => hst _ _ e⟩ (fun b hb => ?_) ⟨fun C i v s₃ m₃ E' hC hv hn hm hk htk => ?_, fun C i v s₃ m₃ E' hC hv hpv hn hm hk htk => ?_⟩ ?_
  · rcases List.mem_cons.mp hb with rfl | hb
    · dsimp only; rw [Heap.size_push]; exact Nat.lt_succ_self _
    · rw [List.mem_singleton.mp hb]; exact Nat.lt_of_lt_of_le hlt hsz
  · exact H.tests C v s₃ m₃ E' (List.mem_of_getElem? (by rw [Array.getElem?_toList]; exact hv)) (Nat.le_trans hsz hC) hn hm fun b o e => hk b o (hne2 b o e) (hst b o e)
  · exact H.elt C v s₃ m₃ E' (List.mem_of_getElem? (by rw [Array.getElem?_toList]; exact hv)) hpv (Nat.le_trans hsz hC) hn hm fun b o e => hk b o (hne2 b o e) (hst b o e)
  intro D C h' tk m' ys vs hD hC hDC hn hl hpl hlen hP hF hk
  have hvs : vs = items.toList := list_same hlen hP
  subst hvs
  have none_of : ∀ b, (s₁.heap.push { cls := .type "list_iterator", data := .fields #[.ref l, .int 0 0] }).get? b = none → s₁.heap.get? b = none := fun b e => by
    cases q : s₁.heap.get? b with
    | none => rfl
    | some o => rw [hst _ _ q] at e; cases e
  refine ⟨m', hn, fun h'' hs'' => ?_⟩
  obtain ⟨n, hn'⟩ := hpl.extBut hs''.extBut hDC
  exact H.out D h'' tk ys n (none_of D hD) hn' hF fun b o e => hs''.extBut b o (by rintro rfl; rw [none_of _ hC] at e; cases e) (hk b o (hne2 b o e) (hst b o e))
end

section
variable {prog : Program} {w : World} {A : Around} {E : Value → Shared → Prop} {s : Shared}
end

section
variable {prog : Program} {w : World} {A : Around} {E : Value → Shared → Prop} {s : Shared} {env : Env} {g : Heap}
/-- a loop over a range, from where the range is known -/
structure LoopR (prog : Program) (w : World) (A : Around) (g : Heap) (env : Env) (x : Str) (px : Pos) (body : List Stmt) (Q : Flow → Shared → Prop) (E : Value → Shared → Prop) (s : Shared) (r : Addr) (a : Int) (n : Nat)
    (J : Nat → (Str → Option Value) → List (Addr × Obj) → Prop) (s₁ : Shared) : Prop where
  same : s₁ = { s with heap := s₁.heap, toks := s₁.toks }
  range : ∃ t u v, IsRange s₁.heap r a (a + n) 1 t u v
  small : -(2 ^ 61) ≤ a ∧ a + n < 2 ^ 61
  start : ∃ m news, Fr g env.locals s₁.heap m ∧ News g env.locals s₁.heap news ∧ J 0 m news
  turn : ∀ I oI i ti m news h tk, oI.cls = .type "range_iterator" → i < n → J i m news → (∀ p ∈ news, p.1 ≠ I) → Fr g env.locals h m → News g env.locals h ((I, oI) :: news) →
      wpAny (model prog w) A (assign (.Name x px) env (.int (a + i) ti)) (fun _ s₃ => wpAny (model prog w) A (execs body env) (TurnEnd g env.locals s I oI (J (i + 1)) Q) E s₃) E { s with heap := h, toks := tk }
  done : ∀ h tk m news, J n m news → Fr g env.locals h m → News g env.locals h news → Q .next { s with heap := h, toks := tk }
def LoopRX (prog : Program) (w : World) (A : Around) (g : Heap) (env : Env) (x : Str) (px : Pos) (body : List Stmt) (Q : Flow → Shared → Prop) (E : Value → Shared → Prop) (s : Shared) (xv : Value) (s₁ : Shared) : Prop :=
  ∃ r a n J, xv = .ref r ∧ LoopR prog w A g env x px body Q E s r a n J s₁
theorem for_rangeX {x : Str} {px : Pos} {iter : PySem.Expr} {body : List Stmt} {pos : Pos} {Q : Flow → Shared → Prop}
    (hh : A.handled = none)
    (h : wpAny (model prog w) A (eval iter env) (LoopRX prog w A g env x px body Q E s) E s)
    (hs : ∀ x, foldedSetIterable iter env x = pure x)
    (hE : PassesOwn (model prog w) A env E) :
    wpAny (model prog w) A (exec (.For (.Name x px) iter body [] pos) env) Q E s := by
  refine wpAny_For (wpAny_mono h (fun xv s₁ h₁ => ?_) fun _ _ e => e) hs
  obtain ⟨r, a, n, J, rfl, hs₁, ⟨t, u, v, hr⟩, ⟨b1, b2⟩, ⟨m, news, F, N, h0⟩, turn, done⟩ := h₁
  have hsm : Builtin.Range.small a (a + n) 1 = true := small_one (by omega) (by omega) (by omega) (by omega)
  refine wpAny_pyIter_range hr hsm ?_
  generalize hI : s₁.heap.objs.size = I
  have W := Walks.range (prog := prog) (w := w) hh I a 1 n
  have hLI : env.locals ≠ I := by rw [← hI]; exact Nat.ne_of_lt F.ns.lt
  have hgI : g.get? I = none := by
    cases q : g.get? I with
    | none => rfl
    | some o => exact absurd (Heap.lt_size (F.keep _ _ q)) (by rw [hI]; exact Nat.lt_irrefl _)
  have hsz : Builtin.Range.rangeSize a (a + n) 1 = (n : Int) := by
    rw [rangeSize_one]; omega
  refine codeAny_forLoop_any (R := fun r s' => match r with | .ok f => Q f s' | .error e => cameBackBy (model prog w) A env E e s')
    (fun k s' => ∃ h' tk m' news' i, s' = { s with heap := h', toks := tk } ∧ IsRangeIter h' I (a + (i : Nat) * 1) ((n : Int) - (i : Nat)) 1 ∧ Fr g env.locals h' m' ∧ News g env.locals h' news' ∧ (∀ p ∈ news', p.1 ≠ I) ∧ J i m' news' ∧ i ≤ n ∧ k = n + 1 - i) ?_ (n + 1)
    ⟨s₁.heap.push { cls := .type "range_iterator", data := .fields #[rawInt a, rawInt (Builtin.Range.rangeSize a (a + n) 1), rawInt 1] }, s₁.toks, m, news, 0, by rw [hs₁], (by rw [hsz, ← hI]; simpa using Heap.get?_push_size _ rfl), F.push _,
      (fun p hp => ⟨Heap.get?_push_of_some _ (N p hp).1, (N p hp).2⟩), (fun p hp e => absurd (Heap.lt_size (N p hp).1) (by rw [e, hI]; exact Nat.lt_irrefl _)), h0, Nat.zero_le _, rfl⟩
  rintro k s' ⟨h', tk, m', news', i, rfl, hit, F', N', hoff, hJ, hi, rfl⟩
  have next : ∀ h₁ : Heap, (∀ b o, b ∉ [I] → h'.get? b = some o → h₁.get? b = some o) → Fr g env.locals h₁ m' ∧ News g env.locals h₁ news' := fun h₁ hk₁ =>
    ⟨⟨F'.ns.at' fun o e => hk₁ _ o (by simpa using hLI) e, fun b o e => hk₁ b o (by simp; intro q; rw [q, hgI] at e; cases e) (F'.keep b o e), F'.above⟩, fun p hp => ⟨hk₁ _ _ (by simpa using hoff p hp) (N' p hp).1, (N' p hp).2⟩⟩
  by_cases hlt : i < n
  · refine W.item i _ _ _ hlt hit fun v h₁ tk₁ hP hst₁ hk₁ => ?_
    obtain ⟨F₁, N₁⟩ := next h₁ hk₁
    obtain ⟨ti, rfl⟩ := hP
    rw [Int.mul_one]
    refine wpAny_pure ?_
    have N₂ : News g env.locals h₁ ((I, _) :: news') := fun p hp => by
      rcases List.mem_cons.mp hp with rfl | hp
      · exact ⟨hst₁, Ne.symm hLI, hgI⟩
      · exact N₁ p hp
    refine wpAny_passesOwn hE (wpAny_mono (turn I _ i ti m' news' h₁ tk₁ rfl hlt hJ hoff F₁ N₂) (fun _ s₃ h₃ => wpAny_passesOwn hE (wpAny_mono h₃ (fun f s₄ h₄ => ?_) fun _ _ e => e)) fun _ _ e => e)
    cases f with
    | ret v => exact h₄
    | brk => exact h₄
    | next =>
      obtain ⟨h₄', tk₄, m₄, news₄, rfl, F₄, N₄, hoff₄, hJ₄⟩ := h₄
      exact ⟨n + 1 - (i + 1), by omega, h₄', tk₄, m₄, news₄, i + 1, rfl, (N₄ _ (List.mem_cons_self ..)).1, F₄, fun p hp => N₄ p (List.mem_cons_of_mem _ hp), hoff₄, hJ₄, hlt, rfl⟩
    | cont =>
      obtain ⟨h₄', tk₄, m₄, news₄, rfl, F₄, N₄, hoff₄, hJ₄⟩ := h₄
      exact ⟨n + 1 - (i + 1), by omega, h₄', tk₄, m₄, news₄, i + 1, rfl, (N₄ _ (List.mem_cons_self ..)).1, F₄, fun p hp => N₄ p (List.mem_cons_of_mem _ hp), hoff₄, hJ₄, hlt, rfl⟩
  · have hin : i = n := by omega
    subst hin
    refine W.done _ _ _ hit fun h₁ tk₁ hk₁ => wpAny_execs_nil ?_
    obtain ⟨F₁, N₁⟩ := next h₁ hk₁
    exact done h₁ tk₁ m' news' hJ F₁ N₁
end
end Mine
end
section
open PySem PySem.W PySem.Calls PyProof.Rows
set_option Elab.async false
set_option linter.unusedVariables false
namespace Mine
section
variable {prog : Program} {w : World} {A : Around} {E : Value → Shared → Prop} {s : Shared} {env : Env}
/-- what a turn of a comprehension gives: its number, its value, the objects that it made -/
abbrev Out := Nat × Value × List (Addr × Obj)
def EltEnd (G : Value → List (Addr × Obj) → Prop) (s₃ : Shared) (y : Value) (s₄ : Shared) : Prop := (∃ os, G y os ∧ ∀ q ∈ os, s₃.heap.get? q.1 = none ∧ s₄.heap.get? q.1 = some q.2) ∧ Keeps s₃ s₄
theorem elt_tup {G : Value → List (Addr × Obj) → Prop} {h₃ h5 : Heap} {g : Array GenState} {d : Drawn} {t tk : Nat} {o : OsState} {a b : Value} (hs : h₃.StaysIn h5) (hG : G (.ref h5.objs.size) [(h5.objs.size, tupO a b)]) :
    EltEnd G ⟨h₃, g, d, t, o⟩ (.ref h5.objs.size) ⟨h5.push (tupO a b), g, d, tk, o⟩ := by
  refine ⟨⟨_, hG, fun q hq => ?_⟩, _, _, rfl, fun b o e => Heap.get?_push_of_some _ (hs b o e)⟩
  rw [List.mem_singleton.mp hq]
  refine ⟨?_, Heap.get?_push_size _ rfl⟩
  cases e : h₃.get? h5.objs.size with
  | none => rfl
  | some o => exact absurd (Heap.lt_size (hs _ _ e)) (Nat.lt_irrefl _)
structure CompR (prog : Program) (w : World) (A : Around) (env : Env) (scope : Scope) (cl : List (Str × Addr)) (x : Str) (ifs : List PySem.Expr) (elt : PySem.Expr) (Q : Value → Shared → Prop) (r : Addr) (n : Nat) (p : Nat → Bool) (G : Nat → Value → List (Addr × Obj) → Prop) (s₁ : Shared) : Prop where
  range : ∃ t u v, IsRange s₁.heap r 0 (n : Int) 1 t u v
  size : n ≤ 1000
  tests : ∀ C i t s₃ m₃ E', i < n → s₁.heap.objs.size ≤ C → s₃.heap.Ns C m₃ → m₃ x = some (.int (i : Nat) t) → s₁.heap.StaysIn s₃.heap →
    wpAny (model prog w) A (forIn ifs true fun c r => if r = true then do let ok ← isTrue c (compEnvC scope cl C env) (eval c (compEnvC scope cl C env)); pure (ForInStep.yield ok) else pure (ForInStep.yield r))
      (fun ok s₄ => ok = p i ∧ Keeps s₃ s₄) E' s₃
  elt : ∀ C i t s₃ m₃ E', i < n → p i = true → s₁.heap.objs.size ≤ C → s₃.heap.Ns C m₃ → m₃ x = some (.int (i : Nat) t) → s₁.heap.StaysIn s₃.heap →
    wpAny (model prog w) A (eval elt (compEnvC scope cl C env)) (EltEnd (G i) s₃) E' s₃
  out : ∀ D h' tk k (outs : List Out), s₁.heap.get? D = none → h'.get? D = some (listOf (outs.map fun o => o.2.1).toArray k) → outs.map (fun o => o.1) = (List.range n).filter p →
    (∀ o ∈ outs, G o.1 o.2.1 o.2.2 ∧ ∀ q ∈ o.2.2, q.1 ≠ D ∧ s₁.heap.get? q.1 = none ∧ h'.get? q.1 = some q.2) → s₁.heap.StaysIn h' → Q (.ref D) { s₁ with heap := h', toks := tk }
def CompRX (prog : Program) (w : World) (A : Around) (env : Env) (scope : Scope) (cl : List (Str × Addr)) (x : Str) (ifs : List PySem.Expr) (elt : PySem.Expr) (Q : Value → Shared → Prop) (xv : Value) (s₁ : Shared) : Prop :=
  ∃ r n p G, xv = .ref r ∧ CompR prog w A env scope cl x ifs elt Q r n p G s₁
structure BlockR (prog : Program) (w : World) (A : Around) (env : Env) (scope : Scope) (cl : List (Str × Addr)) (x : Str) (ifs : List PySem.Expr) (elt : PySem.Expr) (n : Nat) (p : Nat → Bool) (G : Nat → Value → List (Addr × Obj) → Prop) (s₁ : Shared) : Prop where
  tests : ∀ C i t s₃ m₃ E', i < n → s₁.heap.objs.size ≤ C → s₃.heap.Ns C m₃ → m₃ x = some (.int (i : Nat) t) → s₁.heap.StaysIn s₃.heap →
    wpAny (model prog w) A (forIn ifs true fun c r => if r = true then do let ok ← isTrue c (compEnvC scope cl C env) (eval c (compEnvC scope cl C env)); pure (ForInStep.yield ok) else pure (ForInStep.yield r))
      (fun ok s₄ => ok = p i ∧ Keeps s₃ s₄) E' s₃
  elt : ∀ C i t s₃ m₃ E', i < n → p i = true → s₁.heap.objs.size ≤ C → s₃.heap.Ns C m₃ → m₃ x = some (.int (i : Nat) t) → s₁.heap.StaysIn s₃.heap →
    wpAny (model prog w) A (eval elt (compEnvC scope cl C env)) (EltEnd (G i) s₃) E' s₃
theorem block_range {elt iter : PySem.Expr} {x : Str} {px : Pos} {ifs : List PySem.Expr} {scope : Scope} {cl : List (Str × Addr)} {pos : Pos} {RR : Value → Addr → Result → Shared → Prop} {r : Addr} {n : Nat} {p : Nat → Bool} {G : Nat → Value → List (Addr × Obj) → Prop} {s₁ : Shared}
    (hh : A.handled = none) (hcell : ∀ y ∈ scope.names, y.2 ≠ .cell) (hkind : scope.kind = .function) (hx : scope.names.lookup x = some .local)
    (hr : ∃ t u v, IsRange s₁.heap r 0 (n : Int) 1 t u v) (hn : n ≤ 1000) (H : BlockR prog w A env scope cl x ifs elt n p G s₁)
    (out : ∀ D C h' tk k m' (outs : List Out), s₁.heap.get? D = none → s₁.heap.get? C = none → D ≠ C → h'.Ns C m' → h'.get? D = some (listOf (outs.map fun o => o.2.1).toArray k) → outs.map (fun o => o.1) = (List.range n).filter p →
      (∀ o ∈ outs, G o.1 o.2.1 o.2.2 ∧ ∀ q ∈ o.2.2, (q.1 ≠ D ∧ q.1 ≠ C) ∧ s₁.heap.get? q.1 = none ∧ h'.get? q.1 = some q.2) → s₁.heap.StaysIn h' → RR (.ref D) C (.ok .next) { s₁ with heap := h', toks := tk }) :
    wpAny (model prog w) A (pyIter (.ref r)) (fun it s₂ => wpAny (model prog w) A (newList []) (fun acc s₃ => wpAny (model prog w) A (newFunctionEnv scope env.globals cl [] env.qual none .none (some env)) (fun cenv s₄ =>
      codeAny (model prog w) A (.compStart (.ListComp elt [⟨.Name x px, iter, ifs, 0⟩] scope pos) 0 it acc { cenv with scope := relabel scope env }) (RR acc cenv.locals) s₄) E s₃) E s₂) E s₁ := by
  obtain ⟨t, u, v, hr⟩ := hr
  have hsm : Builtin.Range.small 0 ((n : Nat) : Int) 1 = true := small_one (by omega) (by omega) (by omega) (by omega)
  refine wpAny_pyIter_range hr hsm ?_
  generalize hI : s₁.heap.objs.size = I
  have hsz : Builtin.Range.rangeSize 0 ((n : Nat) : Int) 1 = (n : Int) := by rw [rangeSize_one]; omega
  rw [hsz]
  have W := Walks.range (prog := prog) (w := w) hh I 0 1 n
  generalize hH1 : s₁.heap.push { cls := .type "range_iterator", data := .fields #[rawInt 0, rawInt (n : Int), rawInt 1] } = H1
  have hI1 : H1.objs.size = I + 1 := by rw [← hH1, Heap.size_push, hI]
  have hit1 : IsRangeIter H1 I (0 + ((0 : Nat) : Int) * 1) ((n : Int) - ((0 : Nat) : Int)) 1 := by
    rw [← hH1, ← hI]; simpa using Heap.get?_push_size _ rfl
  have old1 : s₁.heap.StaysIn H1 := fun b o e => hH1 ▸ Heap.get?_push_of_some _ e
  refine wpAny_newObj_type (wpAny_newFunctionEnv hcell (by intro y hy; simp at hy) (fun h₁ hns₁ hsb₁ => ?_) hkind)
  dsimp only at hns₁ hsb₁ ⊢
  generalize hD : H1.objs.size = D at hns₁ hsb₁ ⊢
  generalize hH2 : H1.push { cls := .type "list", dict := none, data := .seq ([] : List Value).toArray } = H2 at hns₁ hsb₁ ⊢
  have hC : H2.objs.size = D + 1 := by rw [← hH2, Heap.size_push, hD]
  generalize hCC : H2.objs.size = C at hns₁ hsb₁ ⊢
  have old2 : ∀ b o, H1.get? b = some o → h₁.get? b = some o := fun b o e => hsb₁.extBut b o (by
    have := Heap.lt_size e; rw [hD] at this; rw [← hCC, hC]; exact Nat.ne_of_lt (Nat.lt_succ_of_lt this)) (Heap.get?_push_of_some _ (hH2 ▸ Heap.get?_push_of_some _ e))
  have hDC : D ≠ C := by rw [← hCC, hC]; exact Nat.ne_of_lt (Nat.lt_succ_self _)
  have hID : I ≠ D := by rw [← hD, hI1]; exact Nat.ne_of_lt (Nat.lt_succ_self _)
  have hIC : I ≠ C := by rw [← hCC, hC, ← hD, hI1]; exact Nat.ne_of_lt (Nat.lt_succ_of_lt (Nat.lt_succ_self _))
  have hacc : h₁.PlainList D #[] := ⟨_, hsb₁.extBut _ _ hDC (Heap.get?_push_of_some _ (hH2 ▸ (hD ▸ Heap.get?_push_size _ rfl)))⟩
  have hit2 : IsRangeIter h₁ I (0 + ((0 : Nat) : Int) * 1) ((n : Int) - ((0 : Nat) : Int)) 1 := old2 _ _ hit1
  have hIs : s₁.heap.get? I = none := by
    cases q : s₁.heap.get? I with
    | none => rfl
    | some o => exact absurd (Heap.lt_size q) (by rw [hI]; exact Nat.lt_irrefl _)
  have none_ge : ∀ b, I ≤ b → s₁.heap.get? b = none := fun b hb => by
    cases q : s₁.heap.get? b with
    | none => rfl
    | some o => have := Heap.lt_size q; rw [hI] at this; exact absurd this (Nat.not_lt.mpr hb)
  have hDs : s₁.heap.get? D = none := none_ge D (by rw [← hD, hI1]; exact Nat.le_succ _)
  have hCs : s₁.heap.get? C = none := none_ge C (by rw [← hCC, hC, ← hD, hI1]; exact Nat.le_succ_of_le (Nat.le_succ _))
  have hold : ∀ b o, s₁.heap.get? b = some o → b ≠ I ∧ b ≠ D ∧ b ≠ C := fun b o e =>
    ⟨fun q => (by rw [q, hIs] at e; cases e), fun q => (by rw [q, hDs] at e; cases e), fun q => (by rw [q, hCs] at e; cases e)⟩
  have hloc : (compEnvC scope cl C env).kindOf x = some .local := lookup_relabel_local hx
  have hst1 : s₁.heap.StaysIn h₁ := fun b o e => old2 _ _ (old1 _ _ e)
  have loop : ∀ s₃ : Shared, s₃.heap = h₁ → s₃ = { s₁ with heap := h₁, toks := s₃.toks } →
      codeAny (model prog w) A (.compLoop (.ListComp elt [⟨.Name x px, iter, ifs, 0⟩] scope pos) 0 (.ref I) (.ref D) (compEnvC scope cl C env))
        (RR (.ref D) C) s₃ := by
    intro s₃ hs3h hs3
    rw [hs3]
    refine codeAny_compLoop_tests
      (fun k s' => ∃ h' tk m' i, ∃ outs : List Out, s' = { s₁ with heap := h', toks := tk } ∧ IsRangeIter h' I (0 + ((i : Nat) : Int) * 1) ((n : Int) - ((i : Nat) : Int)) 1 ∧ h'.PlainList D (outs.map fun o => o.2.1).toArray ∧ h'.Ns C m' ∧
        outs.map (fun o => o.1) = (List.range i).filter p ∧ (∀ o ∈ outs, G o.1 o.2.1 o.2.2 ∧ ∀ q ∈ o.2.2, (q.1 ≠ I ∧ q.1 ≠ D ∧ q.1 ≠ C) ∧ s₁.heap.get? q.1 = none ∧ h'.get? q.1 = some q.2) ∧
        i ≤ n ∧ k = n + 1 - i ∧ s₁.heap.StaysIn h') ?_ (n + 1)
      ⟨h₁, _, _, 0, [], rfl, hit2, hacc, hns₁, rfl, by simp, Nat.zero_le _, rfl, hst1⟩
    rintro k s' ⟨h', tk, m', i, outs, rfl, hit, hpl, hns, houts, hobj, hi, rfl, hst⟩
    by_cases hlt : i < n
    · refine W.item i _ _ _ hlt hit fun v h₂ tk₂ hP hit₂ hk₂ => ?_
      obtain ⟨ti, rfl⟩ := hP
      have ev : (0 + ((i : Nat) : Int) * 1) = ((i : Nat) : Int) := by omega
      rw [ev]
      have hns₂ : h₂.Ns C m' := hns.at' fun o e => hk₂ _ o (by simpa using Ne.symm hIC) e
      refine wpAny_assign_Name (wpAny_storeName_local hloc hns₂ (fun h₃ hn₃ hs₃ => ?_) (by simp [compEnvC, relabel, hkind]))
      have up₃ : ∀ b o, b ≠ I → b ≠ C → h'.get? b = some o → h₃.get? b = some o := fun b o hb hbC e => hs₃.extBut b o hbC (hk₂ b o (by simpa using hb) e)
      have hst₃ : s₁.heap.StaysIn h₃ := fun b o e => up₃ b o (hold b o e).1 (hold b o e).2.2 (hst b o e)
      have hit₃ : IsRangeIter h₃ I (0 + ((i + 1 : Nat) : Int) * 1) ((n : Int) - ((i + 1 : Nat) : Int)) 1 := hs₃.extBut _ _ hIC hit₂
      have hpl₃ : h₃.PlainList D (outs.map fun o => o.2.1).toArray := hpl.at fun o e => up₃ _ o (Ne.symm hID) hDC e
      have hobj₃ : ∀ o ∈ outs, G o.1 o.2.1 o.2.2 ∧ ∀ q ∈ o.2.2, (q.1 ≠ I ∧ q.1 ≠ D ∧ q.1 ≠ C) ∧ s₁.heap.get? q.1 = none ∧ h₃.get? q.1 = some q.2 := fun o ho =>
        ⟨(hobj o ho).1, fun q hq => ⟨((hobj o ho).2 q hq).1, ((hobj o ho).2 q hq).2.1, up₃ _ _ ((hobj o ho).2 q hq).1.1 ((hobj o ho).2 q hq).1.2.2 ((hobj o ho).2 q hq).2.2⟩⟩
      refine wpAny_mono (H.tests C i ti _ _ _ hlt (by rw [hI, ← hCC, hC, ← hD, hI1]; exact Nat.le_succ_of_le (Nat.le_succ _)) hn₃ (by simp) hst₃) (fun ok s₄ h₄ => ?_) fun _ _ e => e
      obtain ⟨rfl, h₄, tk₄, rfl, hk₄⟩ := h₄
      have hst₄ : s₁.heap.StaysIn h₄ := fun b o e => hk₄ _ _ (hst₃ b o e)
      have hobj₄ : ∀ o ∈ outs, G o.1 o.2.1 o.2.2 ∧ ∀ q ∈ o.2.2, (q.1 ≠ I ∧ q.1 ≠ D ∧ q.1 ≠ C) ∧ s₁.heap.get? q.1 = none ∧ h₄.get? q.1 = some q.2 := fun o ho =>
        ⟨(hobj₃ o ho).1, fun q hq => ⟨((hobj₃ o ho).2 q hq).1, ((hobj₃ o ho).2 q hq).2.1, hk₄ _ _ ((hobj₃ o ho).2 q hq).2.2⟩⟩
      cases hp : p i with
      | false =>
        simp only [Bool.false_eq_true, if_false]
        refine ⟨n + 1 - (i + 1), by omega, h₄, _, _, i + 1, outs, rfl, hk₄ _ _ hit₃, hpl₃.at fun o e => hk₄ _ o e, hn₃.keeps hk₄, ?_, hobj₄, hlt, rfl, hst₄⟩
        rw [houts, List.range_succ, List.filter_append]; simp [hp]
      | true =>
        simp only [if_true]
        refine wpAny_mono (H.elt C i ti _ _ _ hlt hp (by rw [hI, ← hCC, hC, ← hD, hI1]; exact Nat.le_succ_of_le (Nat.le_succ _)) (hn₃.keeps hk₄) (by simp) hst₄) (fun y s₅ h₅ => ?_) fun _ _ e => e
        obtain ⟨⟨os, hG, hos⟩, h₅, tk₅, rfl, hk₅⟩ := h₅
        dsimp only at hos hk₅
        have hle : (outs.map fun o => o.2.1).toArray.size ≤ sizeLine := by
          have e1 : outs.length ≤ i := by
            have := congrArg List.length houts
            rw [List.length_map] at this
            rw [this]
            exact Nat.le_trans (List.length_filter_le _ _) (by simp)
          simp only [List.size_toArray, List.length_map]
          unfold sizeLine; omega
        refine wpAny_list_append_plain (hsz := hle) (hpl₃.at fun o e => hk₅ _ o (hk₄ _ o e)) fun h₆ hl₆ hs₆ => ?_
        have live : ∀ b o, h₄.get? b = some o → ∀ q ∈ os, q.1 ≠ b := fun b o e q hq z => by rw [← z, (hos q hq).1] at e; cases e
        refine ⟨n + 1 - (i + 1), by omega, h₆, _, _, i + 1, outs ++ [(i, y, os)], rfl, hs₆.extBut _ _ hID (hk₅ _ _ (hk₄ _ _ hit₃)), by simpa using hl₆, ((hn₃.keeps hk₄).keeps hk₅).sameBut hs₆ (Ne.symm hDC), ?_, ?_, hlt, rfl, ?_⟩
        · rw [List.map_append, houts, List.range_succ, List.filter_append]; simp [hp]
        · intro o ho
          rcases List.mem_append.mp ho with ho | ho
          · exact ⟨(hobj₄ o ho).1, fun q hq => ⟨((hobj₄ o ho).2 q hq).1, ((hobj₄ o ho).2 q hq).2.1, hs₆.extBut _ _ ((hobj₄ o ho).2 q hq).1.2.1 (hk₅ _ _ ((hobj₄ o ho).2 q hq).2.2)⟩⟩
          · rw [List.mem_singleton.mp ho]
            refine ⟨hG, fun q hq => ?_⟩
            have z1 : q.1 ≠ I := live _ _ (hk₄ _ _ hit₃) q hq
            have z2 : q.1 ≠ D := by obtain ⟨_, e⟩ := hpl₃; exact live _ _ (hk₄ _ _ e) q hq
            have z3 : q.1 ≠ C := by obtain ⟨_, _, _, e, _⟩ := hn₃; exact live _ _ (hk₄ _ _ e) q hq
            refine ⟨⟨z1, z2, z3⟩, ?_, hs₆.extBut _ _ z2 (hos q hq).2⟩
            cases e : s₁.heap.get? q.1 with
            | none => rfl
            | some o => exact absurd rfl (live _ _ (hst₄ _ _ e) q hq)
        · exact fun b o e => hs₆.extBut _ _ (hold b o e).2.1 (hk₅ _ _ (hst₄ b o e))
    · have hin : i = n := by omega
      subst hin
      refine W.done _ _ _ hit fun h₂ tk₂ hk₂ => ?_
      obtain ⟨k, hk⟩ := hpl.at (h' := h₂) fun o e => hk₂ _ o (by simpa using Ne.symm hID) e
      refine out D C h₂ _ k m' outs hDs hCs hDC (hns.at' fun o e => hk₂ _ o (by simpa using Ne.symm hIC) e) hk houts (fun o ho => ⟨(hobj o ho).1, fun q hq => ⟨((hobj o ho).2 q hq).1.2, ((hobj o ho).2 q hq).2.1, hk₂ _ _ (by simpa using ((hobj o ho).2 q hq).1.1) ((hobj o ho).2 q hq).2.2⟩⟩) ?_
      exact fun b o e => hk₂ _ _ (by simpa using (hold b o e).1) (hst b o e)
  exact codeAny_compStart_list (loop _ rfl rfl) (W.self 0 _ _ _ hit2 (loop _ rfl rfl))
theorem comp_rangeX {elt iter : PySem.Expr} {x : Str} {px : Pos} {ifs : List PySem.Expr} {scope : Scope} {cl : List (Str × Addr)} {pos : Pos} {Q : Value → Shared → Prop}
    (hh : A.handled = none) (hclos : closureFor scope env = pure cl) (hcell : ∀ y ∈ scope.names, y.2 ≠ .cell) (hkind : scope.kind = .function)
    (hnames : ∀ y ∈ scope.names, y.2 = .local → scope.names.lookup y.1 = some .local) (hx : scope.names.lookup x = some .local)
    (h : wpAny (model prog w) A (eval iter env) (CompRX prog w A env scope cl x ifs elt Q) E s)
    (hs : ∀ x, foldedSetIterable iter env x = pure x) :
    wpAny (model prog w) A (eval (.ListComp elt [⟨.Name x px, iter, ifs, 0⟩] scope pos) env) Q E s := by
  rw [eval_ListComp]
  refine wpAny_comprehension_free (use := none) rfl hs hclos hkind hnames (wpAny_mono h (fun xv s₁ h₁ => ?_) fun _ _ e => e)
  obtain ⟨r, n, p, G, rfl, H⟩ := h₁
  refine block_range (RR := fun acc C => compPost (model prog w) A E none Q acc C) hh hcell hkind hx H.range H.size ⟨H.tests, H.elt⟩ ?_
  intro D C h' tk k m' outs hD hC hDC hns hk houts hobj hst
  refine ⟨m', hns, fun h'' hs'' => ?_⟩
  refine H.out D h'' _ k outs hD (hs''.extBut _ _ hDC hk) houts (fun o ho => ⟨(hobj o ho).1, fun q hq => ⟨((hobj o ho).2 q hq).1.1, ((hobj o ho).2 q hq).2.1, hs''.extBut _ _ ((hobj o ho).2 q hq).1.2 ((hobj o ho).2 q hq).2.2⟩⟩) ?_
  exact fun b o e => hs''.extBut _ _ (fun q => by rw [q, hC] at e; cases e) (hst b o e)
theorem keep5 {P : Prop} {g h h' : Heap} {L D : Addr} {m m' : Str → Option Value} {news : List (Addr × Obj)} {o : Obj} (F : Fr g L h m) (N : News g L h news) (hn : h'.Ns L m') (hk : ∀ b o, b ≠ L → h.get? b = some o → h'.get? b = some o) (hD : h.get? D = none) (hD' : h'.get? D = some o)
    (k : Fr g L h' m' → News g L h' ((D, o) :: news) → (∀ p ∈ news, p.1 ≠ D) → P) : P := by
  have hLg : ∀ b o, g.get? b = some o → b ≠ L := fun b o e => Nat.ne_of_lt (Nat.lt_of_lt_of_le (Heap.lt_size e) F.above)
  refine k ⟨hn, fun b o e => hk b o (hLg b o e) (F.keep b o e), F.above⟩ (fun q hq => ?_) fun q hq e => ?_
  · rcases List.mem_cons.mp hq with rfl | hq
    · refine ⟨hD', fun e => ?_, ?_⟩
      · obtain ⟨oL, _, _, hL, _⟩ := F.ns
        rw [show D = L from e, hL] at hD; cases hD
      · cases q : g.get? D with
        | none => rfl
        | some o' => rw [F.keep _ _ q] at hD; cases hD
    · have y := N q hq
      exact ⟨hk _ _ y.2.1 y.1, y.2⟩
  · have := (N q hq).1
    rw [e, hD] at this; cases this
end
end Mine
end
section
open PySem PySem.W PySem.Calls PyProof.Rows PySem.Builtin PySem.Builtin.Str
set_option Elab.async false
set_option linter.unusedVariables false
namespace Mine
theorem getD_toArray (l : List Nat) (k : Nat) : l.toArray.getD k 0 = l.getD k 0 := by
  simp [Array.getD_eq_getD_getElem?, List.getD_eq_getElem?_getD]
theorem getD_mem {l : List Nat} {k : Nat} (h : k < l.length) : l.getD k 0 ∈ l := by
  rw [List.getD_eq_getElem?_getD, List.getElem?_eq_getElem h, Option.getD_some]; exact List.getElem_mem h
section
variable {prog : Program} {w : World} {A : Around} {E : Value → Shared → Prop} {s : Shared} {Q : Value → Shared → Prop} {a : Addr} {d p : Nat} {t u : Tok} {y : Str}
end
theorem c_dots : Str.ofString ".." = lit [46, 46] := by decide +kernel
end Mine
end
section
open PySem PySem.W PySem.Calls PyProof.Rows PySem.Builtin PySem.Builtin.Str
set_option Elab.async false
set_option linter.unusedVariables false
namespace Mine
/-- texts put together with e between them -/
def joinL (e : List Nat) : List (List Nat) → List Nat
  | [] => []
  | [r] => r
  | r :: r2 :: rs => r ++ (e ++ joinL e (r2 :: rs))
/-- a text of a table: it begins with a dot, and has no control sign -/
def Dotted (r : List Nat) : Prop := ∃ b, r = 46 :: b ∧ ∀ c ∈ b, 32 ≤ c
theorem Dotted.ge {r : List Nat} (h : Dotted r) : ∀ c ∈ r, 32 ≤ c := by
  obtain ⟨b, rfl, hb⟩ := h
  intro c hc
  rcases List.mem_cons.mp hc with rfl | hc
  · decide
  · exact hb c hc
theorem getD_app_left {pre l : List Nat} {k : Nat} (h : k < pre.length) : (pre ++ l).getD k 0 = pre.getD k 0 := by
  rw [List.getD_eq_getElem?_getD, List.getD_eq_getElem?_getD, List.getElem?_append_left h]
theorem getD_app_right {pre l : List Nat} {k : Nat} (h : pre.length ≤ k) : (pre ++ l).getD k 0 = l.getD (k - pre.length) 0 := by
  rw [List.getD_eq_getElem?_getD, List.getD_eq_getElem?_getD, List.getElem?_append_right h]
def IsEnd (e : List Nat) : Prop := e = [13, 10] ∨ e = [10] ∨ e = [13]
theorem joinL_head {e : List Nat} : ∀ {rs : List (List Nat)}, rs ≠ [] → (∀ r ∈ rs, Dotted r) → (joinL e rs).getD 0 0 = 46 ∧ 1 ≤ (joinL e rs).length
  | [], h, _ => absurd rfl h
  | [r], _, hd => by
    obtain ⟨b, rfl, _⟩ := hd r (.head _)
    simp [joinL]
  | r :: r2 :: rs, _, hd => by
    obtain ⟨b, rfl, _⟩ := hd r (.head _)
    simp [joinL]
theorem subs2_join {e : List Nat} (he : IsEnd e) : ∀ (rs : List (List Nat)) (pre : List Nat), rs ≠ [] → (∀ r ∈ rs, Dotted r) → Subs code2 (pre ++ joinL e rs) [13, 10] pre.length (joinL [13, 10] rs)
  | [], _, h, _ => absurd rfl h
  | [r], pre, _, hd => by
    have hr := (hd r (.head _)).ge
    have := Subs.done (code := code2) (text := pre ++ r) (repl := [13, 10]) (pos := pre.length) (finds2_none fun k h1 hk => by
      rw [getD_toArray, getD_app_right h1]
      have hk' : k - pre.length < r.length := by simp at hk; omega
      have := hr _ (getD_mem hk')
      omega) (by simp)
    rw [List.drop_left] at this
    exact this
  | r :: r2 :: rs, pre, _, hd => by
    have hr := (hd r (.head _)).ge
    have hd2 : ∀ x ∈ r2 :: rs, Dotted x := fun x hx => hd x (.tail _ hx)
    obtain ⟨hj, hj1⟩ := joinL_head (e := e) (rs := r2 :: rs) (by simp) hd2
    have ih := subs2_join he (r2 :: rs) (pre ++ (r ++ e)) (by simp) hd2
    generalize hJ : joinL e (r2 :: rs) = J at hj hj1 ih
    have et : pre ++ joinL e (r :: r2 :: rs) = pre ++ (r ++ (e ++ J)) := by simp [joinL, hJ]
    have et2 : pre ++ (r ++ e) ++ J = pre ++ (r ++ (e ++ J)) := by simp [List.append_assoc]
    rw [et]
    rw [et2] at ih
    have hno : ∀ k, pre.length ≤ k → k < pre.length + r.length → (pre ++ (r ++ (e ++ J))).toArray.getD k 0 ≠ 10 ∧ (pre ++ (r ++ (e ++ J))).toArray.getD k 0 ≠ 13 := fun k h1 h2 => by
      rw [getD_toArray, getD_app_right h1, getD_app_left (by omega)]
      have := hr _ (getD_mem (l := r) (k := k - pre.length) (by omega))
      omega
    have at_ : ∀ i, (pre ++ (r ++ (e ++ J))).toArray.getD (pre.length + r.length + i) 0 = (e ++ J).getD i 0 := fun i => by
      rw [getD_toArray, getD_app_right (by omega), getD_app_right (by omega)]
      congr 1; omega
    have hf : Finds code2 (pre ++ (r ++ (e ++ J))).toArray pre.length (some (pre.length + r.length, pre.length + r.length + e.length)) := by
      rcases he with rfl | rfl | rfl
      · exact finds2_crlf (by omega) (by simp <;> omega) (by rw [show pre.length + r.length = pre.length + r.length + 0 from rfl, at_]; rfl) (by rw [at_]; rfl) hno
      · exact finds2_lf (by omega) (by simp <;> omega) (by rw [show pre.length + r.length = pre.length + r.length + 0 from rfl, at_]; rfl) hno
      · refine finds2_cr (by omega) (by simp <;> omega) (by rw [show pre.length + r.length = pre.length + r.length + 0 from rfl, at_]; rfl) ?_ hno
        unfold litOk
        rw [at_]
        have : (([13] : List Nat) ++ J).getD 1 0 = J.getD 0 0 := by simp [List.getD_eq_getElem?_getD]
        rw [this, hj]
        simp
    have hlen : (pre ++ (r ++ e)).length = pre.length + r.length + e.length := by simp [List.length_append] <;> omega
    rw [hlen] at ih
    have he1 : 1 ≤ e.length := by rcases he with rfl | rfl | rfl <;> simp
    have st := Subs.step hf (by omega) (by omega) (by simp [List.length_append] <;> omega) ih
    have ed : ((pre ++ (r ++ (e ++ J))).drop pre.length).take (pre.length + r.length - pre.length) = r := by
      rw [List.drop_left, Nat.add_sub_cancel_left, List.take_left]
    rw [ed] at st
    exact st
/-- the rows behind the first dot -/
theorem bol_no {text : List Nat} {k : Nat} (hk : k ≠ 0) (h : text.getD (k - 1) 0 ≠ 10) : dotAt text.toArray k = false := by
  unfold dotAt bol
  rw [getD_toArray, beq_eq_false_iff_ne.mpr hk, beq_eq_false_iff_ne.mpr h]
  rfl
theorem last46 {pre : List Nat} (h : pre.getLast? = some 46) : pre.getD (pre.length - 1) 0 = 46 := by
  rw [List.getD_eq_getElem?_getD, ← List.getLast?_eq_getElem?, h]; rfl
theorem joinL_cons {e b : List Nat} {c : Nat} : ∀ (rs : List (List Nat)), joinL e ((c :: b) :: rs) = c :: joinL e (b :: rs)
  | [] => rfl
  | _ :: _ => rfl
theorem subs1_tail : ∀ (rs : List (List Nat)) (body pre : List Nat), (∀ r ∈ rs, Dotted r) → (∀ c ∈ body, 32 ≤ c) → pre ≠ [] → pre.getLast? = some 46 → (pre ++ joinL [13, 10] (body :: rs)).length ≤ 100000 →
    Subs code1 (pre ++ joinL [13, 10] (body :: rs)) [46, 46] pre.length (joinL [13, 10] (body :: rs.map (46 :: ·)))
  | [], body, pre, _, hb, hp, hl, hsz => by
    have hpl : 1 ≤ pre.length := by cases pre with | nil => exact absurd rfl hp | cons => simp
    have := Subs.done (code := code1) (text := pre ++ body) (repl := [46, 46]) (pos := pre.length) (finds1_none (by simp [joinL] at hsz; simp; omega) fun k h1 hk => by
      refine bol_no (by omega) ?_
      by_cases hk' : k = pre.length
      · rw [getD_app_left (by omega), hk', last46 hl]; decide
      · rw [getD_app_right (by omega)]
        have := hb _ (getD_mem (l := body) (k := k - 1 - pre.length) (by simp at hk; omega))
        omega) (by simp)
    rw [List.drop_left] at this
    exact this
  | r2 :: rs, body, pre, hd, hb, hp, hl, hsz => by
    have hpl : 1 ≤ pre.length := by cases pre with | nil => exact absurd rfl hp | cons => simp
    obtain ⟨b2, rfl, hb2⟩ := hd r2 (.head _)
    have ih := subs1_tail rs b2 (pre ++ (body ++ [13, 10, 46])) (fun x hx => hd x (.tail _ hx)) hb2 (by simp) (by simp) (by
      simp only [joinL, joinL_cons, List.length_append, List.length_cons, List.length_nil] at hsz ⊢; omega)
    have et : pre ++ joinL [13, 10] (body :: (46 :: b2) :: rs) = pre ++ (body ++ (13 :: 10 :: 46 :: joinL [13, 10] (b2 :: rs))) := by
      simp [joinL, joinL_cons]
    have et2 : pre ++ (body ++ [13, 10, 46]) ++ joinL [13, 10] (b2 :: rs) = pre ++ (body ++ (13 :: 10 :: 46 :: joinL [13, 10] (b2 :: rs))) := by simp
    rw [et] at hsz ⊢
    rw [et2] at ih
    generalize hJ : joinL [13, 10] (b2 :: rs) = J at ih hsz ⊢
    have hlen : (pre ++ (body ++ [13, 10, 46])).length = pre.length + body.length + 2 + 1 := by simp <;> omega
    rw [hlen] at ih
    have at_ : ∀ i, (pre ++ (body ++ (13 :: 10 :: 46 :: J))).getD (pre.length + body.length + i) 0 = (13 :: 10 :: 46 :: J).getD i 0 := fun i => by
      rw [getD_app_right (by omega), getD_app_right (by omega)]
      congr 1; omega
    have hf : Finds code1 (pre ++ (body ++ (13 :: 10 :: 46 :: J))).toArray pre.length (some (pre.length + body.length + 2, pre.length + body.length + 2 + 1)) := by
      refine finds1_some (by simp at hsz ⊢; omega) (by omega) ?_ fun k h1 h2 => bol_no (by omega) ?_
      · unfold dotAt bol litOk
        rw [getD_toArray, getD_toArray, show pre.length + body.length + 2 - 1 = pre.length + body.length + 1 from rfl, at_, at_]
        have h1 : ((13 :: 10 :: 46 :: J).getD 1 0 == 10) = true := rfl
        have h2 : ((13 :: 10 :: 46 :: J).getD 2 0 == 46) = true := rfl
        rw [h1, h2, Bool.or_true, Bool.true_and, Bool.and_true]
        simp <;> omega
      · by_cases hk' : k = pre.length
        · rw [getD_app_left (by omega), hk', last46 hl]; decide
        · by_cases hk2 : k - 1 < pre.length + body.length
          · rw [getD_app_right (by omega), getD_app_left (by omega)]
            have := hb _ (getD_mem (l := body) (k := k - 1 - pre.length) (by omega))
            omega
          · rw [show k - 1 = pre.length + body.length + 0 by omega, at_]; show (13 : Nat) ≠ 10; decide
    have st := Subs.step hf (by omega) (by omega) (by simp <;> omega) ih
    have ed : ((pre ++ (body ++ (13 :: 10 :: 46 :: J))).drop pre.length).take (pre.length + body.length + 2 - pre.length) = body ++ [13, 10] := by
      rw [List.drop_left, show pre.length + body.length + 2 - pre.length = (body ++ [13, 10]).length by simp <;> omega, show body ++ (13 :: 10 :: 46 :: J) = (body ++ [13, 10]) ++ (46 :: J) by simp, List.take_left]
    rw [ed] at st
    have eo : joinL [13, 10] (body :: ((46 :: b2) :: rs).map (46 :: ·)) = body ++ [13, 10] ++ ([46, 46] ++ joinL [13, 10] (b2 :: rs.map (46 :: ·))) := by
      simp [joinL, joinL_cons]
    rw [eo]
    exact st
theorem subs1_join : ∀ (rs : List (List Nat)), rs ≠ [] → (∀ r ∈ rs, Dotted r) → (joinL [13, 10] rs).length ≤ 100000 → Subs code1 (joinL [13, 10] rs) [46, 46] 0 (joinL [13, 10] (rs.map (46 :: ·)))
  | [], h, _, _ => absurd rfl h
  | r :: rs, _, hd, hsz => by
    obtain ⟨b, rfl, hb⟩ := hd r (.head _)
    rw [joinL_cons] at hsz ⊢
    have ih := subs1_tail rs b [46] (fun x hx => hd x (.tail _ hx)) hb (by simp) rfl hsz
    have f1 : Finds code1 (46 :: joinL [13, 10] (b :: rs)).toArray 0 (some (0, 1)) := finds1_some (by simp at hsz ⊢; omega) (Nat.le_refl _) (by
      unfold dotAt bol litOk
      rw [getD_toArray]
      simp) (fun k h1 h2 => absurd h2 (Nat.not_lt_zero _))
    have st := Subs.step f1 (Nat.le_refl _) (by decide) (by simp) ih
    rw [List.map_cons, joinL_cons, joinL_cons]
    simpa using st
end Mine
end
section
open PySem PySem.W PySem.Calls PyProof.Rows PySem.Builtin PySem.Builtin.Str PySem.StrLaws
set_option Elab.async false
set_option linter.unusedVariables false
namespace Mine
theorem ext_list (l : List Nat) (i j : Nat) : (l.toArray.extract i j).toList = (l.take j).drop i := by
  simp [Array.toList_extract, List.extract_eq_take_drop, List.drop_take]
theorem subAt_iff {text : List Nat} {i : Nat} : subAt (lit text) (lit [13, 10]) i = true ↔ text[i]? = some 13 ∧ text[i + 1]? = some 10 := by
  have e : (text.take (i + 2)).drop i = (text.drop i).take 2 := by rw [List.drop_take]; congr 1; omega
  have e2 : subAt (lit text) (lit [13, 10]) i = true ↔ (text.drop i).take 2 = [13, 10] := by
    rw [← e, ← ext_list]
    unfold subAt
    rw [beq_iff_eq]
    show text.toArray.extract i (i + (lit [13, 10]).length) = (lit [13, 10]).cps ↔ _
    rw [show (lit [13, 10]).length = 2 from rfl, show (lit [13, 10]).cps = #[13, 10] from rfl]
    exact ⟨fun h => by rw [h], fun h => Array.toList_inj.mp h⟩
  rw [e2]
  have h0 : (text.drop i)[0]? = text[i]? := by rw [List.getElem?_drop]; rfl
  have h1 : (text.drop i)[1]? = text[i + 1]? := by rw [List.getElem?_drop]
  rw [← h0, ← h1]
  generalize text.drop i = l
  match l with
  | [] => simp
  | [x] => simp
  | x :: y :: r => simp
theorem occ_skip {text : List Nat} {hi limit : Nat} : ∀ (n m lo : Nat) (st : Array Nat × Nat), (∀ i, lo ≤ i → i < lo + n → text[i]? ≠ some 13) →
    (forIn (List.range' lo (n + m)) st (occBody (lit text) (lit [13, 10]) hi limit)).run = (forIn (List.range' (lo + n) m) st (occBody (lit text) (lit [13, 10]) hi limit)).run
  | 0, m, lo, st, _ => by rw [Nat.zero_add, Nat.add_zero]
  | n + 1, m, lo, st, h => by
    have e : List.range' lo (n + 1 + m) = lo :: List.range' (lo + 1) (n + m) := by
      rw [show n + 1 + m = (n + m) + 1 by omega]; rfl
    rw [e, List.forIn_cons]
    have hno : ¬ (((st.fst.size < limit ∧ st.snd ≤ lo) ∧ lo + (lit [13, 10]).length ≤ hi) ∧ subAt (lit text) (lit [13, 10]) lo = true) := fun q => h lo (Nat.le_refl _) (by omega) (subAt_iff.mp q.2).1
    unfold occBody
    rw [if_neg hno]
    have ih := occ_skip (text := text) (hi := hi) (limit := limit) n m (lo + 1) st fun i h1 h2 => h i (by omega) (by omega)
    rw [show lo + 1 + n = lo + (n + 1) by omega] at ih
    exact ih
def cutsOf : Nat → List (List Nat) → List Nat
  | _, [] => []
  | _, [_] => []
  | o, r :: r2 :: rs => (o + r.length) :: cutsOf (o + r.length + 2) (r2 :: rs)
theorem occ_join {limit : Nat} : ∀ (rs : List (List Nat)) (pre : List Nat) (st : Array Nat × Nat), rs ≠ [] → (∀ r ∈ rs, 13 ∉ r) → st.2 ≤ pre.length → st.1.size + (joinL [13, 10] rs).length < limit →
    (forIn (List.range' pre.length ((joinL [13, 10] rs).length + 1)) st (occBody (lit (pre ++ joinL [13, 10] rs)) (lit [13, 10]) (pre ++ joinL [13, 10] rs).length limit)).run.fst.toList = st.1.toList ++ cutsOf pre.length rs
  | [], _, _, h, _, _, _ => absurd rfl h
  | [r], pre, st, _, hr, _, _ => by
    have := occ_skip (text := pre ++ joinL [13, 10] [r]) (hi := (pre ++ joinL [13, 10] [r]).length) (limit := limit) (r.length + 1) 0 pre.length st fun i h1 h2 e => by
      rw [show joinL [13, 10] [r] = r from rfl, List.getElem?_append_right h1] at e
      exact hr r (.head _) (List.mem_of_getElem? e)
    rw [Nat.add_zero] at this
    rw [show (joinL [13, 10] [r]).length = r.length from rfl, this]
    simp [cutsOf]
  | r :: r2 :: rs, pre, st, _, hr, hst, hlim => by
    have hJl : (joinL [13, 10] (r :: r2 :: rs)).length = r.length + (2 + (joinL [13, 10] (r2 :: rs)).length) := by
      simp only [joinL, List.length_append, List.length_cons, List.length_nil]
    have et : pre ++ joinL [13, 10] (r :: r2 :: rs) = (pre ++ (r ++ [13, 10])) ++ joinL [13, 10] (r2 :: rs) := by simp [joinL]
    have hpl : (pre ++ (r ++ [13, 10])).length = pre.length + r.length + 2 := by simp <;> omega
    rw [hJl] at hlim ⊢
    have ih := occ_join (limit := limit) (r2 :: rs) (pre ++ (r ++ [13, 10])) (st.1.push (pre.length + r.length), pre.length + r.length + 2) (by simp) (fun x hx => hr x (.tail _ hx)) (by rw [hpl]; exact Nat.le_refl _) (by simp only [Array.size_push]; omega)
    rw [et]
    generalize hJ : joinL [13, 10] (r2 :: rs) = J at ih hlim ⊢
    have at_ : ∀ i, ((pre ++ (r ++ [13, 10])) ++ J)[pre.length + r.length + i]? = (13 :: 10 :: J)[i]? := fun i => by
      rw [show (pre ++ (r ++ [13, 10])) ++ J = pre ++ (r ++ (13 :: 10 :: J)) by simp, List.getElem?_append_right (by omega), List.getElem?_append_right (by omega)]
      congr 1; omega
    have sk := occ_skip (text := (pre ++ (r ++ [13, 10])) ++ J) (hi := ((pre ++ (r ++ [13, 10])) ++ J).length) (limit := limit) r.length (1 + (1 + (J.length + 1))) pre.length st fun i h1 h2 e => by
      rw [show (pre ++ (r ++ [13, 10])) ++ J = pre ++ (r ++ (13 :: 10 :: J)) by simp, List.getElem?_append_right h1, List.getElem?_append_left (by omega)] at e
      exact hr r (.head _) (List.mem_of_getElem? e)
    rw [show r.length + (2 + J.length) + 1 = r.length + (1 + (1 + (J.length + 1))) by omega, sk]
    have e1 : List.range' (pre.length + r.length) (1 + (1 + (J.length + 1))) = (pre.length + r.length) :: List.range' (pre.length + r.length + 1) (1 + (J.length + 1)) := by
      rw [show 1 + (1 + (J.length + 1)) = (1 + (J.length + 1)) + 1 by omega]; rfl
    rw [e1, List.forIn_cons]
    have hyes : ((st.fst.size < limit ∧ st.snd ≤ pre.length + r.length) ∧ pre.length + r.length + (lit [13, 10]).length ≤ ((pre ++ (r ++ [13, 10])) ++ J).length) ∧ subAt (lit ((pre ++ (r ++ [13, 10])) ++ J)) (lit [13, 10]) (pre.length + r.length) = true := by
      refine ⟨⟨⟨by omega, by omega⟩, ?_⟩, subAt_iff.mpr ⟨at_ 0, at_ 1⟩⟩
      rw [List.length_append, hpl, show (lit [13, 10]).length = 2 from rfl]; omega
    conv => lhs; unfold occBody
    rw [if_pos hyes]
    have sk2 := occ_skip (text := (pre ++ (r ++ [13, 10])) ++ J) (hi := ((pre ++ (r ++ [13, 10])) ++ J).length) (limit := limit) 1 (J.length + 1) (pre.length + r.length + 1) (st.1.push (pre.length + r.length), pre.length + r.length + 2) fun i h1 h2 e => by
      have : i = pre.length + r.length + 1 := by omega
      rw [this, at_ 1] at e
      simp at e
    rw [hpl] at ih
    rw [show pre.length + r.length + 1 + 1 = pre.length + r.length + 2 from rfl] at sk2
    have := congrArg (fun z => z.fst.toList) sk2
    refine Eq.trans this (ih.trans ?_)
    simp [cutsOf]
theorem parts_join : ∀ (rs : List (List Nat)) (pre : List Nat), rs ≠ [] → ((pre.length :: (cutsOf pre.length rs).map (· + 2)).zip (cutsOf pre.length rs ++ [(pre ++ joinL [13, 10] rs).length])).map (fun p => strSub (lit (pre ++ joinL [13, 10] rs)) p.1 p.2) = rs.map lit
  | [], _, h => absurd rfl h
  | [r], pre, _ => by
    simp only [cutsOf, List.map_nil, List.nil_append, List.zip_cons_cons, List.zip_nil_right, List.map_cons, joinL]
    congr 1
    unfold strSub lit
    congr 1
    rw [← Array.toList_inj, ext_list, List.take_length, List.drop_left]
  | r :: r2 :: rs, pre, _ => by
    have et : pre ++ joinL [13, 10] (r :: r2 :: rs) = (pre ++ (r ++ [13, 10])) ++ joinL [13, 10] (r2 :: rs) := by simp [joinL]
    have hpl : (pre ++ (r ++ [13, 10])).length = pre.length + r.length + 2 := by simp <;> omega
    have ih := parts_join (r2 :: rs) (pre ++ (r ++ [13, 10])) (by simp)
    rw [hpl, ← et] at ih
    simp only [cutsOf, List.map_cons, List.cons_append, List.zip_cons_cons]
    rw [ih]
    congr 1
    unfold strSub lit
    congr 1
    rw [← Array.toList_inj, ext_list]
    show ((pre ++ joinL [13, 10] (r :: r2 :: rs)).take (pre.length + r.length)).drop pre.length = r
    rw [show pre ++ joinL [13, 10] (r :: r2 :: rs) = (pre ++ r) ++ ([13, 10] ++ joinL [13, 10] (r2 :: rs)) by simp [joinL], show pre.length + r.length = (pre ++ r).length by simp, List.take_left, List.drop_left]
theorem cutsOf_nil {o : Nat} : ∀ {rs : List (List Nat)}, rs ≠ [] → cutsOf o rs = [] → ∃ r, rs = [r]
  | [], h, _ => absurd rfl h
  | [r], _, _ => ⟨r, rfl⟩
  | _ :: _ :: _, _, h => by simp [cutsOf] at h
theorem kind_crlf (x : Str) : decide (Str.strKind x < Str.strKind (lit [13, 10])) = false := by
  have h1 : Str.strKind (lit [13, 10]) = 1 := by decide +kernel
  rw [h1]
  unfold Str.strKind
  split
  · decide
  · split <;> decide
theorem split_join {rs : List (List Nat)} (hne : rs ≠ []) (hr : ∀ r ∈ rs, 13 ∉ r) : Txt.split (lit (joinL [13, 10] rs)) (lit [13, 10]) = rs.map lit := by
  have hocc : occurrences (lit (joinL [13, 10] rs)) (lit [13, 10]) 0 (lit (joinL [13, 10] rs)).length ((lit (joinL [13, 10] rs)).length + 1) = cutsOf 0 rs := by
    rw [occ_eq, lit_len]
    have := occ_join (limit := (joinL [13, 10] rs).length + 1) rs [] (#[], 0) hne hr (Nat.le_refl _) (by simp)
    simpa using this
  have one : ∀ {r : List Nat}, rs = [r] → [lit (joinL [13, 10] rs)] = rs.map lit := fun e => by rw [e]; rfl
  unfold Txt.split
  rw [hocc, kind_crlf, Bool.or_false]
  split
  · rename_i hl
    have hl' : (joinL [13, 10] rs).length < 2 := by simpa [lit_len] using hl
    match rs, hne with
    | [r], _ => rfl
    | r :: r2 :: rs, _ => simp only [joinL, List.length_append, List.length_cons, List.length_nil] at hl'; omega
  · split
    · rename_i he
      obtain ⟨r, e⟩ := cutsOf_nil (o := 0) hne (List.isEmpty_iff.mp he)
      exact one e
    · have := parts_join rs [] hne
      unfold partsBetween
      rw [lit_len, lit_len]
      simpa using this
theorem joinL_flat {e : List Nat} : ∀ (rs : List (List Nat)) (r : List Nat), joinL e (r :: rs) = r ++ rs.flatMap fun x => e ++ x
  | [], r => by simp [joinL]
  | r2 :: rs, r => by
    simp only [joinL, List.flatMap_cons]
    rw [joinL_flat rs r2, List.append_assoc]
theorem glue_fold {e : List Nat} : ∀ (rs : List (List Nat)) (acc : Array Nat), ((rs.map lit).foldl (fun acc p => acc ++ (lit e).cps ++ p.cps) acc).toList = acc.toList ++ rs.flatMap fun x => e ++ x
  | [], acc => by simp
  | r :: rs, acc => by
    rw [List.map_cons, List.foldl_cons, glue_fold rs]
    simp only [Array.toList_append, lit_cps, List.flatMap_cons, List.append_assoc]
theorem joinL_lit {e : List Nat} : ∀ {rs : List (List Nat)}, rs ≠ [] → Txt.join (lit e) (rs.map lit) = lit (joinL e rs)
  | [], h => absurd rfl h
  | r :: rs, _ => by
    unfold Txt.join glued
    rw [joinL_flat]
    have := glue_fold (e := e) rs (lit r).cps
    rw [lit_cps] at this
    have h2 : Array.mk (r ++ rs.flatMap fun x => e ++ x) = (rs.map lit).foldl (fun acc p => acc ++ (lit e).cps ++ p.cps) (lit r).cps := by
      rw [← this]
    unfold lit at h2 ⊢
    simp only [List.map_cons, List.drop_succ_cons, List.drop_zero, List.headD_cons]
    rw [← h2]
end Mine
end
section
open PySem PySem.W PySem.Calls PyProof.Rows
set_option Elab.async false
set_option linter.unusedVariables false
set_option maxRecDepth 100000
namespace Mine
section
variable {prog : Program} {w : World} {A : Around} {E : Value → Shared → Prop} {s : Shared}
theorem eq_empty {l b : Addr} {items : Array Value} {Q : Value → Shared → Prop} (hl : s.heap.IsList l items) (hb : s.heap.IsList b #[]) (hu : A.units < cLine) (h : Q (.bool (items.size == 0)) s) :
    wpAny (model prog w) A (compareOp .Eq (.ref l) (.ref b)) Q E s := by
  by_cases hz : items.size = 0
  · rw [hz] at h
    refine SeqAt.RcAt.lists (e := fun _ => true) hl hb (by rw [hz]; rfl) hu (fun j h1 h2 => absurd h2 (by simp)) prog w E Q ?_
    rw [hz]
    exact h
  · have e : (items.size == 0) = false := by simpa using hz
    rw [e] at h
    exact SeqAt.RcAt.lists_lengths hl hb (by simpa using hz) hu prog w E Q h
theorem ne_empty {l b : Addr} {items : Array Value} {Q : Value → Shared → Prop} (hl : s.heap.IsList l items) (hb : s.heap.IsList b #[]) (hu : A.units < cLine) (h : Q (.bool (!(items.size == 0))) s) :
    wpAny (model prog w) A (compareOp .NotEq (.ref l) (.ref b)) Q E s := by
  by_cases hz : items.size = 0
  · rw [hz] at h
    refine SeqAt.RcNeAt.lists (e := fun _ => true) hl hb (by rw [hz]; rfl) hu (fun j h1 h2 => absurd h2 (by simp)) prog w E Q ?_
    rw [hz]
    exact h
  · have e : (items.size == 0) = false := by simpa using hz
    rw [e] at h
    exact SeqAt.RcNeAt.lists_lengths hl hb (by simpa using hz) hu prog w E Q h
def isNum (z : Int) : Value → Bool
  | .int a _ => a == z
  | _ => false
theorem any_num {z : Int} : ∀ {vs : List Value} {ns : List Int}, IntsAre vs ns → vs.any (isNum z) = decide (z ∈ ns)
  | _, _, .nil => rfl
  | _, _, .cons n t h => by
    have ih := any_num (z := z) h
    simp only [List.any_cons, isNum, ih, List.mem_cons, Bool.decide_or]
    congr 1
    by_cases q : n = z
    · subst q; simp
    · have q' : ¬ z = n := fun e => q e.symm
      simp [q, q']
theorem in_ints {l : Addr} {vs : List Value} {ns : List Int} {z : Int} {t : Tok} {Q : Value → Shared → Prop} (hl : s.heap.IsList l vs.toArray) (hv : IntsAre vs ns) (h : Q (.bool (decide (z ∈ ns))) s) :
    wpAny (model prog w) A (compareOp .In (.int z t) (.ref l)) Q E s := by
  refine PySem.SeqInW.in_listW (isNum z) (fun y hy => ?_) hl ?_
  · obtain ⟨n, u, rfl⟩ := hv.all y (by simpa using hy)
    exact MeetsSeq.EqGives.int n z u t
  · rw [List.any_toArray, any_num hv]; exact h
end
section
variable {prog : Program} {w : World} {A : Around} {E : Value → Shared → Prop} {s : Shared} {env : Env}
/-- a list comprehension over range(n) whose number is a cell's and is itself what it gives -/
structure CompRC (prog : Program) (w : World) (A : Around) (env : Env) (scope : Scope) (cl : List (Str × Addr)) (x : Str) (ifs : List PySem.Expr) (Q : Value → Shared → Prop) (r : Addr) (n : Nat) (p : Nat → Bool) (s₁ : Shared) : Prop where
  range : ∃ t u v, IsRange s₁.heap r 0 (n : Int) 1 t u v
  size : n ≤ 1000
  tests : ∀ C K i t s₃ m₃ E', i < n → s₁.heap.get? K = none → s₃.heap.Ns C m₃ → s₃.heap.IsCell K (some (.int (i : Nat) t)) → s₁.heap.StaysIn s₃.heap →
    wpAny (model prog w) A (forIn ifs true fun c r => if r = true then do let ok ← isTrue c (compEnvC scope ((x, K) :: cl) C env) (eval c (compEnvC scope ((x, K) :: cl) C env)); pure (ForInStep.yield ok) else pure (ForInStep.yield r))
      (fun ok s₄ => ok = p i ∧ Keeps s₃ s₄) E' s₃
  out : ∀ D h' tk k vs, s₁.heap.get? D = none → h'.get? D = some (listOf (List.toArray vs) k) → IntsAre vs (((List.range n).filter p).map fun i => ((i : Nat) : Int)) → s₁.heap.StaysIn h' → Q (.ref D) { s₁ with heap := h', toks := tk }
def CompRCX (prog : Program) (w : World) (A : Around) (env : Env) (scope : Scope) (cl : List (Str × Addr)) (x : Str) (ifs : List PySem.Expr) (Q : Value → Shared → Prop) (xv : Value) (s₁ : Shared) : Prop :=
  ∃ r n p, xv = .ref r ∧ CompRC prog w A env scope cl x ifs Q r n p s₁
theorem new_envC {M : Model} {scope : Scope} {globals : Addr} {cl : List (Str × Addr)} {qual : Str} {outer : Env} {x : Str} {Q : Env → Shared → Prop}
    (hcf : ∀ n, cellsFrom n scope.names cl = (x, n) :: cl) (hpc : ∀ h, pushCells h scope.names = h.push { cls := .type "cell", data := .cell none })
    (h : Q (newEnv scope s.heap.objs.size globals ((x, s.heap.objs.size + 1) :: cl) qual none .none (some outer) builtinsNs) { s with heap := (s.heap.push { cls := .type "dict", data := .dict #[] }).push { cls := .type "cell", data := .cell none } }) :
    wpAny M A (newFunctionEnv scope globals cl [] qual none .none (some outer)) Q E s := by
  simp only [newFunctionEnv, Option.isSome_some, if_true]
  refine wpAny_bind (wpAny_alloc ?_)
  refine wpAny_bind (wpAny_layCells _ (fun name kind cells => by cases hkc : kind == NameKind.cell <;> simp) _ _ _ _ ?_)
  dsimp only
  rw [Heap.size_push, hcf, hpc, List.forIn_nil]
  exact wpAny_bind (wpAny_pure (wpAny_pure h))
theorem comp_rangeC {iter : PySem.Expr} {x : Str} {px pe : Pos} {ifs : List PySem.Expr} {scope : Scope} {cl : List (Str × Addr)} {pos : Pos} {Q : Value → Shared → Prop}
    (hh : A.handled = none) (hclos : closureFor scope env = pure cl) (hkind : scope.kind = .function)
    (hnames : ∀ y ∈ scope.names, y.2 = .local → scope.names.lookup y.1 = some .local) (hcf : ∀ n, cellsFrom n scope.names cl = (x, n) :: cl) (hpc : ∀ h, pushCells h scope.names = h.push { cls := .type "cell", data := .cell none })
    (hx : (relabel scope env).names.lookup x = some .cell) (hxd : (x == ("__debug__" : Str)) = false)
    (h : wpAny (model prog w) A (eval iter env) (CompRCX prog w A env scope cl x ifs Q) E s)
    (hs : ∀ x, foldedSetIterable iter env x = pure x) :
    wpAny (model prog w) A (eval (.ListComp (.Name x pe) [⟨.Name x px, iter, ifs, 0⟩] scope pos) env) Q E s := by
  rw [eval_ListComp]
  refine wpAny_comprehension_free (use := none) rfl hs hclos hkind hnames (wpAny_mono h (fun xv s₁ h₁ => ?_) fun _ _ e => e)
  obtain ⟨r, n, p, rfl, H⟩ := h₁
  obtain ⟨t, u, v, hr⟩ := H.range
  have hn := H.size
  have hsm : Builtin.Range.small 0 ((n : Nat) : Int) 1 = true := small_one (by omega) (by omega) (by omega) (by omega)
  refine wpAny_pyIter_range hr hsm ?_
  generalize hI : s₁.heap.objs.size = I
  have hsz : Builtin.Range.rangeSize 0 ((n : Nat) : Int) 1 = (n : Int) := by rw [rangeSize_one]; omega
  rw [hsz]
  have W := Walks.range (prog := prog) (w := w) hh I 0 1 n
  generalize hH1 : s₁.heap.push { cls := .type "range_iterator", data := .fields #[rawInt 0, rawInt (n : Int), rawInt 1] } = H1
  have hI1 : H1.objs.size = I + 1 := by rw [← hH1, Heap.size_push, hI]
  have hit1 : IsRangeIter H1 I (0 + ((0 : Nat) : Int) * 1) ((n : Int) - ((0 : Nat) : Int)) 1 := by
    rw [← hH1, ← hI]; simpa using Heap.get?_push_size _ rfl
  have old1 : s₁.heap.StaysIn H1 := fun b o e => hH1 ▸ Heap.get?_push_of_some _ e
  refine wpAny_newObj_type (new_envC hcf hpc ?_)
  dsimp only
  generalize hD : H1.objs.size = D
  generalize hH2 : H1.push { cls := .type "list", dict := none, data := .seq ([] : List Value).toArray } = H2
  have hC : H2.objs.size = D + 1 := by rw [← hH2, Heap.size_push, hD]
  generalize hCC : H2.objs.size = C
  generalize hH3 : H2.push { cls := .type "dict", data := .dict #[] } = H3
  have hK3 : H3.objs.size = C + 1 := by rw [← hH3, Heap.size_push, hCC]
  generalize hH4 : H3.push { cls := .type "cell", data := .cell none } = h₁
  have up2 : H1.StaysIn H2 := fun b o e => hH2 ▸ Heap.get?_push_of_some _ e
  have up3 : H2.StaysIn H3 := fun b o e => hH3 ▸ Heap.get?_push_of_some _ e
  have up4 : H3.StaysIn h₁ := fun b o e => hH4 ▸ Heap.get?_push_of_some _ e
  have old2 : H1.StaysIn h₁ := fun b o e => up4 _ _ (up3 _ _ (up2 _ _ e))
  have hDC : D ≠ C := by rw [← hCC, hC]; exact Nat.ne_of_lt (Nat.lt_succ_self _)
  have hID : I ≠ D := by rw [← hD, hI1]; exact Nat.ne_of_lt (Nat.lt_succ_self _)
  have hIC : I ≠ C := by rw [← hCC, hC, ← hD, hI1]; exact Nat.ne_of_lt (Nat.lt_succ_of_lt (Nat.lt_succ_self _))
  have hIK : I ≠ C + 1 := by rw [← hCC, hC, ← hD, hI1]; exact Nat.ne_of_lt (Nat.lt_succ_of_lt (Nat.lt_succ_of_lt (Nat.lt_succ_self _)))
  have hDK : D ≠ C + 1 := by rw [← hCC, hC]; exact Nat.ne_of_lt (Nat.lt_succ_of_lt (Nat.lt_succ_self _))
  have hCK : C ≠ C + 1 := Nat.ne_of_lt (Nat.lt_succ_self _)
  have hns₁ : h₁.Ns C (fun _ => none) := ((hH3 ▸ hCC ▸ Heap.Ns.new H2 (.type "dict") : H3.Ns C (fun _ => none))).keeps up4
  have hcell₁ : h₁.IsCell (C + 1) none := ⟨_, hH4 ▸ hK3 ▸ Heap.get?_push_size _ rfl, rfl⟩
  have hacc : h₁.PlainList D #[] := ⟨_, up4 _ _ (up3 _ _ (hH2 ▸ (hD ▸ Heap.get?_push_size _ rfl)))⟩
  have hit2 : IsRangeIter h₁ I (0 + ((0 : Nat) : Int) * 1) ((n : Int) - ((0 : Nat) : Int)) 1 := old2 _ _ hit1
  have none_ge : ∀ b, I ≤ b → s₁.heap.get? b = none := fun b hb => by
    cases q : s₁.heap.get? b with
    | none => rfl
    | some o => have := Heap.lt_size q; rw [hI] at this; exact absurd this (Nat.not_lt.mpr hb)
  have hIs : s₁.heap.get? I = none := none_ge I (Nat.le_refl _)
  have hDs : s₁.heap.get? D = none := none_ge D (by rw [← hD, hI1]; exact Nat.le_succ _)
  have hCs : s₁.heap.get? C = none := none_ge C (by rw [← hCC, hC, ← hD, hI1]; exact Nat.le_succ_of_le (Nat.le_succ _))
  have hKs : s₁.heap.get? (C + 1) = none := none_ge (C + 1) (by rw [← hCC, hC, ← hD, hI1]; exact Nat.le_succ_of_le (Nat.le_succ_of_le (Nat.le_succ _)))
  have hold : ∀ b o, s₁.heap.get? b = some o → b ≠ I ∧ b ≠ D ∧ b ≠ C ∧ b ≠ (C + 1 : Nat) := fun b o e =>
    ⟨fun q => (by rw [q, hIs] at e; cases e), fun q => (by rw [q, hDs] at e; cases e), fun q => (by rw [q, hCs] at e; cases e), fun q => (by rw [q, hKs] at e; cases e)⟩
  have hst1 : s₁.heap.StaysIn h₁ := fun b o e => old2 _ _ (old1 _ _ e)
  have hkx : (compEnvC scope ((x, C + 1) :: cl) C env).kindOf x = some .cell := hx
  have hlk : (compEnvC scope ((x, C + 1) :: cl) C env).cells.lookup x = some (C + 1) := by simp [compEnvC]
  have hkf : (compEnvC scope ((x, C + 1) :: cl) C env).scope.kind = .function := by simp [compEnvC, relabel, hkind]
  have loop : ∀ s₃ : Shared, s₃.heap = h₁ → s₃ = { s₁ with heap := h₁, toks := s₃.toks } →
      codeAny (model prog w) A (.compLoop (.ListComp (.Name x pe) [⟨.Name x px, iter, ifs, 0⟩] scope pos) 0 (.ref I) (.ref D) (compEnvC scope ((x, C + 1) :: cl) C env))
        (compPost (model prog w) A E none Q (.ref D) C) s₃ := by
    intro s₃ hs3h hs3
    rw [hs3]
    refine codeAny_compLoop_tests
      (fun k s' => ∃ h' tk m' i v₀ vs, s' = { s₁ with heap := h', toks := tk } ∧ IsRangeIter h' I (0 + ((i : Nat) : Int) * 1) ((n : Int) - ((i : Nat) : Int)) 1 ∧ h'.PlainList D (List.toArray vs) ∧ h'.Ns C m' ∧ h'.IsCell (C + 1) v₀ ∧
        IntsAre vs (((List.range i).filter p).map fun i => ((i : Nat) : Int)) ∧ i ≤ n ∧ k = n + 1 - i ∧ s₁.heap.StaysIn h') ?_ (n + 1)
      ⟨h₁, _, _, 0, _, [], rfl, hit2, hacc, hns₁, hcell₁, .nil, Nat.zero_le _, rfl, hst1⟩
    rintro k s' ⟨h', tk, m', i, v₀, vs, rfl, hit, hpl, hns, hcl, hvs, hi, rfl, hst⟩
    by_cases hlt : i < n
    · refine W.item i _ _ _ hlt hit fun v h₂ tk₂ hP hit₂ hk₂ => ?_
      obtain ⟨ti, rfl⟩ := hP
      have ev : (0 + ((i : Nat) : Int) * 1) = ((i : Nat) : Int) := by omega
      rw [ev]
      have hns₂ : h₂.Ns C m' := hns.at' fun o e => hk₂ _ o (by simpa using Ne.symm hIC) e
      have hcl₂ : h₂.IsCell (C + 1) v₀ := by obtain ⟨oc, a, b⟩ := hcl; exact ⟨oc, hk₂ _ _ (by simpa using Ne.symm hIK) a, b⟩
      refine wpAny_assign_Name (wpAny_storeName_cell hkf hkx hlk hcl₂ fun h₃ hc₃ hs₃ => ?_)
      have up₃ : ∀ b o, b ≠ I → b ≠ (C + 1 : Nat) → h'.get? b = some o → h₃.get? b = some o := fun b o hb hbC e => hs₃.extBut b o hbC (hk₂ b o (by simpa using hb) e)
      have hst₃ : s₁.heap.StaysIn h₃ := fun b o e => up₃ b o (hold b o e).1 (hold b o e).2.2.2 (hst b o e)
      have hit₃ : IsRangeIter h₃ I (0 + ((i + 1 : Nat) : Int) * 1) ((n : Int) - ((i + 1 : Nat) : Int)) 1 := hs₃.extBut _ _ hIK hit₂
      have hpl₃ : h₃.PlainList D (List.toArray vs) := hpl.at fun o e => up₃ _ o (Ne.symm hID) hDK e
      have hn₃ : h₃.Ns C m' := hns₂.sameBut hs₃ hCK
      refine wpAny_mono (H.tests C (C + 1) i ti _ _ _ hlt hKs hn₃ hc₃ hst₃) (fun ok s₄ h₄ => ?_) fun _ _ e => e
      obtain ⟨rfl, h₄, tk₄, rfl, hk₄⟩ := h₄
      have hst₄ : s₁.heap.StaysIn h₄ := fun b o e => hk₄ _ _ (hst₃ b o e)
      have hc₄ : h₄.IsCell (C + 1) (some (.int (i : Nat) ti)) := hc₃.keeps hk₄
      cases hp : p i with
      | false =>
        simp only [Bool.false_eq_true, if_false]
        refine ⟨n + 1 - (i + 1), by omega, h₄, _, _, i + 1, _, vs, rfl, hk₄ _ _ hit₃, hpl₃.at fun o e => hk₄ _ o e, hn₃.keeps hk₄, hc₄, ?_, hlt, rfl, hst₄⟩
        rw [List.range_succ, List.filter_append]; simpa [hp] using hvs
      | true =>
        simp only [if_true]
        refine wpAny_Name (wpAny_loadName_cell hkf hkx hlk hc₄ ?_) hxd
        have hle : (List.toArray vs).size ≤ sizeLine := by
          have e1 := hvs.length
          rw [List.length_map] at e1
          have e2 := List.length_filter_le p (List.range i)
          rw [List.length_range] at e2
          simp only [List.size_toArray]
          unfold sizeLine; omega
        refine wpAny_list_append_plain (hsz := hle) (hpl₃.at fun o e => hk₄ _ o e) fun h₆ hl₆ hs₆ => ?_
        refine ⟨n + 1 - (i + 1), by omega, h₆, _, _, i + 1, some (.int (i : Nat) ti), vs ++ [.int (i : Nat) ti], rfl, hs₆.extBut _ _ hID (hk₄ _ _ hit₃), by simpa using hl₆, (hn₃.keeps hk₄).sameBut hs₆ (Ne.symm hDC), ?_, ?_, hlt, rfl, ?_⟩
        · exact hc₄.sameBut hs₆ (Ne.symm hDK)
        · rw [List.range_succ, List.filter_append, List.map_append]
          simp only [hp, List.filter_cons, List.filter_nil, if_true, List.map_cons, List.map_nil]
          exact hvs.append (.cons _ _ .nil)
        · exact fun b o e => hs₆.extBut _ _ (hold b o e).2.1 (hst₄ b o e)
    · have hin : i = n := by omega
      subst hin
      refine W.done _ _ _ hit fun h₂ tk₂ hk₂ => ?_
      obtain ⟨k, hk⟩ := hpl.at (h' := h₂) fun o e => hk₂ _ o (by simpa using Ne.symm hID) e
      refine ⟨m', hns.at' fun o e => hk₂ _ o (by simpa using Ne.symm hIC) e, fun h'' hs'' => ?_⟩
      exact H.out D h'' _ k vs hDs (hs''.extBut _ _ hDC hk) hvs fun b o e => hs''.extBut _ _ (hold b o e).2.2.1 (hk₂ _ _ (by simpa using (hold b o e).1) (hst b o e))
  exact codeAny_compStart_list (loop _ rfl rfl) (W.self 0 _ _ _ hit2 (loop _ rfl rfl))
end
end Mine
end
section
set_option Elab.async false
set_option linter.unusedVariables false
namespace Mine
/-- who can be reached from k by just s roads -/
def ends (adj : Nat → List Nat) (k : Nat) : Nat → List Nat
  | 0 => [k]
  | s + 1 => (List.range 5).filter fun j => (ends adj k s).any fun i => decide (j ∈ adj i)
structure Good (adj : Nat → List Nat) : Prop where
  lt : ∀ i, i < 5 → ∀ j ∈ adj i, j < 5
  sym : ∀ i, i < 5 → ∀ j ∈ adj i, i ∈ adj j
  len : ∀ i, i < 5 → (adj i).length ≤ 25
/-- what server k ought to tell behind t rounds: d dots, port p -/
def Due (adj : Nat → List Nat) (cl : Nat → Nat) (k t d p : Nat) : Prop :=
  (adj k = [] ∧ d = 1 ∧ p = cl k) ∨ (adj k ≠ [] ∧ ((∃ s, s ≤ t ∧ 0 ∈ ends adj k s ∧ (∀ s', s' < s → 0 ∉ ends adj k s') ∧ d = s + 1 ∧ p = 0) ∨
    ((∀ s, s ≤ t → 0 ∉ ends adj k s) ∧ d = t + 1 ∧ ∃ j ∈ ends adj k t, p = cl j ∧ ∀ i ∈ ends adj k t, cl j ≤ cl i)))
theorem ends_lt {adj : Nat → List Nat} {k : Nat} (hk : k < 5) : ∀ s, ∀ j ∈ ends adj k s, j < 5
  | 0, j, h => by rw [List.mem_singleton.mp h]; exact hk
  | s + 1, j, h => by
    have := (List.mem_filter.mp h).1
    exact List.mem_range.mp this
theorem mem_ends {adj : Nat → List Nat} (G : Good adj) {k : Nat} (hk : k < 5) {s j : Nat} : j ∈ ends adj k (s + 1) ↔ ∃ i ∈ ends adj k s, j ∈ adj i := by
  show j ∈ (List.range 5).filter _ ↔ _
  rw [List.mem_filter, List.any_eq_true]
  constructor
  · rintro ⟨_, i, hi, h⟩; exact ⟨i, hi, by simpa using h⟩
  · rintro ⟨i, hi, h⟩; exact ⟨List.mem_range.mpr (G.lt i (ends_lt hk s i hi) j h), i, hi, by simpa using h⟩
theorem ends_succ {adj : Nat → List Nat} (G : Good adj) {k : Nat} (hk : k < 5) : ∀ s j, j ∈ ends adj k (s + 1) ↔ ∃ i ∈ adj k, j ∈ ends adj i s
  | 0, j => by
    rw [mem_ends G hk]
    constructor
    · rintro ⟨i, hi, h⟩
      rw [List.mem_singleton.mp hi] at h
      exact ⟨j, h, List.mem_singleton.mpr rfl⟩
    · rintro ⟨i, hi, h⟩
      rw [List.mem_singleton.mp h]
      exact ⟨k, List.mem_singleton.mpr rfl, hi⟩
  | s + 1, j => by
    rw [mem_ends G hk]
    constructor
    · rintro ⟨i, hi, h⟩
      obtain ⟨x, hx, hix⟩ := (ends_succ G hk s i).mp hi
      exact ⟨x, hx, (mem_ends G (G.lt k hk x hx)).mpr ⟨i, hix, h⟩⟩
    · rintro ⟨x, hx, h⟩
      obtain ⟨i, hi, hj⟩ := (mem_ends G (G.lt k hk x hx)).mp h
      exact ⟨i, (ends_succ G hk s i).mpr ⟨x, hx, hi⟩, hj⟩
theorem Due.uniq {adj : Nat → List Nat} {cl : Nat → Nat} {k t d p d' p' : Nat} (h : Due adj cl k t d p) (h' : Due adj cl k t d' p') : d = d' ∧ p = p' := by
  rcases h with ⟨a, b, c⟩ | ⟨a, h⟩
  · rcases h' with ⟨a', b', c'⟩ | ⟨a', h'⟩
    · exact ⟨by rw [b, b'], by rw [c, c']⟩
    · exact absurd a a'
  · rcases h' with ⟨a', b', c'⟩ | ⟨a', h'⟩
    · exact absurd a' a
    · rcases h with ⟨s, hs, h0, hb, hd, hp⟩ | ⟨h0, hd, j, hj, hp, hm⟩
      · rcases h' with ⟨s', hs', h0', hb', hd', hp'⟩ | ⟨h0', _⟩
        · have e : s = s' := by
            rcases Nat.lt_trichotomy s s' with q | q | q
            · exact absurd h0 (hb' s q)
            · exact q
            · exact absurd h0' (hb s' q)
          exact ⟨by rw [hd, hd', e], by rw [hp, hp']⟩
        · exact absurd h0 (h0' s hs)
      · rcases h' with ⟨s', hs', h0', hb', hd', hp'⟩ | ⟨h0', hd', j', hj', hp', hm'⟩
        · exact absurd h0' (h0 s' hs')
        · have h1 := hm j' hj'
          have h2 := hm' j hj
          exact ⟨by rw [hd, hd'], by rw [hp, hp']; omega⟩
/-- who is reached has port 0 and at most t + 1 dots, each other one has t + 1 dots -/
theorem Due.shape {adj : Nat → List Nat} {cl : Nat → Nat} {k t d p : Nat} (hn : adj k ≠ []) (h : Due adj cl k t d p) : (p = 0 ∧ d ≤ t + 1) ∨ d = t + 1 := by
  rcases h with ⟨a, _⟩ | ⟨_, ⟨s, hs, _, _, hd, hp⟩ | ⟨_, hd, _⟩⟩
  · exact absurd a hn
  · exact .inl ⟨hp, by omega⟩
  · exact .inr hd
theorem due_key {adj : Nat → List Nat} {cl : Nat → Nat} {i j t d p d' p' : Nat} (hi : adj i ≠ []) (hj : adj j ≠ []) (h : Due adj cl i t d p) (h' : Due adj cl j t d' p') (e : p + d = p' + d') : d = d' ∧ p = p' := by
  have h1 := h.shape hi
  have h2 := h'.shape hj
  omega
theorem nb_nonempty {adj : Nat → List Nat} (G : Good adj) {k : Nat} (hk : k < 5) {j : Nat} (hj : j ∈ adj k) : adj j ≠ [] := fun e => by
  have := G.sym k hk j hj
  rw [e] at this
  cases this
theorem due_hit {adj : Nat → List Nat} {cl : Nat → Nat} {i t d p s : Nat} (hn : adj i ≠ []) (h : Due adj cl i t d p) (hs : s ≤ t) (h0 : 0 ∈ ends adj i s) : p = 0 ∧ d ≤ s + 1 := by
  rcases h with ⟨a, _⟩ | ⟨_, ⟨s', hs', h0', hb, hd, hp⟩ | ⟨hno, _⟩⟩
  · exact absurd a hn
  · refine ⟨hp, ?_⟩
    rcases Nat.lt_or_ge s s' with q | q
    · exact absurd h0 (hb s q)
    · omega
  · exact absurd h0 (hno s hs)
theorem due_step {adj : Nat → List Nat} {cl D P : Nat → Nat} {t : Nat} (G : Good adj) (H : ∀ k, k < 5 → Due adj cl k t (D k) (P k)) {k j : Nat} (hk : k < 5) (hk0 : k ≠ 0) (hj : j ∈ adj k) (hm : ∀ i ∈ adj k, P j + D j ≤ P i + D i) :
    Due adj cl k (t + 1) (D j + 1) (P j) := by
  have hne : adj k ≠ [] := fun e => by rw [e] at hj; cases hj
  have lt : ∀ i ∈ adj k, i < 5 := G.lt k hk
  have nn : ∀ i ∈ adj k, adj i ≠ [] := fun i hi => nb_nonempty G hk hi
  have no0 : 0 ∉ ends adj k 0 := fun h => hk0 (List.mem_singleton.mp h).symm
  refine .inr ⟨hne, ?_⟩
  by_cases hA : ∃ i, i ∈ adj k ∧ ∃ s, s ≤ t ∧ 0 ∈ ends adj i s
  · left
    -- no hit of k ahead of the least key
    have early : ∀ s', s' < P j + D j → s' ≤ t + 1 → 0 ∉ ends adj k s' := fun s' hs' ht h => by
      cases s' with
      | zero => exact no0 h
      | succ r =>
        obtain ⟨i, hi, h0⟩ := (ends_succ G hk r 0).mp h
        have := due_hit (nn i hi) (H i (lt i hi)) (by omega) h0
        have := hm i hi
        omega
    obtain ⟨i, hi, s, hs, h0⟩ := hA
    have hki := due_hit (nn i hi) (H i (lt i hi)) hs h0
    have hmi := hm i hi
    rcases H j (lt j hj) with ⟨a, _⟩ | ⟨_, ⟨s', hs', h0', hb, hd, hp⟩ | ⟨hno, hd, _⟩⟩
    · exact absurd a (nn j hj)
    · refine ⟨s' + 1, by omega, (ends_succ G hk s' 0).mpr ⟨j, hj, h0'⟩, fun r hr => early r (by omega) (by omega), by omega, hp⟩
    · have hp0 : P j = 0 := by omega
      have hst : s = t := by omega
      subst hst
      exact ⟨s + 1, Nat.le_refl _, (ends_succ G hk s 0).mpr ⟨i, hi, h0⟩, fun r hr => early r (by omega) (by omega), by omega, hp0⟩
  · right
    have none : ∀ i ∈ adj k, ∀ s, s ≤ t → 0 ∉ ends adj i s := fun i hi s hs h => hA ⟨i, hi, s, hs, h⟩
    have un : ∀ i ∈ adj k, D i = t + 1 ∧ ∃ x ∈ ends adj i t, P i = cl x ∧ ∀ y ∈ ends adj i t, cl x ≤ cl y := fun i hi => by
      rcases H i (lt i hi) with ⟨a, _⟩ | ⟨_, ⟨s', hs', h0', _⟩ | ⟨_, hd, h⟩⟩
      · exact absurd a (nn i hi)
      · exact absurd h0' (none i hi s' hs')
      · exact ⟨hd, h⟩
    refine ⟨fun s hs h => ?_, ?_, ?_⟩
    · cases s with
      | zero => exact no0 h
      | succ r =>
        obtain ⟨i, hi, h0⟩ := (ends_succ G hk r 0).mp h
        exact none i hi r (by omega) h0
    · have := (un j hj).1
      omega
    · obtain ⟨dj, x, hx, hpx, hmx⟩ := un j hj
      refine ⟨x, (ends_succ G hk t x).mpr ⟨j, hj, hx⟩, hpx, fun y hy => ?_⟩
      obtain ⟨i, hi, hyi⟩ := (ends_succ G hk t y).mp hy
      obtain ⟨di, z, hz, hpz, hmz⟩ := un i hi
      have := hm i hi
      have := hmz y hyi
      omega
theorem due_zero {adj : Nat → List Nat} {cl : Nat → Nat} (h0 : cl 0 = 0) {k : Nat} (hk : k < 5) : Due adj cl k 0 1 (cl k) := by
  by_cases hn : adj k = []
  · exact .inl ⟨hn, rfl, rfl⟩
  · refine .inr ⟨hn, ?_⟩
    by_cases q : k = 0
    · subst q
      exact .inl ⟨0, Nat.le_refl _, List.mem_singleton.mpr rfl, fun s' h => absurd h (Nat.not_lt_zero _), rfl, h0⟩
    · refine .inr ⟨fun s hs h => ?_, rfl, k, List.mem_singleton.mpr rfl, rfl, fun i hi => by rw [List.mem_singleton.mp hi]; exact Nat.le_refl _⟩
      rw [Nat.le_zero.mp hs] at h
      exact q (List.mem_singleton.mp h).symm
theorem due_a {adj : Nat → List Nat} {cl : Nat → Nat} {t d p : Nat} (h : Due adj cl 0 t d p) : Due adj cl 0 (t + 1) d p := by
  rcases h with h | ⟨hn, ⟨s, hs, r⟩ | ⟨hno, _⟩⟩
  · exact .inl h
  · exact .inr ⟨hn, .inl ⟨s, Nat.le_succ_of_le hs, r⟩⟩
  · exact absurd (List.mem_singleton.mpr rfl) (hno 0 (Nat.zero_le _))
theorem due_alone {adj : Nat → List Nat} {cl : Nat → Nat} {k t d p : Nat} (hn : adj k = []) (h : Due adj cl k t d p) : Due adj cl k (t + 1) d p := by
  rcases h with h | ⟨hn', _⟩
  · exact .inl h
  · exact absurd hn hn'
theorem Due.bound {adj : Nat → List Nat} {cl : Nat → Nat} {k t d p B : Nat} (hB : ∀ j, j < 5 → cl j < B) (hB0 : 0 < B) (hk : k < 5) (h : Due adj cl k t d p) : 1 ≤ d ∧ d ≤ t + 1 ∧ p < B := by
  rcases h with ⟨_, hd, hp⟩ | ⟨_, ⟨s, hs, _, _, hd, hp⟩ | ⟨_, hd, j, hj, hp, _⟩⟩
  · exact ⟨by omega, by omega, hp ▸ hB k hk⟩
  · exact ⟨by omega, by omega, by omega⟩
  · exact ⟨by omega, by omega, hp ▸ hB j (ends_lt hk t j hj)⟩
/-- one who has a road can always go on -/
theorem ends_ne {adj : Nat → List Nat} (G : Good adj) {k : Nat} (hk : k < 5) (hn : adj k ≠ []) : ∀ s, ∃ j, j ∈ ends adj k s ∧ adj j ≠ []
  | 0 => ⟨k, List.mem_singleton.mpr rfl, hn⟩
  | s + 1 => by
    obtain ⟨i, hi, hn'⟩ := ends_ne G hk hn s
    cases q : adj i with
    | nil => exact absurd q hn'
    | cons j r =>
      have hj : j ∈ adj i := by rw [q]; exact .head _
      exact ⟨j, (mem_ends G hk).mpr ⟨i, hi, hj⟩, nb_nonempty G (ends_lt hk s i hi) hj⟩
end Mine
end
section
open PySem PySem.W PySem.Calls PyProof.Rows
set_option Elab.async false
set_option linter.unusedVariables false
set_option maxRecDepth 100000
namespace Mine
section
variable {prog : Program} {w : World} {A : Around} {E : Value → Shared → Prop} {s : Shared} {env : Env}
/-- y = [.. for x in a list], y a local -/
structure CompLA (prog : Program) (w : World) (A : Around) (env : Env) (scope : Scope) (cl : List (Str × Addr)) (x y : Str) (ifs : List PySem.Expr) (elt : PySem.Expr) (Q : Flow → Shared → Prop) (l : Addr) (items : Array Value) (p : Value → Bool) (F : Value → Value → Prop) (m : Str → Option Value) (s₁ : Shared) : Prop where
  list : s₁.heap.IsList l items
  size : items.size ≤ sizeLine
  ns : s₁.heap.Ns env.locals m
  tests : ∀ C v s₃ m₃ E', v ∈ items.toList → s₁.heap.objs.size ≤ C → s₃.heap.Ns C m₃ → m₃ x = some v → s₁.heap.StaysIn s₃.heap →
    wpAny (model prog w) A (forIn ifs true fun c r => if r = true then do let ok ← isTrue c (compEnvC scope cl C env) (eval c (compEnvC scope cl C env)); pure (ForInStep.yield ok) else pure (ForInStep.yield r))
      (fun ok s₄ => ok = p v ∧ Keeps s₃ s₄) E' s₃
  elt : ∀ C v s₃ m₃ E', v ∈ items.toList → p v = true → s₁.heap.objs.size ≤ C → s₃.heap.Ns C m₃ → m₃ x = some v → s₁.heap.StaysIn s₃.heap →
    wpAny (model prog w) A (eval elt (compEnvC scope cl C env)) (fun y s₄ => F v y ∧ Keeps s₃ s₄) E' s₃
  out : ∀ D h' tk ys n, s₁.heap.get? D = none → h'.get? D = some (listOf ys n) → Paired F (items.toList.filter p) ys.toList → h'.Ns env.locals (fun z => if z = y then some (.ref D) else m z) → (∀ b o, b ≠ env.locals → s₁.heap.get? b = some o → h'.get? b = some o) → Q .next { s₁ with heap := h', toks := tk }
def CompLAX (prog : Program) (w : World) (A : Around) (env : Env) (scope : Scope) (cl : List (Str × Addr)) (x y : Str) (ifs : List PySem.Expr) (elt : PySem.Expr) (Q : Flow → Shared → Prop) (xv : Value) (s₁ : Shared) : Prop :=
  ∃ l items p F m, xv = .ref l ∧ CompLA prog w A env scope cl x y ifs elt Q l items p F m s₁
theorem assign_listX {elt iter : PySem.Expr} {x y : Str} {px py : Pos} {ifs : List PySem.Expr} {scope : Scope} {cl : List (Str × Addr)} {pos spos : Pos} {Q : Flow → Shared → Prop}
    (hsw : swapsWith (.ListComp elt [⟨.Name x px, iter, ifs, 0⟩] scope pos) (some (.Name y py)) spos.line env = pure true)
    (hh : A.handled = none) (hclos : closureFor scope env = pure cl) (hcell : ∀ y ∈ scope.names, y.2 ≠ .cell) (hkind : scope.kind = .function)
    (hnames : ∀ y ∈ scope.names, y.2 = .local → scope.names.lookup y.1 = some .local) (hx : scope.names.lookup x = some .local)
    (hy : env.kindOf y = some .local) (hp : (env.scope.kind == .class || (env.scope.kind == .module && env.locals != env.globals)) = false)
    (h : wpAny (model prog w) A (eval iter env) (CompLAX prog w A env scope cl x y ifs elt Q) E s)
    (hs : ∀ x, foldedSetIterable iter env x = pure x) :
    wpAny (model prog w) A (exec (.Assign [.Name y py] (.ListComp elt [⟨.Name x px, iter, ifs, 0⟩] scope pos) spos) env) Q E s := by
  rw [exec_Assign_Name_used _ _ _ _ hsw]
  refine wpAny_bind (wpAny_standAt (wpAny_bind ?_))
  show wpAny _ A (do let _ ← comprehension (.ListComp elt [⟨.Name x px, iter, ifs, 0⟩] scope pos) scope env _ (newList []) false (eval iter env) (some (assign (.Name y py) env))) _ _ s
  refine wpAny_bind (wpAny_mono (wpAny_comprehension_free (use := some (assign (.Name y py) env)) (Q := fun _ s' => Q .next s') rfl hs hclos hkind hnames (wpAny_mono h (fun xv s₁ h₁ => ?_) fun _ _ e => e))
    (fun _ s' hq => wpAny_pure (wpAny_pure hq)) fun _ _ e => e)
  obtain ⟨l, items, p, F, m, rfl, H⟩ := h₁
  refine wpAny_pyIter_list H.list ?_
  obtain ⟨ol, hol, _⟩ := id H.list
  have hlt : l < s₁.heap.objs.size := Heap.lt_size hol
  have hne : l ≠ s₁.heap.objs.size := Nat.ne_of_lt hlt
  have hst : s₁.heap.StaysIn (s₁.heap.push { cls := .type "list_iterator", data := .fields #[.ref l, .int 0 0] }) := fun b o e => Heap.get?_push_of_some _ e
  have hne2 : ∀ b o, s₁.heap.get? b = some o → b ∉ [s₁.heap.objs.size] := fun b o e hb => by
    have := Heap.lt_size e
    rw [List.mem_singleton.mp hb] at this
    exact Nat.lt_irrefl _ this
  have hsz : s₁.heap.objs.size ≤ (s₁.heap.push { cls := .type "list_iterator", data := .fields #[.ref l, .int 0 0] }).objs.size := by rw [Heap.size_push]; exact Nat.le_succ _
  refine comp_block_walkC (RR := fun acc C => compPost (model prog w) A E (some (assign (.Name y py) env)) (fun _ s' => Q .next s') acc C) (Walks.list hh s₁.heap.objs.size l hne items) H.size p F hcell hkind hx
    ⟨⟨_, Heap.get?_push_size _ rfl, rfl, rfl⟩, H.list.at fun o e => hst _ _ e⟩ (fun b hb => ?_) ⟨fun C i v s₃ m₃ E' hC hv hn hm hk htk => ?_, fun C i v s₃ m₃ E' hC hv hpv hn hm hk htk => ?_⟩ ?_
  · rcases List.mem_cons.mp hb with rfl | hb
    · dsimp only; rw [Heap.size_push]; exact Nat.lt_succ_self _
    · rw [List.mem_singleton.mp hb]; exact Nat.lt_of_lt_of_le hlt hsz
  · exact H.tests C v s₃ m₃ E' (List.mem_of_getElem? (by rw [Array.getElem?_toList]; exact hv)) (Nat.le_trans hsz hC) hn hm fun b o e => hk b o (hne2 b o e) (hst b o e)
  · exact H.elt C v s₃ m₃ E' (List.mem_of_getElem? (by rw [Array.getElem?_toList]; exact hv)) hpv (Nat.le_trans hsz hC) hn hm fun b o e => hk b o (hne2 b o e) (hst b o e)
  intro D C h' tk m' ys vs hD hC hDC hnsC hl hpl hlen hP hF hk
  have hvs : vs = items.toList := list_same hlen hP
  subst hvs
  have none_of : ∀ b, (s₁.heap.push { cls := .type "list_iterator", data := .fields #[.ref l, .int 0 0] }).get? b = none → s₁.heap.get? b = none := fun b e => by
    cases q : s₁.heap.get? b with
    | none => rfl
    | some o => rw [hst _ _ q] at e; cases e
  have hD0 := none_of D hD
  have hC0 := none_of C hC
  have hstay : s₁.heap.StaysIn h' := fun b o e => hk b o (hne2 b o e) (hst b o e)
  have hn := H.ns
  have hLC : env.locals ≠ C := by rintro rfl; obtain ⟨o, _, _, ho, _⟩ := hn; rw [hC0] at ho; cases ho
  have hLD : env.locals ≠ D := by rintro rfl; obtain ⟨o, _, _, ho, _⟩ := hn; rw [hD0] at ho; cases ho
  refine wpAny_assign_Name (wpAny_storeName_local hy (hn.keeps hstay) (fun h₂ hn₂ hs₂ => ?_) hp)
  refine ⟨m', hnsC.sameBut hs₂ (Ne.symm hLC), fun h₃ hs₃ => ?_⟩
  obtain ⟨n, hn'⟩ := (hpl.extBut hs₂.extBut (Ne.symm hLD)).extBut hs₃.extBut hDC
  refine H.out D h₃ _ ys n hD0 hn' hF (hn₂.sameBut hs₃ hLC) fun b o hb e => ?_
  exact hs₃.extBut _ _ (fun q => by rw [q, hC0] at e; cases e) (hs₂.extBut _ _ hb (hstay b o e))
end
end Mine
end
section
open PySem PySem.W PySem.Calls PyProof.Rows
set_option Elab.async false
set_option linter.unusedVariables false
set_option maxRecDepth 100000
namespace Mine
abbrev tup3 (a b c : Value) : Obj := { cls := .type "tuple", data := .seq #[a, b, c] }
section
variable {prog : Program} {w : World} {A : Around} {E : Value → Shared → Prop} {s : Shared}
/-- two claims (number, one text, a text) compared: the numbers tell, or all is equal -/
theorem tup_lt {a b : Addr} {x y : Int} {p r r' : Str} {t1 t2 t3 u1 u2 u3 : Tok} {Q : Value → Shared → Prop}
    (ha : s.heap.get? a = some (tup3 (.int x t1) (.str p t2) (.str r t3))) (hb : s.heap.get? b = some (tup3 (.int y u1) (.str p u2) (.str r' u3))) (hxy : x = y → r = r') (hu : A.units < cLine)
    (h : Q (.bool (decide (x < y))) s) : wpAny (model prog w) A (richCompare .Lt (.ref a) (.ref b)) Q E s := by
  have hTa : s.TypeIs (.ref a) "tuple" := ⟨_, ha, rfl⟩
  have hTb : s.TypeIs (.ref b) "tuple" := ⟨_, hb, rfl⟩
  refine wpAny_richCompare_same_room (op := .Lt) hTa hTb F.slot_tuple_lt (wpAny_call_entry F.slot_tuple_lt hTa F.entry_tuple_lt ?_ (F.args_tuple_lt_2 _ _)) hu
  show wpAny _ _ (isInstance (.ref b) (.type "tuple") >>= _) _ _ s
  refine wpAny_bind (wpAny_isInstance hTb isSubtype_tuple_tuple ?_)
  simp only [Bool.not_true, Bool.false_eq_true, if_false]
  refine wpAny_bind (wpAny_tupleItemsOf ha rfl ?_)
  refine wpAny_bind (wpAny_tupleItemsOf hb rfl ?_)
  refine wpAny_bind ?_
  simp only [List.zip_cons_cons, List.zip_nil_left, List.forIn_cons]
  refine wpAny_bind (wpAny_bind (wpAny_eqBool_int ?_))
  by_cases hx : x = y
  · obtain rfl := hxy hx
    subst hx
    simp only [beq_self_eq_true, Bool.not_true, Bool.false_eq_true, if_false]
    refine wpAny_pure ?_
    dsimp only
    refine wpAny_bind (wpAny_bind (wpAny_eqBool_str ?_))
    simp only [decide_true, Bool.not_true, Bool.false_eq_true, if_false]
    refine wpAny_pure ?_
    dsimp only
    refine wpAny_bind (wpAny_bind (wpAny_eqBool_str ?_))
    simp only [decide_true, Bool.not_true, Bool.false_eq_true, if_false]
    refine wpAny_pure ?_
    dsimp only [List.forIn_nil]
    refine wpAny_pure ?_
    refine wpAny_pure ?_
    have e : (Builtin.Tuple.tupleCompareSizes CmpOp.Lt (#[Value.int x t1, Value.str p t2, Value.str r t3] : Array Value).size (#[Value.int x u1, Value.str p u2, Value.str r u3] : Array Value).size) = .bool (decide (x < x)) := by
      simp [Builtin.Tuple.tupleCompareSizes]
    refine ⟨_, rfl, ?_⟩
    rw [e]
    exact ⟨(fun q => nomatch q), h⟩
  · have e : (x == y) = false := by simpa using hx
    rw [e]
    simp only [Bool.not_false, if_true]
    refine wpAny_bind (wpAny_bind (wpAny_rule (wpAny_pure ?_)))
    refine wpAny_bind ?_
    refine richCompare_gives (op := .Lt) (typeIs_int s _ t1) (typeIs_int s _ u1) F.slot_int_lt F.entry_int_lt (F.args_int_lt_2 _ _) (gives_int_lt _ _ t1 u1) (fun x => nomatch x) ?_
    refine wpAny_bind (wpAny_pure (wpAny_pure (wpAny_pure ?_)))
    exact wpAny_pure ⟨_, rfl, (fun q => nomatch q), h⟩
end
section
variable {prog : Program} {w : World} {A : Around} {R : Result → Shared → Prop} {I l : Addr} {items : Array Value}
theorem min_loop (hh : A.in1.handled = none) (hne : l ≠ I) (hu : A.in1.units < cLine) {p : Str} {x : Nat → Int} {r : Nat → Str} {B : Heap} (S : Addr) (hSI : S ≠ I) (hSl : S ≠ l) (hBI : B.get? I = none) (hBS : B.get? S = none)
    (hcl : ∀ (j : Nat) v, items[j]? = some v → ∃ a t1 t2 t3, v = .ref a ∧ B.get? a = some (tup3 (.int (x j) t1) (.str p t2) (.str (r j) t3)))
    (hxr : ∀ i j, i < items.size → j < items.size → x i = x j → r i = r j) :
    ∀ (k j b : Nat) (s : Shared) (vb : Value) (c : Nat), items.size - (j + 1) = k → j + 1 ≤ items.size → s.heap.IsListIter I l (j + 1) → s.heap.IsList l items → B.StaysIn s.heap → items[b]? = some vb → (∀ i, i ≤ j → x b ≤ x i) →
    s.heap.get? S = some { cls := .type "list", dict := none, data := .seq #[vb, vb] c, slots := #[] } →
    (∀ b v h' tk, items[b]? = some v → (∀ i, i < items.size → x b ≤ x i) → B.StaysIn h' → R (.ok (.ret v)) { s with heap := h', toks := tk }) →
    codeAny (model prog w) A (.builtin "min.loop" ⟨[.ref I, .none, .ref S], []⟩) R s := by
  have hname : (toString "min" ++ toString ".loop" : String) = "min.loop" := by decide
  have W := Walks.list (prog := prog) (w := w) (A := A.in1) hh I l hne items
  have hSw : S ∉ [I] := by simpa using hSI
  have hSf : ∀ b ∈ [I, l], S ≠ b := fun b hb => by
    rcases List.mem_cons.mp hb with rfl | hb
    · exact hSI
    · rw [List.mem_singleton.mp hb]; exact hSl
  have offI : ∀ (h h' : Heap), (∀ b o, b ∉ [I] → h.get? b = some o → h'.get? b = some o) → B.StaysIn h → B.StaysIn h' := fun h h' hk st b o e =>
    hk b o (by simp; rintro rfl; rw [hBI] at e; cases e) (st b o e)
  have offS : ∀ (h : Heap) (f : Obj → Obj), B.StaysIn h → B.StaysIn (h.update S f) := fun h f st b o e =>
    (Heap.get?_update_other _ _ (fun q : S = b => by rw [← q, hBS] at e; cases e)).trans (st b o e)
  intro k
  induction k with
  | zero =>
    intro j b s vb c hk hj hit hl st hb hle hS hR
    have hin : j + 1 = items.size := by omega
    refine codeAny_builtin F.entry_min_loop ?_
    rw [Around.under_plainId F.plain_min_loop _]
    show wpAny _ A.in1 (seqItems? (.ref S) >>= _) _ _ s
    refine wpAny_bind (wpAny_seqItems hS rfl ?_)
    show wpAny _ A.in1 (tryCatch (pyNext (.ref I)) _ >>= _) _ _ s
    refine wpAny_bind (wpAny_tryCatch (W.done s _ _ (hin ▸ ⟨hit, hl⟩) fun h' tk hk' => ?_))
    have hS' := hk' S _ hSw hS
    show wpAny _ A.in1 (updateSeq S (fun _ => #[]) >>= _) _ _ _
    refine wpAny_bind ?_
    refine wpAny_updateSeq hS' rfl (wpAny_bind (wpAny_letGo (wpAny_pure ?_)))
    exact hR b vb _ tk hb (fun i hi => hle i (by omega)) (offS _ _ (offI _ _ hk' st))
  | succ k ih =>
    intro j b s vb c hk hj hit hl st hb hle hS hR
    have hlt : j + 1 < items.size := by omega
    have hbs : b < items.size := by
      rcases Nat.lt_or_ge b items.size with h | h
      · exact h
      · rw [Array.getElem?_eq_none h] at hb; cases hb
    refine codeAny_builtin F.entry_min_loop ?_
    rw [Around.under_plainId F.plain_min_loop _]
    show wpAny _ A.in1 (seqItems? (.ref S) >>= _) _ _ s
    refine wpAny_bind (wpAny_seqItems hS rfl ?_)
    show wpAny _ A.in1 (tryCatch (pyNext (.ref I)) _ >>= _) _ _ s
    refine wpAny_bind (wpAny_tryCatch (W.item (j + 1) s _ _ hlt ⟨hit, hl⟩ fun v h' tk hP hst' hk' => ?_))
    have hS' := hk' S _ hSw hS
    have st' := offI _ _ hk' st
    obtain ⟨a1, t1, t2, t3, rfl, g1⟩ := hcl _ _ hP
    obtain ⟨a2, u1, u2, u3, rfl, g2⟩ := hcl _ _ hb
    show wpAny _ A.in1 (tryCatch (holding [_, _] (richCompare .Lt _ _ >>= _)) _ >>= _) _ _ _
    refine wpAny_bind (wpAny_tryCatch (wpAny_holding (wpAny_bind (tup_lt (st' _ _ g1) (st' _ _ g2) (hxr _ _ hlt hbs) hu ?_))))
    refine wpAny_bind (wpAny_holding (wpAny_truthy_bool ?_))
    refine wpAny_bind (wpAny_letGo (wpAny_pure ?_))
    by_cases hx : x (j + 1) < x b
    · rw [decide_eq_true hx]
      simp only [if_true]
      refine wpAny_bind ?_
      refine wpAny_updateSeq hS' rfl (wpAny_bind (wpAny_letGo ?_))
      rw [hname]
      have fr := W.frame _ _ (h'.update S (Obj.mapSeq fun _ => #[.ref a1, .ref a1])) hst' fun b hbf o e => (Heap.get?_update_other _ _ (hSf b hbf)).trans e
      refine wpAny_pure ⟨plainId_quiet F.plain_min_loop _, ih (j + 1) (j + 1) _ (.ref a1) _ (by omega) hlt fr.1 fr.2 (offS _ _ st') hP (fun i hi => ?_) (Heap.get?_update_self _ hS' rfl) fun b' v' h'' tk'' hb' hle' st'' => hR b' v' h'' tk'' hb' hle' st''⟩
      rcases Nat.lt_or_ge j i with h | h
      · rw [show i = j + 1 by omega]; exact Int.le_refl _
      · exact Int.le_trans (Int.le_of_lt hx) (hle i h)
    · rw [decide_eq_false hx]
      simp only [Bool.false_eq_true, if_false]
      refine wpAny_bind (wpAny_letGo ?_)
      rw [hname]
      refine wpAny_pure ⟨plainId_quiet F.plain_min_loop _, ih (j + 1) b _ (.ref a2) c (by omega) hlt hst'.1 hst'.2 st' hb (fun i hi => ?_) hS' fun b' v' h'' tk'' hb' hle' st'' => hR b' v' h'' tk'' hb' hle' st''⟩
      rcases Nat.lt_or_ge j i with h | h
      · rw [show i = j + 1 by omega]; exact Int.not_lt.mp hx
      · exact hle i h
end
section
variable {prog : Program} {w : World} {A : Around} {E : Value → Shared → Prop} {s : Shared} {l : Addr} {items : Array Value}
theorem min_claims (hh : A.in1.handled = none) (hu : A.in1.units < cLine) (hl : s.heap.IsList l items) (hn : 0 < items.size) {p : Str} {x : Nat → Int} {r : Nat → Str}
    (hcl : ∀ (j : Nat) v, items[j]? = some v → ∃ a t1 t2 t3, v = .ref a ∧ s.heap.get? a = some (tup3 (.int (x j) t1) (.str p t2) (.str (r j) t3)))
    (hxr : ∀ i j, i < items.size → j < items.size → x i = x j → r i = r j) {Q : Value → Shared → Prop}
    (h : ∀ b v h' tk, items[b]? = some v → (∀ i, i < items.size → x b ≤ x i) → s.heap.StaysIn h' → Q v { s with heap := h', toks := tk }) :
    wpAny (model prog w) A (call (.builtin "min") [.ref l]) Q E s := by
  have hname : (toString "min" ++ toString ".loop" : String) = "min.loop" := by decide
  refine call_function_tree F.kind_min F.plain_min F.entry_min (F.args_min1 _) ?_
  show wpAny _ A.in1 (Builtin.Builtins.bindParams "min" ["key", "default"] 0 ⟨[], []⟩ >>= _) _ _ s
  refine wpAny_bind (wpAny_of_eq (show Builtin.Builtins.bindParams "min" ["key", "default"] 0 ⟨[], []⟩ = pure [none, none] from rfl) ?_)
  refine wpAny_bind (wpAny_pure ?_)
  refine wpAny_bind (wpAny_pyIter_list hl ?_)
  refine wpAny_bind (wpAny_newObj_type ?_)
  dsimp only
  obtain ⟨ol, hol, _⟩ := id hl
  have hlI : l ≠ s.heap.objs.size := Nat.ne_of_lt (Heap.lt_size hol)
  generalize hI : s.heap.objs.size = I at hlI
  have hBI : s.heap.get? I = none := by
    cases q : s.heap.get? I with
    | none => rfl
    | some o => exact absurd (Heap.lt_size q) (by rw [hI]; exact Nat.lt_irrefl _)
  generalize hH1 : s.heap.push { cls := .type "list_iterator", data := .fields #[.ref l, .int 0 0] } = H1
  have hst1 : s.heap.StaysIn H1 := fun b o e => hH1 ▸ Heap.get?_push_of_some _ e
  have hit1 : H1.IsListIter I l 0 := ⟨_, by rw [← hH1, ← hI]; exact Heap.get?_push_size _ rfl, rfl, rfl⟩
  have hsz1 : H1.objs.size = I + 1 := by rw [← hH1, Heap.size_push, hI]
  generalize hS : H1.objs.size = S
  have hBS : H1.get? S = none := by
    cases q : H1.get? S with
    | none => rfl
    | some o => exact absurd (Heap.lt_size q) (by rw [hS]; exact Nat.lt_irrefl _)
  have hBS0 : s.heap.get? S = none := by
    cases q : s.heap.get? S with
    | none => rfl
    | some o => rw [hst1 _ _ q] at hBS; cases hBS
  generalize hH2 : H1.push { cls := .type "list", dict := none, data := .seq #[] 0, slots := #[] } = H2
  have hst2 : H1.StaysIn H2 := fun b o e => hH2 ▸ Heap.get?_push_of_some _ e
  have hS2 : H2.get? S = some { cls := .type "list", dict := none, data := .seq #[] 0, slots := #[] } := by rw [← hH2, ← hS]; exact Heap.get?_push_size _ rfl
  have hSI : S ≠ I := by rw [← hS, hsz1]; exact Nat.succ_ne_self I
  have hSl : S ≠ l := by rintro rfl; rw [hol] at hBS0; cases hBS0
  have hl2 : H2.IsList l items := hl.at fun o e => hst2 _ _ (hst1 _ _ e)
  have W := Walks.list (prog := prog) (w := w) (A := A.in1) hh I l hlI items
  have hSw : S ∉ [I] := by simpa using hSI
  have hSf : ∀ b ∈ [I, l], S ≠ b := fun b hb => by
    rcases List.mem_cons.mp hb with rfl | hb
    · exact hSI
    · rw [List.mem_singleton.mp hb]; exact hSl
  rw [hname]
  refine wpAny_pure ⟨plainId_quiet F.plain_min_loop _, ?_⟩
  refine codeAny_builtin F.entry_min_loop ?_
  rw [Around.under_plainId F.plain_min_loop _]
  show wpAny _ A.in1 (seqItems? (.ref S) >>= _) _ _ _
  refine wpAny_bind (wpAny_seqItems hS2 rfl ?_)
  show wpAny _ A.in1 (tryCatch (pyNext (.ref I)) _ >>= _) _ _ _
  refine wpAny_bind (wpAny_tryCatch (W.item 0 _ _ _ hn ⟨hit1.at fun o e => hst2 _ _ e, hl2⟩ fun v h' tk hP hst' hk' => ?_))
  have hS' := hk' S _ hSw hS2
  show wpAny _ A.in1 (updateSeq S (fun _ => #[v, v]) >>= _) _ _ _
  refine wpAny_bind ?_
  refine wpAny_updateSeq hS' rfl ?_
  rw [hname]
  have fr := W.frame _ _ (h'.update S (Obj.mapSeq fun _ => #[v, v])) hst' fun b hbf o e => (Heap.get?_update_other _ _ (hSf b hbf)).trans e
  have st' : s.heap.StaysIn (h'.update S (Obj.mapSeq fun _ => #[v, v])) := fun b o e =>
    (Heap.get?_update_other _ _ (fun q : S = b => by rw [← q, hBS0] at e; cases e)).trans (hk' b o (by simp; rintro rfl; rw [hBI] at e; cases e) (hst2 _ _ (hst1 _ _ e)))
  refine wpAny_pure ⟨plainId_quiet F.plain_min_loop _, min_loop hh hlI hu S hSI hSl hBI hBS0 hcl hxr _ 0 0 _ v _ rfl hn fr.1 fr.2 st' hP (fun i hi => ?_) (Heap.get?_update_self _ hS' rfl) fun b v' h'' tk'' hb hle st'' => ?_⟩
  · rw [Nat.le_zero.mp hi]; exact Int.le_refl _
  · exact h b v' h'' tk'' hb hle st''
end
end Mine
end
section
open PySem PySem.W PyProof.Rows
namespace Mine
def Mark (K : Params → Frag) (as : List Addr) : Prop := True
theorem use_mark {X : Prop} {K : Params → Frag} {as : List Addr} (_ : Mark K as) (h : X) : X := h
noncomputable def mkK {X : Prop} (K : Params → Frag) (as : List Addr) (f : Mark K as → X → X) : { x : (Params → Frag) × List Addr // X → X } := ⟨(K, as), f trivial⟩
section
local macro_rules | `(tactic| o_head (kHook $k $a $e)) => `(tactic| exact use_mark (K := $k) (as := $a) (by assumption) (by assumption))
set_option maxRecDepth 100000 in
set_option maxHeartbeats 8000000 in
noncomputable def hd : { x : (Params → Frag) × List Addr // PySem.Challenge.rw_tp0022_01.row.Holds → PySem.Challenge.rw_tp0022_01.row.Holds } := by
  refine' mkK _ _ fun hm h => ?_
  rotate_left 2
  k_head
end
end Mine
end
section
open PySem PySem.W PySem.Calls PyProof.Rows
set_option Elab.async false
set_option linter.unusedVariables false
set_option maxRecDepth 100000
namespace Mine
theorem fillK : PySem.Challenge.rw_tp0022_01 = PySem.Challenge.rw_tp0022_01 ∧ hd.heap_1 = hd.heap_1 := by
  k_fill
  exact ⟨rfl, rfl⟩
section
variable {prog : Program} {w : World} {A : Around} {E Q : Value → Shared → Prop} {s : Shared} {h₀ : Heap} {p : Program} {loose : List Str} {mean : ExcName → Option Value} {mg mb : Str → Option Value}
theorem patN {h : Heap} (X : (hd.heap_1 w.params).In h) : Pat h 104 codeN :=
  ⟨_, _, _, _, X _ _ (by k_is), rfl, rfl, rfl, X _ _ (by k_is), by decide +kernel⟩
theorem patV {h : Heap} (X : (hd.heap_1 w.params).In h) : Pat h 109 codeV :=
  ⟨_, _, _, _, X _ _ (by k_is), rfl, rfl, rfl, X _ _ (by k_is), by decide +kernel⟩
theorem pat1 {h : Heap} (X : (hd.heap_1 w.params).In h) : Pat h 43 code1 :=
  ⟨_, _, _, _, X _ _ (by k_is), rfl, rfl, rfl, X _ _ (by k_is), by decide +kernel⟩
theorem pat2 {h : Heap} (X : (hd.heap_1 w.params).In h) : Pat h 48 code2 :=
  ⟨_, _, _, _, X _ _ (by k_is), rfl, rfl, rfl, X _ _ (by k_is), by decide +kernel⟩
local macro_rules | `(tactic| walk_at "m_kept") => `(tactic| (intro h9 tk9 hs9; (try dsimp only at hs9); refine' keep2 ?F ?N hs9 ?_; (case F => assumption); (case N => assumption); clear hs9; intro F9 N9; (try k_sweep); (try dsimp only)))
local macro_rules | `(tactic| walk_at "m_room") => `(tactic| (first | (simp only [depth_deeper, depth_in1, units_deeper, units_in1, Around.deeper_units, Around.in1_units]; (try dsimp only); omega)))
local macro_rules | `(tactic| walk_at "m_local") => `(tactic| ((try dsimp only); (repeat rw [if_neg (by decide)]); first | assumption | exact if_pos rfl))
theorem ld' {M : Model} {A : Around} {E : Value → Shared → Prop} {s : Shared} {h₀ : Heap} {L a : Addr} {m : Str → Option Value} {cn : Str} {cs : Scope} {ccd : Value} {cl : List (Str × Addr)} {x : Str} {pos : Pos} {v : Value} {Q : Value → Shared → Prop}
    (F : Fr h₀ L s.heap m) (hv : m x = some v) (hx : (envX cn cs L a ccd cl).kindOf x = some .local) (hk : cs.kind = .function) (hd : (x == ("__debug__" : Str)) = false) (h : Q v s) : wpAny M A (eval (.Name x pos) (envX cn cs L a ccd cl)) Q E s := nameX_L F hv h hk hx hd
local macro_rules | `(tactic| walk_at "eval Name") => `(tactic| (k_here; k_dflt (refine' ld' ?k1 ?k2 ?k3 ?k4 ?k5 ?_; (case k1 => k_asm); (case k2 => walk_at "m_local"); (case k3 => rfl); (case k4 => rfl); (case k5 => decide); k_whole)))
local macro_rules | `(tactic| walk_at "getMethod ref") => `(tactic| first | refine get_search (patN (by k_in)) ?_ | refine get_search (patV (by k_in)) ?_)
local macro_rules | `(tactic| walk_at "call builtin:re.Pattern.search") => `(tactic| first | (refine call_search (by omega) (patN (by k_in)) (findsN ?hcl) ?_; (case hcl => assumption)) | (refine call_search (by omega) (patV (by k_in)) (findsV ?hcl) ?_; (case hcl => assumption)))
set_option maxHeartbeats 8000000 in
theorem conv_spec (X : (hd.heap_1 w.params).In h₀) (T : Top p loose mean mg mb h₀) (st : h₀.StaysIn s.heap) {o : Addr} {x : Str} {t : Tok} {b : Bool}
    (hx1 : x.cps.size ≤ 100000) (hx2 : ∀ c ∈ x.cps.toList, 32 ≤ c ∧ c < 127)
    (hdp : A.depth + 20 < recursionLimit) (hun : A.units + 100 < cLine)
    (hret : ∀ h' tk', s.heap.StaysIn h' → Q (.str x t) { s with heap := h', toks := tk' }) :
    wpAny (model prog w) A (call (.ref 131) [.ref o, .str x t] [(Str.ofString "name", .bool b)]) Q E s := by
  obtain ⟨hp, gn, dr, tk, os⟩ := s
  dsimp only at st hret
  refine wpAny_call ?_
  k_dflt (refine' enterH [] ?X ?T ?st (fun _ h => nomatch h) ?ho ?hcd ?room ?bind ?loc ?cell ?c1 ?c2 ?c3 ?_; (case X => assumption); (case T => assumption); (case st => assumption); (case ho => k_is); (case hcd => k_is); (case room => ((try dsimp only); omega)); (case bind => first | exact BindsTo.of_eq rfl | exact binds_K (by exact Frag.In.keeps (by assumption) (by assumption)) rfl (by k_is) rfl rfl rfl); (case loc => exact locs rfl); (case cell => decide); (case c1 => exact rfl); (case c2 => exact rfl); (case c3 => exact rfl))
  intro g L' h₁ F' X' T' st' hg hn hk hL
  dsimp only at hg hk hL ⊢
  have N' := @News.nil g h₁ L'
  k_steps
  all_goals exact hret _ _ (stays_of (by assumption) (by assumption))
local macro_rules | `(tactic| walk_at "call builtin:str.lower") => `(tactic| (refine r_lower (by omega) ?_; intro _ _; (try dsimp only)))
local macro_rules | `(tactic| walk_at "compareOp Eq str str") => `(tactic| (refine r_eq_nm ?_; (try dsimp only)))
local macro_rules | `(tactic| walk_at "call ref") => `(tactic| (refine' conv_spec ?hX ?hT ?h0 ?h1 ?h2 ?h3 ?h4 ?_; (case hT => assumption); (case hX => assumption); (case h0 => exact Fr.keep (by assumption)); (case h1 => first | exact nm_size _ _ | exact row_size (by omega) (by omega)); (case h2 => first | exact nm_range _ (by omega) | exact row_range _ _); (case h3 => walk_at "m_room"); (case h4 => walk_at "m_room"); walk_at "m_kept"))
/-- an entry of a table -/
structure Ent where
  a : Addr
  up : Bool
  i : Nat
  r : Str
  tn : Tok
  tr : Tok
def Ent.obj (e : Ent) : Obj := tupO (.str (nm e.up e.i) e.tn) (.str e.r e.tr)
/-- a table: the Headers, its dict, its list -/
structure Tb where
  o : Addr
  dx : Addr
  hl : Addr
  tk : Tok
  n1 : Nat
  n2 : Nat
  hsh : Int
def tupsOf (es : List Ent) : List (Addr × Obj) := es.map fun e => (e.a, e.obj)
abbrev Tb.news (T : Tb) (es : List Ent) : List (Addr × Obj) := (T.o, instObj 232 T.dx) :: (T.dx, dictOf [⟨T.hsh, .str (Str.ofString "_headers") T.tk, .ref T.hl⟩] T.n1) :: (T.hl, listOf (es.map fun e => Value.ref e.a).toArray T.n2) :: tupsOf es
theorem items_ref {es : List Ent} (j : Nat) (v : Value) (hj : (es.map fun e => Value.ref e.a).toArray[j]? = some v) : ∃ e, es[j]? = some e ∧ v = .ref e.a := by
  rw [List.getElem?_toArray, List.getElem?_map] at hj
  cases q : es[j]? with
  | none => rw [q] at hj; cases hj
  | some e => rw [q] at hj; cases hj; exact ⟨e, rfl, rfl⟩
theorem items_isref {es : List Ent} (j : Nat) (v : Value) (hj : (es.map fun e => Value.ref e.a).toArray[j]? = some v) : ∃ T, v = .ref T := by
  obtain ⟨e, _, h⟩ := items_ref j v hj; exact ⟨_, h⟩
theorem ent_mem {es : List Ent} {j : Nat} {e : Ent} (h : es[j]? = some e) : (e.a, tupO (.str (nm e.up e.i) e.tn) (.str e.r e.tr)) ∈ tupsOf es :=
  List.mem_map.mpr ⟨e, List.mem_of_getElem? h, rfl⟩
theorem find_at {es : List Ent} {i j : Nat} {e : Ent} (h : es[j]? = some e) (hp : ∀ e ∈ es.take j, ¬ e.i = i) (he : e.i = i) : es.find? (fun e => e.i == i) = some e := by
  have hj : j < es.length := by
    cases Nat.lt_or_ge j es.length with
    | inl h => exact h
    | inr h' => rw [List.getElem?_eq_none h'] at h; cases h
  have e1 : es = es.take j ++ e :: es.drop (j + 1) := by
    conv => lhs; rw [← List.take_append_drop j es]
    congr 1
    rw [List.drop_eq_getElem_cons hj]
    rw [List.getElem?_eq_getElem hj] at h
    rw [Option.some.inj h]
  rw [e1, List.find?_append, List.find?_eq_none.mpr (by intro x hx; simpa using hp x hx)]
  simp [he]
theorem find_no {es : List Ent} {i : Nat} (h : ∀ e ∈ es, ¬ e.i = i) : es.find? (fun e => e.i == i) = none :=
  List.find?_eq_none.mpr (by intro x hx; simpa using h x hx)
theorem pre_more {es : List Ent} {i j : Nat} {e : Ent} (h : es[j]? = some e) (hp : ∀ e ∈ es.take j, ¬ e.i = i) (he : ¬ e.i = i) : ∀ e ∈ es.take (j + 1), ¬ e.i = i := by
  intro x hx
  rw [List.take_add_one, h] at hx
  rcases List.mem_append.mp hx with hx | hx
  · exact hp x hx
  · simp at hx; rw [hx]; exact he
set_option maxHeartbeats 8000000 in
theorem get_spec (X : (hd.heap_1 w.params).In h₀) (T : Top p loose mean mg mb h₀) (st : h₀.StaysIn s.heap) {B : Tb} {es : List Ent} {up : Bool} {i : Nat} {ut : Tok}
    (hA : A.handled = none) (hB : ∀ q ∈ B.news es, s.heap.get? q.1 = some q.2) (hoff : ∀ a ∈ (B.news es).map (·.1), h₀.get? a = none)
    (hi : i < 5) (hes : ∀ e ∈ es, e.i < 5)
    (hdp : A.depth + 40 < recursionLimit) (hun : A.units + 200 < cLine)
    (hret : ∀ h' tk', s.heap.StaysIn h' → Q (match es.find? (fun e => e.i == i) with | some e => .str e.r e.tr | none => .none) { s with heap := h', toks := tk' }) :
    wpAny (model prog w) A (call (.ref 179) [.ref B.o, .str (nm up i) ut]) Q E s := by
  obtain ⟨hp, gn, dr, tkk, os⟩ := s
  obtain ⟨hdl, dp, frs, gds, un⟩ := A
  dsimp only at st hret hB hA hdp hun
  subst hA
  refine wpAny_call ?_
  k_dflt (refine' enterH _ ?X ?T ?st ?hh ?ho ?hcd ?room ?bind ?loc ?cell ?c1 ?c2 ?c3 ?_; (case X => assumption); (case T => assumption); (case st => assumption); (case ho => k_is); (case hcd => k_is); (case room => ((try dsimp only); omega)); (case bind => first | exact BindsTo.of_eq rfl | exact binds_K (by exact Frag.In.keeps (by assumption) (by assumption)) rfl (by k_is) rfl rfl rfl); (case loc => exact locs rfl); (case cell => decide); (case c1 => exact rfl); (case c2 => exact rfl); (case c3 => exact rfl); (case hh => assumption))
  intro g L' h₁ F' X' T' st' hg hn hk hL
  dsimp only at hg hk hL ⊢
  have N' := news_enter hB hn hk hL
  k_steps
  with_reducible rename Fr _ _ _ _ => F0
  with_reducible rename News _ _ _ _ => N0
  generalize hM : (fun y => if y = Str.ofString "name" then _ else _ : Str → Option Value) = M₀ at F0
  obtain ⟨tn, m1⟩ : ∃ tn, M₀ "name" = some (.str (nm false i) tn) := ⟨_, by rw [← hM]; rfl⟩
  have m2 : M₀ "self" = some (.ref B.o) := by rw [← hM]; rfl
  have m3 : M₀ "default" = some .none := by rw [← hM]; rfl
  have m4 : M₀ "k" = none := by rw [← hM]; rfl
  have m5 : M₀ "v" = none := by rw [← hM]; rfl
  clear hM
  refine for_list (g := g) (l := B.hl) (items := (es.map fun e => Value.ref e.a).toArray) (fun k m news => news = B.news es ∧ (∃ kk vv, m = fun y => if y = Str.ofString "v" then vv else if y = Str.ofString "k" then kk else M₀ y) ∧ ∀ e ∈ es.take k, ¬ e.i = i) rfl (go_tuple items_isref) ?hlist ?h ?turn ?done (by intro _; rfl) PassesOwn.never
  case hlist =>
    rintro k m news h ⟨rfl, _⟩ F N
    exact News.isList N (n := B.n2) (.tail _ (.tail _ (.head _)))
  case h =>
    k_steps
    refine LStart.intro (by assumption) (by assumption) ⟨rfl, ⟨none, none, ?_⟩, by simp⟩
    funext y
    split
    · rename_i e; rw [e, m5]
    · split
      · rename_i e; rw [e, m4]
      · rfl
  case turn =>
    rintro I oI j v m news h tk hoI hv ⟨rfl, ⟨kk, vv, rfl⟩, hpre⟩ hoff' F N
    obtain ⟨e, he, rfl⟩ := items_ref j v hv
    refine unpackN_ F N (News.isTup N (.tail _ (.tail _ (.tail _ (.tail _ (ent_mem he)))))) rfl rfl rfl fun h1 F1 N1 => ?_
    have hei := hes e (List.mem_of_getElem? he)
    k_steps
    · -- found
      rename_i hc
      have hf : es.find? (fun e => e.i == i) = some e := find_at he hpre (by simpa using hc)
      rw [hf] at hret
      exact hret _ _ (stays_news hB hg (by assumption) (by assumption) (fun p hp => List.mem_cons_of_mem _ hp))
    · rename_i hc
      refine TurnEnd.next (by assumption) (by assumption) hoff' ⟨rfl, ⟨some (.str (nm e.up e.i) e.tn), some (.str e.r e.tr), ?_⟩, ?_⟩
      · funext y
        split
        · rfl
        · split
          · rfl
          · first | rfl | (rename_i h1 h2; simp [h1, h2])
      · exact pre_more he hpre (by simpa using hc)
  case done =>
    rintro h tk m news ⟨rfl, ⟨kk, vv, rfl⟩, hpre⟩ F N
    k_steps
    have hf : es.find? (fun e => e.i == i) = none := find_no (by simpa using hpre)
    rw [hf] at hret
    exact hret _ _ (stays_news hB hg (by assumption) (by assumption) (fun p hp => hp))
local macro_rules | `(tactic| walk_at "m_i2") => `(tactic| (intro _ _; (try dsimp only)))
local macro_rules | `(tactic| walk_at "subscriptTail Name Slice str ref") => `(tactic| ((with_reducible rename Fr _ _ _ _ => F8); (with_reducible rename News _ _ _ _ => N8); first | (with_unfolding_all refine r_slice3 (s := ⟨_, _, _, _, _⟩) rfl (by omega) F8 N8 ?_) | (with_unfolding_all refine r_sliceM (s := ⟨_, _, _, _, _⟩) (by rfl) (by omega) (by omega) F8 N8 ?_); clear F8 N8; intro _ _ _ F9 N9; (try k_sweep); (try dsimp only)))
local macro_rules | `(tactic| walk_at "call builtin:str.find") => `(tactic| first | (refine r_find5 ?_; walk_at "m_i2") | (refine r_find6 (by omega) ?_; walk_at "m_i2"))
local macro_rules | `(tactic| walk_at "subscriptTail Name BinOp str int") => `(tactic| first | (refine r_item6 (by omega) (by omega) ?_; walk_at "m_i2") | (refine r_itemE (by omega) (by omega) ?_; walk_at "m_i2"))
local macro_rules | `(tactic| walk_at "compareOp NotEq str str") => `(tactic| (refine r_ne_self (by rfl) ?_; (try dsimp only)))
local macro_rules | `(tactic| walk_at "call builtin:str.split") => `(tactic| ((with_reducible rename Fr _ _ _ _ => F8); (with_reducible rename News _ _ _ _ => N8); refine r_split (hp := by omega) F8 N8 ?_; clear F8 N8; intro _ _ _ _ _ _ _ _ F9 N9 l9; (try k_lt l9); (try k_sweep); (try dsimp only)))
local macro_rules | `(tactic| walk_at "call type:int") => `(tactic| (refine r_int (by omega) ?_; walk_at "m_i2"))
set_option maxHeartbeats 8000000 in
theorem parse_spec (X : (hd.heap_1 w.params).In h₀) (T : Top p loose mean mg mb h₀) (st : h₀.StaysIn s.heap) {q : Addr} {port : Nat} {t ut tn : Tok} {x : Str}
    (hA : A.handled = none) (hq : s.heap.get? q = some (tupO (.str x tn) (.int 21 ut))) (hoff : h₀.get? q = none) (hp : port < 65536)
    (hdp : A.depth + 20 < recursionLimit) (hun : A.units + 100 < cLine)
    (hret : ∀ r u h' tk', s.heap.StaysIn h' → s.heap.get? r = none → h'.get? r = some (tupO (.str x tn) (.int (port : Int) u)) → Q (.ref r) { s with heap := h', toks := tk' }) :
    wpAny (model prog w) A (call (.ref 99) [.str (reply port) t, .ref q]) Q E s := by
  obtain ⟨hp, gn, dr, tkk, os⟩ := s
  obtain ⟨hdl, dp, frs, gds, un⟩ := A
  dsimp only at st hret hq hA hdp hun
  subst hA
  have hB : ∀ z ∈ [(q, tupO (.str x tn) (.int 21 ut))], hp.get? z.1 = some z.2 := by simpa using hq
  have hoff' : ∀ a ∈ ([(q, tupO (.str x tn) (.int 21 ut))] : List (Addr × Obj)).map (·.1), h₀.get? a = none := by simpa using hoff
  refine wpAny_call ?_
  k_dflt (refine' enterH _ ?X ?T ?st ?hh ?ho ?hcd ?room ?bind ?loc ?cell ?c1 ?c2 ?c3 ?_; (case X => assumption); (case T => assumption); (case st => assumption); (case ho => k_is); (case hcd => k_is); (case room => ((try dsimp only); omega)); (case bind => first | exact BindsTo.of_eq rfl | exact binds_K (by exact Frag.In.keeps (by assumption) (by assumption)) rfl (by k_is) rfl rfl rfl); (case loc => exact locs rfl); (case cell => decide); (case c1 => exact rfl); (case c2 => exact rfl); (case c3 => exact rfl); (case hh => assumption))
  intro g L' h₁ F' X' T' st' hg hn hk hL
  dsimp only at hg hk hL ⊢
  have N' := news_enter hB hn hk hL
  k_steps
  with_reducible rename News _ _ _ _ => NE
  refine hret _ _ _ _ (stays_news hB hg (by assumption) NE (by simp)) (fresh_of hg (NE _ (List.mem_cons_self ..)).2.2 ?_) (NE _ (List.mem_cons_self ..)).1
  simp only [List.map_cons, List.map_nil, List.mem_singleton]
  exact neN (by omega)
set_option maxHeartbeats 8000000 in
theorem items_spec (X : (hd.heap_1 w.params).In h₀) (T : Top p loose mean mg mb h₀) (st : h₀.StaysIn s.heap) {B : Tb} {es : List Ent}
    (hA : A.handled = none) (hB : ∀ q ∈ B.news es, s.heap.get? q.1 = some q.2) (hoff : ∀ a ∈ (B.news es).map (·.1), h₀.get? a = none) (hes : es.length ≤ 1000)
    (hdp : A.depth + 20 < recursionLimit) (hun : A.units + 100 < cLine)
    (hret : ∀ r h' tk', s.heap.StaysIn h' → s.heap.get? r = none → h'.get? r = some (listOf (es.map fun e => Value.ref e.a).toArray 0) → Q (.ref r) { s with heap := h', toks := tk' }) :
    wpAny (model prog w) A (call (.ref 196) [.ref B.o]) Q E s := by
  obtain ⟨hp, gn, dr, tkk, os⟩ := s
  obtain ⟨hdl, dp, frs, gds, un⟩ := A
  dsimp only at st hret hB hA hdp hun
  subst hA
  refine wpAny_call ?_
  k_dflt (refine' enterH _ ?X ?T ?st ?hh ?ho ?hcd ?room ?bind ?loc ?cell ?c1 ?c2 ?c3 ?_; (case X => assumption); (case T => assumption); (case st => assumption); (case ho => k_is); (case hcd => k_is); (case room => ((try dsimp only); omega)); (case bind => first | exact BindsTo.of_eq rfl | exact binds_K (by exact Frag.In.keeps (by assumption) (by assumption)) rfl (by k_is) rfl rfl rfl); (case loc => exact locs rfl); (case cell => decide); (case c1 => exact rfl); (case c2 => exact rfl); (case c3 => exact rfl); (case hh => assumption))
  intro g L' h₁ F' X' T' st' hg hn hk hL
  dsimp only at hg hk hL ⊢
  have N' := news_enter hB hn hk hL
  k_steps
  with_reducible rename News _ _ _ _ => NE
  dsimp only at NE ⊢
  rw [slicePick_all] at NE
  refine hret _ _ _ (stays_news hB hg (by assumption) NE (fun z hz => List.mem_cons_of_mem _ hz)) (fresh_of hg (NE _ (List.mem_cons_self ..)).2.2 ?_) (NE _ (List.mem_cons_self ..)).1
  intro hm
  obtain ⟨z, hz, e⟩ := List.mem_map.mp hm
  have := Heap.lt_size (hk _ _ (hB z hz))
  rw [e] at this
  exact absurd this (ltN' (by omega))
theorem news_tab {g h : Heap} {L : Addr} {news tab : List (Addr × Obj)} (N : News g L h news) (hs : ∀ q ∈ tab, q ∈ news) : ∀ q ∈ tab, h.get? q.1 = some q.2 := fun q hq => (N q (hs q hq)).1
theorem news_off {g h : Heap} {L : Addr} {news tab : List (Addr × Obj)} (N : News g L h news) (hs : ∀ q ∈ tab, q ∈ news) : ∀ a ∈ tab.map (·.1), g.get? a = none := fun a ha => by
  obtain ⟨q, hq, rfl⟩ := List.mem_map.mp ha
  exact (N q (hs q hq)).2.2
local macro_rules | `(tactic| walk_at "m_in") => `(tactic| (intro q hq; with_reducible (repeat (first | exact hq | refine List.mem_cons_of_mem _ ?_))))
local macro_rules | `(tactic| walk_at "m_fact") => `(tactic| ((try dsimp only); (repeat rw [if_neg (by decide)]); assumption))
local macro_rules | `(tactic| walk_at "m_tab") => `(tactic| (refine news_tab (by assumption) ?_; walk_at "m_in"))
local macro_rules | `(tactic| walk_at "m_off") => `(tactic| (refine news_off (by assumption) ?_; walk_at "m_in"))
local macro_rules | `(tactic| k_all) => `(tactic| with_reducible assumption)
local macro_rules | `(tactic| walk_at "m_kept3") => `(tactic| (refine' keep3 ?F ?N (by assumption) (by assumption) (by assumption) ?_; (case F => assumption); (case N => assumption); intro F9 N9 ne9; (try (replace ne9 := allNe_of ne9; simp only [AllNe, and_true] at ne9)); (try k_sweep); (try dsimp only)))
theorem news_sub {g h : Heap} {L : Addr} {news tab : List (Addr × Obj)} (N : News g L h news) (hs : ∀ q ∈ tab, q ∈ news) : News g L h tab := fun q hq => N q (hs q hq)
local macro_rules | `(tactic| walk_at "binaryOp Mult int str") => `(tactic| (first | refine r_mul3 (by rfl) ?_ | refine r_mul (by first | rfl | exact c_dot) (by omega) ?_; intro _ _; (try dsimp only)))
local macro_rules | `(tactic| walk_at "binaryOp Add str str") => `(tactic| (refine r_add (by first | rfl | exact c_229x | exact c_close) (by first | rfl | exact c_229x | exact c_close) ?_ ?_; rotate_left; intro _ _; (try dsimp only)))
local macro_rules | `(tactic| walk_at "subscriptTail") => `(tactic| (refine r_mark ?_; intro _ _; (try dsimp only)))
local macro_rules | `(tactic| walk_at "call type:str") => `(tactic| (refine r_str (by omega) ?_; intro _ _; (try dsimp only)))
set_option maxHeartbeats 8000000 in
theorem reply_spec (X : (hd.heap_1 w.params).In h₀) (T : Top p loose mean mg mb h₀) (st : h₀.StaysIn s.heap) {port : Nat} {tp : Tok}
    (hA : A.handled = none) (h1 : port < 65536)
    (hdp : A.depth + 20 < recursionLimit) (hun : A.units + 100 < cLine)
    (hret : ∀ t h' tk', s.heap.StaysIn h' → Q (.str (reply port) t) { s with heap := h', toks := tk' }) :
    wpAny (model prog w) A (call (.ref 243) [.int port tp]) Q E s := by
  obtain ⟨hp, gn, dr, tkk, os⟩ := s
  obtain ⟨hdl, dp, frs, gds, un⟩ := A
  dsimp only at st hret hA hdp hun
  subst hA
  refine wpAny_call ?_
  k_dflt (refine' enterH [] ?X ?T ?st (fun _ h => nomatch h) ?ho ?hcd ?room ?bind ?loc ?cell ?c1 ?c2 ?c3 ?_; (case X => assumption); (case T => assumption); (case st => assumption); (case ho => k_is); (case hcd => k_is); (case room => ((try dsimp only); omega)); (case bind => first | exact BindsTo.of_eq rfl | exact binds_K (by exact Frag.In.keeps (by assumption) (by assumption)) rfl (by k_is) rfl rfl rfl); (case loc => exact locs rfl); (case cell => decide); (case c1 => exact rfl); (case c2 => exact rfl); (case c3 => exact rfl))
  intro g L' h₁ F' X' T' st' hg hn hk hL
  dsimp only at hg hk hL ⊢
  have N' := @News.nil g h₁ L'
  have hd5 := digs_len h1
  k_steps
  · rw [reply_lit] at hret
    have e : [50, 50, 57, 32, 120, 40, mk port, mk port, mk port] ++ digs port ++ [mk port] ++ [41] = replyL port := by simp [replyL, List.append_assoc]
    rw [e]
    exact hret _ _ _ (stays_of hg (by assumption))
  all_goals (simp only [List.length_append, List.length_replicate, List.length_cons, List.length_nil]; omega)
local macro_rules | `(tactic| walk_at "getMethod ref") => `(tactic| first | refine get_sub (pat1 (by k_in)) ?_ | refine get_sub (pat2 (by k_in)) ?_)
theorem dots_length (rs : List (List Nat)) : ((rs.map (46 :: ·)).map List.length).sum = (rs.map List.length).sum + rs.length := by
  induction rs with
  | nil => rfl
  | cons r rs ih => simp only [List.map_cons, List.sum_cons, List.length_cons, ih]; omega
theorem joinL_length {e : List Nat} : ∀ (rs : List (List Nat)), (joinL e rs).length ≤ (rs.map List.length).sum + rs.length * e.length
  | [] => by simp [joinL]
  | [r] => by simp [joinL]
  | r :: r2 :: rs => by
    have ih := joinL_length (e := e) (r2 :: rs)
    simp only [joinL, List.length_append, List.map_cons, List.sum_cons, List.length_cons] at ih ⊢
    rw [Nat.add_mul, Nat.one_mul]
    rw [Nat.add_mul, Nat.one_mul] at ih
    rw [Nat.add_mul, Nat.one_mul]
    omega
theorem r_subJ {a : Addr} {code : Array Nat} {y : Str} {text repl out : List Nat} {t tr : Tok} (P : Pat s.heap a code) (hy : y = lit repl) (D : Subs code text repl 0 out) (hz : text.length ≤ 100000) (ho : out.length ≤ 16777216) (hr : 92 ∉ repl)
    (h : ∀ t' h' tk', s.heap.StaysIn h' → Q (.str (lit out) t') { s with heap := h', toks := tk' }) : wpAny (model prog w) A (call (.builtin "re.Pattern.sub") [.ref a, .str y tr, .str (lit text) t]) Q E s := by
  subst hy
  exact call_sub hz hr P D ho h
local macro_rules | `(tactic| walk_at "call builtin:re.Pattern.sub") => `(tactic| first | (refine r_subJ (pat2 (by k_in)) (by rfl) (by assumption) (by omega) (by omega) (by decide) ?_; intro _; walk_at "m_kept") | (refine r_subJ (pat1 (by k_in)) (by exact c_dots) (by assumption) (by omega) (by omega) (by decide) ?_; intro _; walk_at "m_kept"))
set_option maxHeartbeats 8000000 in
theorem quote_join (X : (hd.heap_1 w.params).In h₀) (T : Top p loose mean mg mb h₀) (st : h₀.StaysIn s.heap) {e : List Nat} {rs : List (List Nat)} {t : Tok}
    (hA : A.handled = none) (he : IsEnd e) (h0 : rs ≠ []) (hd : ∀ r ∈ rs, Dotted r) (hsz : (rs.map List.length).sum + 4 * rs.length ≤ 90000)
    (hdp : A.depth + 20 < recursionLimit) (hun : A.units + 100 < cLine)
    (hret : ∀ u h' tk', s.heap.StaysIn h' → Q (.str (lit (joinL [13, 10] (rs.map (46 :: ·)))) u) { s with heap := h', toks := tk' }) :
    wpAny (model prog w) A (call (.ref 55) [.str (lit (joinL e rs)) t]) Q E s := by
  have hj1 := joinL_length (e := e) rs
  have hj2 := joinL_length (e := [13, 10]) rs
  have hj3 := joinL_length (e := [13, 10]) (rs.map (46 :: ·))
  rw [dots_length, List.length_map] at hj3
  have hel : e.length ≤ 2 := by rcases he with rfl | rfl | rfl <;> simp
  have hel2 : rs.length * e.length ≤ rs.length * 2 := Nat.mul_le_mul_left _ hel
  simp only [List.length_cons, List.length_nil] at hj2 hj3
  have s2 := subs2_join he rs [] h0 hd
  have s1 := subs1_join rs h0 hd (by omega)
  simp only [List.nil_append, List.length_nil] at s2
  obtain ⟨hp, gn, dr, tkk, os⟩ := s
  obtain ⟨hdl, dp, frs, gds, un⟩ := A
  dsimp only at st hret hA hdp hun
  subst hA
  refine wpAny_call ?_
  k_dflt (refine' enterH [] ?X ?T ?st (fun _ h => nomatch h) ?ho ?hcd ?room ?bind ?loc ?cell ?c1 ?c2 ?c3 ?_; (case X => assumption); (case T => assumption); (case st => assumption); (case ho => k_is); (case hcd => k_is); (case room => ((try dsimp only); omega)); (case bind => first | exact BindsTo.of_eq rfl | exact binds_K (by exact Frag.In.keeps (by assumption) (by assumption)) rfl (by k_is) rfl rfl rfl); (case loc => exact locs rfl); (case cell => decide); (case c1 => exact rfl); (case c2 => exact rfl); (case c3 => exact rfl))
  intro g L' h₁ F' X' T' st' hg hn hk hL
  dsimp only at hg hk hL ⊢
  have N' := @News.nil g h₁ L'
  k_steps
  exact hret _ _ _ (stays_of hg (by assumption))
theorem keep4 {P : Prop} {g h h' : Heap} {L D : Addr} {m : Str → Option Value} {o o' : Obj} {news news' : List (Addr × Obj)} (F : Fr g L h m) (N : News g L h news) (U : Upd D o o' news news')
    (hk : ∀ b o, b ≠ D → h.get? b = some o → h'.get? b = some o) (hr : h'.get? D = some o') (k : Fr g L h' m → News g L h' news' → P) : P := by
  obtain ⟨pre, post, rfl, rfl, a, b⟩ := U.split
  have z := N (D, o) (List.mem_append.mpr (.inr (.head _)))
  have hgD : ∀ b o, g.get? b = some o → b ≠ D := fun b o e q => by rw [q, z.2.2] at e; cases e
  refine k ⟨F.ns.at' fun o e => hk _ o (Ne.symm z.2.1) e, fun b o e => hk b o (hgD b o e) (F.keep b o e), F.above⟩ fun q hq => ?_
  rcases List.mem_append.mp hq with hq' | hq'
  · have y := N q (List.mem_append.mpr (.inl hq'))
    exact ⟨hk _ _ (a q hq') y.1, y.2⟩
  · rcases List.mem_cons.mp hq' with rfl | hq'
    · exact ⟨hr, z.2⟩
    · have y := N q (List.mem_append.mpr (.inr (.tail _ hq')))
      exact ⟨hk _ _ (b q hq') y.1, y.2⟩
theorem tab_ne {h : Heap} {B : Tb} {es : List Ent} (hB : ∀ q ∈ B.news es, h.get? q.1 = some q.2) : @Ne Nat B.o B.hl ∧ @Ne Nat B.dx B.hl ∧ (∀ p ∈ tupsOf es, p.1 ≠ B.hl) := by
  have h3 := hB _ (.tail _ (.tail _ (.head _)))
  dsimp only at h3
  refine ⟨fun e => ?_, fun e => ?_, fun p hp e => ?_⟩
  · have h1 := hB _ (.head _)
    dsimp only at h1
    rw [show B.o = B.hl from e, h3] at h1
    simp [W.listOf, instObj] at h1
  · have h1 := hB _ (.tail _ (.head _))
    dsimp only at h1
    rw [show B.dx = B.hl from e, h3] at h1
    simp [W.listOf, dictOf] at h1
  · have h1 := hB _ (.tail _ (.tail _ (.tail _ hp)))
    rw [e, h3] at h1
    obtain ⟨x, hx, rfl⟩ := List.mem_map.mp hp
    simp [W.listOf, Ent.obj] at h1
abbrev newTab (x dx hl : Addr) (n : Nat) (es : List Ent) : List (Addr × Obj) := (x, instObj 232 dx) :: (dx, dictOf [] 0) :: (hl, W.listOf (es.map fun e => Value.ref e.a).toArray n) :: tupsOf es
theorem newTab_ne {h : Heap} {x dx hl : Addr} {n : Nat} {es : List Ent} (hB : ∀ q ∈ newTab x dx hl n es, h.get? q.1 = some q.2) : @Ne Nat x dx ∧ @Ne Nat hl dx ∧ (∀ p ∈ tupsOf es, p.1 ≠ dx) := by
  have h3 := hB _ (.tail _ (.head _))
  dsimp only at h3
  refine ⟨fun e => ?_, fun e => ?_, fun p hp e => ?_⟩
  · have h1 := hB _ (.head _)
    dsimp only at h1
    rw [show x = dx from e, h3] at h1
    simp [dictOf, instObj] at h1
  · have h1 := hB _ (.tail _ (.tail _ (.head _)))
    dsimp only at h1
    rw [show hl = dx from e, h3] at h1
    simp [W.listOf, dictOf] at h1
  · have h1 := hB _ (.tail _ (.tail _ (.tail _ hp)))
    rw [e, h3] at h1
    obtain ⟨x, hx, rfl⟩ := List.mem_map.mp hp
    simp [dictOf, Ent.obj] at h1
set_option maxHeartbeats 8000000 in
theorem init_spec {R : Result → Shared → Prop} (X : (hd.heap_1 w.params).In h₀) (T : Top p loose mean mg mb h₀) (st : h₀.StaysIn s.heap) {x dx hl : Addr} {n : Nat} {es : List Ent}
    (hA : A.handled = none) (hB : ∀ q ∈ newTab x dx hl n es, s.heap.get? q.1 = some q.2) (hoff : ∀ a ∈ (newTab x dx hl n es).map (·.1), h₀.get? a = none) (hlen : es.length ≤ 1000)
    (hes : ∀ e ∈ es, e.i < 5 ∧ ∃ d p, e.r = row d p ∧ d ≤ 999 ∧ p < 65536)
    (hdp : A.depth + 40 < recursionLimit) (hun : A.units + 200 < cLine)
    (hret : ∀ h' tk' hsh tkk n1, (∀ b o, b ≠ dx → s.heap.get? b = some o → h'.get? b = some o) → h'.get? dx = some (dictOf [⟨hsh, .str (Str.ofString "_headers") tkk, .ref hl⟩] n1) → R (.ok (.ret .none)) { s with heap := h', toks := tk' }) :
    codeAny (model prog w) A (.call (.ref 124) ⟨[.ref x, .ref hl], []⟩) R s := by
  obtain ⟨hp, gn, dr, tkk, os⟩ := s
  obtain ⟨hdl, dp, frs, gds, un⟩ := A
  dsimp only at st hret hB hA hdp hun
  subst hA
  obtain ⟨ne1, ne2, ne3⟩ := newTab_ne hB
  k_dflt (refine' enterH _ ?X ?T ?st ?hh ?ho ?hcd ?room ?bind ?loc ?cell ?c1 ?c2 ?c3 ?_; (case X => assumption); (case T => assumption); (case st => assumption); (case ho => k_is); (case hcd => k_is); (case room => ((try dsimp only); omega)); (case bind => first | exact BindsTo.of_eq rfl | exact binds_K (by exact Frag.In.keeps (by assumption) (by assumption)) rfl (by k_is) rfl rfl rfl); (case loc => exact locs rfl); (case cell => decide); (case c1 => exact rfl); (case c2 => exact rfl); (case c3 => exact rfl); (case hh => assumption))
  intro g L' h₁ F' X' T' st' hg hn hk hL
  dsimp only at hg hk hL ⊢
  have N' := news_enter hB hn hk hL
  dsimp only [newTab] at N'
  k_steps
  with_reducible rename Fr _ _ _ _ => F0
  with_reducible rename News _ _ _ _ => N0
  generalize hM : (fun y => if y = Str.ofString "headers" then _ else _ : Str → Option Value) = M₀ at F0
  have m1 : M₀ "self" = some (.ref x) := by rw [← hM]; rfl
  have m2 : M₀ "headers" = some (.ref hl) := by rw [← hM]; rfl
  obtain ⟨hsh, tk2, n1, N1⟩ : ∃ hsh tk2 n1, News g L' _ ((x, instObj 232 dx) :: (dx, dictOf [⟨hsh, .str (Str.ofString "_headers") tk2, .ref hl⟩] n1) :: (hl, W.listOf (es.map fun e => Value.ref e.a).toArray n) :: tupsOf es) := ⟨_, _, _, N0⟩
  clear hM N0
  refine for_listX (g := g) rfl ?_ (by intro _; rfl) PassesOwn.never
  k_steps
  refine ⟨hl, (es.map fun e => Value.ref e.a).toArray, fun k m news => m "self" = some (.ref x) ∧ news = (x, instObj 232 dx) :: (dx, dictOf [⟨hsh, .str (Str.ofString "_headers") tk2, .ref hl⟩] n1) :: (hl, W.listOf (es.map fun e => Value.ref e.a).toArray n) :: tupsOf es, rfl, ⟨rfl, ⟨_, _, F0, N1, m1, rfl⟩, go_tuple items_isref, ?hlist, ?turn, ?done⟩⟩
  case hlist =>
    rintro k m news h ⟨_, rfl⟩ F N
    exact News.isList N (n := n) (.tail _ (.tail _ (.head _)))
  case turn =>
    rintro I oI j v m news h tk hoI hv ⟨m1, rfl⟩ hoff' F N
    obtain ⟨e, he, rfl⟩ := items_ref j v hv
    refine unpackN_ F N (News.isTup N (.tail _ (.tail _ (.tail _ (.tail _ (ent_mem he)))))) rfl rfl rfl fun h1 F1 N1 => ?_
    obtain ⟨hi, d, pt, hr, hd, hpt⟩ := hes e (List.mem_of_getElem? he)
    obtain ⟨ea, up, i, r, tn, tr⟩ := e
    dsimp only at hi hr F1 N1
    subst hr
    k_steps
    refine TurnEnd.next (by assumption) (by assumption) hoff' ⟨?_, rfl⟩
    walk_at "m_fact"
  case done =>
    rintro h tk m news ⟨m1, rfl⟩ F N
    k_steps
    refine hret _ _ hsh tk2 n1 (fun b o hb e => ?_) (N _ (.tail _ (.head _))).1
    by_cases hm : b ∈ (newTab x dx hl n es).map (·.1)
    · obtain ⟨q, hq, rfl⟩ := List.mem_map.mp hm
      have h1 := hB q hq
      rw [e] at h1
      cases h1
      rcases List.mem_cons.mp hq with rfl | hq
      · exact (N _ (.head _)).1
      · rcases List.mem_cons.mp hq with rfl | hq
        · exact absurd rfl hb
        · exact (N _ (.tail _ (.tail _ hq))).1
    · exact F.keep b o (hg b o e hm)
theorem get_none (X : (hd.heap_1 w.params).In h₀) (T : Top p loose mean mg mb h₀) (st : h₀.StaysIn s.heap) {B : Tb} {es : List Ent} {up : Bool} {i : Nat} {ut : Tok}
    (hA : A.handled = none) (hB : ∀ q ∈ B.news es, s.heap.get? q.1 = some q.2) (hoff : ∀ a ∈ (B.news es).map (·.1), h₀.get? a = none)
    (hr : es.find? (fun e => e.i == i) = none) (hi : i < 5) (hes : ∀ e ∈ es, e.i < 5)
    (hdp : A.depth + 40 < recursionLimit) (hun : A.units + 200 < cLine)
    (hret : ∀ h' tk', s.heap.StaysIn h' → Q .none { s with heap := h', toks := tk' }) :
    wpAny (model prog w) A (call (.ref 179) [.ref B.o, .str (nm up i) ut]) Q E s := by
  refine get_spec X T st hA hB hoff hi hes hdp hun ?_
  rw [hr]
  exact hret
local macro_rules | `(tactic| walk_at "call ref") => `(tactic| (refine' get_none ?hX ?hT ?h0 ?hA ?hB ?hoff ?hr ?hi ?hes ?h3 ?h4 ?_; (case hT => assumption); (case hX => assumption); (case h0 => exact Fr.keep (by assumption)); (case hA => exact rfl); (case hB => walk_at "m_tab"); (case hoff => walk_at "m_off"); (case hr => assumption); (case hi => omega); (case hes => assumption); (case h3 => walk_at "m_room"); (case h4 => walk_at "m_room"); walk_at "m_kept"))
set_option maxHeartbeats 8000000 in
/-- storing under a letter that is not yet there: a new entry behind the others -/
theorem setdef_spec (X : (hd.heap_1 w.params).In h₀) (T : Top p loose mean mg mb h₀) (st : h₀.StaysIn s.heap) {B : Tb} {es : List Ent} {up : Bool} {i d pt : Nat} {ut vt : Tok}
    (hA : A.handled = none) (hB : ∀ q ∈ B.news es, s.heap.get? q.1 = some q.2) (hoff : ∀ a ∈ (B.news es).map (·.1), h₀.get? a = none)
    (hi : i < 5) (hnew : es.find? (fun e => e.i == i) = none) (hes : ∀ e ∈ es, e.i < 5) (hlen : es.length ≤ 1000) (hd : d ≤ 1000) (hpt : pt < 65536)
    (hdp : A.depth + 60 < recursionLimit) (hun : A.units + 300 < cLine)
    (hret : ∀ h' tk' n2 r, (∀ b o, b ≠ B.hl → s.heap.get? b = some o → h'.get? b = some o) → s.heap.get? r = none → h'.get? r = some (tupO (.str (nm up i) ut) (.str (row d pt) vt)) →
      h'.get? B.hl = some (W.listOf ((es.map fun e => Value.ref e.a) ++ [Value.ref r] : List Value).toArray n2) → Q (.str (row d pt) vt) { s with heap := h', toks := tk' }) :
    wpAny (model prog w) A (call (.ref 222) [.ref B.o, .str (nm up i) ut, .str (row d pt) vt]) Q E s := by
  obtain ⟨hp, gn, dr, tkk, os⟩ := s
  obtain ⟨hdl, dp, frs, gds, un⟩ := A
  dsimp only at st hret hB hA hdp hun
  subst hA
  obtain ⟨ne1, ne2, ne3⟩ := tab_ne hB
  refine wpAny_call ?_
  k_dflt (refine' enterH _ ?X ?T ?st ?hh ?ho ?hcd ?room ?bind ?loc ?cell ?c1 ?c2 ?c3 ?_; (case X => assumption); (case T => assumption); (case st => assumption); (case ho => k_is); (case hcd => k_is); (case room => ((try dsimp only); omega)); (case bind => first | exact BindsTo.of_eq rfl | exact binds_K (by exact Frag.In.keeps (by assumption) (by assumption)) rfl (by k_is) rfl rfl rfl); (case loc => exact locs rfl); (case cell => decide); (case c1 => exact rfl); (case c2 => exact rfl); (case c3 => exact rfl); (case hh => assumption))
  intro g L' h₁ F' X' T' st' hg hn hk hL
  dsimp only at hg hk hL ⊢
  have N' := news_enter hB hn hk hL
  k_steps
  with_reducible rename News _ _ _ _ => N9
  with_reducible rename Fr _ _ _ _ => F9
  simp only [List.push_toArray] at N9
  refine hret _ _ _ _ (fun b o hb e => ?_) (fresh_of hg (N9 _ (.head _)).2.2 ?_) (N9 _ (.head _)).1 (News.get N9 (.tail _ (.tail _ (.tail _ (.head _)))))
  · by_cases hm : b ∈ (B.news es).map (·.1)
    · obtain ⟨q, hq, rfl⟩ := List.mem_map.mp hm
      have h1 := hB q hq
      rw [e] at h1
      cases h1
      rcases List.mem_cons.mp hq with rfl | hq
      · exact (N9 _ (.tail _ (.head _))).1
      · rcases List.mem_cons.mp hq with rfl | hq
        · exact (N9 _ (.tail _ (.tail _ (.head _)))).1
        · rcases List.mem_cons.mp hq with rfl | hq
          · exact absurd rfl hb
          · exact (N9 _ (.tail _ (.tail _ (.tail _ (.tail _ hq))))).1
    · exact F9.keep b o (hg b o e hm)
  · intro hm
    obtain ⟨q, hq, e⟩ := List.mem_map.mp hm
    exact allLt_ne (l := B.news es) (by assumption) q hq e
def CutEnd (g : Heap) (L : Addr) (s : Shared) (P : (Str → Option Value) → List (Addr × Obj) → Prop) (f : Flow) (s' : Shared) : Prop :=
  f = .next ∧ ∃ h' tk m' news', s' = { s with heap := h', toks := tk } ∧ Fr g L h' m' ∧ News g L h' news' ∧ P m' news'
theorem CutEnd.intro {g h' : Heap} {L : Addr} {s : Shared} {P : (Str → Option Value) → List (Addr × Obj) → Prop} {tk : Nat} {m' : Str → Option Value} {news' : List (Addr × Obj)} (F : Fr g L h' m') (N : News g L h' news') (p : P m' news') :
    CutEnd g L s P .next { s with heap := h', toks := tk } := ⟨rfl, _, _, _, _, rfl, F, N, p⟩
theorem cut_ {M : Model} {S : Stmt} {rest : List Stmt} {env : Env} {g : Heap} {L : Addr} {Q : Flow → Shared → Prop} {E : Value → Shared → Prop} {h : Heap} {m : Str → Option Value} (F : Fr g L h m) (P : (Str → Option Value) → List (Addr × Obj) → Prop)
    (h1 : wpAny M A (exec S env) (CutEnd g L s P) E s)
    (h2 : ∀ h' tk m' news', Fr g L h' m' → News g L h' news' → P m' news' → wpAny M A (execs rest env) Q E { s with heap := h', toks := tk }) : wpAny M A (execs (S :: rest) env) Q E s := by
  refine wpAny_execs_cons (wpAny_mono h1 (fun f s' hf => ?_) fun _ _ e => e)
  obtain ⟨rfl, h', tk, m', news', rfl, F, N, p⟩ := hf
  exact h2 h' tk m' news' F N p
def Stop (P : Prop) : Prop := P
theorem stop_ {P : Prop} (h : Stop P) : P := h
theorem item_at {value slice : PySem.Expr} {l : Addr} {vs : List Value} {i : Nat} {v : Value} {u : Tok} (hl : s.heap.IsList l vs.toArray) (hv : vs[i]? = some v) (hi : i < 1000) (h : Q v s)
    (hs : subscripted slice false (.ref l) (.int (i : Int) u) = operate [.ref l, .int (i : Int) u] (getItem (.ref l) (.int (i : Int) u)) := by with_unfolding_all rfl) :
    wpAny (model prog w) A (subscriptTail value slice (.ref l) (.int (i : Int) u)) Q E s :=
  tail_any hl.typeIs slot_list_getitem.lookup (wpAny_getItem_list hl (Int.natCast_nonneg i) (by omega) (by simpa using hv) h) hs
/-- the roads: the list, the five lists -/
abbrev roadRefs (ad : Nat → Addr) : List Value := [.ref (ad 0), .ref (ad 1), .ref (ad 2), .ref (ad 3), .ref (ad 4)]
abbrev roadsNews (r : Addr) (ad : Nat → Addr) (vs : Nat → List Value) (ns : Nat → Nat) : List (Addr × Obj) :=
  (r, W.listOf (roadRefs ad).toArray 0) :: [0, 1, 2, 3, 4].map fun i => (ad i, W.listOf (vs i).toArray (ns i))
theorem roads_mem {r : Addr} {ad : Nat → Addr} {vs : Nat → List Value} {ns : Nat → Nat} {i : Nat} (hi : i < 5) : (ad i, W.listOf (vs i).toArray (ns i)) ∈ roadsNews r ad vs ns := by
  refine .tail _ (List.mem_map.mpr ⟨i, ?_, rfl⟩)
  simp; omega
theorem roadRefs_at (ad : Nat → Addr) {i : Nat} (hi : i < 5) : (roadRefs ad)[i]? = some (.ref (ad i)) := by
  have : i = 0 ∨ i = 1 ∨ i = 2 ∨ i = 3 ∨ i = 4 := by omega
  rcases this with rfl | rfl | rfl | rfl | rfl <;> rfl
/-- the roads laid so far, c at most of each -/
structure RInv (adj : Nat → List Nat) (vs : Nat → List Value) (c : Nat) : Prop where
  nums : ∀ i, i < 5 → IntsAre (vs i) ((adj i).map fun k => ((k : Nat) : Int))
  lt : ∀ i, i < 5 → ∀ j ∈ adj i, j < 5
  sym : ∀ i, i < 5 → ∀ j ∈ adj i, i ∈ adj j
  len : ∀ i, i < 5 → (adj i).length ≤ c
def addTo {α : Type} (f : Nat → List α) (i : Nat) (x : α) : Nat → List α := fun k => if k = i then f k ++ [x] else f k
theorem RInv.mono {adj : Nat → List Nat} {vs : Nat → List Value} {c c' : Nat} (I : RInv adj vs c) (h : c ≤ c') : RInv adj vs c' := ⟨I.nums, I.lt, I.sym, fun i hi => Nat.le_trans (I.len i hi) h⟩
theorem mem_addTo {f : Nat → List Nat} {i x k y : Nat} : y ∈ addTo f i x k ↔ y ∈ f k ∨ (k = i ∧ y = x) := by
  unfold addTo
  split
  · rename_i h; simp [h]
  · rename_i h; simp [h]
theorem RInv.add {adj : Nat → List Nat} {vs : Nat → List Value} {c i j : Nat} {ti tj : Tok} (I : RInv adj vs c) (hi : i < 5) (hj : j < 5) (hij : i ≠ j) :
    RInv (addTo (addTo adj i j) j i) (addTo (addTo vs i (.int ((j : Nat) : Int) tj)) j (.int ((i : Nat) : Int) ti)) (c + 1) := by
  refine ⟨fun k hk => ?_, fun k hk y hy => ?_, fun k hk y hy => ?_, fun k hk => ?_⟩
  · have h := I.nums k hk
    unfold addTo
    by_cases h1 : k = j
    · subst h1
      rw [if_pos rfl, if_pos rfl, if_neg (Ne.symm hij), if_neg (Ne.symm hij), List.map_append]
      exact h.append (.cons _ _ .nil)
    · rw [if_neg h1, if_neg h1]
      by_cases h2 : k = i
      · subst h2
        rw [if_pos rfl, if_pos rfl, List.map_append]
        exact h.append (.cons _ _ .nil)
      · rw [if_neg h2, if_neg h2]; exact h
  · rcases mem_addTo.mp hy with hy | ⟨_, rfl⟩
    · rcases mem_addTo.mp hy with hy | ⟨_, rfl⟩
      · exact I.lt k hk y hy
      · exact hj
    · exact hi
  · rcases mem_addTo.mp hy with hy | ⟨rfl, rfl⟩
    · rcases mem_addTo.mp hy with hy | ⟨rfl, rfl⟩
      · exact mem_addTo.mpr (.inl (mem_addTo.mpr (.inl (I.sym k hk y hy))))
      · exact mem_addTo.mpr (.inr ⟨rfl, rfl⟩)
    · exact mem_addTo.mpr (.inl (mem_addTo.mpr (.inr ⟨rfl, rfl⟩)))
  · have h := I.len k hk
    unfold addTo
    by_cases h1 : k = j
    · subst h1
      rw [if_pos rfl, if_neg (Ne.symm hij), List.length_append, List.length_singleton]; omega
    · rw [if_neg h1]
      by_cases h2 : k = i
      · rw [if_pos h2, List.length_append, List.length_singleton]; omega
      · rw [if_neg h2]; omega
def adOf (a b c d e : Addr) : Nat → Addr
  | 0 => a
  | 1 => b
  | 2 => c
  | 3 => d
  | _ => e
theorem adOf_ne {a b c d e r : Nat} (q1 : a < b) (q2 : b < c ∧ a < c) (q3 : c < d ∧ b < d ∧ a < d) (q4 : d < e ∧ c < e ∧ b < e ∧ a < e) (q5 : e < r ∧ d < r ∧ c < r ∧ b < r ∧ a < r) :
    (∀ i j, i < 5 → j < 5 → adOf a b c d e i = adOf a b c d e j → i = j) ∧ ∀ i, i < 5 → @Ne Nat (adOf a b c d e i) r := by
  have f : ∀ i, i < 5 → i = 0 ∨ i = 1 ∨ i = 2 ∨ i = 3 ∨ i = 4 := fun i hi => by omega
  refine ⟨fun i j hi hj h => ?_, fun i hi h => ?_⟩
  · rcases f i hi with rfl | rfl | rfl | rfl | rfl <;> rcases f j hj with rfl | rfl | rfl | rfl | rfl <;> first | rfl | (exfalso; have h' : @Eq Nat _ _ := h; simp only [adOf] at h'; omega)
  · rcases f i hi with rfl | rfl | rfl | rfl | rfl <;> (simp only [adOf] at h; omega)
theorem allNe_cons {d : Addr} {a : Nat} {o : Obj} {l : List (Addr × Obj)} (h : @Ne Nat a d) (hl : ∀ q ∈ l, q.1 ≠ d) : ∀ q ∈ (a, o) :: l, q.1 ≠ d := fun q hq => by
  rcases List.mem_cons.mp hq with rfl | hq
  · exact h
  · exact hl q hq
theorem roads_back {g h : Heap} {L : Addr} {r I I' : Addr} {oI oI' : Obj} {ad : Nat → Addr} {vs : Nat → List Value} {ns : Nat → Nat} {i j : Nat} {rest : List (Addr × Obj)}
    (N : News g L h ((ad i, W.listOf (vs i).toArray (ns i)) :: (ad j, W.listOf (vs j).toArray (ns j)) :: (r, W.listOf (roadRefs ad).toArray 0) :: (I', oI') :: (I, oI) :: rest))
    (rin : ∀ k, k < 5 → k ≠ i → k ≠ j → (ad k, W.listOf (vs k).toArray (ns k)) ∈ rest) : News g L h ((I', oI') :: (I, oI) :: roadsNews r ad vs ns) := fun q hq => by
  rcases List.mem_cons.mp hq with rfl | hq
  · exact N _ (.tail _ (.tail _ (.tail _ (.head _))))
  rcases List.mem_cons.mp hq with rfl | hq
  · exact N _ (.tail _ (.tail _ (.tail _ (.tail _ (.head _)))))
  rcases List.mem_cons.mp hq with rfl | hq
  · exact N _ (.tail _ (.tail _ (.head _)))
  obtain ⟨k, hk, rfl⟩ := List.mem_map.mp hq
  have hk5 : k < 5 := by simp at hk; omega
  by_cases h1 : k = i
  · subst h1; exact N _ (.head _)
  by_cases h2 : k = j
  · subst h2; exact N _ (.tail _ (.head _))
  exact N _ (.tail _ (.tail _ (.tail _ (.tail _ (.tail _ (rin k hk5 h1 h2))))))
theorem off_same {ad : Nat → Addr} {r I : Addr} {vs vs' : Nat → List Value} {ns ns' : Nat → Nat} (h : ∀ q ∈ roadsNews r ad vs ns, q.1 ≠ I) : ∀ q ∈ roadsNews r ad vs' ns', q.1 ≠ I := fun q hq => by
  rcases List.mem_cons.mp hq with rfl | hq
  · exact h _ (.head _)
  obtain ⟨k, hk, rfl⟩ := List.mem_map.mp hq
  exact h (ad k, W.listOf (vs k).toArray (ns k)) (.tail _ (List.mem_map.mpr ⟨k, hk, rfl⟩))
local macro_rules | `(tactic| walk_at "subscriptTail") => `(tactic| (refine' item_at (vs := roadRefs _) ?l ?v ?i ?_ ?hs; (case l => exact News.isList (by assumption) (n := 0) (by k_mem)); (case v => exact roadRefs_at _ (by assumption)); (case i => omega); (case hs => with_unfolding_all rfl)))
/-- the loop over the pairs, c of them behind it -/
def RoadsJ (r : Addr) (ad : Nat → Addr) (c : Nat) (m : Str → Option Value) (news : List (Addr × Obj)) : Prop :=
  m "roads" = some (.ref r) ∧ (∃ n t, m "number" = some (.int n t)) ∧ ∃ adj vs ns, news = roadsNews r ad vs ns ∧ RInv adj vs c
set_option maxHeartbeats 8000000 in
theorem roads_spec (X : (hd.heap_1 w.params).In h₀) (T : Top p loose mean mg mb h₀) (st : h₀.StaysIn s.heap) {n : Int} {tn : Tok}
    (hA : A.handled = none)
    (hdp : A.depth + 20 < recursionLimit) (hun : A.units + 100 < cLine)
    (hret : ∀ r ad adj vs ns h' tk', s.heap.StaysIn h' → RInv adj vs 25 → (∀ q ∈ roadsNews r ad vs ns, s.heap.get? q.1 = none ∧ h'.get? q.1 = some q.2) → Q (.ref r) { s with heap := h', toks := tk' }) :
    wpAny (model prog w) A (call (.ref 250) [.int n tn]) Q E s := by
  obtain ⟨hp, gn, dr, tkk, os⟩ := s
  obtain ⟨hdl, dp, frs, gds, un⟩ := A
  dsimp only at st hret hA hdp hun
  subst hA
  refine wpAny_call ?_
  k_dflt (refine' enterH [] ?X ?T ?st (fun _ h => nomatch h) ?ho ?hcd ?room ?bind ?loc ?cell ?c1 ?c2 ?c3 ?_; (case X => assumption); (case T => assumption); (case st => assumption); (case ho => k_is); (case hcd => k_is); (case room => ((try dsimp only); omega)); (case bind => first | exact BindsTo.of_eq rfl | exact binds_K (by exact Frag.In.keeps (by assumption) (by assumption)) rfl (by k_is) rfl rfl rfl); (case loc => exact locs rfl); (case cell => decide); (case c1 => exact rfl); (case c2 => exact rfl); (case c3 => exact rfl))
  intro g L' h₁ F' X' T' st' hg hn hk hL
  dsimp only at hg hk hL ⊢
  have N' := @News.nil g h₁ L'
  refine cut_ F' (fun m news => m "number" = some (.int n tn) ∧ ∃ r ad vs ns, m "roads" = some (.ref r) ∧ news = roadsNews r ad vs ns ∧ (∀ i, i < 5 → vs i = []) ∧ (∀ i j, i < 5 → j < 5 → ad i = ad j → i = j) ∧ (∀ i, i < 5 → @Ne Nat (ad i) r)) ?s1 ?r1
  case s1 =>
    repeat (first | (k_unfold; (try dsimp only)) | (walk1; (try dsimp only)))
    with_reducible rename Fr _ _ _ _ => F9
    with_reducible rename News _ _ _ _ => N9
    rename_i a0 _ _ a1 _ q1 a2 _ q2 a3 _ q3 a4 _ q4 r _ q5 _
    refine CutEnd.intro (news' := roadsNews r (adOf a0 a1 a2 a3 a4) (fun _ => []) (fun _ => 0)) F9 (news_sub N9 ?_) ⟨?_, r, adOf a0 a1 a2 a3 a4, fun _ => [], fun _ => 0, if_pos rfl, rfl, fun _ _ => rfl, (adOf_ne q1 q2 q3 q4 q5).1, (adOf_ne q1 q2 q3 q4 q5).2⟩
    · intro q hq
      simp only [List.map_cons, List.map_nil, List.mem_cons, List.not_mem_nil, or_false] at hq ⊢
      rcases hq with rfl | rfl | rfl | rfl | rfl | rfl
      · exact .inl rfl
      · exact .inr (.inr (.inr (.inr (.inr rfl))))
      · exact .inr (.inr (.inr (.inr (.inl rfl))))
      · exact .inr (.inr (.inr (.inl rfl)))
      · exact .inr (.inr (.inl rfl))
      · exact .inr (.inl rfl)
    · dsimp only
      rw [if_neg (by decide)]
      rfl
  clear N' F'
  intro h tk m news F1 N1 ⟨m1, r, ad, vs, ns, m2, hnews, hvs, hinj, hne⟩
  subst hnews
  dsimp only at F1 N1 ⊢
  refine cut_ F1 (RoadsJ r ad 25) ?s2 ?r2
  case s2 =>
    refine for_rangeX (g := g) rfl ?_ (by intro _; rfl) PassesOwn.never
    repeat (first | (k_unfold; (try dsimp only)) | (walk1; (try dsimp only)))
    rename IsRange _ _ _ _ _ _ _ _ => hR
    with_reducible rename Fr _ _ _ _ => F9
    with_reducible rename News _ _ _ _ => N9
    refine ⟨_, 0, 5, fun i => RoadsJ r ad (5 * i), rfl, ⟨rfl, ⟨_, _, _, hR⟩, ⟨by omega, by omega⟩, ⟨_, _, F9, N9, m2, ⟨n, tn, m1⟩, fun _ => [], vs, ns, rfl, ?startS2⟩, ?turnS2, ?doneS2⟩⟩
    case startS2 =>
      exact ⟨fun i hi => by rw [hvs i hi]; exact .nil, (fun _ _ _ h => nomatch h), (fun _ _ _ h => nomatch h), fun _ _ => Nat.zero_le _⟩
    case doneS2 =>
      intro h tk m news hJ F N
      exact CutEnd.intro F N hJ
    case turnS2 =>
      clear F9 N9 m1 m2 hR hvs
      rintro I oI i ti m news h tk hoI hi ⟨m1, ⟨n1, t1, m2⟩, adj, vs, ns, rfl, hI⟩ hoff F1 N1
      rw [Int.zero_add]
      iterate 2 (first | (k_unfold; (try dsimp only)) | (walk1; (try dsimp only)))
      with_reducible rename Fr _ _ _ _ => F2
      with_reducible rename News _ _ _ _ => N2
      obtain ⟨M1, F3, m1', m2', m3'⟩ : ∃ M1, Fr g L' _ M1 ∧ M1 "roads" = some (.ref r) ∧ M1 "number" = some (.int n1 t1) ∧ M1 "i" = some (.int ((i : Nat) : Int) ti) := ⟨_, F2, by walk_at "m_fact", by walk_at "m_fact", if_pos rfl⟩
      clear F2 F1 N1 m1 m2
      refine cut_ F3 (fun m news => ∃ news', news = (I, oI) :: news' ∧ (∀ p ∈ news', p.1 ≠ I) ∧ RoadsJ r ad (5 * i + (4 - i)) m news' ∧ m "i" = some (.int ((i : Nat) : Int) ti)) ?v1S2 ?x1S2
      case v1S2 =>
        refine for_rangeX (g := g) rfl ?_ (by intro _; rfl) PassesOwn.never
        repeat (first | (k_unfold; (try dsimp only)) | (walk1; (try dsimp only)))
        rename IsRange _ _ _ _ _ _ _ _ => hR
        with_reducible rename Fr _ _ _ _ => F9
        with_reducible rename News _ _ _ _ => N9
        refine ⟨_, (i : Int) + 1, 4 - i, fun j m news => ∃ news', news = (I, oI) :: news' ∧ (∀ p ∈ news', p.1 ≠ I) ∧ RoadsJ r ad (5 * i + j) m news' ∧ m "i" = some (.int ((i : Nat) : Int) ti), rfl, ⟨rfl, ⟨_, _, _, by rw [show ((i : Int) + 1) + ((4 - i : Nat) : Int) = 5 by omega]; exact hR⟩, ⟨by omega, by omega⟩, ⟨_, _, F9, N9, _, rfl, hoff, ⟨m1', ⟨_, _, m2'⟩, adj, vs, ns, rfl, hI⟩, m3'⟩, ?turn2S2, ?done2S2⟩⟩
        case done2S2 =>
          intro h tk m news hJ F N
          exact CutEnd.intro F N hJ
        case turn2S2 =>
          clear F9 N9 hR m1' m2' m3'
          (try clear F3); (try clear N2)
          rintro I' oI' j' tj m news h tk hoI' hj ⟨_, rfl, hoff1, ⟨m1, ⟨n2, t2, m2⟩, adj, vs, ns, rfl, hI⟩, m3⟩ hoff' F1 N1
          generalize hjd : i + 1 + j' = j
          rw [show ((i : Int) + 1 + (j' : Int)) = ((j : Nat) : Int) by omega]
          have hj5 : j < 5 := by omega
          have hij : i ≠ j := by omega
          have hdj : @Ne Nat (ad j) (ad i) := fun q => hij (hinj i j hi hj5 q.symm)
          have hdi : @Ne Nat (ad i) (ad j) := fun q => hij (hinj i j hi hj5 q)
          have hIi : ∀ k, k < 5 → @Ne Nat I (ad k) := fun k hk q => hoff1 _ (roads_mem hk) q.symm
          have hI'i : ∀ k, k < 5 → @Ne Nat I' (ad k) := fun k hk q => hoff' _ (.tail _ (roads_mem hk)) q.symm
          have hri : ∀ k, k < 5 → @Ne Nat r (ad k) := fun k hk q => hne k hk q.symm
          obtain ⟨rest, hrest⟩ : ∃ rest, rest = ([0, 1, 2, 3, 4].filter fun k => k != i && k != j).map fun k => (ad k, W.listOf (vs k).toArray (ns k)) := ⟨_, rfl⟩
          have rmem : ∀ q ∈ rest, ∃ k, k < 5 ∧ k ≠ i ∧ k ≠ j ∧ q = (ad k, W.listOf (vs k).toArray (ns k)) := fun q hq => by
            rw [hrest] at hq
            obtain ⟨k, hk, rfl⟩ := List.mem_map.mp hq
            have := List.mem_filter.mp hk
            simp at this
            exact ⟨k, by omega, this.2.1, this.2.2, rfl⟩
          have rin : ∀ k, k < 5 → k ≠ i → k ≠ j → (ad k, W.listOf (vs k).toArray (ns k)) ∈ rest := fun k hk ki kj => by
            rw [hrest]
            refine List.mem_map.mpr ⟨k, List.mem_filter.mpr ⟨?_, ?_⟩, rfl⟩
            · simp; omega
            · simp [ki, kj]
          have N2 : News g L' h ((ad i, W.listOf (vs i).toArray (ns i)) :: (ad j, W.listOf (vs j).toArray (ns j)) :: (r, W.listOf (roadRefs ad).toArray 0) :: (I', oI') :: (I, oI) :: rest) := fun q hq => by
            rcases List.mem_cons.mp hq with rfl | hq
            · exact N1 _ (.tail _ (.tail _ (roads_mem hi)))
            rcases List.mem_cons.mp hq with rfl | hq
            · exact N1 _ (.tail _ (.tail _ (roads_mem hj5)))
            rcases List.mem_cons.mp hq with rfl | hq
            · exact N1 _ (.tail _ (.tail _ (.head _)))
            rcases List.mem_cons.mp hq with rfl | hq
            · exact N1 _ (.head _)
            rcases List.mem_cons.mp hq with rfl | hq
            · exact N1 _ (.tail _ (.head _))
            obtain ⟨k, hk, _, _, rfl⟩ := rmem q hq
            exact N1 _ (.tail _ (.tail _ (roads_mem hk)))
          have hrest' : ∀ x, x < 5 → (x = i ∨ x = j) → ∀ q ∈ rest, q.1 ≠ ad x := fun x hx hxx q hq e => by
            obtain ⟨k, hk, ki, kj, rfl⟩ := rmem q hq
            have := hinj k x hk hx e
            rcases hxx with rfl | rfl
            · exact ki this
            · exact kj this
          have hai : ∀ q ∈ (ad j, W.listOf (vs j).toArray (ns j)) :: (r, W.listOf (roadRefs ad).toArray 0) :: (I', oI') :: (I, oI) :: rest, q.1 ≠ ad i :=
            allNe_cons hdj (allNe_cons (hri i hi) (allNe_cons (hI'i i hi) (allNe_cons (hIi i hi) (hrest' i hi (.inl rfl)))))
          have haj : ∀ q ∈ (r, W.listOf (roadRefs ad).toArray 0) :: (I', oI') :: (I, oI) :: rest, q.1 ≠ ad j :=
            allNe_cons (hri j hj5) (allNe_cons (hI'i j hj5) (allNe_cons (hIi j hj5) (hrest' j hj5 (.inr rfl))))
          have hvi := hI.nums i hi
          have hvj := hI.nums j hj5
          have hli := hI.len i hi
          have hlj := hI.len j hj5
          clear N1 hrest
          repeat (first | (k_unfold; (try dsimp only)) | (walk1; (try dsimp only)))
          all_goals repeat (first | (k_unfold; (try dsimp only)) | (walk1; (try dsimp only)))
          · with_reducible rename Fr _ _ _ _ => F9
            with_reducible rename News _ _ _ _ => N9
            rw [List.push_toArray] at N9
            have e1 : addTo (addTo vs i (.int (j : Int) tj)) j (.int (i : Int) ti) i = vs i ++ [.int (j : Int) tj] := by simp [addTo, hij]
            have e2 : addTo (addTo vs i (.int (j : Int) tj)) j (.int (i : Int) ti) j = vs j ++ [.int (i : Int) ti] := by simp [addTo, Ne.symm hij]
            have N10 := @roads_back g _ L' r I I' oI oI' ad (addTo (addTo vs i (.int (j : Int) tj)) j (.int (i : Int) ti)) (fun k => if k = i then ns i + 1 else if k = j then ns j + 1 else ns k) i j rest (by rw [e1, e2, if_pos rfl, if_neg (Ne.symm hij), if_pos rfl]; exact N9) (fun k hk ki kj => by simpa [addTo, ki, kj] using rin k hk ki kj)
            refine TurnEnd.next F9 N10 (fun q hq => ?_) ⟨_, rfl, off_same hoff1, ⟨by walk_at "m_fact", ⟨_, _, if_pos rfl⟩, _, _, _, rfl, hI.add hi hj5 hij⟩, by walk_at "m_fact"⟩
            rcases List.mem_cons.mp hq with rfl | hq
            · exact hoff' _ (.head _)
            · exact off_same (fun q hq => hoff' q (.tail _ hq)) q hq
          · with_reducible rename Fr _ _ _ _ => F9
            with_reducible rename News _ _ _ _ => N9
            exact TurnEnd.next F9 (roads_back N9 rin) hoff' ⟨_, rfl, hoff1, ⟨by walk_at "m_fact", ⟨_, _, if_pos rfl⟩, adj, vs, ns, rfl, hI.mono (by omega)⟩, by walk_at "m_fact"⟩
      clear F3 N2 m1' m2' m3'
      intro h tk m news F1 N1 ⟨news', hnews, hoff1, hJ, m3⟩
      subst hnews
      repeat (first | (k_unfold; (try dsimp only)) | (walk1; (try dsimp only)))
      with_reducible rename Fr _ _ _ _ => F9
      with_reducible rename News _ _ _ _ => N9
      obtain ⟨m1, m2, adj, vs, ns, rfl, hI⟩ := hJ
      exact TurnEnd.next F9 N9 hoff1 ⟨m1, m2, adj, vs, ns, rfl, hI.mono (by omega)⟩
  clear F1 N1 m1 m2
  intro h tk m news F1 N1 ⟨m1, m2, adj, vs, ns, hnews, hI⟩
  subst hnews
  repeat (first | (k_unfold; (try dsimp only)) | (walk1; (try dsimp only)))
  with_reducible rename Fr _ _ _ _ => F9
  with_reducible rename News _ _ _ _ => N9
  exact hret r ad adj vs ns _ _ (stays_of hg F9) hI fun q hq => ⟨fresh_of hg (N9 q hq).2.2 (fun h => nomatch h), (N9 q hq).1⟩
local macro_rules | `(tactic| walk_at "call builtin:min") => `(tactic| refine stop_ ?_)
local macro_rules | `(tactic| walk_at "eval ListComp") => `(tactic| refine stop_ ?_)
local macro_rules | `(tactic| walk_at "exec Assign cons ListComp") => `(tactic| refine stop_ ?_)
local macro_rules | `(tactic| walk_at "compareOp Eq ref ref") => `(tactic| (refine' eq_empty ?hl ?hb ?hu ?_; (case hl => is_list); (case hb => is_list); (case hu => walk_at "m_room")))
local macro_rules | `(tactic| walk_at "compareOp NotEq ref ref") => `(tactic| (refine' ne_empty ?hl ?hb ?hu ?_; (case hl => is_list); (case hb => is_list); (case hu => walk_at "m_room")))
local macro_rules | `(tactic| walk_at "call ref") => `(tactic| (refine' reply_spec ?hX ?hT ?h0 ?hA ?h1 ?h3 ?h4 ?_; (case hT => assumption); (case hX => assumption); (case h0 => exact Fr.keep (by assumption)); (case hA => exact rfl); (case h1 => first | omega | assumption); (case h3 => walk_at "m_room"); (case h4 => walk_at "m_room"); intro _; walk_at "m_kept"))
local macro_rules | `(tactic| walk_at "subscriptTail") => `(tactic| (refine' item_at ?l ?v ?i ?_ ?hs; (case v => assumption); (case l => is_list); (case i => omega); (case hs => with_unfolding_all rfl)))
theorem c_dot1 : Str.ofString "." = lit (List.replicate 1 46) := c_dot
theorem r_addReply {x : Str} {n p : Nat} {t u : Tok} (hx : x = lit (List.replicate n 46)) (hn : n ≤ 1000) (hp : p < 65536) (h : ∀ t' k, Q (.str (row n p) t') { s with toks := k }) :
    wpAny (model prog w) A (binaryOp .Add (.str x t) (.str (reply p) u)) Q E s := by
  have e := digs_len hp
  refine r_add hx (reply_lit p) (by rw [List.length_replicate, replyL_len]; omega) fun t' k => ?_
  have h' := h t' k
  rw [row_lit] at h'
  exact h'
theorem r_mul1 {x : Str} {n : Nat} {t u : Tok} (hx : x = lit [46]) (hn : n ≤ 1000) (h : ∀ t' k, Q (.str (lit (List.replicate (n + 1) 46)) t') { s with toks := k }) :
    wpAny (model prog w) A (binaryOp .Mult (.int ((n : Int) + 1) u) (.str x t)) Q E s := by
  exact r_mul (n := n + 1) hx (by omega) h
local macro_rules | `(tactic| walk_at "binaryOp Mult int str") => `(tactic| (refine r_mul1 (by exact c_dot) (by omega) ?_; intro _ _; (try dsimp only)))
local macro_rules | `(tactic| walk_at "binaryOp Add str str") => `(tactic| (refine r_addReply (by first | exact c_dot1 | rfl) (by omega) (by first | omega | assumption) ?_; intro _ _; (try dsimp only)))
theorem reply0_spec (X : (hd.heap_1 w.params).In h₀) (T : Top p loose mean mg mb h₀) (st : h₀.StaysIn s.heap) {tp : Tok}
    (hA : A.handled = none) (hdp : A.depth + 20 < recursionLimit) (hun : A.units + 100 < cLine)
    (hret : ∀ t h' tk', s.heap.StaysIn h' → Q (.str (reply 0) t) { s with heap := h', toks := tk' }) :
    wpAny (model prog w) A (call (.ref 243) [.int 0 tp]) Q E s :=
  reply_spec (port := 0) X T st hA (by omega) hdp hun hret
local macro_rules | `(tactic| walk_at "call ref") => `(tactic| (refine' reply0_spec ?hX ?hT ?h0 ?hA ?h3 ?h4 ?_; (case hT => assumption); (case hX => assumption); (case h0 => exact Fr.keep (by assumption)); (case hA => exact rfl); (case h3 => walk_at "m_room"); (case h4 => walk_at "m_room"); intro _; walk_at "m_kept"))
local macro_rules | `(tactic| walk_at "compareOp In int ref") => `(tactic| (refine' in_ints ?hl ?hv ?_; (case hv => assumption); (case hl => is_list)))
theorem ints_nil {vs : List Value} {ns : List Nat} (h : IntsAre vs (ns.map fun k => ((k : Nat) : Int))) : (vs.toArray.size == 0) = true ↔ ns = [] := by
  have e := h.length
  rw [List.length_map] at e
  rw [List.size_toArray, beq_iff_eq]
  constructor
  · intro q; exact List.length_eq_zero_iff.mp (by omega)
  · intro q; rw [q] at e; simpa using e
def nbr (adj : Nat → List Nat) (j : Nat) : Value → Bool
  | .int a _ => decide (j ∈ adj a.toNat)
  | _ => false
theorem ints_mem : ∀ {vs : List Value} {ns : List Nat} {v : Value}, IntsAre vs (ns.map fun k => ((k : Nat) : Int)) → v ∈ vs → ∃ i ∈ ns, ∃ t, v = .int ((i : Nat) : Int) t
  | [], _, _, _, hv => nomatch hv
  | _ :: _, [], _, h, _ => nomatch h
  | _ :: _, n :: ns, v, h, hv => by
    cases h with
    | cons _ t h =>
      rcases List.mem_cons.mp hv with rfl | hv
      · exact ⟨n, .head _, t, rfl⟩
      · obtain ⟨i, hi, t, e⟩ := ints_mem h hv
        exact ⟨i, .tail _ hi, t, e⟩
theorem cast_mem {j : Nat} {ns : List Nat} : ((j : Nat) : Int) ∈ ns.map (fun k => ((k : Nat) : Int)) ↔ j ∈ ns := by
  constructor
  · intro h
    obtain ⟨x, hx, e⟩ := List.mem_map.mp h
    have : x = j := by omega
    exact this ▸ hx
  · intro h; exact List.mem_map.mpr ⟨j, h, rfl⟩
theorem nbr_dec (adj : Nat → List Nat) (i j : Nat) (ti : Tok) : decide (((j : Nat) : Int) ∈ (adj i).map fun k => ((k : Nat) : Int)) = nbr adj j (.int ((i : Nat) : Int) ti) :=
  decide_eq_decide.mpr cast_mem
theorem paired_len {F : Value → Value → Prop} : ∀ {l1 l2 : List Value}, Paired F l1 l2 → l1.length = l2.length
  | _, _, .nil => rfl
  | _, _, .cons _ t => by rw [List.length_cons, List.length_cons, paired_len t]
theorem nbr_any {adj : Nat → List Nat} {j : Nat} : ∀ {vs : List Value} {ns : List Nat}, IntsAre vs (ns.map fun k => ((k : Nat) : Int)) → (!((vs.filter (nbr adj j)).length == 0)) = ns.any fun i => decide (j ∈ adj i)
  | [], [], _ => rfl
  | [], _ :: _, h => nomatch h
  | _ :: _, [], h => nomatch h
  | _ :: _, n :: ns, h => by
    cases h with
    | cons _ t h =>
      have ih := nbr_any (adj := adj) (j := j) h
      rw [List.filter_cons, List.any_cons, ← ih]
      by_cases q : j ∈ adj n
      · have e : nbr adj j (.int ((n : Nat) : Int) t) = true := decide_eq_true q
        rw [if_pos e, decide_eq_true q]
        simp
      · have e : nbr adj j (.int ((n : Nat) : Int) t) = false := decide_eq_false q
        rw [if_neg (by rw [e]; decide), decide_eq_false q, Bool.false_or]
theorem nbr_out {F : Value → Value → Prop} {adj : Nat → List Nat} {j : Nat} {vs : List Value} {ns : List Nat} {ys : Array Value} (h : IntsAre vs (ns.map fun k => ((k : Nat) : Int))) (hP : Paired F (vs.filter (nbr adj j)) ys.toList) :
    (!(ys.size == 0)) = ns.any fun i => decide (j ∈ adj i) := by
  rw [← nbr_any h, paired_len hP, Array.length_toList]
theorem filter_all (l : List Value) : l.filter (fun _ => true) = l := List.filter_eq_self.mpr fun _ _ => rfl
theorem paired_claims {cl : Nat → Nat} : ∀ {vs ys : List Value} {ns : List Nat}, IntsAre vs (ns.map fun k => ((k : Nat) : Int)) → Paired (fun v y => ∃ i : Nat, ∃ t1 t2, v = .int ((i : Nat) : Int) t1 ∧ y = .int ((cl i : Nat) : Int) t2) vs ys → IntsAre ys (ns.map fun i => ((cl i : Nat) : Int))
  | [], _, [], _, .nil => .nil
  | [], _, _ :: _, h, _ => nomatch h
  | _ :: _, _, [], h, _ => nomatch h
  | _ :: _, _, n :: ns, h, .cons e p => by
    obtain ⟨i, t1, t2, e1, e2⟩ := e
    cases h with
    | cons _ t h =>
      have q : ((n : Nat) : Int) = ((i : Nat) : Int) := by cases e1; rfl
      have : n = i := by omega
      subst this
      rw [e2]
      exact .cons _ _ (paired_claims h p)
theorem ends_len (adj : Nat → List Nat) (k : Nat) : ∀ s, (ends adj k s).length ≤ 5
  | 0 => by simp [ends]
  | s + 1 => by
    have := List.length_filter_le (fun j => (ends adj k s).any fun i => decide (j ∈ adj i)) (List.range 5)
    rw [List.length_range] at this
    exact this
/-- how a statement ends that may leave the function -/
def CutOr (Q : Flow → Shared → Prop) (g : Heap) (L : Addr) (s : Shared) (P : (Str → Option Value) → List (Addr × Obj) → Prop) (f : Flow) (s' : Shared) : Prop :=
  match f with
  | .next => ∃ h' tk' m' news', s' = { s with heap := h', toks := tk' } ∧ Fr g L h' m' ∧ News g L h' news' ∧ P m' news'
  | f => Q f s'
theorem CutOr.intro {Q : Flow → Shared → Prop} {g h' : Heap} {L : Addr} {s : Shared} {P : (Str → Option Value) → List (Addr × Obj) → Prop} {tk : Nat} {m' : Str → Option Value} {news' : List (Addr × Obj)} (F : Fr g L h' m') (N : News g L h' news') (p : P m' news') :
    CutOr Q g L s P .next { s with heap := h', toks := tk } := ⟨_, _, _, _, rfl, F, N, p⟩
theorem cutOr_ {M : Model} {S : Stmt} {rest : List Stmt} {env : Env} {g : Heap} {L : Addr} {Q : Flow → Shared → Prop} {E : Value → Shared → Prop} {h : Heap} {m : Str → Option Value} (F : Fr g L h m) (P : (Str → Option Value) → List (Addr × Obj) → Prop)
    (h1 : wpAny M A (exec S env) (CutOr Q g L s P) E s)
    (h2 : ∀ h' tk m' news', Fr g L h' m' → News g L h' news' → P m' news' → wpAny M A (execs rest env) Q E { s with heap := h', toks := tk }) : wpAny M A (execs (S :: rest) env) Q E s := by
  refine wpAny_execs_cons (wpAny_mono h1 (fun f s' hf => ?_) fun _ _ e => e)
  cases f with
  | next =>
    obtain ⟨h', tk, m', news', rfl, F, N, p⟩ := hf
    exact h2 h' tk m' news' F N p
  | ret v => exact hf
  | brk => exact hf
  | cont => exact hf
/-- the claims: what number stands at each place -/
def ClaimsAre (cvs : List Value) (cl : Nat → Nat) : Prop := ∀ i, i < 5 → ∃ t, cvs[i]? = some (.int ((cl i : Nat) : Int) t)
/-- the loop over the steps, s of them behind it -/
def DueJ (L' : Nat) (ca r : Addr) (cvs : List Value) (nc : Nat) (ad : Nat → Addr) (rs : List (Addr × Obj)) (or oc : Obj) (adj : Nat → List Nat) (k t : Nat) (uk ut : Tok) (s : Nat) (m : Str → Option Value) (news : List (Addr × Obj)) : Prop :=
  m "k" = some (.int (k : Int) uk) ∧ m "t" = some (.int (t : Int) ut) ∧ ∃ e oe ne evs, oe.data = .cell (some (.ref e)) ∧ IntsAre evs ((ends adj k (min s t)).map fun k => ((k : Nat) : Int)) ∧ (∀ s', s' < s → 0 ∉ ends adj k s') ∧ @Ne Nat e (L' + 1 + 1 + 1) ∧
    news = (e, W.listOf evs.toArray ne) :: (L' + 1 + 1 + 1, oe) :: (L' + 1 + 1, or) :: (L' + 1, oc) :: (ca, W.listOf cvs.toArray nc) :: (r, W.listOf (roadRefs ad).toArray 0) :: rs
set_option maxHeartbeats 8000000 in
theorem due_spec (X : (hd.heap_1 w.params).In h₀) (T : Top p loose mean mg mb h₀) (st : h₀.StaysIn s.heap) {ca r : Addr} {cvs : List Value} {nc : Nat} {cl : Nat → Nat} {ad : Nat → Addr} {adj : Nat → List Nat} {vs : Nat → List Value} {ns : Nat → Nat} {rs : List (Addr × Obj)} {k t : Nat} {uk ut : Tok}
    (hA : A.handled = none) (hB : ∀ q ∈ (ca, W.listOf cvs.toArray nc) :: (r, W.listOf (roadRefs ad).toArray 0) :: rs, s.heap.get? q.1 = some q.2) (hoff : ∀ a ∈ ((ca, W.listOf cvs.toArray nc) :: (r, W.listOf (roadRefs ad).toArray 0) :: rs).map (·.1), h₀.get? a = none)
    (hrs : ∀ i, i < 5 → (ad i, W.listOf (vs i).toArray (ns i)) ∈ rs) (hcv : ClaimsAre cvs cl) (hcl : ∀ i, i < 5 → cl i < 65536) (hI : RInv adj vs 25) (hk5 : k < 5) (ht4 : t ≤ 4)
    (hdp : A.depth + 60 < recursionLimit) (hun : A.units + 300 < cLine)
    (hret : ∀ d pt tr h' tk', s.heap.StaysIn h' → Due adj cl k t d pt → Q (.str (row d pt) tr) { s with heap := h', toks := tk' }) :
    wpAny (model prog w) A (call (.ref 260) [.ref ca, .ref r, .int (k : Int) uk, .int (t : Int) ut]) Q E s := by
  obtain ⟨hp, gn, dr, tkk, os⟩ := s
  obtain ⟨hdl, dp, frs, gds, un⟩ := A
  dsimp only at st hret hB hA hdp hun
  subst hA
  refine wpAny_call ?_
  k_dflt (refine' enterC _ ?X ?T ?st ?ht ?hh ?ho ?hcd ?room ?bind ?kind ?nd ?c1 ?c2 ?c3 ?_; (case X => assumption); (case T => assumption); (case st => assumption); (case ht => assumption); (case ho => k_is); (case hcd => k_is); (case room => ((try dsimp only); omega)); (case bind => first | exact BindsTo.of_eq rfl | exact binds_K (by exact Frag.In.keeps (by assumption) (by assumption)) rfl (by k_is) rfl rfl rfl); (case kind => exact rfl); (case nd => decide +kernel); (case c1 => exact rfl); (case c2 => exact rfl); (case c3 => exact rfl); (case hh => assumption))
  intro g L' h₁ tk₁ cells F' X' T' st' hg hn hk hL N' Y' hlt
  k_cells Y'
  (try simp only [List.cons_append, List.nil_append] at N')
  dsimp only at hg hk hL ⊢
  have hB' := hB
  generalize hM : (bindL _ _ _ : Str → Option Value) = M₀ at F'
  have m1 : M₀ "k" = some (.int (k : Int) uk) := by rw [← hM]; rfl
  have m2 : M₀ "t" = some (.int (t : Int) ut) := by rw [← hM]; rfl
  clear hM
  rename (Obj.data _ = Data.cell _) => e3
  revert e3
  rename (Obj.data _ = Data.cell _) => e2
  revert e2
  rename (Obj.data _ = Data.cell _) => e1
  intro e2 e3
  obtain ⟨oe, or, oc, N1, de, dr', dc⟩ : ∃ oe or oc, News g L' h₁ ((L' + 1 + 1 + 1, oe) :: (L' + 1 + 1, or) :: (L' + 1, oc) :: (ca, W.listOf cvs.toArray nc) :: (r, W.listOf (roadRefs ad).toArray 0) :: rs) ∧ oe.data = .cell none ∧ or.data = .cell (some (.ref r)) ∧ oc.data = .cell (some (.ref ca)) := ⟨_, _, _, N', e1, e2, e3⟩
  clear e1 e2 e3 N'
  have hca : @Ne Nat ca (L' + 1 + 1 + 1) := Nat.ne_of_lt (Nat.lt_succ_of_lt (Nat.lt_succ_of_lt (Nat.lt_succ_of_lt (hlt _ (.head _)))))
  have hr3 : @Ne Nat r (L' + 1 + 1 + 1) := Nat.ne_of_lt (Nat.lt_succ_of_lt (Nat.lt_succ_of_lt (Nat.lt_succ_of_lt (hlt _ (.tail _ (.head _))))))
  have hrs3 : ∀ q ∈ rs, q.1 ≠ (L' + 1 + 1 + 1 : Nat) := fun q hq => Nat.ne_of_lt (Nat.lt_succ_of_lt (Nat.lt_succ_of_lt (Nat.lt_succ_of_lt (hlt q (.tail _ (.tail _ hq))))))
  have fin : ∀ (h' : Heap) (m' : Str → Option Value) (pre : List (Addr × Obj)), Fr g L' h' m' → News g L' h' (pre ++ (ca, W.listOf cvs.toArray nc) :: (r, W.listOf (roadRefs ad).toArray 0) :: rs) → hp.StaysIn h' := fun h' m' pre F N =>
    stays_news hB' hg F N fun q hq => List.mem_append.mpr (.inr hq)
  refine cutOr_ F' (fun m news => m "k" = some (.int (k : Int) uk) ∧ m "t" = some (.int (t : Int) ut) ∧ adj k ≠ [] ∧ news = (L' + 1 + 1 + 1, oe) :: (L' + 1 + 1, or) :: (L' + 1, oc) :: (ca, W.listOf cvs.toArray nc) :: (r, W.listOf (roadRefs ad).toArray 0) :: rs) ?s1 ?r1
  case s1 =>
    have N2 : News g L' h₁ ((ad k, W.listOf (vs k).toArray (ns k)) :: (L' + 1 + 1 + 1, oe) :: (L' + 1 + 1, or) :: (L' + 1, oc) :: (ca, W.listOf cvs.toArray nc) :: (r, W.listOf (roadRefs ad).toArray 0) :: rs) := fun q hq => by
      rcases List.mem_cons.mp hq with rfl | hq
      · exact N1 _ (.tail _ (.tail _ (.tail _ (.tail _ (.tail _ (hrs k hk5))))))
      · exact N1 q hq
    obtain ⟨tc, hck⟩ := hcv k hk5
    have hclk := hcl k hk5
    clear N1
    repeat (first | (k_unfold; (try dsimp only)) | (walk1; (try dsimp only)))
    all_goals repeat (first | (k_unfold; (try dsimp only)) | (walk1; (try dsimp only)))
    · rename (_ == _) = true => hz
      with_reducible rename Fr _ _ _ _ => F9
      with_reducible rename News _ _ _ _ => N9
      have hz' := (ints_nil (hI.nums k hk5)).mp hz
      exact hret 1 (cl k) _ _ _ (fin _ _ [_, _, _, _, _] F9 N9) (.inl ⟨hz', rfl, rfl⟩)
    · rename (_ == _) = false => hz
      with_reducible rename Fr _ _ _ _ => F9
      with_reducible rename News _ _ _ _ => N9
      exact CutOr.intro F9 (news_sub N9 fun q hq => .tail _ (.tail _ hq)) ⟨m1, m2, (fun q => by rw [(ints_nil (hI.nums k hk5)).mpr q] at hz; cases hz), rfl⟩
  clear F' N1 m1 m2
  intro h tk m news F1 N1 ⟨m1, m2, hne, hnews⟩
  subst hnews
  dsimp only at F1 N1 ⊢
  refine cutOr_ F1 (fun m news => m "k" = some (.int (k : Int) uk) ∧ m "t" = some (.int (t : Int) ut) ∧ ∃ e oe ne, oe.data = .cell (some (.ref e)) ∧ @Ne Nat e (L' + 1 + 1 + 1) ∧ news = (e, W.listOf [.int (k : Int) uk].toArray ne) :: (L' + 1 + 1 + 1, oe) :: (L' + 1 + 1, or) :: (L' + 1, oc) :: (ca, W.listOf cvs.toArray nc) :: (r, W.listOf (roadRefs ad).toArray 0) :: rs) ?s2 ?r2
  case s2 =>
    repeat (first | (k_unfold; (try dsimp only)) | (walk1; (try dsimp only)))
    with_reducible rename Fr _ _ _ _ => F9
    with_reducible rename News _ _ _ _ => N9
    rename (Obj.data _ = Data.cell _) => dn
    rename (_ < _ ∧ _) => l1
    exact CutOr.intro F9 N9 ⟨m1, m2, _, _, _, dn, Nat.ne_of_gt l1.1, rfl⟩
  clear F1 N1 m1 m2 de
  intro h tk m news F1 N1 ⟨m1, m2, e, oe, ne, de, he3, hnews⟩
  subst hnews
  dsimp only at F1 N1 ⊢
  refine cutOr_ F1 (DueJ L' ca r cvs nc ad rs or oc adj k t uk ut (t + 1)) ?s3 ?r3
  case s3 =>
    refine for_rangeX (g := g) rfl ?_ (by intro _; rfl) PassesOwn.never
    repeat (first | (k_unfold; (try dsimp only)) | (walk1; (try dsimp only)))
    rename IsRange _ _ _ _ _ _ _ _ => hR
    with_reducible rename Fr _ _ _ _ => F9
    with_reducible rename News _ _ _ _ => N9
    refine ⟨_, 0, t + 1, DueJ L' ca r cvs nc ad rs or oc adj k t uk ut, rfl, ⟨rfl, ⟨_, _, _, by rw [show (0 : Int) + ((t + 1 : Nat) : Int) = (t : Int) + 1 by omega]; exact hR⟩, ⟨by omega, by omega⟩, ⟨_, _, F9, N9, m1, m2, e, oe, ne, _, de, by rw [Nat.zero_min]; exact .cons _ _ .nil, (fun s' h => absurd h (Nat.not_lt_zero _)), he3, rfl⟩, ?turnS3, ?doneS3⟩⟩
    case doneS3 =>
      intro h tk m news hJ F N
      exact CutOr.intro F N hJ
    case turnS3 =>
      clear F9 N9 hR m1 m2 de he3
      rintro I oI s ts m news h tk hoI hs ⟨m1, m2, e, oe, ne, evs, de, hev, hno, he3, rfl⟩ hoff F1 N1
      rw [Int.zero_add]
      have hst : s ≤ t := by omega
      rw [Nat.min_eq_left hst] at hev
      iterate 2 (first | (k_unfold; (try dsimp only)) | (walk1; (try dsimp only)))
      with_reducible rename Fr _ _ _ _ => F2
      with_reducible rename News _ _ _ _ => N2
      obtain ⟨M1, F3, m1', m2', m3'⟩ : ∃ M1, Fr g L' _ M1 ∧ M1 "k" = some (.int (k : Int) uk) ∧ M1 "t" = some (.int (t : Int) ut) ∧ M1 "s" = some (.int (s : Int) ts) := ⟨_, F2, by walk_at "m_fact", by walk_at "m_fact", if_pos rfl⟩
      clear F2 m1 m2
      (try clear F1); (try clear N1)
      have hI3 : @Ne Nat I (L' + 1 + 1 + 1) := fun q => hoff (L' + 1 + 1 + 1, oe) (.tail _ (.head _)) q.symm
      refine cutOr_ F3 (fun m news => m "k" = some (.int (k : Int) uk) ∧ m "t" = some (.int (t : Int) ut) ∧ m "s" = some (.int (s : Int) ts) ∧ 0 ∉ ends adj k s ∧ news = (I, oI) :: (e, W.listOf evs.toArray ne) :: (L' + 1 + 1 + 1, oe) :: (L' + 1 + 1, or) :: (L' + 1, oc) :: (ca, W.listOf cvs.toArray nc) :: (r, W.listOf (roadRefs ad).toArray 0) :: rs) ?v1S3 ?x1S3
      case v1S3 =>
        repeat (first | (k_unfold; (try dsimp only)) | (walk1; (try dsimp only)))
        all_goals repeat (first | (k_unfold; (try dsimp only)) | (walk1; (try dsimp only)))
        · rename (_ ∈ List.map _ _) => h0
          with_reducible rename Fr _ _ _ _ => F9
          with_reducible rename News _ _ _ _ => N9
          have h0' : 0 ∈ ends adj k s := by
            obtain ⟨x, hx, ex⟩ := List.mem_map.mp h0
            have : x = 0 := by omega
            exact this ▸ hx
          exact hret (s + 1) 0 _ _ _ (fin _ _ [_, _, _, _, _] F9 N9) (.inr ⟨hne, .inl ⟨s, hst, h0', hno, rfl, rfl⟩⟩)
        · rename (¬ _ ∈ List.map _ _) => h0
          exact CutOr.intro F3 N2 ⟨m1', m2', m3', fun h => h0 (List.mem_map.mpr ⟨0, h, rfl⟩), rfl⟩
      (try clear F3); (try clear N2)
      clear m1' m2' m3'
      intro h tk m news F1 N1 ⟨m1, m2, m3, h0, hnews⟩
      subst hnews
      dsimp only at F1 N1 ⊢
      have hno' : ∀ s', s' < s + 1 → 0 ∉ ends adj k s' := fun s' h => by
        by_cases q : s' = s
        · rw [q]; exact h0
        · exact hno s' (by omega)
      repeat (first | (k_unfold; (try dsimp only)) | (walk1; (try dsimp only)))
      all_goals repeat (first | (k_unfold; (try dsimp only)) | (walk1; (try dsimp only)))
      · rename (_ < _) => hlt2
        rename IntsAre _ _ => hev
        have hst2 : s + 1 ≤ t := by omega
        unfold Stop
        refine wpAny_Assign_Name ?_
        repeat (first | (k_unfold; (try dsimp only)) | (walk1; (try dsimp only)))
        unfold Stop
        refine' comp_rangeC ?hhS32 ?hclosS32 ?hkindS32 ?hnamesS32 ?hcfS32 ?hpcS32 ?hxS32 ?hxdS32 ?_ ?hsS32
        case hsS32 => intro _; rfl
        case hhS32 => exact rfl
        case hclosS32 => with_unfolding_all rfl
        case hkindS32 => rfl
        case hnamesS32 => decide
        case hcfS32 => intro n; rfl
        case hpcS32 => intro h; rfl
        case hxS32 => rfl
        case hxdS32 => decide
        repeat (first | (k_unfold; (try dsimp only)) | (walk1; (try dsimp only)))
        rename IsRange _ _ _ _ _ _ _ _ => hR
        with_reducible rename Fr _ _ _ _ => F9
        with_reducible rename News _ _ _ _ => N9
        refine ⟨_, 5, fun j => (ends adj k s).any fun i => decide (j ∈ adj i), rfl, ⟨⟨_, _, _, hR⟩, by omega, ?testsS32, ?outS32⟩⟩
        case testsS32 =>
          intro C K j tj s₃ m₃ E' hj hK hn₃ hc₃ hk₃
          obtain ⟨h₃, g₃, d₃, t₃, o₃⟩ := s₃
          obtain ⟨ok, hok, hkd⟩ := hc₃
          dsimp only at hn₃ hk₃ hok hK ⊢
          refine keep3 F9 N9 hk₃ hK hok fun F3 N3 ne3 => ?_
          clear F9 N9 ne3 hR
          refine wpAny_tests_one ?_
          repeat (first | (k_unfold; (try dsimp only)) | (walk1; (try dsimp only)))
          unfold Stop
          refine' comp_list ?hhS33 ?hclosS33 ?hcellS33 ?hkindS33 ?hnamesS33 ?hxS33 ?_ ?hsS33
          case hsS33 => intro _; rfl
          case hhS33 => exact rfl
          case hclosS33 => with_unfolding_all rfl
          case hcellS33 => decide
          case hkindS33 => rfl
          case hnamesS33 => decide
          case hxS33 => rfl
          repeat (first | (k_unfold; (try dsimp only)) | (walk1; (try dsimp only)))
          with_reducible rename Fr _ _ _ _ => F5
          with_reducible rename News _ _ _ _ => N5
          rename IntsAre evs _ => hev
          refine ⟨e, _, nbr adj j, fun _ _ => True, rfl, ⟨News.isList N5 (n := ne) (.tail _ (.tail _ (.head _))), ?sizeS33, ?tests2S33, ?elt2S33, ?out2S33⟩⟩
          case sizeS33 =>
            rw [List.size_toArray, hev.length, List.length_map]
            have := ends_len adj k s
            unfold sizeLine; omega
          case tests2S33 =>
            intro C2 v s₄ m₄ E2 hv hC2 hn₄ hm₄ hk₄
            obtain ⟨h₄, g₄, d₄, t₄, o₄⟩ := s₄
            dsimp only at hn₄ hk₄ ⊢
            obtain ⟨i, hi, ti, rfl⟩ := ints_mem hev (by simpa using hv)
            have hi5 := ends_lt hk5 s i hi
            have F6 := F5.keeps hk₄
            have N6 : News g L' h₄ ((ad i, W.listOf (vs i).toArray (ns i)) :: (K, ok) :: (I, oI) :: (e, W.listOf evs.toArray ne) :: (L' + 1 + 1 + 1, oe) :: (L' + 1 + 1, or) :: (L' + 1, oc) :: (ca, W.listOf cvs.toArray nc) :: (r, W.listOf (roadRefs ad).toArray 0) :: rs) := fun q hq => by
              rcases List.mem_cons.mp hq with rfl | hq
              · exact N5.grown hk₄ _ (.tail _ (.tail _ (.tail _ (.tail _ (.tail _ (.tail _ (.tail _ (.tail _ (hrs i hi5)))))))))
              · exact N5.grown hk₄ q hq
            have hvi := hI.nums i hi5
            clear F5 N5 hev
            refine wpAny_tests_one ?_
            repeat (first | (k_unfold; (try dsimp only)) | (walk1; (try dsimp only)))
            · exact nbr_dec adj i j ti
            · exact ⟨_, _, rfl, fun _ _ e => e⟩
          case elt2S33 =>
            intro C2 v s₄ m₄ E2 hv hp hC2 hn₄ hm₄ hk₄
            obtain ⟨h₄, g₄, d₄, t₄, o₄⟩ := s₄
            dsimp only at hn₄ hk₄ ⊢
            have F6 := F5.keeps hk₄
            have N6 := N5.grown hk₄
            clear F5 N5
            repeat (first | (k_unfold; (try dsimp only)) | (walk1; (try dsimp only)))
            exact ⟨_, _, rfl, fun _ _ e => e⟩
          case out2S33 =>
            intro D2 h2 tk2 ys n2 hD2 hD2' hP hk2
            dsimp only at hD2 hk2 ⊢
            refine keep3 F5 N5 hk2 hD2 hD2' fun F6 N6 ne6 => ?_
            clear F5 N5 ne6
            iterate 2 (first | (k_unfold; (try dsimp only)) | (walk1; (try dsimp only)))
            refine wpAny_newObj_type ?_
            dsimp only
            refine ne_empty (items := ys) (PySem.IsL.isList (n := n2) (Heap.get?_push_of_some _ hD2')) (PySem.IsL.isList (n := 0) (Heap.get?_push_size _ rfl)) (by walk_at "m_room") ?_
            exact wpAny_truthy_bool ⟨nbr_out hev (by simpa using hP), _, _, rfl, fun b o e => Heap.get?_push_of_some _ (hk2 b o e)⟩
        case outS32 =>
          intro D h5 tk5 kn vs5 hD hD' hvs5 hk5'
          dsimp only at hD hk5' ⊢
          refine keep3 F9 N9 hk5' hD hD' fun F4 N4 ne4 => ?_
          have hD3 : @Ne Nat D (L' + 1 + 1 + 1) := fun q => ne4 (L' + 1 + 1 + 1, oe) (.tail _ (.tail _ (.head _))) q.symm
          have hDI : @Ne Nat D I := fun q => ne4 (I, oI) (.head _) q.symm
          clear F9 N9 ne4 hR
          repeat (first | (k_unfold; (try dsimp only)) | (walk1; (try dsimp only)))
          with_reducible rename Fr _ _ _ _ => F9
          with_reducible rename News _ _ _ _ => N9
          rename (Obj.data _ = Data.cell _) => dn
          refine TurnEnd.next F9 (news' := (D, W.listOf vs5.toArray kn) :: (L' + 1 + 1 + 1, _) :: (L' + 1 + 1, or) :: (L' + 1, oc) :: (ca, W.listOf cvs.toArray nc) :: (r, W.listOf (roadRefs ad).toArray 0) :: rs) (news_sub N9 fun q hq => ?_) (fun q hq => ?_) ⟨m1, m2, D, _, _, vs5, dn, by rw [show min (s + 1) t = s + 1 by omega]; exact hvs5, hno', hD3, rfl⟩
          · rcases List.mem_cons.mp hq with rfl | hq
            · exact .tail _ (.head _)
            rcases List.mem_cons.mp hq with rfl | hq
            · exact .head _
            · exact .tail _ (.tail _ (.tail _ hq))
          · rcases List.mem_cons.mp hq with rfl | hq
            · exact hDI
            rcases List.mem_cons.mp hq with rfl | hq
            · exact hoff (L' + 1 + 1 + 1, oe) (.tail _ (.head _))
            · exact hoff q (.tail _ (.tail _ hq))
      · rename (¬ _ < _) => hge
        rename IntsAre _ _ => hev
        have hse : s = t := by omega
        exact TurnEnd.next F1 N1 hoff ⟨m1, m2, e, oe, ne, evs, de, by rw [show min (s + 1) t = s by omega]; exact hev, hno', he3, rfl⟩
  clear F1 N1 m1 m2 de he3
  intro h tk m news F1 N1 ⟨m1, m2, e, oe, ne, evs, de, hev, hno, he3, hnews⟩
  subst hnews
  rw [show min (t + 1) t = t by omega] at hev
  repeat (first | (k_unfold; (try dsimp only)) | (walk1; (try dsimp only)))
  unfold Stop
  refine' comp_list ?hhS4 ?hclosS4 ?hcellS4 ?hkindS4 ?hnamesS4 ?hxS4 ?_ ?hsS4
  case hsS4 => intro _; rfl
  case hhS4 => exact rfl
  case hclosS4 => with_unfolding_all rfl
  case hcellS4 => decide
  case hkindS4 => rfl
  case hnamesS4 => decide
  case hxS4 => rfl
  repeat (first | (k_unfold; (try dsimp only)) | (walk1; (try dsimp only)))
  with_reducible rename Fr _ _ _ _ => F5
  with_reducible rename News _ _ _ _ => N5
  rename IntsAre evs _ => hev
  refine ⟨e, _, fun _ => true, fun v y => ∃ i : Nat, ∃ t1 t2, v = .int ((i : Nat) : Int) t1 ∧ y = .int ((cl i : Nat) : Int) t2, rfl, ⟨News.isList N5 (n := ne) (.head _), ?sizeS4, ?testsS4, ?eltS4, ?outS4⟩⟩
  case sizeS4 =>
    rw [List.size_toArray, hev.length, List.length_map]
    have := ends_len adj k t
    unfold sizeLine; omega
  case testsS4 =>
    intro C v s₃ m₃ E' hv hC hn₃ hm₃ hk₃
    exact wpAny_tests_nil ⟨rfl, _, _, rfl, fun _ _ e => e⟩
  case eltS4 =>
    intro C v s₃ m₃ E' hv _ hC hn₃ hm₃ hk₃
    obtain ⟨h₃, g₃, d₃, t₃, o₃⟩ := s₃
    dsimp only at hn₃ hk₃ ⊢
    obtain ⟨i, hi, ti, rfl⟩ := ints_mem hev (by simpa using hv)
    have hi5 := ends_lt hk5 t i hi
    obtain ⟨tc, hci⟩ := hcv i hi5
    have F3 := F5.keeps hk₃
    have N3 := N5.grown hk₃
    clear F5 N5 hev
    repeat (first | (k_unfold; (try dsimp only)) | (walk1; (try dsimp only)))
    exact ⟨_, _, rfl, fun _ _ e => e⟩
  case outS4 =>
    intro D h6 tk6 ys n6 hD hD' hP hk6
    dsimp only at hD hk6 ⊢
    refine keep3 F5 N5 hk6 hD hD' fun F6 N6 ne6 => ?_
    clear F5 N5 ne6
    rw [filter_all] at hP
    have hys : IntsAre ys.toList ((ends adj k t).map fun i => ((cl i : Nat) : Int)) := paired_claims hev (by simpa using hP)
    clear hev
    repeat (first | (k_unfold; (try dsimp only)) | (walk1; (try dsimp only)))
    unfold Stop
    have hpos : 0 < ((ends adj k t).map fun i => ((cl i : Nat) : Int)).length := by
      obtain ⟨j, hj, _⟩ := ends_ne ⟨hI.lt, hI.sym, hI.len⟩ hk5 hne t
      rw [List.length_map]
      exact List.length_pos_of_mem hj
    with_reducible rename Fr _ _ _ _ => F7
    with_reducible rename News _ _ _ _ => N7
    refine kso_min F7 N7 (vs := ys.toList) (by simpa using News.isList N7 (n := n6) (.head _)) hys hpos rfl fun h7 M tM tk7 F8 N8 hM hle => ?_
    clear F7 N7
    obtain ⟨j, hj, rfl⟩ := List.mem_map.mp hM
    have hclj := hcl j (ends_lt hk5 t j hj)
    have hle' : ∀ i ∈ ends adj k t, cl j ≤ cl i := fun i hi => by
      have := hle _ (List.mem_map.mpr ⟨i, hi, rfl⟩)
      omega
    clear hle hM
    dsimp only
    repeat (first | (k_unfold; (try dsimp only)) | (walk1; (try dsimp only)))
    with_reducible rename Fr _ _ _ _ => F9
    with_reducible rename News _ _ _ _ => N9
    exact hret (t + 1) (cl j) _ _ _ (fin _ _ [_, _, _, _, _] F9 N9) (.inr ⟨hne, .inr ⟨fun s hs => hno s (by omega), rfl, j, hj, rfl, hle'⟩⟩)
local macro_rules | `(tactic| walk_at "exec For Name Call cons nil") => `(tactic| refine stop_ ?_)
local macro_rules | `(tactic| walk_at "exec For Name Call") => `(tactic| refine stop_ ?_)
local macro_rules | `(tactic| walk_at "exec For") => `(tactic| refine stop_ ?_)
local macro_rules | `(tactic| walk_at "call ref") => `(tactic| refine stop_ ?_)
local macro_rules | `(tactic| walk_at "call builtin:str.join") => `(tactic| refine stop_ ?_)
local macro_rules | `(tactic| walk_at "call builtin:str.split") => `(tactic| refine stop_ ?_)
local macro_rules | `(tactic| walk_at "call builtin:str.lstrip") => `(tactic| (refine r_lstrip (by omega) (by omega) ?_; walk_at "m_i2"))
theorem r_lenRow {Q : Value → Shared → Prop} {d p : Nat} {t : Tok} (hd : d ≤ 1000) (hp : p < 65536) (h : ∀ t' k, Q (.int ((d + 11 + (digs p).length : Nat) : Int) t') { s with toks := k }) : wpAny (model prog w) A (call (.builtin "len") [.str (row d p) t]) Q E s := by
  have e := row_len d p
  have hd5 := digs_len hp
  refine PyProof.Rows.len_str (by rw [e]; omega) ?_
  rw [e]; exact h _ _
theorem r_lenReply {Q : Value → Shared → Prop} {p : Nat} {t : Tok} (hp : p < 65536) (h : ∀ t' k, Q (.int ((11 + (digs p).length : Nat) : Int) t') { s with toks := k }) : wpAny (model prog w) A (call (.builtin "len") [.str (reply p) t]) Q E s := by
  have e := reply_len p
  have hd5 := digs_len hp
  refine PyProof.Rows.len_str (by rw [e]; omega) ?_
  rw [e]; exact h _ _
local macro_rules | `(tactic| walk_at "call builtin:len") => `(tactic| ((first | refine r_lenRow (by omega) (by omega) ?_ | refine r_lenReply (by omega) ?_); walk_at "m_i2"))
theorem c_crlf : Str.ofString "\r\n" = lit [13, 10] := by decide +kernel
theorem rows_len {D P : Nat → Nat} : ∀ {ns : List Nat}, (∀ j ∈ ns, D j ≤ 10 ∧ P j < 65536) → ((ns.map fun j => rowL (D j) (P j)).map List.length).sum ≤ 26 * ns.length
  | [], _ => by simp
  | n :: ns, h => by
    have ih := rows_len (D := D) (P := P) (ns := ns) fun j hj => h j (.tail _ hj)
    obtain ⟨h1, h2⟩ := h n (.head _)
    have h3 := digs_len h2
    have h4 := rowL_len (D n) (P n)
    simp only [List.map_cons, List.sum_cons, List.length_cons]
    omega
theorem rows_lit {D P : Nat → Nat} {ns : List Nat} : (ns.map fun j => row (D j) (P j)) = (ns.map fun j => rowL (D j) (P j)).map lit := by
  rw [List.map_map]
  exact List.map_congr_left fun j _ => row_lit _ _
theorem rows_sum {D P : Nat → Nat} {ns : List Nat} : ((ns.map fun j => row (D j) (P j)).map (·.length)).sum = ((ns.map fun j => rowL (D j) (P j)).map List.length).sum := by
  rw [rows_lit, List.map_map]
  exact congrArg List.sum (List.map_congr_left fun x _ => lit_len x)
theorem row_dot (d p : Nat) : lit (46 :: rowL d p) = row (d + 1) p := by
  rw [row_lit]; rfl
theorem rows_dot {D P : Nat → Nat} {ns : List Nat} : (((ns.map fun j => rowL (D j) (P j)).map (46 :: ·)).map lit) = ns.map fun j => row (D j + 1) (P j) := by
  rw [List.map_map, List.map_map]
  exact List.map_congr_left fun j _ => row_dot _ _
theorem rowL_dotted {d p : Nat} (hd : 1 ≤ d) : Dotted (rowL d p) := by
  obtain ⟨d', rfl⟩ : ∃ d', d = d' + 1 := ⟨d - 1, by omega⟩
  exact ⟨rowL d' p, rfl, fun c hc => (rowL_range d' p c hc).1⟩
theorem strs_at {α : Type} {f : α → Str} {l : List (Str × Tok)} {ns : List α} (h : l.map (·.1) = ns.map f) {i : Nat} {v : Value} (hv : (strValues l).toArray[i]? = some v) : ∃ j t, ns[i]? = some j ∧ v = .str (f j) t := by
  rw [List.getElem?_toArray] at hv
  unfold strValues at hv
  rw [List.getElem?_map] at hv
  cases q : l[i]? with
  | none => rw [q] at hv; cases hv
  | some x =>
    rw [q] at hv
    have h2 : (l.map (·.1))[i]? = some x.1 := by rw [List.getElem?_map, q]; rfl
    rw [h, List.getElem?_map] at h2
    cases q2 : ns[i]? with
    | none => rw [q2] at h2; cases h2
    | some j =>
      rw [q2] at h2
      have e : f j = x.1 := Option.some.inj h2
      have hv' : Value.str x.1 x.2 = v := Option.some.inj hv
      exact ⟨j, x.2, rfl, by rw [e]; exact hv'.symm⟩
/-- a claim heard -/
structure CEnt where
  a : Addr
  j : Nat
  t1 : Tok
  t2 : Tok
  t3 : Tok
def CEnt.obj (D P : Nat → Nat) (x : Str) (c : CEnt) : Obj := tup3 (.int ((P c.j + D c.j + 1 : Nat) : Int) c.t1) (.str x c.t2) (.str (row (D c.j + 1) (P c.j)) c.t3)
def centsOf (D P : Nat → Nat) (x : Str) (ces : List CEnt) : List (Addr × Obj) := ces.map fun c => (c.a, c.obj D P x)
/-- every letter's row -/
def Rows5 (es : List Ent) (D P : Nat → Nat) : Prop := ∀ j, j < 5 → ∃ e, es.find? (fun e => e.i == j) = some e ∧ e.r = row (D j) (P j)
theorem get_row5 (X : (hd.heap_1 w.params).In h₀) (T : Top p loose mean mg mb h₀) (st : h₀.StaysIn s.heap) {B : Tb} {es : List Ent} {up : Bool} {i : Nat} {ut : Tok} {D P : Nat → Nat} {x : Str}
    (hA : A.handled = none) (hB : ∀ q ∈ B.news es, s.heap.get? q.1 = some q.2) (hoff : ∀ a ∈ (B.news es).map (·.1), h₀.get? a = none)
    (hr : Rows5 es D P) (hx : x = nm up i) (hi : i < 5) (hes : ∀ e ∈ es, e.i < 5)
    (hdp : A.depth + 40 < recursionLimit) (hun : A.units + 200 < cLine)
    (hret : ∀ t h' tk', s.heap.StaysIn h' → Q (.str (row (D i) (P i)) t) { s with heap := h', toks := tk' }) :
    wpAny (model prog w) A (call (.ref 179) [.ref B.o, .str x ut]) Q E s := by
  subst hx
  obtain ⟨e, he, hrow⟩ := hr i hi
  refine get_spec X T st hA hB hoff hi hes hdp hun ?_
  rw [he]
  dsimp only
  rw [hrow]
  exact fun h' tk' => hret _ h' tk'
theorem setdef_spec' (X : (hd.heap_1 w.params).In h₀) (T : Top p loose mean mg mb h₀) (st : h₀.StaysIn s.heap) {B : Tb} {es : List Ent} {up : Bool} {i d pt : Nat} {ut vt : Tok} {x y : Str}
    (hA : A.handled = none) (hB : ∀ q ∈ B.news es, s.heap.get? q.1 = some q.2) (hoff : ∀ a ∈ (B.news es).map (·.1), h₀.get? a = none)
    (hx : x = nm up i) (hy : y = row d pt) (hi : i < 5) (hnew : es.find? (fun e => e.i == i) = none) (hes : ∀ e ∈ es, e.i < 5) (hlen : es.length ≤ 1000) (hd : d ≤ 1000) (hpt : pt < 65536)
    (hdp : A.depth + 60 < recursionLimit) (hun : A.units + 300 < cLine)
    (hret : ∀ h' tk' n2 r, (∀ b o, b ≠ B.hl → s.heap.get? b = some o → h'.get? b = some o) → s.heap.get? r = none → h'.get? r = some (tupO (.str (nm up i) ut) (.str (row d pt) vt)) →
      h'.get? B.hl = some (W.listOf ((es.map fun e => Value.ref e.a) ++ [Value.ref r] : List Value).toArray n2) → Q (.str (row d pt) vt) { s with heap := h', toks := tk' }) :
    wpAny (model prog w) A (call (.ref 222) [.ref B.o, .str x ut, .str y vt]) Q E s := by
  subst hx hy; exact setdef_spec X T st hA hB hoff hi hnew hes hlen hd hpt hdp hun hret
theorem item_ABCDE {i : Nat} (hi : i < 5) : Txt.item (Str.ofString "ABCDE") (i : Int) = nm true i := by
  rw [nm_lit]
  have : i = 0 ∨ i = 1 ∨ i = 2 ∨ i = 3 ∨ i = 4 := by omega
  rcases this with rfl | rfl | rfl | rfl | rfl <;> rfl
theorem item_abcde {i : Nat} (hi : i < 5) : Txt.item (Str.ofString "abcde") (i : Int) = nm false i := by
  rw [nm_lit]
  have : i = 0 ∨ i = 1 ∨ i = 2 ∨ i = 3 ∨ i = 4 := by omega
  rcases this with rfl | rfl | rfl | rfl | rfl <;> rfl
theorem nm_a0 : Str.ofString "a" = nm false 0 := by rw [nm_lit]; rfl
theorem nm_A0 : Str.ofString "A" = nm true 0 := by rw [nm_lit]; rfl
/-- a new letter is in the table: the ledger -/
theorem set_news {g h h' : Heap} {L r : Addr} {m : Str → Option Value} {pre : List (Addr × Obj)} {tb : Tb} {es : List Ent} {k n2 : Nat} {up : Bool} {x : Str} {tn tr : Tok} (F : Fr g L h m) (N : News g L h (pre ++ tb.news es)) (hpre : ∀ p ∈ pre, p.1 ≠ tb.hl)
    (hs : ∀ b o, b ≠ tb.hl → h.get? b = some o → h'.get? b = some o) (hf : h.get? r = none) (hr : h'.get? r = some (tupO (.str (nm up k) tn) (.str x tr)))
    (hl : h'.get? tb.hl = some (W.listOf ((es.map fun e => Value.ref e.a) ++ [Value.ref r] : List Value).toArray n2)) :
    Fr g L h' m ∧ News g L h' (pre ++ ({ tb with n2 := n2 } : Tb).news (es ++ [⟨r, up, k, x, tn, tr⟩])) := by
  have hB : ∀ q ∈ tb.news es, h.get? q.1 = some q.2 := fun q hq => (N q (List.mem_append.mpr (.inr hq))).1
  obtain ⟨ne1, ne2, ne3⟩ := tab_ne hB
  have zl := N (tb.hl, _) (List.mem_append.mpr (.inr (.tail _ (.tail _ (.head _)))))
  have hgl : ∀ b o, g.get? b = some o → b ≠ tb.hl := fun b o e q => by rw [q, zl.2.2] at e; cases e
  refine ⟨⟨F.ns.at' fun o e => hs _ o (Ne.symm zl.2.1) e, fun b o e => hs b o (hgl b o e) (F.keep b o e), F.above⟩, fun q hq => ?_⟩
  rcases List.mem_append.mp hq with hq | hq
  · have y := N q (List.mem_append.mpr (.inl hq))
    exact ⟨hs _ _ (hpre q hq) y.1, y.2⟩
  · rcases List.mem_cons.mp hq with rfl | hq
    · have y := N _ (List.mem_append.mpr (.inr (.head _)))
      exact ⟨hs _ _ ne1 y.1, y.2⟩
    rcases List.mem_cons.mp hq with rfl | hq
    · have y := N _ (List.mem_append.mpr (.inr (.tail _ (.head _))))
      exact ⟨hs _ _ ne2 y.1, y.2⟩
    rcases List.mem_cons.mp hq with rfl | hq
    · refine ⟨?_, zl.2⟩
      simp only [List.map_append, List.map_cons, List.map_nil]
      exact hl
    unfold tupsOf at hq
    rw [List.map_append] at hq
    rcases List.mem_append.mp hq with hq | hq
    · obtain ⟨e, he, rfl⟩ := List.mem_map.mp hq
      have hm : (e.a, e.obj) ∈ tupsOf es := List.mem_map.mpr ⟨e, he, rfl⟩
      have y := N _ (List.mem_append.mpr (.inr (.tail _ (.tail _ (.tail _ hm)))))
      exact ⟨hs _ _ (ne3 _ hm) y.1, y.2⟩
    · rw [List.mem_singleton.mp hq]
      refine ⟨hr, fun e => ?_, ?_⟩
      · obtain ⟨oL, _, _, hL, _⟩ := F.ns
        dsimp only at e
        rw [e, hL] at hf; cases hf
      · dsimp only
        cases z : g.get? r with
        | none => rfl
        | some o => rw [F.keep _ _ z] at hf; cases hf
theorem set_newsP {g h h' : Heap} {L r : Addr} {m : Str → Option Value} {pre post : List (Addr × Obj)} {tb : Tb} {es : List Ent} {k n2 : Nat} {up : Bool} {x : Str} {tn tr : Tok} (F : Fr g L h m) (N : News g L h (pre ++ (tb.news es ++ post))) (hpre : ∀ p ∈ pre ++ post, p.1 ≠ tb.hl)
    (hs : ∀ b o, b ≠ tb.hl → h.get? b = some o → h'.get? b = some o) (hf : h.get? r = none) (hr : h'.get? r = some (tupO (.str (nm up k) tn) (.str x tr)))
    (hl : h'.get? tb.hl = some (W.listOf ((es.map fun e => Value.ref e.a) ++ [Value.ref r] : List Value).toArray n2)) :
    Fr g L h' m ∧ News g L h' (pre ++ (({ tb with n2 := n2 } : Tb).news (es ++ [⟨r, up, k, x, tn, tr⟩]) ++ post)) := by
  have N2 : News g L h ((pre ++ post) ++ tb.news es) := fun q hq => by
    rcases List.mem_append.mp hq with hq | hq
    · rcases List.mem_append.mp hq with hq | hq
      · exact N q (List.mem_append.mpr (.inl hq))
      · exact N q (List.mem_append.mpr (.inr (List.mem_append.mpr (.inr hq))))
    · exact N q (List.mem_append.mpr (.inr (List.mem_append.mpr (.inl hq))))
  obtain ⟨F3, N3⟩ := set_news F N2 hpre hs hf hr hl
  refine ⟨F3, fun q hq => ?_⟩
  rcases List.mem_append.mp hq with hq | hq
  · exact N3 q (List.mem_append.mpr (.inl (List.mem_append.mpr (.inl hq))))
  · rcases List.mem_append.mp hq with hq | hq
    · exact N3 q (List.mem_append.mpr (.inr hq))
    · exact N3 q (List.mem_append.mpr (.inl (List.mem_append.mpr (.inr hq))))
theorem set_newsX {g h h' : Heap} {L r : Addr} {m : Str → Option Value} {pre post : List (Addr × Obj)} {tb : Tb} {es : List Ent} {k n2 : Nat} {up : Bool} {x : Str} {tn tr : Tok} (F : Fr g L h m) (N : News g L h (pre ++ (tb.news es ++ post))) (hpre : ∀ p ∈ pre ++ post, p.1 ≠ tb.hl)
    (hs : ∀ b o, b ≠ tb.hl → h.get? b = some o → h'.get? b = some o) (hf : h.get? r = none) (hr : h'.get? r = some (tupO (.str (nm up k) tn) (.str x tr)))
    (hl : h'.get? tb.hl = some (W.listOf ((es.map fun e => Value.ref e.a) ++ [Value.ref r] : List Value).toArray n2)) :
    ∃ y : Ent, y.a = r ∧ y.up = up ∧ y.i = k ∧ y.r = x ∧ Fr g L h' m ∧ News g L h' (pre ++ (({ tb with n2 := n2 } : Tb).news (es ++ [y]) ++ post)) :=
  ⟨⟨r, up, k, x, tn, tr⟩, rfl, rfl, rfl, rfl, set_newsP F N hpre hs hf hr hl⟩
/-- what a round makes of server k's row -/
def Step (adj : Nat → List Nat) (D P : Nat → Nat) (k d p : Nat) : Prop :=
  (k = 0 ∧ d = D 0 ∧ p = P 0) ∨ (adj k = [] ∧ d = D k ∧ p = P k) ∨ (k ≠ 0 ∧ ∃ j ∈ adj k, d = D j + 1 ∧ p = P j ∧ ∀ i ∈ adj k, P j + D j ≤ P i + D i)
/-- the new table, k letters in it: -/
structure Fresh (adj : Nat → List Nat) (D P : Nat → Nat) (k : Nat) (fes : List Ent) : Prop where
  ord : fes.map Ent.i = List.range k
  row : ∀ e ∈ fes, e.up = false ∧ ∃ d p, e.r = Mine.row d p ∧ Step adj D P e.i d p
theorem Fresh.none {adj : Nat → List Nat} {D P : Nat → Nat} {k : Nat} {fes : List Ent} (I : Fresh adj D P k fes) : fes.find? (fun e => e.i == k) = none :=
  List.find?_eq_none.mpr fun e he => by
    have : e.i ∈ fes.map Ent.i := List.mem_map.mpr ⟨e, he, rfl⟩
    rw [I.ord] at this
    have := List.mem_range.mp this
    simp; omega
theorem Fresh.lt {adj : Nat → List Nat} {D P : Nat → Nat} {k : Nat} {fes : List Ent} (I : Fresh adj D P k fes) : ∀ e ∈ fes, e.i < k := fun e he => by
  have : e.i ∈ fes.map Ent.i := List.mem_map.mpr ⟨e, he, rfl⟩
  rw [I.ord] at this
  exact List.mem_range.mp this
theorem Fresh.len {adj : Nat → List Nat} {D P : Nat → Nat} {k : Nat} {fes : List Ent} (I : Fresh adj D P k fes) : fes.length = k := by
  have := congrArg List.length I.ord
  simpa using this
theorem Fresh.add {adj : Nat → List Nat} {D P : Nat → Nat} {k d p : Nat} {fes : List Ent} {r : Addr} {tn tr : Tok} (I : Fresh adj D P k fes) (h : Step adj D P k d p) : Fresh adj D P (k + 1) (fes ++ [⟨r, false, k, Mine.row d p, tn, tr⟩]) := by
  refine ⟨?_, fun e he => ?_⟩
  · rw [List.map_append, I.ord, List.range_succ]; rfl
  · rcases List.mem_append.mp he with he | he
    · exact I.row e he
    · rw [List.mem_singleton.mp he]; exact ⟨rfl, d, p, rfl, h⟩
theorem Fresh.addX {adj : Nat → List Nat} {D P : Nat → Nat} {k d p : Nat} {fes : List Ent} {x : Ent} (I : Fresh adj D P k fes) (hi : x.i = k) (hu : x.up = false) (hr : x.r = Mine.row d p) (h : Step adj D P k d p) : Fresh adj D P (k + 1) (fes ++ [x]) := by
  refine ⟨?_, fun e he => ?_⟩
  · rw [List.map_append, I.ord, List.range_succ, List.map_cons, List.map_nil, hi]
  · rcases List.mem_append.mp he with he | he
    · exact I.row e he
    · rw [List.mem_singleton.mp he, hi]; exact ⟨hu, d, p, hr, h⟩
theorem news_add {g h h' : Heap} {L : Addr} {m : Str → Option Value} {news extra : List (Addr × Obj)} (F : Fr g L h m) (N : News g L h news) (hs : h.StaysIn h') (hx : ∀ q ∈ extra, h.get? q.1 = none ∧ h'.get? q.1 = some q.2) : News g L h' (news ++ extra) := fun q hq => by
  rcases List.mem_append.mp hq with hq | hq
  · exact N.grown hs q hq
  · refine ⟨(hx q hq).2, fun e => ?_, ?_⟩
    · obtain ⟨oL, _, _, hL, _⟩ := F.ns
      have := (hx q hq).1
      rw [e, hL] at this; cases this
    · cases z : g.get? q.1 with
      | none => rfl
      | some o => have := (hx q hq).1; rw [F.keep _ _ z] at this; cases this
def OffTab (tab l : List (Addr × Obj)) : Prop := ∀ q ∈ l, q.1 ∉ tab.map (·.1)
theorem off_add {tab : List (Addr × Obj)} {FB : Tb} {n n' : Nat} {fes : List Ent} {x : Ent} (h : OffTab tab (Tb.news { FB with n2 := n } fes)) (hx : x.a ∉ tab.map (·.1)) : OffTab tab (Tb.news { FB with n2 := n' } (fes ++ [x])) := fun q hq => by
  rcases List.mem_cons.mp hq with rfl | hq
  · exact h _ (.head _)
  rcases List.mem_cons.mp hq with rfl | hq
  · exact h _ (.tail _ (.head _))
  rcases List.mem_cons.mp hq with rfl | hq
  · exact h (FB.hl, W.listOf (fes.map fun e => Value.ref e.a).toArray n) (.tail _ (.tail _ (.head _)))
  unfold tupsOf at hq
  rw [List.map_append] at hq
  rcases List.mem_append.mp hq with hq | hq
  · exact h q (.tail _ (.tail _ (.tail _ hq)))
  · rw [List.mem_singleton.mp hq]; exact hx
theorem off_base {pre stat : List (Addr × Obj)} {FB : Tb} {n n' : Nat} {fes : List Ent} {x : Ent} {I : Addr} (h : ∀ p ∈ pre ++ (Tb.news { FB with n2 := n } fes ++ stat), p.1 ≠ I) (hx : x.a ≠ I) : ∀ p ∈ pre ++ (Tb.news { FB with n2 := n' } (fes ++ [x]) ++ stat), p.1 ≠ I := fun q hq => by
  have k : ∀ p ∈ Tb.news { FB with n2 := n } fes ++ stat, p.1 ≠ I := fun p hp => h p (List.mem_append.mpr (.inr hp))
  rcases List.mem_append.mp hq with hq | hq
  · exact h q (List.mem_append.mpr (.inl hq))
  rcases List.mem_append.mp hq with hq | hq
  · rcases List.mem_cons.mp hq with rfl | hq
    · exact k _ (.head _)
    rcases List.mem_cons.mp hq with rfl | hq
    · exact k _ (.tail _ (.head _))
    rcases List.mem_cons.mp hq with rfl | hq
    · exact k (FB.hl, W.listOf (fes.map fun e => Value.ref e.a).toArray n) (.tail _ (.tail _ (.head _)))
    unfold tupsOf at hq
    rw [List.map_append] at hq
    rcases List.mem_append.mp hq with hq | hq
    · exact k q (List.mem_append.mpr (.inl (.tail _ (.tail _ (.tail _ hq)))))
    · rw [List.mem_singleton.mp hq]; exact hx
  · exact k q (List.mem_append.mpr (.inr hq))
theorem strs_nil {α : Type} {f : α → Str} {ys : Array Value} {ns : List α} (h : StrsAre ys.toList (ns.map f)) : (ys.size == 0) = true ↔ ns = [] := by
  have key : ∀ {vs : List Value} {xs : List Str}, StrsAre vs xs → vs.length = xs.length := by
    intro vs xs h
    induction h with
    | nil => rfl
    | cons _ _ _ ih => rw [List.length_cons, List.length_cons, ih]
  have e := key h
  rw [List.length_map, Array.length_toList] at e
  rw [beq_iff_eq]
  constructor
  · intro q; exact List.length_eq_zero_iff.mp (by omega)
  · intro q; rw [q] at e; simpa using e
theorem paired_strs {f : Nat → Str} : ∀ {vs ys : List Value} {ns : List Nat}, IntsAre vs (ns.map fun k => ((k : Nat) : Int)) → Paired (fun v y => ∃ i : Nat, ∃ t1 t2, v = .int ((i : Nat) : Int) t1 ∧ y = .str (f i) t2) vs ys → StrsAre ys (ns.map f)
  | [], _, [], _, .nil => .nil
  | [], _, _ :: _, h, _ => nomatch h
  | _ :: _, _, [], h, _ => nomatch h
  | _ :: _, _, n :: ns, h, .cons e p => by
    obtain ⟨i, t1, t2, e1, e2⟩ := e
    cases h with
    | cons _ t h =>
      have q : ((n : Nat) : Int) = ((i : Nat) : Int) := by cases e1; rfl
      have : n = i := by omega
      subst this
      rw [e2]
      exact .cons _ _ (paired_strs h p)
/-- the loop over the letters, k letters in the new table -/
def RoundJ (L' : Nat) (B FB : Tb) (r : Addr) (ad : Nat → Addr) (oc : Obj) (stat : List (Addr × Obj)) (e : List Nat) (te : Tok) (adj : Nat → List Nat) (D P : Nat → Nat) (k : Nat) (m : Str → Option Value) (news : List (Addr × Obj)) : Prop :=
  m "roads" = some (.ref r) ∧ m "end" = some (.str (lit e) te) ∧ m "fresh" = some (.ref FB.o) ∧ ∃ n2 fes, Fresh adj D P k fes ∧ OffTab ((r, W.listOf (roadRefs ad).toArray 0) :: stat) (Tb.news { FB with n2 := n2 } fes) ∧ news = (L' + 1, oc) :: (r, W.listOf (roadRefs ad).toArray 0) :: (({ FB with n2 := n2 } : Tb).news fes ++ stat)
/-- the loop over the rows heard, i of them behind it -/
def HearJ (Cl sl I r : Addr) (oI : Obj) (ad : Nat → Addr) (oc : Obj) (L' : Nat) (stat : List (Addr × Obj)) (e : List Nat) (te : Tok) (adj : Nat → List Nat) (D P : Nat → Nat) (k : Nat) (ti : Tok) (sv : List Value) (FB : Tb) (fes : List Ent) (i : Nat) (m : Str → Option Value) (news : List (Addr × Obj)) : Prop :=
  m "roads" = some (.ref r) ∧ m "end" = some (.str (lit e) te) ∧ m "fresh" = some (.ref FB.o) ∧ m "k" = some (.int (k : Int) ti) ∧ m "claims" = some (.ref Cl) ∧ ∃ ces nc, ces.map CEnt.j = (adj k).take i ∧ (∀ c ∈ ces, @Ne Nat c.a Cl ∧ @Ne Nat c.a FB.hl ∧ @Ne Nat c.a I) ∧
    news = (Cl, W.listOf (ces.map fun c => Value.ref c.a).toArray nc) :: (sl, W.listOf sv.toArray 0) :: (I, oI) :: (L' + 1, oc) :: (r, W.listOf (roadRefs ad).toArray 0) :: (FB.news fes ++ (stat ++ centsOf D P (Txt.item (Str.ofString "abcde") (k : Int)) ces))
theorem off_cents {Cl : Addr} {pre stat fn : List (Addr × Obj)} {D P : Nat → Nat} {x : Str} {ces : List CEnt} {hl I : Nat} (h : ∀ p ∈ pre ++ (fn ++ stat), p.1 ≠ Cl) (hc : ∀ c ∈ ces, @Ne Nat c.a Cl ∧ @Ne Nat c.a hl ∧ @Ne Nat c.a I) : ∀ p ∈ pre ++ (fn ++ (stat ++ centsOf D P x ces)), p.1 ≠ Cl := fun q hq => by
  rcases List.mem_append.mp hq with hq | hq
  · exact h q (List.mem_append.mpr (.inl hq))
  rcases List.mem_append.mp hq with hq | hq
  · exact h q (List.mem_append.mpr (.inr (List.mem_append.mpr (.inl hq))))
  rcases List.mem_append.mp hq with hq | hq
  · exact h q (List.mem_append.mpr (.inr (List.mem_append.mpr (.inr hq))))
  obtain ⟨c, hc', rfl⟩ := List.mem_map.mp hq
  exact (hc c hc').1
theorem hear_back {g h : Heap} {L r9 Dq I2 Cl sl I Dt : Addr} {o9 oq oI2 oI oc ro : Obj} {Lc r : Addr} {D P : Nat → Nat} {x : Str} {j nc : Nat} {a b c : Tok} {ces : List CEnt} {sv : List Value} {FB : Tb} {fes : List Ent} {stat : List (Addr × Obj)}
    (N : News g L h ((Dt, tup3 (.int ((P j + D j + 1 : Nat) : Int) a) (.str x b) (.str (row (D j + 1) (P j)) c)) :: (r9, o9) :: (Dq, oq) :: (I2, oI2) :: (Cl, W.listOf ((ces.map fun c => Value.ref c.a) ++ [Value.ref Dt] : List Value).toArray (nc + 1)) :: (sl, W.listOf sv.toArray 0) :: (I, oI) :: (Lc, oc) :: (r, ro) :: (FB.news fes ++ (stat ++ centsOf D P x ces)))) :
    ∃ y : CEnt, y.a = Dt ∧ y.j = j ∧ News g L h ((I2, oI2) :: (Cl, W.listOf ((ces ++ [y]).map fun c : CEnt => Value.ref c.a).toArray (nc + 1)) :: (sl, W.listOf sv.toArray 0) :: (I, oI) :: (Lc, oc) :: (r, ro) :: (FB.news fes ++ (stat ++ centsOf D P x (ces ++ [y])))) := by
  refine ⟨⟨Dt, j, a, b, c⟩, rfl, rfl, fun q hq => ?_⟩
  rcases List.mem_cons.mp hq with rfl | hq
  · exact N _ (.tail _ (.tail _ (.tail _ (.head _))))
  rcases List.mem_cons.mp hq with rfl | hq
  · rw [List.map_append]; exact N _ (.tail _ (.tail _ (.tail _ (.tail _ (.head _)))))
  rcases List.mem_cons.mp hq with rfl | hq
  · exact N _ (.tail _ (.tail _ (.tail _ (.tail _ (.tail _ (.head _))))))
  rcases List.mem_cons.mp hq with rfl | hq
  · exact N _ (.tail _ (.tail _ (.tail _ (.tail _ (.tail _ (.tail _ (.head _)))))))
  rcases List.mem_cons.mp hq with rfl | hq
  · exact N _ (.tail _ (.tail _ (.tail _ (.tail _ (.tail _ (.tail _ (.tail _ (.head _))))))))
  rcases List.mem_cons.mp hq with rfl | hq
  · exact N _ (.tail _ (.tail _ (.tail _ (.tail _ (.tail _ (.tail _ (.tail _ (.tail _ (.head _)))))))))
  refine (fun (w : q ∈ (Dt, tup3 (.int ((P j + D j + 1 : Nat) : Int) a) (.str x b) (.str (row (D j + 1) (P j)) c)) :: (FB.news fes ++ (stat ++ centsOf D P x ces))) => ?_) ?_
  · rcases List.mem_cons.mp w with rfl | w
    · exact N _ (.head _)
    · exact N _ (.tail _ (.tail _ (.tail _ (.tail _ (.tail _ (.tail _ (.tail _ (.tail _ (.tail _ w)))))))))
  · rcases List.mem_append.mp hq with hq | hq
    · exact .tail _ (List.mem_append.mpr (.inl hq))
    rcases List.mem_append.mp hq with hq | hq
    · exact .tail _ (List.mem_append.mpr (.inr (List.mem_append.mpr (.inl hq))))
    unfold centsOf at hq
    rw [List.map_append] at hq
    rcases List.mem_append.mp hq with hq | hq
    · exact .tail _ (List.mem_append.mpr (.inr (List.mem_append.mpr (.inr hq))))
    · rw [List.mem_singleton.mp hq]; exact .head _
theorem min_hear {g : Heap} {L : Addr} {news : List (Addr × Obj)} {Cl : Addr} {ces : List CEnt} {nc : Nat} {D P : Nat → Nat} {x : Str} (N : News g L s.heap news) (hmem : (Cl, W.listOf (ces.map fun c => Value.ref c.a).toArray nc) ∈ news) (hcin : ∀ q ∈ centsOf D P x ces, q ∈ news) (hne : ces ≠ [])
    (hkey : ∀ c ∈ ces, ∀ c' ∈ ces, P c.j + D c.j = P c'.j + D c'.j → D c.j = D c'.j ∧ P c.j = P c'.j) (hh : A.in1.handled = none) (hu : A.in1.units < cLine)
    (h : ∀ c ∈ ces, ∀ h' tk', (∀ c' ∈ ces, P c.j + D c.j ≤ P c'.j + D c'.j) → s.heap.StaysIn h' → Q (.ref c.a) { s with heap := h', toks := tk' }) :
    wpAny (model prog w) A (call (.builtin "min") [.ref Cl]) Q E s := by
  have get : ∀ (i : Nat) v, ((ces.map fun c => Value.ref c.a).toArray)[i]? = some v → ∃ c, ces[i]? = some c ∧ v = .ref c.a := fun i v hv => by
    rw [List.getElem?_toArray, List.getElem?_map] at hv
    cases q : ces[i]? with
    | none => rw [q] at hv; cases hv
    | some c => rw [q] at hv; cases hv; exact ⟨c, rfl, rfl⟩
  have hd : ∀ (i : Nat) c, ces[i]? = some c → ces.getD i ⟨0, 0, 0, 0, 0⟩ = c := fun i c q => by rw [List.getD_eq_getElem?_getD, q]; rfl
  have mem : ∀ i, i < ((ces.map fun c => Value.ref c.a).toArray).size → ces[i]? = some (ces.getD i ⟨0, 0, 0, 0, 0⟩) := fun i hi => by
    rw [List.size_toArray, List.length_map] at hi
    rw [List.getD_eq_getElem?_getD, List.getElem?_eq_getElem hi]; rfl
  refine min_claims (p := x) (x := fun i => ((P (ces.getD i ⟨0, 0, 0, 0, 0⟩).j + D (ces.getD i ⟨0, 0, 0, 0, 0⟩).j + 1 : Nat) : Int)) (r := fun i => row (D (ces.getD i ⟨0, 0, 0, 0, 0⟩).j + 1) (P (ces.getD i ⟨0, 0, 0, 0, 0⟩).j)) hh hu (News.isList N (n := nc) hmem) ?_ ?_ ?_ ?_
  · rw [List.size_toArray, List.length_map]; exact List.length_pos_iff.mpr hne
  · intro i v hv
    obtain ⟨c, hc, rfl⟩ := get i v hv
    rw [hd i c hc]
    exact ⟨c.a, c.t1, c.t2, c.t3, rfl, (N _ (hcin (c.a, c.obj D P x) (List.mem_map.mpr ⟨c, List.mem_of_getElem? hc, rfl⟩))).1⟩
  · intro i j hi hj q
    obtain ⟨e1, e2⟩ := hkey _ (List.mem_of_getElem? (mem i hi)) _ (List.mem_of_getElem? (mem j hj)) (by omega)
    rw [e1, e2]
  · intro b v h' tk hb hle hs
    obtain ⟨c, hc, rfl⟩ := get b v hb
    refine h c (List.mem_of_getElem? hc) h' tk (fun c' hc' => ?_) hs
    obtain ⟨i, hi⟩ := List.getElem?_of_mem hc'
    obtain ⟨hil, _⟩ := List.getElem?_eq_some_iff.mp hi
    have h1 := hle i (by rw [List.size_toArray, List.length_map]; exact hil)
    rw [hd b c hc, hd i c' hi] at h1
    omega
theorem hear_off {Cl sl I Lc r I2 : Addr} {oI oc ro os : Obj} {D P : Nat → Nat} {x : Str} {ces : List CEnt} {FB : Tb} {fes : List Ent} {stat : List (Addr × Obj)} {ocl ocl' : Obj} {y : CEnt} (h : ∀ p ∈ (Cl, ocl) :: (sl, os) :: (I, oI) :: (Lc, oc) :: (r, ro) :: (FB.news fes ++ (stat ++ centsOf D P x ces)), p.1 ≠ I2) (hy : @Ne Nat y.a I2) :
    ∀ p ∈ (Cl, ocl') :: (sl, os) :: (I, oI) :: (Lc, oc) :: (r, ro) :: (FB.news fes ++ (stat ++ centsOf D P x (ces ++ [y]))), p.1 ≠ I2 := fun q hq => by
  rcases List.mem_cons.mp hq with rfl | hq
  · exact h (Cl, ocl) (.head _)
  rcases List.mem_cons.mp hq with rfl | hq
  · exact h _ (.tail _ (.head _))
  rcases List.mem_cons.mp hq with rfl | hq
  · exact h _ (.tail _ (.tail _ (.head _)))
  rcases List.mem_cons.mp hq with rfl | hq
  · exact h _ (.tail _ (.tail _ (.tail _ (.head _))))
  rcases List.mem_cons.mp hq with rfl | hq
  · exact h _ (.tail _ (.tail _ (.tail _ (.tail _ (.head _)))))
  rcases List.mem_append.mp hq with hq | hq
  · exact h q (.tail _ (.tail _ (.tail _ (.tail _ (.tail _ (List.mem_append.mpr (.inl hq)))))))
  rcases List.mem_append.mp hq with hq | hq
  · exact h q (.tail _ (.tail _ (.tail _ (.tail _ (.tail _ (List.mem_append.mpr (.inr (List.mem_append.mpr (.inl hq)))))))))
  unfold centsOf at hq
  rw [List.map_append] at hq
  rcases List.mem_append.mp hq with hq | hq
  · exact h q (.tail _ (.tail _ (.tail _ (.tail _ (.tail _ (List.mem_append.mpr (.inr (List.mem_append.mpr (.inr hq)))))))))
  · rw [List.mem_singleton.mp hq]; exact hy
set_option maxHeartbeats 8000000 in
theorem round_spec (X : (hd.heap_1 w.params).In h₀) (T : Top p loose mean mg mb h₀) (st : h₀.StaysIn s.heap) {B : Tb} {es : List Ent} {r : Addr} {ad : Nat → Addr} {adj : Nat → List Nat} {vs : Nat → List Value} {ns : Nat → Nat} {stat : List (Addr × Obj)} {e : List Nat} {D P : Nat → Nat} {te : Tok}
    (hA : A.handled = none) (hB : ∀ q ∈ (r, W.listOf (roadRefs ad).toArray 0) :: stat, s.heap.get? q.1 = some q.2) (hoff : ∀ a ∈ ((r, W.listOf (roadRefs ad).toArray 0) :: stat).map (·.1), h₀.get? a = none)
    (hsB : ∀ q ∈ B.news es, q ∈ stat) (hsR : ∀ i, i < 5 → (ad i, W.listOf (vs i).toArray (ns i)) ∈ stat) (hI : RInv adj vs 25) (hR : Rows5 es D P) (hes : ∀ e ∈ es, e.i < 5)
    (hD : ∀ j, j < 5 → 1 ≤ D j ∧ D j ≤ 10) (hP : ∀ j, j < 5 → P j < 65536) (he : IsEnd e) (hkey : ∀ k, k < 5 → ∀ i ∈ adj k, ∀ j ∈ adj k, P i + D i = P j + D j → D i = D j ∧ P i = P j)
    (hdp : A.depth + 80 < recursionLimit) (hun : A.units + 400 < cLine)
    (hret : ∀ FB fes h' tk', s.heap.StaysIn h' → Fresh adj D P 5 fes → (∀ q ∈ Tb.news FB fes, s.heap.get? q.1 = none ∧ h'.get? q.1 = some q.2) → Q (.ref FB.o) { s with heap := h', toks := tk' }) :
    wpAny (model prog w) A (call (.ref 255) [.ref B.o, .ref r, .str (lit e) te]) Q E s := by
  obtain ⟨hp, gn, dr, tkk, os⟩ := s
  obtain ⟨hdl, dp, frs, gds, un⟩ := A
  dsimp only at st hret hB hA hdp hun
  subst hA
  refine wpAny_call ?_
  k_dflt (refine' enterC _ ?X ?T ?st ?ht ?hh ?ho ?hcd ?room ?bind ?kind ?nd ?c1 ?c2 ?c3 ?_; (case X => assumption); (case T => assumption); (case st => assumption); (case ht => assumption); (case ho => k_is); (case hcd => k_is); (case room => ((try dsimp only); omega)); (case bind => first | exact BindsTo.of_eq rfl | exact binds_K (by exact Frag.In.keeps (by assumption) (by assumption)) rfl (by k_is) rfl rfl rfl); (case kind => exact rfl); (case nd => decide +kernel); (case c1 => exact rfl); (case c2 => exact rfl); (case c3 => exact rfl); (case hh => assumption))
  intro g L' h₁ tk₁ cells F' X' T' st' hg hn hk hL N' Y' hlt
  k_cells Y'
  (try simp only [List.cons_append, List.nil_append] at N')
  dsimp only at hg hk hL ⊢
  have hB' := hB
  generalize hM : (bindL _ _ _ : Str → Option Value) = M₀ at F'
  have m1 : M₀ "roads" = some (.ref r) := by rw [← hM]; rfl
  have m2 : M₀ "end" = some (.str (lit e) te) := by rw [← hM]; rfl
  clear hM
  rename (Obj.data _ = Data.cell _) => e1
  obtain ⟨oc, N1, dc⟩ : ∃ oc, News g L' h₁ ((L' + 1, oc) :: (r, W.listOf (roadRefs ad).toArray 0) :: stat) ∧ oc.data = .cell (some (.ref B.o)) := ⟨_, N', e1⟩
  clear e1 N'
  have fin : ∀ (h' : Heap) (m' : Str → Option Value) (news : List (Addr × Obj)), Fr g L' h' m' → News g L' h' news → (∀ q ∈ (r, W.listOf (roadRefs ad).toArray 0) :: stat, q ∈ news) → hp.StaysIn h' := fun h' m' news F N hs => stays_news hB' hg F N hs
  refine cut_ F' (fun m news => m "roads" = some (.ref r) ∧ m "end" = some (.str (lit e) te) ∧ ∃ FB : Tb, m "fresh" = some (.ref FB.o) ∧ (∀ q ∈ (L' + 1, oc) :: (r, W.listOf (roadRefs ad).toArray 0) :: stat, q.1 ≠ FB.hl) ∧ OffTab ((r, W.listOf (roadRefs ad).toArray 0) :: stat) (FB.news []) ∧ news = (L' + 1, oc) :: (r, W.listOf (roadRefs ad).toArray 0) :: (FB.news [] ++ stat)) ?s1 ?r1
  case s1 =>
    repeat (first | (k_unfold; (try dsimp only)) | (walk1; (try dsimp only)))
    unfold Stop
    with_reducible rename Fr _ _ _ _ => F4
    with_reducible rename News _ _ _ _ => N4
    rename_i Dl hh l1
    refine' call_cls F4 X' N4 ?hmS1 ?hiS1 ?hfS1 ?_
    case hmS1 => k_is
    case hiS1 => k_is
    case hfS1 => k_is
    intro x dx h6 F6 N6 l2 l3
    have hin : ∀ q ∈ newTab x dx Dl 0 [], q ∈ (x, instObj 232 dx) :: (dx, dictOf [] 0) :: (Dl, W.listOf #[] 0) :: (L' + 1, oc) :: (r, W.listOf (roadRefs ad).toArray 0) :: stat := by
      intro q hq
      rcases List.mem_cons.mp hq with rfl | hq
      · exact .head _
      rcases List.mem_cons.mp hq with rfl | hq
      · exact .tail _ (.head _)
      rcases List.mem_cons.mp hq with rfl | hq
      · exact .tail _ (.tail _ (.head _))
      · exact absurd hq (by simp [tupsOf])
    have hD1 : ∀ q ∈ (L' + 1, oc) :: (r, W.listOf (roadRefs ad).toArray 0) :: stat, q.1 ≠ Dl := allLt_ne (l := (L' + 1, oc) :: (r, W.listOf (roadRefs ad).toArray 0) :: stat) l1
    refine init_spec (x := x) (dx := dx) (hl := Dl) (n := 0) (es := []) X' T' (Fr.keep F6) rfl (news_tab N6 hin) (news_off N6 hin) (by simp) (fun e he => nomatch he) ?rm1S1 ?rm2S1 ?hretS1
    case rm1S1 => exact Nat.lt_of_le_of_lt (show dp + 1 + 1 + 40 ≤ dp + 80 by omega) hdp
    case rm2S1 => (rw [units_under_make]; walk_at "m_room")
    case hretS1 =>
      intro h7 tk7 hsh tkk n1 hk7 hd7
      dsimp only at hk7
      refine keep4 F6 N6 (.tail (Nat.ne_of_gt l3) (.head fun p hp => Nat.ne_of_lt (l2 p hp))) hk7 hd7 fun F7 N7 => ?_
      clear F6 N6 F4 N4
      unfold InitBack
      dsimp only
      repeat (first | (k_unfold; (try dsimp only)) | (walk1; (try dsimp only)))
      with_reducible rename Fr _ _ _ _ => F9
      with_reducible rename News _ _ _ _ => N9
      refine CutEnd.intro (news' := (L' + 1, oc) :: (r, W.listOf (roadRefs ad).toArray 0) :: (Tb.news ⟨x, dx, Dl, tkk, n1, 0, hsh⟩ [] ++ stat)) F9 (news_sub N9 ?hsubS1) ⟨?hm1S1, ?hm4S1, ⟨x, dx, Dl, tkk, n1, 0, hsh⟩, ?hm2S1, hD1, ?hoffS1, rfl⟩
      case hm1S1 => walk_at "m_fact"
      case hm4S1 => walk_at "m_fact"
      case hm2S1 => rfl
      case hoffS1 =>
        intro q hq hm
        obtain ⟨p, hp', e⟩ := List.mem_map.mp hm
        have h1 := hD1 p (.tail _ hp')
        have h2 := l2 p (.tail _ (.tail _ hp'))
        rcases List.mem_cons.mp hq with rfl | hq
        · exact Nat.ne_of_lt (Nat.lt_trans h2 l3) e
        rcases List.mem_cons.mp hq with rfl | hq
        · exact Nat.ne_of_lt h2 e
        rcases List.mem_cons.mp hq with rfl | hq
        · exact h1 e
        · exact absurd hq (by simp [tupsOf])
      case hsubS1 =>
        intro q hq
        rcases List.mem_cons.mp hq with rfl | hq
        · exact .tail _ (.tail _ (.tail _ (.head _)))
        rcases List.mem_cons.mp hq with rfl | hq
        · exact .tail _ (.tail _ (.tail _ (.tail _ (.head _))))
        rcases List.mem_cons.mp hq with rfl | hq
        · exact .head _
        rcases List.mem_cons.mp hq with rfl | hq
        · exact .tail _ (.head _)
        rcases List.mem_cons.mp hq with rfl | hq
        · exact .tail _ (.tail _ (.head _))
        · exact .tail _ (.tail _ (.tail _ (.tail _ (.tail _ hq))))
  clear F' N1 m1 m2
  intro h tk m news F1 N1 ⟨m1, m2, FB, m3, hFB, hap, hnews⟩
  subst hnews
  dsimp only at F1 N1 ⊢
  refine cut_ F1 (RoundJ L' B FB r ad oc stat e te adj D P 1) ?s2 ?r2
  case s2 =>
    replace N1 : News g L' h ((B.o, instObj 232 B.dx) :: (B.dx, dictOf [⟨B.hsh, .str (Str.ofString "_headers") B.tk, .ref B.hl⟩] B.n1) :: (L' + 1, oc) :: (r, W.listOf (roadRefs ad).toArray 0) :: (FB.news [] ++ stat)) := fun q hq => by
      rcases List.mem_cons.mp hq with rfl | hq
      · exact N1 _ (.tail _ (.tail _ (List.mem_append.mpr (.inr (hsB _ (.head _))))))
      rcases List.mem_cons.mp hq with rfl | hq
      · exact N1 _ (.tail _ (.tail _ (List.mem_append.mpr (.inr (hsB _ (.tail _ (.head _)))))))
      · exact N1 q hq
    repeat (first | (k_unfold; (try dsimp only)) | (walk1; (try dsimp only)))
    unfold Stop
    have hinB : ∀ q ∈ B.news es, q ∈ (B.o, instObj 232 B.dx) :: (B.dx, dictOf [⟨B.hsh, .str (Str.ofString "_headers") B.tk, .ref B.hl⟩] B.n1) :: (L' + 1, oc) :: (r, W.listOf (roadRefs ad).toArray 0) :: (FB.news [] ++ stat) := fun q hq => .tail _ (.tail _ (.tail _ (.tail _ (List.mem_append.mpr (.inr (hsB q hq))))))
    refine get_row5 (B := B) (es := es) (i := 0) (up := true) X' T' (Fr.keep F1) rfl (news_tab N1 hinB) (news_off N1 hinB) hR (by first | rfl | exact nm_A0) (by omega) hes (by walk_at "m_room") (by walk_at "m_room") ?_
    intro tr h5 tk5 hs5
    dsimp only at hs5
    replace F1 := F1.keeps hs5
    replace N1 := N1.grown hs5
    repeat (first | (k_unfold; (try dsimp only)) | (walk1; (try dsimp only)))
    unfold Stop
    have hin : ∀ q ∈ FB.news [], q ∈ (B.o, instObj 232 B.dx) :: (B.dx, dictOf [⟨B.hsh, .str (Str.ofString "_headers") B.tk, .ref B.hl⟩] B.n1) :: (L' + 1, oc) :: (r, W.listOf (roadRefs ad).toArray 0) :: (FB.news [] ++ stat) := fun q hq => .tail _ (.tail _ (.tail _ (.tail _ (List.mem_append.mpr (.inl hq)))))
    refine setdef_spec' (B := FB) (es := []) (i := 0) (up := false) X' T' (Fr.keep F1) rfl (news_tab N1 hin) (news_off N1 hin) (by first | rfl | exact nm_a0) rfl (by omega) rfl (fun _ h => nomatch h) (by simp) (by have := hD 0 (by omega); omega) (hP 0 (by omega)) (by walk_at "m_room") (by walk_at "m_room") ?_
    intro h6 tk6 n2 rr hk6 hf6 hr6 hl6
    dsimp only at hk6 hf6
    obtain ⟨F6, N6⟩ := set_newsP (pre := [(B.o, instObj 232 B.dx), (B.dx, dictOf [⟨B.hsh, .str (Str.ofString "_headers") B.tk, .ref B.hl⟩] B.n1), (L' + 1, oc), (r, W.listOf (roadRefs ad).toArray 0)]) (post := stat) F1 N1 (allNe_cons (hFB (B.o, instObj 232 B.dx) (.tail _ (.tail _ (hsB _ (.head _))))) (allNe_cons (hFB (B.dx, dictOf [⟨B.hsh, .str (Str.ofString "_headers") B.tk, .ref B.hl⟩] B.n1) (.tail _ (.tail _ (hsB _ (.tail _ (.head _)))))) hFB)) hk6 hf6 hr6 hl6
    have hrr : rr ∉ ((r, W.listOf (roadRefs ad).toArray 0) :: stat).map (·.1) := fun hm => by
      obtain ⟨q, hq, e⟩ := List.mem_map.mp hm
      have hq' : q ∈ (L' + 1, oc) :: (r, W.listOf (roadRefs ad).toArray 0) :: (FB.news [] ++ stat) := by
        rcases List.mem_cons.mp hq with rfl | hq
        · exact .tail _ (.head _)
        · exact .tail _ (.tail _ (List.mem_append.mpr (.inr hq)))
      have := (N1 q (.tail _ (.tail _ hq'))).1
      rw [e, hf6] at this; cases this
    clear F1 N1
    repeat (first | (k_unfold; (try dsimp only)) | (walk1; (try dsimp only)))
    refine CutEnd.intro F6 (news_sub N6 fun q hq => .tail _ (.tail _ hq)) ⟨m1, m2, m3, n2, _, Fresh.add (fes := []) ⟨rfl, fun _ h => nomatch h⟩ (.inl ⟨rfl, rfl, rfl⟩), off_add hap hrr, rfl⟩
  clear F1 N1 m1 m2 m3
  intro h tk m news F1 N1 hJ1
  refine cut_ F1 (RoundJ L' B FB r ad oc stat e te adj D P 5) ?s3 ?r3
  case s3 =>
    refine for_rangeX (g := g) rfl ?_ (by intro _; rfl) PassesOwn.never
    repeat (first | (k_unfold; (try dsimp only)) | (walk1; (try dsimp only)))
    rename IsRange _ _ _ _ _ _ _ _ => hR
    with_reducible rename Fr _ _ _ _ => F9
    with_reducible rename News _ _ _ _ => N9
    refine ⟨_, 1, 4, fun i => RoundJ L' B FB r ad oc stat e te adj D P (i + 1), rfl, ⟨rfl, ⟨_, _, _, hR⟩, ⟨by omega, by omega⟩, ⟨_, _, F9, N9, hJ1⟩, ?turnS3, ?doneS3⟩⟩
    case doneS3 =>
      intro h tk m news hJ F N
      exact CutEnd.intro F N hJ
    case turnS3 =>
      clear F9 N9 hR hJ1 hap
      rintro I oI i ti m news h tk hoI hi ⟨m1, m2, m3, n2, fes, hF, hap, rfl⟩ hoff F1 N1
      generalize hkd : i + 1 = k at hF
      rw [show (1 + (i : Int)) = ((k : Nat) : Int) by omega]
      have hk5 : k < 5 := by omega
      have hk0 : k ≠ 0 := by omega
      iterate 2 (first | (k_unfold; (try dsimp only)) | (walk1; (try dsimp only)))
      with_reducible rename Fr _ _ _ _ => F2
      with_reducible rename News _ _ _ _ => N2
      obtain ⟨M1, F3, m1', m2', m3', m4'⟩ : ∃ M1, Fr g L' _ M1 ∧ M1 "roads" = some (.ref r) ∧ M1 "end" = some (.str (lit e) te) ∧ M1 "fresh" = some (.ref FB.o) ∧ M1 "k" = some (.int (k : Int) ti) := ⟨_, F2, by walk_at "m_fact", by walk_at "m_fact", by walk_at "m_fact", if_pos rfl⟩
      clear F2 m1 m2 m3
      (try clear F1); (try clear N1)
      have hIF : @Ne Nat I FB.hl := fun q => hoff (FB.hl, W.listOf (fes.map fun e => Value.ref e.a).toArray n2) (.tail _ (.tail _ (.tail _ (.tail _ (.head _))))) q.symm
      refine cut_ F3 (fun m news => m "roads" = some (.ref r) ∧ m "end" = some (.str (lit e) te) ∧ m "fresh" = some (.ref FB.o) ∧ m "k" = some (.int (k : Int) ti) ∧ ∃ hd ys nh, m "heard" = some (.ref hd) ∧ StrsAre ys.toList ((adj k).map fun j => row (D j) (P j)) ∧ @Ne Nat hd FB.hl ∧ news = (hd, W.listOf ys nh) :: (I, oI) :: (L' + 1, oc) :: (r, W.listOf (roadRefs ad).toArray 0) :: (({ FB with n2 := n2 } : Tb).news fes ++ stat)) ?v1S3 ?x1S3
      case v1S3 =>
        have N3 : News g L' _ ((ad k, W.listOf (vs k).toArray (ns k)) :: (B.o, instObj 232 B.dx) :: (B.dx, dictOf [⟨B.hsh, .str (Str.ofString "_headers") B.tk, .ref B.hl⟩] B.n1) :: (I, oI) :: (L' + 1, oc) :: (r, W.listOf (roadRefs ad).toArray 0) :: (({ FB with n2 := n2 } : Tb).news fes ++ stat)) := fun q hq => by
          rcases List.mem_cons.mp hq with rfl | hq
          · exact N2 _ (.tail _ (.tail _ (.tail _ (List.mem_append.mpr (.inr (hsR k hk5))))))
          rcases List.mem_cons.mp hq with rfl | hq
          · exact N2 _ (.tail _ (.tail _ (.tail _ (List.mem_append.mpr (.inr (hsB _ (.head _)))))))
          rcases List.mem_cons.mp hq with rfl | hq
          · exact N2 _ (.tail _ (.tail _ (.tail _ (List.mem_append.mpr (.inr (hsB _ (.tail _ (.head _))))))))
          · exact N2 q hq
        clear N2
        have hvk := hI.nums k hk5
        repeat (first | (k_unfold; (try dsimp only)) | (walk1; (try dsimp only)))
        unfold Stop
        refine' assign_listX ?hswS31 ?hhS31 ?hclosS31 ?hcellS31 ?hkindS31 ?hnamesS31 ?hxS31 ?hyS31 ?hpS31 ?_ ?hsS31
        case hswS31 => rfl
        case hsS31 => intro _; rfl
        case hhS31 => exact rfl
        case hclosS31 => with_unfolding_all rfl
        case hcellS31 => decide
        case hkindS31 => rfl
        case hnamesS31 => decide
        case hxS31 => rfl
        case hyS31 => rfl
        case hpS31 => rfl
        repeat (first | (k_unfold; (try dsimp only)) | (walk1; (try dsimp only)))
        with_reducible rename Fr _ _ _ _ => F5
        with_reducible rename News _ _ _ _ => N5
        rename IntsAre _ _ => hvk
        refine ⟨ad k, _, fun _ => true, fun v y => ∃ j : Nat, ∃ t1 t2, v = .int ((j : Nat) : Int) t1 ∧ y = .str (row (D j) (P j)) t2, _, rfl, ⟨News.isList N5 (n := ns k) (.head _), ?sizeS31, F5.ns, ?testsS31, ?eltS31, ?outS31⟩⟩
        case sizeS31 =>
          rw [List.size_toArray, hvk.length, List.length_map]
          have := hI.len k hk5
          unfold sizeLine; omega
        case testsS31 =>
          intro C v s₃ m₃ E' hv hC hn₃ hm₃ hk₃
          exact wpAny_tests_nil ⟨rfl, _, _, rfl, fun _ _ e => e⟩
        case eltS31 =>
          intro C v s₃ m₃ E' hv _ hC hn₃ hm₃ hk₃
          obtain ⟨h₃, g₃, d₃, t₃, o₃⟩ := s₃
          dsimp only at hn₃ hk₃ ⊢
          obtain ⟨j, hj, tj, rfl⟩ := ints_mem hvk (by simpa using hv)
          have hj5 := hI.lt k hk5 j hj
          have F3 := F5.keeps hk₃
          have N3 := N5.grown hk₃
          clear F5 N5 hvk
          repeat (first | (k_unfold; (try dsimp only)) | (walk1; (try dsimp only)))
          unfold Stop
          have hinB : ∀ q ∈ B.news es, q ∈ (ad k, W.listOf (vs k).toArray (ns k)) :: (B.o, instObj 232 B.dx) :: (B.dx, dictOf [⟨B.hsh, .str (Str.ofString "_headers") B.tk, .ref B.hl⟩] B.n1) :: (I, oI) :: (L' + 1, oc) :: (r, W.listOf (roadRefs ad).toArray 0) :: (({ FB with n2 := n2 } : Tb).news fes ++ stat) := fun q hq => .tail _ (.tail _ (.tail _ (.tail _ (.tail _ (.tail _ (List.mem_append.mpr (.inr (hsB q hq))))))))
          refine get_row5 (B := B) (es := es) (i := j) (up := true) X' T' (Fr.keep F3) rfl (news_tab N3 hinB) (news_off N3 hinB) hR (item_ABCDE hj5) hj5 hes (by walk_at "m_room") (by walk_at "m_room") ?_
          intro tr h5 tk5 hs5
          dsimp only at hs5
          exact ⟨⟨j, _, _, rfl, rfl⟩, _, _, rfl, hs5⟩
        case outS31 =>
          intro D2 h6 tk6 ys n6 hD2 hD2' hP2 hns6 hk6
          dsimp only at hD2 hk6 hns6 ⊢
          refine keep5 F5 N5 hns6 hk6 hD2 hD2' fun F6 N6 ne6 => ?_
          have hdF : @Ne Nat D2 FB.hl := fun q => ne6 (FB.hl, W.listOf (fes.map fun e => Value.ref e.a).toArray n2) (.tail _ (.tail _ (.tail _ (.tail _ (.tail _ (.tail _ (.tail _ (.tail _ (.head _))))))))) q.symm
          clear F5 N5 ne6
          rw [filter_all] at hP2
          have hys : StrsAre ys.toList ((adj k).map fun j => row (D j) (P j)) := paired_strs hvk (by simpa using hP2)
          refine CutEnd.intro (news' := (D2, W.listOf ys n6) :: (I, oI) :: (L' + 1, oc) :: (r, W.listOf (roadRefs ad).toArray 0) :: (({ FB with n2 := n2 } : Tb).news fes ++ stat)) F6 (news_sub N6 fun q hq => ?_) ⟨by walk_at "m_fact", by walk_at "m_fact", by walk_at "m_fact", by walk_at "m_fact", D2, ys, n6, if_pos rfl, hys, hdF, rfl⟩
          rcases List.mem_cons.mp hq with rfl | hq
          · exact .head _
          · exact .tail _ (.tail _ (.tail _ (.tail _ hq)))
      clear F3 N2 m1' m2' m3' m4'
      intro h tk m news F1 N1 ⟨m1, m2, m3, m4, hd, ys, nh, m5, hys, hdF, hnews⟩
      subst hnews
      dsimp only at F1 N1 ⊢
      have N3 : News g L' h ((B.o, instObj 232 B.dx) :: (B.dx, dictOf [⟨B.hsh, .str (Str.ofString "_headers") B.tk, .ref B.hl⟩] B.n1) :: (hd, W.listOf ys nh) :: (I, oI) :: (L' + 1, oc) :: (r, W.listOf (roadRefs ad).toArray 0) :: (({ FB with n2 := n2 } : Tb).news fes ++ stat)) := fun q hq => by
        rcases List.mem_cons.mp hq with rfl | hq
        · exact N1 _ (.tail _ (.tail _ (.tail _ (.tail _ (List.mem_append.mpr (.inr (hsB _ (.head _))))))))
        rcases List.mem_cons.mp hq with rfl | hq
        · exact N1 _ (.tail _ (.tail _ (.tail _ (.tail _ (List.mem_append.mpr (.inr (hsB _ (.tail _ (.head _)))))))))
        · exact N1 q hq
      clear N1
      have hBo : @Ne Nat B.o FB.hl := hFB (B.o, instObj 232 B.dx) (.tail _ (.tail _ (hsB _ (.head _))))
      have hBd : @Ne Nat B.dx FB.hl := hFB (B.dx, dictOf [⟨B.hsh, .str (Str.ofString "_headers") B.tk, .ref B.hl⟩] B.n1) (.tail _ (.tail _ (hsB _ (.tail _ (.head _)))))
      repeat (first | (k_unfold; (try dsimp only)) | (walk1; (try dsimp only)))
      all_goals repeat (first | (k_unfold; (try dsimp only)) | (walk1; (try dsimp only)))
      · rename (_ == _) = true => hz
        have hadj := (strs_nil hys).mp hz
        with_reducible rename Fr _ _ _ _ => F4
        with_reducible rename News _ _ _ _ => N4
        replace N4 := news_sub N4 (tab := (B.o, instObj 232 B.dx) :: (B.dx, dictOf [⟨B.hsh, .str (Str.ofString "_headers") B.tk, .ref B.hl⟩] B.n1) :: (hd, W.listOf ys nh) :: (I, oI) :: (L' + 1, oc) :: (r, W.listOf (roadRefs ad).toArray 0) :: (({ FB with n2 := n2 } : Tb).news fes ++ stat)) fun q hq => .tail _ hq
        unfold Stop
        have hinB : ∀ q ∈ B.news es, q ∈ (B.o, instObj 232 B.dx) :: (B.dx, dictOf [⟨B.hsh, .str (Str.ofString "_headers") B.tk, .ref B.hl⟩] B.n1) :: (hd, W.listOf ys nh) :: (I, oI) :: (L' + 1, oc) :: (r, W.listOf (roadRefs ad).toArray 0) :: (({ FB with n2 := n2 } : Tb).news fes ++ stat) := fun q hq => .tail _ (.tail _ (.tail _ (.tail _ (.tail _ (.tail _ (List.mem_append.mpr (.inr (hsB q hq))))))))
        refine get_row5 (B := B) (es := es) (i := k) (up := true) X' T' (Fr.keep F4) rfl (news_tab N4 hinB) (news_off N4 hinB) hR (item_ABCDE hk5) hk5 hes (by walk_at "m_room") (by walk_at "m_room") ?_
        intro tr h5 tk5 hs5
        dsimp only at hs5
        replace F4 := F4.keeps hs5
        replace N4 := N4.grown hs5
        repeat (first | (k_unfold; (try dsimp only)) | (walk1; (try dsimp only)))
        unfold Stop
        have hin : ∀ q ∈ Tb.news { FB with n2 := n2 } fes, q ∈ (B.o, instObj 232 B.dx) :: (B.dx, dictOf [⟨B.hsh, .str (Str.ofString "_headers") B.tk, .ref B.hl⟩] B.n1) :: (hd, W.listOf ys nh) :: (I, oI) :: (L' + 1, oc) :: (r, W.listOf (roadRefs ad).toArray 0) :: (({ FB with n2 := n2 } : Tb).news fes ++ stat) := fun q hq => .tail _ (.tail _ (.tail _ (.tail _ (.tail _ (.tail _ (List.mem_append.mpr (.inl hq)))))))
        refine setdef_spec' (B := { FB with n2 := n2 }) (es := fes) (i := k) (up := false) X' T' (Fr.keep F4) rfl (news_tab N4 hin) (news_off N4 hin) (item_abcde hk5) rfl hk5 hF.none (fun e he => by have := hF.lt e he; omega) (by have := hF.len; omega) (by have := hD k hk5; omega) (hP k hk5) (by walk_at "m_room") (by walk_at "m_room") ?_
        intro h6 tk6 n3 rr hk6 hf6 hr6 hl6
        dsimp only at hk6 hf6 hl6
        obtain ⟨y, ya, yu, yi, yr, F6, N6⟩ := set_newsX (tb := { FB with n2 := n2 }) (pre := [(B.o, instObj 232 B.dx), (B.dx, dictOf [⟨B.hsh, .str (Str.ofString "_headers") B.tk, .ref B.hl⟩] B.n1), (hd, W.listOf ys nh), (I, oI), (L' + 1, oc), (r, W.listOf (roadRefs ad).toArray 0)]) (post := stat) F4 N4 (allNe_cons hBo (allNe_cons hBd (allNe_cons hdF (allNe_cons hIF hFB)))) hk6 hf6 hr6 hl6
        have hrr : rr ∉ ((r, W.listOf (roadRefs ad).toArray 0) :: stat).map (·.1) := fun hm => by
          obtain ⟨q, hq, e⟩ := List.mem_map.mp hm
          have hq' : q ∈ (r, W.listOf (roadRefs ad).toArray 0) :: (({ FB with n2 := n2 } : Tb).news fes ++ stat) := by
            rcases List.mem_cons.mp hq with rfl | hq
            · exact .head _
            · exact .tail _ (List.mem_append.mpr (.inr hq))
          have := (N4 q (.tail _ (.tail _ (.tail _ (.tail _ (.tail _ hq')))))).1
          rw [e, hf6] at this; cases this
        have hrI : @Ne Nat rr I := fun e => by
          have := (N4 (I, oI) (.tail _ (.tail _ (.tail _ (.head _))))).1
          rw [show I = rr from e.symm, hf6] at this; cases this
        clear F4 N4
        repeat (first | (k_unfold; (try dsimp only)) | (walk1; (try dsimp only)))
        refine TurnEnd.next (news' := (L' + 1, oc) :: (r, W.listOf (roadRefs ad).toArray 0) :: (Tb.news { FB with n2 := n3 } (fes ++ [y]) ++ stat)) F6 (news_sub N6 fun q hq => .tail _ (.tail _ (.tail _ hq))) (off_base (pre := [(L' + 1, oc), (r, W.listOf (roadRefs ad).toArray 0)]) hoff (ya ▸ hrI)) ⟨m1, m2, m3, n3, _, ?_, off_add hap (ya ▸ hrr), rfl⟩
        exact hF.addX yi yu yr (.inr (.inl ⟨hadj, rfl, rfl⟩))
      · rename (_ == _) = false => hz
        have hadj : adj k ≠ [] := fun q => by rw [(strs_nil hys).mpr q] at hz; cases hz
        with_reducible rename Fr _ _ _ _ => F4
        with_reducible rename News _ _ _ _ => N4
        rename_i el0 hh0 q0 Cl hh1 q1 hh2
        have hCl : ∀ p ∈ (B.o, instObj 232 B.dx) :: (B.dx, dictOf [⟨B.hsh, .str (Str.ofString "_headers") B.tk, .ref B.hl⟩] B.n1) :: (hd, W.listOf ys nh) :: (I, oI) :: (L' + 1, oc) :: (r, W.listOf (roadRefs ad).toArray 0) :: (({ FB with n2 := n2 } : Tb).news fes ++ stat), p.1 ≠ Cl := allLt_ne (l := (B.o, instObj 232 B.dx) :: (B.dx, dictOf [⟨B.hsh, .str (Str.ofString "_headers") B.tk, .ref B.hl⟩] B.n1) :: (hd, W.listOf ys nh) :: (I, oI) :: (L' + 1, oc) :: (r, W.listOf (roadRefs ad).toArray 0) :: (({ FB with n2 := n2 } : Tb).news fes ++ stat)) q1.2
        have N5 := news_sub N4 (tab := (Cl, W.listOf #[] 0) :: (hd, W.listOf ys nh) :: (I, oI) :: (L' + 1, oc) :: (r, W.listOf (roadRefs ad).toArray 0) :: (({ FB with n2 := n2 } : Tb).news fes ++ stat)) fun q hq => by
          rcases List.mem_cons.mp hq with rfl | hq
          · exact .head _
          · exact .tail _ (.tail _ (.tail _ (.tail _ hq)))
        obtain ⟨M2, F5, n1, n2', n3, n4, n5, n6⟩ : ∃ M2, Fr g L' hh2 M2 ∧ M2 "roads" = some (.ref r) ∧ M2 "end" = some (.str (lit e) te) ∧ M2 "fresh" = some (.ref FB.o) ∧ M2 "k" = some (.int (k : Int) ti) ∧ M2 "heard" = some (.ref hd) ∧ M2 "claims" = some (.ref Cl) := ⟨_, F4, by walk_at "m_fact", by walk_at "m_fact", by walk_at "m_fact", by walk_at "m_fact", by walk_at "m_fact", if_pos rfl⟩
        clear F4 N4 q0 q1 m1 m2 m3 m4 m5
        (try clear F1)
        have hall : ∀ j ∈ adj k, D j ≤ 10 ∧ P j < 65536 := fun j hj => ⟨(hD j (hI.lt k hk5 j hj)).2, hP j (hI.lt k hk5 j hj)⟩
        have hsum := rows_len hall
        have hlen := hI.len k hk5
        have hrne : ((adj k).map fun j => rowL (D j) (P j)) ≠ [] := fun q => hadj (List.map_eq_nil_iff.mp q)
        unfold Stop
        refine for_listX (g := g) rfl ?_ (by intro _; rfl) PassesOwn.never
        repeat (first | (k_unfold; (try dsimp only)) | (walk1; (try dsimp only)))
        unfold Stop
        refine join_listC (News.isList N5 (n := nh) (.tail _ (.head _))) hys (by rw [lit_len]; rcases he with rfl | rfl | rfl <;> simp) (by rw [rows_sum, List.length_map]; omega) fun t6 k6 => ?_
        rw [rows_lit, joinL_lit hrne]
        dsimp only
        repeat (first | (k_unfold; (try dsimp only)) | (walk1; (try dsimp only)))
        unfold Stop
        refine quote_join X' T' (Fr.keep F5) rfl he hrne (fun x hx => ?dotS32) ?szS32 (by walk_at "m_room") (by walk_at "m_room") ?_
        case dotS32 =>
          obtain ⟨j, hj, rfl⟩ := List.mem_map.mp hx
          exact rowL_dotted (hD j (hI.lt k hk5 j hj)).1
        case szS32 => rw [List.length_map]; omega
        intro u h5 tk5 hs5
        dsimp only at hs5
        replace F5 := F5.keeps hs5
        replace N5 := N5.grown hs5
        repeat (first | (k_unfold; (try dsimp only)) | (walk1; (try dsimp only)))
        unfold Stop
        have h13 : ∀ x ∈ ((adj k).map fun j => rowL (D j) (P j)).map (46 :: ·), 13 ∉ x := fun x hx hm => by
          obtain ⟨y, hy, rfl⟩ := List.mem_map.mp hx
          obtain ⟨j, hj, rfl⟩ := List.mem_map.mp hy
          rcases List.mem_cons.mp hm with q | hm
          · exact absurd q (by decide)
          · have := (rowL_range _ _ 13 hm).1; omega
        have hjl := joinL_length (e := [13, 10]) (((adj k).map fun j => rowL (D j) (P j)).map (46 :: ·))
        rw [dots_length, List.length_map, List.length_map] at hjl
        try rw [List.length_map] at hjl
        refine splitN1 F5 N5 (by decide) (fun l h6 k7 hl F6 N6 => ?_) (by rw [lit_len, sizeLine_eq]; simp only [List.length_cons, List.length_nil] at hjl; omega)
        rw [c_crlf, split_join (fun q => hrne (List.map_eq_nil_iff.mp q)) h13, rows_dot] at hl
        dsimp only at N6 ⊢
        generalize hsl : h5.objs.size = sl at N6 ⊢
        have hslN : ∀ p ∈ (Cl, W.listOf #[] 0) :: (hd, W.listOf ys nh) :: (I, oI) :: (L' + 1, oc) :: (r, W.listOf (roadRefs ad).toArray 0) :: (({ FB with n2 := n2 } : Tb).news fes ++ stat), p.1 ≠ sl := fun p hp q => by
          have := Heap.lt_size (N5 p hp).1
          rw [q, ← hsl] at this
          exact Nat.lt_irrefl _ this
        clear hsl hjl h13
        replace N6 : News g L' h6 ((Cl, W.listOf (([] : List CEnt).map fun c => Value.ref c.a).toArray 0) :: (sl, W.listOf (strValues l).toArray 0) :: (I, oI) :: (L' + 1, oc) :: (r, W.listOf (roadRefs ad).toArray 0) :: (({ FB with n2 := n2 } : Tb).news fes ++ (stat ++ centsOf D P (Txt.item (Str.ofString "abcde") (k : Int)) []))) := fun q hq => by
          rcases List.mem_cons.mp hq with rfl | hq
          · exact N6 _ (.tail _ (.head _))
          rcases List.mem_cons.mp hq with rfl | hq
          · exact N6 _ (.head _)
          rcases List.mem_cons.mp hq with rfl | hq
          · exact N6 _ (.tail _ (.tail _ (.tail _ (.head _))))
          rcases List.mem_cons.mp hq with rfl | hq
          · exact N6 _ (.tail _ (.tail _ (.tail _ (.tail _ (.head _)))))
          rcases List.mem_cons.mp hq with rfl | hq
          · exact N6 _ (.tail _ (.tail _ (.tail _ (.tail _ (.tail _ (.head _))))))
          · rcases List.mem_append.mp hq with hq | hq
            · exact N6 _ (.tail _ (.tail _ (.tail _ (.tail _ (.tail _ (.tail _ (List.mem_append.mpr (.inl hq))))))))
            · rcases List.mem_append.mp hq with hq | hq
              · exact N6 _ (.tail _ (.tail _ (.tail _ (.tail _ (.tail _ (.tail _ (List.mem_append.mpr (.inr hq))))))))
              · exact absurd hq (by simp [centsOf])
        have hslC : @Ne Nat sl Cl := fun q => hslN _ (.head _) q.symm
        have hslF : @Ne Nat sl FB.hl := fun q => hslN (FB.hl, W.listOf (fes.map fun e => Value.ref e.a).toArray n2) (.tail _ (.tail _ (.tail _ (.tail _ (.tail _ (List.mem_append.mpr (.inl (.tail _ (.tail _ (.head _)))))))))) q.symm
        have hClF : @Ne Nat Cl FB.hl := fun q => hCl (FB.hl, W.listOf (fes.map fun e => Value.ref e.a).toArray n2) (.tail _ (.tail _ (.tail _ (.tail _ (.tail _ (.tail _ (List.mem_append.mpr (.inl (.tail _ (.tail _ (.head _))))))))))) q.symm
        have hClB : ∀ p ∈ (I, oI) :: (L' + 1, oc) :: (r, W.listOf (roadRefs ad).toArray 0) :: (({ FB with n2 := n2 } : Tb).news fes ++ stat), p.1 ≠ Cl := fun p hp => hCl p (.tail _ (.tail _ (.tail _ hp)))
        have hll : (strValues l).length = (adj k).length := by
          have := congrArg List.length hl
          simpa [strValues] using this
        clear F5 N5 hslN
        refine ⟨sl, (strValues l).toArray, HearJ Cl sl I r oI ad oc L' stat e te adj D P k ti (strValues l) ({ FB with n2 := n2 } : Tb) fes, rfl, ⟨rfl, ⟨_, _, F6, N6, n1, n2', n3, n4, n6, [], 0, rfl, (fun _ h => nomatch h), rfl⟩, go_name, ?hlistS32, ?turn2S32, ?done2S32⟩⟩
        case hlistS32 =>
          rintro i2 m news h ⟨_, _, _, _, _, ces, nc, _, _, rfl⟩ F N
          exact News.isList N (n := 0) (.tail _ (.head _))
        case turn2S32 =>
          clear N6 F6 n1 n2' n3 n4 n5 n6
          rintro I2 oI2 i2 v m news h tk hoI2 hv ⟨n1, n2', n3, n4, n6, ces, nc, hcj, hcn, rfl⟩ hoff2 F N
          obtain ⟨j, tj, hj, rfl⟩ := strs_at hl hv
          have hjm : j ∈ adj k := List.mem_of_getElem? hj
          obtain ⟨hDj, hPj⟩ := hall j hjm
          have hI2C : @Ne Nat I2 Cl := fun q => hoff2 (Cl, W.listOf (ces.map fun c => Value.ref c.a).toArray nc) (.head _) q.symm
          have hrest : ∀ p ∈ (sl, W.listOf (strValues l).toArray 0) :: (I, oI) :: (L' + 1, oc) :: (r, W.listOf (roadRefs ad).toArray 0) :: (({ FB with n2 := n2 } : Tb).news fes ++ (stat ++ centsOf D P (Txt.item (Str.ofString "abcde") (k : Int)) ces)), p.1 ≠ Cl := allNe_cons hslC (off_cents (pre := [(I, oI), (L' + 1, oc), (r, W.listOf (roadRefs ad).toArray 0)]) (fn := Tb.news { FB with n2 := n2 } fes) (stat := stat) (D := D) (P := P) (x := Txt.item (Str.ofString "abcde") (k : Int)) hClB hcn)
          have hcl2 : ces.length ≤ 25 := by
            have h1 := congrArg List.length hcj
            rw [List.length_map, List.length_take] at h1
            omega
          repeat (first | (k_unfold; (try dsimp only)) | (walk1; (try dsimp only)))
          unfold Stop
          with_reducible rename Fr _ _ _ _ => F4
          with_reducible rename News _ _ _ _ => N4
          rename (_ < _ ∧ _) => l4
          rename_i Dq hq4
          have hqC : @Ne Nat Dq Cl := Nat.ne_of_gt l4.2.1
          refine parse_spec (q := Dq) X' T' (Fr.keep F4) rfl (News.get N4 (.head _)) (News.fresh N4 (.head _)) hPj (by walk_at "m_room") (by walk_at "m_room") ?_
          intro r9 u9 h9 tk9 hs9 hf9 hr9
          dsimp only at hs9 hf9 hr9
          refine keep3 F4 N4 hs9 hf9 hr9 fun F6 N6 ne6 => ?_
          have h9C : @Ne Nat r9 Cl := fun q => ne6 (Cl, W.listOf (ces.map fun c => Value.ref c.a).toArray nc) (.tail _ (.tail _ (.head _))) q.symm
          clear F4 N4 ne6 l4
          repeat (first | (k_unfold; (try dsimp only)) | (walk1; (try dsimp only)))
          with_reducible rename Fr _ _ _ _ => F9
          with_reducible rename News _ _ _ _ => N9
          rename (_ < _ ∧ _) => l5
          rename_i Dt ht1 ht2
          rw [show ((P j : Int) + ((D j + 1 + 11 + (digs (P j)).length : Nat) : Int) - ((11 + (digs (P j)).length : Nat) : Int)) = ((P j + D j + 1 : Nat) : Int) by omega, List.push_toArray] at N9
          have hDtI2 : @Ne Nat Dt I2 := Nat.ne_of_gt l5.2.2.1
          have hDtC : @Ne Nat Dt Cl := Nat.ne_of_gt l5.2.2.2.1
          have hDtI : @Ne Nat Dt I := Nat.ne_of_gt l5.2.2.2.2.2.1
          have hDtF : @Ne Nat Dt FB.hl := Nat.ne_of_gt (allLt_mem l5.2.2.2.2.2.2.2.2 (FB.hl, W.listOf (fes.map fun e => Value.ref e.a).toArray n2) (List.mem_append.mpr (.inl (.tail _ (.tail _ (.head _))))))
          obtain ⟨c, hca, hcjj, N10⟩ := hear_back (x := Txt.item (Str.ofString "abcde") (k : Int)) (D := D) (P := P) (j := j) (sv := strValues l) (FB := { FB with n2 := n2 }) N9
          refine TurnEnd.next F9 N10 (hear_off hoff2 (hca ▸ hDtI2)) ⟨by walk_at "m_fact", by walk_at "m_fact", by walk_at "m_fact", by walk_at "m_fact", by walk_at "m_fact", ces ++ [c], nc + 1, ?_, ?_, rfl⟩
          · rw [List.map_append, hcj, List.map_cons, List.map_nil, hcjj, List.take_add_one, hj]; rfl
          · intro c' hc'
            rcases List.mem_append.mp hc' with hc' | hc'
            · exact hcn c' hc'
            · rw [List.mem_singleton.mp hc', hca]; exact ⟨hDtC, hDtF, hDtI⟩
        case done2S32 =>
          clear N6 F6 n1 n2' n3 n4 n5 n6
          rintro h tk m news ⟨n1, n2', n3, n4, n6, ces, nc, hcj, hcn, rfl⟩ F N
          rw [List.size_toArray, hll, List.take_length] at hcj
          have hcne : ces ≠ [] := fun q => hadj (by rw [← hcj, q]; rfl)
          have hcm : ∀ c ∈ ces, c.j ∈ adj k := fun c hc => by rw [← hcj]; exact List.mem_map.mpr ⟨c, hc, rfl⟩
          have hck : ∀ c ∈ ces, ∀ c' ∈ ces, P c.j + D c.j = P c'.j + D c'.j → D c.j = D c'.j ∧ P c.j = P c'.j := fun c hc c' hc' q => hkey k hk5 _ (hcm c hc) _ (hcm c' hc') q
          have N2 : News g L' h ((FB.o, instObj 232 FB.dx) :: (FB.dx, dictOf [⟨FB.hsh, .str (Str.ofString "_headers") FB.tk, .ref FB.hl⟩] FB.n1) :: (Cl, W.listOf (ces.map fun c => Value.ref c.a).toArray nc) :: (sl, W.listOf (strValues l).toArray 0) :: (I, oI) :: (L' + 1, oc) :: (r, W.listOf (roadRefs ad).toArray 0) :: (({ FB with n2 := n2 } : Tb).news fes ++ (stat ++ centsOf D P (Txt.item (Str.ofString "abcde") (k : Int)) ces))) := fun q hq => by
            rcases List.mem_cons.mp hq with rfl | hq
            · exact N _ (.tail _ (.tail _ (.tail _ (.tail _ (.tail _ (.head _))))))
            rcases List.mem_cons.mp hq with rfl | hq
            · exact N _ (.tail _ (.tail _ (.tail _ (.tail _ (.tail _ (.tail _ (.head _)))))))
            · exact N q hq
          have hcin : ∀ q ∈ centsOf D P (Txt.item (Str.ofString "abcde") (k : Int)) ces, q ∈ (FB.o, instObj 232 FB.dx) :: (FB.dx, dictOf [⟨FB.hsh, .str (Str.ofString "_headers") FB.tk, .ref FB.hl⟩] FB.n1) :: (Cl, W.listOf (ces.map fun c => Value.ref c.a).toArray nc) :: (sl, W.listOf (strValues l).toArray 0) :: (I, oI) :: (L' + 1, oc) :: (r, W.listOf (roadRefs ad).toArray 0) :: (({ FB with n2 := n2 } : Tb).news fes ++ (stat ++ centsOf D P (Txt.item (Str.ofString "abcde") (k : Int)) ces)) := fun q hq => .tail _ (.tail _ (.tail _ (.tail _ (.tail _ (.tail _ (.tail _ (List.mem_append.mpr (.inr (List.mem_append.mpr (.inr hq))))))))))
          clear N
          repeat (first | (k_unfold; (try dsimp only)) | (walk1; (try dsimp only)))
          unfold Stop
          refine min_hear (ces := ces) N2 (.tail _ (.tail _ (.head _))) hcin hcne hck rfl (by walk_at "m_room") fun c hc h5 tk5 hle hs5 => ?_
          dsimp only at hs5 ⊢
          replace F := F.keeps hs5
          replace N2 := N2.grown hs5
          have N3 : News g L' h5 ((c.a, c.obj D P (Txt.item (Str.ofString "abcde") (k : Int))) :: (FB.o, instObj 232 FB.dx) :: (FB.dx, dictOf [⟨FB.hsh, .str (Str.ofString "_headers") FB.tk, .ref FB.hl⟩] FB.n1) :: (Cl, W.listOf (ces.map fun c => Value.ref c.a).toArray nc) :: (sl, W.listOf (strValues l).toArray 0) :: (I, oI) :: (L' + 1, oc) :: (r, W.listOf (roadRefs ad).toArray 0) :: (({ FB with n2 := n2 } : Tb).news fes ++ (stat ++ centsOf D P (Txt.item (Str.ofString "abcde") (k : Int)) ces))) := fun q hq => by
            rcases List.mem_cons.mp hq with rfl | hq
            · exact N2 _ (hcin _ (List.mem_map.mpr ⟨c, hc, rfl⟩))
            · exact N2 q hq
          clear N2 hs5 hle
          dsimp only [CEnt.obj] at N3
          repeat (first | (k_unfold; (try dsimp only)) | (walk1; (try dsimp only)))
          unfold Stop
          refine min_hear (ces := ces) N3 (.tail _ (.tail _ (.tail _ (.head _)))) (fun q hq => .tail _ (hcin q hq)) hcne hck rfl (by walk_at "m_room") fun c2 hc2 h6 tk6 hle hs6 => ?_
          dsimp only at hs6 ⊢
          replace F := F.keeps hs6
          replace N3 := N3.grown hs6
          have N4 : News g L' h6 ((c2.a, c2.obj D P (Txt.item (Str.ofString "abcde") (k : Int))) :: (FB.o, instObj 232 FB.dx) :: (FB.dx, dictOf [⟨FB.hsh, .str (Str.ofString "_headers") FB.tk, .ref FB.hl⟩] FB.n1) :: (Cl, W.listOf (ces.map fun c => Value.ref c.a).toArray nc) :: (sl, W.listOf (strValues l).toArray 0) :: (I, oI) :: (L' + 1, oc) :: (r, W.listOf (roadRefs ad).toArray 0) :: (({ FB with n2 := n2 } : Tb).news fes ++ (stat ++ centsOf D P (Txt.item (Str.ofString "abcde") (k : Int)) ces))) := fun q hq => by
            rcases List.mem_cons.mp hq with rfl | hq
            · exact N3 _ (.tail _ (hcin _ (List.mem_map.mpr ⟨c2, hc2, rfl⟩)))
            · exact N3 q (.tail _ hq)
          clear N3 hs6
          dsimp only [CEnt.obj] at N4
          repeat (first | (k_unfold; (try dsimp only)) | (walk1; (try dsimp only)))
          unfold Stop
          have N5 := news_sub N4 (tab := (I, oI) :: (L' + 1, oc) :: (r, W.listOf (roadRefs ad).toArray 0) :: (({ FB with n2 := n2 } : Tb).news fes ++ stat)) fun q hq => by
            refine .tail _ (.tail _ (.tail _ (.tail _ (.tail _ ?_))))
            rcases List.mem_cons.mp hq with rfl | hq
            · exact .head _
            rcases List.mem_cons.mp hq with rfl | hq
            · exact .tail _ (.head _)
            rcases List.mem_cons.mp hq with rfl | hq
            · exact .tail _ (.tail _ (.head _))
            rcases List.mem_append.mp hq with hq | hq
            · exact .tail _ (.tail _ (.tail _ (List.mem_append.mpr (.inl hq))))
            · exact .tail _ (.tail _ (.tail _ (List.mem_append.mpr (.inr (List.mem_append.mpr (.inl hq))))))
          clear N4
          have hjm2 := hcm c2 hc2
          obtain ⟨hDj, hPj⟩ := hall c2.j hjm2
          have hin : ∀ q ∈ Tb.news { FB with n2 := n2 } fes, q ∈ (I, oI) :: (L' + 1, oc) :: (r, W.listOf (roadRefs ad).toArray 0) :: (({ FB with n2 := n2 } : Tb).news fes ++ stat) := fun q hq => .tail _ (.tail _ (.tail _ (List.mem_append.mpr (.inl hq))))
          refine setdef_spec' (B := { FB with n2 := n2 }) (es := fes) (i := k) (up := false) X' T' (Fr.keep F) rfl (news_tab N5 hin) (news_off N5 hin) (item_abcde hk5) rfl hk5 hF.none (fun e he => by have := hF.lt e he; omega) (by have := hF.len; omega) (by omega) hPj (by walk_at "m_room") (by walk_at "m_room") ?_
          intro h7 tk7 nn3 rr hk7 hf7 hr7 hl7
          dsimp only at hk7 hf7 hl7
          obtain ⟨y, ya, yu, yi, yr, F6, N6⟩ := set_newsX (tb := { FB with n2 := n2 }) (pre := [(I, oI), (L' + 1, oc), (r, W.listOf (roadRefs ad).toArray 0)]) (post := stat) F N5 (allNe_cons hIF hFB) hk7 hf7 hr7 hl7
          have hrr : rr ∉ ((r, W.listOf (roadRefs ad).toArray 0) :: stat).map (·.1) := fun hm => by
            obtain ⟨q, hq, e⟩ := List.mem_map.mp hm
            have hq' : q ∈ (r, W.listOf (roadRefs ad).toArray 0) :: (({ FB with n2 := n2 } : Tb).news fes ++ stat) := by
              rcases List.mem_cons.mp hq with rfl | hq
              · exact .head _
              · exact .tail _ (List.mem_append.mpr (.inr hq))
            have := (N5 q (.tail _ (.tail _ hq'))).1
            rw [e, hf7] at this; cases this
          have hrI : @Ne Nat rr I := fun e => by
            have := (N5 (I, oI) (.head _)).1
            rw [show I = rr from e.symm, hf7] at this; cases this
          clear F N5
          repeat (first | (k_unfold; (try dsimp only)) | (walk1; (try dsimp only)))
          refine TurnEnd.next (news' := (L' + 1, oc) :: (r, W.listOf (roadRefs ad).toArray 0) :: (Tb.news { FB with n2 := nn3 } (fes ++ [y]) ++ stat)) F6 N6 (off_base (pre := [(L' + 1, oc), (r, W.listOf (roadRefs ad).toArray 0)]) hoff (ya ▸ hrI)) ⟨n1, n2', n3, _, _, ?_, off_add hap (ya ▸ hrr), rfl⟩
          refine hF.addX yi yu yr (.inr (.inr ⟨hk0, c2.j, hjm2, rfl, rfl, fun i hi => ?_⟩))
          rw [← hcj] at hi
          obtain ⟨c', hc', rfl⟩ := List.mem_map.mp hi
          exact hle c' hc'
  clear F1 N1 hJ1
  intro h tk m news F1 N1 ⟨m1, m2, m3, n2, fes, hF, hap, hnews⟩
  subst hnews
  dsimp only at F1 N1 ⊢
  repeat (first | (k_unfold; (try dsimp only)) | (walk1; (try dsimp only)))
  with_reducible rename Fr _ _ _ _ => F9
  with_reducible rename News _ _ _ _ => N9
  refine hret { FB with n2 := n2 } fes _ _ (fin _ _ _ F9 N9 ?_) hF fun q hq => ?_
  · intro q hq
    rcases List.mem_cons.mp hq with rfl | hq
    · exact .tail _ (.head _)
    · exact .tail _ (.tail _ (List.mem_append.mpr (.inr hq)))
  have y := N9 q (.tail _ (.tail _ (List.mem_append.mpr (.inl hq))))
  exact ⟨fresh_of hg y.2.2 (hap q hq), y.1⟩
def dE (e : Ent) : PyData := .tuple [.str (nm e.up e.i), .str e.r]
theorem reads_es {h : Heap} : ∀ {es : List Ent}, (∀ q ∈ tupsOf es, h.get? q.1 = some q.2) → ∃ as, ReadsAll h (es.map fun e => Value.ref e.a) (es.map dE) as
  | [], _ => ⟨_, .nil⟩
  | e :: r, H => by
    obtain ⟨as, h1⟩ := reads_es (es := r) fun q hq => H q (.tail _ hq)
    have h2 := H (e.a, e.obj) (.head _)
    exact ⟨_, .cons (PyProof.Rows.reads_tuple_at h2 rfl rfl (.cons (.str _ _) (.cons (.str _ _) .nil))) h1⟩
theorem strOk_of {x : Str} (h : ∀ c ∈ x.cps.toList, 32 ≤ c ∧ c < 127) : PyData.strOk x = true := by
  unfold PyData.strOk
  rw [← Array.all_toList, List.all_eq_true]
  intro c hc
  have := (h c hc).2
  simp only [decide_eq_true_eq]
  omega
theorem lay_es : ∀ {es : List Ent}, (∀ e ∈ es, e.i < 5 ∧ ∃ d p, e.r = row d p) → PyData.canLayAll0 (es.map dE) = true ∧ PyData.depthAll (es.map dE) ≤ 1
  | [], _ => ⟨rfl, by simp [PyData.depthAll]⟩
  | e :: r, H => by
    obtain ⟨h1, h2⟩ := lay_es (es := r) fun x hx => H x (.tail _ hx)
    obtain ⟨hi, d, p, hr⟩ := H e (.head _)
    have s1 := strOk_of (nm_range e.up hi)
    have s2 : PyData.strOk e.r = true := by rw [hr]; exact strOk_of (row_range d p)
    refine ⟨?_, ?_⟩
    · rw [List.map_cons]
      simp [PyData.canLayAll0, dE, PyData.canLay0, s1, s2, h1]
    · rw [List.map_cons]
      simp only [PyData.depthAll, dE, PyData.depth]
      omega
theorem ne_tabs {Q : Value → Shared → Prop} {r ul : Addr} {n n' : Nat} {es us : List Ent} (hr : s.heap.get? r = some (W.listOf (es.map fun e => Value.ref e.a).toArray n)) (hu : s.heap.get? ul = some (W.listOf (us.map fun e => Value.ref e.a).toArray n'))
    (he : ∀ q ∈ tupsOf es, s.heap.get? q.1 = some q.2) (hut : ∀ q ∈ tupsOf us, s.heap.get? q.1 = some q.2) (hes : es.map dE = us.map dE) (hok : ∀ e ∈ es, e.i < 5 ∧ ∃ d p, e.r = row d p)
    (hun : A.units + 64 < cLine) (h : Q (.bool false) s) : wpAny (model prog w) A (compareOp .NotEq (.ref r) (.ref ul)) Q E s := by
  obtain ⟨as, h1⟩ := reads_es he
  obtain ⟨bs, h2⟩ := reads_es hut
  obtain ⟨l1, l2⟩ := lay_es hok
  have c1 : PyData.canLay0 (.list (es.map dE)) = true := by simpa [PyData.canLay0] using l1
  have sh : SeqAt.shaped (.list (es.map dE)) = true := by
    unfold SeqAt.shaped
    rw [c1, Bool.true_and]
    refine decide_eq_true ?_
    simp only [PyData.depth]
    omega
  refine PyProof.Rows.ne_dataH (PyProof.Rows.reads_list_at hr rfl rfl h1) (PyProof.Rows.reads_list_at hu rfl rfl h2) sh (hes ▸ sh) hun ?_
  rw [← hes, SeqAt.eqv_refl _ c1]
  exact h
theorem ents_of2 {R : Nat → Nat → Nat → Prop} {Gd : Addr × Obj → Prop} : ∀ {outs : List Out}, (∀ o ∈ outs, (∃ T tn tr d p, o.2.1 = .ref T ∧ o.2.2 = [(T, tupO (.str (nm false o.1) tn) (.str (row d p) tr))] ∧ R o.1 d p) ∧ ∀ q ∈ o.2.2, Gd q) →
    ∃ es : List Ent, (outs.map fun o => o.2.1) = (es.map fun e => Value.ref e.a) ∧ es.map Ent.i = outs.map (fun o => o.1) ∧ (∀ e ∈ es, e.up = false ∧ ∃ d p, e.r = row d p ∧ R e.i d p) ∧ ∀ q ∈ tupsOf es, Gd q
  | [], _ => ⟨[], rfl, rfl, by simp, by simp [tupsOf]⟩
  | o :: r, h => by
    obtain ⟨es, h1, h2, h3, h4⟩ := ents_of2 fun o ho => h o (.tail _ ho)
    obtain ⟨⟨T, tn, tr, d, p, e1, e2, e3⟩, hg⟩ := h o (.head _)
    refine ⟨⟨T, false, o.1, row d p, tn, tr⟩ :: es, by simp [h1, e1], by simp [h2], fun e he => ?_, fun q hq => ?_⟩
    · rcases List.mem_cons.mp he with rfl | he
      · exact ⟨rfl, d, p, rfl, e3⟩
      · exact h3 e he
    · rcases List.mem_cons.mp hq with rfl | hq
      · exact hg _ (by rw [e2]; exact .head _)
      · exact h4 q hq
/-- the table holds what is due behind t rounds -/
structure TabOk (adj : Nat → List Nat) (cl : Nat → Nat) (t : Nat) (es : List Ent) : Prop where
  ord : es.map Ent.i = List.range 5
  row : ∀ e ∈ es, e.up = false ∧ ∃ d p, e.r = Mine.row d p ∧ Due adj cl e.i t d p
theorem TabOk.lt {adj : Nat → List Nat} {cl : Nat → Nat} {t : Nat} {es : List Ent} (I : TabOk adj cl t es) : ∀ e ∈ es, e.i < 5 := fun e he => by
  have : e.i ∈ es.map Ent.i := List.mem_map.mpr ⟨e, he, rfl⟩
  rw [I.ord] at this
  exact List.mem_range.mp this
theorem TabOk.len {adj : Nat → List Nat} {cl : Nat → Nat} {t : Nat} {es : List Ent} (I : TabOk adj cl t es) : es.length = 5 := by
  have := congrArg List.length I.ord
  simpa using this
/-- two tables that hold what is due are the same -/
theorem TabOk.same {adj : Nat → List Nat} {cl : Nat → Nat} {t : Nat} : ∀ {es us : List Ent}, es.map Ent.i = us.map Ent.i → (∀ e ∈ es, e.up = false ∧ ∃ d p, e.r = Mine.row d p ∧ Due adj cl e.i t d p) → (∀ e ∈ us, e.up = false ∧ ∃ d p, e.r = Mine.row d p ∧ Due adj cl e.i t d p) → es.map dE = us.map dE
  | [], [], _, _, _ => rfl
  | [], _ :: _, h, _, _ => nomatch h
  | _ :: _, [], h, _, _ => nomatch h
  | e :: es, u :: us, h, he, hu => by
    have h1 : e.i = u.i := (List.cons.inj h).1
    have h2 := (List.cons.inj h).2
    obtain ⟨e1, d, p, e2, e3⟩ := he e (.head _)
    obtain ⟨u1, d', p', u2, u3⟩ := hu u (.head _)
    rw [h1] at e3
    obtain ⟨q1, q2⟩ := e3.uniq u3
    rw [List.map_cons, List.map_cons, TabOk.same h2 (fun x hx => he x (.tail _ hx)) (fun x hx => hu x (.tail _ hx))]
    congr 1
    unfold dE
    rw [e1, u1, h1, e2, u2, q1, q2]
/-- the rows as functions of the letter -/
theorem TabOk.rows {adj : Nat → List Nat} {cl : Nat → Nat} {t : Nat} {es : List Ent} (I : TabOk adj cl t es) : ∃ D P : Nat → Nat, Rows5 es D P ∧ ∀ k, k < 5 → Due adj cl k t (D k) (P k) := by
  have ex : ∀ k, k < 5 → ∃ e, es.find? (fun e => e.i == k) = some e ∧ e ∈ es ∧ e.i = k := fun k hk => by
    have hm : k ∈ es.map Ent.i := by rw [I.ord]; exact List.mem_range.mpr hk
    obtain ⟨e, he, hi⟩ := List.mem_map.mp hm
    cases q : es.find? (fun e => e.i == k) with
    | none =>
      have := List.find?_eq_none.mp q e he
      simp [hi] at this
    | some x => exact ⟨x, rfl, List.mem_of_find?_eq_some q, by simpa using List.find?_some q⟩
  have ex2 : ∀ k, ∃ dp : Nat × Nat, k < 5 → (∃ e, es.find? (fun e => e.i == k) = some e ∧ e.r = Mine.row dp.1 dp.2) ∧ Due adj cl k t dp.1 dp.2 := fun k => by
    by_cases hk : k < 5
    · obtain ⟨e, h1, h2, h3⟩ := ex k hk
      obtain ⟨_, d, p, h4, h5⟩ := I.row e h2
      exact ⟨(d, p), fun _ => ⟨⟨e, h1, h4⟩, h3 ▸ h5⟩⟩
    · exact ⟨(0, 0), fun h => absurd h hk⟩
  obtain ⟨f, hf⟩ := Classical.axiomOfChoice ex2
  exact ⟨fun k => (f k).1, fun k => (f k).2, fun j hj => (hf j hj).1, fun k hk => (hf k hk).2⟩
/-- a round goes from what is due to what is due next -/
theorem fresh_ok {adj : Nat → List Nat} {cl D P : Nat → Nat} {t : Nat} {fes : List Ent} (G : Good adj) (H : ∀ k, k < 5 → Due adj cl k t (D k) (P k)) (I : Fresh adj D P 5 fes) : TabOk adj cl (t + 1) fes := by
  refine ⟨I.ord, fun e he => ?_⟩
  obtain ⟨h1, d, p, h2, h3⟩ := I.row e he
  refine ⟨h1, d, p, h2, ?_⟩
  have hi := I.lt e he
  rcases h3 with ⟨q, rfl, rfl⟩ | ⟨q, rfl, rfl⟩ | ⟨q, j, hj, rfl, rfl, hm⟩
  · rw [q]; exact due_a (H 0 (by omega))
  · exact due_alone q (H _ hi)
  · exact due_step G H hi q hj hm
theorem due_keys {adj : Nat → List Nat} {cl D P : Nat → Nat} {t : Nat} (G : Good adj) (H : ∀ k, k < 5 → Due adj cl k t (D k) (P k)) : ∀ k, k < 5 → ∀ i ∈ adj k, ∀ j ∈ adj k, P i + D i = P j + D j → D i = D j ∧ P i = P j := fun k hk i hi j hj e =>
  due_key (nb_nonempty G hk hi) (nb_nonempty G hk hj) (H i (G.lt k hk i hi)) (H j (G.lt k hk j hj)) e
theorem pick_end {value slice : PySem.Expr} {l : Addr} {a b c u : Tok} {z : Int} (hl : s.heap.IsList l #[.str (Str.ofString "\r\n") a, .str (Str.ofString "\n") b, .str (Str.ofString "\r") c]) (h0 : 0 ≤ z) (h3 : z < 3) (h : ∀ e te, IsEnd e → Q (.str (lit e) te) s)
    (hs : subscripted slice false (.ref l) (.int z u) = operate [.ref l, .int z u] (getItem (.ref l) (.int z u)) := by with_unfolding_all rfl) :
    wpAny (model prog w) A (subscriptTail value slice (.ref l) (.int z u)) Q E s := by
  have hz : z = 0 ∨ z = 1 ∨ z = 2 := by omega
  have e1 : Str.ofString "\r\n" = lit [13, 10] := by decide +kernel
  have e2 : Str.ofString "\n" = lit [10] := by decide +kernel
  have e3 : Str.ofString "\r" = lit [13] := by decide +kernel
  rw [e1, e2, e3] at hl
  rcases hz with rfl | rfl | rfl
  · exact tail_any hl.typeIs slot_list_getitem.lookup (wpAny_getItem_list hl h0 (by decide) (x := .str (lit [13, 10]) a) rfl (h _ _ (.inl rfl))) hs
  · exact tail_any hl.typeIs slot_list_getitem.lookup (wpAny_getItem_list hl h0 (by decide) (x := .str (lit [10]) b) rfl (h _ _ (.inr (.inl rfl)))) hs
  · exact tail_any hl.typeIs slot_list_getitem.lookup (wpAny_getItem_list hl h0 (by decide) (x := .str (lit [13]) c) rfl (h _ _ (.inr (.inr rfl)))) hs
theorem paired_intsF {f : Int → Int} : ∀ {vs ys : List Value} {ns : List Int}, IntsAre vs ns → Paired (fun v y => ∃ n t t', v = .int n t ∧ y = .int (f n) t') vs ys → IntsAre ys (ns.map f)
  | _, _, _, .nil, .nil => .nil
  | _, _, _, .cons n t h, .cons e p => by
    obtain ⟨n', u, u', e1, e2⟩ := e
    cases e1
    rw [e2]
    exact .cons _ _ (paired_intsF h p)
/-- how the law ends -/
def MainEnd (s₁ : Shared) (f : Flow) (s' : Shared) : Prop := f = .ret (.bool true) ∧ ∃ h' tk L m, s' = { heap := h', gens := s₁.gens, drawn := s₁.drawn, toks := tk, os := s₁.os } ∧ Fr s₁.heap L h' m
theorem MainEnd.intro {s₁ : Shared} {L : Addr} {h' : Heap} {tk : Nat} {m : Str → Option Value} (F : Fr s₁.heap L h' m) : MainEnd s₁ (.ret (.bool true)) { heap := h', gens := s₁.gens, drawn := s₁.drawn, toks := tk, os := s₁.os } := ⟨rfl, _, _, _, _, rfl, F⟩
theorem main_cut {M : Model} {T : Sem Flow} {s₁ : Shared} {c : ClaimW} {cl : Str → Option Addr} {mean : ExcName → Option Value} {args : List WData} {E' : Value → Shared → Prop} {h : Heap} {tk : Nat} {L : Addr} {m : Str → Option Value}
    (F0 : Fr s₁.heap L h m) (hg : s₁.gens = #[]) (hn : ∀ cls, c.raises args cls = false) (hp : c.post args (.bool true) args = true)
    (hw : wpAny M A T (MainEnd s₁) (fun _ _ => False) { heap := h, gens := s₁.gens, drawn := s₁.drawn, toks := tk, os := s₁.os }) :
    wpAny M A T (fun f s' => GoodW c cl mean args s₁ (.ok (.ret (match f with | .ret v => v | _ => .none))) s') E' { heap := h, gens := s₁.gens, drawn := s₁.drawn, toks := tk, os := s₁.os } := by
  refine wpAny_mono hw (fun f s' hf => ?_) fun _ _ e => e.elim
  obtain ⟨rfl, h', tk, L, m, rfl, F⟩ := hf
  exact goodW_bool F hg hn hp
theorem ints_mod : ∀ {vs : List Value} {ms : List Int}, IntsAre vs (ms.map fun x => x.fmod 65536) → ∃ ds : List (Nat × Tok), ds.length = vs.length ∧ (∀ d ∈ ds, d.1 < 65536) ∧ vs = ds.map fun d => Value.int (d.1 : Int) d.2 := by
  intro vs
  induction vs with
  | nil => intro ms _; exact ⟨[], rfl, by simp, rfl⟩
  | cons v r ih =>
    intro ms h
    cases ms with
    | nil => cases h
    | cons m ms =>
      cases h with
      | cons _ t h' =>
        obtain ⟨ds, h1, h2, h3⟩ := ih h'
        have e0 : 0 ≤ m.fmod 65536 := fmod_lo m (by decide)
        have e1 : m.fmod 65536 < 65536 := fmod_hi m (by decide)
        refine ⟨((m.fmod 65536).toNat, t) :: ds, by simp [h1], ?_, ?_⟩
        · intro d hd
          rcases List.mem_cons.mp hd with rfl | hd
          · dsimp only; omega
          · exact h2 d hd
        · rw [h3, List.map_cons]
          dsimp only
          rw [Int.toNat_of_nonneg e0]
theorem ints_ds : ∀ (ds : List (Nat × Tok)), IntsAre (ds.map fun d => Value.int ((d.1 : Nat) : Int) d.2) ((ds.map (·.1)).map fun k => ((k : Nat) : Int))
  | [] => .nil
  | d :: ds => .cons _ _ (ints_ds ds)
theorem claims_nums : ∀ {ws : List Value} {cs : List Nat}, IntsAre ws (cs.map fun k => ((k : Nat) : Int)) → ∀ i, i < cs.length → ∃ t, ws[i]? = some (.int ((cs.getD i 0 : Nat) : Int) t)
  | [], [], _, i, hi => absurd hi (Nat.not_lt_zero _)
  | [], _ :: _, h, _, _ => nomatch h
  | _ :: _, [], h, _, _ => nomatch h
  | _ :: _, c :: cs, h, i, hi => by
    cases h with
    | cons _ t h =>
      cases i with
      | zero => exact ⟨t, rfl⟩
      | succ i => exact claims_nums h i (Nat.lt_of_succ_lt_succ hi)
theorem claims_of {ws : List Value} {ds : List (Nat × Tok)} (h : IntsAre ws ([0] ++ (ds.map (·.1)).map (fun k => ((k : Nat) : Int)) ++ List.drop ((((ds.map (·.1)).map fun k => ((k : Nat) : Int)).length : Nat) : Int).toNat [5, 1, 9, 2])) (h4 : ds.length ≤ 4) (hd : ∀ d ∈ ds, d.1 < 65536) :
    ∃ cl, ClaimsAre ws cl ∧ cl 0 = 0 ∧ ∀ i, i < 5 → cl i < 65536 := by
  have e : [0] ++ (ds.map (·.1)).map (fun k => ((k : Nat) : Int)) ++ List.drop ((((ds.map (·.1)).map fun k => ((k : Nat) : Int)).length : Nat) : Int).toNat [5, 1, 9, 2] = (0 :: (ds.map (·.1) ++ [5, 1, 9, 2].drop ds.length)).map fun k => ((k : Nat) : Int) := by
    rw [List.length_map, List.length_map, Int.toNat_natCast, List.map_cons, List.map_append, List.map_drop]
    rfl
  rw [e] at h
  have hl : (0 :: (ds.map (·.1) ++ [5, 1, 9, 2].drop ds.length)).length = 5 := by
    rw [List.length_cons, List.length_append, List.length_map, List.length_drop]
    simp only [List.length_cons, List.length_nil]
    omega
  have hb : ∀ c ∈ 0 :: (ds.map (·.1) ++ [5, 1, 9, 2].drop ds.length), c < 65536 := fun c hc => by
    rcases List.mem_cons.mp hc with rfl | hc
    · omega
    rcases List.mem_append.mp hc with hc | hc
    · obtain ⟨d, hd', rfl⟩ := List.mem_map.mp hc
      exact hd d hd'
    · have := List.mem_of_mem_drop hc
      simp at this
      omega
  refine ⟨fun i => (0 :: (ds.map (·.1) ++ [5, 1, 9, 2].drop ds.length)).getD i 0, fun i hi => claims_nums h i (by omega), rfl, fun i hi => ?_⟩
  refine hb _ ?_
  dsimp only
  rw [List.getD_eq_getElem?_getD, List.getElem?_eq_getElem (by omega)]
  exact List.getElem_mem _
def fnParts (o : Obj) : Option (FuncBody × Str × Scope) :=
  match o.data with
  | .func fd => some (fd.body, fd.qualname, fd.scope)
  | _ => none
theorem parts_of {K : Frag} {f : Addr} {o : Obj} {P : Prop} {x : FuncBody × Str × Scope} (e : K.lookup f = some o) (ho : ((K.lookup f).bind fnParts) = some x) (k : fnParts o = some x → P) : P :=
  k (by rw [e] at ho; exact ho)
local macro_rules | `(tactic| walk_at "subscriptTail") => `(tactic| (refine' pick_end ?hl ?h0 ?h3 ?_ ?hs; (case hl => is_list); (case h0 => exact fmod_lo _ (by decide)); (case h3 => exact fmod_hi _ (by decide)); (case hs => with_unfolding_all rfl); intro _ _ _; (try dsimp only)))
local macro_rules | `(tactic| walk_at "compareOp NotEq ref ref") => `(tactic| refine stop_ ?_)
local macro_rules | `(tactic| walk_at "newTuple") => `(tactic| refine stop_ ?_)
/-- the law's loop, before turn t -/
def LawJ (L : Nat) (ca r : Addr) (cvs : List Value) (nc : Nat) (ad : Nat → Addr) (rs : List (Addr × Obj)) (o2 o1 : Obj) (adj : Nat → List Nat) (cl : Nat → Nat) (t : Nat) (m : Str → Option Value) (news : List (Addr × Obj)) : Prop :=
  ∃ (tb : Tb) (es : List Ent) (o3 : Obj) (x3 : Option Value), m "table" = some (.ref tb.o) ∧ TabOk adj cl (t - 1) es ∧ (∀ q ∈ tb.news es, q.1 ≠ (L + 1 + 1 + 1 : Nat)) ∧ o3.data = .cell x3 ∧
    news = (ca, W.listOf cvs.toArray nc) :: (L + 1 + 1 + 1, o3) :: (L + 1 + 1, o2) :: (L + 1, o1) :: (r, W.listOf (roadRefs ad).toArray 0) :: (tb.news es ++ rs)
theorem tail_off {L : Nat} {a b c : Nat} {oa ob oc : Obj} {tn rs : List (Addr × Obj)} (h1 : ∀ q ∈ (a, oa) :: (b, ob) :: (c, oc) :: rs, q.1 ≠ L) (h2 : ∀ q ∈ tn, q.1 ≠ L) : ∀ q ∈ (a, oa) :: (b, ob) :: (c, oc) :: (tn ++ rs), q.1 ≠ L := fun q hq => by
  rcases List.mem_cons.mp hq with rfl | hq
  · exact h1 _ (.head _)
  rcases List.mem_cons.mp hq with rfl | hq
  · exact h1 _ (.tail _ (.head _))
  rcases List.mem_cons.mp hq with rfl | hq
  · exact h1 _ (.tail _ (.tail _ (.head _)))
  rcases List.mem_append.mp hq with hq | hq
  · exact h2 q hq
  · exact h1 q (.tail _ (.tail _ (.tail _ hq)))
theorem law_sub {g h : Heap} {Lx : Addr} {p0 p1 p2 p3 p4 p5 p6 : Addr × Obj} {tn rs fn : List (Addr × Obj)} (N : News g Lx h ((p0 :: p1 :: p2 :: p3 :: p4 :: p5 :: p6 :: (tn ++ rs)) ++ fn)) : News g Lx h (p1 :: p2 :: p3 :: p4 :: p5 :: p6 :: (fn ++ rs)) := fun q hq => by
  rcases List.mem_append.mp (show q ∈ [p1, p2, p3, p4, p5, p6] ++ (fn ++ rs) from hq) with hq | hq
  · exact N q (List.mem_append.mpr (.inl (.tail _ (List.mem_append.mpr (.inl hq) : q ∈ [p1, p2, p3, p4, p5, p6] ++ (tn ++ rs)))))
  rcases List.mem_append.mp hq with hq | hq
  · exact N q (List.mem_append.mpr (.inr hq))
  · exact N q (List.mem_append.mpr (.inl (.tail _ (List.mem_append.mpr (.inr (List.mem_append.mpr (.inr hq))) : q ∈ [p1, p2, p3, p4, p5, p6] ++ (tn ++ rs)))))
theorem law_off {a b c d e I : Addr} {oa ob ob' oc od oe : Obj} {tn tn' rs : List (Addr × Obj)} (h : ∀ q ∈ (a, oa) :: (b, ob) :: (c, oc) :: (d, od) :: (e, oe) :: (tn ++ rs), q.1 ≠ I) (h2 : ∀ q ∈ tn', q.1 ≠ I) : ∀ q ∈ (a, oa) :: (b, ob') :: (c, oc) :: (d, od) :: (e, oe) :: (tn' ++ rs), q.1 ≠ I := fun q hq => by
  rcases List.mem_cons.mp hq with rfl | hq
  · exact h _ (.head _)
  rcases List.mem_cons.mp hq with rfl | hq
  · exact h (b, ob) (.tail _ (.head _))
  rcases List.mem_cons.mp hq with rfl | hq
  · exact h _ (.tail _ (.tail _ (.head _)))
  rcases List.mem_cons.mp hq with rfl | hq
  · exact h _ (.tail _ (.tail _ (.tail _ (.head _))))
  rcases List.mem_cons.mp hq with rfl | hq
  · exact h _ (.tail _ (.tail _ (.tail _ (.tail _ (.head _)))))
  rcases List.mem_append.mp hq with hq | hq
  · exact h2 q hq
  · exact h q (.tail _ (.tail _ (.tail _ (.tail _ (.tail _ (List.mem_append.mpr (.inr hq)))))))
set_option maxHeartbeats 8000000 in
theorem law_body {G h : Heap} {qual : Str} {body : List Stmt} {scope : Scope} {cdv : Value} {a : Addr} {L : Nat} {m : Str → Option Value} {o3 o2 o1 : Obj} {sl : Addr} {vs : List Value} {ns : List Int} {tk : Nat} {Qf : Flow → Shared → Prop}
    (KX : (hd.heap_1 w.params).In G) (T0 : Top p loose mean mg mb G) (ho : (((hd.heap_1 w.params).lookup 265).bind fnParts) = some (.stmts body, qual, scope))
    (F0 : Fr G L h m) (N0 : News G L h [(L + 1 + 1 + 1, o3), (L + 1 + 1, o2), (L + 1, o1)]) (d3 : o3.data = .cell none) (d2 : o2.data = .cell none) (d1 : o1.data = .cell none)
    (m1 : m "script" = some (.ref sl)) (hL1 : G.IsList sl vs.toArray) (hI : IntsAre vs ns) (hlen : ns.length ≤ 63) (hA : A.handled = none)
    (hdp : A.depth + 200 < recursionLimit) (hun : A.units + 1000 < cLine)
    (hret : ∀ h' tk' m', Fr G L h' m' → Qf (.ret (.bool true)) { s with heap := h', toks := tk' }) :
    wpAny (model prog w) (A.deeper (envOfC qual scope L a cdv)) (execs body (envOfC qual scope L a cdv)) Qf (fun _ _ => False) { s with heap := h, toks := tk } := by
  refine' parts_of ?e ho ?k
  case e => k_is
  intro hb
  clear ho
  have hb' := Option.some.inj hb
  clear hb
  cases hb'
  obtain ⟨hp, gn, dr, tkk, os⟩ := s
  obtain ⟨hdl, dp, frs, gds, un⟩ := A
  dsimp only at hA hdp hun hret ⊢
  subst hA
  refine cut_ F0 (fun m news => m "script" = some (.ref sl) ∧ ∃ D ds nd, m "drawn" = some (.ref D) ∧ List.length ds ≤ 4 ∧ (∀ d ∈ ds, d.1 < 65536) ∧ (@Ne Nat D (L + 1 + 1 + 1) ∧ @Ne Nat D (L + 1 + 1) ∧ @Ne Nat D (L + 1)) ∧ news = (D, W.listOf (ds.map fun d : Nat × Tok => Value.int ((d.1 : Nat) : Int) d.2).toArray nd) :: [(L + 1 + 1 + 1, o3), (L + 1 + 1, o2), (L + 1, o1)]) ?s1 ?r1
  case s1 =>
    repeat (first | (k_unfold; (try dsimp only)) | (walk1; (try dsimp only)))
    unfold Stop
    refine' assign_listX ?hswS1 ?hhS1 ?hclosS1 ?hcellS1 ?hkindS1 ?hnamesS1 ?hxS1 ?hyS1 ?hpS1 ?_ ?hsS1
    case hswS1 => rfl
    case hsS1 => intro _; rfl
    case hhS1 => exact rfl
    case hclosS1 => with_unfolding_all rfl
    case hcellS1 => decide
    case hkindS1 => rfl
    case hnamesS1 => decide
    case hxS1 => rfl
    case hyS1 => rfl
    case hpS1 => rfl
    repeat (first | (k_unfold; (try dsimp only)) | (walk1; (try dsimp only)))
    all_goals (try k_data)
    with_reducible rename Fr _ _ _ _ => F5
    with_reducible rename News _ _ _ _ => N5
    refine kmk_slice_ints (s := ⟨_, _, _, _, _⟩) F5 N5 (hL1.at fun o e => F5.keep _ o e) (.int _ _) (.int _ _) hI (kmk_run hI (by decide) (by decide)) rfl (fun D ws h5 F6 N6 l6 hI6 hC6 hl6 => ?_) (by with_unfolding_all rfl) (by intro _; with_unfolding_all rfl) (by rw [List.size_toArray, hI.length]; unfold sizeLine; omega)
    clear F5 N5
    have hlen6 : ws.length ≤ 4 := by
      rw [hI6.length, List.length_take]
      have : (5 : Int).toNat = 5 := rfl
      have : (1 : Int).toNat = 1 := rfl
      omega
    dsimp only
    refine ⟨D, _, fun _ => true, fun v y => ∃ n t t', v = .int n t ∧ y = .int (n.fmod 65536) t', _, rfl, ⟨News.isList N6 (n := 0) (.head _), by rw [List.size_toArray]; unfold sizeLine; omega, F6.ns, ?testsS1, ?eltS1, ?outS1⟩⟩
    case testsS1 =>
      intro C v s₃ m₃ E' hv hC hn₃ hm₃ hk₃
      exact wpAny_tests_nil ⟨rfl, _, _, rfl, fun _ _ e => e⟩
    case eltS1 =>
      intro C v s₃ m₃ E' hv _ hC hn₃ hm₃ hk₃
      obtain ⟨h₃, g₃, d₃, t₃, o₃⟩ := s₃
      dsimp only at hn₃ hk₃ hv ⊢
      obtain ⟨n, t, rfl⟩ := hI6.all v hv
      have F3 := F6.keeps hk₃
      have N3 := N6.grown hk₃
      clear F6 N6
      repeat (first | (k_unfold; (try dsimp only)) | (walk1; (try dsimp only)))
      exact ⟨_, _, rfl, fun _ _ e => e⟩
    case outS1 =>
      intro D2 h7 tk7 ys n7 hD2 hD2' hP2 hns7 hk7
      dsimp only at hD2 hk7 hns7 ⊢
      refine keep5 F6 N6 hns7 hk7 hD2 hD2' fun F7 N7 ne7 => ?_
      have hn1 : @Ne Nat D2 (L + 1 + 1 + 1) := fun q => ne7 (L + 1 + 1 + 1, o3) (.tail _ (.head _)) q.symm
      have hn2 : @Ne Nat D2 (L + 1 + 1) := fun q => ne7 (L + 1 + 1, o2) (.tail _ (.tail _ (.head _))) q.symm
      have hn3 : @Ne Nat D2 (L + 1) := fun q => ne7 (L + 1, o1) (.tail _ (.tail _ (.tail _ (.head _)))) q.symm
      rw [filter_all] at hP2
      have hys := paired_intsF hI6 (by simpa using hP2)
      obtain ⟨ds, q1, q2, q3⟩ := ints_mod hys
      have q4 : ys = (ds.map fun d => Value.int (d.1 : Int) d.2).toArray := by rw [← q3]
      subst q4
      refine CutEnd.intro F7 (news_sub N7 (tab := [_, _, _, _]) fun q hq => ?_) ⟨by walk_at "m_fact", D2, ds, n7, if_pos rfl, ?_, q2, ⟨hn1, hn2, hn3⟩, rfl⟩
      · rcases List.mem_cons.mp hq with rfl | hq
        · exact .head _
        · exact .tail _ (.tail _ hq)
      · have := paired_len hP2
        rw [q1]
        simp only [List.length_map] at *
        omega
  clear F0 N0 m1
  intro h tk m news F1 N1 ⟨m1, D, ds, nd, m2, hds, hdl, hDn, hnews⟩
  subst hnews
  dsimp only at F1 N1 ⊢
  refine cut_ F1 (fun m news => m "script" = some (.ref sl) ∧ ∃ ca cvs nc cl o1, o1.data = .cell (some (.ref ca)) ∧ ClaimsAre cvs cl ∧ cl 0 = 0 ∧ (∀ i, i < 5 → cl i < 65536) ∧ (@Ne Nat ca (L + 1 + 1 + 1) ∧ @Ne Nat ca (L + 1 + 1)) ∧ news = (ca, W.listOf (List.toArray cvs) nc) :: [(L + 1 + 1 + 1, o3), (L + 1 + 1, o2), (L + 1, o1)]) ?s2 ?r2
  case s2 =>
    have hI2 := ints_ds ds
    repeat (first | (k_unfold; (try dsimp only)) | (walk1; (try dsimp only)))
    with_reducible rename Fr _ _ _ _ => F5
    with_reducible rename News _ _ _ _ => N5
    refine kmk_slice_ints (s := ⟨_, _, _, _, _⟩) (ns := [5, 1, 9, 2]) F5 N5 (News.isList N5 (n := 0) (.head _)) (.int _ _) .none (.cons _ _ (.cons _ _ (.cons _ _ (.cons _ _ .nil)))) (kmk_from (.cons _ _ (.cons _ _ (.cons _ _ (.cons _ _ .nil)))) (Int.natCast_nonneg _)) rfl (fun Dw ws h6 F6 N6 l6 hI6 hC6 hl6 => ?_) (by with_unfolding_all rfl) (by intro _; with_unfolding_all rfl) (by rw [sizeLine_eq]; exact Nat.le_of_ble_eq_true rfl)
    clear F5 N5
    k_lt l6
    dsimp only
    repeat (first | (k_unfold; (try dsimp only)) | (walk1; (try dsimp only)))
    with_reducible rename Fr _ _ _ _ => F9
    with_reducible rename News _ _ _ _ => N9
    rename (Obj.data _ = Data.cell _) => dn
    rename (_ < _ ∧ _) => l9
    rename IntsAre _ (_ ++ _) => hIc
    obtain ⟨cl, c1, c2, c3⟩ := claims_of hIc hds hdl
    refine CutEnd.intro F9 (news_sub N9 (tab := [_, _, _, _]) fun q hq => ?_) ⟨m1, _, _, 0, cl, _, dn, c1, c2, c3, ⟨?_, ?_⟩, rfl⟩
    · rcases List.mem_cons.mp hq with rfl | hq
      · exact .head _
      · exact .tail _ (.tail _ (.tail _ (.tail _ (.tail _ (.tail _ hq)))))
    · omega
    · omega
  clear F1 N1 m1 m2 hds hdl hDn d1
  intro h tk m news F1 N1 ⟨m1, ca, cvs, nc, cl, o1, d1, hcv, hc0, hcl, hcn, hnews⟩
  subst hnews
  dsimp only at F1 N1 ⊢
  refine cut_ F1 (fun m news => m "script" = some (.ref sl) ∧ ∃ (r : Addr) (ad : Nat → Addr) (adj : Nat → List Nat) (vs : Nat → List Value) (ns : Nat → Nat) (rs : List (Addr × Obj)) (o2 : Obj), o2.data = .cell (some (.ref r)) ∧ RInv adj vs 25 ∧ (∀ i, i < 5 → (ad i, W.listOf (List.toArray (vs i)) (ns i)) ∈ rs) ∧ (∀ q ∈ (L + 1 + 1, o2) :: (L + 1, o1) :: (r, W.listOf (roadRefs ad).toArray 0) :: rs, q.1 ≠ (L + 1 + 1 + 1 : Nat)) ∧ news = (ca, W.listOf (List.toArray cvs) nc) :: (L + 1 + 1 + 1, o3) :: (L + 1 + 1, o2) :: (L + 1, o1) :: (r, W.listOf (roadRefs ad).toArray 0) :: rs) ?s3 ?r3
  case s3 =>
    repeat (first | (k_unfold; (try dsimp only)) | (walk1; (try dsimp only)))
    with_reducible rename Fr _ _ _ _ => F5
    with_reducible rename News _ _ _ _ => N5
    refine kmk_slice_ints (s := ⟨_, _, _, _, _⟩) F5 N5 (hL1.at fun o e => F5.keep _ o e) .none (.int _ _) hI (kmk_upto hI (by decide)) rfl (fun Dw ws h6 F6 N6 l6 hI6 hC6 hl6 => ?_) (by with_unfolding_all rfl) (by intro _; with_unfolding_all rfl) (by rw [List.size_toArray, hI.length]; unfold sizeLine; omega)
    clear F5 N5
    k_lt l6
    have hl7 : (ns.take (1 : Int).toNat).length ≤ 1 := by rw [List.length_take]; exact Nat.min_le_left _ _
    dsimp only
    repeat (first | (k_unfold; (try dsimp only)) | (walk1; (try dsimp only)))
    unfold Stop
    with_reducible rename Fr _ _ _ _ => F7
    with_reducible rename News _ _ _ _ => N7
    refine roads_spec KX T0 (Fr.keep F7) rfl (by walk_at "m_room") (by walk_at "m_room") fun r ad adj vs5 ns5 h8 tk8 hs8 hI8 hq8 => ?_
    dsimp only at hs8 hq8
    have N8 := news_add F7 N7 hs8 hq8
    have off : ∀ b o, (b, o) ∈ [(Dw, W.listOf (List.toArray ws) 0), (ca, W.listOf (List.toArray cvs) nc), (L + 1 + 1 + 1, o3), (L + 1 + 1, o2), (L + 1, o1)] → ∀ q ∈ roadsNews r ad vs5 ns5, @Ne Nat q.1 b := fun b o hb q hq e => by
      have h1 := (N7 _ hb).1
      have h2 := (hq8 q hq).1
      rw [e] at h2
      dsimp only at h1
      rw [h2] at h1; cases h1
    have hr2 := off (L + 1 + 1) o2 (.tail _ (.tail _ (.tail _ (.head _))))
    have hr3 := off (L + 1 + 1 + 1) o3 (.tail _ (.tail _ (.head _)))
    have F8 := F7.keeps hs8
    obtain ⟨rs, hrs⟩ : ∃ rs, rs = [0, 1, 2, 3, 4].map fun i => (ad i, W.listOf (vs5 i).toArray (ns5 i)) := ⟨_, rfl⟩
    have hri : ∀ i, i < 5 → (ad i, W.listOf (vs5 i).toArray (ns5 i)) ∈ rs := fun i hi => by
      rw [hrs]; refine List.mem_map.mpr ⟨i, ?_, rfl⟩; simp; omega
    replace N8 : News G L h8 ((Dw, W.listOf (List.toArray ws) 0) :: (ca, W.listOf (List.toArray cvs) nc) :: (L + 1 + 1 + 1, o3) :: (L + 1 + 1, o2) :: (L + 1, o1) :: (r, W.listOf (roadRefs ad).toArray 0) :: rs) := by rw [hrs]; exact N8
    have hr2' : ∀ q ∈ (L + 1, o1) :: (r, W.listOf (roadRefs ad).toArray 0) :: rs, q.1 ≠ (L + 1 + 1 : Nat) := by
      rw [hrs]
      exact allNe_cons (Nat.ne_of_lt (Nat.lt_succ_self _)) hr2
    have hr3' : ∀ q ∈ (r, W.listOf (roadRefs ad).toArray 0) :: rs, q.1 ≠ (L + 1 + 1 + 1 : Nat) := by rw [hrs]; exact hr3
    have hca2 := hcn.2
    clear F7 N7 hrs off hr2 hr3 hq8
    dsimp only
    repeat (first | (k_unfold; (try dsimp only)) | (walk1; (try dsimp only)))
    with_reducible rename Fr _ _ _ _ => F9
    with_reducible rename News _ _ _ _ => N9
    rename (Obj.data _ = Data.cell _) => dn
    exact CutEnd.intro F9 (news_sub N9 fun q hq => .tail _ hq) ⟨m1, r, ad, adj, vs5, ns5, rs, _, dn, hI8, hri, allNe_cons (Nat.ne_of_lt (Nat.lt_succ_self _)) (allNe_cons (Nat.ne_of_lt (Nat.lt_succ_of_lt (Nat.lt_succ_self _))) hr3'), rfl⟩
  clear F1 N1 m1 d2
  intro h tk m news F1 N1 ⟨m1, r, ad, adj, vs5, ns5, rs, o2, d2, hRI, hri, hr3, hnews⟩
  subst hnews
  dsimp only at F1 N1 ⊢
  have G5 : Good adj := ⟨hRI.lt, hRI.sym, hRI.len⟩
  refine cut_ F1 (fun m news => ∃ tb : Tb, ∃ es : List Ent, m "table" = some (.ref tb.o) ∧ TabOk adj cl 0 es ∧ (∀ q ∈ tb.news es, q.1 ≠ (L + 1 + 1 + 1 : Nat)) ∧ news = (ca, W.listOf (List.toArray cvs) nc) :: (L + 1 + 1 + 1, o3) :: (L + 1 + 1, o2) :: (L + 1, o1) :: (r, W.listOf (roadRefs ad).toArray 0) :: (tb.news es ++ rs)) ?s4 ?r4
  case s4 =>
    repeat (first | (k_unfold; (try dsimp only)) | (walk1; (try dsimp only)))
    unfold Stop
    refine' comp_rangeX ?hhS4 ?hclosS4 ?hcellS4 ?hkindS4 ?hnamesS4 ?hxS4 ?_ ?hsS4
    case hsS4 => intro _; rfl
    case hhS4 => exact rfl
    case hclosS4 => with_unfolding_all rfl
    case hcellS4 => decide
    case hkindS4 => rfl
    case hnamesS4 => decide
    case hxS4 => rfl
    repeat (first | (k_unfold; (try dsimp only)) | (walk1; (try dsimp only)))
    rename IsRange _ _ _ _ _ _ _ _ => hR
    with_reducible rename Fr _ _ _ _ => F9
    with_reducible rename News _ _ _ _ => N9
    refine ⟨_, 5, fun _ => true, fun i y os => ∃ T tn tr d p, y = .ref T ∧ os = [(T, tupO (.str (nm false i) tn) (.str (row d p) tr))] ∧ Due adj cl i 0 d p, rfl, ⟨⟨_, _, _, hR⟩, by omega, ?testsS4, ?eltS4, ?outS4⟩⟩
    case testsS4 =>
      intro C i t s₃ m₃ E' hi hC hn₃ hm₃ hk₃
      exact wpAny_tests_nil ⟨rfl, _, _, rfl, fun _ _ e => e⟩
    case eltS4 =>
      intro C i t s₃ m₃ E' hi _ hC hn₃ hm₃ hk₃
      obtain ⟨h₃, g₃, d₃, t₃, o₃⟩ := s₃
      dsimp only at hn₃ hk₃ ⊢
      have F3 := F9.keeps hk₃
      have N3 := N9.grown hk₃
      clear F9 N9 hR
      obtain ⟨tc, hci⟩ := hcv i hi
      have hcli := hcl i hi
      repeat (first | (k_unfold; (try dsimp only)) | (walk1; (try dsimp only)))
      unfold Stop
      refine reply_spec (port := cl i) KX T0 (Fr.keep F3) rfl hcli (by walk_at "m_room") (by walk_at "m_room") ?_
      intro tr h5 tk5 hs5
      dsimp only at hs5 ⊢
      replace F3 := F3.keeps hs5
      replace N3 := N3.grown hs5
      replace hn₃ := Heap.Ns.keeps hn₃ hs5
      repeat (first | (k_unfold; (try dsimp only)) | (walk1; (try dsimp only)))
      unfold Stop
      refine wpAny_newTuple ?_
      exact elt_tup hs5 ⟨_, _, _, 1, cl i, rfl, by rw [show nm false i = Txt.item (Str.ofString "abcde") ((i : Nat) : Int) from (item_abcde hi).symm], due_zero hc0 hi⟩
    case outS4 =>
      intro D5 h5 tk5 k5 outs hD hD' hn4 hobj hk'
      dsimp only at hD hk' hobj ⊢
      obtain ⟨es, e1, e2, e3, e4⟩ := ents_of2 (R := fun i d p => Due adj cl i 0 d p) hobj
      rw [e1] at hD'
      have hes4 : es.map Ent.i = List.range 5 := by rw [e2, hn4]; rfl
      have off : ∀ q ∈ (D5, W.listOf (es.map fun e => Value.ref e.a).toArray k5) :: tupsOf es, @Ne Nat q.1 (L + 1 + 1 + 1) := fun q hq e => by
        have h1 := (N9 _ (.tail _ (.head _))).1
        dsimp only at h1
        rw [← e] at h1
        rcases List.mem_cons.mp hq with rfl | hq
        · rw [hD] at h1; cases h1
        · rw [(e4 q hq).2.1] at h1; cases h1
      have N4 := news_add F9 N9 hk' (extra := (D5, W.listOf (es.map fun e => Value.ref e.a).toArray k5) :: tupsOf es) (fun q hq => by
        rcases List.mem_cons.mp hq with rfl | hq
        · exact ⟨hD, hD'⟩
        · exact (e4 q hq).2)
      have F4 := F9.keeps hk'
      clear F9 N9 e1 e2 hn4 hobj hR
      repeat (first | (k_unfold; (try dsimp only)) | (walk1; (try dsimp only)))
      unfold Stop
      refine' call_cls F4 KX N4 ?hmS4 ?hiS4 ?hfS4 ?_
      case hmS4 => k_is
      case hiS4 => k_is
      case hfS4 => k_is
      intro x dx h6 F6 N6 l1 l2
      have hin : ∀ q ∈ newTab x dx D5 k5 es, q ∈ (x, instObj 232 dx) :: (dx, dictOf [] 0) :: ((ca, W.listOf (List.toArray cvs) nc) :: (L + 1 + 1 + 1, o3) :: (L + 1 + 1, o2) :: (L + 1, o1) :: (r, W.listOf (roadRefs ad).toArray 0) :: (rs ++ (D5, W.listOf (es.map fun e => Value.ref e.a).toArray k5) :: tupsOf es)) := by
        intro q hq
        rcases List.mem_cons.mp hq with rfl | hq
        · exact .head _
        rcases List.mem_cons.mp hq with rfl | hq
        · exact .tail _ (.head _)
        · exact .tail _ (.tail _ (.tail _ (.tail _ (.tail _ (.tail _ (.tail _ (List.mem_append.mpr (.inr hq))))))))
      have hdx3 : @Ne Nat dx (L + 1 + 1 + 1) := Nat.ne_of_gt (l1 (L + 1 + 1 + 1, o3) (.tail _ (.head _)))
      have hx3 : @Ne Nat x (L + 1 + 1 + 1) := Nat.ne_of_gt (Nat.lt_trans (l1 (L + 1 + 1 + 1, o3) (.tail _ (.head _))) l2)
      have hel : es.length ≤ 1000 := by
        have := congrArg List.length hes4
        simp at this
        omega
      refine init_spec (x := x) (dx := dx) (hl := D5) (n := k5) (es := es) KX T0 (Fr.keep F6) rfl (news_tab N6 hin) (news_off N6 hin) hel ?hesS4 (by first | walk_at "m_room" | exact Nat.lt_of_le_of_lt (show dp + 1 + 1 + 40 ≤ dp + 200 by omega) hdp) (by first | (rw [units_under_make]; walk_at "m_room") | walk_at "m_room") ?hretS4
      case hesS4 =>
        intro e' he'
        have hi : e'.i ∈ es.map Ent.i := List.mem_map.mpr ⟨e', he', rfl⟩
        rw [hes4] at hi
        have hi5 := List.mem_range.mp hi
        obtain ⟨_, d, p, q1, q2⟩ := e3 e' he'
        obtain ⟨b1, b2, b3⟩ := q2.bound (B := 65536) hcl (by omega) hi5
        exact ⟨hi5, d, p, q1, by omega, b3⟩
      case hretS4 =>
        intro h7 tk7 hsh tkk n1 hk7 hd7
        dsimp only at hk7
        refine keep4 F6 N6 (.tail (Nat.ne_of_gt l2) (.head fun p hp => Nat.ne_of_lt (l1 p hp))) hk7 hd7 fun F7 N7 => ?_
        clear F6 N6 F4 N4
        unfold InitBack
        dsimp only
        repeat (first | (k_unfold; (try dsimp only)) | (walk1; (try dsimp only)))
        with_reducible rename Fr _ _ _ _ => F9
        with_reducible rename News _ _ _ _ => N9
        refine CutEnd.intro (news' := (ca, W.listOf (List.toArray cvs) nc) :: (L + 1 + 1 + 1, o3) :: (L + 1 + 1, o2) :: (L + 1, o1) :: (r, W.listOf (roadRefs ad).toArray 0) :: (Tb.news ⟨x, dx, D5, tkk, n1, k5, hsh⟩ es ++ rs)) F9 (news_sub N9 ?hsubS4) ⟨⟨x, dx, D5, tkk, n1, k5, hsh⟩, es, ?hm2S4, ⟨hes4, e3⟩, ?hoffS4, rfl⟩
        case hm2S4 => rfl
        case hoffS4 => exact allNe_cons hx3 (allNe_cons hdx3 off)
        case hsubS4 =>
          intro q hq
          rcases List.mem_append.mp (show q ∈ [(ca, W.listOf (List.toArray cvs) nc), (L + 1 + 1 + 1, o3), (L + 1 + 1, o2), (L + 1, o1), (r, W.listOf (roadRefs ad).toArray 0)] ++ (Tb.news ⟨x, dx, D5, tkk, n1, k5, hsh⟩ es ++ rs) from hq) with hq | hq
          · exact .tail _ (.tail _ (List.mem_append.mpr (.inl hq) : q ∈ [(ca, W.listOf (List.toArray cvs) nc), (L + 1 + 1 + 1, o3), (L + 1 + 1, o2), (L + 1, o1), (r, W.listOf (roadRefs ad).toArray 0)] ++ (rs ++ (D5, W.listOf (es.map fun e => Value.ref e.a).toArray k5) :: tupsOf es)))
          rcases List.mem_append.mp hq with hq | hq
          · rcases List.mem_cons.mp hq with rfl | hq
            · exact .head _
            rcases List.mem_cons.mp hq with rfl | hq
            · exact .tail _ (.head _)
            · exact .tail _ (.tail _ (.tail _ (.tail _ (.tail _ (.tail _ (.tail _ (List.mem_append.mpr (.inr hq))))))))
          · exact .tail _ (.tail _ (.tail _ (.tail _ (.tail _ (.tail _ (.tail _ (List.mem_append.mpr (.inl hq))))))))
  clear F1 N1 m1
  intro h tk m news F1 N1 ⟨tb, es, m1, hT, htb3, hnews⟩
  subst hnews
  dsimp only at F1 N1 ⊢
  refine cut_ F1 (fun _ _ => True) ?s5 ?r5
  case s5 =>
    refine for_rangeX (g := G) rfl ?_ (by intro _; rfl) PassesOwn.never
    repeat (first | (k_unfold; (try dsimp only)) | (walk1; (try dsimp only)))
    rename IsRange _ _ _ _ _ _ _ _ => hR
    with_reducible rename Fr _ _ _ _ => F9
    with_reducible rename News _ _ _ _ => N9
    refine ⟨_, 0, 5, LawJ L ca r cvs nc ad rs o2 o1 adj cl, rfl, ⟨rfl, ⟨_, _, _, hR⟩, ⟨by omega, by omega⟩, ⟨_, _, F9, N9, tb, es, o3, none, m1, hT, htb3, d3, rfl⟩, ?turnS5, ?doneS5⟩⟩
    case doneS5 =>
      intro h tk m news hJ F N
      exact CutEnd.intro F N trivial
    case turnS5 =>
      clear F9 N9 hR m1 htb3 d3 hT
      rintro I oI t ti m news h tk hoI ht ⟨tb, es, o3, x3, m1, hT, htb3, d3, rfl⟩ hoff F1 N1
      rw [Int.zero_add]
      have hI3 : @Ne Nat I (L + 1 + 1 + 1) := fun q => hoff (L + 1 + 1 + 1, o3) (.tail _ (.head _)) q.symm
      have hca3 := hcn.1
      have htl : ∀ q ∈ (L + 1 + 1, o2) :: (L + 1, o1) :: (r, W.listOf (roadRefs ad).toArray 0) :: (tb.news es ++ rs), q.1 ≠ (L + 1 + 1 + 1 : Nat) := tail_off hr3 htb3
      iterate 2 (first | (k_unfold; (try dsimp only)) | (walk1; (try dsimp only)))
      with_reducible rename Fr _ _ _ _ => F2
      with_reducible rename News _ _ _ _ => N2
      rename (Obj.data _ = Data.cell _) => dt
      (try clear F1); (try clear N1)
      clear d3
      obtain ⟨o3', N3, dt'⟩ : ∃ o3', News G L _ ((I, oI) :: (ca, W.listOf (List.toArray cvs) nc) :: (L + 1 + 1 + 1, o3') :: (L + 1 + 1, o2) :: (L + 1, o1) :: (r, W.listOf (roadRefs ad).toArray 0) :: (tb.news es ++ rs)) ∧ o3'.data = Data.cell (some (.int ((t : Nat) : Int) ti)) := ⟨_, N2, dt⟩
      clear N2 dt
      refine cut_ F2 (fun m news => ∃ (tb' : Tb) (es' : List Ent), m "table" = some (.ref tb'.o) ∧ TabOk adj cl t es' ∧ (∀ q ∈ tb'.news es', q.1 ≠ (L + 1 + 1 + 1 : Nat)) ∧ (∀ q ∈ tb'.news es', q.1 ≠ I) ∧ news = (I, oI) :: (ca, W.listOf (List.toArray cvs) nc) :: (L + 1 + 1 + 1, o3') :: (L + 1 + 1, o2) :: (L + 1, o1) :: (r, W.listOf (roadRefs ad).toArray 0) :: (tb'.news es' ++ rs)) ?v1S5 ?x1S5
      case v1S5 =>
        repeat (first | (k_unfold; (try dsimp only)) | (walk1; (try dsimp only)))
        all_goals repeat (first | (k_unfold; (try dsimp only)) | (walk1; (try dsimp only)))
        · unfold Stop
          with_reducible rename Fr _ _ _ _ => F5
          with_reducible rename News _ _ _ _ => N5
          rename IsEnd _ => he
          rename (_ < _ ∧ _) => l5
          obtain ⟨D5, P5, hRow, hDue⟩ := hT.rows
          have hb : ∀ k, k < 5 → 1 ≤ D5 k ∧ D5 k ≤ t - 1 + 1 ∧ P5 k < 65536 := fun k hk => (hDue k hk).bound (B := 65536) hcl (by omega) hk
          refine round_spec (B := tb) (es := es) (stat := tb.news es ++ rs) (vs := vs5) (ns := ns5) (D := D5) (P := P5) KX T0 (Fr.keep F5) rfl (news_tab N5 fun q hq => .tail _ (.tail _ (.tail _ (.tail _ (.tail _ (.tail _ hq)))))) (news_off N5 fun q hq => .tail _ (.tail _ (.tail _ (.tail _ (.tail _ (.tail _ hq))))))
            (fun q hq => List.mem_append.mpr (.inl hq)) (fun i hi => List.mem_append.mpr (.inr (hri i hi))) hRI hRow hT.lt (fun j hj => ⟨(hb j hj).1, by have := (hb j hj).2.1; omega⟩) (fun j hj => (hb j hj).2.2) he (due_keys G5 hDue) (by walk_at "m_room") (by walk_at "m_room") ?_
          intro FB fes h6 tk6 hs6 hF hq6
          dsimp only at hs6 hq6
          have N6 := news_add F5 N5 hs6 hq6
          have F6 := F5.keeps hs6
          have off3 : ∀ q ∈ FB.news fes, q.1 ≠ (L + 1 + 1 + 1 : Nat) := fun q hq e => by
            have h1 := (N5 _ (.tail _ (.tail _ (.tail _ (.head _))))).1
            have h2 := (hq6 q hq).1
            rw [e, h1] at h2; cases h2
          have offI : ∀ q ∈ FB.news fes, q.1 ≠ I := fun q hq e => by
            have h1 := (N5 _ (.tail _ (.head _))).1
            have h2 := (hq6 q hq).1
            rw [e, h1] at h2; cases h2
          clear F5 N5 l5 hq6
          dsimp only
          repeat (first | (k_unfold; (try dsimp only)) | (walk1; (try dsimp only)))
          with_reducible rename Fr _ _ _ _ => F9
          with_reducible rename News _ _ _ _ => N9
          have hpos : t - 1 + 1 = t := by omega
          refine CutEnd.intro (news' := (I, oI) :: (ca, W.listOf (List.toArray cvs) nc) :: (L + 1 + 1 + 1, o3') :: (L + 1 + 1, o2) :: (L + 1, o1) :: (r, W.listOf (roadRefs ad).toArray 0) :: (FB.news fes ++ rs)) F9 (law_sub N9) ⟨FB, fes, if_pos rfl, hpos ▸ fresh_ok G5 hDue hF, off3, offI, rfl⟩
        · have ht0 : t - 1 = t := by omega
          exact CutEnd.intro F2 N3 ⟨tb, es, m1, ht0 ▸ hT, htb3, fun q hq => hoff q (.tail _ (.tail _ (.tail _ (.tail _ (.tail _ (List.mem_append.mpr (.inl hq))))))), rfl⟩
      (try clear F2); (try clear N3)
      intro h tk m news F1 N1 ⟨tb', es', m1', hT', htb3', htbI, hnews⟩
      subst hnews
      dsimp only at F1 N1 ⊢
      repeat (first | (k_unfold; (try dsimp only)) | (walk1; (try dsimp only)))
      unfold Stop
      have hinT : ∀ q ∈ tb'.news es', q ∈ (I, oI) :: (ca, W.listOf (List.toArray cvs) nc) :: (L + 1 + 1 + 1, o3') :: (L + 1 + 1, o2) :: (L + 1, o1) :: (r, W.listOf (roadRefs ad).toArray 0) :: (tb'.news es' ++ rs) := fun q hq => .tail _ (.tail _ (.tail _ (.tail _ (.tail _ (.tail _ (List.mem_append.mpr (.inl hq)))))))
      refine items_spec (B := tb') (es := es') KX T0 (Fr.keep F1) rfl (news_tab N1 hinT) (news_off N1 hinT) (by have := hT'.len; omega) (by walk_at "m_room") (by walk_at "m_room") ?_
      intro rl h5 tk5 hs5 hf5 hr5
      dsimp only at hs5 hf5 hr5
      refine keep3 F1 N1 hs5 hf5 hr5 fun F4 N4 ne4 => ?_
      clear F1 N1 ne4
      repeat (first | (k_unfold; (try dsimp only)) | (walk1; (try dsimp only)))
      unfold Stop
      refine' comp_rangeX ?hhS52 ?hclosS52 ?hcellS52 ?hkindS52 ?hnamesS52 ?hxS52 ?_ ?hsS52
      case hsS52 => intro _; rfl
      case hhS52 => exact rfl
      case hclosS52 => with_unfolding_all rfl
      case hcellS52 => decide
      case hkindS52 => rfl
      case hnamesS52 => decide
      case hxS52 => rfl
      repeat (first | (k_unfold; (try dsimp only)) | (walk1; (try dsimp only)))
      rename IsRange _ _ _ _ _ _ _ _ => hR
      with_reducible rename Fr _ _ _ _ => F9
      with_reducible rename News _ _ _ _ => N9
      refine ⟨_, 5, fun _ => true, fun i y os => ∃ T tn tr d p, y = .ref T ∧ os = [(T, tupO (.str (nm false i) tn) (.str (row d p) tr))] ∧ Due adj cl i t d p, rfl, ⟨⟨_, _, _, hR⟩, by omega, ?testsS52, ?eltS52, ?outS52⟩⟩
      case testsS52 =>
        intro C i t s₃ m₃ E' hi hC hn₃ hm₃ hk₃
        exact wpAny_tests_nil ⟨rfl, _, _, rfl, fun _ _ e => e⟩
      case eltS52 =>
        intro C i t' s₃ m₃ E' hi _ hC hn₃ hm₃ hk₃
        obtain ⟨h₃, g₃, d₃, t₃, o₃⟩ := s₃
        dsimp only at hn₃ hk₃ ⊢
        have F3 := F9.keeps hk₃
        have N3 := N9.grown hk₃
        clear F9 N9 hR
        repeat (first | (k_unfold; (try dsimp only)) | (walk1; (try dsimp only)))
        unfold Stop
        have hinD : ∀ q ∈ (ca, W.listOf (List.toArray cvs) nc) :: (r, W.listOf (roadRefs ad).toArray 0) :: rs, q ∈ (rl, W.listOf (es'.map fun e => Value.ref e.a).toArray 0) :: (I, oI) :: (ca, W.listOf (List.toArray cvs) nc) :: (L + 1 + 1 + 1, o3') :: (L + 1 + 1, o2) :: (L + 1, o1) :: (r, W.listOf (roadRefs ad).toArray 0) :: (tb'.news es' ++ rs) := fun q hq => by
          rcases List.mem_cons.mp hq with rfl | hq
          · exact .tail _ (.tail _ (.head _))
          rcases List.mem_cons.mp hq with rfl | hq
          · exact .tail _ (.tail _ (.tail _ (.tail _ (.tail _ (.tail _ (.head _))))))
          · exact .tail _ (.tail _ (.tail _ (.tail _ (.tail _ (.tail _ (.tail _ (List.mem_append.mpr (.inr hq))))))))
        refine due_spec (k := i) (t := t) (rs := rs) (vs := vs5) (ns := ns5) (adj := adj) (cl := cl) KX T0 (Fr.keep F3) rfl (news_tab N3 hinD) (news_off N3 hinD) hri hcv hcl hRI hi (by omega) (by walk_at "m_room") (by walk_at "m_room") ?_
        intro d pt tr h7 tk7 hs7 hdue
        dsimp only at hs7 ⊢
        replace F3 := F3.keeps hs7
        replace N3 := N3.grown hs7
        replace hn₃ := Heap.Ns.keeps hn₃ hs7
        repeat (first | (k_unfold; (try dsimp only)) | (walk1; (try dsimp only)))
        unfold Stop
        refine wpAny_newTuple ?_
        exact elt_tup hs7 ⟨_, _, _, d, pt, rfl, by rw [show nm false i = Txt.item (Str.ofString "abcde") ((i : Nat) : Int) from (item_abcde hi).symm], hdue⟩
      case outS52 =>
        intro D5 h6 tk6 k5 outs hD hD' hn4 hobj hk'
        dsimp only at hD hk' hobj ⊢
        obtain ⟨us, e1, e2, e3, e4⟩ := ents_of2 (R := fun i d p => Due adj cl i t d p) hobj
        rw [e1] at hD'
        have hus : us.map Ent.i = List.range 5 := by rw [e2, hn4]; rfl
        have N4 := news_add F9 N9 hk' (extra := (D5, W.listOf (us.map fun e => Value.ref e.a).toArray k5) :: tupsOf us) (fun q hq => by
          rcases List.mem_cons.mp hq with rfl | hq
          · exact ⟨hD, hD'⟩
          · exact (e4 q hq).2)
        have F4 := F9.keeps hk'
        clear F9 N9 e1 e2 e4 hn4 hobj hR
        have hdue := TabOk.same (hT'.ord.trans hus.symm) hT'.row e3
        repeat (first | (k_unfold; (try dsimp only)) | (walk1; (try dsimp only)))
        unfold Stop
        refine ne_tabs (es := es') (us := us) (News.get N4 (.head _)) hD' (fun q hq => (N4 q (List.mem_append.mpr (.inl (.tail _ (hinT q (.tail _ (.tail _ (.tail _ hq)))))))).1) (fun q hq => (N4 q (List.mem_append.mpr (.inr (.tail _ hq)))).1) hdue (fun e' he' => ⟨hT'.lt e' he', (hT'.row e' he').2.elim fun d h => h.elim fun p h => ⟨d, p, h.1⟩⟩) (by walk_at "m_room") ?_
        repeat (first | (k_unfold; (try dsimp only)) | (walk1; (try dsimp only)))
        with_reducible rename Fr _ _ _ _ => F9
        exact TurnEnd.next (news' := (ca, W.listOf (List.toArray cvs) nc) :: (L + 1 + 1 + 1, o3') :: (L + 1 + 1, o2) :: (L + 1, o1) :: (r, W.listOf (roadRefs ad).toArray 0) :: (tb'.news es' ++ rs)) F9 (news_sub N4 fun q hq => List.mem_append.mpr (.inl (.tail _ hq))) (law_off hoff htbI) ⟨tb', es', o3', _, m1', hT', htb3', dt', rfl⟩
  clear F1 N1 m1
  intro h tk m news F1 N1 _
  repeat (first | (k_unfold; (try dsimp only)) | (walk1; (try dsimp only)))
  with_reducible rename Fr _ _ _ _ => F9
  exact hret _ _ _ F9
theorem parts_to {K : Frag} {f : Addr} {o : Obj} {x : FuncBody × Str × Scope} (e : K.lookup f = some o) (h : fnParts o = some x) : ((K.lookup f).bind fnParts) = some x := by rw [e]; exact h
theorem main_try.tw17398581568723696133 : True := trivial
theorem main_try.tw9350515668827688795 : True := trivial
theorem main_try.tw9445320347001681794 : True := trivial
theorem main_try.tw12220286067344375294 : True := trivial
theorem main_try.tw4154918546097891504 : True := trivial
theorem main_try.tw8556698639906033582 : True := trivial
theorem main_try.tw1312383015986698690 : True := trivial
theorem main_try.tw10784848663753221710 : True := trivial
theorem main_try.tw17380036416486277772 : True := trivial
theorem main_try.tw12584640641957274494 : True := trivial
theorem main_try.tw17908425430617623327 : True := trivial
theorem main_try.tw16972028491858007719 : True := trivial
theorem main_try.tw3507470444128052619 : True := trivial
theorem main_try.tw13040198783581234118 : True := trivial
theorem main_try.tw17545294084287643429 : True := trivial
theorem main_try.tw5174281382703077759 : True := trivial
theorem main_try.tw13833114905363955825 : True := trivial
theorem main_try.tw3461675128208401399 : True := trivial
theorem main_try.tw11762638438546228476 : True := trivial
theorem main_try.tw7003464578215063639 : True := trivial
theorem main_try.tw12780120211409706567 : True := trivial
theorem main_try.tw11744181475743740790 : True := trivial
theorem main_try.tw5444032779388528092 : True := trivial
theorem main_try.tw4664916824898993037 : True := trivial
theorem main_try.tw5607678230239322264 : True := trivial
theorem main_try.tw8397600106523026938 : True := trivial
theorem main_try.tw1500246205851333012 : True := trivial
theorem main_try.tw15805323491451258429 : True := trivial
theorem main_try.tw11164394742919972246 : True := trivial
theorem main_try.tw11860311740629714831 : True := trivial
theorem main_try.tw17233716736941586735 : True := trivial
theorem main_try.tw3819538105791659143 : True := trivial
theorem main_try.tw1009932453521457162 : True := trivial
theorem main_try.tw12385252733565141744 : True := trivial
theorem main_try.tw2982945777707398902 : True := trivial
theorem main_try.tw9109335116481164765 : True := trivial
theorem main_try.tw13529392638988618512 : True := trivial
theorem main_try.tw8977504589307204204 : True := trivial
theorem main_try.tw16881647769205064958 : True := trivial
theorem main_try.tw12877997511479689439 : True := trivial
theorem main_try.tw14123359902143318610 : True := trivial
theorem main_try.tw16592585058474052807 : True := trivial
theorem main_try.tw2037559946225353354 : True := trivial
theorem main_try.tw17564006603472560373 : True := trivial
theorem main_try.tw13054576605920453637 : True := trivial
theorem main_try.tw12591778121732896712 : True := trivial
theorem main_try.tw8381623651203545381 : True := trivial
theorem main_try.tw12807700263089842288 : True := trivial
theorem main_try.tw10938237244506905412 : True := trivial
theorem main_try.tw4403297661401200087 : True := trivial
theorem main_try.tw3517869693685688736 : True := trivial
theorem main_try.tw7015629824692344650 : True := trivial
theorem main_try.tw16113674508909506090 : True := trivial
theorem main_try.tw18083510632027392158 : True := trivial
theorem main_try.tw17392301909490908242 : True := trivial
theorem main_try.tw14756653476337634709 : True := trivial
theorem main_try.tw5579864797167830337 : True := trivial
theorem main_try.tw12179524429956887543 : True := trivial
theorem main_try.tw1249029503465904630 : True := trivial
theorem main_try.tw17107077450361541785 : True := trivial
theorem main_try.tw11803744867229070290 : True := trivial
theorem main_try.tw17977839063673147810 : True := trivial
theorem main_try.tw2049856068039843673 : True := trivial
theorem main_try.tw17186587219394050006 : True := trivial
theorem main_try.tw2051573107601495101 : True := trivial
theorem main_try.tw8054459999635904857 : True := trivial
theorem main_try.tw93754450139408804 : True := trivial
theorem main_try.tw14600726731255750163 : True := trivial
theorem main_try.tw17419528374337497125 : True := trivial
theorem main_try.tw9333307272698939427 : True := trivial
theorem main_try.tw8737069290328781637 : True := trivial
theorem main_try.tw16403814375633577640 : True := trivial
theorem main_try.tw3625046962294214233 : True := trivial
theorem main_try.tw14198586355284453520 : True := trivial
theorem main_try.tw6765155007782444783 : True := trivial
theorem main_try.tw7732463563099449547 : True := trivial
theorem main_try.tw783048371076361369 : True := trivial
theorem main_try.tw809488815902835709 : True := trivial
theorem main_try.tw10669518450461799417 : True := trivial
theorem main_try.tw16812229370378261666 : True := trivial
theorem main_try.tw13469779512483932489 : True := trivial
theorem main_try.tw13595997435765546121 : True := trivial
theorem main_try.tw599714744377762377 : True := trivial
theorem main_try.tw12144634475146818865 : True := trivial
theorem main_try.tw6791187250996215067 : True := trivial
theorem main_try.tw10071033150923320155 : True := trivial
theorem main_try.tw15472458978935412776 : True := trivial
theorem main_try.tw16300797257872362372 : True := trivial
theorem main_try.tw15969781561488952315 : True := trivial
theorem main_try.tw404422052330105681 : True := trivial
theorem main_try.tw11570637093897258811 : True := trivial
theorem main_try.tw15070741394262640052 : True := trivial
theorem main_try.tw14373274473665939135 : True := trivial
theorem main_try.tw14141681617426021354 : True := trivial
theorem main_try.tw17225796737047485789 : True := trivial
theorem main_try.tw16230693503236265880 : True := trivial
theorem main_try.tw13355764834817817393 : True := trivial
theorem main_try.tw4559826797619579199 : True := trivial
theorem main_try.tw3001372456907784982 : True := trivial
theorem main_try.tw11175779820402124193 : True := trivial
theorem main_try.tw4697639241286626580 : True := trivial
theorem main_try.tw10846918212141178379 : True := trivial
theorem main_try.tw11880108169310551198 : True := trivial
theorem main_try.tw3761407289174837621 : True := trivial
theorem main_try.tw18207095878656189185 : True := trivial
theorem main_try.tw3415214448187754449 : True := trivial
theorem main_try.tw2138534021651210751 : True := trivial
theorem main_try.tw13781434211156374473 : True := trivial
theorem main_try.tw16686981059322774559 : True := trivial
theorem main_try.tw3842157060680205674 : True := trivial
theorem main_try.tw9121192286029919869 : True := trivial
theorem main_try.tw15848642931651046322 : True := trivial
theorem main_try.tw5203295303111386655 : True := trivial
theorem main_try.tw1084573698296939088 : True := trivial
theorem main_try.tw12180090652426560288 : True := trivial
theorem main_try.tw11591520550657507070 : True := trivial
theorem main_try.tw12678192372225810940 : True := trivial
theorem main_try.tw12309965832351775477 : True := trivial
theorem main_try.tw14528972632426167918 : True := trivial
theorem main_try.tw10731475102440185436 : True := trivial
theorem main_try.tw17182444422566443907 : True := trivial
theorem main_try.tw3443375050072171090 : True := trivial
theorem main_try.tw2455430556970033615 : True := trivial
theorem main_try.tw8279438084285707086 : True := trivial
theorem main_try.tw14675765025996429656 : True := trivial
theorem main_try.tw1977080577219445827 : True := trivial
theorem main_try.tw11943013746069055418 : True := trivial
theorem main_try.tw4888174333622623610 : True := trivial
theorem main_try.tw1990554209305486971 : True := trivial
theorem main_try.tw13759901125789935928 : True := trivial
theorem main_try.tw14957430206217727412 : True := trivial
theorem main_try.tw2300109110132693183 : True := trivial
theorem main_try.tw1588972820241126390 : True := trivial
theorem main_try.tw13566768682325107642 : True := trivial
theorem main_try.tw7667386028049111585 : True := trivial
theorem main_try.tw2521272971214131214 : True := trivial
theorem main_try.tw13204697934999089547 : True := trivial
theorem main_try.tw8969557354154937041 : True := trivial
theorem main_try.tw5388687350947847646 : True := trivial
theorem main_try.tw6138157108968684097 : True := trivial
theorem main_try.tw842699538148975209 : True := trivial
theorem main_try.tw17935905736209824962 : True := trivial
theorem main_try.tw4723322010941038122 : True := trivial
theorem main_try.tw12523723192379726461 : True := trivial
theorem main_try.tw5980708853400587505 : True := trivial
theorem main_try.tw9960990187124954971 : True := trivial
theorem main_try.tw3528324981201646321 : True := trivial
theorem main_try.tw11773884081273930481 : True := trivial
theorem main_try.tw2199351464027991272 : True := trivial
theorem main_try.tw11239899668837947526 : True := trivial
theorem main_try.tw14515392251016589439 : True := trivial
theorem main_try.tw3005871118811170297 : True := trivial
theorem main_try.tw2409005582484061243 : True := trivial
theorem main_try.tw6902185859264114828 : True := trivial
theorem main_try.tw5951021649386986307 : True := trivial
theorem main_try.tw6532322092371276707 : True := trivial
theorem main_try.tw1426427785282226829 : True := trivial
theorem main_try.tw15138960710810172471 : True := trivial
theorem main_try.tw16674876906828769624 : True := trivial
theorem main_try.tw12636960509774464865 : True := trivial
theorem main_try.tw12300598341246569816 : True := trivial
theorem main_try.tw11438260388272244234 : True := trivial
theorem main_try.tw2253585593174028922 : True := trivial
theorem main_try.tw6349493809936162288 : True := trivial
theorem main_try.tw11433654126804795757 : True := trivial
theorem main_try.tw14295086009373367802 : True := trivial
theorem main_try.tw18364642431013432497 : True := trivial
theorem main_try.tw5365714824014190403 : True := trivial
theorem main_try.tw10882628234924697036 : True := trivial
theorem main_try.tw13771893491384428523 : True := trivial
theorem main_try.tw14169859453979440589 : True := trivial
theorem main_try.tw5224338462805347256 : True := trivial
theorem main_try.tw14687061860572588728 : True := trivial
theorem main_try.tw2538984862704472057 : True := trivial
theorem main_try.tw14524379337855942888 : True := trivial
theorem main_try.tw15957134251507689608 : True := trivial
theorem main_try.tw13061830827381649090 : True := trivial
theorem main_try.tw6955993873926792099 : True := trivial
theorem main_try.tw11114243560626659459 : True := trivial
theorem main_try.tw2611608035513783734 : True := trivial
theorem main_try.tw11234294871436274605 : True := trivial
theorem main_try.tw13422755612150630597 : True := trivial
theorem main_try.tw15063950343105317424 : True := trivial
theorem main_try.tw6129914038757405843 : True := trivial
theorem main_try.tw9855994236307991811 : True := trivial
theorem main_try.tw11093220558935073624 : True := trivial
theorem main_try.tw16480494227745667885 : True := trivial
theorem main_try.tw13626178573271874140 : True := trivial
theorem main_try.tw4288770614101565187 : True := trivial
theorem main_try.tw8834698308170455547 : True := trivial
theorem main_try.tw3266558249258366222 : True := trivial
theorem main_try.tw15531187856114868993 : True := trivial
theorem main_try.tw8786701748595863749 : True := trivial
theorem main_try.tw2695072559727360641 : True := trivial
theorem main_try.tw1627267420041705731 : True := trivial
theorem main_try.tw13715901589140699050 : True := trivial
theorem main_try.tw3909485557997449576 : True := trivial
theorem main_try.tw3853232552313265184 : True := trivial
theorem main_try.tw10367833636391489332 : True := trivial
theorem main_try.tw8452630125366037210 : True := trivial
theorem main_try.tw10326814768960681525 : True := trivial
theorem main_try.tw11978201189867744465 : True := trivial
theorem main_try.tw13536798581236311640 : True := trivial
theorem main_try.tw14007329748294811561 : True := trivial
theorem main_try.tw15470760464142264500 : True := trivial
theorem main_try.tw8377624307333783310 : True := trivial
theorem main_try.tw286245682795789372 : True := trivial
theorem main_try.tw3643217113374307794 : True := trivial
theorem main_try.tw12065557949756135506 : True := trivial
theorem main_try.tw11641330106934429705 : True := trivial
theorem main_try.tw15991229602111434534 : True := trivial
theorem main_try.tw14399707712533462331 : True := trivial
theorem main_try.tw16235309297145791973 : True := trivial
theorem main_try.tw17179587129898606139 : True := trivial
theorem main_try.tw4068075783166632229 : True := trivial
theorem main_try.tw599790889612849706 : True := trivial
theorem main_try.tw7262280575261168989 : True := trivial
theorem main_try.tw1394177954903003594 : True := trivial
theorem main_try.tw14648150030945314682 : True := trivial
theorem main_try.tw16615202972769229447 : True := trivial
theorem main_try.tw8936069510633270610 : True := trivial
theorem main_try.tw1361119321210800294 : True := trivial
theorem main_try.tw9763187972640499973 : True := trivial
theorem main_try.tw14124315261406184924 : True := trivial
theorem main_try.tw18279371278499627337 : True := trivial
theorem main_try.tw7506718722562589470 : True := trivial
theorem main_try.tw15990734182921168180 : True := trivial
theorem main_try.tw16828143919749882483 : True := trivial
theorem main_try.tw2739547213157886576 : True := trivial
theorem main_try.tw3752222114859276692 : True := trivial
theorem main_try.tw6042942105318969907 : True := trivial
theorem main_try.tw1170136672275608769 : True := trivial
theorem main_try.tw4644067311108637144 : True := trivial
theorem main_try.tw16250818730489071207 : True := trivial
theorem main_try.tw17002996422632826732 : True := trivial
theorem main_try.tw1201611082414058860 : True := trivial
theorem main_try.tw16401798598059846403 : True := trivial
theorem main_try.tw18151982933562358730 : True := trivial
theorem main_try.tw7741653825075547985 : True := trivial
theorem main_try.tw12465721607504566757 : True := trivial
theorem main_try.tw5604317698366746076 : True := trivial
theorem main_try.tw6331677813970799094 : True := trivial
theorem main_try.tw7140296258761624319 : True := trivial
theorem main_try.tw8227135487024976523 : True := trivial
theorem main_try.tw9051493518569550615 : True := trivial
theorem main_try.tw12063292468831835899 : True := trivial
theorem main_try.tw15431544824624095839 : True := trivial
theorem main_try.tw15746022729264709734 : True := trivial
theorem main_try.tw17160172222455239767 : True := trivial
theorem main_try.tw2821768553015210609 : True := trivial
theorem main_try.tw6979443339139860719 : True := trivial
theorem main_try.tw8651079855419292989 : True := trivial
theorem main_try.tw11103452265417342380 : True := trivial
theorem main_try.tw11380931237020670657 : True := trivial
theorem main_try.tw4531093983403690245 : True := trivial
theorem main_try.tw2836638698657251599 : True := trivial
theorem main_try.tw10638334037428037313 : True := trivial
theorem main_try.tw10652924033027240330 : True := trivial
theorem main_try.tw17969460774005907509 : True := trivial
theorem main_try.tw13668048194968715784 : True := trivial
theorem main_try.tw8183391642558352909 : True := trivial
theorem main_try.tw2908791314051773834 : True := trivial
theorem main_try.tw14722892950260461654 : True := trivial
theorem main_try.tw14311511080231610425 : True := trivial
theorem main_try.tw2382407658939232295 : True := trivial
theorem main_try.tw3395279425184147108 : True := trivial
theorem main_try.tw4907469173275456745 : True := trivial
theorem main_try.tw8398366908189628325 : True := trivial
theorem main_try.tw14543823635247786182 : True := trivial
theorem main_try.tw5741144348417504386 : True := trivial
theorem main_try.tw14313598781439587460 : True := trivial
theorem main_try.tw501603912876253772 : True := trivial
theorem main_try.tw10154134581928437917 : True := trivial
theorem main_try.tw13618124770726794082 : True := trivial
theorem main_try.tw16552399711976750025 : True := trivial
theorem main_try.tw17130805710240757192 : True := trivial
theorem main_try.tw9405182560710975045 : True := trivial
theorem main_try.tw11059536846454237815 : True := trivial
theorem main_try.tw12643601443682891246 : True := trivial
theorem main_try.tw9669538942871615406 : True := trivial
theorem main_try.tw9780420802695681646 : True := trivial
theorem main_try.tw15328301895969935119 : True := trivial
theorem main_try.tw11062157160663776528 : True := trivial
theorem main_try.tw16003775772372776146 : True := trivial
theorem main_try.tw16329948308917500434 : True := trivial
theorem main_try.tw4253045800118889912 : True := trivial
theorem main_try.tw5021224712693430020 : True := trivial
theorem main_try.tw645546886942216562 : True := trivial
theorem main_try.tw9737433967298765414 : True := trivial
theorem main_try.tw9892585621041075424 : True := trivial
theorem main_try.tw11507261416311760838 : True := trivial
theorem main_try.tw5694531407622601738 : True := trivial
theorem main_try.tw11068969009028894521 : True := trivial
theorem main_try.tw13220284294655026135 : True := trivial
theorem main_try.tw13713462696279961876 : True := trivial
theorem main_try.tw7484437085950719719 : True := trivial
theorem main_try.tw10128671615069767243 : True := trivial
theorem main_try.tw11414102113587918051 : True := trivial
theorem main_try.tw11717926875161624020 : True := trivial
theorem main_try.tw16374342987952795755 : True := trivial
theorem main_try.tw17823442777817054790 : True := trivial
theorem main_try.tw2428384587216482594 : True := trivial
theorem main_try.tw2673779995368330970 : True := trivial
theorem main_try.tw3650164806167339356 : True := trivial
theorem main_try.tw14827838906917802375 : True := trivial
theorem main_try.tw15320956478720800921 : True := trivial
theorem main_try.tw15830806634689508266 : True := trivial
theorem main_try.tw1700959099028472136 : True := trivial
theorem main_try.tw2506817211599634100 : True := trivial
theorem main_try.tw2867506624169393469 : True := trivial
theorem main_try.tw3909858907109250025 : True := trivial
theorem main_try.tw5313969449221059966 : True := trivial
theorem main_try.tw8287272812142149075 : True := trivial
theorem main_try.tw8323673993971160526 : True := trivial
theorem main_try.tw8615990721296898838 : True := trivial
theorem main_try.tw10112371196521523197 : True := trivial
theorem main_try.tw10239293675160478534 : True := trivial
theorem main_try.tw10431173925750197472 : True := trivial
theorem main_try.tw10620517489998421531 : True := trivial
theorem main_try.tw11012446542898025873 : True := trivial
theorem main_try.tw11229136055842453343 : True := trivial
theorem main_try.tw11229510063337574075 : True := trivial
theorem main_try.tw112528067859388028 : True := trivial
theorem main_try.tw11786265854948729389 : True := trivial
theorem main_try.tw12128859204193364396 : True := trivial
theorem main_try.tw12227844996538891256 : True := trivial
theorem main_try.tw12300478498402089299 : True := trivial
theorem main_try.tw12730659376744344396 : True := trivial
theorem main_try.tw12822837828149234936 : True := trivial
theorem main_try.tw13046991018703666829 : True := trivial
theorem main_try.tw13115950983588301687 : True := trivial
theorem main_try.tw13220830115987848880 : True := trivial
theorem main_try.tw1323806634245996441 : True := trivial
theorem main_try.tw13596656564022445008 : True := trivial
theorem main_try.tw14364404583290212111 : True := trivial
theorem main_try.tw14373155122411739836 : True := trivial
theorem main_try.tw14485023702928559614 : True := trivial
theorem main_try.tw14514918091845794196 : True := trivial
theorem main_try.tw14525477053523275510 : True := trivial
theorem main_try.tw14644570192079634504 : True := trivial
theorem main_try.tw14713715034000240537 : True := trivial
theorem main_try.tw15088430819585784755 : True := trivial
theorem main_try.tw15180658961206619762 : True := trivial
theorem main_try.tw15264072117323929122 : True := trivial
theorem main_try.tw15453604290148693458 : True := trivial
theorem main_try.tw15691020797075976781 : True := trivial
theorem main_try.tw15936285877600037340 : True := trivial
theorem main_try.tw16024225796371482537 : True := trivial
theorem main_try.tw16037634916412724450 : True := trivial
theorem main_try.tw16149854166443041025 : True := trivial
theorem main_try.tw1639995240631273572 : True := trivial
theorem main_try.tw16776247788799433864 : True := trivial
theorem main_try.tw16813846520097370114 : True := trivial
theorem main_try.tw171342096464392590 : True := trivial
theorem main_try.tw17349601320272359259 : True := trivial
theorem main_try.tw17752275442749152802 : True := trivial
theorem main_try.tw17920313157630313541 : True := trivial
theorem main_try.tw17976287820279085277 : True := trivial
theorem main_try.tw18070754645829128358 : True := trivial
theorem main_try.tw18414047618146936844 : True := trivial
theorem main_try.tw1845241975742867570 : True := trivial
theorem main_try.tw2903563984868370471 : True := trivial
theorem main_try.tw2912566934735423175 : True := trivial
theorem main_try.tw3081173592622020491 : True := trivial
theorem main_try.tw3084647342469363308 : True := trivial
theorem main_try.tw3223820494510460077 : True := trivial
theorem main_try.tw3385274164204089839 : True := trivial
theorem main_try.tw3535538363415708927 : True := trivial
theorem main_try.tw3583272177029404054 : True := trivial
theorem main_try.tw4170056278530511990 : True := trivial
theorem main_try.tw4335599067459109517 : True := trivial
theorem main_try.tw4336334944434798089 : True := trivial
theorem main_try.tw4392862502775109761 : True := trivial
theorem main_try.tw4430559753215499206 : True := trivial
theorem main_try.tw4825395182868127933 : True := trivial
theorem main_try.tw495955920731842987 : True := trivial
theorem main_try.tw5363175005722439530 : True := trivial
theorem main_try.tw5376740265894642526 : True := trivial
theorem main_try.tw59631316202220104 : True := trivial
theorem main_try.tw6381607509986184014 : True := trivial
theorem main_try.tw6389405062022404926 : True := trivial
theorem main_try.tw6429330939960660890 : True := trivial
theorem main_try.tw6850937356967471024 : True := trivial
theorem main_try.tw7461042278923745514 : True := trivial
theorem main_try.tw7483638137279549251 : True := trivial
theorem main_try.tw7500973543250243849 : True := trivial
theorem main_try.tw7532289523065391712 : True := trivial
theorem main_try.tw7861344924943532537 : True := trivial
theorem main_try.tw8245731615904568476 : True := trivial
theorem main_try.tw8907998613391419350 : True := trivial
theorem main_try.tw9389299569183541735 : True := trivial
theorem main_try.tw9433955255228384581 : True := trivial
theorem main_try.tw9809343126616028861 : True := trivial
theorem main_try.tw9965269415513399452 : True := trivial
theorem main_try.tw12474226744722502751 : True := trivial
theorem main_try.tw136109412771412816 : True := trivial
theorem main_try.tw1364687676260057716 : True := trivial
theorem main_try.tw15547083446068686029 : True := trivial
theorem main_try.tw17770221439070077600 : True := trivial
theorem main_try.tw7158536470652408872 : True := trivial
set_option Elab.async true in
set_option maxHeartbeats 8000000 in
theorem main_try : PySem.Challenge.rw_tp0022_01.Holds := by
  w_on; o_law; k_head; (case hw => w_witness2)
  k_go0
  rename IntsAre _ _ => hI
  rename Fr _ _ _ _ => F0
  rename News _ _ _ _ => N0
  rename (¬ _ < _) => hcond
  rename (List Int) => ns
  rename (List Value) => vs
  rename Heap.IsList _ _ _ => hL
  rename Shared => s₁
  rename Top _ _ _ _ _ _ => T0
  rename Frag.In _ _ => KX
  rename World => w0
  replace KX : (hd.heap_1 w0.params).In _ := KX
  refine main_cut F0 (by assumption) ?nEnd ?pEnd ?mEnd
  case nEnd => exact raisesW_false (by wrow_none_raised)
  case pEnd => wrow_post
  case mEnd =>
    have hlen : ns.length ≤ 63 := by omega
    clear hcond
    dsimp only
    generalize hM : (bindL _ _ _ : Str → Option Value) = M₀ at F0
    obtain ⟨sl, m1, hL1⟩ : ∃ sl, M₀ "script" = some (.ref sl) ∧ s₁.heap.IsList sl vs.toArray := ⟨_, by rw [← hM]; rfl, hL⟩
    clear hM
    rename (Obj.data _ = Data.cell _) => e1
    revert e1
    rename (Obj.data _ = Data.cell _) => e2
    revert e2
    rename (Obj.data _ = Data.cell _) => e3
    intro e2 e1
    refine' law_body (s := s₁) KX T0 ?ho F0 N0 e3 e2 e1 m1 hL1 hI hlen rfl (Nat.le_of_ble_eq_true rfl) (Nat.le_of_ble_eq_true rfl) fun h' tk' m' F => MainEnd.intro F
    case ho =>
      refine' parts_to ?pe ?ph
      case pe => k_is
      case ph => rfl
end
end Mine
end
theorem PySem.Challenge.cw_tp0022_01_holds : PySem.Challenge.rw_tp0022_01.Holds := by
  exact Mine.main_try


