import PyProof.Rows.All
import PySem.Builtin.Re_Pattern.W2All
import Flt.Mod
import Wide.All
import OpenK.AllK
import Wide.FinOn
import PySem.Challenge.RW_tp0022_02
set_option Elab.async false
set_option linter.unusedVariables false
set_option linter.unusedSimpArgs false
section
namespace Mine
open PySem PySem.Sre

theorem runFor_done (m : M) (h : m.outcome.isSome = true) : ∀ n, m.runFor n = m
  | 0 => rfl
  | n + 1 => by show (if m.outcome.isSome then m else _) = m; rw [if_pos h]

theorem runFor_succ (m : M) (n : Nat) (h : m.outcome = none) : m.runFor (n + 1) = m.step.runFor n := by
  show (if m.outcome.isSome then m else _) = _
  rw [if_neg (by rw [h]; decide)]

theorem runFor_add : ∀ (a b : Nat) (m : M), m.runFor (a + b) = (m.runFor a).runFor b
  | 0, b, m => by rw [Nat.zero_add]; rfl
  | a + 1, b, m => by
    by_cases h : m.outcome.isSome = true
    · rw [runFor_done m h, runFor_done m h, runFor_done m h]
    · have h' : m.outcome = none := by cases e : m.outcome with | none => rfl | some _ => rw [e] at h; exact absurd rfl h
      rw [show a + 1 + b = (a + b) + 1 by omega, runFor_succ m _ h', runFor_succ m _ h', runFor_add a b]

/-- the machine goes from m to m' in at most n steps -/
def Goes (n : Nat) (m m' : M) : Prop := ∃ k, k ≤ n ∧ m.runFor k = m'

theorem Goes.refl (m : M) : Goes 0 m m := ⟨0, Nat.le_refl _, rfl⟩
theorem Goes.trans {a b : Nat} {m m' m'' : M} (h : Goes a m m') (h' : Goes b m' m'') : Goes (a + b) m m'' := by
  obtain ⟨k, hk, rfl⟩ := h
  obtain ⟨l, hl, rfl⟩ := h'
  exact ⟨k + l, by omega, runFor_add k l m⟩
theorem Goes.step {m m' m'' : M} {n : Nat} (h0 : m.outcome = none) (h : m.step = m') (h' : Goes n m' m'') : Goes (n + 1) m m'' := by
  obtain ⟨k, hk, rfl⟩ := h'
  exact ⟨k + 1, by omega, by rw [runFor_succ m k h0, h]⟩
theorem Goes.mono {a b : Nat} {m m' : M} (h : Goes a m m') (hab : a ≤ b) : Goes b m m' := by
  obtain ⟨k, hk, e⟩ := h
  exact ⟨k, by omega, e⟩
theorem Goes.runFor_ge {n N : Nat} {m m' : M} (h : Goes n m m') (hd : m'.outcome.isSome = true) (hN : n ≤ N) : m.runFor N = m' := by
  obtain ⟨k, hk, rfl⟩ := h
  rw [show N = k + (N - k) by omega, runFor_add, runFor_done _ hd]

def code1 : Array Nat := #[14, 4, 0, 1, 1, 6, 1, 16, 46, 1]

/-- the machine of pattern 1 about to try the place s -/
def at1 (text : Array Nat) (lim s h : Nat) (o mu : Bool) (sn : Seen) : M :=
  { code := code1, text, lim, start := s, lastStart := lim, mustAdvance := mu, pc := 5, pos := s, handed := s, outermost := o, marks := #[], frames := [{ wait := .nextStart, pc := 5, pos := s, outermost := o }], weight := 1, seen := sn }

set_option maxRecDepth 10000 in
theorem at1_step (text : Array Nat) (lim s h : Nat) (o mu : Bool) (sn : Seen) : (at1 text lim s h o mu sn).step =
   (if (s == 0 || text.getD (s - 1) 0 == 10) = true then { at1 text lim s h o mu ((sn.add 6).add 44) with pc := 7 } else { at1 text lim s h o mu ((sn.add 6).add 44) with answer := some false }) := by
  unfold M.step
  simp only [at1]
  simp [M.exec, M.word, code1, ops, M.isAt, M.say]
end Mine
end
section
open PySem PySem.Sre PySem.Builtin PySem.Builtin.Re PySem.Flt
set_option Elab.async false
set_option linter.unusedVariables false
namespace Mine
section
variable {M : Model} {A : Around} {E : Value → Shared → Prop} {s : Shared}
theorem drive {Q : Sre.M → Shared → Prop} : ∀ {n : Nat} {m m' : Sre.M}, 0 < n → m.runFor (4 * n) = m' → m'.outcome.isSome = true → Q m' s → wpAny M A (reDrive n m) Q E s
  | 0, _, _, h, _, _, _ => absurd h (Nat.lt_irrefl _)
  | n + 1, m, m', _, hr, hd, hq => by
    unfold reDrive
    have e4 : reTurnSteps = 4 := rfl
    rw [e4]
    have hsplit : (m.runFor 4).runFor (4 * n) = m' := by rw [← runFor_add, ← hr]; congr 1; omega
    cases h : (m.runFor 4).outcome.isSome with
    | true =>
      rw [runFor_done _ h] at hsplit
      dsimp only
      rw [if_pos h, hsplit]
      exact wpAny_pure hq
    | false =>
      dsimp only
      rw [if_neg (by rw [h]; decide)]
      have hn : 0 < n := by
        cases n with
        | zero => rw [← hsplit] at hd; rw [show (m.runFor 4).runFor (4 * 0) = m.runFor 4 from rfl, h] at hd; cases hd
        | succ k => exact Nat.succ_pos _
      exact wpAny_bind (wpAny_rule (drive hn hsplit hd hq))

theorem rules_pass {α : Type} (f : α → Bool) (g : α → String) {Q : PUnit → Shared → Prop} : ∀ (l : List α), Q PUnit.unit s →
    wpAny M A (forIn l PUnit.unit fun i _ => do
      if f i then rule (g i)
      pure (ForInStep.yield PUnit.unit)) Q E s
  | [], hq => wpAny_pure hq
  | a :: r, hq => by
    rw [List.forIn_cons]
    refine wpAny_bind ?_
    cases h : f a with
    | true => exact wpAny_bind (wpAny_rule (wpAny_pure (rules_pass f g r hq)))
    | false => exact wpAny_pure (rules_pass f g r hq)

theorem runToEnd {Q : Option Sre.M → Shared → Prop} {m m' : Sre.M} {k : Nat} {r : Option Sre.M} (hg : Goes k m m') (hk : k ≤ 2 ^ 64) (hd : (m'.outcome = some .matched ∧ r = some m') ∨ (m'.outcome = some .failed ∧ r = none)) (hq : Q r s) :
    wpAny M A (reRunToEnd m) Q E s := by
  have hsome : m'.outcome.isSome = true := by rcases hd with ⟨h, _⟩ | ⟨h, _⟩ <;> rw [h] <;> rfl
  unfold reRunToEnd
  refine wpAny_bind (drive (by decide) (hg.runFor_ge hsome (by omega)) hsome ?_)
  refine wpAny_bind ?_
  refine rules_pass (fun i => m'.seen.has i) (fun i => Sre.names.getD i "") _ ?_
  rcases hd with ⟨h, e⟩ | ⟨h, e⟩
  · rw [h]; subst e; exact wpAny_pure hq
  · rw [h]; subst e; exact wpAny_pure hq
end
end Mine
end
section
open PySem PySem.Sre PySem.Builtin PySem.Builtin.Re PySem.Flt
set_option Elab.async false
set_option linter.unusedVariables false
namespace Mine

/-- the search from pos over the whole text, with no must: finds (b, e), or nothing -/
def Finds (code text : Array Nat) (pos : Nat) (r : Option (Nat × Nat)) : Prop :=
  ∃ m' k, Goes k (forSearch code text 0 pos text.size false) m' ∧ k ≤ 2 ^ 64 ∧
    match r with
    | none => m'.outcome = some .failed
    | some (b, e) => m'.outcome = some .matched ∧ m'.start = b ∧ m'.handed = e

theorem step_say {m : Sre.M} {b : Bool} (ho : m.outcome = none) (ha : m.answer = some b) (hf : m.frames = []) : m.step = { m with outcome := some (if b then .matched else .failed) } := by
  unfold M.step
  rw [if_neg (by rw [ho]; decide), ha, hf]

theorem Finds.fail_now {code text : Array Nat} {pos : Nat} {m : Sre.M} (h : forSearch code text 0 pos text.size false = m) (ho : m.outcome = none) (ha : m.answer = some false) (hf : m.frames = []) : Finds code text pos none := by
  refine ⟨_, 1, Goes.step (m := forSearch code text 0 pos text.size false) (by rw [h]; exact ho) rfl (Goes.refl _), by decide, ?_⟩
  rw [h, step_say ho ha hf]; rfl

theorem finds_past {code text : Array Nat} {pos : Nat} (h : pos ≥ text.size) (hl : 1 ≤ (header code).1) : Finds code text pos none := by
  refine Finds.fail_now rfl ?_ ?_ ?_ <;>
  · unfold forSearch
    have : (decide (pos > text.size) || decide (text.size - pos < (header code).1)) = true := by
      simp only [Bool.or_eq_true, decide_eq_true_eq]; right; omega
    dsimp only
    rw [if_pos (by simpa using this)]
    rfl

/-! the sets -/
/-- the code's first set lets c through | not -/
def InFirst (code : Array Nat) (c : Nat) (b : Bool) : Prop := ∀ seen, ∃ seen', inSet code c code.size 5 true seen = .ok (b, seen')

theorem admitted_none {m : Sre.M} : ∀ {fuel s : Nat} {seen : Seen}, (∀ k, s ≤ k → k < m.lim → InFirst m.code (m.text.getD k 0) false) → ∃ seen', M.admitted m fuel s seen = .ok (none, seen')
  | 0, _, seen, _ => ⟨seen, rfl⟩
  | fuel + 1, s, seen, h => by
    unfold M.admitted
    by_cases hs : s ≥ m.lim
    · rw [if_pos hs]; exact ⟨_, rfl⟩
    · rw [if_neg hs]
      obtain ⟨seen', e⟩ := h s (Nat.le_refl _) (by omega) seen
      rw [e]
      exact admitted_none (fuel := fuel) (s := s + 1) (seen := seen') fun k hk => h k (by omega)
theorem admitted_some {m : Sre.M} {b : Nat} (hb : b < m.lim) (hin : InFirst m.code (m.text.getD b 0) true) : ∀ {fuel s : Nat} {seen : Seen}, s ≤ b → b < s + fuel → (∀ k, s ≤ k → k < b → InFirst m.code (m.text.getD k 0) false) →
    ∃ seen', M.admitted m fuel s seen = .ok (some b, seen')
  | 0, s, _, h1, h2, _ => absurd h2 (by omega)
  | fuel + 1, s, seen, h1, h2, h => by
    unfold M.admitted
    rw [if_neg (by omega)]
    by_cases hs : s = b
    · subst hs
      obtain ⟨seen', e⟩ := hin seen
      rw [e]; exact ⟨_, rfl⟩
    · obtain ⟨seen', e⟩ := h s (Nat.le_refl _) (by omega) seen
      rw [e]
      exact admitted_some hb hin (by omega) (by omega) fun k hk => h k (by omega)


/-- the machine about to look for a start -/
def m0 (code text : Array Nat) (lim body pos : Nat) : Sre.M :=
  { code, text, lim, start := pos, lastStart := lim, pc := body + 1, pos := pos, handed := pos, marks := #[], seen := ({} : Seen).add 14 }

def code2 : Array Nat := #[14, 9, 4, 1, 2, 16, 10, 16, 13, 0, 7, 7, 16, 13, 16, 10, 15, 18, 5, 16, 10, 15, 13, 11, 16, 13, 5, 5, 0, 16, 10, 1, 15, 2, 0, 1]
def codeN : Array Nat := #[14, 10, 4, 1, 1, 22, 0, 31, 16, 127, 0, 13, 7, 22, 0, 31, 16, 127, 0, 1]
def codeV : Array Nat := #[14, 14, 4, 1, 1, 9, 4294966783, 0, 0, 2147483648, 0, 0, 0, 0, 0, 13, 11, 9, 4294966783, 0, 0, 2147483648, 0, 0, 0, 0, 0, 1]
/-- a code of ours: least 1, its body -/
def Starts (code : Array Nat) (body : Nat) : Prop := (header code).1 = 1 ∧ ∀ (text : Array Nat) (pos lim : Nat), pos < lim → forSearch code text 0 pos lim false = M.attemptFrom (m0 code text lim body pos) pos true

theorem starts1 : Starts code1 4 := ⟨rfl, fun text pos lim hp => by
  unfold forSearch
  dsimp only
  rw [if_neg (by show ¬ (decide (pos > lim) || decide (lim - pos < 1)) = true; simp; omega)]
  rfl⟩
theorem starts2 : Starts code2 9 := ⟨rfl, fun text pos lim hp => by
  unfold forSearch
  dsimp only
  rw [if_neg (by show ¬ (decide (pos > lim) || decide (lim - pos < 1)) = true; simp; omega)]
  rfl⟩
theorem startsN : Starts codeN 10 := ⟨rfl, fun text pos lim hp => by
  unfold forSearch
  dsimp only
  rw [if_neg (by show ¬ (decide (pos > lim) || decide (lim - pos < 1)) = true; simp; omega)]
  rfl⟩
theorem startsV : Starts codeV 14 := ⟨rfl, fun text pos lim hp => by
  unfold forSearch
  dsimp only
  rw [if_neg (by show ¬ (decide (pos > lim) || decide (lim - pos < 1)) = true; simp; omega)]
  rfl⟩

theorem finds_none_first {code text : Array Nat} {body pos : Nat} (hs : Starts code body) (hfs : ∀ m : Sre.M, m.code = code → m.hasFirstSet = true) (h : ∀ k, pos ≤ k → k < text.size → InFirst code (text.getD k 0) false) :
    Finds code text pos none := by
  by_cases hp : pos ≥ text.size
  · exact finds_past hp (by rw [hs.1]; exact Nat.le_refl _)
  · have e := hs.2 text pos text.size (by omega)
    have key : ∃ sn, M.attemptFrom (m0 code text text.size body pos) pos true = M.say { (m0 code text text.size body pos) with seen := sn } false := by
      unfold M.attemptFrom
      rw [hfs _ rfl]
      obtain ⟨sn, e2⟩ := admitted_none (m := m0 code text text.size body pos) (fuel := text.size + 1 - pos) (s := pos) (seen := (m0 code text text.size body pos).seen) h
      refine ⟨sn, ?_⟩
      show (match M.admitted (m0 code text text.size body pos) (text.size + 1 - pos) pos (m0 code text text.size body pos).seen with
        | .ok (some s, seen) => { (m0 code text text.size body pos) with mustAdvance := false, seen }.attemptAt s true
        | .ok (none, seen) => { (m0 code text text.size body pos) with seen }.say false
        | .error why => (m0 code text text.size body pos).stick why) = _
      rw [e2]
    obtain ⟨sn, e3⟩ := key
    exact Finds.fail_now (e.trans e3) rfl rfl rfl

theorem first2 (m : Sre.M) (h : m.code = code2) : m.hasFirstSet = true := by unfold M.hasFirstSet; rw [h]; rfl
theorem firstN (m : Sre.M) (h : m.code = codeN) : m.hasFirstSet = true := by unfold M.hasFirstSet; rw [h]; rfl
theorem firstV (m : Sre.M) (h : m.code = codeV) : m.hasFirstSet = true := by unfold M.hasFirstSet; rw [h]; rfl
theorem first1 (m : Sre.M) (h : m.code = code1) : m.hasFirstSet = false := by unfold M.hasFirstSet; rw [h]; rfl

theorem inFirstN {c : Nat} (h : 32 ≤ c) (h2 : c < 127) : InFirst codeN c false := by
  intro seen
  refine ⟨((seen.add 22).add 16).add 0, ?_⟩
  have e1 : (decide (0 ≤ c) && decide (c ≤ 31)) = false := by simp; omega
  have e2 : (c == 127) = false := by simp; omega
  show (if (decide (0 ≤ c) && decide (c ≤ 31)) = true then _ else if (c == 127) = true then _ else _) = _
  rw [e1, e2]
  rfl
theorem inFirstV {c : Nat} (h : 32 ≤ c) (h2 : c < 127) : InFirst codeV c false := by
  intro seen
  refine ⟨(seen.add 9).add 0, ?_⟩
  have e1 : (decide (c < 256) && (codeV.getD (5 + (1 + c / 32)) 0).testBit (c % 32)) = false := by
    have : ∀ c, c < 127 → 32 ≤ c → (decide (c < 256) && (codeV.getD (5 + (1 + c / 32)) 0).testBit (c % 32)) = false := by decide +kernel
    exact this c h2 h
  show (if (decide (c < 256) && (codeV.getD (5 + (1 + c / 32)) 0).testBit (c % 32)) = true then _ else _) = _
  rw [e1]
  rfl
theorem inFirst2 {c : Nat} (h : c ≠ 10) (h2 : c ≠ 13) : InFirst code2 c false := by
  intro seen
  refine ⟨((seen.add 16).add 16).add 0, ?_⟩
  have e1 : (c == 10) = false := by simpa using h
  have e2 : (c == 13) = false := by simpa using h2
  show (if (c == 10) = true then _ else if (c == 13) = true then _ else _) = _
  rw [e1, e2]
  rfl
theorem inFirst2' {c : Nat} (h : c = 10 ∨ c = 13) : InFirst code2 c true := by
  intro seen
  rcases h with rfl | rfl
  · exact ⟨_, rfl⟩
  · exact ⟨_, rfl⟩
theorem findsN {text : Array Nat} (h : ∀ c ∈ text.toList, 32 ≤ c ∧ c < 127) : Finds codeN text 0 none :=
  finds_none_first startsN firstN fun k _ hk => by
    have hm : text.getD k 0 ∈ text.toList := by simp [Array.getD, hk]
    exact inFirstN (h _ hm).1 (h _ hm).2
theorem findsV {text : Array Nat} (h : ∀ c ∈ text.toList, 32 ≤ c ∧ c < 127) : Finds codeV text 0 none :=
  finds_none_first startsV firstV fun k _ hk => by
    have hm : text.getD k 0 ∈ text.toList := by simp [Array.getD, hk]
    exact inFirstV (h _ hm).1 (h _ hm).2
theorem finds2_none {text : Array Nat} {pos : Nat} (h : ∀ k, pos ≤ k → k < text.size → text.getD k 0 ≠ 10 ∧ text.getD k 0 ≠ 13) : Finds code2 text pos none :=
  finds_none_first starts2 first2 fun k h1 h2 => inFirst2 (h k h1 h2).1 (h k h1 h2).2
end Mine
end
section
open PySem PySem.Sre PySem.Builtin PySem.Builtin.Re PySem.Flt
set_option Elab.async false
set_option linter.unusedVariables false
set_option linter.unusedSimpArgs false
namespace Mine

/-- pattern 2's machine -/
def st2 (text : Array Nat) (lim b : Nat) (sn : Seen) (pc pos handed : Nat) (om : Bool) (fr : List Sre.Frame) (wt : Nat) (ans : Option Bool) : Sre.M :=
  { code := code2, text, lim, start := b, lastStart := lim, mustAdvance := false, pc, pos, handed, outermost := om, marks := #[], frames := fr, weight := wt, answer := ans, seen := sn }
def fS (b : Nat) : Sre.Frame := { wait := .nextStart, pc := 10, pos := b, outermost := true }
def fB (pc b : Nat) : Sre.Frame := { wait := .nextBranch, pc := pc, pos := b, outermost := true }
def fL (b : Nat) : Sre.Frame := { wait := .lookNot, pc := 26, pos := b, outermost := true }

section
variable {text : Array Nat} {lim b : Nat} {sn : Seen} {pos hd wt : Nat} {om : Bool} {fr : List Sre.Frame}

theorem go2 : (st2 text lim b sn 10 b hd true [fS b] 1 none).step = st2 text lim b (sn.add 7) 12 b b true [fB 11 b, fS b] 2 none := rfl

/-- one literal -/
def litOk (text : Array Nat) (lim pos c : Nat) : Bool := decide (pos < lim) && text.getD pos 0 == c
set_option maxRecDepth 10000 in
theorem lit2 (pc c : Nat) (h : (pc = 12 ∧ c = 13) ∨ (pc = 14 ∧ c = 10) ∨ (pc = 19 ∧ c = 10) ∨ (pc = 24 ∧ c = 13) ∨ (pc = 29 ∧ c = 10)) (hok : litOk text lim pos c = true) :
    (st2 text lim b sn pc pos hd om fr wt none).step = st2 text lim b (sn.add 16) (pc + 2) (pos + 1) hd om fr wt none := by
  unfold litOk at hok
  rw [Bool.and_eq_true, decide_eq_true_eq] at hok
  obtain ⟨h1, h2⟩ := hok
  have h3 : ¬ (lim ≤ pos) := by omega
  rcases h with ⟨rfl, rfl⟩ | ⟨rfl, rfl⟩ | ⟨rfl, rfl⟩ | ⟨rfl, rfl⟩ | ⟨rfl, rfl⟩ <;>
  · unfold M.step
    simp only [st2]
    rw [beq_iff_eq, Array.getD_eq_getD_getElem?] at h2
    simp [M.exec, M.word, code2, ops, M.say, accepts, itemWidth, h3, h2]
set_option maxRecDepth 10000 in
theorem lit2no (pc c : Nat) (h : (pc = 12 ∧ c = 13) ∨ (pc = 14 ∧ c = 10) ∨ (pc = 19 ∧ c = 10) ∨ (pc = 24 ∧ c = 13) ∨ (pc = 29 ∧ c = 10)) (hok : litOk text lim pos c = false) :
    (st2 text lim b sn pc pos hd om fr wt none).step = st2 text lim b (sn.add 16) pc pos hd om fr wt (some false) := by
  unfold litOk at hok
  by_cases h1 : pos < lim
  · have h3 : ¬ (lim ≤ pos) := by omega
    rw [decide_eq_true h1, Bool.true_and] at hok
    rw [Array.getD_eq_getD_getElem?] at hok
    have h2 : ¬ (text[pos]?.getD 0 = c) := by simpa using hok
    rcases h with ⟨rfl, rfl⟩ | ⟨rfl, rfl⟩ | ⟨rfl, rfl⟩ | ⟨rfl, rfl⟩ | ⟨rfl, rfl⟩ <;>
    · unfold M.step
      simp only [st2]
      simp [M.exec, M.word, code2, ops, M.say, accepts, itemWidth, h3, hok]
  · have h3 : lim ≤ pos := by omega
    rcases h with ⟨rfl, rfl⟩ | ⟨rfl, rfl⟩ | ⟨rfl, rfl⟩ | ⟨rfl, rfl⟩ | ⟨rfl, rfl⟩ <;>
    · unfold M.step
      simp only [st2]
      simp [M.exec, M.word, code2, ops, M.say, accepts, itemWidth, h3]

theorem next18 (r : List Sre.Frame) : (st2 text lim b sn pos hd wt om (fB 11 b :: r) 2 (some false)).step = st2 text lim b sn 19 b b true (fB 18 b :: r) 2 none := rfl
theorem next23 (r : List Sre.Frame) : (st2 text lim b sn pos hd wt om (fB 18 b :: r) 2 (some false)).step = st2 text lim b sn 24 b b true (fB 23 b :: r) 2 none := rfl
theorem jump16 : (st2 text lim b sn 16 pos hd om fr wt none).step = st2 text lim b (sn.add 15) 35 pos hd om fr wt none := rfl
theorem jump21 : (st2 text lim b sn 21 pos hd om fr wt none).step = st2 text lim b (sn.add 15) 35 pos hd om fr wt none := rfl
theorem jump32 : (st2 text lim b sn 32 pos hd om fr wt none).step = st2 text lim b (sn.add 15) 35 pos hd om fr wt none := rfl
theorem succ35 : (st2 text lim b sn 35 pos hd true fr wt none).step = st2 text lim b (sn.add 1) 35 pos pos true fr wt (some true) := rfl
theorem look26 (r : List Sre.Frame) : (st2 text lim b sn 26 (b + 1) hd true r 2 none).step = st2 text lim b (sn.add 5) 29 (b + 1) (b + 1) false (fL (b + 1) :: r) 3 none := rfl
theorem look26' (r : List Sre.Frame) {p q h : Nat} : (st2 text lim b sn p q h om (fL (b + 1) :: r) 3 (some false)).step = st2 text lim b sn 32 (b + 1) h true r 2 none := rfl
theorem yesB (f : Nat) (r : List Sre.Frame) {p q h w : Nat} : (st2 text lim b sn p q h om (fB f b :: r) w (some true)).step = st2 text lim b sn f b h true r (w - 1) (some true) := rfl
theorem yesS {p q h w : Nat} : (st2 text lim b sn p q h om [fS b] w (some true)).step = st2 text lim b sn 10 b h true [] (w - 1) (some true) := rfl
theorem yesEnd {p q h w : Nat} : (st2 text lim b sn p q h om [] w (some true)).step = { (st2 text lim b sn p q h om [] w (some true)) with outcome := some .matched } := rfl
end

/-- the way in: the first admitted place -/
theorem begin2 {text : Array Nat} {b pos : Nat} (hp : pos ≤ b) (hb : b < text.size) (hin : text.getD b 0 = 10 ∨ text.getD b 0 = 13) (hf : ∀ k, pos ≤ k → k < b → text.getD k 0 ≠ 10 ∧ text.getD k 0 ≠ 13) :
    ∃ sn, forSearch code2 text 0 pos text.size false = st2 text text.size b sn 10 b b true [fS b] 1 none := by
  rw [starts2.2 text pos text.size (by omega)]
  unfold M.attemptFrom
  rw [first2 _ rfl]
  obtain ⟨sn, e2⟩ := admitted_some (m := m0 code2 text text.size 9 pos) (b := b) hb (inFirst2' hin) (fuel := text.size + 1 - pos) (s := pos) (seen := (m0 code2 text text.size 9 pos).seen) hp (by omega) (fun k h1 h2 => inFirst2 (hf k h1 h2).1 (hf k h1 h2).2)
  refine ⟨sn, ?_⟩
  show (match M.admitted (m0 code2 text text.size 9 pos) (text.size + 1 - pos) pos (m0 code2 text text.size 9 pos).seen with
    | .ok (some s, seen) => { (m0 code2 text text.size 9 pos) with mustAdvance := false, seen }.attemptAt s true
    | .ok (none, seen) => { (m0 code2 text text.size 9 pos) with seen }.say false
    | .error why => (m0 code2 text text.size 9 pos).stick why) = _
  rw [e2]
  rfl

theorem finds2_crlf {text : Array Nat} {b pos : Nat} (hp : pos ≤ b) (hb : b + 1 < text.size) (h1 : text.getD b 0 = 13) (h2 : text.getD (b + 1) 0 = 10) (hf : ∀ k, pos ≤ k → k < b → text.getD k 0 ≠ 10 ∧ text.getD k 0 ≠ 13) :
    Finds code2 text pos (some (b, b + 2)) := by
  obtain ⟨sn, e⟩ := begin2 hp (by omega) (.inr h1) hf
  refine ⟨{ (st2 text text.size b (((((sn.add 7).add 16).add 16).add 15).add 1) 10 b (b + 2) true [] 0 (some true)) with outcome := some .matched }, 9, ?_, by decide, ?_⟩
  · rw [e]
    refine (Goes.step rfl go2 ?_ : Goes (8 + 1) _ _)
    refine (Goes.step rfl (lit2 (text := text) (lim := text.size) (pos := b) 12 13 (by simp) (by unfold litOk; rw [h1]; simp; omega)) ?_ : Goes (7 + 1) _ _)
    refine (Goes.step rfl (lit2 (text := text) (lim := text.size) (pos := b + 1) 14 10 (by simp) (by unfold litOk; rw [h2]; simp; omega)) ?_ : Goes (6 + 1) _ _)
    refine (Goes.step rfl jump16 ?_ : Goes (5 + 1) _ _)
    refine (Goes.step rfl succ35 ?_ : Goes (4 + 1) _ _)
    refine (Goes.step rfl (yesB 11 _) ?_ : Goes (3 + 1) _ _)
    refine (Goes.step rfl yesS ?_ : Goes (2 + 1) _ _)
    refine (Goes.step rfl yesEnd ?_ : Goes (1 + 1) _ _)
    exact (Goes.refl _).mono (by decide)
  · exact ⟨rfl, rfl, rfl⟩
theorem finds2_lf {text : Array Nat} {b pos : Nat} (hp : pos ≤ b) (hb : b < text.size) (h1 : text.getD b 0 = 10) (hf : ∀ k, pos ≤ k → k < b → text.getD k 0 ≠ 10 ∧ text.getD k 0 ≠ 13) :
    Finds code2 text pos (some (b, b + 1)) := by
  obtain ⟨sn, e⟩ := begin2 hp hb (.inl h1) hf
  refine ⟨{ (st2 text text.size b (((((sn.add 7).add 16).add 16).add 15).add 1) 10 b (b + 1) true [] 0 (some true)) with outcome := some .matched }, 9, ?_, by decide, ?_⟩
  · rw [e]
    refine (Goes.step rfl go2 ?_ : Goes (8 + 1) _ _)
    refine (Goes.step rfl (lit2no 12 13 (by simp) (by unfold litOk; rw [h1]; simp)) ?_ : Goes (7 + 1) _ _)
    refine (Goes.step rfl (next18 _) ?_ : Goes (6 + 1) _ _)
    refine (Goes.step rfl (lit2 19 10 (by simp) (by unfold litOk; rw [h1]; simp; omega)) ?_ : Goes (5 + 1) _ _)
    refine (Goes.step rfl jump21 ?_ : Goes (4 + 1) _ _)
    refine (Goes.step rfl succ35 ?_ : Goes (3 + 1) _ _)
    refine (Goes.step rfl (yesB 18 _) ?_ : Goes (2 + 1) _ _)
    refine (Goes.step rfl yesS ?_ : Goes (1 + 1) _ _)
    refine (Goes.step rfl yesEnd ?_ : Goes (0 + 1) _ _)
    exact Goes.refl _
  · exact ⟨rfl, rfl, rfl⟩
theorem finds2_cr {text : Array Nat} {b pos : Nat} (hp : pos ≤ b) (hb : b < text.size) (h1 : text.getD b 0 = 13) (h2 : litOk text text.size (b + 1) 10 = false) (hf : ∀ k, pos ≤ k → k < b → text.getD k 0 ≠ 10 ∧ text.getD k 0 ≠ 13) :
    Finds code2 text pos (some (b, b + 1)) := by
  obtain ⟨sn, e⟩ := begin2 hp hb (.inr h1) hf
  refine ⟨{ (st2 text text.size b (((((((((sn.add 7).add 16).add 16).add 16).add 16).add 5).add 16).add 15).add 1) 10 b (b + 1) true [] 0 (some true)) with outcome := some .matched }, 15, ?_, by decide, ?_⟩
  · rw [e]
    refine (Goes.step rfl go2 ?_ : Goes (14 + 1) _ _)
    refine (Goes.step rfl (lit2 12 13 (by simp) (by unfold litOk; rw [h1]; simp; omega)) ?_ : Goes (13 + 1) _ _)
    refine (Goes.step rfl (lit2no 14 10 (by simp) h2) ?_ : Goes (12 + 1) _ _)
    refine (Goes.step rfl (next18 _) ?_ : Goes (11 + 1) _ _)
    refine (Goes.step rfl (lit2no 19 10 (by simp) (by unfold litOk; rw [h1]; simp)) ?_ : Goes (10 + 1) _ _)
    refine (Goes.step rfl (next23 _) ?_ : Goes (9 + 1) _ _)
    refine (Goes.step rfl (lit2 24 13 (by simp) (by unfold litOk; rw [h1]; simp; omega)) ?_ : Goes (8 + 1) _ _)
    refine (Goes.step rfl (look26 _) ?_ : Goes (7 + 1) _ _)
    refine (Goes.step rfl (lit2no 29 10 (by simp) h2) ?_ : Goes (6 + 1) _ _)
    refine (Goes.step rfl (look26' _) ?_ : Goes (5 + 1) _ _)
    refine (Goes.step rfl jump32 ?_ : Goes (4 + 1) _ _)
    refine (Goes.step rfl succ35 ?_ : Goes (3 + 1) _ _)
    refine (Goes.step rfl (yesB 23 _) ?_ : Goes (2 + 1) _ _)
    refine (Goes.step rfl yesS ?_ : Goes (1 + 1) _ _)
    refine (Goes.step rfl yesEnd ?_ : Goes (0 + 1) _ _)
    exact Goes.refl _
  · exact ⟨rfl, rfl, rfl⟩
end Mine
end
section
open PySem PySem.Sre PySem.Builtin PySem.Builtin.Re PySem.Flt
set_option Elab.async false
set_option linter.unusedVariables false
set_option linter.unusedSimpArgs false
namespace Mine

/-- pattern 1's machine about to try the place s; o: is it the first try -/
def st1 (text : Array Nat) (lim s : Nat) (sn : Seen) (pc pos handed : Nat) (om : Bool) (fr : List Sre.Frame) (wt : Nat) (ans : Option Bool) : Sre.M :=
  { code := code1, text, lim, start := s, lastStart := lim, mustAdvance := false, pc, pos, handed, outermost := om, marks := #[], frames := fr, weight := wt, answer := ans, seen := sn }
def fT (s : Nat) (om : Bool) : Sre.Frame := { wait := .nextStart, pc := 5, pos := s, outermost := om }

section
variable {text : Array Nat} {lim s : Nat} {sn : Seen} {pos hd wt : Nat} {om : Bool} {fr : List Sre.Frame}
/-- a line begins at s -/
def bol (text : Array Nat) (s : Nat) : Bool := s == 0 || text.getD (s - 1) 0 == 10
set_option maxRecDepth 10000 in
theorem at1yes (h : bol text pos = true) : (st1 text lim s sn 5 pos hd om fr wt none).step = st1 text lim s ((sn.add 6).add 44) 7 pos hd om fr wt none := by
  unfold bol at h
  unfold M.step
  simp only [st1]
  rw [Array.getD_eq_getD_getElem?] at h
  simp only [Bool.or_eq_true, beq_iff_eq] at h
  simp [M.exec, M.word, code1, ops, M.isAt, M.say, h]
set_option maxRecDepth 10000 in
theorem at1no (h : bol text pos = false) : (st1 text lim s sn 5 pos hd om fr wt none).step = st1 text lim s ((sn.add 6).add 44) 5 pos hd om fr wt (some false) := by
  unfold bol at h
  unfold M.step
  simp only [st1]
  rw [Array.getD_eq_getD_getElem?] at h
  simp only [Bool.or_eq_false_iff, beq_eq_false_iff_ne, ne_eq] at h
  simp [M.exec, M.word, code1, ops, M.isAt, M.say, h]
set_option maxRecDepth 10000 in
theorem dot1yes (hok : litOk text lim pos 46 = true) : (st1 text lim s sn 7 pos hd om fr wt none).step = st1 text lim s (sn.add 16) 9 (pos + 1) hd om fr wt none := by
  unfold litOk at hok
  rw [Bool.and_eq_true, decide_eq_true_eq] at hok
  obtain ⟨h1, h2⟩ := hok
  have h3 : ¬ (lim ≤ pos) := by omega
  unfold M.step
  simp only [st1]
  rw [beq_iff_eq, Array.getD_eq_getD_getElem?] at h2
  simp [M.exec, M.word, code1, ops, M.say, accepts, itemWidth, h3, h2]
set_option maxRecDepth 10000 in
theorem dot1no (hok : litOk text lim pos 46 = false) : (st1 text lim s sn 7 pos hd om fr wt none).step = st1 text lim s (sn.add 16) 7 pos hd om fr wt (some false) := by
  unfold litOk at hok
  by_cases h1 : pos < lim
  · have h3 : ¬ (lim ≤ pos) := by omega
    rw [decide_eq_true h1, Bool.true_and] at hok
    rw [Array.getD_eq_getD_getElem?] at hok
    unfold M.step
    simp only [st1]
    simp [M.exec, M.word, code1, ops, M.say, accepts, itemWidth, h3, hok]
  · have h3 : lim ≤ pos := by omega
    unfold M.step
    simp only [st1]
    simp [M.exec, M.word, code1, ops, M.say, accepts, itemWidth, h3]
theorem succ9t : (st1 text lim s sn 9 pos hd true fr wt none).step = st1 text lim s (sn.add 1) 9 pos pos true fr wt (some true) := rfl
theorem succ9f : (st1 text lim s sn 9 pos hd false fr wt none).step = st1 text lim s (sn.add 1) 9 pos pos false fr wt (some true) := rfl
theorem succ9 : (st1 text lim s sn 9 pos hd om fr wt none).step = st1 text lim s (sn.add 1) 9 pos pos om fr wt (some true) := by cases om; exact succ9f; exact succ9t
theorem yes1 {p q h w : Nat} {o : Bool} : (st1 text lim s sn p q h o [fT s om] w (some true)).step = st1 text lim s sn 5 s h om [] (w - 1) (some true) := rfl
theorem end1 {p q h w : Nat} {o : Bool} : (st1 text lim s sn p q h o [] w (some true)).step = { (st1 text lim s sn p q h o [] w (some true)) with outcome := some .matched } := rfl
theorem endno {p q h w : Nat} {o : Bool} : (st1 text lim s sn p q h o [] w (some false)).step = { (st1 text lim s sn p q h o [] w (some false)) with outcome := some .failed } := rfl
theorem over1 {p q h : Nat} {o : Bool} (hs : s < lim) : (st1 text lim s sn p q h o [fT s om] 1 (some false)).step = st1 text lim (s + 1) sn 5 (s + 1) (s + 1) false [fT (s + 1) false] 1 none := by
  show M.resume { (st1 text lim s sn p q h o [] 0 none) with pc := 5, pos := s, outermost := om } (fT s om) false = _
  unfold M.resume
  show (if s < lim then _ else _) = _
  rw [if_pos hs]
  rfl
theorem over1end {p q h : Nat} {o : Bool} (hs : ¬ s < lim) : (st1 text lim s sn p q h o [fT s om] 1 (some false)).step = st1 text lim s sn 5 s h om [] 0 (some false) := by
  show M.resume { (st1 text lim s sn p q h o [] 0 none) with pc := 5, pos := s, outermost := om } (fT s om) false = _
  unfold M.resume
  show (if s < lim then _ else _) = _
  rw [if_neg hs]
  rfl
end

theorem begin1 {text : Array Nat} {pos : Nat} (hp : pos < text.size) : ∃ sn, forSearch code1 text 0 pos text.size false = st1 text text.size pos sn 5 pos pos true [fT pos true] 1 none := by
  rw [starts1.2 text pos text.size hp]
  unfold M.attemptFrom
  rw [first1 _ rfl]
  exact ⟨_, rfl⟩

/-- a place where pattern 1 fits -/
def dotAt (text : Array Nat) (s : Nat) : Bool := bol text s && litOk text text.size s 46
theorem try1_yes {text : Array Nat} {s : Nat} {sn : Seen} {om : Bool} (h : dotAt text s = true) :
    ∃ m', Goes 5 (st1 text text.size s sn 5 s s om [fT s om] 1 none) m' ∧ m'.outcome = some .matched ∧ m'.start = s ∧ m'.handed = s + 1 := by
  unfold dotAt at h
  rw [Bool.and_eq_true] at h
  refine ⟨{ (st1 text text.size s (((((sn.add 6).add 44).add 16).add 1)) 5 s (s + 1) om [] 0 (some true)) with outcome := some .matched }, ?_, rfl, rfl, rfl⟩
  refine (Goes.step rfl (at1yes h.1) ?_ : Goes (4 + 1) _ _)
  refine (Goes.step rfl (dot1yes h.2) ?_ : Goes (3 + 1) _ _)
  refine (Goes.step rfl succ9 ?_ : Goes (2 + 1) _ _)
  refine (Goes.step rfl yes1 ?_ : Goes (1 + 1) _ _)
  refine (Goes.step rfl end1 ?_ : Goes (0 + 1) _ _)
  exact Goes.refl _
theorem try1_no {text : Array Nat} {s : Nat} {sn : Seen} {om : Bool} (h : dotAt text s = false) :
    ∃ sn' p q hd, Goes 2 (st1 text text.size s sn 5 s s om [fT s om] 1 none) (st1 text text.size s sn' p q hd om [fT s om] 1 (some false)) := by
  unfold dotAt at h
  cases hb : bol text s with
  | false => exact ⟨_, _, _, _, (Goes.step rfl (at1no hb) (Goes.refl _)).mono (by decide)⟩
  | true =>
    rw [hb, Bool.true_and] at h
    exact ⟨_, _, _, _, (Goes.step rfl (at1yes hb) (Goes.step rfl (dot1no h) (Goes.refl _)))⟩
theorem walk1_to {text : Array Nat} {b : Nat} (hb : b ≤ text.size) : ∀ (n s : Nat) (sn : Seen) (om : Bool), s + n = b → (∀ k, s ≤ k → k < b → dotAt text k = false) →
    ∃ sn' om', Goes (3 * n) (st1 text text.size s sn 5 s s om [fT s om] 1 none) (st1 text text.size b sn' 5 b b om' [fT b om'] 1 none)
  | 0, s, sn, om, h, _ => by
    have : s = b := by omega
    subst this
    exact ⟨sn, om, (Goes.refl _).mono (by decide)⟩
  | n + 1, s, sn, om, h, hf => by
    obtain ⟨sn', p, q, hd, g⟩ := try1_no (text := text) (s := s) (sn := sn) (om := om) (hf s (Nat.le_refl _) (by omega))
    obtain ⟨sn2, om2, g2⟩ := walk1_to hb n (s + 1) sn' false (by omega) (fun k h1 h2 => hf k (by omega) h2)
    exact ⟨sn2, om2, (g.trans (Goes.step rfl (over1 (by omega)) g2)).mono (by omega)⟩
theorem finds1_some {text : Array Nat} {pos b : Nat} (hsz : text.size ≤ 2 ^ 40) (hp : pos ≤ b) (h : dotAt text b = true) (hf : ∀ k, pos ≤ k → k < b → dotAt text k = false) : Finds code1 text pos (some (b, b + 1)) := by
  have hb : b < text.size := by
    unfold dotAt litOk at h
    simp only [Bool.and_eq_true, decide_eq_true_eq] at h
    exact h.2.1
  obtain ⟨sn, e⟩ := begin1 (text := text) (pos := pos) (by omega)
  obtain ⟨sn2, om2, g⟩ := walk1_to (text := text) (b := b) (by omega) (b - pos) pos sn true (by omega) hf
  obtain ⟨m', g2, h1, h2, h3⟩ := try1_yes (sn := sn2) (om := om2) h
  refine ⟨m', 3 * (b - pos) + 5, ?_, by omega, h1, h2, h3⟩
  rw [e]; exact g.trans g2
theorem finds1_none {text : Array Nat} {pos : Nat} (hsz : text.size ≤ 2 ^ 40) (hf : ∀ k, pos ≤ k → k < text.size → dotAt text k = false) : Finds code1 text pos none := by
  by_cases hp : pos < text.size
  · obtain ⟨sn, e⟩ := begin1 (text := text) (pos := pos) hp
    obtain ⟨sn2, om2, g⟩ := walk1_to (text := text) (b := text.size) (Nat.le_refl _) (text.size - pos) pos sn true (by omega) hf
    have hlast : dotAt text text.size = false := by unfold dotAt litOk; simp
    obtain ⟨sn3, p, q, hd, g2⟩ := try1_no (text := text) (s := text.size) (sn := sn2) (om := om2) hlast
    refine ⟨{ (st1 text text.size text.size sn3 5 text.size hd om2 [] 0 (some false)) with outcome := some .failed }, 3 * (text.size - pos) + (2 + 2), ?_, by omega, rfl⟩
    rw [e]
    exact g.trans (g2.trans (Goes.step rfl (over1end (by omega)) (Goes.step rfl endno (Goes.refl _))))
  · exact finds_past (by omega) (by decide)
end Mine
end
section
open PySem PySem.Sre PySem.Builtin PySem.Builtin.Re PySem.Flt PyProof.Rows
set_option Elab.async false
set_option linter.unusedVariables false
set_option linter.unusedSimpArgs false
set_option maxRecDepth 100000
namespace Mine
theorem slot_search : Slot "re.Pattern" "search" "re.Pattern.search" :=
  .of (owner := "re.Pattern") (n := "search") (by rw [typeLookup_type, builtinLookup_eq_fast]; kernel_rfl) (by decide +kernel) (by decide +kernel) (by decide +kernel)
    (by first | exact .inl (by decide +kernel) | exact .inr (by decide +kernel)) (by rw [isSubtype_type]; kernel_rfl)
theorem type_search : typeOf (.builtin "re.Pattern.search") = pure (.type "method_descriptor") := by show builtinType _ = _; rw [builtinType_eq_fast]; kernel_rfl
theorem entry_search : entryFor table "re.Pattern.search" = some Builtin.«re.Pattern.search» := entryFor_of_tree (by kernel_rfl)
theorem slot_sub : Slot "re.Pattern" "sub" "re.Pattern.sub" :=
  .of (owner := "re.Pattern") (n := "sub") (by rw [typeLookup_type, builtinLookup_eq_fast]; kernel_rfl) (by decide +kernel) (by decide +kernel) (by decide +kernel)
    (by first | exact .inl (by decide +kernel) | exact .inr (by decide +kernel)) (by rw [isSubtype_type]; kernel_rfl)
theorem type_sub : typeOf (.builtin "re.Pattern.sub") = pure (.type "method_descriptor") := by show builtinType _ = _; rw [builtinType_eq_fast]; kernel_rfl
theorem entry_sub : entryFor table "re.Pattern.sub" = some Builtin.«re.Pattern.sub» := entryFor_of_tree (by kernel_rfl)
theorem entry_loop : entryFor table "re.Pattern.sub.loop" = some Builtin.«re.Pattern.sub.loop» := entryFor_of_tree (by kernel_rfl)
theorem plainAttrs_pat : PlainAttrs "re.Pattern" :=
  ⟨⟨"object.__getattribute__", by rw [typeLookup_type, builtinLookup_eq_fast]; kernel_rfl, by decide +kernel⟩, by rw [typeLookup_type, builtinLookup_eq_fast]; kernel_rfl⟩
theorem owner_pat : Manifest.owners.lookup (String.ofList ['n', 'r', 'e', 't', 't', 'a', 'P', '.', 'e', 'r'].reverse) = some Manifest.sig_re_Pattern := by kernel_rfl
theorem args_search (a b : Value) : argsOk "re.Pattern.search" ⟨[a, b], []⟩ := by
  unfold argsOk; rw [signature?_of (id := "re.Pattern.search") (n := ['h', 'c', 'r', 'a', 'e', 's']) (o := ['n', 'r', 'e', 't', 't', 'a', 'P', '.', 'e', 'r']) (by kernel_rfl) owner_pat]; kernel_rfl
theorem args_sub (a b c : Value) : argsOk "re.Pattern.sub" ⟨[a, b, c], []⟩ := by
  unfold argsOk; rw [signature?_of (id := "re.Pattern.sub") (n := ['b', 'u', 's']) (o := ['n', 'r', 'e', 't', 't', 'a', 'P', '.', 'e', 'r']) (by kernel_rfl) owner_pat]; kernel_rfl
theorem xx : True := trivial
end Mine
end
section
open PySem PySem.Sre PySem.Builtin PySem.Builtin.Re PySem.Flt PyProof.Rows
set_option Elab.async false
set_option linter.unusedVariables false
set_option linter.unusedSimpArgs false
set_option maxRecDepth 100000
namespace Mine
/-- a compiled pattern of texts, no groups, its code -/
def Pat (h : Heap) (a : Addr) (code : Array Nat) : Prop :=
  ∃ (fs : Array Value) (T : Addr) (ws : Array Value) (n : Nat), h.get? a = some { cls := .type "re.Pattern", data := .fields fs } ∧ fs.getD 5 .none = .ref T ∧ reRawNat (fs.getD 2 .none) = 0 ∧ reRawNat (fs.getD 6 .none) = 0 ∧
    h.get? T = some { cls := .type "tuple", data := .seq ws n } ∧ (ws.map reRawOf).map (·.toNat) = code
theorem Pat.keeps {h h' : Heap} {a : Addr} {c : Array Nat} (x : Pat h a c) (hk : ∀ b o, h.get? b = some o → h'.get? b = some o) : Pat h' a c := by
  obtain ⟨fs, T, ws, n, h1, h2, h3, h4, h5, h6⟩ := x
  exact ⟨fs, T, ws, n, hk _ _ h1, h2, h3, h4, hk _ _ h5, h6⟩

section
variable {prog : Program} {w : World} {A : Around} {E : Value → Shared → Prop} {s : Shared} {a : Addr} {code : Array Nat}
theorem get_search {pl : Sem Bool} {Q : Value × List Value → Shared → Prop} {M : Model} (P : Pat s.heap a code) (h : Q (.builtin "re.Pattern.search", [.ref a]) s) : wpAny M A (getMethod (.ref a) "search" pl) Q E s := by
  obtain ⟨fs, T, ws, n, h1, _⟩ := P
  exact getMethod_builtin ⟨_, h1, rfl⟩ plainAttrs_pat slot_search type_search (fun b e => by cases e; exact ⟨_, h1, rfl⟩) h
theorem get_sub {pl : Sem Bool} {Q : Value × List Value → Shared → Prop} {M : Model} (P : Pat s.heap a code) (h : Q (.builtin "re.Pattern.sub", [.ref a]) s) : wpAny M A (getMethod (.ref a) "sub" pl) Q E s := by
  obtain ⟨fs, T, ws, n, h1, _⟩ := P
  exact getMethod_builtin ⟨_, h1, rfl⟩ plainAttrs_pat slot_sub type_sub (fun b e => by cases e; exact ⟨_, h1, rfl⟩) h

theorem rawItems {Q : Array Int → Shared → Prop} {M : Model} {T : Addr} {ws : Array Value} {n : Nat} (ho : s.heap.get? T = some { cls := .type "tuple", data := .seq ws n }) (h : Q (ws.map reRawOf) s) : wpAny M A (reRawItems (.ref T)) Q E s := by
  unfold reRawItems
  exact wpAny_bind (wpAny_seqItems ho rfl (wpAny_pure h))
theorem textOf_str {Q : Array Nat × Nat → Shared → Prop} {M : Model} {x : Str} {t : Tok} (h : Q (x.cps, 0) s) : wpAny M A (reTextOf (.str x t)) Q E s := by
  unfold reTextOf
  exact wpAny_bind (wpAny_pure (wpAny_pure h))

theorem whole_target {Q : ReTarget → Shared → Prop} {M : Model} {x : Str} {t : Tok} (P : Pat s.heap a code) (h : Q { pattern := .ref a, string := .str x t, code := code, text := x.cps, kind := 0, groups := 0, pos := 0, lim := x.cps.size } s) :
    wpAny M A (reWholeTarget (.ref a) (.str x t)) Q E s := by
  obtain ⟨fs, T, ws, n, h1, h2, h3, h4, h5, h6⟩ := P
  unfold reWholeTarget
  refine wpAny_bind (wpAny_fieldsOf h1 rfl (wpAny_bind (textOf_str ?_)))
  dsimp only
  rw [h4, h2, h3]
  rw [if_neg (by decide), if_neg (by decide)]
  refine wpAny_bind (wpAny_pure ?_ : wpAny M A (reNoCollectionInside (.str x t) 0) _ E s)
  refine wpAny_bind (rawItems h5 (wpAny_pure ?_))
  rw [h6]; exact h

theorem named_search (x : Str) (t : Tok) : reNamed "re.Pattern.search" "search" ["string", "pos", "endpos"] 1 [.str x t] [] = pure [some (.str x t), none, none] := rfl
theorem named_sub (r x : Str) (tr t : Tok) : reNamed "re.Pattern.sub" "sub" ["repl", "string", "count"] 2 [.str r tr, .str x t] [] = pure [some (.str r tr), some (.str x t), none] := rfl

theorem search_target {Q : ReTarget → Shared → Prop} {M : Model} {x : Str} {t : Tok} (hsz : x.cps.size ≤ 2 ^ 60) (P : Pat s.heap a code) (h : Q { pattern := .ref a, string := .str x t, code := code, text := x.cps, kind := 0, groups := 0, pos := 0, lim := x.cps.size } s) :
    wpAny M A (reTarget "re.Pattern.search" "search" ⟨[.ref a, .str x t], []⟩) Q E s := by
  obtain ⟨fs, T, ws, n, h1, h2, h3, h4, h5, h6⟩ := P
  unfold reTarget
  dsimp only
  rw [named_search]
  refine wpAny_bind (wpAny_pure ?_)
  dsimp only
  refine wpAny_bind (wpAny_pure (wpAny_bind (wpAny_pure ?_)))
  refine wpAny_bind (wpAny_fieldsOf h1 rfl (wpAny_bind (textOf_str ?_)))
  dsimp only
  rw [h4, h2, h3]
  rw [if_neg (by decide), if_neg (by decide)]
  refine wpAny_bind (wpAny_pure ?_ : wpAny M A (reNoCollectionInside (.str x t) 0) _ E s)
  refine wpAny_bind (rawItems h5 (wpAny_pure ?_))
  rw [h6]
  have e1 : min ((0 : Int)).toNat x.cps.size = 0 := by simp
  have e2 : min ((2 ^ 63 - 1 : Int)).toNat x.cps.size = x.cps.size := by
    have : ((2 ^ 63 - 1 : Int)).toNat = 9223372036854775807 := rfl
    rw [this]; omega
  rw [e1, e2]
  exact h

theorem call_search {Q : Value → Shared → Prop} {x : Str} {t : Tok} (hsz : x.cps.size ≤ 2 ^ 60) (P : Pat s.heap a code) (hf : Finds code x.cps 0 none) (h : Q .none s) :
    wpAny (model prog w) A (call (.builtin "re.Pattern.search") [.ref a, .str x t]) Q E s := by
  have P' := P
  obtain ⟨fs, T, ws, n, h1, _⟩ := P'
  refine wpAny_call (codeAny_call_builtin slot_search.plain entry_search (slot_search.check _ _ _ _ _ _ _ _ ⟨_, h1, rfl⟩ (args_search _ _) ?_))
  unfold Builtin.«re.Pattern.search»
  refine wpAny_bind (search_target hsz P ?_)
  unfold reAnswer
  obtain ⟨m', k, g, hk, hd⟩ := hf
  refine wpAny_bind (runToEnd (r := none) g hk (.inr ⟨hd, rfl⟩) ?_)
  exact wpAny_pure h
end
end Mine
end
section
open PySem PySem.W PySem.Calls PyProof.Rows
set_option Elab.async false
set_option linter.unusedVariables false
namespace Mine

section
variable {prog : Program} {w : World} {A : Around} {E : Value → Shared → Prop} {s : Shared}

theorem mul_is {x : Str} {n : Int} {t u : Tok} {Q : Value → Shared → Prop} (hok : MulOk x n) (h : ∀ t' k, Q (.str (Txt.mul x n) t') { s with toks := k }) :
    wpAny (model prog w) A (binaryOp .Mult (.int n u) (.str x t)) Q E s := by
  refine lm_binaryOp_repeat_right (T := "str") (U := "int") (by decide) (fun s' => typeIs_int s' n u) (typeIs_str s x t) F.fills_int_mul noFill_str_mul F.slot_int_mul lm_noRepeat_int repeat_str F.slot_int_index.lookup
    (call_gives F.slot_int_mul (typeIs_int s n u) F.entry_int_mul (F.args_int_mul_2 _ _) (AutoIntG3.int___mul___int_str_0 n u x t)
      ⟨rfl, typeIs_str _ x t, call_gives F.slot_str_mul (typeIs_str s x t) F.entry_str_mul (F.args_str_mul_2 _ _) (gives_str_mul x n t u hok.1 hok.2.1 hok.2.2) ?_⟩)
  unfold Txt.mul at h
  by_cases h1 : n < 1
  · rw [if_pos h1]; have h' := h s.toks (s.toks + 1); rw [if_pos h1] at h'; exact ⟨by decide, h'⟩
  · rw [if_neg h1]; refine post_val_or_made (fun hc => fits_reps (hok.2.2 h1 (by simpa using hc))) fun t' k => ?_
    have h' := h t' k; rw [if_neg h1] at h'; exact h'
end

section
variable {prog : Program} {w : World} {A : Around} {s : Shared} {K : Frag} {h₀ : Heap} {p : Program} {loose : List Str} {mean : ExcName → Option Value} {mg mb : Str → Option Value}
  {R : Result → Shared → Prop} {name qual : Str} {params : Arguments} {body : List Stmt} {scope : Scope} {dV kV doc pm cdv ct oc : Value} {an od : Option Addr} {osl : Array (Option Value)} {f : Addr} {args : Args} {binds : List (Str × Value)}

/-- entering a def of the text's, over the whole heap but for the addresses hs, which may be turned -/
theorem enterH (hs : List Addr) (X₀ : K.In h₀) (T : Top p loose mean mg mb h₀) (st : h₀.StaysIn s.heap) (hh : ∀ a ∈ hs, h₀.get? a = none)
    (ho : K.lookup f = some ⟨oc, od, .func (fnOf name qual params body scope dV kV doc pm an cdv ct), osl⟩) (hcd : codeIn K cdv qual = true) (hroom : A.depth < recursionLimit)
    (hbind : BindsTo s (fnOf name qual params body scope dV kV doc pm an cdv ct) args binds) (hloc : ∀ y ∈ binds, scope.names.lookup y.1 = some .local)
    (hcell : ∀ x ∈ scope.names, x.2 ≠ .cell) (hco : scope.isCoroutine = false) (hgen : scope.isGenerator = false) (hk : scope.kind = .function)
    (h : ∀ g L' h₁, Fr g L' h₁ (fun y => binds.reverse.lookup y) → K.In g → Top p loose mean mg mb g → h₀.StaysIn g → (∀ b o, s.heap.get? b = some o → b ∉ hs → g.get? b = some o) →
      (∀ b ∈ hs, g.get? b = none) → s.heap.StaysIn h₁ → (∀ b o, s.heap.get? b = some o → b ≠ L') →
      wpAny (model prog w) (A.deeper (envOf qual scope L' f cdv)) (execs body (envOf qual scope L' f cdv))
        (fun fl s' => R (.ok (.ret (match fl with | .ret v => v | _ => .none))) s') (fun _ _ => False)
        { s with heap := h₁, toks := s.toks + binds.length }) : codeAny (model prog w) A (.call (.ref f) args) R s := by
  have nm : ∀ b o, h₀.get? b = some o → b ∉ hs := fun b o e q => by rw [hh b q] at e; cases e
  have stg : h₀.StaysIn (hideAll s.heap hs) := fun b o e => hideAll_get _ (st b o e) (nm b o e)
  refine codeAny_call_def (fd := fnOf name qual params body scope dV kV doc pm an cdv ct) (body := body) (binds := binds) hroom ((X₀.keeps st) _ _ ho) rfl (T.nolimit.keeps st) (codeRec_of (X₀.keeps st) hcd) rfl hbind hcell hloc (fun h₁ hns hk₁ => ?_) hco hgen hk
  refine wpAny_mono (h (hideAll s.heap hs) s.heap.objs.size h₁ ⟨hns, fun b o e => hk₁ b o (of_hideAll _ e), Nat.le_of_eq (hideAll_size _ _)⟩ (X₀.keeps stg) (T.keeps stg) stg
    (fun b o e n => hideAll_get _ e n) (fun b hb => hideAll_none _ hb) hk₁ (fun b o e => Nat.ne_of_lt (Heap.lt_size e))) (fun fl s' hl => hl) fun e s' x => x.elim
end


section
variable {prog : Program} {w : World} {A : Around} {E : Value → Shared → Prop} {s : Shared} {env : Env} {g : Heap}

/-- how a turn of a loop over a list ends -/
def TurnEnd (g : Heap) (L : Addr) (s : Shared) (I : Addr) (oI : Obj) (J : (Str → Option Value) → List (Addr × Obj) → Prop) (Q : Flow → Shared → Prop) (f : Flow) (s₄ : Shared) : Prop :=
  match f with
  | .ret v => Q (.ret v) s₄
  | .brk => Q .next s₄
  | _ => ∃ h' tk' m' news', s₄ = { s with heap := h', toks := tk' } ∧ Fr g L h' m' ∧ News g L h' ((I, oI) :: news') ∧ (∀ p ∈ news', p.1 ≠ I) ∧ J m' news'

/-- what must hold where a loop over a list begins -/
def LStart (g : Heap) (L : Addr) (s : Shared) (l : Addr) (J : (Str → Option Value) → List (Addr × Obj) → Prop) (x : Value) (s₁ : Shared) : Prop :=
  x = .ref l ∧ s₁ = { s with heap := s₁.heap, toks := s₁.toks } ∧ ∃ m news, Fr g L s₁.heap m ∧ News g L s₁.heap news ∧ J m news
theorem LStart.intro {g h : Heap} {L l : Addr} {s : Shared} {J : (Str → Option Value) → List (Addr × Obj) → Prop} {m : Str → Option Value} {news : List (Addr × Obj)} {tk : Nat} (F : Fr g L h m) (N : News g L h news) (j : J m news) :
    LStart g L s l J (.ref l) { s with heap := h, toks := tk } := ⟨rfl, rfl, m, news, F, N, j⟩
theorem TurnEnd.next {g h' : Heap} {L I : Addr} {oI : Obj} {s : Shared} {J : (Str → Option Value) → List (Addr × Obj) → Prop} {Q : Flow → Shared → Prop} {m' : Str → Option Value} {news' : List (Addr × Obj)} {tk' : Nat}
    (F : Fr g L h' m') (N : News g L h' ((I, oI) :: news')) (ho : ∀ p ∈ news', p.1 ≠ I) (j : J m' news') : TurnEnd g L s I oI J Q .next { s with heap := h', toks := tk' } := ⟨h', tk', m', news', rfl, F, N, ho, j⟩
/-- a loop over a list, from where the list is known -/
structure LoopL (prog : Program) (w : World) (A : Around) (g : Heap) (env : Env) (target : PySem.Expr) (body : List Stmt) (Q : Flow → Shared → Prop) (E : Value → Shared → Prop) (s : Shared) (l : Addr) (items : Array Value)
    (J : Nat → (Str → Option Value) → List (Addr × Obj) → Prop) (s₁ : Shared) : Prop where
  same : s₁ = { s with heap := s₁.heap, toks := s₁.toks }
  start : ∃ m news, Fr g env.locals s₁.heap m ∧ News g env.locals s₁.heap news ∧ J 0 m news
  go : ∀ (I : Addr) (v : Value) (i j : Nat) (Q' : Unit → Shared → Prop) (E' : Value → Shared → Prop) (s' : Shared), items[j]? = some v → s'.heap.IsListIter I l i → Q' () s' → wpAny (model prog w) A (letOwnedTupleGo target (.ref I) v) Q' E' s'
  list : ∀ i m news h, J i m news → Fr g env.locals h m → News g env.locals h news → h.IsList l items
  turn : ∀ I oI i v m news h tk, oI.cls = .type "list_iterator" → items[i]? = some v → J i m news → (∀ p ∈ news, p.1 ≠ I) → Fr g env.locals h m → News g env.locals h ((I, oI) :: news) →
      wpAny (model prog w) A (assign target env v) (fun _ s₃ => wpAny (model prog w) A (execs body env) (TurnEnd g env.locals s I oI (J (i + 1)) Q) E s₃) E { s with heap := h, toks := tk }
  done : ∀ h tk m news, J items.size m news → Fr g env.locals h m → News g env.locals h news → Q .next { s with heap := h, toks := tk }
def LoopX (prog : Program) (w : World) (A : Around) (g : Heap) (env : Env) (target : PySem.Expr) (body : List Stmt) (Q : Flow → Shared → Prop) (E : Value → Shared → Prop) (s : Shared) (x : Value) (s₁ : Shared) : Prop :=
  ∃ l items J, x = .ref l ∧ LoopL prog w A g env target body Q E s l items J s₁

theorem for_listX {target iter : PySem.Expr} {body : List Stmt} {pos : Pos} {Q : Flow → Shared → Prop}
    (hh : A.handled = none)
    (h : wpAny (model prog w) A (eval iter env) (LoopX prog w A g env target body Q E s) E s)
    (hs : ∀ x, foldedSetIterable iter env x = pure x)
    (hE : PassesOwn (model prog w) A env E) :
    wpAny (model prog w) A (exec (.For target iter body [] pos) env) Q E s := by
  refine wpAny_For (wpAny_mono h (fun xv s₁ h₁ => ?_) fun _ _ e => e) hs
  obtain ⟨l, items, J, rfl, hs₁, ⟨m, news, F, N, h0⟩, hgo, hlist, turn, done⟩ := h₁
  have hls := hlist 0 m news s₁.heap h0 F N
  obtain ⟨ol, hol, _⟩ := id hls
  have hlt : l < s₁.heap.objs.size := Heap.lt_size hol
  have hne : l ≠ s₁.heap.objs.size := Nat.ne_of_lt hlt
  refine wpAny_pyIter_list hls ?_
  generalize hI : s₁.heap.objs.size = I at hne
  have W := Walks.list (prog := prog) (w := w) hh I l hne items
  have hLI : env.locals ≠ I := by rw [← hI]; exact Nat.ne_of_lt F.ns.lt
  have hgI : g.get? I = none := by
    cases q : g.get? I with
    | none => rfl
    | some o => exact absurd (Heap.lt_size (F.keep _ _ q)) (by rw [hI]; exact Nat.lt_irrefl _)
  refine codeAny_forLoop_any (R := fun r s' => match r with | .ok f => Q f s' | .error e => cameBackBy (model prog w) A env E e s')
    (fun k s' => ∃ h' tk m' news' i, s' = { s with heap := h', toks := tk } ∧ h'.IsListIter I l i ∧ Fr g env.locals h' m' ∧ News g env.locals h' news' ∧ (∀ p ∈ news', p.1 ≠ I) ∧ J i m' news' ∧ i ≤ items.size ∧ k = items.size + 1 - i) ?_ (items.size + 1)
    ⟨s₁.heap.push { cls := .type "list_iterator", data := .fields #[.ref l, .int 0 0] }, s₁.toks, m, news, 0, by rw [hs₁], ⟨_, by rw [← hI]; exact Heap.get?_push_size _ rfl, rfl, rfl⟩, F.push _,
      (fun p hp => ⟨Heap.get?_push_of_some _ (N p hp).1, (N p hp).2⟩), (fun p hp e => absurd (Heap.lt_size (N p hp).1) (by rw [e, hI]; exact Nat.lt_irrefl _)), h0, Nat.zero_le _, rfl⟩
  rintro k s' ⟨h', tk, m', news', i, rfl, hit, F', N', hoff, hJ, hi, rfl⟩
  have hl' := hlist i m' news' h' hJ F' N'
  have next : ∀ h₁ : Heap, (∀ b o, b ∉ [I] → h'.get? b = some o → h₁.get? b = some o) → Fr g env.locals h₁ m' ∧ News g env.locals h₁ news' := fun h₁ hk₁ =>
    ⟨⟨F'.ns.at' fun o e => hk₁ _ o (by simpa using hLI) e, fun b o e => hk₁ b o (by simp; intro q; rw [q, hgI] at e; cases e) (F'.keep b o e), F'.above⟩, fun p hp => ⟨hk₁ _ _ (by simpa using hoff p hp) (N' p hp).1, (N' p hp).2⟩⟩
  by_cases hlt : i < items.size
  · refine W.item i _ _ _ hlt ⟨hit, hl'⟩ fun v h₁ tk₁ hP hst₁ hk₁ => ?_
    obtain ⟨F₁, N₁⟩ := next h₁ hk₁
    obtain ⟨oI, hoI, hoc, hod⟩ := id hst₁.1
    refine hgo I v (i + 1) i _ _ _ hP hst₁.1 ?_
    have N₂ : News g env.locals h₁ ((I, oI) :: news') := fun p hp => by
      rcases List.mem_cons.mp hp with rfl | hp
      · exact ⟨hoI, Ne.symm hLI, hgI⟩
      · exact N₁ p hp
    refine wpAny_passesOwn hE (wpAny_mono (turn I oI i v m' news' h₁ tk₁ hoc hP hJ hoff F₁ N₂) (fun _ s₃ h₃ => wpAny_passesOwn hE (wpAny_mono h₃ (fun f s₄ h₄ => ?_) fun _ _ e => e)) fun _ _ e => e)
    cases f with
    | ret v => exact h₄
    | brk => exact h₄
    | next =>
      obtain ⟨h₄', tk₄, m₄, news₄, rfl, F₄, N₄, hoff₄, hJ₄⟩ := h₄
      exact ⟨items.size + 1 - (i + 1), by omega, h₄', tk₄, m₄, news₄, i + 1, rfl, ⟨oI, (N₄ _ (List.mem_cons_self ..)).1, hoc, hod⟩, F₄, fun p hp => N₄ p (List.mem_cons_of_mem _ hp), hoff₄, hJ₄, hlt, rfl⟩
    | cont =>
      obtain ⟨h₄', tk₄, m₄, news₄, rfl, F₄, N₄, hoff₄, hJ₄⟩ := h₄
      exact ⟨items.size + 1 - (i + 1), by omega, h₄', tk₄, m₄, news₄, i + 1, rfl, ⟨oI, (N₄ _ (List.mem_cons_self ..)).1, hoc, hod⟩, F₄, fun p hp => N₄ p (List.mem_cons_of_mem _ hp), hoff₄, hJ₄, hlt, rfl⟩
  · have hin : i = items.size := by omega
    subst hin
    refine W.done _ _ _ ⟨hit, hl'⟩ fun h₁ tk₁ hk₁ => wpAny_execs_nil ?_
    obtain ⟨F₁, N₁⟩ := next h₁ hk₁
    exact done h₁ tk₁ m' news' hJ F₁ N₁

theorem for_list {target iter : PySem.Expr} {body : List Stmt} {pos : Pos} {Q : Flow → Shared → Prop} {l : Addr} {items : Array Value} (J : Nat → (Str → Option Value) → List (Addr × Obj) → Prop)
    (hh : A.handled = none)
    (hgo : ∀ (I : Addr) (v : Value) (i j : Nat) (Q' : Unit → Shared → Prop) (E' : Value → Shared → Prop) (s' : Shared), items[j]? = some v → s'.heap.IsListIter I l i → Q' () s' → wpAny (model prog w) A (letOwnedTupleGo target (.ref I) v) Q' E' s')
    (hlist : ∀ i m news h, J i m news → Fr g env.locals h m → News g env.locals h news → h.IsList l items)
    (h : wpAny (model prog w) A (eval iter env) (LStart g env.locals s l (J 0)) E s)
    (turn : ∀ I oI i v m news h tk, oI.cls = .type "list_iterator" → items[i]? = some v → J i m news → (∀ p ∈ news, p.1 ≠ I) → Fr g env.locals h m → News g env.locals h ((I, oI) :: news) →
      wpAny (model prog w) A (assign target env v) (fun _ s₃ => wpAny (model prog w) A (execs body env) (TurnEnd g env.locals s I oI (J (i + 1)) Q) E s₃) E { s with heap := h, toks := tk })
    (done : ∀ h tk m news, J items.size m news → Fr g env.locals h m → News g env.locals h news → Q .next { s with heap := h, toks := tk })
    (hs : ∀ x, foldedSetIterable iter env x = pure x)
    (hE : PassesOwn (model prog w) A env E) :
    wpAny (model prog w) A (exec (.For target iter body [] pos) env) Q E s :=
  for_listX hh (wpAny_mono h (fun x s₁ h₁ => by
    obtain ⟨rfl, hs₁, hst⟩ := h₁
    exact ⟨l, items, J, rfl, hs₁, hst, hgo, hlist, turn, done⟩) fun _ _ e => e) hs hE

theorem go_name {x : Str} {px : Pos} {l : Addr} {items : Array Value} (I : Addr) (v : Value) (i j : Nat) (Q' : Unit → Shared → Prop) (E' : Value → Shared → Prop) (s' : Shared) (_h : items[j]? = some v) (_hi : s'.heap.IsListIter I l i) (hq : Q' () s') :
    wpAny (model prog w) A (letOwnedTupleGo (.Name x px) (.ref I) v) Q' E' s' := wpAny_pure hq
end

section
variable {prog : Program} {w : World} {A : Around} {s : Shared} {g : Heap}
theorem go_tuple {elts : List PySem.Expr} {x1 : Nat} {px : Pos} {l : Addr} {items : Array Value} (hr : ∀ (j : Nat) (v : Value), items[j]? = some v → ∃ T, v = Value.ref T) (I : Addr) (v : Value) (i j : Nat) (Q' : Unit → Shared → Prop) (E' : Value → Shared → Prop) (s' : Shared) (h : items[j]? = some v) (hi : s'.heap.IsListIter I l i) (hq : Q' () s') :
    wpAny (model prog w) A (letOwnedTupleGo (.Tuple elts x1 px) (.ref I) v) Q' E' s' := by
  obtain ⟨T, rfl⟩ := hr j v h
  exact wpAny_letOwnedTupleGo_listiter hi hq
theorem stays_of {hp g h' : Heap} {L : Addr} {m : Str → Option Value} (hg : ∀ (b : Addr) (o : Obj), hp.get? b = some o → ¬b ∈ ([] : List Addr) → g.get? b = some o) (F : Fr g L h' m) : hp.StaysIn h' :=
  fun b o e => F.keep b o (hg b o e (by simp))
/-- the way out, when some objects were hidden: they are in the ledger still -/
theorem stays_news {hp g h' : Heap} {L : Addr} {m : Str → Option Value} {tab news : List (Addr × Obj)} (ht : ∀ p ∈ tab, hp.get? p.1 = some p.2) (hg : ∀ (b : Addr) (o : Obj), hp.get? b = some o → ¬b ∈ tab.map (·.1) → g.get? b = some o) (F : Fr g L h' m) (N : News g L h' news) (hs : ∀ p ∈ tab, p ∈ news) : hp.StaysIn h' :=
  fun b o e => by
    by_cases hb : b ∈ tab.map (·.1)
    · obtain ⟨p, hp', rfl⟩ := List.mem_map.mp hb
      have h1 := ht p hp'
      rw [e] at h1
      cases h1
      exact (N p (hs p hp')).1
    · exact F.keep b o (hg b o e hb)
theorem news_enter {hp g h₁ : Heap} {L' : Addr} {tab : List (Addr × Obj)} (ht : ∀ p ∈ tab, hp.get? p.1 = some p.2) (hn : ∀ b ∈ tab.map (·.1), g.get? b = none) (hk : hp.StaysIn h₁) (hL : ∀ b o, hp.get? b = some o → b ≠ L') : News g L' h₁ tab :=
  fun p hp' => ⟨hk _ _ (ht p hp'), hL _ _ (ht p hp'), hn _ (List.mem_map_of_mem hp')⟩
theorem keep2 {P : Prop} {g h h' : Heap} {L : Addr} {m : Str → Option Value} {news : List (Addr × Obj)} (F : Fr g L h m) (N : News g L h news) (hs : h.StaysIn h') (k : Fr g L h' m → News g L h' news → P) : P :=
  k (F.keeps hs) (N.grown hs)
end
theorem fresh_of {hp g : Heap} {r : Addr} {hs : List Addr} (hg : ∀ (b : Addr) (o : Obj), hp.get? b = some o → ¬b ∈ hs → g.get? b = some o) (hr : g.get? r = none) (hne : r ∉ hs) : hp.get? r = none := by
  cases q : hp.get? r with
  | none => rfl
  | some o => rw [hg r o q hne] at hr; cases hr
theorem ltN' {a b : Nat} (h : b ≤ a) : ¬ a < b := Nat.not_lt.mpr h
abbrev tupO (a b : Value) : Obj := { cls := .type "tuple", data := .seq #[a, b] }

def AllNe (d : Addr) : List (Addr × Obj) → Prop
  | [] => True
  | p :: r => @Ne Nat p.1 d ∧ AllNe d r
theorem allNe_of {d : Addr} : ∀ {l : List (Addr × Obj)}, (∀ p ∈ l, p.1 ≠ d) → AllNe d l
  | [], _ => trivial
  | p :: _, h => ⟨h p (.head _), allNe_of fun q hq => h q (.tail _ hq)⟩
theorem allNe_mem {d : Addr} {l : List (Addr × Obj)} : AllNe d l → ∀ p ∈ l, p.1 ≠ d := by
  induction l with
  | nil => intro _ p hp; exact nomatch hp
  | cons q r ih =>
    intro h p hp
    rcases List.mem_cons.mp hp with e | e
    · rw [e]; exact h.1
    · exact ih h.2 p e
theorem allLt_mem {d : Addr} {l : List (Addr × Obj)} : AllLt d l → ∀ p ∈ l, p.1 < d := by
  induction l with
  | nil => intro _ p hp; exact nomatch hp
  | cons q r ih =>
    intro h p hp
    rcases List.mem_cons.mp hp with e | e
    · rw [e]; exact h.1
    · exact ih h.2 p e
theorem allLt_ne {d : Addr} {l : List (Addr × Obj)} (h : AllLt d l) : ∀ p ∈ l, p.1 ≠ d := fun p hp => Nat.ne_of_lt (allLt_mem h p hp)
section
variable {g h h' : Heap} {L r : Addr} {m : Str → Option Value} {news : List (Addr × Obj)} {o : Obj}
/-- a callee has made an object: onto the ledger -/
theorem keep3 {P : Prop} (F : Fr g L h m) (N : News g L h news) (hs : h.StaysIn h') (hf : h.get? r = none) (hr : h'.get? r = some o) (k : Fr g L h' m → News g L h' ((r, o) :: news) → (∀ p ∈ news, p.1 ≠ r) → P) : P := by
  refine k (F.keeps hs) (fun p hp => ?_) fun p hp e => ?_
  · rcases List.mem_cons.mp hp with rfl | hp
    · refine ⟨hr, fun e => ?_, ?_⟩
      · obtain ⟨oL, _, _, hL, _⟩ := F.ns
        rw [show r = L from e, hL] at hf; cases hf
      · cases q : g.get? r with
        | none => rfl
        | some o' => rw [F.keep _ _ q] at hf; cases hf
    · exact N.grown hs p hp
  · have := (N p hp).1
    rw [e, hf] at this; cases this
end
end Mine
end
section
open PySem PySem.W PySem.Calls PyProof.Rows PySem.Builtin PySem.Builtin.Str
set_option Elab.async false
set_option linter.unusedVariables false
namespace Mine

/-- a text by its signs -/
def lit (l : List Nat) : Str := ⟨l.toArray⟩
theorem lit_cps (l : List Nat) : (lit l).cps.toList = l := rfl
theorem lit_len (l : List Nat) : (lit l).length = l.length := by simp [lit, PySem.Str.length]
theorem lit_add (a b : List Nat) : lit a ++ lit b = lit (a ++ b) := PySem.Str.ext' (by simp [lit, PySem.Str.cps_append])
theorem lit_inj {a b : List Nat} (h : lit a = lit b) : a = b := by
  have := congrArg (fun x : Str => x.cps.toList) h
  exact this
theorem lit_of (x : Str) : x = lit x.cps.toList := by cases x; simp [lit]

def digs (p : Nat) : List Nat := (Nat.toDigits 10 p).map Char.toNat
theorem digs_str (p : Nat) : PySem.Str.ofString (toString ((p : Nat) : Int)) = lit (digs p) := by
  rw [lit_of (PySem.Str.ofString _), KIN.signs_num]; rfl
theorem digs_range (p : Nat) : ∀ c ∈ digs p, 48 ≤ c ∧ c ≤ 57 := by
  intro c hc
  obtain ⟨ch, hch, e⟩ := List.mem_map.mp hc
  have h := Nat.isDigit_of_mem_toDigits (by decide) (by decide) hch
  subst e
  unfold Char.isDigit at h
  simp only [ge_iff_le, Bool.and_eq_true, decide_eq_true_eq] at h
  exact ⟨h.1, h.2⟩
theorem digs_ne (p : Nat) : digs p ≠ [] := by
  unfold digs
  intro h
  have := List.map_eq_nil_iff.mp h
  have h2 : (Nat.toDigits 10 p).length ≠ 0 := by
    have := @Nat.length_toDigits_pos 10 p
    omega
  rw [this] at h2
  exact h2 rfl
theorem digs_len {p : Nat} (h : p < 65536) : (digs p).length ≤ 5 := by
  unfold digs
  rw [List.length_map]
  exact (Nat.length_toDigits_le_iff (by decide) (by decide)).mpr (by omega)

/-- the mark of a port -/
def mk (p : Nat) : Nat := if p % 4 = 0 then 124 else if p % 4 = 1 then 58 else if p % 4 = 2 then 33 else 46
theorem mk_cases (p : Nat) : mk p = 124 ∨ mk p = 58 ∨ mk p = 33 ∨ mk p = 46 := by
  unfold mk; split; · simp
  split; · simp
  split <;> simp

def replyL (p : Nat) : List Nat := [50, 50, 57, 32, 120, 40] ++ ([mk p, mk p, mk p] ++ (digs p ++ ([mk p] ++ [41])))
def rowL (d p : Nat) : List Nat := List.replicate d 46 ++ replyL p
@[irreducible] def row (d p : Nat) : Str := lit (rowL d p)
@[irreducible] def reply (p : Nat) : Str := lit (replyL p)
theorem row_lit (d p : Nat) : row d p = lit (rowL d p) := by unfold row; rfl
theorem reply_lit (p : Nat) : reply p = lit (replyL p) := by unfold reply; rfl

theorem replyL_len (p : Nat) : (replyL p).length = 11 + (digs p).length := by
  simp [replyL]; omega
theorem rowL_len (d p : Nat) : (rowL d p).length = d + 11 + (digs p).length := by
  simp [rowL, replyL_len]; omega
theorem row_len (d p : Nat) : (row d p).length = d + 11 + (digs p).length := by rw [row_lit, lit_len, rowL_len]
theorem reply_len (p : Nat) : (reply p).length = 11 + (digs p).length := by rw [reply_lit, lit_len, replyL_len]

theorem replyL_range (p : Nat) : ∀ c ∈ replyL p, 32 ≤ c ∧ c ≤ 124 := by
  intro c hc
  have hm := mk_cases p
  have hd := digs_range p
  simp only [replyL, List.mem_append, List.mem_cons, List.not_mem_nil, or_false] at hc
  rcases hc with h | h | h | h | h
  · omega
  · omega
  · have := hd c h; omega
  · omega
  · omega
theorem rowL_range (d p : Nat) : ∀ c ∈ rowL d p, 32 ≤ c ∧ c ≤ 124 := by
  intro c hc
  rcases List.mem_append.mp hc with h | h
  · have := List.eq_of_mem_replicate h; omega
  · exact replyL_range p c h


theorem takeWhile_dots (d : Nat) (r : List Nat) (hr : r.head? ≠ some 46) : (List.replicate d 46 ++ r).takeWhile (fun c => (#[46] : Array Nat).contains c) = List.replicate d 46 := by
  induction d with
  | zero =>
    cases r with
    | nil => rfl
    | cons c t =>
      have : c ≠ 46 := fun e => hr (by rw [e]; rfl)
      simp [List.takeWhile_cons, this]
  | succ d ih =>
    rw [List.replicate_succ, List.cons_append, List.takeWhile_cons, ih]
    simp
theorem replyL_head (p : Nat) : (replyL p).head? ≠ some 46 := by simp [replyL]
theorem lstrip_row (d p : Nat) : Txt.lstripChars (row d p) (Str.ofString ".") = reply p := by
  rw [reply_lit, row_lit, show Str.ofString "." = ⟨#[46]⟩ from by decide +kernel]
  unfold Txt.lstripChars
  rw [PyProof.Rows.stripBy_eq]
  apply PySem.Str.ext'
  apply Array.toList_inj.mp
  rw [StrLaws.strSub_toList, lit_cps]
  have h1 : stripLo (fun c => (#[46] : Array Nat).contains c) true (lit (rowL d p)) = d := by
    unfold stripLo
    rw [if_pos rfl, lit_cps]
    unfold rowL
    rw [takeWhile_dots d _ (replyL_head p), List.length_replicate]
  have h2 : stripHi (fun c => (#[46] : Array Nat).contains c) false (lit (rowL d p)) d = (rowL d p).length := by
    unfold stripHi
    rw [if_neg (by decide), lit_len]
  show List.take (stripHi (fun c => (#[46] : Array Nat).contains c) false _ (stripLo (fun c => (#[46] : Array Nat).contains c) true _) - stripLo (fun c => (#[46] : Array Nat).contains c) true _) (List.drop (stripLo (fun c => (#[46] : Array Nat).contains c) true _) _) = _
  rw [h1, h2, ← List.length_drop, List.take_length]
  unfold rowL
  rw [List.drop_left' (by simp)]
  rfl

/-! find -/
theorem getD_lit (l : List Nat) (k : Nat) : (lit l).cps.getD k 0 = l.getD k 0 := by
  simp [lit, Array.getD_eq_getD_getElem?, List.getD_eq_getElem?_getD]
theorem find3_at {l : List Nat} {c : Nat} {i : Int} {a k : Nat} (hi : i = (a : Int)) (ha : a ≤ k) (hk : k < l.length) (hc : l.getD k 0 = c) (hn : ∀ v, a ≤ v → v < k → l.getD v 0 ≠ c) :
    Txt.find3 (lit l) ⟨#[c]⟩ i = (k : Int) := by
  have hf : fromIndex (lit l).length i = a := by
    unfold fromIndex
    rw [hi]
    omega
  rcases StrLaws.find3_spec (lit l) c i with ⟨_, h⟩ | ⟨j, h, h1, h2, h3, h4⟩
  · rw [hf, lit_len] at h
    exact absurd (by rw [getD_lit]; exact hc) (h k ha hk)
  · rw [hf] at h1 h4
    rw [lit_len] at h2
    rw [getD_lit] at h3
    rw [h]
    have e : j = k := by
      rcases Nat.lt_trichotomy j k with q | q | q
      · exact absurd h3 (hn j h1 q)
      · exact q
      · exact absurd (by rw [getD_lit]; exact hc) (h4 k ha q)
    rw [e]

theorem reply_drop6 (p : Nat) : (replyL p).drop 6 = [mk p, mk p, mk p] ++ (digs p ++ ([mk p] ++ [41])) := rfl
theorem replyL_at (p k : Nat) : (replyL p).getD (6 + k) 0 = ([mk p, mk p, mk p] ++ (digs p ++ ([mk p] ++ [41]))).getD k 0 := by
  rw [← reply_drop6, List.getD_eq_getElem?_getD, List.getD_eq_getElem?_getD, List.getElem?_drop]

theorem find_open (p : Nat) : Txt.find (reply p) (Str.ofString "(") = 5 := by
  rw [find_is_find3, reply_lit, show Str.ofString "(" = ⟨#[40]⟩ from by decide +kernel]
  refine find3_at (a := 0) (k := 5) rfl (by decide) (by rw [replyL_len]; omega) rfl ?_
  intro v _ h
  have : v = 0 ∨ v = 1 ∨ v = 2 ∨ v = 3 ∨ v = 4 := by omega
  rcases this with rfl | rfl | rfl | rfl | rfl <;> simp [replyL]
theorem find_close (p : Nat) : Txt.find3 (reply p) (Str.ofString ")") 6 = ((10 + (digs p).length : Nat) : Int) := by
  rw [reply_lit, show Str.ofString ")" = ⟨#[41]⟩ from by decide +kernel]
  have hm := mk_cases p
  refine find3_at (a := 6) rfl (by omega) (by rw [replyL_len]; omega) ?_ ?_
  · rw [show 10 + (digs p).length = 6 + (4 + (digs p).length) by omega, replyL_at, ← List.append_assoc, ← List.append_assoc]
    rw [List.getD_eq_getElem?_getD, List.getElem?_append_right (by simp; omega)]
    have : 4 + (digs p).length - ([mk p, mk p, mk p] ++ digs p ++ [mk p]).length = 0 := by simp; omega
    rw [this]; rfl
  · intro v h1 h2
    rw [show v = 6 + (v - 6) by omega, replyL_at, ← List.append_assoc, ← List.append_assoc]
    have hl : v - 6 < ([mk p, mk p, mk p] ++ digs p ++ [mk p]).length := by simp; omega
    rw [List.getD_eq_getElem?_getD, List.getElem?_append_left hl, List.getElem?_eq_getElem hl, Option.getD_some]
    have hmem := List.getElem_mem hl
    simp only [List.mem_append, List.mem_cons, List.not_mem_nil, or_false] at hmem
    have hd := digs_range p
    intro e
    rw [e] at hmem
    rcases hmem with (h | h) | h
    · omega
    · have := hd _ h; omega
    · omega

/-! slices -/
theorem slice_229 (p : Nat) : StrLaws.sliceText (reply p) none (some 3) = Str.ofString "229" := by
  rw [reply_lit, StrLaws.sliceText_to ⟨by omega, by rw [lit_cps, replyL_len]; omega⟩, lit_cps]
  rw [show Str.ofString "229" = lit [50, 50, 57] from by decide +kernel]
  rfl
def midL (p : Nat) : List Nat := [mk p, mk p, mk p] ++ (digs p ++ [mk p])
theorem slice_mid (p : Nat) : StrLaws.sliceText (reply p) (some 6) (some ((10 + (digs p).length : Nat) : Int)) = lit (midL p) := by
  rw [reply_lit, StrLaws.sliceText_plain ⟨by omega, by omega, by rw [lit_cps, replyL_len]; omega⟩, lit_cps]
  have : (((10 + (digs p).length : Nat) : Int) - 6).toNat = (midL p).length := by simp [midL]; omega
  rw [this]
  show lit (List.take _ (List.drop 6 (replyL p))) = _
  rw [reply_drop6, show [mk p, mk p, mk p] ++ (digs p ++ ([mk p] ++ [41])) = midL p ++ [41] from by simp [midL], List.take_left' rfl]
theorem item_six (p : Nat) : Txt.item (reply p) 6 = lit [mk p] := by
  rw [reply_lit]
  have h : (lit (replyL p)).cps[(6 : Int).toNat]? = some (mk p) := by
    simp [lit, replyL]
  rw [item_meets (by decide) h]; rfl
theorem item_end (p : Nat) : Txt.item (reply p) ((9 + (digs p).length : Nat) : Int) = lit [mk p] := by
  rw [reply_lit]
  refine (item_meets (n := mk p) (by omega) ?_).trans rfl
  rw [Int.toNat_natCast]
  show (replyL p).toArray[9 + (digs p).length]? = _
  rw [List.getElem?_toArray, show 9 + (digs p).length = 6 + (3 + (digs p).length) by omega, ← List.getElem?_drop, reply_drop6, ← List.append_assoc]
  rw [List.getElem?_append_right (by simp; omega)]
  have : 3 + (digs p).length - ([mk p, mk p, mk p] ++ digs p).length = 0 := by simp; omega
  rw [this]; rfl

/-! split by one sign -/
theorem join_lit (c : Nat) : ∀ ps : List (List Nat), Str.join (lit [c]) (ps.map lit) = lit (List.intercalate [c] ps)
  | [] => rfl
  | [a] => by simp [Str.join, List.intercalate]
  | a :: b :: r => by
    have ih := join_lit c (b :: r)
    show lit a ++ lit [c] ++ Str.join (lit [c]) ((b :: r).map lit) = _
    rw [ih, lit_add, lit_add]
    simp [List.intercalate, List.intersperse]
theorem inter_cons (c : Nat) (a b : List Nat) (r : List (List Nat)) : List.intercalate [c] (a :: b :: r) = a ++ c :: List.intercalate [c] (b :: r) := by
  simp [List.intercalate, List.intersperse]
theorem first_cut {c : Nat} : ∀ {a a' t t' : List Nat}, c ∉ a → c ∉ a' → a ++ c :: t = a' ++ c :: t' → a = a' ∧ t = t'
  | [], [], _, _, _, _, h => ⟨rfl, by simpa using h⟩
  | [], x :: a', _, _, _, h', h => by
    simp only [List.nil_append, List.cons_append, List.cons.injEq] at h
    exact absurd (by rw [h.1]; simp) h'
  | x :: a, [], _, _, h', _, h => by
    simp only [List.nil_append, List.cons_append, List.cons.injEq] at h
    exact absurd (by rw [h.1]; simp) h'
  | x :: a, y :: a', t, t', h1, h2, h => by
    simp only [List.cons_append, List.cons.injEq] at h
    obtain ⟨e1, e2⟩ := first_cut (fun q => h1 (List.mem_cons_of_mem _ q)) (fun q => h2 (List.mem_cons_of_mem _ q)) h.2
    exact ⟨by rw [h.1, e1], e2⟩
theorem inter_unique {c : Nat} : ∀ {ps qs : List (List Nat)}, ps ≠ [] → qs ≠ [] → (∀ x ∈ ps, c ∉ x) → (∀ x ∈ qs, c ∉ x) → List.intercalate [c] ps = List.intercalate [c] qs → ps = qs
  | [], _, h, _, _, _, _ => absurd rfl h
  | _ :: _, [], _, h, _, _, _ => absurd rfl h
  | [a], [b], _, _, _, _, h => by simpa [List.intercalate] using h
  | [a], b :: b' :: r, _, _, h1, h2, h => by
    rw [inter_cons] at h
    have : c ∈ a := by
      have e : a = b ++ c :: List.intercalate [c] (b' :: r) := by simpa [List.intercalate] using h
      rw [e]; simp
    exact absurd this (h1 a (by simp))
  | a :: a' :: r, [b], _, _, h1, h2, h => by
    rw [inter_cons] at h
    have : c ∈ b := by
      have e : a ++ c :: List.intercalate [c] (a' :: r) = b := by simpa [List.intercalate] using h
      rw [← e]; simp
    exact absurd this (h2 b (by simp))
  | a :: a' :: r, b :: b' :: q, _, _, h1, h2, h => by
    rw [inter_cons, inter_cons] at h
    obtain ⟨e1, e2⟩ := first_cut (h1 a (by simp)) (h2 b (by simp)) h
    have ih := inter_unique (ps := a' :: r) (qs := b' :: q) (by simp) (by simp) (fun x hx => h1 x (List.mem_cons_of_mem _ hx)) (fun x hx => h2 x (List.mem_cons_of_mem _ hx)) e2
    rw [e1, ih]
theorem split_one {c : Nat} {ps : List (List Nat)} (hne : ps ≠ []) (hf : ∀ x ∈ ps, c ∉ x) : Txt.split (lit (List.intercalate [c] ps)) (lit [c]) = ps.map lit := by
  have hj := StrLaws.join_split (lit (List.intercalate [c] ps)) (lit [c])
  have hfree := StrLaws.split_free (lit (List.intercalate [c] ps)) c
  generalize hg : Txt.split (lit (List.intercalate [c] ps)) (lit [c]) = qs at hj
  have hfree' : ∀ x ∈ qs, c ∉ x.cps.toList := by rw [← hg]; exact hfree
  have hq : qs = (qs.map fun x => x.cps.toList).map lit := by
    rw [List.map_map]
    exact (List.map_id' qs).symm.trans (List.map_congr_left fun x _ => lit_of x)
  have hqne : qs ≠ [] := by
    intro e
    rw [e] at hj
    have : ([] : List Nat) = List.intercalate [c] ps := lit_inj hj
    cases ps with
    | nil => exact hne rfl
    | cons a r =>
      cases r with
      | nil =>
        rw [e] at hg
        unfold Txt.split at hg
        split at hg
        · cases hg
        · split at hg
          · cases hg
          · rw [StrLaws.partsBetween_eq] at hg
            obtain ⟨x, y, hxy⟩ := StrLaws.partsFrom_ne (lit (List.intercalate [c] [a])) (lit [c]).length 0 (occurrences (lit (List.intercalate [c] [a])) (lit [c]) 0 (lit (List.intercalate [c] [a])).length ((lit (List.intercalate [c] [a])).length + 1))
            rw [hxy] at hg; cases hg
      | cons b r => rw [inter_cons] at this; simp at this
  rw [hq, join_lit] at hj
  have e := inter_unique (c := c) (by simpa using hqne) hne (by intro x hx; obtain ⟨y, hy, rfl⟩ := List.mem_map.mp hx; exact hfree' y hy) hf (lit_inj hj)
  rw [hq, e]
theorem split_mid (p : Nat) : Txt.split (lit (midL p)) (lit [mk p]) = [lit [], lit [], lit [], lit (digs p), lit []] := by
  have h : midL p = List.intercalate [mk p] [[], [], [], digs p, []] := by simp [midL, List.intercalate, List.intersperse]
  rw [h, split_one (by simp)]
  · rfl
  · have hm := mk_cases p
    have hd := digs_range p
    intro x hx
    simp only [List.mem_cons, List.not_mem_nil, or_false] at hx
    have key : mk p ∉ digs p := fun q => by have := hd _ q; omega
    rcases hx with rfl | rfl | rfl | rfl | rfl
    · simp
    · simp
    · simp
    · exact key
    · simp
end Mine
end
section
open PySem PySem.Sre PySem.Builtin PySem.Builtin.Re PySem.Builtin.Str PySem.Flt PyProof.Rows
set_option Elab.async false
set_option linter.unusedVariables false
set_option linter.unusedSimpArgs false
set_option maxRecDepth 100000
namespace Mine

/-- what sub makes of the text from pos on -/
inductive Subs (code : Array Nat) (text repl : List Nat) : Nat → List Nat → Prop
  | done {pos : Nat} : Finds code text.toArray pos none → pos ≤ text.length → Subs code text repl pos (text.drop pos)
  | step {pos b e : Nat} {out : List Nat} : Finds code text.toArray pos (some (b, e)) → pos ≤ b → b < e → e ≤ text.length → Subs code text repl e out →
      Subs code text repl pos ((text.drop pos).take (b - pos) ++ (repl ++ out))

def catS (l : List (Str × Tok)) : List Nat := l.flatMap fun p => p.1.cps.toList
theorem catS_snoc (l : List (Str × Tok)) (x : Str) (t : Tok) : catS (l ++ [(x, t)]) = catS l ++ x.cps.toList := by simp [catS]
theorem join_empty : ∀ ss : List Str, (Str.join Str.empty ss).cps.toList = ss.flatMap fun x => x.cps.toList
  | [] => rfl
  | [x] => by simp [Str.join]
  | x :: y :: r => by
    have ih := join_empty (y :: r)
    show (x ++ Str.empty ++ Str.join Str.empty (y :: r)).cps.toList = _
    rw [PySem.Str.cps_append, PySem.Str.cps_append, Array.toList_append, ih]
    simp [Str.empty]
theorem join_cat (l : List (Str × Tok)) : Txt.join Str.empty (l.map (·.1)) = lit (catS l) := by
  unfold Txt.join
  rw [StrLaws.glued_eq_join, lit_of (Str.join _ _), join_empty]
  simp [catS, List.flatMap_map]
theorem joinOk_cat {l : List (Str × Tok)} (h : (catS l).length ≤ 16777216) : JoinOk Str.empty (l.map (·.1)) = true := by
  unfold JoinOk tooLong
  rw [StrLaws.joinTotal, sizeLine_eq]
  have h1 : Str.empty.length = 0 := rfl
  have h2 : ((l.map (·.1)).map (·.length)).sum = (catS l).length := by
    simp only [catS, List.length_flatMap, List.map_map]
    rfl
  rw [h1, h2]
  simp; omega

theorem strValues_snoc (l : List (Str × Tok)) (x : Str) (t : Tok) : strValues (l ++ [(x, t)]) = strValues l ++ [.str x t] := by simp [strValues]

section
variable {prog : Program} {w : World} {A : Around} {E : Value → Shared → Prop} {s : Shared} {a l : Addr} {code : Array Nat} {base : Heap}

def lstAt (h : Heap) (l : Addr) (vs : List Value) : Prop := ∃ n, h.get? l = some { cls := .type "list", data := .seq vs.toArray n }

/-- one push -/
theorem push_list {Q : Unit → Shared → Prop} {M : Model} {vs : List Value} {v : Value} (hl : lstAt s.heap l vs) (hb : base.get? l = none) (hs : base.StaysIn s.heap) (hz : vs.length ≤ 1000000)
    (h : ∀ h', lstAt h' l (vs ++ [v]) → base.StaysIn h' → Q () { s with heap := h' }) : wpAny M A (updateSeq l (·.push v)) Q E s := by
  obtain ⟨n, ho⟩ := hl
  refine wpAny_updateSeq ho rfl ?_ (by rw [sizeLine_eq, List.size_toArray]; omega) (by rw [sizeLine_eq, Array.size_push, List.size_toArray]; omega)
  refine h _ ⟨n + 1, ?_⟩ (fun b o e => ?_)
  · rw [Heap.get?_update_self _ ho rfl]
    simp [Obj.mapSeq]
  · have hne : l ≠ b := fun q => by rw [q, e] at hb; cases hb
    rw [Heap.get?_update_other _ _ hne]
    exact hs b o e

theorem slice_str {Q : Value → Shared → Prop} {M : Model} {text : List Nat} {b e : Nat} (hz : text.length ≤ 16777216) (h : ∀ t' k, Q (.str (lit ((text.drop b).take (e - b))) t') { s with toks := k }) :
    wpAny M A (reSlice text.toArray 0 b e) Q E s := by
  unfold reSlice
  rw [if_pos (by decide)]
  have e1 : (⟨text.toArray.extract b e⟩ : Str) = lit ((text.drop b).take (e - b)) := by
    apply PySem.Str.ext'
    apply Array.toList_inj.mp
    rw [lit_cps]
    simp [Array.toList_extract, List.extract_eq_take_drop]
  rw [e1]
  unfold mkStr
  rw [if_neg (by rw [lit_len, sizeLine_eq]; simp; omega)]
  exact wpAny_bind (wpAny_fresh (wpAny_pure (h _ _)))

theorem next_found {Q : Option Sre.M → Shared → Prop} {M : Model} {text : List Nat} {pos : Nat} {r : Option (Nat × Nat)} {p v : Value} (hf : Finds code text.toArray pos r)
    (h : ∀ m' : Option Sre.M, (match r with | none => m' = none | some (b, e) => ∃ m, m' = some m ∧ m.start = b ∧ m.handed = e) → Q m' s) :
    wpAny M A (reNextFound { pattern := p, string := v, code := code, text := text.toArray, kind := 0, groups := 0, pos := 0, lim := text.toArray.size } pos false) Q E s := by
  unfold reNextFound
  obtain ⟨m', k, g, hk, hd⟩ := hf
  cases r with
  | none => exact runToEnd (r := none) g hk (.inr ⟨hd, rfl⟩) (h none rfl)
  | some be =>
    obtain ⟨b, e⟩ := be
    obtain ⟨h1, h2, h3⟩ := hd
    exact runToEnd (r := some m') g hk (.inl ⟨h1, rfl⟩) (h (some m') ⟨m', rfl, h2, h3⟩)

def loopArgs (a l : Addr) (x : Str) (t : Tok) (r : Str) (tr : Tok) (n pos : Int) : Args :=
  ⟨[.ref a, .str x t, .str r tr, .int 0 0, .int 0 0, .int n 0, .int pos 0, .int pos 0, .bool false, .ref l, .bool false], []⟩

theorem sub_loop {text repl : List Nat} {t tr : Tok} {R : Result → Shared → Prop} (hz : text.length ≤ 16777216) {pos : Nat} {out : List Nat} (D : Subs code text repl pos out) :
    ∀ (s : Shared) (n : Int) (acc : List (Str × Tok)), Pat base a code → base.StaysIn s.heap → base.get? l = none → lstAt s.heap l (strValues acc) → acc.length + 2 * (text.length - pos) ≤ 900000 → (catS acc ++ out).length ≤ 16777216 →
    (∀ t' h' tk', base.StaysIn h' → R (.ok (.ret (.str (lit (catS acc ++ out)) t'))) { s with heap := h', toks := tk' }) →
    codeAny (model prog w) A (.builtin "re.Pattern.sub.loop" (loopArgs a l (lit text) t (lit repl) tr n pos)) R s := by
  induction D with
  | @done pos hf hle =>
    intro s n acc P hs hb hl hacc hsz hR
    refine codeAny_builtin entry_loop ?_
    unfold Builtin.«re.Pattern.sub.loop» loopArgs
    dsimp only
    refine wpAny_bind (whole_target (code := code) (P.keeps hs) ?_)
    rw [if_pos (by decide)]
    unfold reLiteralCannotBeTurned
    refine wpAny_bind (wpAny_bind (wpAny_pure ?_))
    rw [if_neg (by simp)]
    refine wpAny_pure ?_
    rw [if_neg (by simp)]
    refine wpAny_bind (next_found (code := code) (text := text) (pos := ((pos : Int)).toNat) (r := none) (by rw [Int.toNat_natCast]; exact hf) fun m' hm => ?_)
    subst hm
    dsimp only
    rw [Int.toNat_natCast]
    have fin : ∀ (s' : Shared) (acc' : List (Str × Tok)), s' = { s with heap := s'.heap, toks := s'.toks } → base.StaysIn s'.heap → lstAt s'.heap l (strValues acc') → catS acc' = catS acc ++ text.drop pos →
        wpAny (model prog w) (A.under (Code.builtin "re.Pattern.sub.loop" ⟨[.ref a, .str (lit text) t, .str (lit repl) tr, .int 0 0, .int 0 0, .int n 0, .int pos 0, .int pos 0, .bool false, .ref l, .bool false], []⟩))
          (do
            let joiner ← reSlice (lit text).cps 0 0 0
            let __do_lift ← seqItems? (Value.ref l)
            if (__do_lift.getD #[]).isEmpty = true then do
              let text ← pure joiner
              ret text
            else do
              let text ← call (Value.builtin "str.join") [joiner, Value.ref l]
              ret text)
          (fun fin s' => match fin with | .done f => R (.ok f) s' | .again c' => c'.quiet = true ∧ codeAny (model prog w) A c' R s') (fun e s' => R (.error e) s') s' := by
      intro s' acc' hs' hst ⟨k, hl'⟩ hcat
      refine wpAny_bind (slice_str (text := text) hz fun t' k' => ?_)
      rw [show List.take (0 - 0) (List.drop 0 text) = [] from by simp]
      refine wpAny_bind (wpAny_seqItems (by exact hl') rfl ?_)
      rw [Option.getD_some]
      cases acc' with
      | nil =>
        rw [if_pos (by rfl)]
        refine wpAny_bind (wpAny_pure (wpAny_pure ?_))
        rw [hs']
        have e : ([] : List Nat) = catS acc ++ text.drop pos := by rw [← hcat]; rfl
        rw [e]
        exact hR _ _ _ hst
      | cons p r =>
        rw [if_neg (by simp [strValues])]
        refine wpAny_bind (SC.join (l := p :: r) (texts := (p :: r).map (·.1)) ⟨_, hl', rfl, _, rfl⟩ rfl (by exact joinOk_cat (l := p :: r) (by rw [hcat]; exact hsz)) fun t'' k'' => ?_)
        refine wpAny_pure ?_
        rw [show (lit [] : Str) = Str.empty from rfl, join_cat, hcat, hs']
        exact hR _ _ _ hst
    by_cases hlt : pos < (lit text).cps.size
    · rw [if_pos hlt]
      refine wpAny_bind (slice_str (text := text) hz fun t' k' => ?_)
      refine wpAny_bind (push_list (base := base) (vs := strValues acc) hl hb hs (by simp [strValues]; omega) fun h' hl' hs' => ?_)
      have e : text.drop pos = List.take (text.toArray.size - pos) (text.drop pos) := by
        rw [List.take_of_length_le (by simp)]
      refine fin _ (acc ++ [(lit (List.take ((lit text).cps.size - pos) (List.drop pos text)), t')]) rfl hs' (by rw [strValues_snoc]; exact hl') ?_
      rw [catS_snoc, lit_cps]
      show _ ++ List.take (text.toArray.size - pos) _ = _
      rw [← e]
    · rw [if_neg hlt]
      have h0 : text.drop pos = [] := by
        have : ¬ pos < text.length := by simpa [lit] using hlt
        rw [List.drop_eq_nil_iff]; omega
      exact fin s acc rfl hs hl (by rw [h0, List.append_nil])
  | @step pos b e out hf h1 h2 h3 hD ih =>
    intro s n acc P hs hb hl hacc hsz hR
    refine codeAny_builtin entry_loop ?_
    unfold Builtin.«re.Pattern.sub.loop» loopArgs
    dsimp only
    refine wpAny_bind (whole_target (code := code) (P.keeps hs) ?_)
    rw [if_pos (by decide)]
    unfold reLiteralCannotBeTurned
    refine wpAny_bind (wpAny_bind (wpAny_pure ?_))
    rw [if_neg (by simp)]
    refine wpAny_pure ?_
    rw [if_neg (by simp)]
    refine wpAny_bind (next_found (code := code) (text := text) (pos := ((pos : Int)).toNat) (r := some (b, e)) (by rw [Int.toNat_natCast]; exact hf) fun m' hm => ?_)
    obtain ⟨m, rfl, hmb, hme⟩ := hm
    dsimp only
    rw [Int.toNat_natCast, hmb, hme]
    have fin : ∀ (s' : Shared) (acc' : List (Str × Tok)), s' = { s with heap := s'.heap, toks := s'.toks } → base.StaysIn s'.heap → lstAt s'.heap l (strValues acc') → catS acc' = catS acc ++ (text.drop pos).take (b - pos) → acc'.length ≤ acc.length + 1 →
        wpAny (model prog w) (A.under (Code.builtin "re.Pattern.sub.loop" ⟨[.ref a, .str (lit text) t, .str (lit repl) tr, .int 0 0, .int 0 0, .int n 0, .int pos 0, .int pos 0, .bool false, .ref l, .bool false], []⟩))
          (do
            let item ← pure (Value.str (lit repl) tr)
            if (item != Value.none) = true then do
              updateSeq l fun x => x.push item
              again (Code.builtin "re.Pattern.sub.loop" ⟨[.ref a, .str (lit text) t, .str (lit repl) tr, rawInt 0, rawInt 0, rawInt (n + 1), rawInt e, rawInt e, Value.bool (e == b), Value.ref l, Value.bool false], []⟩)
            else
              again (Code.builtin "re.Pattern.sub.loop" ⟨[.ref a, .str (lit text) t, .str (lit repl) tr, rawInt 0, rawInt 0, rawInt (n + 1), rawInt e, rawInt e, Value.bool (e == b), Value.ref l, Value.bool false], []⟩))
          (fun fin s' => match fin with | .done f => R (.ok f) s' | .again c' => c'.quiet = true ∧ codeAny (model prog w) A c' R s') (fun e s' => R (.error e) s') s' := by
      intro s' acc' hs' hst hl' hcat hlen
      refine wpAny_bind (wpAny_pure ?_)
      rw [if_pos (by rfl)]
      refine wpAny_bind (push_list (base := base) (vs := strValues acc') hl' hb hst (by simp [strValues]; omega) fun h' hl2 hs2 => ?_)
      refine wpAny_pure ⟨plainId_quiet (by decide +kernel) _, ?_⟩
      rw [show (e == b) = false from by simp; omega]
      have key := ih { s' with heap := h' } (n + 1) (acc' ++ [(lit repl, tr)]) P hs2 hb (by rw [strValues_snoc]; exact hl2) (by simp; omega)
        (by rw [catS_snoc, hcat, lit_cps]; simpa [List.append_assoc] using hsz) (fun t' h2 tk' hst2 => by
          have q := hR t' h2 tk' hst2
          rw [catS_snoc, hcat, lit_cps, hs']
          simpa [List.append_assoc] using q)
      exact key
    by_cases hlt : pos < b
    · rw [if_pos hlt]
      refine wpAny_bind (slice_str (text := text) hz fun t' k' => ?_)
      refine wpAny_bind (push_list (base := base) (vs := strValues acc) hl hb hs (by simp [strValues]; omega) fun h' hl' hs' => ?_)
      rw [if_pos (by decide)]
      refine fin _ (acc ++ [(lit (List.take (b - pos) (List.drop pos text)), t')]) rfl hs' (by rw [strValues_snoc]; exact hl') ?_ (by simp)
      rw [catS_snoc, lit_cps]
    · rw [if_neg hlt, if_pos (by decide)]
      have h0 : b - pos = 0 := by omega
      exact fin s acc rfl hs hl (by rw [h0]; simp) (by omega)
end
end Mine
end
section
open PySem PySem.Sre PySem.Builtin PySem.Builtin.Re PySem.Builtin.Str PySem.Flt PyProof.Rows
set_option Elab.async false
set_option linter.unusedVariables false
set_option linter.unusedSimpArgs false
set_option maxRecDepth 100000
namespace Mine
theorem str_no_call : typeLookup (.type "str") "__call__" = pure none := by rw [typeLookup_type, builtinLookup_eq_fast]; kernel_rfl
section
variable {prog : Program} {w : World} {A : Around} {E : Value → Shared → Prop} {s : Shared} {a l : Addr} {code : Array Nat}
theorem call_sub {Q : Value → Shared → Prop} {text repl out : List Nat} {t tr : Tok} (hz : text.length ≤ 100000) (hr : 92 ∉ repl) (P : Pat s.heap a code) (D : Subs code text repl 0 out) (ho : out.length ≤ 16777216)
    (h : ∀ t' h' tk', s.heap.StaysIn h' → Q (.str (lit out) t') { s with heap := h', toks := tk' }) :
    wpAny (model prog w) A (call (.builtin "re.Pattern.sub") [.ref a, .str (lit repl) tr, .str (lit text) t]) Q E s := by
  have P' := P
  obtain ⟨fs, T, ws, n, h1, _⟩ := P'
  refine wpAny_call (codeAny_call_builtin slot_sub.plain entry_sub (slot_sub.check _ _ _ _ _ _ _ _ ⟨_, h1, rfl⟩ (args_sub _ _ _) ?_))
  unfold Builtin.«re.Pattern.sub» reSubstitute
  dsimp only
  rw [named_sub]
  refine wpAny_bind (wpAny_pure ?_)
  dsimp only
  refine wpAny_bind (wpAny_pure ?_)
  refine wpAny_bind (wpAny_specialOf (typeIs_str _ _ _) str_no_call ?_)
  rw [if_neg (by simp)]
  refine wpAny_bind (wpAny_pure ?_)
  have hc : (!(lit repl).cps.contains 92) = true := by
    simp [lit, hr]
  dsimp only
  refine wpAny_bind (wpAny_pure ?_)
  rw [hc, if_neg (by simp), if_pos rfl]
  refine wpAny_bind (wpAny_pure ?_)
  dsimp only
  refine wpAny_bind (wpAny_holding (whole_target P ?_))
  rw [if_neg (by decide)]
  refine wpAny_bind (wpAny_newObj_type ?_)
  refine wpAny_pure ⟨plainId_quiet (by decide +kernel) _, ?_⟩
  have hnew : s.heap.get? s.heap.objs.size = none := by
    cases q : s.heap.get? s.heap.objs.size with
    | none => rfl
    | some o => exact absurd (Heap.lt_size q) (Nat.lt_irrefl _)
  refine sub_loop (base := s.heap) (l := s.heap.objs.size) (by omega) D _ 0 [] P (fun b o e => Heap.get?_push_of_some _ e) hnew ⟨0, Heap.get?_push_size _ rfl⟩ (by simp; omega) (by simpa [catS] using ho) ?_
  intro t' h' tk' hs
  exact h t' h' tk' hs
end
end Mine
end
section
open PySem PySem.W PySem.Calls PyProof.Rows PySem.Builtin PySem.Builtin.Str
set_option Elab.async false
set_option linter.unusedVariables false
namespace Mine
theorem c_229x : Str.ofString "229 x(" = lit [50, 50, 57, 32, 120, 40] := by decide +kernel
theorem c_close : Str.ofString ")" = lit [41] := by decide +kernel
theorem c_dot : Str.ofString "." = lit [46] := by decide +kernel

theorem mul_lit1 (c n : Nat) : Txt.mul (lit [c]) (n : Int) = lit (List.replicate n c) := by
  unfold Txt.mul
  by_cases h : (n : Int) < 1
  · rw [if_pos h]
    have : n = 0 := by omega
    subst this; rfl
  · rw [if_neg h]
    by_cases h1 : n = 1
    · subst h1; rfl
    · have : ((n : Int) == 1 || (lit [c]).length == 0) = false := by
        simp [lit_len]; omega
      rw [if_neg (by rw [this]; decide)]
      apply PySem.Str.ext'
      apply Array.toList_inj.mp
      have key : ∀ (m : Nat) (acc : Array Nat), ((List.replicate m (lit [c]).cps).foldl (· ++ ·) acc).toList = acc.toList ++ List.replicate m c := by
        intro m
        induction m with
        | zero => intro acc; simp
        | succ m ih =>
          intro acc
          rw [List.replicate_succ, List.foldl_cons, ih, Array.toList_append, lit_cps, List.append_assoc]
          rfl
      rw [Int.toNat_natCast]
      exact (key n #[]).trans (by rfl)

section
variable {prog : Program} {w : World} {A : Around} {E : Value → Shared → Prop} {s : Shared} {Q : Value → Shared → Prop}
theorem r_add {x y : Str} {a b : List Nat} {t u : Tok} (hx : x = lit a) (hy : y = lit b) (hs : a.length + b.length ≤ 16777216) (h : ∀ t' k, Q (.str (lit (a ++ b)) t') { s with toks := k }) :
    wpAny (model prog w) A (binaryOp .Add (.str x t) (.str y u)) Q E s := by
  subst hx hy
  refine SB.add (fun t' k => ?_) (by rw [lit_len, lit_len, sizeLine_eq]; exact hs)
  rw [lit_add]; exact h t' k
theorem r_mul {x : Str} {c n : Nat} {t u : Tok} (hx : x = lit [c]) (hn : n ≤ 1048576) (h : ∀ t' k, Q (.str (lit (List.replicate n c)) t') { s with toks := k }) :
    wpAny (model prog w) A (binaryOp .Mult (.int (n : Int) u) (.str x t)) Q E s := by
  subst hx
  refine mul_is (mulOk_of 16 1048576 (by rw [lit_len]; simp) (by omega) (by omega) (by decide) (by decide)) fun t' k => ?_
  rw [mul_lit1]; exact h t' k
theorem r_mul3 {x : Str} {c : Nat} {t u : Tok} (hx : x = lit [c]) (h : ∀ t' k, Q (.str (lit [c, c, c]) t') { s with toks := k }) :
    wpAny (model prog w) A (binaryOp .Mult (.int 3 u) (.str x t)) Q E s := r_mul (n := 3) hx (by decide) h
theorem r_str {p : Nat} {t : Tok} (hp : p < 65536) (h : ∀ t' k, Q (.str (lit (digs p)) t') { s with toks := k }) :
    wpAny (model prog w) A (call (.type "str") [.int (p : Int) t]) Q E s := by
  refine P.str_of_int ?_ ?_
  · have : ((p : Int)).natAbs = p := by omega
    rw [this]
    have h2 : p.log2 < 17 := by
      by_cases h0 : p = 0
      · subst h0; decide
      · exact (Nat.log2_lt h0).mpr (by omega)
    omega
  · show Q (.str (PySem.Str.ofString (toString (p : Int))) s.toks) _
    rw [digs_str]; exact h _ _
theorem item_mark (p : Nat) : Txt.item (Str.ofString "|:!.") (Int.fmod (p : Int) 4) = lit [mk p] := by
  have h : Int.fmod (p : Int) 4 = ((p % 4 : Nat) : Int) := by
    rw [Int.fmod_eq_emod_of_nonneg _ (by omega)]; omega
  have h4 : p % 4 < 4 := Nat.mod_lt _ (by decide)
  rw [h]
  unfold mk
  generalize p % 4 = k at h4
  have : k = 0 ∨ k = 1 ∨ k = 2 ∨ k = 3 := by omega
  rcases this with rfl | rfl | rfl | rfl <;> decide +kernel
theorem r_mark {value slice : PySem.Expr} {p : Nat} {t u : Tok} (h : ∀ t' k, Q (.str (lit [mk p]) t') { s with toks := k })
    (hs : subscripted slice false (.str (Str.ofString "|:!.") t) (.int (Int.fmod (p : Int) 4) u) = operate [.str (Str.ofString "|:!.") t, .int (Int.fmod (p : Int) 4) u] (getItem (.str (Str.ofString "|:!.") t) (.int (Int.fmod (p : Int) 4) u)) := by with_unfolding_all rfl)
    (ht : ∀ r, letTemporaryGo value (.str (Str.ofString "|:!.") t) r = pure () := by intro _; with_unfolding_all rfl) :
    wpAny (model prog w) A (subscriptTail value slice (.str (Str.ofString "|:!.") t) (.int (Int.fmod (p : Int) 4) u)) Q E s := by
  have h0 := fmod_lo (p : Int) (n := 4) (by decide)
  have h1 := fmod_hi (p : Int) (n := 4) (by decide)
  refine KXi.item (n := 4) (by decide +kernel) (by omega) h1 (by decide) (fun _ => ?_) hs ht
  rw [item_mark]; exact h _ _
end

/-! names: letters -/
@[irreducible] def nm (up : Bool) (i : Nat) : Str := lit [if up then 65 + i else 97 + i]
theorem nm_lit (up : Bool) (i : Nat) : nm up i = lit [if up then 65 + i else 97 + i] := by unfold nm; rfl
theorem nm_lower (up : Bool) {i : Nat} (h : i < 5) : Txt.lower (nm up i) = nm false i := by
  rw [nm_lit, nm_lit]
  have : i = 0 ∨ i = 1 ∨ i = 2 ∨ i = 3 ∨ i = 4 := by omega
  rcases this with rfl | rfl | rfl | rfl | rfl <;> cases up <;> decide +kernel
theorem nm_inj {i j : Nat} : (nm false i == nm false j) = decide (i = j) := by
  rw [nm_lit, nm_lit]
  by_cases h : i = j
  · subst h; simp
  · rw [decide_eq_false h, beq_eq_false_iff_ne]
    intro e
    have := lit_inj e
    simp at this
    exact h this
theorem nm_range (up : Bool) {i : Nat} (h : i < 5) : ∀ c ∈ (nm up i).cps.toList, 32 ≤ c ∧ c < 127 := by
  rw [nm_lit, lit_cps]
  intro c hc
  cases up <;> simp at hc <;> omega
theorem nm_size (up : Bool) (i : Nat) : (nm up i).cps.size ≤ 100000 := by rw [nm_lit]; simp [lit]
theorem row_range (d p : Nat) : ∀ c ∈ (row d p).cps.toList, 32 ≤ c ∧ c < 127 := by
  rw [row_lit, lit_cps]
  intro c hc
  have := rowL_range d p c hc
  omega
theorem row_size {d p : Nat} (hd : d ≤ 1000) (hp : p < 65536) : (row d p).cps.size ≤ 100000 := by
  have := row_len d p
  have h2 := digs_len hp
  unfold PySem.Str.length at this
  omega
section
variable {prog : Program} {w : World} {A : Around} {E : Value → Shared → Prop} {s : Shared} {Q : Value → Shared → Prop}
theorem r_lower {up : Bool} {i : Nat} {t : Tok} (hi : i < 5) (h : ∀ t' k, Q (.str (nm false i) t') { s with toks := k }) : wpAny (model prog w) A (call (.builtin "str.lower") [.str (nm up i) t]) Q E s := by
  refine SCL.lower (by rw [nm_lit, lit_len]; simp) fun _ => ?_
  rw [nm_lower up hi]; exact h _ _
theorem r_eq_nm {i j : Nat} {t u : Tok} (h : Q (.bool (decide (i = j))) s) : wpAny (model prog w) A (compareOp .Eq (.str (nm false i) t) (.str (nm false j) u)) Q E s := by
  refine PyProof.Rows.eq_str ?_
  rw [nm_inj]; exact h
theorem r_ne_nm {i j : Nat} {t u : Tok} (h : Q (.bool (decide (i ≠ j))) s) : wpAny (model prog w) A (compareOp .NotEq (.str (nm false i) t) (.str (nm false j) u)) Q E s := by
  refine PyProof.Rows.ne_str ?_
  have : (nm false i != nm false j) = decide (i ≠ j) := by
    rw [bne, nm_inj]; by_cases e : i = j <;> simp [e]
  rw [this]; exact h
end

/-! parse229's steps -/
section
variable {prog : Program} {w : World} {A : Around} {E : Value → Shared → Prop} {s : Shared} {Q : Value → Shared → Prop} {h₀ : Heap} {L : Addr} {m : Str → Option Value} {news : List (Addr × Obj)} {value slice : PySem.Expr} {p : Nat} {t u v : Tok}
theorem r_slice3 {j : Int} {uj : Tok} (hj : j = 3) (hp : p < 65536) (F : Fr h₀ L s.heap m) (N : News h₀ L s.heap news) (h : ∀ h' t' k, Fr h₀ L h' m → News h₀ L h' news → Q (.str (Str.ofString "229") t') { s with heap := h', toks := k })
    (hs : subscripted slice false (.str (reply p) t) (.ref s.heap.objs.size) = operate [.ref s.heap.objs.size, .str (reply p) t] (getItem (.str (reply p) t) (.ref s.heap.objs.size)) := by with_unfolding_all rfl)
    (ht : ∀ r, letTemporaryGo value (.str (reply p) t) r = pure () := by intro _; with_unfolding_all rfl) :
    wpAny (model prog w) A (subscriptTail value slice (.str (reply p) t) (.ref s.heap.objs.size)) Q E { s with heap := s.heap.push { cls := .type "slice", data := .fields #[.none, .int j uj, .none] } } := by
  subst hj
  have hd := digs_len hp
  refine slice_strN_ns F N (fun h' t' k a b => ?_) hs ht (by rw [reply_len, sizeLine_eq]; omega)
  rw [show Txt.slice (reply p) none (some 3) = Str.ofString "229" from slice_229 p]
  exact h h' t' k a b
theorem r_sliceM {i j : Int} {ui uj : Tok} (hi : i = 6) (hj : j = ((10 + (digs p).length : Nat) : Int)) (hp : p < 65536) (F : Fr h₀ L s.heap m) (N : News h₀ L s.heap news) (h : ∀ h' t' k, Fr h₀ L h' m → News h₀ L h' news → Q (.str (lit (midL p)) t') { s with heap := h', toks := k })
    (hs : subscripted slice false (.str (reply p) t) (.ref s.heap.objs.size) = operate [.ref s.heap.objs.size, .str (reply p) t] (getItem (.str (reply p) t) (.ref s.heap.objs.size)) := by with_unfolding_all rfl)
    (ht : ∀ r, letTemporaryGo value (.str (reply p) t) r = pure () := by intro _; with_unfolding_all rfl) :
    wpAny (model prog w) A (subscriptTail value slice (.str (reply p) t) (.ref s.heap.objs.size)) Q E { s with heap := s.heap.push { cls := .type "slice", data := .fields #[.int i ui, .int j uj, .none] } } := by
  subst hi hj
  have hd := digs_len hp
  refine slice_strN_ss F N (fun h' t' k a b => ?_) hs ht (by rw [reply_len, sizeLine_eq]; omega)
  rw [show Txt.slice (reply p) (some 6) (some ((10 + (digs p).length : Nat) : Int)) = lit (midL p) from slice_mid p]
  exact h h' t' k a b
theorem r_find5 (h : ∀ t' k, Q (.int 5 t') { s with toks := k }) : wpAny (model prog w) A (call (.builtin "str.find") [.str (reply p) t, .str (Str.ofString "(") u]) Q E s := by
  refine SC.find ?_
  rw [find_open]; exact h _ _
theorem r_find6 {i : Int} (hi : i = 6) (h : ∀ t' k, Q (.int ((10 + (digs p).length : Nat) : Int) t') { s with toks := k }) : wpAny (model prog w) A (call (.builtin "str.find") [.str (reply p) t, .str (Str.ofString ")") u, .int i v]) Q E s := by
  subst hi
  refine SC.find3 ?_
  rw [find_close]; exact h _ _
theorem r_item6 {i : Int} (hi : i = 6) (hp : p < 65536) (h : ∀ t' k, Q (.str (lit [mk p]) t') { s with toks := k })
    (hs : subscripted slice false (.str (reply p) t) (.int i u) = operate [.str (reply p) t, .int i u] (getItem (.str (reply p) t) (.int i u)) := by with_unfolding_all rfl)
    (ht : ∀ r, letTemporaryGo value (.str (reply p) t) r = pure () := by intro _; with_unfolding_all rfl) :
    wpAny (model prog w) A (subscriptTail value slice (.str (reply p) t) (.int i u)) Q E s := by
  have hd := digs_len hp
  refine KXi.item (n := (reply p).length) rfl (by omega) (by rw [reply_len]; omega) (by rw [reply_len]; omega) (fun _ => ?_) hs ht
  subst hi
  rw [item_six]; exact h _ _
theorem r_itemE {i : Int} (hi : i = ((9 + (digs p).length : Nat) : Int)) (hp : p < 65536) (h : ∀ t' k, Q (.str (lit [mk p]) t') { s with toks := k })
    (hs : subscripted slice false (.str (reply p) t) (.int i u) = operate [.str (reply p) t, .int i u] (getItem (.str (reply p) t) (.int i u)) := by with_unfolding_all rfl)
    (ht : ∀ r, letTemporaryGo value (.str (reply p) t) r = pure () := by intro _; with_unfolding_all rfl) :
    wpAny (model prog w) A (subscriptTail value slice (.str (reply p) t) (.int i u)) Q E s := by
  have hd := digs_len hp
  refine KXi.item (n := (reply p).length) rfl (by omega) (by rw [reply_len]; omega) (by rw [reply_len]; omega) (fun _ => ?_) hs ht
  subst hi
  rw [item_end]; exact h _ _
theorem r_ne_self {x y : Str} (e : x = y) (h : Q (.bool false) s) : wpAny (model prog w) A (compareOp .NotEq (.str x t) (.str y u)) Q E s := by
  subst e
  refine PyProof.Rows.ne_str ?_
  rw [show (x != x) = false from bne_self_eq_false x]; exact h
theorem strs5 {l : List (Str × Tok)} {a b c d e : Str} (h : l.map (·.1) = [a, b, c, d, e]) : ∃ t0 t1 t2 t3 t4, strValues l = [.str a t0, .str b t1, .str c t2, .str d t3, .str e t4] := by
  match l, h with
  | [x0, x1, x2, x3, x4], h =>
    simp only [List.map_cons, List.map_nil, List.cons.injEq, and_true] at h
    obtain ⟨rfl, rfl, rfl, rfl, rfl⟩ := h
    exact ⟨x0.2, x1.2, x2.2, x3.2, x4.2, rfl⟩
theorem r_split {hp : p < 65536} (F : Fr h₀ L s.heap m) (N : News h₀ L s.heap news)
    (h : ∀ D h' k t0 t1 t2 t3 t4, Fr h₀ L h' m → News h₀ L h' ((D, listOf #[.str (lit []) t0, .str (lit []) t1, .str (lit []) t2, .str (lit (digs p)) t3, .str (lit []) t4] 0) :: news) → (∀ q ∈ news, q.1 < D) → Q (.ref D) { s with heap := h', toks := k }) :
    wpAny (model prog w) A (call (.builtin "str.split") [.str (lit (midL p)) t, .str (lit [mk p]) u]) Q E s := by
  have hd := digs_len hp
  refine splitN1 F N (by rw [lit_len]; rfl) (fun l h' k hl F' N' => ?_) (by rw [lit_len, sizeLine_eq]; simp [midL]; omega)
  rw [split_mid] at hl
  obtain ⟨t0, t1, t2, t3, t4, e⟩ := strs5 hl
  rw [e] at N'
  exact h _ h' k t0 t1 t2 t3 t4 F' N' (fun q hq => Heap.lt_size (N q hq).1)
theorem r_int (hp : p < 65536) (h : ∀ t' k, Q (.int (p : Int) t') { s with toks := k }) : wpAny (model prog w) A (call (.type "int") [.str (lit (digs p)) t]) Q E s := by
  rw [← digs_str]
  exact KIN.call_num (by omega) (by omega) (h _ _)
theorem r_lstrip {d : Nat} (hp : p < 65536) (hd : d ≤ 1000) (h : ∀ t' k, Q (.str (reply p) t') { s with toks := k }) : wpAny (model prog w) A (call (.builtin "str.lstrip") [.str (row d p) t, .str (Str.ofString ".") u]) Q E s := by
  have h5 := digs_len hp
  refine SC.lstripChars (fun t' k => ?_) (by rw [row_len, sizeLine_eq]; omega)
  rw [lstrip_row]; exact h t' k
end

theorem find_abcd {i : Nat} (h : i < 4) : Txt.find (Str.ofString "abcd") (nm false i) = (i : Int) := by
  rw [nm_lit]
  have : i = 0 ∨ i = 1 ∨ i = 2 ∨ i = 3 := by omega
  rcases this with rfl | rfl | rfl | rfl <;> decide +kernel
section
variable {prog : Program} {w : World} {A : Around} {E : Value → Shared → Prop} {s : Shared} {Q : Value → Shared → Prop} {t u : Tok}
theorem r_index {i : Nat} (hi : i < 4) (hA : A.handled = none) (h : ∀ t' k, Q (.int (i : Int) t') { s with toks := k }) : wpAny (model prog w) A (call (.builtin "str.index") [.str (Str.ofString "abcd") t, .str (nm false i) u]) Q E s := by
  refine index_or hA (fun e _ => ?_) (fun _ _ => ?_)
  · rw [find_abcd hi] at e; omega
  · rw [find_abcd hi]; exact h _ _
end
end Mine
end
section
open PySem PySem.W PySem.Calls PyProof.Rows
set_option Elab.async false
set_option linter.unusedVariables false
namespace Mine
section
variable {prog : Program} {w : World} {A : Around} {s : Shared} {K : Frag} {h₀ : Heap} {p : Program} {loose : List Str} {mean : ExcName → Option Value} {mg mb : Str → Option Value}
  {R : Result → Shared → Prop} {name qual : Str} {params : Arguments} {body : List Stmt} {scope : Scope} {dV kV doc pm cdv ct oc : Value} {an od : Option Addr} {osl : Array (Option Value)} {f : Addr} {args : Args} {binds : List (Str × Value)}

/-- entering a def that has cells, over the whole heap but for the objects of tab, which may be turned -/
theorem enterC (tab : List (Addr × Obj)) (X₀ : K.In h₀) (T : Top p loose mean mg mb h₀) (st : h₀.StaysIn s.heap) (ht : ∀ q ∈ tab, s.heap.get? q.1 = some q.2) (hh : ∀ a ∈ tab.map (·.1), h₀.get? a = none)
    (ho : K.lookup f = some ⟨oc, od, .func (fnOf name qual params body scope dV kV doc pm an cdv ct), osl⟩) (hcd : codeIn K cdv qual = true) (hroom : A.depth < recursionLimit)
    (hbind : BindsTo s (fnOf name qual params body scope dV kV doc pm an cdv ct) args binds)
    (hkind : (binds.all fun y => scope.names.lookup y.1 == some .local || scope.names.lookup y.1 == some .cell) = true)
    (hnd : ((cellsFrom 0 scope.names []).map (·.1)).Nodup)
    (hco : scope.isCoroutine = false) (hgen : scope.isGenerator = false) (hk : scope.kind = .function)
    (h : ∀ g L' h₁ tk cells, Fr g L' h₁ (bindL (envOfC qual scope L' f cdv).kindOf binds fun _ => none) → K.In g → Top p loose mean mg mb g → h₀.StaysIn g → (∀ b o, s.heap.get? b = some o → b ∉ tab.map (·.1) → g.get? b = some o) →
      (∀ b ∈ tab.map (·.1), g.get? b = none) → s.heap.StaysIn h₁ → (∀ b o, s.heap.get? b = some o → b ≠ L') →
      News g L' h₁ (cells ++ tab) → CellsAre (bindC (envOfC qual scope L' f cdv).kindOf binds fun _ => none) (cellsFrom (L' + 1) scope.names []) cells → (∀ q ∈ tab, q.1 < L') →
      wpAny (model prog w) (A.deeper (envOfC qual scope L' f cdv)) (execs body (envOfC qual scope L' f cdv))
        (fun fl s' => R (.ok (.ret (match fl with | .ret v => v | _ => .none))) s') (fun _ _ => False)
        { s with heap := h₁, toks := tk }) : codeAny (model prog w) A (.call (.ref f) args) R s := by
  have nm : ∀ b o, h₀.get? b = some o → b ∉ tab.map (·.1) := fun b o e q => by rw [hh b q] at e; cases e
  have stg : h₀.StaysIn (hideAll s.heap (tab.map (·.1))) := fun b o e => hideAll_get _ (st b o e) (nm b o e)
  refine codeAny_call_function (fd := fnOf name qual params body scope dV kV doc pm an cdv ct) hroom ((X₀.keeps st) _ _ ho) rfl hco hgen rfl (codeRec_of (X₀.keeps st) hcd) (hbind _ _ _ _ ?_)
  refine wpAny_newFunctionEnv_cells hk (kindsX hkind _) fun env' he s' x => ?_
  subst he
  refine ⟨(T.nolimit.keeps st).keeps x.toInCall.keep, codeAny_func ?_⟩
  obtain ⟨h₁, tk, rfl, _⟩ := x.done
  have hk₁ := x.toInCall.keep
  obtain ⟨cells, NC, Y⟩ := Cl.news (h₀ := s.heap) (Nat.le_refl _) fun n c hm => ⟨x.cell n c (lookup_of_mem_nodup (cellsFrom_names scope.names 0 (s.heap.objs.size + 1) [] [] rfl ▸ hnd) hm), x.above n c hm⟩
  refine wpAny_mono (h (hideAll s.heap (tab.map fun q : Addr × Obj => q.1)) s.heap.objs.size h₁ tk cells ⟨x.toInCall.ns, fun b o e => hk₁ b o (of_hideAll _ e), Nat.le_of_eq (hideAll_size _ _)⟩ (X₀.keeps stg) (T.keeps stg) stg
    (fun b o e n => hideAll_get _ e n) (fun b hb => hideAll_none _ hb) hk₁ (fun b o e => Nat.ne_of_lt (Heap.lt_size e)) (fun p hp => ?_) Y (fun q hq => Heap.lt_size (ht q hq))) (fun fl s' hl => hl) fun e s' x => x.elim
  rcases List.mem_append.mp hp with hp | hp
  · refine ⟨(NC p hp).1, (NC p hp).2.1, ?_⟩
    cases q : (hideAll s.heap (tab.map (·.1))).get? p.1 with
    | none => rfl
    | some o => have := of_hideAll _ q; rw [(NC p hp).2.2] at this; cases this
  · exact ⟨hk₁ _ _ (ht p hp), Nat.ne_of_lt (Heap.lt_size (ht p hp)), hideAll_none _ (List.mem_map_of_mem hp)⟩
end

section
variable {prog : Program} {w : World} {A : Around} {E : Value → Shared → Prop} {s : Shared} {env : Env}
/-- a list comprehension over a list, from where the list is known -/
structure CompL (prog : Program) (w : World) (A : Around) (env : Env) (scope : Scope) (cl : List (Str × Addr)) (x : Str) (ifs : List PySem.Expr) (elt : PySem.Expr) (Q : Value → Shared → Prop) (l : Addr) (items : Array Value) (p : Value → Bool) (F : Value → Value → Prop) (s₁ : Shared) : Prop where
  list : s₁.heap.IsList l items
  size : items.size ≤ sizeLine
  tests : ∀ C v s₃ m₃ E', v ∈ items.toList → s₁.heap.objs.size ≤ C → s₃.heap.Ns C m₃ → m₃ x = some v → s₁.heap.StaysIn s₃.heap →
    wpAny (model prog w) A (forIn ifs true fun c r => if r = true then do let ok ← isTrue c (compEnvC scope cl C env) (eval c (compEnvC scope cl C env)); pure (ForInStep.yield ok) else pure (ForInStep.yield r))
      (fun ok s₄ => ok = p v ∧ Keeps s₃ s₄) E' s₃
  elt : ∀ C v s₃ m₃ E', v ∈ items.toList → p v = true → s₁.heap.objs.size ≤ C → s₃.heap.Ns C m₃ → m₃ x = some v → s₁.heap.StaysIn s₃.heap →
    wpAny (model prog w) A (eval elt (compEnvC scope cl C env)) (fun y s₄ => F v y ∧ Keeps s₃ s₄) E' s₃
  out : ∀ D h' tk ys n, s₁.heap.get? D = none → h'.get? D = some (listOf ys n) → Paired F (items.toList.filter p) ys.toList → s₁.heap.StaysIn h' → Q (.ref D) { s₁ with heap := h', toks := tk }
def CompX (prog : Program) (w : World) (A : Around) (env : Env) (scope : Scope) (cl : List (Str × Addr)) (x : Str) (ifs : List PySem.Expr) (elt : PySem.Expr) (Q : Value → Shared → Prop) (xv : Value) (s₁ : Shared) : Prop :=
  ∃ l items p F, xv = .ref l ∧ CompL prog w A env scope cl x ifs elt Q l items p F s₁
theorem list_same {vs : List Value} {items : Array Value} (h1 : vs.length = items.size) (h2 : ∀ (j : Nat) (v : Value), vs[j]? = some v → items[j]? = some v) : vs = items.toList := by
  apply List.ext_getElem?
  intro j
  cases q : vs[j]? with
  | some v => rw [Array.getElem?_toList, h2 j v q]
  | none =>
    have := List.getElem?_eq_none_iff.mp q
    rw [List.getElem?_eq_none (by simpa using h1 ▸ this)]
theorem comp_list {elt iter : PySem.Expr} {x : Str} {px : Pos} {ifs : List PySem.Expr} {scope : Scope} {cl : List (Str × Addr)} {pos : Pos} {Q : Value → Shared → Prop}
    (hh : A.handled = none) (hclos : closureFor scope env = pure cl) (hcell : ∀ y ∈ scope.names, y.2 ≠ .cell) (hkind : scope.kind = .function)
    (hnames : ∀ y ∈ scope.names, y.2 = .local → scope.names.lookup y.1 = some .local) (hx : scope.names.lookup x = some .local)
    (h : wpAny (model prog w) A (eval iter env) (CompX prog w A env scope cl x ifs elt Q) E s)
    (hs : ∀ x, foldedSetIterable iter env x = pure x) :
    wpAny (model prog w) A (eval (.ListComp elt [⟨.Name x px, iter, ifs, 0⟩] scope pos) env) Q E s := by
  rw [eval_ListComp]
  refine wpAny_comprehension_free (use := none) rfl hs hclos hkind hnames (wpAny_mono h (fun xv s₁ h₁ => ?_) fun _ _ e => e)
  obtain ⟨l, items, p, F, rfl, H⟩ := h₁
  refine wpAny_pyIter_list H.list ?_
  obtain ⟨ol, hol, _⟩ := id H.list
  have hlt : l < s₁.heap.objs.size := Heap.lt_size hol
  have hne : l ≠ s₁.heap.objs.size := Nat.ne_of_lt hlt
  have hst : s₁.heap.StaysIn (s₁.heap.push { cls := .type "list_iterator", data := .fields #[.ref l, .int 0 0] }) := fun b o e => Heap.get?_push_of_some _ e
  have hne2 : ∀ b o, s₁.heap.get? b = some o → b ∉ [s₁.heap.objs.size] := fun b o e hb => by
    have := Heap.lt_size e
    rw [List.mem_singleton.mp hb] at this
    exact Nat.lt_irrefl _ this
  have hsz : s₁.heap.objs.size ≤ (s₁.heap.push { cls := .type "list_iterator", data := .fields #[.ref l, .int 0 0] }).objs.size := by rw [Heap.size_push]; exact Nat.le_succ _
  refine comp_block_walkC (RR := fun acc C => compPost (model prog w) A E none Q acc C) (Walks.list hh s₁.heap.objs.size l hne items) H.size p F hcell hkind hx
    ⟨⟨_, Heap.get?_push_size _ rfl, rfl, rfl⟩, H.list.at fun o e => hst _ _ e⟩ (fun b hb => ?_) ⟨fun C i v s₃ m₃ E' hC hv hn hm hk htk => ?_, fun C i v s₃ m₃ E' hC hv hpv hn hm hk htk => ?_⟩ ?_
  · rcases List.mem_cons.mp hb with rfl | hb
    · dsimp only; rw [Heap.size_push]; exact Nat.lt_succ_self _
    · rw [List.mem_singleton.mp hb]; exact Nat.lt_of_lt_of_le hlt hsz
  · exact H.tests C v s₃ m₃ E' (List.mem_of_getElem? (by rw [Array.getElem?_toList]; exact hv)) (Nat.le_trans hsz hC) hn hm fun b o e => hk b o (hne2 b o e) (hst b o e)
  · exact H.elt C v s₃ m₃ E' (List.mem_of_getElem? (by rw [Array.getElem?_toList]; exact hv)) hpv (Nat.le_trans hsz hC) hn hm fun b o e => hk b o (hne2 b o e) (hst b o e)
  intro D C h' tk m' ys vs hD hC hDC hn hl hpl hlen hP hF hk
  have hvs : vs = items.toList := list_same hlen hP
  subst hvs
  have none_of : ∀ b, (s₁.heap.push { cls := .type "list_iterator", data := .fields #[.ref l, .int 0 0] }).get? b = none → s₁.heap.get? b = none := fun b e => by
    cases q : s₁.heap.get? b with
    | none => rfl
    | some o => rw [hst _ _ q] at e; cases e
  refine ⟨m', hn, fun h'' hs'' => ?_⟩
  obtain ⟨n, hn'⟩ := hpl.extBut hs''.extBut hDC
  exact H.out D h'' tk ys n (none_of D hD) hn' hF fun b o e => hs''.extBut b o (by rintro rfl; rw [none_of _ hC] at e; cases e) (hk b o (hne2 b o e) (hst b o e))
end

section
variable {prog : Program} {w : World} {A : Around} {E : Value → Shared → Prop} {s : Shared}
/-- l[:] = r, r another list -/
theorem set_all {l sl r : Addr} {its new : Array Value} {n n' : Nat} {Q : Unit → Shared → Prop} (hl : s.heap.get? l = some (listOf its n)) (hs : s.heap.IsSliceOf sl .none .none .none) (hr : s.heap.get? r = some (listOf new n')) (hlr : l ≠ r)
    (h1 : its.size ≤ 1000) (h2 : new.size ≤ 1000) (h : ∀ h' m, Heap.SameBut l s.heap h' → h'.get? l = some (listOf new m) → Q () { s with heap := h' }) :
    wpAny (model prog w) A (setItem (.ref l) (.ref sl) (.ref r)) Q E s := by
  have hL : s.heap.IsList l its := PySem.IsL.isList (n := n) hl
  have hR : s.heap.IsList r new := PySem.IsL.isList (n := n') hr
  obtain ⟨os, hos, hcs, hds⟩ := id hs
  have hTs : s.TypeIs (.ref sl) "slice" := ⟨os, hos, hcs⟩
  unfold setItem
  try with_reducible refine wpAny_holding ?_
  first | refine wpAny_bind (wpAny_pure ?_) | skip
  refine wpAny_bind (wpAny_sequenceKey hL.typeIs (by decide) ?_)
  refine wpAny_bind (wpAny_callSpecial?_slot (name := Str.ofString "__setitem__") hL.typeIs slot_list_setitem
    (wpAny_call_entry slot_list_setitem hL.typeIs entry_list_setitem ?_ (args_list_setitem _ _ _)))
  show wpAny _ _ (Builtin.List.listSubscript? (.ref sl) >>= _) _ _ s
  refine wpAny_bind ?_
  unfold Builtin.List.listSubscript?
  refine wpAny_bind (wpAny_specialOf hTs slice_no_index ?_)
  simp only [Option.isNone_none, if_true]
  refine wpAny_pure ?_
  show wpAny _ _ (typeOf (.ref sl) >>= _) _ _ s
  refine wpAny_bind (wpAny_typeOf hTs ?_)
  rw [if_neg (by decide)]
  rw [listSliceParts_eq]
  have hstep : ¬ ((rawPart none == rawInt 0) = true) := Bool.false_ne_true
  refine wpAny_bind (wpAny_bind (wpAny_field hos hds (x := .none) rfl (wpAny_bind (wpAny_listPart .none ?_))))
  rw [if_neg hstep]
  refine wpAny_bind (wpAny_field hos hds (x := .none) rfl (wpAny_bind (wpAny_listPart .none ?_)))
  refine wpAny_bind (wpAny_field hos hds (x := .none) rfl (wpAny_bind (wpAny_listPart .none (wpAny_pure ?_))))
  have hsame : Builtin.List.listSameRef (.ref l) (.ref r) = false := by
    show (l == r) = false
    simpa using hlr
  rw [hsame]
  simp only [Bool.false_eq_true, if_false]
  refine wpAny_bind (m := Builtin.List.listAllItems _ _) ?_
  unfold Builtin.List.listAllItems
  refine wpAny_bind (wpAny_typeOf hR.typeIs ?_)
  rw [if_pos (by decide)]
  unfold Builtin.List.listItems
  refine wpAny_bind (wpAny_seqItems hr rfl (wpAny_pure ?_))
  refine wpAny_bind (wpAny_bind (wpAny_seqItems hl rfl (wpAny_pure ?_)))
  refine wpAny_bind (wpAny_of_eq (sliceIndices_raw none none none its.size (by simp)) ?_)
  have e : sliceBounds none none none its.size = (((0 : Nat) : Int), (its.size : Int), 1) := by simp [sliceBounds]
  rw [e]
  dsimp only
  rw [if_pos (by decide)]
  have hlong : Builtin.List.listTooLong (its.size + new.size) = false := by
    unfold Builtin.List.listTooLong sizeLine
    simp; omega
  refine wpAny_bind (wpAny_rule ?_)
  rw [hlong]
  simp only [Bool.false_eq_true, if_false]
  have hf : (its.extract 0 (Int.toNat ((0 : Nat) : Int)) ++ new ++ its.extract (max ((0 : Nat) : Int) (its.size : Int)).toNat its.size) = new := by
    have e1 : (max ((0 : Nat) : Int) (its.size : Int)).toNat = its.size := by omega
    rw [e1]
    simp
  refine wpAny_bind ?_
  show wpAny _ _ (updateSeq l _) _ _ s
  refine wpAny_updateSeq hl rfl ?_ (by unfold sizeLine; omega) ?_
  · refine wpAny_bind (wpAny_letGo ?_)
    refine wpAny_pure ⟨.none, rfl, wpAny_pure ?_⟩
    have q := PySem.IsL.update (n := n) hl (fun xs => xs.extract 0 (Int.toNat ((0 : Nat) : Int)) ++ new ++ xs.extract (max ((0 : Nat) : Int) (its.size : Int)).toNat xs.size)
    rw [hf] at q
    exact h _ _ (Heap.SameBut.update ..) q
  · rw [hf]; unfold sizeLine; omega
end

section
variable {prog : Program} {w : World} {A : Around} {E : Value → Shared → Prop} {s : Shared} {env : Env} {g : Heap}
/-- a loop over a range, from where the range is known -/
structure LoopR (prog : Program) (w : World) (A : Around) (g : Heap) (env : Env) (x : Str) (px : Pos) (body : List Stmt) (Q : Flow → Shared → Prop) (E : Value → Shared → Prop) (s : Shared) (r : Addr) (a : Int) (n : Nat)
    (J : Nat → (Str → Option Value) → List (Addr × Obj) → Prop) (s₁ : Shared) : Prop where
  same : s₁ = { s with heap := s₁.heap, toks := s₁.toks }
  range : ∃ t u v, IsRange s₁.heap r a (a + n) 1 t u v
  small : -(2 ^ 61) ≤ a ∧ a + n < 2 ^ 61
  start : ∃ m news, Fr g env.locals s₁.heap m ∧ News g env.locals s₁.heap news ∧ J 0 m news
  turn : ∀ I oI i ti m news h tk, oI.cls = .type "range_iterator" → i < n → J i m news → (∀ p ∈ news, p.1 ≠ I) → Fr g env.locals h m → News g env.locals h ((I, oI) :: news) →
      wpAny (model prog w) A (assign (.Name x px) env (.int (a + i) ti)) (fun _ s₃ => wpAny (model prog w) A (execs body env) (TurnEnd g env.locals s I oI (J (i + 1)) Q) E s₃) E { s with heap := h, toks := tk }
  done : ∀ h tk m news, J n m news → Fr g env.locals h m → News g env.locals h news → Q .next { s with heap := h, toks := tk }
def LoopRX (prog : Program) (w : World) (A : Around) (g : Heap) (env : Env) (x : Str) (px : Pos) (body : List Stmt) (Q : Flow → Shared → Prop) (E : Value → Shared → Prop) (s : Shared) (xv : Value) (s₁ : Shared) : Prop :=
  ∃ r a n J, xv = .ref r ∧ LoopR prog w A g env x px body Q E s r a n J s₁
theorem for_rangeX {x : Str} {px : Pos} {iter : PySem.Expr} {body : List Stmt} {pos : Pos} {Q : Flow → Shared → Prop}
    (hh : A.handled = none)
    (h : wpAny (model prog w) A (eval iter env) (LoopRX prog w A g env x px body Q E s) E s)
    (hs : ∀ x, foldedSetIterable iter env x = pure x)
    (hE : PassesOwn (model prog w) A env E) :
    wpAny (model prog w) A (exec (.For (.Name x px) iter body [] pos) env) Q E s := by
  refine wpAny_For (wpAny_mono h (fun xv s₁ h₁ => ?_) fun _ _ e => e) hs
  obtain ⟨r, a, n, J, rfl, hs₁, ⟨t, u, v, hr⟩, ⟨b1, b2⟩, ⟨m, news, F, N, h0⟩, turn, done⟩ := h₁
  have hsm : Builtin.Range.small a (a + n) 1 = true := small_one (by omega) (by omega) (by omega) (by omega)
  refine wpAny_pyIter_range hr hsm ?_
  generalize hI : s₁.heap.objs.size = I
  have W := Walks.range (prog := prog) (w := w) hh I a 1 n
  have hLI : env.locals ≠ I := by rw [← hI]; exact Nat.ne_of_lt F.ns.lt
  have hgI : g.get? I = none := by
    cases q : g.get? I with
    | none => rfl
    | some o => exact absurd (Heap.lt_size (F.keep _ _ q)) (by rw [hI]; exact Nat.lt_irrefl _)
  have hsz : Builtin.Range.rangeSize a (a + n) 1 = (n : Int) := by
    rw [rangeSize_one]; omega
  refine codeAny_forLoop_any (R := fun r s' => match r with | .ok f => Q f s' | .error e => cameBackBy (model prog w) A env E e s')
    (fun k s' => ∃ h' tk m' news' i, s' = { s with heap := h', toks := tk } ∧ IsRangeIter h' I (a + (i : Nat) * 1) ((n : Int) - (i : Nat)) 1 ∧ Fr g env.locals h' m' ∧ News g env.locals h' news' ∧ (∀ p ∈ news', p.1 ≠ I) ∧ J i m' news' ∧ i ≤ n ∧ k = n + 1 - i) ?_ (n + 1)
    ⟨s₁.heap.push { cls := .type "range_iterator", data := .fields #[rawInt a, rawInt (Builtin.Range.rangeSize a (a + n) 1), rawInt 1] }, s₁.toks, m, news, 0, by rw [hs₁], (by rw [hsz, ← hI]; simpa using Heap.get?_push_size _ rfl), F.push _,
      (fun p hp => ⟨Heap.get?_push_of_some _ (N p hp).1, (N p hp).2⟩), (fun p hp e => absurd (Heap.lt_size (N p hp).1) (by rw [e, hI]; exact Nat.lt_irrefl _)), h0, Nat.zero_le _, rfl⟩
  rintro k s' ⟨h', tk, m', news', i, rfl, hit, F', N', hoff, hJ, hi, rfl⟩
  have next : ∀ h₁ : Heap, (∀ b o, b ∉ [I] → h'.get? b = some o → h₁.get? b = some o) → Fr g env.locals h₁ m' ∧ News g env.locals h₁ news' := fun h₁ hk₁ =>
    ⟨⟨F'.ns.at' fun o e => hk₁ _ o (by simpa using hLI) e, fun b o e => hk₁ b o (by simp; intro q; rw [q, hgI] at e; cases e) (F'.keep b o e), F'.above⟩, fun p hp => ⟨hk₁ _ _ (by simpa using hoff p hp) (N' p hp).1, (N' p hp).2⟩⟩
  by_cases hlt : i < n
  · refine W.item i _ _ _ hlt hit fun v h₁ tk₁ hP hst₁ hk₁ => ?_
    obtain ⟨F₁, N₁⟩ := next h₁ hk₁
    obtain ⟨ti, rfl⟩ := hP
    rw [Int.mul_one]
    refine wpAny_pure ?_
    have N₂ : News g env.locals h₁ ((I, _) :: news') := fun p hp => by
      rcases List.mem_cons.mp hp with rfl | hp
      · exact ⟨hst₁, Ne.symm hLI, hgI⟩
      · exact N₁ p hp
    refine wpAny_passesOwn hE (wpAny_mono (turn I _ i ti m' news' h₁ tk₁ rfl hlt hJ hoff F₁ N₂) (fun _ s₃ h₃ => wpAny_passesOwn hE (wpAny_mono h₃ (fun f s₄ h₄ => ?_) fun _ _ e => e)) fun _ _ e => e)
    cases f with
    | ret v => exact h₄
    | brk => exact h₄
    | next =>
      obtain ⟨h₄', tk₄, m₄, news₄, rfl, F₄, N₄, hoff₄, hJ₄⟩ := h₄
      exact ⟨n + 1 - (i + 1), by omega, h₄', tk₄, m₄, news₄, i + 1, rfl, (N₄ _ (List.mem_cons_self ..)).1, F₄, fun p hp => N₄ p (List.mem_cons_of_mem _ hp), hoff₄, hJ₄, hlt, rfl⟩
    | cont =>
      obtain ⟨h₄', tk₄, m₄, news₄, rfl, F₄, N₄, hoff₄, hJ₄⟩ := h₄
      exact ⟨n + 1 - (i + 1), by omega, h₄', tk₄, m₄, news₄, i + 1, rfl, (N₄ _ (List.mem_cons_self ..)).1, F₄, fun p hp => N₄ p (List.mem_cons_of_mem _ hp), hoff₄, hJ₄, hlt, rfl⟩
  · have hin : i = n := by omega
    subst hin
    refine W.done _ _ _ hit fun h₁ tk₁ hk₁ => wpAny_execs_nil ?_
    obtain ⟨F₁, N₁⟩ := next h₁ hk₁
    exact done h₁ tk₁ m' news' hJ F₁ N₁
end
end Mine
end
section
open PySem PySem.W PySem.Calls PyProof.Rows
set_option Elab.async false
set_option linter.unusedVariables false
namespace Mine
section
variable {prog : Program} {w : World} {A : Around} {E : Value → Shared → Prop} {s : Shared} {env : Env}
/-- what a turn of a comprehension gives: its number, its value, the objects that it made -/
abbrev Out := Nat × Value × List (Addr × Obj)
def EltEnd (G : Value → List (Addr × Obj) → Prop) (s₃ : Shared) (y : Value) (s₄ : Shared) : Prop := (∃ os, G y os ∧ ∀ q ∈ os, s₃.heap.get? q.1 = none ∧ s₄.heap.get? q.1 = some q.2) ∧ Keeps s₃ s₄
theorem elt_tup {G : Value → List (Addr × Obj) → Prop} {h₃ h5 : Heap} {g : Array GenState} {d : Drawn} {t tk : Nat} {o : OsState} {a b : Value} (hs : h₃.StaysIn h5) (hG : G (.ref h5.objs.size) [(h5.objs.size, tupO a b)]) :
    EltEnd G ⟨h₃, g, d, t, o⟩ (.ref h5.objs.size) ⟨h5.push (tupO a b), g, d, tk, o⟩ := by
  refine ⟨⟨_, hG, fun q hq => ?_⟩, _, _, rfl, fun b o e => Heap.get?_push_of_some _ (hs b o e)⟩
  rw [List.mem_singleton.mp hq]
  refine ⟨?_, Heap.get?_push_size _ rfl⟩
  cases e : h₃.get? h5.objs.size with
  | none => rfl
  | some o => exact absurd (Heap.lt_size (hs _ _ e)) (Nat.lt_irrefl _)
theorem elt_flat {G : Value → List (Addr × Obj) → Prop} {h₃ h5 : Heap} {g : Array GenState} {d : Drawn} {t tk : Nat} {o : OsState} {y : Value} (hs : h₃.StaysIn h5) (hG : G y []) :
    EltEnd G ⟨h₃, g, d, t, o⟩ y ⟨h5, g, d, tk, o⟩ := ⟨⟨_, hG, fun q hq => nomatch hq⟩, _, _, rfl, hs⟩
structure CompR (prog : Program) (w : World) (A : Around) (env : Env) (scope : Scope) (cl : List (Str × Addr)) (x : Str) (ifs : List PySem.Expr) (elt : PySem.Expr) (Q : Value → Shared → Prop) (r : Addr) (n : Nat) (p : Nat → Bool) (G : Nat → Value → List (Addr × Obj) → Prop) (s₁ : Shared) : Prop where
  range : ∃ t u v, IsRange s₁.heap r 0 (n : Int) 1 t u v
  size : n ≤ 1000
  tests : ∀ C i t s₃ m₃ E', i < n → s₁.heap.objs.size ≤ C → s₃.heap.Ns C m₃ → m₃ x = some (.int (i : Nat) t) → s₁.heap.StaysIn s₃.heap →
    wpAny (model prog w) A (forIn ifs true fun c r => if r = true then do let ok ← isTrue c (compEnvC scope cl C env) (eval c (compEnvC scope cl C env)); pure (ForInStep.yield ok) else pure (ForInStep.yield r))
      (fun ok s₄ => ok = p i ∧ Keeps s₃ s₄) E' s₃
  elt : ∀ C i t s₃ m₃ E', i < n → p i = true → s₁.heap.objs.size ≤ C → s₃.heap.Ns C m₃ → m₃ x = some (.int (i : Nat) t) → s₁.heap.StaysIn s₃.heap →
    wpAny (model prog w) A (eval elt (compEnvC scope cl C env)) (EltEnd (G i) s₃) E' s₃
  out : ∀ D h' tk k (outs : List Out), s₁.heap.get? D = none → h'.get? D = some (listOf (outs.map fun o => o.2.1).toArray k) → outs.map (fun o => o.1) = (List.range n).filter p →
    (∀ o ∈ outs, G o.1 o.2.1 o.2.2 ∧ ∀ q ∈ o.2.2, q.1 ≠ D ∧ s₁.heap.get? q.1 = none ∧ h'.get? q.1 = some q.2) → s₁.heap.StaysIn h' → Q (.ref D) { s₁ with heap := h', toks := tk }
def CompRX (prog : Program) (w : World) (A : Around) (env : Env) (scope : Scope) (cl : List (Str × Addr)) (x : Str) (ifs : List PySem.Expr) (elt : PySem.Expr) (Q : Value → Shared → Prop) (xv : Value) (s₁ : Shared) : Prop :=
  ∃ r n p G, xv = .ref r ∧ CompR prog w A env scope cl x ifs elt Q r n p G s₁
structure BlockR (prog : Program) (w : World) (A : Around) (env : Env) (scope : Scope) (cl : List (Str × Addr)) (x : Str) (ifs : List PySem.Expr) (elt : PySem.Expr) (n : Nat) (p : Nat → Bool) (G : Nat → Value → List (Addr × Obj) → Prop) (s₁ : Shared) : Prop where
  tests : ∀ C i t s₃ m₃ E', i < n → s₁.heap.objs.size ≤ C → s₃.heap.Ns C m₃ → m₃ x = some (.int (i : Nat) t) → s₁.heap.StaysIn s₃.heap →
    wpAny (model prog w) A (forIn ifs true fun c r => if r = true then do let ok ← isTrue c (compEnvC scope cl C env) (eval c (compEnvC scope cl C env)); pure (ForInStep.yield ok) else pure (ForInStep.yield r))
      (fun ok s₄ => ok = p i ∧ Keeps s₃ s₄) E' s₃
  elt : ∀ C i t s₃ m₃ E', i < n → p i = true → s₁.heap.objs.size ≤ C → s₃.heap.Ns C m₃ → m₃ x = some (.int (i : Nat) t) → s₁.heap.StaysIn s₃.heap →
    wpAny (model prog w) A (eval elt (compEnvC scope cl C env)) (EltEnd (G i) s₃) E' s₃
theorem block_range {elt iter : PySem.Expr} {x : Str} {px : Pos} {ifs : List PySem.Expr} {scope : Scope} {cl : List (Str × Addr)} {pos : Pos} {RR : Value → Addr → Result → Shared → Prop} {r : Addr} {n : Nat} {p : Nat → Bool} {G : Nat → Value → List (Addr × Obj) → Prop} {s₁ : Shared}
    (hh : A.handled = none) (hcell : ∀ y ∈ scope.names, y.2 ≠ .cell) (hkind : scope.kind = .function) (hx : scope.names.lookup x = some .local)
    (hr : ∃ t u v, IsRange s₁.heap r 0 (n : Int) 1 t u v) (hn : n ≤ 1000) (H : BlockR prog w A env scope cl x ifs elt n p G s₁)
    (out : ∀ D C h' tk k m' (outs : List Out), s₁.heap.get? D = none → s₁.heap.get? C = none → D ≠ C → h'.Ns C m' → h'.get? D = some (listOf (outs.map fun o => o.2.1).toArray k) → outs.map (fun o => o.1) = (List.range n).filter p →
      (∀ o ∈ outs, G o.1 o.2.1 o.2.2 ∧ ∀ q ∈ o.2.2, (q.1 ≠ D ∧ q.1 ≠ C) ∧ s₁.heap.get? q.1 = none ∧ h'.get? q.1 = some q.2) → s₁.heap.StaysIn h' → RR (.ref D) C (.ok .next) { s₁ with heap := h', toks := tk }) :
    wpAny (model prog w) A (pyIter (.ref r)) (fun it s₂ => wpAny (model prog w) A (newList []) (fun acc s₃ => wpAny (model prog w) A (newFunctionEnv scope env.globals cl [] env.qual none .none (some env)) (fun cenv s₄ =>
      codeAny (model prog w) A (.compStart (.ListComp elt [⟨.Name x px, iter, ifs, 0⟩] scope pos) 0 it acc { cenv with scope := relabel scope env }) (RR acc cenv.locals) s₄) E s₃) E s₂) E s₁ := by
  obtain ⟨t, u, v, hr⟩ := hr
  have hsm : Builtin.Range.small 0 ((n : Nat) : Int) 1 = true := small_one (by omega) (by omega) (by omega) (by omega)
  refine wpAny_pyIter_range hr hsm ?_
  generalize hI : s₁.heap.objs.size = I
  have hsz : Builtin.Range.rangeSize 0 ((n : Nat) : Int) 1 = (n : Int) := by rw [rangeSize_one]; omega
  rw [hsz]
  have W := Walks.range (prog := prog) (w := w) hh I 0 1 n
  generalize hH1 : s₁.heap.push { cls := .type "range_iterator", data := .fields #[rawInt 0, rawInt (n : Int), rawInt 1] } = H1
  have hI1 : H1.objs.size = I + 1 := by rw [← hH1, Heap.size_push, hI]
  have hit1 : IsRangeIter H1 I (0 + ((0 : Nat) : Int) * 1) ((n : Int) - ((0 : Nat) : Int)) 1 := by
    rw [← hH1, ← hI]; simpa using Heap.get?_push_size _ rfl
  have old1 : s₁.heap.StaysIn H1 := fun b o e => hH1 ▸ Heap.get?_push_of_some _ e
  refine wpAny_newObj_type (wpAny_newFunctionEnv hcell (by intro y hy; simp at hy) (fun h₁ hns₁ hsb₁ => ?_) hkind)
  dsimp only at hns₁ hsb₁ ⊢
  generalize hD : H1.objs.size = D at hns₁ hsb₁ ⊢
  generalize hH2 : H1.push { cls := .type "list", dict := none, data := .seq ([] : List Value).toArray } = H2 at hns₁ hsb₁ ⊢
  have hC : H2.objs.size = D + 1 := by rw [← hH2, Heap.size_push, hD]
  generalize hCC : H2.objs.size = C at hns₁ hsb₁ ⊢
  have old2 : ∀ b o, H1.get? b = some o → h₁.get? b = some o := fun b o e => hsb₁.extBut b o (by
    have := Heap.lt_size e; rw [hD] at this; rw [← hCC, hC]; exact Nat.ne_of_lt (Nat.lt_succ_of_lt this)) (Heap.get?_push_of_some _ (hH2 ▸ Heap.get?_push_of_some _ e))
  have hDC : D ≠ C := by rw [← hCC, hC]; exact Nat.ne_of_lt (Nat.lt_succ_self _)
  have hID : I ≠ D := by rw [← hD, hI1]; exact Nat.ne_of_lt (Nat.lt_succ_self _)
  have hIC : I ≠ C := by rw [← hCC, hC, ← hD, hI1]; exact Nat.ne_of_lt (Nat.lt_succ_of_lt (Nat.lt_succ_self _))
  have hacc : h₁.PlainList D #[] := ⟨_, hsb₁.extBut _ _ hDC (Heap.get?_push_of_some _ (hH2 ▸ (hD ▸ Heap.get?_push_size _ rfl)))⟩
  have hit2 : IsRangeIter h₁ I (0 + ((0 : Nat) : Int) * 1) ((n : Int) - ((0 : Nat) : Int)) 1 := old2 _ _ hit1
  have hIs : s₁.heap.get? I = none := by
    cases q : s₁.heap.get? I with
    | none => rfl
    | some o => exact absurd (Heap.lt_size q) (by rw [hI]; exact Nat.lt_irrefl _)
  have none_ge : ∀ b, I ≤ b → s₁.heap.get? b = none := fun b hb => by
    cases q : s₁.heap.get? b with
    | none => rfl
    | some o => have := Heap.lt_size q; rw [hI] at this; exact absurd this (Nat.not_lt.mpr hb)
  have hDs : s₁.heap.get? D = none := none_ge D (by rw [← hD, hI1]; exact Nat.le_succ _)
  have hCs : s₁.heap.get? C = none := none_ge C (by rw [← hCC, hC, ← hD, hI1]; exact Nat.le_succ_of_le (Nat.le_succ _))
  have hold : ∀ b o, s₁.heap.get? b = some o → b ≠ I ∧ b ≠ D ∧ b ≠ C := fun b o e =>
    ⟨fun q => (by rw [q, hIs] at e; cases e), fun q => (by rw [q, hDs] at e; cases e), fun q => (by rw [q, hCs] at e; cases e)⟩
  have hloc : (compEnvC scope cl C env).kindOf x = some .local := lookup_relabel_local hx
  have hst1 : s₁.heap.StaysIn h₁ := fun b o e => old2 _ _ (old1 _ _ e)
  have loop : ∀ s₃ : Shared, s₃.heap = h₁ → s₃ = { s₁ with heap := h₁, toks := s₃.toks } →
      codeAny (model prog w) A (.compLoop (.ListComp elt [⟨.Name x px, iter, ifs, 0⟩] scope pos) 0 (.ref I) (.ref D) (compEnvC scope cl C env))
        (RR (.ref D) C) s₃ := by
    intro s₃ hs3h hs3
    rw [hs3]
    refine codeAny_compLoop_tests
      (fun k s' => ∃ h' tk m' i, ∃ outs : List Out, s' = { s₁ with heap := h', toks := tk } ∧ IsRangeIter h' I (0 + ((i : Nat) : Int) * 1) ((n : Int) - ((i : Nat) : Int)) 1 ∧ h'.PlainList D (outs.map fun o => o.2.1).toArray ∧ h'.Ns C m' ∧
        outs.map (fun o => o.1) = (List.range i).filter p ∧ (∀ o ∈ outs, G o.1 o.2.1 o.2.2 ∧ ∀ q ∈ o.2.2, (q.1 ≠ I ∧ q.1 ≠ D ∧ q.1 ≠ C) ∧ s₁.heap.get? q.1 = none ∧ h'.get? q.1 = some q.2) ∧
        i ≤ n ∧ k = n + 1 - i ∧ s₁.heap.StaysIn h') ?_ (n + 1)
      ⟨h₁, _, _, 0, [], rfl, hit2, hacc, hns₁, rfl, by simp, Nat.zero_le _, rfl, hst1⟩
    rintro k s' ⟨h', tk, m', i, outs, rfl, hit, hpl, hns, houts, hobj, hi, rfl, hst⟩
    by_cases hlt : i < n
    · refine W.item i _ _ _ hlt hit fun v h₂ tk₂ hP hit₂ hk₂ => ?_
      obtain ⟨ti, rfl⟩ := hP
      have ev : (0 + ((i : Nat) : Int) * 1) = ((i : Nat) : Int) := by omega
      rw [ev]
      have hns₂ : h₂.Ns C m' := hns.at' fun o e => hk₂ _ o (by simpa using Ne.symm hIC) e
      refine wpAny_assign_Name (wpAny_storeName_local hloc hns₂ (fun h₃ hn₃ hs₃ => ?_) (by simp [compEnvC, relabel, hkind]))
      have up₃ : ∀ b o, b ≠ I → b ≠ C → h'.get? b = some o → h₃.get? b = some o := fun b o hb hbC e => hs₃.extBut b o hbC (hk₂ b o (by simpa using hb) e)
      have hst₃ : s₁.heap.StaysIn h₃ := fun b o e => up₃ b o (hold b o e).1 (hold b o e).2.2 (hst b o e)
      have hit₃ : IsRangeIter h₃ I (0 + ((i + 1 : Nat) : Int) * 1) ((n : Int) - ((i + 1 : Nat) : Int)) 1 := hs₃.extBut _ _ hIC hit₂
      have hpl₃ : h₃.PlainList D (outs.map fun o => o.2.1).toArray := hpl.at fun o e => up₃ _ o (Ne.symm hID) hDC e
      have hobj₃ : ∀ o ∈ outs, G o.1 o.2.1 o.2.2 ∧ ∀ q ∈ o.2.2, (q.1 ≠ I ∧ q.1 ≠ D ∧ q.1 ≠ C) ∧ s₁.heap.get? q.1 = none ∧ h₃.get? q.1 = some q.2 := fun o ho =>
        ⟨(hobj o ho).1, fun q hq => ⟨((hobj o ho).2 q hq).1, ((hobj o ho).2 q hq).2.1, up₃ _ _ ((hobj o ho).2 q hq).1.1 ((hobj o ho).2 q hq).1.2.2 ((hobj o ho).2 q hq).2.2⟩⟩
      refine wpAny_mono (H.tests C i ti _ _ _ hlt (by rw [hI, ← hCC, hC, ← hD, hI1]; exact Nat.le_succ_of_le (Nat.le_succ _)) hn₃ (by simp) hst₃) (fun ok s₄ h₄ => ?_) fun _ _ e => e
      obtain ⟨rfl, h₄, tk₄, rfl, hk₄⟩ := h₄
      have hst₄ : s₁.heap.StaysIn h₄ := fun b o e => hk₄ _ _ (hst₃ b o e)
      have hobj₄ : ∀ o ∈ outs, G o.1 o.2.1 o.2.2 ∧ ∀ q ∈ o.2.2, (q.1 ≠ I ∧ q.1 ≠ D ∧ q.1 ≠ C) ∧ s₁.heap.get? q.1 = none ∧ h₄.get? q.1 = some q.2 := fun o ho =>
        ⟨(hobj₃ o ho).1, fun q hq => ⟨((hobj₃ o ho).2 q hq).1, ((hobj₃ o ho).2 q hq).2.1, hk₄ _ _ ((hobj₃ o ho).2 q hq).2.2⟩⟩
      cases hp : p i with
      | false =>
        simp only [Bool.false_eq_true, if_false]
        refine ⟨n + 1 - (i + 1), by omega, h₄, _, _, i + 1, outs, rfl, hk₄ _ _ hit₃, hpl₃.at fun o e => hk₄ _ o e, hn₃.keeps hk₄, ?_, hobj₄, hlt, rfl, hst₄⟩
        rw [houts, List.range_succ, List.filter_append]; simp [hp]
      | true =>
        simp only [if_true]
        refine wpAny_mono (H.elt C i ti _ _ _ hlt hp (by rw [hI, ← hCC, hC, ← hD, hI1]; exact Nat.le_succ_of_le (Nat.le_succ _)) (hn₃.keeps hk₄) (by simp) hst₄) (fun y s₅ h₅ => ?_) fun _ _ e => e
        obtain ⟨⟨os, hG, hos⟩, h₅, tk₅, rfl, hk₅⟩ := h₅
        dsimp only at hos hk₅
        have hle : (outs.map fun o => o.2.1).toArray.size ≤ sizeLine := by
          have e1 : outs.length ≤ i := by
            have := congrArg List.length houts
            rw [List.length_map] at this
            rw [this]
            exact Nat.le_trans (List.length_filter_le _ _) (by simp)
          simp only [List.size_toArray, List.length_map]
          unfold sizeLine; omega
        refine wpAny_list_append_plain (hsz := hle) (hpl₃.at fun o e => hk₅ _ o (hk₄ _ o e)) fun h₆ hl₆ hs₆ => ?_
        have live : ∀ b o, h₄.get? b = some o → ∀ q ∈ os, q.1 ≠ b := fun b o e q hq z => by rw [← z, (hos q hq).1] at e; cases e
        refine ⟨n + 1 - (i + 1), by omega, h₆, _, _, i + 1, outs ++ [(i, y, os)], rfl, hs₆.extBut _ _ hID (hk₅ _ _ (hk₄ _ _ hit₃)), by simpa using hl₆, ((hn₃.keeps hk₄).keeps hk₅).sameBut hs₆ (Ne.symm hDC), ?_, ?_, hlt, rfl, ?_⟩
        · rw [List.map_append, houts, List.range_succ, List.filter_append]; simp [hp]
        · intro o ho
          rcases List.mem_append.mp ho with ho | ho
          · exact ⟨(hobj₄ o ho).1, fun q hq => ⟨((hobj₄ o ho).2 q hq).1, ((hobj₄ o ho).2 q hq).2.1, hs₆.extBut _ _ ((hobj₄ o ho).2 q hq).1.2.1 (hk₅ _ _ ((hobj₄ o ho).2 q hq).2.2)⟩⟩
          · rw [List.mem_singleton.mp ho]
            refine ⟨hG, fun q hq => ?_⟩
            have z1 : q.1 ≠ I := live _ _ (hk₄ _ _ hit₃) q hq
            have z2 : q.1 ≠ D := by obtain ⟨_, e⟩ := hpl₃; exact live _ _ (hk₄ _ _ e) q hq
            have z3 : q.1 ≠ C := by obtain ⟨_, _, _, e, _⟩ := hn₃; exact live _ _ (hk₄ _ _ e) q hq
            refine ⟨⟨z1, z2, z3⟩, ?_, hs₆.extBut _ _ z2 (hos q hq).2⟩
            cases e : s₁.heap.get? q.1 with
            | none => rfl
            | some o => exact absurd rfl (live _ _ (hst₄ _ _ e) q hq)
        · exact fun b o e => hs₆.extBut _ _ (hold b o e).2.1 (hk₅ _ _ (hst₄ b o e))
    · have hin : i = n := by omega
      subst hin
      refine W.done _ _ _ hit fun h₂ tk₂ hk₂ => ?_
      obtain ⟨k, hk⟩ := hpl.at (h' := h₂) fun o e => hk₂ _ o (by simpa using Ne.symm hID) e
      refine out D C h₂ _ k m' outs hDs hCs hDC (hns.at' fun o e => hk₂ _ o (by simpa using Ne.symm hIC) e) hk houts (fun o ho => ⟨(hobj o ho).1, fun q hq => ⟨((hobj o ho).2 q hq).1.2, ((hobj o ho).2 q hq).2.1, hk₂ _ _ (by simpa using ((hobj o ho).2 q hq).1.1) ((hobj o ho).2 q hq).2.2⟩⟩) ?_
      exact fun b o e => hk₂ _ _ (by simpa using (hold b o e).1) (hst b o e)
  exact codeAny_compStart_list (loop _ rfl rfl) (W.self 0 _ _ _ hit2 (loop _ rfl rfl))
theorem comp_rangeX {elt iter : PySem.Expr} {x : Str} {px : Pos} {ifs : List PySem.Expr} {scope : Scope} {cl : List (Str × Addr)} {pos : Pos} {Q : Value → Shared → Prop}
    (hh : A.handled = none) (hclos : closureFor scope env = pure cl) (hcell : ∀ y ∈ scope.names, y.2 ≠ .cell) (hkind : scope.kind = .function)
    (hnames : ∀ y ∈ scope.names, y.2 = .local → scope.names.lookup y.1 = some .local) (hx : scope.names.lookup x = some .local)
    (h : wpAny (model prog w) A (eval iter env) (CompRX prog w A env scope cl x ifs elt Q) E s)
    (hs : ∀ x, foldedSetIterable iter env x = pure x) :
    wpAny (model prog w) A (eval (.ListComp elt [⟨.Name x px, iter, ifs, 0⟩] scope pos) env) Q E s := by
  rw [eval_ListComp]
  refine wpAny_comprehension_free (use := none) rfl hs hclos hkind hnames (wpAny_mono h (fun xv s₁ h₁ => ?_) fun _ _ e => e)
  obtain ⟨r, n, p, G, rfl, H⟩ := h₁
  refine block_range (RR := fun acc C => compPost (model prog w) A E none Q acc C) hh hcell hkind hx H.range H.size ⟨H.tests, H.elt⟩ ?_
  intro D C h' tk k m' outs hD hC hDC hns hk houts hobj hst
  refine ⟨m', hns, fun h'' hs'' => ?_⟩
  refine H.out D h'' _ k outs hD (hs''.extBut _ _ hDC hk) houts (fun o ho => ⟨(hobj o ho).1, fun q hq => ⟨((hobj o ho).2 q hq).1.1, ((hobj o ho).2 q hq).2.1, hs''.extBut _ _ ((hobj o ho).2 q hq).1.2 ((hobj o ho).2 q hq).2.2⟩⟩) ?_
  exact fun b o e => hs''.extBut _ _ (fun q => by rw [q, hC] at e; cases e) (hst b o e)
structure CompRA (prog : Program) (w : World) (A : Around) (env : Env) (scope : Scope) (cl : List (Str × Addr)) (x y : Str) (ifs : List PySem.Expr) (elt : PySem.Expr) (Q : Flow → Shared → Prop) (r : Addr) (n : Nat) (p : Nat → Bool) (G : Nat → Value → List (Addr × Obj) → Prop) (m : Str → Option Value) (s₁ : Shared) : Prop where
  range : ∃ t u v, IsRange s₁.heap r 0 (n : Int) 1 t u v
  size : n ≤ 1000
  ns : s₁.heap.Ns env.locals m
  block : BlockR prog w A env scope cl x ifs elt n p G s₁
  out : ∀ D h' tk k (outs : List Out), s₁.heap.get? D = none → h'.get? D = some (listOf (outs.map fun o => o.2.1).toArray k) → outs.map (fun o => o.1) = (List.range n).filter p → (∀ o ∈ outs, G o.1 o.2.1 o.2.2) →
    h'.Ns env.locals (fun z => if z = y then some (.ref D) else m z) → (∀ b o, b ≠ env.locals → s₁.heap.get? b = some o → h'.get? b = some o) → Q .next { s₁ with heap := h', toks := tk }
def CompRAX (prog : Program) (w : World) (A : Around) (env : Env) (scope : Scope) (cl : List (Str × Addr)) (x y : Str) (ifs : List PySem.Expr) (elt : PySem.Expr) (Q : Flow → Shared → Prop) (xv : Value) (s₁ : Shared) : Prop :=
  ∃ r n p G m, xv = .ref r ∧ CompRA prog w A env scope cl x y ifs elt Q r n p G m s₁
theorem assign_rangeX {elt iter : PySem.Expr} {x y : Str} {px py : Pos} {ifs : List PySem.Expr} {scope : Scope} {cl : List (Str × Addr)} {pos spos : Pos} {Q : Flow → Shared → Prop}
    (hsw : swapsWith (.ListComp elt [⟨.Name x px, iter, ifs, 0⟩] scope pos) (some (.Name y py)) spos.line env = pure true)
    (hh : A.handled = none) (hclos : closureFor scope env = pure cl) (hcell : ∀ y ∈ scope.names, y.2 ≠ .cell) (hkind : scope.kind = .function)
    (hnames : ∀ y ∈ scope.names, y.2 = .local → scope.names.lookup y.1 = some .local) (hx : scope.names.lookup x = some .local)
    (hy : env.kindOf y = some .local) (hp : (env.scope.kind == .class || (env.scope.kind == .module && env.locals != env.globals)) = false)
    (h : wpAny (model prog w) A (eval iter env) (CompRAX prog w A env scope cl x y ifs elt Q) E s)
    (hs : ∀ x, foldedSetIterable iter env x = pure x) :
    wpAny (model prog w) A (exec (.Assign [.Name y py] (.ListComp elt [⟨.Name x px, iter, ifs, 0⟩] scope pos) spos) env) Q E s := by
  rw [exec_Assign_Name_used _ _ _ _ hsw]
  refine wpAny_bind (wpAny_standAt (wpAny_bind ?_))
  show wpAny _ A (do let _ ← comprehension (.ListComp elt [⟨.Name x px, iter, ifs, 0⟩] scope pos) scope env _ (newList []) false (eval iter env) (some (assign (.Name y py) env))) _ _ s
  refine wpAny_bind (wpAny_mono (wpAny_comprehension_free (use := some (assign (.Name y py) env)) (Q := fun _ s' => Q .next s') rfl hs hclos hkind hnames (wpAny_mono h (fun xv s₁ h₁ => ?_) fun _ _ e => e))
    (fun _ s' hq => wpAny_pure (wpAny_pure hq)) fun _ _ e => e)
  obtain ⟨r, n, p, G, m, rfl, H⟩ := h₁
  refine block_range (RR := fun acc C => compPost (model prog w) A E (some (assign (.Name y py) env)) (fun _ s' => Q .next s') acc C) hh hcell hkind hx H.range H.size H.block ?_
  intro D C h' tk k m' outs hD hC hDC hnsC hk houts hobj hst
  have hn := H.ns
  have hLC : env.locals ≠ C := by rintro rfl; obtain ⟨o, _, _, ho, _⟩ := hn; rw [hC] at ho; cases ho
  have hLD : env.locals ≠ D := by rintro rfl; obtain ⟨o, _, _, ho, _⟩ := hn; rw [hD] at ho; cases ho
  refine wpAny_assign_Name (wpAny_storeName_local hy (hn.keeps hst) (fun h₂ hn₂ hs₂ => ?_) hp)
  refine ⟨m', hnsC.sameBut hs₂ (Ne.symm hLC), fun h₃ hs₃ => ?_⟩
  refine H.out D h₃ _ k outs hD (hs₃.extBut _ _ hDC (hs₂.extBut _ _ (Ne.symm hLD) hk)) houts (fun o ho => (hobj o ho).1) (hn₂.sameBut hs₃ hLC) fun b o hb e => ?_
  exact hs₃.extBut _ _ (fun q => by rw [q, hC] at e; cases e) (hs₂.extBut _ _ hb (hst b o e))
theorem keep5 {P : Prop} {g h h' : Heap} {L D : Addr} {m m' : Str → Option Value} {news : List (Addr × Obj)} {o : Obj} (F : Fr g L h m) (N : News g L h news) (hn : h'.Ns L m') (hk : ∀ b o, b ≠ L → h.get? b = some o → h'.get? b = some o) (hD : h.get? D = none) (hD' : h'.get? D = some o)
    (k : Fr g L h' m' → News g L h' ((D, o) :: news) → (∀ p ∈ news, p.1 ≠ D) → P) : P := by
  have hLg : ∀ b o, g.get? b = some o → b ≠ L := fun b o e => Nat.ne_of_lt (Nat.lt_of_lt_of_le (Heap.lt_size e) F.above)
  refine k ⟨hn, fun b o e => hk b o (hLg b o e) (F.keep b o e), F.above⟩ (fun q hq => ?_) fun q hq e => ?_
  · rcases List.mem_cons.mp hq with rfl | hq
    · refine ⟨hD', fun e => ?_, ?_⟩
      · obtain ⟨oL, _, _, hL, _⟩ := F.ns
        rw [show D = L from e, hL] at hD; cases hD
      · cases q : g.get? D with
        | none => rfl
        | some o' => rw [F.keep _ _ q] at hD; cases hD
    · have y := N q hq
      exact ⟨hk _ _ y.2.1 y.1, y.2⟩
  · have := (N q hq).1
    rw [e, hD] at this; cases this
end
end Mine
end
section
open PySem PySem.W PySem.Calls PyProof.Rows PySem.Builtin PySem.Builtin.Str
set_option Elab.async false
set_option linter.unusedVariables false
namespace Mine
theorem getD_toArray (l : List Nat) (k : Nat) : l.toArray.getD k 0 = l.getD k 0 := by
  simp [Array.getD_eq_getD_getElem?, List.getD_eq_getElem?_getD]
theorem getD_mem {l : List Nat} {k : Nat} (h : k < l.length) : l.getD k 0 ∈ l := by
  rw [List.getD_eq_getElem?_getD, List.getElem?_eq_getElem h, Option.getD_some]; exact List.getElem_mem h
theorem subs2_none {l r : List Nat} (h : ∀ c ∈ l, 32 ≤ c) : Subs code2 l r 0 l := by
  have := Subs.done (code := code2) (text := l) (repl := r) (pos := 0) (finds2_none fun k _ hk => by
    rw [getD_toArray]
    have := h _ (getD_mem (by simpa using hk))
    omega) (Nat.zero_le _)
  rwa [List.drop_zero] at this
theorem subs1_one {l : List Nat} (hl : l.length ≤ 100000) (h : ∀ c ∈ l, 32 ≤ c) (r : List Nat) : Subs code1 (46 :: l) r 0 (r ++ l) := by
  have hsz : (46 :: l).toArray.size ≤ 2 ^ 40 := by simp; omega
  have f1 : Finds code1 (46 :: l).toArray 0 (some (0, 1)) := finds1_some hsz (Nat.le_refl _) (by
    unfold dotAt bol litOk
    rw [getD_toArray]
    simp) (fun k h1 h2 => absurd h2 (Nat.not_lt_zero _))
  have f2 : Finds code1 (46 :: l).toArray 1 none := finds1_none hsz fun k h1 h2 => by
    unfold dotAt bol
    have hk : (k == 0) = false := by simp; omega
    have hm : (46 :: l).getD (k - 1) 0 ∈ 46 :: l := getD_mem (by simp at h2 ⊢; omega)
    have hne : (46 :: l).getD (k - 1) 0 ≠ 10 := by
      rcases List.mem_cons.mp hm with e | e
      · rw [e]; decide
      · have := h _ e; omega
    rw [getD_toArray, hk, beq_eq_false_iff_ne.mpr hne]
    rfl
  have d := Subs.done (code := code1) (text := 46 :: l) (repl := r) f2 (by simp)
  have s := Subs.step f1 (Nat.le_refl _) (by decide) (by simp) d
  simpa using s
theorem rowL_succ (d p : Nat) : rowL (d + 1) p = 46 :: rowL d p := by
  simp [rowL, List.replicate_succ]
theorem subs1_row {d p : Nat} (hd : d ≤ 1000) (hp : p < 65536) : Subs code1 (rowL (d + 1) p) [46, 46] 0 (rowL (d + 2) p) := by
  have h := subs1_one (l := rowL d p) (by rw [rowL_len]; have := digs_len hp; omega) (fun c hc => (rowL_range d p c hc).1) [46, 46]
  rw [rowL_succ, rowL_succ, rowL_succ]
  exact h
section
variable {prog : Program} {w : World} {A : Around} {E : Value → Shared → Prop} {s : Shared} {Q : Value → Shared → Prop} {a : Addr} {d p : Nat} {t u : Tok} {y : Str}
theorem r_sub2 (P : Pat s.heap a code2) (hy : y = lit [13, 10]) (hd : d ≤ 1000) (hp : p < 65536) (h : ∀ t' h' tk', s.heap.StaysIn h' → Q (.str (row d p) t') { s with heap := h', toks := tk' }) :
    wpAny (model prog w) A (call (.builtin "re.Pattern.sub") [.ref a, .str y u, .str (row d p) t]) Q E s := by
  subst hy
  rw [row_lit] at h ⊢
  have hl := rowL_len d p
  have h5 := digs_len hp
  exact call_sub (by omega) (by decide) P (subs2_none fun c hc => (rowL_range d p c hc).1) (by omega) h
theorem r_sub1 (P : Pat s.heap a code1) (hy : y = lit [46, 46]) (hd0 : 1 ≤ d) (hd : d ≤ 1000) (hp : p < 65536) (h : ∀ t' h' tk', s.heap.StaysIn h' → Q (.str (row (d + 1) p) t') { s with heap := h', toks := tk' }) :
    wpAny (model prog w) A (call (.builtin "re.Pattern.sub") [.ref a, .str y u, .str (row d p) t]) Q E s := by
  subst hy
  rw [row_lit] at h ⊢
  obtain ⟨e, rfl⟩ : ∃ e, d = e + 1 := ⟨d - 1, by omega⟩
  have hl := rowL_len (e + 1) p
  have hl2 : (rowL (e + 2) p).length = _ := rowL_len (e + 2) p
  have h5 := digs_len hp
  exact call_sub (by omega) (by decide) P (subs1_row (by omega) hp) (by omega) h
end
theorem c_dots : Str.ofString ".." = lit [46, 46] := by decide +kernel
end Mine
end
section
open PySem PySem.W PyProof.Rows
namespace Mine
def Mark (K : Params → Frag) (as : List Addr) : Prop := True
theorem use_mark {X : Prop} {K : Params → Frag} {as : List Addr} (_ : Mark K as) (h : X) : X := h
noncomputable def mkK {X : Prop} (K : Params → Frag) (as : List Addr) (f : Mark K as → X → X) : { x : (Params → Frag) × List Addr // X → X } := ⟨(K, as), f trivial⟩
section
local macro_rules | `(tactic| o_head (kHook $k $a $e)) => `(tactic| exact use_mark (K := $k) (as := $a) (by assumption) (by assumption))
set_option maxRecDepth 100000 in
set_option maxHeartbeats 8000000 in
noncomputable def hd : { x : (Params → Frag) × List Addr // PySem.Challenge.rw_tp0022_02.row.Holds → PySem.Challenge.rw_tp0022_02.row.Holds } := by
  refine' mkK _ _ fun hm h => ?_
  rotate_left 2
  k_head
end
end Mine
end
section
open PySem PySem.W PySem.Calls PyProof.Rows
set_option Elab.async false
set_option linter.unusedVariables false
set_option maxRecDepth 100000
namespace Mine
theorem fillK : PySem.Challenge.rw_tp0022_02 = PySem.Challenge.rw_tp0022_02 ∧ hd.heap_1 = hd.heap_1 := by
  k_fill
  exact ⟨rfl, rfl⟩
section
variable {prog : Program} {w : World} {A : Around} {E Q : Value → Shared → Prop} {s : Shared} {h₀ : Heap} {p : Program} {loose : List Str} {mean : ExcName → Option Value} {mg mb : Str → Option Value}
theorem patN {h : Heap} (X : (hd.heap_1 w.params).In h) : Pat h 43 codeN :=
  ⟨_, _, _, _, X _ _ (by k_is), rfl, rfl, rfl, X _ _ (by k_is), by decide +kernel⟩
theorem patV {h : Heap} (X : (hd.heap_1 w.params).In h) : Pat h 48 codeV :=
  ⟨_, _, _, _, X _ _ (by k_is), rfl, rfl, rfl, X _ _ (by k_is), by decide +kernel⟩
theorem pat1 {h : Heap} (X : (hd.heap_1 w.params).In h) : Pat h 224 code1 :=
  ⟨_, _, _, _, X _ _ (by k_is), rfl, rfl, rfl, X _ _ (by k_is), by decide +kernel⟩
theorem pat2 {h : Heap} (X : (hd.heap_1 w.params).In h) : Pat h 229 code2 :=
  ⟨_, _, _, _, X _ _ (by k_is), rfl, rfl, rfl, X _ _ (by k_is), by decide +kernel⟩
local macro_rules | `(tactic| walk_at "m_enter") => `(tactic| (refine' enterH [] ?X ?T ?st (fun _ h => nomatch h) ?ho ?hcd ?room ?bind ?loc ?cell ?c1 ?c2 ?c3 ?_; (case X => assumption); (case T => assumption); (case st => assumption); (case ho => k_is); (case hcd => k_is); (case room => ((try dsimp only); omega)); (case bind => first | exact BindsTo.of_eq rfl | exact binds_K (by exact Frag.In.keeps (by assumption) (by assumption)) rfl (by k_is) rfl rfl rfl); (case loc => exact locs rfl); (case cell => decide); (case c1 => exact rfl); (case c2 => exact rfl); (case c3 => exact rfl)))
local macro_rules | `(tactic| walk_at "m_enterH") => `(tactic| (refine' enterH _ ?X ?T ?st ?hh ?ho ?hcd ?room ?bind ?loc ?cell ?c1 ?c2 ?c3 ?_; (case X => assumption); (case T => assumption); (case st => assumption); (case ho => k_is); (case hcd => k_is); (case room => ((try dsimp only); omega)); (case bind => first | exact BindsTo.of_eq rfl | exact binds_K (by exact Frag.In.keeps (by assumption) (by assumption)) rfl (by k_is) rfl rfl rfl); (case loc => exact locs rfl); (case cell => decide); (case c1 => exact rfl); (case c2 => exact rfl); (case c3 => exact rfl); (case hh => assumption)))
local macro_rules | `(tactic| walk_at "m_kept") => `(tactic| (intro h9 tk9 hs9; (try dsimp only at hs9); refine' keep2 ?F ?N hs9 ?_; (case F => assumption); (case N => assumption); clear hs9; intro F9 N9; (try k_sweep); (try dsimp only)))
local macro_rules | `(tactic| walk_at "m_room") => `(tactic| (first | (simp only [depth_deeper, depth_in1, units_deeper, units_in1, Around.deeper_units, Around.in1_units]; (try dsimp only); omega)))
local macro_rules | `(tactic| walk_at "m_local") => `(tactic| ((try dsimp only); (repeat rw [if_neg (by decide)]); first | assumption | exact if_pos rfl))
theorem ld' {M : Model} {A : Around} {E : Value → Shared → Prop} {s : Shared} {h₀ : Heap} {L a : Addr} {m : Str → Option Value} {cn : Str} {cs : Scope} {ccd : Value} {cl : List (Str × Addr)} {x : Str} {pos : Pos} {v : Value} {Q : Value → Shared → Prop}
    (F : Fr h₀ L s.heap m) (hv : m x = some v) (hx : (envX cn cs L a ccd cl).kindOf x = some .local) (hk : cs.kind = .function) (hd : (x == ("__debug__" : Str)) = false) (h : Q v s) : wpAny M A (eval (.Name x pos) (envX cn cs L a ccd cl)) Q E s := nameX_L F hv h hk hx hd
local macro_rules | `(tactic| walk_at "eval Name") => `(tactic| (k_here; k_dflt (refine' ld' ?k1 ?k2 ?k3 ?k4 ?k5 ?_; (case k1 => k_asm); (case k2 => walk_at "m_local"); (case k3 => rfl); (case k4 => rfl); (case k5 => decide); k_whole)))
local macro_rules | `(tactic| walk_at "getMethod ref") => `(tactic| first | refine get_search (patN (by k_in)) ?_ | refine get_search (patV (by k_in)) ?_)
local macro_rules | `(tactic| walk_at "call builtin:re.Pattern.search") => `(tactic| first | (refine call_search (by omega) (patN (by k_in)) (findsN ?hcl) ?_; (case hcl => assumption)) | (refine call_search (by omega) (patV (by k_in)) (findsV ?hcl) ?_; (case hcl => assumption)))
set_option maxHeartbeats 8000000 in
theorem conv_spec (X : (hd.heap_1 w.params).In h₀) (T : Top p loose mean mg mb h₀) (st : h₀.StaysIn s.heap) {o : Addr} {x : Str} {t : Tok} {b : Bool}
    (hx1 : x.cps.size ≤ 100000) (hx2 : ∀ c ∈ x.cps.toList, 32 ≤ c ∧ c < 127)
    (hdp : A.depth + 20 < recursionLimit) (hun : A.units + 100 < cLine)
    (hret : ∀ h' tk', s.heap.StaysIn h' → Q (.str x t) { s with heap := h', toks := tk' }) :
    wpAny (model prog w) A (call (.ref 70) [.ref o, .str x t] [(Str.ofString "name", .bool b)]) Q E s := by
  obtain ⟨hp, gn, dr, tk, os⟩ := s
  dsimp only at st hret
  refine wpAny_call ?_
  k_dflt walk_at "m_enter"
  intro g L' h₁ F' X' T' st' hg hn hk hL
  dsimp only at hg hk hL ⊢
  have N' := @News.nil g h₁ L'
  k_steps
  all_goals exact hret _ _ (stays_of (by assumption) (by assumption))
local macro_rules | `(tactic| walk_at "call builtin:str.lower") => `(tactic| (refine r_lower (by omega) ?_; intro _ _; (try dsimp only)))
local macro_rules | `(tactic| walk_at "compareOp Eq str str") => `(tactic| (refine r_eq_nm ?_; (try dsimp only)))
local macro_rules | `(tactic| walk_at "call ref") => `(tactic| (refine' conv_spec ?hX ?hT ?h0 ?h1 ?h2 ?h3 ?h4 ?_; (case hT => assumption); (case hX => assumption); (case h0 => exact Fr.keep (by assumption)); (case h1 => exact nm_size _ _); (case h2 => exact nm_range _ (by omega)); (case h3 => walk_at "m_room"); (case h4 => walk_at "m_room"); walk_at "m_kept"))
/-- an entry of a table -/
structure Ent where
  a : Addr
  up : Bool
  i : Nat
  r : Str
  tn : Tok
  tr : Tok
def Ent.obj (e : Ent) : Obj := tupO (.str (nm e.up e.i) e.tn) (.str e.r e.tr)
/-- a table: the Headers, its dict, its list -/
structure Tb where
  o : Addr
  dx : Addr
  hl : Addr
  tk : Tok
  n1 : Nat
  n2 : Nat
  hsh : Int
def tupsOf (es : List Ent) : List (Addr × Obj) := es.map fun e => (e.a, e.obj)
abbrev Tb.news (T : Tb) (es : List Ent) : List (Addr × Obj) := (T.o, instObj 171 T.dx) :: (T.dx, dictOf [⟨T.hsh, .str (Str.ofString "_headers") T.tk, .ref T.hl⟩] T.n1) :: (T.hl, listOf (es.map fun e => Value.ref e.a).toArray T.n2) :: tupsOf es
theorem items_ref {es : List Ent} (j : Nat) (v : Value) (hj : (es.map fun e => Value.ref e.a).toArray[j]? = some v) : ∃ e, es[j]? = some e ∧ v = .ref e.a := by
  rw [List.getElem?_toArray, List.getElem?_map] at hj
  cases q : es[j]? with
  | none => rw [q] at hj; cases hj
  | some e => rw [q] at hj; cases hj; exact ⟨e, rfl, rfl⟩
theorem items_isref {es : List Ent} (j : Nat) (v : Value) (hj : (es.map fun e => Value.ref e.a).toArray[j]? = some v) : ∃ T, v = .ref T := by
  obtain ⟨e, _, h⟩ := items_ref j v hj; exact ⟨_, h⟩
theorem ent_mem {es : List Ent} {j : Nat} {e : Ent} (h : es[j]? = some e) : (e.a, tupO (.str (nm e.up e.i) e.tn) (.str e.r e.tr)) ∈ tupsOf es :=
  List.mem_map.mpr ⟨e, List.mem_of_getElem? h, rfl⟩
theorem find_at {es : List Ent} {i j : Nat} {e : Ent} (h : es[j]? = some e) (hp : ∀ e ∈ es.take j, ¬ e.i = i) (he : e.i = i) : es.find? (fun e => e.i == i) = some e := by
  have hj : j < es.length := by
    cases Nat.lt_or_ge j es.length with
    | inl h => exact h
    | inr h' => rw [List.getElem?_eq_none h'] at h; cases h
  have e1 : es = es.take j ++ e :: es.drop (j + 1) := by
    conv => lhs; rw [← List.take_append_drop j es]
    congr 1
    rw [List.drop_eq_getElem_cons hj]
    rw [List.getElem?_eq_getElem hj] at h
    rw [Option.some.inj h]
  rw [e1, List.find?_append, List.find?_eq_none.mpr (by intro x hx; simpa using hp x hx)]
  simp [he]
theorem find_no {es : List Ent} {i : Nat} (h : ∀ e ∈ es, ¬ e.i = i) : es.find? (fun e => e.i == i) = none :=
  List.find?_eq_none.mpr (by intro x hx; simpa using h x hx)
theorem pre_more {es : List Ent} {i j : Nat} {e : Ent} (h : es[j]? = some e) (hp : ∀ e ∈ es.take j, ¬ e.i = i) (he : ¬ e.i = i) : ∀ e ∈ es.take (j + 1), ¬ e.i = i := by
  intro x hx
  rw [List.take_add_one, h] at hx
  rcases List.mem_append.mp hx with hx | hx
  · exact hp x hx
  · simp at hx; rw [hx]; exact he
set_option maxHeartbeats 8000000 in
theorem get_spec (X : (hd.heap_1 w.params).In h₀) (T : Top p loose mean mg mb h₀) (st : h₀.StaysIn s.heap) {B : Tb} {es : List Ent} {up : Bool} {i : Nat} {ut : Tok}
    (hA : A.handled = none) (hB : ∀ q ∈ B.news es, s.heap.get? q.1 = some q.2) (hoff : ∀ a ∈ (B.news es).map (·.1), h₀.get? a = none)
    (hi : i < 5) (hes : ∀ e ∈ es, e.i < 5)
    (hdp : A.depth + 40 < recursionLimit) (hun : A.units + 200 < cLine)
    (hret : ∀ h' tk', s.heap.StaysIn h' → Q (match es.find? (fun e => e.i == i) with | some e => .str e.r e.tr | none => .none) { s with heap := h', toks := tk' }) :
    wpAny (model prog w) A (call (.ref 118) [.ref B.o, .str (nm up i) ut]) Q E s := by
  obtain ⟨hp, gn, dr, tkk, os⟩ := s
  obtain ⟨hdl, dp, frs, gds, un⟩ := A
  dsimp only at st hret hB hA hdp hun
  subst hA
  refine wpAny_call ?_
  k_dflt walk_at "m_enterH"
  intro g L' h₁ F' X' T' st' hg hn hk hL
  dsimp only at hg hk hL ⊢
  have N' := news_enter hB hn hk hL
  k_steps
  with_reducible rename Fr _ _ _ _ => F0
  with_reducible rename News _ _ _ _ => N0
  generalize hM : (fun y => if y = Str.ofString "name" then _ else _ : Str → Option Value) = M₀ at F0
  obtain ⟨tn, m1⟩ : ∃ tn, M₀ "name" = some (.str (nm false i) tn) := ⟨_, by rw [← hM]; rfl⟩
  have m2 : M₀ "self" = some (.ref B.o) := by rw [← hM]; rfl
  have m3 : M₀ "default" = some .none := by rw [← hM]; rfl
  have m4 : M₀ "k" = none := by rw [← hM]; rfl
  have m5 : M₀ "v" = none := by rw [← hM]; rfl
  clear hM
  refine for_list (g := g) (l := B.hl) (items := (es.map fun e => Value.ref e.a).toArray) (fun k m news => news = B.news es ∧ (∃ kk vv, m = fun y => if y = Str.ofString "v" then vv else if y = Str.ofString "k" then kk else M₀ y) ∧ ∀ e ∈ es.take k, ¬ e.i = i) rfl (go_tuple items_isref) ?hlist ?h ?turn ?done (by intro _; rfl) PassesOwn.never
  case hlist =>
    rintro k m news h ⟨rfl, _⟩ F N
    exact News.isList N (n := B.n2) (.tail _ (.tail _ (.head _)))
  case h =>
    k_steps
    refine LStart.intro (by assumption) (by assumption) ⟨rfl, ⟨none, none, ?_⟩, by simp⟩
    funext y
    split
    · rename_i e; rw [e, m5]
    · split
      · rename_i e; rw [e, m4]
      · rfl
  case turn =>
    rintro I oI j v m news h tk hoI hv ⟨rfl, ⟨kk, vv, rfl⟩, hpre⟩ hoff' F N
    obtain ⟨e, he, rfl⟩ := items_ref j v hv
    refine unpackN_ F N (News.isTup N (.tail _ (.tail _ (.tail _ (.tail _ (ent_mem he)))))) rfl rfl rfl fun h1 F1 N1 => ?_
    have hei := hes e (List.mem_of_getElem? he)
    k_steps
    · -- found
      rename_i hc
      have hf : es.find? (fun e => e.i == i) = some e := find_at he hpre (by simpa using hc)
      rw [hf] at hret
      exact hret _ _ (stays_news hB hg (by assumption) (by assumption) (fun p hp => List.mem_cons_of_mem _ hp))
    · rename_i hc
      refine TurnEnd.next (by assumption) (by assumption) hoff' ⟨rfl, ⟨some (.str (nm e.up e.i) e.tn), some (.str e.r e.tr), ?_⟩, ?_⟩
      · funext y
        split
        · rfl
        · split
          · rfl
          · first | rfl | (rename_i h1 h2; simp [h1, h2])
      · exact pre_more he hpre (by simpa using hc)
  case done =>
    rintro h tk m news ⟨rfl, ⟨kk, vv, rfl⟩, hpre⟩ F N
    k_steps
    have hf : es.find? (fun e => e.i == i) = none := find_no (by simpa using hpre)
    rw [hf] at hret
    exact hret _ _ (stays_news hB hg (by assumption) (by assumption) (fun p hp => hp))
local macro_rules | `(tactic| walk_at "m_i2") => `(tactic| (intro _ _; (try dsimp only)))
local macro_rules | `(tactic| walk_at "subscriptTail Name Slice str ref") => `(tactic| ((with_reducible rename Fr _ _ _ _ => F8); (with_reducible rename News _ _ _ _ => N8); first | (with_unfolding_all refine r_slice3 (s := ⟨_, _, _, _, _⟩) rfl (by omega) F8 N8 ?_) | (with_unfolding_all refine r_sliceM (s := ⟨_, _, _, _, _⟩) (by rfl) (by omega) (by omega) F8 N8 ?_); clear F8 N8; intro _ _ _ F9 N9; (try k_sweep); (try dsimp only)))
local macro_rules | `(tactic| walk_at "call builtin:str.find") => `(tactic| first | (refine r_find5 ?_; walk_at "m_i2") | (refine r_find6 (by omega) ?_; walk_at "m_i2"))
local macro_rules | `(tactic| walk_at "subscriptTail Name BinOp str int") => `(tactic| first | (refine r_item6 (by omega) (by omega) ?_; walk_at "m_i2") | (refine r_itemE (by omega) (by omega) ?_; walk_at "m_i2"))
local macro_rules | `(tactic| walk_at "compareOp NotEq str str") => `(tactic| (refine r_ne_self (by rfl) ?_; (try dsimp only)))
local macro_rules | `(tactic| walk_at "call builtin:str.split") => `(tactic| ((with_reducible rename Fr _ _ _ _ => F8); (with_reducible rename News _ _ _ _ => N8); refine r_split (hp := by omega) F8 N8 ?_; clear F8 N8; intro _ _ _ _ _ _ _ _ F9 N9 l9; (try k_lt l9); (try k_sweep); (try dsimp only)))
local macro_rules | `(tactic| walk_at "call type:int") => `(tactic| (refine r_int (by omega) ?_; walk_at "m_i2"))
set_option maxHeartbeats 8000000 in
theorem parse_spec (X : (hd.heap_1 w.params).In h₀) (T : Top p loose mean mg mb h₀) (st : h₀.StaysIn s.heap) {q : Addr} {port : Nat} {t ut tn : Tok} {x : Str}
    (hA : A.handled = none) (hq : s.heap.get? q = some (tupO (.str x tn) (.int 21 ut))) (hoff : h₀.get? q = none) (hp : port < 65536)
    (hdp : A.depth + 20 < recursionLimit) (hun : A.units + 100 < cLine)
    (hret : ∀ r u h' tk', s.heap.StaysIn h' → s.heap.get? r = none → h'.get? r = some (tupO (.str x tn) (.int (port : Int) u)) → Q (.ref r) { s with heap := h', toks := tk' }) :
    wpAny (model prog w) A (call (.ref 219) [.str (reply port) t, .ref q]) Q E s := by
  obtain ⟨hp, gn, dr, tkk, os⟩ := s
  obtain ⟨hdl, dp, frs, gds, un⟩ := A
  dsimp only at st hret hq hA hdp hun
  subst hA
  have hB : ∀ z ∈ [(q, tupO (.str x tn) (.int 21 ut))], hp.get? z.1 = some z.2 := by simpa using hq
  have hoff' : ∀ a ∈ ([(q, tupO (.str x tn) (.int 21 ut))] : List (Addr × Obj)).map (·.1), h₀.get? a = none := by simpa using hoff
  refine wpAny_call ?_
  k_dflt walk_at "m_enterH"
  intro g L' h₁ F' X' T' st' hg hn hk hL
  dsimp only at hg hk hL ⊢
  have N' := news_enter hB hn hk hL
  k_steps
  with_reducible rename News _ _ _ _ => NE
  refine hret _ _ _ _ (stays_news hB hg (by assumption) NE (by simp)) (fresh_of hg (NE _ (List.mem_cons_self ..)).2.2 ?_) (NE _ (List.mem_cons_self ..)).1
  simp only [List.map_cons, List.map_nil, List.mem_singleton]
  exact neN (by omega)
local macro_rules | `(tactic| walk_at "getMethod ref") => `(tactic| first | refine get_sub (pat1 (by k_in)) ?_ | refine get_sub (pat2 (by k_in)) ?_)
local macro_rules | `(tactic| walk_at "call builtin:re.Pattern.sub") => `(tactic| first | (refine r_sub2 (pat2 (by k_in)) (by rfl) (by omega) (by omega) ?_; intro _; walk_at "m_kept") | (refine r_sub1 (pat1 (by k_in)) (by exact c_dots) (by omega) (by omega) (by omega) ?_; intro _; walk_at "m_kept"))
set_option maxHeartbeats 8000000 in
theorem quote_spec (X : (hd.heap_1 w.params).In h₀) (T : Top p loose mean mg mb h₀) (st : h₀.StaysIn s.heap) {d port : Nat} {t : Tok}
    (hA : A.handled = none) (hd0 : 1 ≤ d) (hd : d ≤ 999) (hp : port < 65536)
    (hdp : A.depth + 20 < recursionLimit) (hun : A.units + 100 < cLine)
    (hret : ∀ u h' tk', s.heap.StaysIn h' → Q (.str (row (d + 1) port) u) { s with heap := h', toks := tk' }) :
    wpAny (model prog w) A (call (.ref 236) [.str (row d port) t]) Q E s := by
  obtain ⟨hp, gn, dr, tkk, os⟩ := s
  obtain ⟨hdl, dp, frs, gds, un⟩ := A
  dsimp only at st hret hA hdp hun
  subst hA
  refine wpAny_call ?_
  k_dflt walk_at "m_enter"
  intro g L' h₁ F' X' T' st' hg hn hk hL
  dsimp only at hg hk hL ⊢
  have N' := @News.nil g h₁ L'
  k_steps
  exact hret _ _ _ (stays_of hg (by assumption))
set_option maxHeartbeats 8000000 in
theorem items_spec (X : (hd.heap_1 w.params).In h₀) (T : Top p loose mean mg mb h₀) (st : h₀.StaysIn s.heap) {B : Tb} {es : List Ent}
    (hA : A.handled = none) (hB : ∀ q ∈ B.news es, s.heap.get? q.1 = some q.2) (hoff : ∀ a ∈ (B.news es).map (·.1), h₀.get? a = none) (hes : es.length ≤ 1000)
    (hdp : A.depth + 20 < recursionLimit) (hun : A.units + 100 < cLine)
    (hret : ∀ r h' tk', s.heap.StaysIn h' → s.heap.get? r = none → h'.get? r = some (listOf (es.map fun e => Value.ref e.a).toArray 0) → Q (.ref r) { s with heap := h', toks := tk' }) :
    wpAny (model prog w) A (call (.ref 135) [.ref B.o]) Q E s := by
  obtain ⟨hp, gn, dr, tkk, os⟩ := s
  obtain ⟨hdl, dp, frs, gds, un⟩ := A
  dsimp only at st hret hB hA hdp hun
  subst hA
  refine wpAny_call ?_
  k_dflt walk_at "m_enterH"
  intro g L' h₁ F' X' T' st' hg hn hk hL
  dsimp only at hg hk hL ⊢
  have N' := news_enter hB hn hk hL
  k_steps
  with_reducible rename News _ _ _ _ => NE
  dsimp only at NE ⊢
  rw [slicePick_all] at NE
  refine hret _ _ _ (stays_news hB hg (by assumption) NE (fun z hz => List.mem_cons_of_mem _ hz)) (fresh_of hg (NE _ (List.mem_cons_self ..)).2.2 ?_) (NE _ (List.mem_cons_self ..)).1
  intro hm
  obtain ⟨z, hz, e⟩ := List.mem_map.mp hm
  have := Heap.lt_size (hk _ _ (hB z hz))
  rw [e] at this
  exact absurd this (ltN' (by omega))
theorem news_tab {g h : Heap} {L : Addr} {news tab : List (Addr × Obj)} (N : News g L h news) (hs : ∀ q ∈ tab, q ∈ news) : ∀ q ∈ tab, h.get? q.1 = some q.2 := fun q hq => (N q (hs q hq)).1
theorem news_off {g h : Heap} {L : Addr} {news tab : List (Addr × Obj)} (N : News g L h news) (hs : ∀ q ∈ tab, q ∈ news) : ∀ a ∈ tab.map (·.1), g.get? a = none := fun a ha => by
  obtain ⟨q, hq, rfl⟩ := List.mem_map.mp ha
  exact (N q (hs q hq)).2.2
local macro_rules | `(tactic| walk_at "m_in") => `(tactic| (intro q hq; with_reducible first | exact hq | exact List.mem_cons_of_mem _ hq | exact List.mem_cons_of_mem _ (List.mem_cons_of_mem _ hq) | exact List.mem_cons_of_mem _ (List.mem_cons_of_mem _ (List.mem_cons_of_mem _ hq)) | exact List.mem_cons_of_mem _ (List.mem_cons_of_mem _ (List.mem_cons_of_mem _ (List.mem_cons_of_mem _ hq))) | exact List.mem_cons_of_mem _ (List.mem_cons_of_mem _ (List.mem_cons_of_mem _ (List.mem_cons_of_mem _ (List.mem_cons_of_mem _ hq))))))
local macro_rules | `(tactic| walk_at "m_fact") => `(tactic| ((try dsimp only); (repeat rw [if_neg (by decide)]); assumption))
local macro_rules | `(tactic| walk_at "m_tab") => `(tactic| (refine news_tab (by assumption) ?_; walk_at "m_in"))
local macro_rules | `(tactic| walk_at "m_off") => `(tactic| (refine news_off (by assumption) ?_; walk_at "m_in"))
local macro_rules | `(tactic| k_all) => `(tactic| with_reducible assumption)
local macro_rules | `(tactic| walk_at "m_kept3") => `(tactic| (refine' keep3 ?F ?N (by assumption) (by assumption) (by assumption) ?_; (case F => assumption); (case N => assumption); intro F9 N9 ne9; (try (replace ne9 := allNe_of ne9; simp only [AllNe, and_true] at ne9)); (try k_sweep); (try dsimp only)))
local macro_rules | `(tactic| walk_at "call builtin:str.lstrip") => `(tactic| (refine r_lstrip (by omega) (by omega) ?_; walk_at "m_i2"))
local macro_rules | `(tactic| walk_at "call builtin:str.index") => `(tactic| (refine r_index (by omega) (by rfl) ?_; walk_at "m_i2"))
local macro_rules | `(tactic| walk_at "call ref") => `(tactic| (refine' parse_spec ?hX ?hT ?h0 ?hA ?hq ?hoff ?hp ?h3 ?h4 ?_; (case hT => assumption); (case hX => assumption); (case h0 => exact Fr.keep (by assumption)); (case hA => exact rfl); (case hq => exact News.get (by assumption) (by k_mem)); (case hoff => exact News.fresh (by assumption) (by k_mem)); (case hp => omega); (case h3 => walk_at "m_room"); (case h4 => walk_at "m_room"); intro r9 u9 h9 tk9 hs9 hf9 hr9; (try dsimp only at hs9 hf9 hr9); walk_at "m_kept3"))
theorem r_lenRow {Q : Value → Shared → Prop} {d p : Nat} {t : Tok} (hd : d ≤ 1000) (hp : p < 65536) (h : ∀ t' k, Q (.int ((d + 11 + (digs p).length : Nat) : Int) t') { s with toks := k }) : wpAny (model prog w) A (call (.builtin "len") [.str (row d p) t]) Q E s := by
  have e := row_len d p
  have hd5 := digs_len hp
  refine PyProof.Rows.len_str (by rw [e]; omega) ?_
  rw [e]; exact h _ _
theorem r_lenReply {Q : Value → Shared → Prop} {p : Nat} {t : Tok} (hp : p < 65536) (h : ∀ t' k, Q (.int ((11 + (digs p).length : Nat) : Int) t') { s with toks := k }) : wpAny (model prog w) A (call (.builtin "len") [.str (reply p) t]) Q E s := by
  have e := reply_len p
  have hd5 := digs_len hp
  refine PyProof.Rows.len_str (by rw [e]; omega) ?_
  rw [e]; exact h _ _
local macro_rules | `(tactic| walk_at "call builtin:len") => `(tactic| ((first | refine r_lenRow (by omega) (by omega) ?_ | refine r_lenReply (by omega) ?_); walk_at "m_i2"))
/-- the row of a letter -/
def stOf (K : Nat) (D P : Nat → Nat) (i : Nat) : Int := (((P i + D i) % K : Nat) : Int)
theorem st_eq (K : Nat) (D P : Nat → Nat) (i x : Nat) : (((P i : Nat) : Int) + ((D i + 11 + x : Nat) : Int) - ((11 + x : Nat) : Int)).fmod (K : Int) = stOf K D P i := by
  unfold stOf
  rw [show (((P i : Nat) : Int) + ((D i + 11 + x : Nat) : Int) - ((11 + x : Nat) : Int)) = ((P i + D i : Nat) : Int) by omega]
  rw [Int.fmod_eq_emod_of_nonneg _ (Int.natCast_nonneg K)]
  rfl
theorem news_sub {g h : Heap} {L : Addr} {news tab : List (Addr × Obj)} (N : News g L h news) (hs : ∀ q ∈ tab, q ∈ news) : News g L h tab := fun q hq => N q (hs q hq)
set_option maxHeartbeats 8000000 in
theorem states_spec (X : (hd.heap_1 w.params).In h₀) (T : Top p loose mean mg mb h₀) (st : h₀.StaysIn s.heap) {B : Tb} {es : List Ent} {K : Nat} {uk : Tok} {D P : Nat → Nat}
    (hA : A.handled = none) (hB : ∀ q ∈ B.news es, s.heap.get? q.1 = some q.2) (hoff : ∀ a ∈ (B.news es).map (·.1), h₀.get? a = none) (hlen : es.length ≤ 1000)
    (hes : ∀ e ∈ es, e.i < 4 ∧ e.r = row (D e.i) (P e.i) ∧ D e.i ≤ 999 ∧ P e.i < 65536) (hK0 : 0 < K) (hK : K < 1000000)
    (hdp : A.depth + 60 < recursionLimit) (hun : A.units + 300 < cLine)
    (hret : ∀ r vs n h' tk', s.heap.StaysIn h' → s.heap.get? r = none → h'.get? r = some (listOf (List.toArray vs) n) → IntsAre vs (es.foldl (fun ns e => ns.set e.i (stOf K D P e.i)) [0, 0, 0, 0]) → Q (.ref r) { s with heap := h', toks := tk' }) :
    wpAny (model prog w) A (call (.ref 250) [.ref B.o, .int (K : Int) uk]) Q E s := by
  obtain ⟨hp, gn, dr, tkk, os⟩ := s
  obtain ⟨hdl, dp, frs, gds, un⟩ := A
  dsimp only at st hret hB hA hdp hun
  subst hA
  refine wpAny_call ?_
  k_dflt walk_at "m_enterH"
  intro g L' h₁ F' X' T' st' hg hn hk hL
  dsimp only at hg hk hL ⊢
  have N' := news_enter hB hn hk hL
  k_steps
  refine for_listX (g := g) rfl ?_ (by intro _; rfl) PassesOwn.never
  k_steps
  refine' items_spec (B := B) (es := es) ?hX ?hT ?h0 ?hA ?hB ?hoff ?hes ?h3 ?h4 ?_
  case hT => assumption
  case hX => assumption
  case h0 => exact Fr.keep (by assumption)
  case hA => exact rfl
  case hB => walk_at "m_tab"
  case hoff => walk_at "m_off"
  case hes => omega
  case h3 => walk_at "m_room"
  case h4 => walk_at "m_room"
  intro r9 h9 tk9 hs9 hf9 hr9
  try dsimp only at hs9 hf9 hr9
  walk_at "m_kept3"
  k_steps
  with_reducible rename Fr _ _ _ _ => F0
  with_reducible rename News _ _ _ _ => N0
  generalize hM : (fun y => if y = Str.ofString "states" then _ else _ : Str → Option Value) = M₀ at F0
  obtain ⟨sl, t1, t2, t3, t4, m1, N1, hsl, hr9⟩ : ∃ sl t1 t2 t3 t4, M₀ "states" = some (.ref sl) ∧ News g L' h9 ((r9, listOf (es.map fun e => Value.ref e.a).toArray 0) :: (sl, listOf (List.toArray [.int 0 t1, .int 0 t2, .int 0 t3, .int 0 t4]) 0) :: B.news es) ∧ (∀ p ∈ B.news es, p.1 ≠ sl) ∧ @Ne Nat sl r9 :=
    ⟨_, _, _, _, _, by rw [← hM]; rfl, N0, allLt_ne (l := B.news es) (by assumption), by k_ne⟩
  have m2 : M₀ "size" = some (.int K uk) := by rw [← hM]; rfl
  clear hM N0
  refine ⟨r9, (es.map fun e => Value.ref e.a).toArray, fun k m news => m "states" = some (.ref sl) ∧ m "size" = some (.int K uk) ∧ ∃ vs n, news = (r9, listOf (es.map fun e => Value.ref e.a).toArray 0) :: (sl, listOf (List.toArray vs) n) :: B.news es ∧ IntsAre vs ((es.take k).foldl (fun ns e => ns.set e.i (stOf K D P e.i)) [0, 0, 0, 0]), rfl, ⟨rfl, ⟨_, _, F0, N1, m1, m2, _, _, rfl, ?_⟩, go_tuple items_isref, ?hlist, ?turn, ?done⟩⟩
  · exact .cons _ _ (.cons _ _ (.cons _ _ (.cons _ _ .nil)))
  case hlist =>
    rintro k m news h ⟨_, _, vs, n, rfl, _⟩ F N
    exact News.isList N (n := 0) (.head _)
  case turn =>
    rintro I oI j v m news h tk hoI hv ⟨m1, m2, vs, n, rfl, hvs⟩ hoff' F N
    obtain ⟨e, he, rfl⟩ := items_ref j v hv
    refine unpackN_ F N (News.isTup N (.tail _ (.tail _ (.tail _ (.tail _ (.tail _ (.tail _ (ent_mem he)))))))) rfl rfl rfl fun h1 F1 N1 => ?_
    obtain ⟨hi, hr, hD, hP⟩ := hes e (List.mem_of_getElem? he)
    have hfold : (es.take (j + 1)).foldl (fun ns e => ns.set e.i (stOf K D P e.i)) [0, 0, 0, 0] = ((es.take j).foldl (fun ns e => ns.set e.i (stOf K D P e.i)) [0, 0, 0, 0]).set e.i (stOf K D P e.i) := by
      rw [List.take_add_one, he, List.foldl_append]; rfl
    have hns4 : ((es.take j).foldl (fun ns e => ns.set e.i (stOf K D P e.i)) [0, 0, 0, 0]).length = 4 := by
      suffices hh : ∀ (l : List Ent) (ns : List Int), ns.length = 4 → (l.foldl (fun ns e => ns.set e.i (stOf K D P e.i)) ns).length = 4 from hh _ _ rfl
      intro l; induction l with
      | nil => intro ns h; exact h
      | cons a r ih => intro ns h; exact ih _ (by rw [List.length_set]; exact h)
    generalize (es.take j).foldl (fun ns e => ns.set e.i (stOf K D P e.i)) [0, 0, 0, 0] = ns at hvs hfold hns4
    obtain ⟨ea, up, i, r, tn, tr⟩ := e
    dsimp only at hi hr hD hP hfold F1 N1
    subst hr
    have ho := allNe_of hoff'
    simp only [AllNe] at ho
    k_steps
    with_reducible rename News _ _ _ _ => N9
    have hv9 := ‹IntsAre (vs.set _ _) _›
    rw [st_eq, Int.toNat_natCast] at hv9 N9
    refine TurnEnd.next (by assumption) (news_sub N9 (fun q hq => .tail _ (.tail _ hq))) ?_ ⟨?_, ?_, _, _, rfl, ?_⟩
    · rintro q hq
      rcases List.mem_cons.mp hq with rfl | hq
      · exact hoff' _ (.head _)
      · rcases List.mem_cons.mp hq with rfl | hq
        · exact ho.2.1
        · exact hoff' _ (.tail _ (.tail _ hq))
    · walk_at "m_fact"
    · walk_at "m_fact"
    · rw [hfold]; exact hv9
  case done =>
    rintro h tk m news ⟨m1, m2, vs, n, rfl, hvs⟩ F N
    k_steps
    refine hret _ vs n _ _ (stays_news hB hg F N (by walk_at "m_in")) (fresh_of hg (N _ (.tail _ (.head _))).2.2 ?_) (N _ (.tail _ (.head _))).1 ?_
    · intro hm
      obtain ⟨q, hq, e⟩ := List.mem_map.mp hm
      exact hsl q hq e
    · simpa using hvs
local macro_rules | `(tactic| walk_at "call ref") => `(tactic| (refine' items_spec ?hX ?hT ?h0 ?hA ?hB ?hoff ?hes ?h3 ?h4 ?_; (case hT => assumption); (case hX => assumption); (case h0 => exact Fr.keep (by assumption)); (case hA => exact rfl); (case hB => walk_at "m_tab"); (case hoff => walk_at "m_off"); (case hes => omega); (case h3 => walk_at "m_room"); (case h4 => walk_at "m_room"); intro r9 h9 tk9 hs9 hf9 hr9; (try dsimp only at hs9 hf9 hr9); walk_at "m_kept3"))
local macro_rules | `(tactic| walk_at "binaryOp Mult int str") => `(tactic| (first | refine r_mul3 (by rfl) ?_ | refine r_mul (by first | rfl | exact c_dot) (by omega) ?_; intro _ _; (try dsimp only)))
local macro_rules | `(tactic| walk_at "binaryOp Add str str") => `(tactic| (refine r_add (by first | rfl | exact c_229x | exact c_close) (by first | rfl | exact c_229x | exact c_close) ?_ ?_; rotate_left; intro _ _; (try dsimp only)))
local macro_rules | `(tactic| walk_at "subscriptTail") => `(tactic| (refine r_mark ?_; intro _ _; (try dsimp only)))
local macro_rules | `(tactic| walk_at "call type:str") => `(tactic| (refine r_str (by omega) ?_; intro _ _; (try dsimp only)))
set_option maxHeartbeats 8000000 in
theorem row_spec (X : (hd.heap_1 w.params).In h₀) (T : Top p loose mean mg mb h₀) (st : h₀.StaysIn s.heap) {port dots : Nat} {tp td : Tok}
    (hA : A.handled = none) (h1 : port < 65536) (h2 : dots < 1000)
    (hdp : A.depth + 20 < recursionLimit) (hun : A.units + 100 < cLine)
    (hret : ∀ t h' tk', s.heap.StaysIn h' → Q (.str (row dots port) t) { s with heap := h', toks := tk' }) :
    wpAny (model prog w) A (call (.ref 243) [.int port tp, .int dots td]) Q E s := by
  obtain ⟨hp, gn, dr, tkk, os⟩ := s
  obtain ⟨hdl, dp, frs, gds, un⟩ := A
  dsimp only at st hret hA hdp hun
  subst hA
  refine wpAny_call ?_
  k_dflt walk_at "m_enter"
  intro g L' h₁ F' X' T' st' hg hn hk hL
  dsimp only at hg hk hL ⊢
  have N' := @News.nil g h₁ L'
  have hd5 := digs_len h1
  k_steps
  · rw [row_lit] at hret
    have e : List.replicate dots 46 ++ [50, 50, 57, 32, 120, 40] ++ [mk port, mk port, mk port] ++ digs port ++ [mk port] ++ [41] = rowL dots port := by simp [rowL, replyL, List.append_assoc]
    rw [e]
    exact hret _ _ _ (stays_of hg (by assumption))
  all_goals (simp only [List.length_append, List.length_replicate, List.length_cons, List.length_nil]; omega)
local macro_rules | `(tactic| walk_at "m_enterC") => `(tactic| (refine' enterC _ ?X ?T ?st ?ht ?hh ?ho ?hcd ?room ?bind ?kind ?nd ?c1 ?c2 ?c3 ?_; (case X => assumption); (case T => assumption); (case st => assumption); (case ht => assumption); (case ho => k_is); (case hcd => k_is); (case room => ((try dsimp only); omega)); (case bind => first | exact BindsTo.of_eq rfl | exact binds_K (by exact Frag.In.keeps (by assumption) (by assumption)) rfl (by k_is) rfl rfl rfl); (case kind => exact rfl); (case nd => decide +kernel); (case c1 => exact rfl); (case c2 => exact rfl); (case c3 => exact rfl); (case hh => assumption)))
def Stop (P : Prop) : Prop := P
theorem stop_ {P : Prop} (h : Stop P) : P := h
local macro_rules | `(tactic| walk_at "eval ListComp") => `(tactic| refine stop_ ?_)
local macro_rules | `(tactic| walk_at "compareOp NotEq str str") => `(tactic| (refine r_ne_nm ?_; (try dsimp only)))
theorem nm_same {u v : Bool} {i j : Nat} (hi : i < 5) (hj : j < 5) (h : nm u i = nm v j) : i = j := by
  have h1 : Txt.lower (nm u i) = Txt.lower (nm v j) := by rw [h]
  rw [nm_lower u hi, nm_lower v hj] at h1
  have h2 := @nm_inj i j
  rw [h1] at h2
  simpa using h2
theorem paired_eq : ∀ {l1 l2 : List Value}, Paired (fun v y => y = v) l1 l2 → l2 = l1
  | _, _, .nil => rfl
  | _, _, .cons h t => by rw [h, paired_eq t]
theorem del_any {es : List Ent} {i : Nat} (hnm : ∀ e ∈ es, ∀ e' ∈ es, e.a = e'.a → e.i = e'.i) {e : Ent} (he : e ∈ es) : (es.any fun e' => Value.ref e.a == Value.ref e'.a && e'.i != i) = (e.i != i) := by
  rw [Bool.eq_iff_iff]
  simp only [List.any_eq_true, Bool.and_eq_true, beq_iff_eq, Value.ref.injEq, bne_iff_ne, ne_eq]
  exact ⟨fun ⟨e', he', h1, h2⟩ => by rw [hnm e he e' he' h1]; exact h2, fun h => ⟨e, he, rfl, h⟩⟩
theorem del_filter {es : List Ent} {i : Nat} (hnm : ∀ e ∈ es, ∀ e' ∈ es, e.a = e'.a → e.i = e'.i) : ((es.map fun e => Value.ref e.a).filter fun v => es.any fun e' => v == Value.ref e'.a && e'.i != i) = (es.filter fun e => e.i != i).map fun e => Value.ref e.a := by
  rw [List.filter_map]
  congr 1
  exact List.filter_congr fun e he => del_any hnm he
set_option maxHeartbeats 8000000 in
theorem del_spec (X : (hd.heap_1 w.params).In h₀) (T : Top p loose mean mg mb h₀) (st : h₀.StaysIn s.heap) {B : Tb} {es : List Ent} {up : Bool} {i : Nat} {ut : Tok}
    (hA : A.handled = none) (hB : ∀ q ∈ B.news es, s.heap.get? q.1 = some q.2) (hoff : ∀ a ∈ (B.news es).map (·.1), h₀.get? a = none)
    (hi : i < 5) (hes : ∀ e ∈ es, e.i < 5) (hlen : es.length ≤ 1000)
    (hdp : A.depth + 40 < recursionLimit) (hun : A.units + 200 < cLine)
    (hret : ∀ h' tk' n2, (∀ b o, b ≠ B.hl → s.heap.get? b = some o → h'.get? b = some o) → h'.get? B.hl = some (listOf ((es.filter fun e => e.i != i).map fun e => Value.ref e.a).toArray n2) → Q .none { s with heap := h', toks := tk' }) :
    wpAny (model prog w) A (call (.ref 89) [.ref B.o, .str (nm up i) ut]) Q E s := by
  obtain ⟨hp, gn, dr, tkk, os⟩ := s
  obtain ⟨hdl, dp, frs, gds, un⟩ := A
  dsimp only at st hret hB hA hdp hun
  subst hA
  refine wpAny_call ?_
  k_dflt walk_at "m_enterC"
  intro g L' h₁ tk₁ cells F' X' T' st' hg hn hk hL N' Y' hlt
  have hlt' : AllLt L' (B.news es) := allLt_of hlt
  simp only [AllLt] at hlt'
  have hLc : ∀ p ∈ B.news es, p.1 ≠ L' + 1 := fun q hq => Nat.ne_of_lt (Nat.lt_succ_of_lt (hlt q hq))
  k_cells Y'
  (try simp only [List.cons_append, List.nil_append] at N')
  dsimp only at hg hk hL ⊢
  k_steps
  unfold Stop
  refine' comp_list ?hh ?hclos ?hcell ?hkind ?hnames ?hx ?_ ?hs
  case hs => intro _; rfl
  case hh => exact rfl
  case hclos => with_unfolding_all rfl
  case hcell => decide
  case hkind => rfl
  case hnames => decide
  case hx => rfl
  k_steps
  with_reducible rename Fr _ _ _ _ => F0
  with_reducible rename News _ _ _ _ => N0
  generalize hM : (bindL _ _ _ : Str → Option Value) = M₀ at F0
  have m1 : M₀ "self" = some (.ref B.o) := by rw [← hM]; rfl
  clear hM
  have hnm : ∀ e ∈ es, ∀ e' ∈ es, e.a = e'.a → e.i = e'.i := fun e he e' he' h => by
    have h1 := hB _ (List.mem_cons_of_mem _ (List.mem_cons_of_mem _ (List.mem_cons_of_mem _ (List.mem_map.mpr ⟨e, he, rfl⟩))))
    have h2 := hB _ (List.mem_cons_of_mem _ (List.mem_cons_of_mem _ (List.mem_cons_of_mem _ (List.mem_map.mpr ⟨e', he', rfl⟩))))
    dsimp only at h1 h2
    rw [h, h2] at h1
    have h3 := Option.some.inj h1
    unfold Ent.obj at h3
    simp at h3
    exact nm_same (hes e he) (hes e' he') h3.1.1.symm
  refine ⟨B.hl, _, fun v => es.any fun e => v == .ref e.a && e.i != i, fun v y => y = v, rfl, ⟨News.isList N0 (n := B.n2) (.tail _ (.tail _ (.tail _ (.head _)))), by simp; unfold sizeLine; omega, ?tests, ?elt, ?out⟩⟩
  case tests =>
    intro C v s₃ m₃ E' hv hC hn₃ hm₃ hk₃
    dsimp only at hk₃
    obtain ⟨e, he, rfl⟩ : ∃ e ∈ es, v = .ref e.a := by simpa [eq_comm] using hv
    obtain ⟨h₃, g₃, d₃, t₃, o₃⟩ := s₃
    dsimp only at hn₃ hk₃ ⊢
    have F3 := F0.keeps hk₃
    have N3 : News g L' h₃ ((e.a, tupO (.str (nm e.up e.i) e.tn) (.str e.r e.tr)) :: (L' + 1, _) :: B.news es) := fun q hq => by
      rcases List.mem_cons.mp hq with rfl | hq
      · exact N0.grown hk₃ _ (.tail _ (.tail _ (.tail _ (.tail _ (List.mem_map.mpr ⟨e, he, rfl⟩)))))
      · exact N0.grown hk₃ q hq
    have hei := hes e he
    have hany := del_any (i := i) hnm he
    rw [hany]
    clear F0 N0
    refine wpAny_tests_one ?_
    k_steps
    · by_cases h : e.i = i <;> simp [h]
    · exact ⟨_, _, rfl, fun _ _ e => e⟩
  case elt =>
    intro C v s₃ m₃ E' hv hp hC hn₃ hm₃ hk₃
    obtain ⟨h₃, g₃, d₃, t₃, o₃⟩ := s₃
    dsimp only at hn₃ hk₃ ⊢
    have F3 := F0.keeps hk₃
    have N3 := N0.grown hk₃
    clear F0 N0
    k_steps
    exact ⟨_, _, rfl, fun _ _ e => e⟩
  case out =>
    intro D h' tk ys n hD hD' hP hk'
    dsimp only at hD hk' ⊢
    have hDl : B.hl ≠ D := fun e => by
      have h1 := (N0 _ (.tail _ (.tail _ (.tail _ (.head _))))).1
      dsimp only at h1
      rw [e, hD] at h1; cases h1
    refine keep3 F0 N0 hk' hD hD' fun F3 N3 ne3 => ?_
    clear F0 N0
    k_steps
    · dsimp only
      have hlen2 : ys.toList = (es.filter fun e => e.i != i).map fun e => Value.ref e.a := by rw [paired_eq hP]; exact del_filter hnm
      have hsz2 : ys.size ≤ 1000 := by
        have h1 : ys.toList.length ≤ es.length := by rw [hlen2, List.length_map]; exact List.length_filter_le _ _
        rw [Array.length_toList] at h1; omega
      with_reducible rename News _ _ _ _ => N4
      with_reducible rename Fr _ _ _ _ => F4
      refine set_all (n := B.n2) (its := (es.map fun e => Value.ref e.a).toArray) (new := ys) (n' := n) ?_ (Heap.IsSliceOf.new ..) ?_ hDl (by simp; omega) hsz2 fun h'' m hs'' hl'' => ?_
      · exact Heap.get?_push_of_some _ (News.get N4 (by k_mem))
      · exact Heap.get?_push_of_some _ hD'
      k_steps
      rw [show ys = ((es.filter fun e => e.i != i).map fun e => Value.ref e.a).toArray by rw [← hlen2]] at hl''
      refine hret _ _ m (fun b o hb e => hs''.extBut b o hb (Heap.get?_push_of_some _ (stays_news hB hg F4 N4 (by walk_at "m_in") b o e))) hl''
local macro_rules | `(tactic| walk_at "call ref") => `(tactic| (refine' conv_spec ?hX ?hT ?h0 ?h1 ?h2 ?h3 ?h4 ?_; (case hT => assumption); (case hX => assumption); (case h0 => exact Fr.keep (by assumption)); (case h1 => exact row_size (by omega) (by omega)); (case h2 => exact row_range _ _); (case h3 => walk_at "m_room"); (case h4 => walk_at "m_room"); walk_at "m_kept"))
theorem keep4 {P : Prop} {g h h' : Heap} {L D : Addr} {m : Str → Option Value} {o o' : Obj} {news news' : List (Addr × Obj)} (F : Fr g L h m) (N : News g L h news) (U : Upd D o o' news news')
    (hk : ∀ b o, b ≠ D → h.get? b = some o → h'.get? b = some o) (hr : h'.get? D = some o') (k : Fr g L h' m → News g L h' news' → P) : P := by
  obtain ⟨pre, post, rfl, rfl, a, b⟩ := U.split
  have z := N (D, o) (List.mem_append.mpr (.inr (.head _)))
  have hgD : ∀ b o, g.get? b = some o → b ≠ D := fun b o e q => by rw [q, z.2.2] at e; cases e
  refine k ⟨F.ns.at' fun o e => hk _ o (Ne.symm z.2.1) e, fun b o e => hk b o (hgD b o e) (F.keep b o e), F.above⟩ fun q hq => ?_
  rcases List.mem_append.mp hq with hq' | hq'
  · have y := N q (List.mem_append.mpr (.inl hq'))
    exact ⟨hk _ _ (a q hq') y.1, y.2⟩
  · rcases List.mem_cons.mp hq' with rfl | hq'
    · exact ⟨hr, z.2⟩
    · have y := N q (List.mem_append.mpr (.inr (.tail _ hq')))
      exact ⟨hk _ _ (b q hq') y.1, y.2⟩
theorem tab_ne {h : Heap} {B : Tb} {es : List Ent} (hB : ∀ q ∈ B.news es, h.get? q.1 = some q.2) : @Ne Nat B.o B.hl ∧ @Ne Nat B.dx B.hl ∧ (∀ p ∈ tupsOf es, p.1 ≠ B.hl) := by
  have h3 := hB _ (.tail _ (.tail _ (.head _)))
  dsimp only at h3
  refine ⟨fun e => ?_, fun e => ?_, fun p hp e => ?_⟩
  · have h1 := hB _ (.head _)
    dsimp only at h1
    rw [show B.o = B.hl from e, h3] at h1
    simp [W.listOf, instObj] at h1
  · have h1 := hB _ (.tail _ (.head _))
    dsimp only at h1
    rw [show B.dx = B.hl from e, h3] at h1
    simp [W.listOf, dictOf] at h1
  · have h1 := hB _ (.tail _ (.tail _ (.tail _ hp)))
    rw [e, h3] at h1
    obtain ⟨x, hx, rfl⟩ := List.mem_map.mp hp
    simp [W.listOf, Ent.obj] at h1
local macro_rules | `(tactic| walk_at "call ref") => `(tactic| (refine' del_spec ?hX ?hT ?h0 ?hA ?hB ?hoff ?hi ?hes ?hlen ?h3 ?h4 ?_; (case hT => assumption); (case hX => assumption); (case h0 => exact Fr.keep (by assumption)); (case hA => exact rfl); (case hB => walk_at "m_tab"); (case hoff => walk_at "m_off"); (case hi => omega); (case hes => assumption); (case hlen => omega); (case h3 => walk_at "m_room"); (case h4 => walk_at "m_room"); intro h9 tk9 n9 hs9 hr9; (try dsimp only at hs9 hr9); refine' keep4 ?F ?N ?U hs9 hr9 ?_; (case F => assumption); (case N => assumption); (case U => k_upd); intro F9 N9; (try k_sweep); (try dsimp only)))
theorem own_delItem {M : Model} {K : Frag} {x C L f : Addr} {m : Str → Option Value} {ox : Obj} {od : Option Obj} {i : Value} {Q : Unit → Shared → Prop} {E : Value → Shared → Prop} (F : Fr h₀ L s.heap m) (X₀ : K.In h₀) (I : InstAt s.heap x ox C od) (hq : noSeq K C = true) (hs : findIn K (.ref C) "__delitem__" = some (some (.ref f))) (hf : isFn K (.ref f) = true)
    (h : wpAny M A (call (.ref f) [.ref x, i]) (fun _ s' => Q () s') E s) : wpAny M A (delItem (.ref x) i) Q E s := by
  have X := X₀.keeps F.keep
  unfold delItem sequenceKey
  refine wpAny_holding (wpAny_bind (wpAny_bind (I.type.here ?_)))
  refine wpAny_bind ((anyM_none X hq).here ?_)
  rw [if_pos (show (!false) = true from rfl)]
  exact wpAny_pure (wpAny_bind (special_fn X I hs (beq_iff_eq.mp hf) (wpAny_mono h (fun _ _ z => wpAny_pure z) fun _ _ z => z)))
local macro_rules | `(tactic| walk_at "delItem ref str") => `(tactic| (refine' own_delItem ?F ?X ?I ?hQ ?hS ?hF ?_; (case F => k_asm); (case X => k_asm); (case I => k_inst); (case hS => k_is); (case hF => k_is); (case hQ => k_is); k_whole))
set_option maxHeartbeats 8000000 in
theorem set_spec (X : (hd.heap_1 w.params).In h₀) (T : Top p loose mean mg mb h₀) (st : h₀.StaysIn s.heap) {B : Tb} {es : List Ent} {up : Bool} {i d pt : Nat} {ut vt : Tok}
    (hA : A.handled = none) (hB : ∀ q ∈ B.news es, s.heap.get? q.1 = some q.2) (hoff : ∀ a ∈ (B.news es).map (·.1), h₀.get? a = none)
    (hi : i < 5) (hes : ∀ e ∈ es, e.i < 5) (hlen : es.length ≤ 1000) (hd : d ≤ 1000) (hpt : pt < 65536)
    (hdp : A.depth + 60 < recursionLimit) (hun : A.units + 300 < cLine)
    (hret : ∀ h' tk' n2 r, (∀ b o, b ≠ B.hl → s.heap.get? b = some o → h'.get? b = some o) → s.heap.get? r = none → h'.get? r = some (tupO (.str (nm up i) ut) (.str (row d pt) vt)) →
      h'.get? B.hl = some (W.listOf (((es.filter fun e : Ent => e.i != i).map fun e => Value.ref e.a) ++ [Value.ref r] : List Value).toArray n2) → Q .none { s with heap := h', toks := tk' }) :
    wpAny (model prog w) A (call (.ref 84) [.ref B.o, .str (nm up i) ut, .str (row d pt) vt]) Q E s := by
  obtain ⟨hp, gn, dr, tkk, os⟩ := s
  obtain ⟨hdl, dp, frs, gds, un⟩ := A
  dsimp only at st hret hB hA hdp hun
  subst hA
  obtain ⟨ne1, ne2, ne3⟩ := tab_ne hB
  refine wpAny_call ?_
  k_dflt walk_at "m_enterH"
  intro g L' h₁ F' X' T' st' hg hn hk hL
  dsimp only at hg hk hL ⊢
  have N' := news_enter hB hn hk hL
  k_steps
  with_reducible rename News _ _ _ _ => N9
  with_reducible rename Fr _ _ _ _ => F9
  simp only [List.push_toArray] at N9
  refine hret _ _ _ _ (fun b o hb e => ?_) (fresh_of hg (N9 _ (.head _)).2.2 ?_) (N9 _ (.head _)).1 (News.get N9 (.tail _ (.tail _ (.tail _ (.head _)))))
  · by_cases hm : b ∈ (B.news es).map (·.1)
    · obtain ⟨q, hq, rfl⟩ := List.mem_map.mp hm
      have h1 := hB q hq
      rw [e] at h1
      cases h1
      rcases List.mem_cons.mp hq with rfl | hq
      · exact (N9 _ (.tail _ (.head _))).1
      · rcases List.mem_cons.mp hq with rfl | hq
        · exact (N9 _ (.tail _ (.tail _ (.head _)))).1
        · rcases List.mem_cons.mp hq with rfl | hq
          · exact absurd rfl hb
          · exact (N9 _ (.tail _ (.tail _ (.tail _ (.tail _ hq))))).1
    · exact F9.keep b o (hg b o e hm)
  · intro hm
    obtain ⟨q, hq, e⟩ := List.mem_map.mp hm
    exact allLt_ne (l := B.news es) (by assumption) q hq e
theorem item_ABCD {i : Nat} (hi : i < 4) : Txt.item (Str.ofString "ABCD") (i : Int) = nm true i := by
  rw [nm_lit]
  have : i = 0 ∨ i = 1 ∨ i = 2 ∨ i = 3 := by omega
  rcases this with rfl | rfl | rfl | rfl <;> rfl
theorem item_abcd {k : Nat} (hj : ¬ (k : Int) = 0) (hi : k < 4) : Txt.item (Str.ofString "abcd") ((k : Int) - 1) = nm false (k - 1) := by
  rw [nm_lit]
  have : k = 1 ∨ k = 2 ∨ k = 3 := by omega
  rcases this with rfl | rfl | rfl <;> rfl
theorem nm_a : Str.ofString "a" = nm false 0 := by rw [nm_lit]; rfl
/-- every letter's row -/
def Rows (es : List Ent) (D P : Nat → Nat) : Prop := ∀ j, j < 4 → ∃ e, es.find? (fun e => e.i == j) = some e ∧ e.r = row (D j) (P j)
theorem get_row (X : (hd.heap_1 w.params).In h₀) (T : Top p loose mean mg mb h₀) (st : h₀.StaysIn s.heap) {B : Tb} {es : List Ent} {up : Bool} {i : Nat} {ut : Tok} {D P : Nat → Nat} {x : Str}
    (hA : A.handled = none) (hB : ∀ q ∈ B.news es, s.heap.get? q.1 = some q.2) (hoff : ∀ a ∈ (B.news es).map (·.1), h₀.get? a = none)
    (hr : Rows es D P) (hx : x = nm up i) (hi : i < 4) (hes : ∀ e ∈ es, e.i < 5)
    (hdp : A.depth + 40 < recursionLimit) (hun : A.units + 200 < cLine)
    (hret : ∀ t h' tk', s.heap.StaysIn h' → Q (.str (row (D i) (P i)) t) { s with heap := h', toks := tk' }) :
    wpAny (model prog w) A (call (.ref 118) [.ref B.o, .str x ut]) Q E s := by
  subst hx
  obtain ⟨e, he, hrow⟩ := hr i hi
  refine get_spec X T st hA hB hoff (by omega) hes hdp hun ?_
  rw [he]
  dsimp only
  rw [hrow]
  exact fun h' tk' => hret _ h' tk'
theorem set_spec' (X : (hd.heap_1 w.params).In h₀) (T : Top p loose mean mg mb h₀) (st : h₀.StaysIn s.heap) {B : Tb} {es : List Ent} {up : Bool} {i d pt : Nat} {ut vt : Tok} {x : Str}
    (hA : A.handled = none) (hB : ∀ q ∈ B.news es, s.heap.get? q.1 = some q.2) (hoff : ∀ a ∈ (B.news es).map (·.1), h₀.get? a = none)
    (hx : x = nm up i) (hi : i < 5) (hes : ∀ e ∈ es, e.i < 5) (hlen : es.length ≤ 1000) (hd : d ≤ 1000) (hpt : pt < 65536)
    (hdp : A.depth + 60 < recursionLimit) (hun : A.units + 300 < cLine)
    (hret : ∀ h' tk' n2 r, (∀ b o, b ≠ B.hl → s.heap.get? b = some o → h'.get? b = some o) → s.heap.get? r = none → h'.get? r = some (tupO (.str (nm up i) ut) (.str (row d pt) vt)) →
      h'.get? B.hl = some (W.listOf (((es.filter fun e : Ent => e.i != i).map fun e => Value.ref e.a) ++ [Value.ref r] : List Value).toArray n2) → Q .none { s with heap := h', toks := tk' }) :
    wpAny (model prog w) A (call (.ref 84) [.ref B.o, .str x ut, .str (row d pt) vt]) Q E s := by
  subst hx; exact set_spec X T st hA hB hoff hi hes hlen hd hpt hdp hun hret
local macro_rules | `(tactic| walk_at "call ref") => `(tactic| (refine' get_row ?hX ?hT ?h0 ?hA ?hB ?hoff ?hr ?hx ?hi ?hes ?h3 ?h4 ?_; (case hT => assumption); (case hX => assumption); (case h0 => exact Fr.keep (by assumption)); (case hA => exact rfl); (case hB => walk_at "m_tab"); (case hoff => walk_at "m_off"); (case hr => assumption); (case hx => first | exact nm_a | exact item_abcd (by omega) (by omega)); (case hi => omega); (case hes => assumption); (case h3 => walk_at "m_room"); (case h4 => walk_at "m_room"); intro _; walk_at "m_kept"))
local macro_rules | `(tactic| walk_at "call ref") => `(tactic| (refine' quote_spec ?hX ?hT ?h0 ?hA ?hd0 ?hd ?hp ?h3 ?h4 ?_; (case hT => assumption); (case hX => assumption); (case h0 => exact Fr.keep (by assumption)); (case hA => exact rfl); (case hd0 => omega); (case hd => omega); (case hp => omega); (case h3 => walk_at "m_room"); (case h4 => walk_at "m_room"); intro _; walk_at "m_kept"))
def goD (D : Nat → Nat) (k : Nat) : Nat := if k = 0 then D 0 + 1 else D (k - 1)
def goP (P : Nat → Nat) (k : Nat) : Nat := if k = 0 then P 0 else P (k - 1)
set_option maxHeartbeats 8000000 in
theorem go_spec (X : (hd.heap_1 w.params).In h₀) (T : Top p loose mean mg mb h₀) (st : h₀.StaysIn s.heap) {B : Tb} {es : List Ent} {D P : Nat → Nat} {k : Nat} {ut : Tok}
    (hA : A.handled = none) (hB : ∀ q ∈ B.news es, s.heap.get? q.1 = some q.2) (hoff : ∀ a ∈ (B.news es).map (·.1), h₀.get? a = none)
    (hr : Rows es D P) (hk : k < 4) (hes : ∀ e ∈ es, e.i < 5) (hlen : es.length ≤ 1000) (hD : ∀ j, j < 4 → 1 ≤ D j ∧ D j ≤ 999) (hP : ∀ j, j < 4 → P j < 65536)
    (hdp : A.depth + 80 < recursionLimit) (hun : A.units + 400 < cLine)
    (hret : ∀ h' tk' n2 r tn tr, (∀ b o, b ≠ B.hl → s.heap.get? b = some o → h'.get? b = some o) → s.heap.get? r = none → h'.get? r = some (tupO (.str (nm true k) tn) (.str (row (goD D k) (goP P k)) tr)) →
      h'.get? B.hl = some (W.listOf (((es.filter fun e : Ent => e.i != k).map fun e => Value.ref e.a) ++ [Value.ref r] : List Value).toArray n2) → Q .none { s with heap := h', toks := tk' }) :
    wpAny (model prog w) A (call (.ref 257) [.ref B.o, .int (k : Int) ut]) Q E s := by
  obtain ⟨hp, gn, dr, tkk, os⟩ := s
  obtain ⟨hdl, dp, frs, gds, un⟩ := A
  dsimp only at st hret hB hA hdp hun
  subst hA
  have hD0 := hD 0 (by omega)
  have hP0 := hP 0 (by omega)
  refine wpAny_call ?_
  k_dflt walk_at "m_enterH"
  intro g L' h₁ F' X' T' st' hg hn hk' hL
  dsimp only at hg hk' hL ⊢
  have N' := news_enter hB hn hk' hL
  have hD1 := hD (k - 1) (by omega)
  have hP1 := hP (k - 1) (by omega)
  k_steps
  · rename_i hk0
    have hk0' : k = 0 := by omega
    subst hk0'
    with_reducible rename News _ _ _ _ => N8
    with_reducible rename Fr _ _ _ _ => F8
    refine set_spec' (B := B) (es := es) (up := true) (i := 0) X' T' (Fr.keep F8) rfl (news_tab N8 (by walk_at "m_in")) (news_off N8 (by walk_at "m_in")) (item_ABCD (by omega)) (by omega) hes hlen (by omega) (by omega) (by walk_at "m_room") (by walk_at "m_room") ?_
    intro h9 tk9 n9 r9 hs9 hf9 hr9 hl9
    dsimp only at hs9 hf9 hr9
    k_steps
    refine hret _ _ _ _ _ _ (fun b o hb e => hs9 b o hb (stays_news hB hg F8 N8 (by walk_at "m_in") b o e)) ?_ hr9 hl9
    cases q : hp.get? r9 with
    | none => rfl
    | some o => rw [stays_news hB hg F8 N8 (by walk_at "m_in") _ _ q] at hf9; cases hf9
  · have hk0 : ¬ k = 0 := by omega
    have e1 : goD D k = D (k - 1) := if_neg hk0
    have e2 : goP P k = P (k - 1) := if_neg hk0
    rw [← e1, ← e2]
    with_reducible rename News _ _ _ _ => N8
    with_reducible rename Fr _ _ _ _ => F8
    refine set_spec' (B := B) (es := es) (up := true) (i := k) X' T' (Fr.keep F8) rfl (news_tab N8 (by walk_at "m_in")) (news_off N8 (by walk_at "m_in")) (item_ABCD (by omega)) (by omega) hes hlen (by omega) (by omega) (by walk_at "m_room") (by walk_at "m_room") ?_
    intro h9 tk9 n9 r9 hs9 hf9 hr9 hl9
    dsimp only at hs9 hf9 hr9
    k_steps
    refine hret _ _ _ _ _ _ (fun b o hb e => hs9 b o hb (stays_news hB hg F8 N8 (by walk_at "m_in") b o e)) ?_ hr9 hl9
    cases q : hp.get? r9 with
    | none => rfl
    | some o => rw [stays_news hB hg F8 N8 (by walk_at "m_in") _ _ q] at hf9; cases hf9
abbrev newTab (x dx hl : Addr) (n : Nat) (es : List Ent) : List (Addr × Obj) := (x, instObj 171 dx) :: (dx, dictOf [] 0) :: (hl, W.listOf (es.map fun e => Value.ref e.a).toArray n) :: tupsOf es
theorem newTab_ne {h : Heap} {x dx hl : Addr} {n : Nat} {es : List Ent} (hB : ∀ q ∈ newTab x dx hl n es, h.get? q.1 = some q.2) : @Ne Nat x dx ∧ @Ne Nat hl dx ∧ (∀ p ∈ tupsOf es, p.1 ≠ dx) := by
  have h3 := hB _ (.tail _ (.head _))
  dsimp only at h3
  refine ⟨fun e => ?_, fun e => ?_, fun p hp e => ?_⟩
  · have h1 := hB _ (.head _)
    dsimp only at h1
    rw [show x = dx from e, h3] at h1
    simp [dictOf, instObj] at h1
  · have h1 := hB _ (.tail _ (.tail _ (.head _)))
    dsimp only at h1
    rw [show hl = dx from e, h3] at h1
    simp [W.listOf, dictOf] at h1
  · have h1 := hB _ (.tail _ (.tail _ (.tail _ hp)))
    rw [e, h3] at h1
    obtain ⟨x, hx, rfl⟩ := List.mem_map.mp hp
    simp [dictOf, Ent.obj] at h1
set_option maxHeartbeats 8000000 in
theorem init_spec {R : Result → Shared → Prop} (X : (hd.heap_1 w.params).In h₀) (T : Top p loose mean mg mb h₀) (st : h₀.StaysIn s.heap) {x dx hl : Addr} {n : Nat} {es : List Ent}
    (hA : A.handled = none) (hB : ∀ q ∈ newTab x dx hl n es, s.heap.get? q.1 = some q.2) (hoff : ∀ a ∈ (newTab x dx hl n es).map (·.1), h₀.get? a = none) (hlen : es.length ≤ 1000)
    (hes : ∀ e ∈ es, e.i < 5 ∧ ∃ d p, e.r = row d p ∧ d ≤ 999 ∧ p < 65536)
    (hdp : A.depth + 40 < recursionLimit) (hun : A.units + 200 < cLine)
    (hret : ∀ h' tk' hsh tkk n1, (∀ b o, b ≠ dx → s.heap.get? b = some o → h'.get? b = some o) → h'.get? dx = some (dictOf [⟨hsh, .str (Str.ofString "_headers") tkk, .ref hl⟩] n1) → R (.ok (.ret .none)) { s with heap := h', toks := tk' }) :
    codeAny (model prog w) A (.call (.ref 63) ⟨[.ref x, .ref hl], []⟩) R s := by
  obtain ⟨hp, gn, dr, tkk, os⟩ := s
  obtain ⟨hdl, dp, frs, gds, un⟩ := A
  dsimp only at st hret hB hA hdp hun
  subst hA
  obtain ⟨ne1, ne2, ne3⟩ := newTab_ne hB
  k_dflt walk_at "m_enterH"
  intro g L' h₁ F' X' T' st' hg hn hk hL
  dsimp only at hg hk hL ⊢
  have N' := news_enter hB hn hk hL
  dsimp only [newTab] at N'
  k_steps
  with_reducible rename Fr _ _ _ _ => F0
  with_reducible rename News _ _ _ _ => N0
  generalize hM : (fun y => if y = Str.ofString "headers" then _ else _ : Str → Option Value) = M₀ at F0
  have m1 : M₀ "self" = some (.ref x) := by rw [← hM]; rfl
  have m2 : M₀ "headers" = some (.ref hl) := by rw [← hM]; rfl
  obtain ⟨hsh, tk2, n1, N1⟩ : ∃ hsh tk2 n1, News g L' _ ((x, instObj 171 dx) :: (dx, dictOf [⟨hsh, .str (Str.ofString "_headers") tk2, .ref hl⟩] n1) :: (hl, W.listOf (es.map fun e => Value.ref e.a).toArray n) :: tupsOf es) := ⟨_, _, _, N0⟩
  clear hM N0
  refine for_listX (g := g) rfl ?_ (by intro _; rfl) PassesOwn.never
  k_steps
  refine ⟨hl, (es.map fun e => Value.ref e.a).toArray, fun k m news => m "self" = some (.ref x) ∧ news = (x, instObj 171 dx) :: (dx, dictOf [⟨hsh, .str (Str.ofString "_headers") tk2, .ref hl⟩] n1) :: (hl, W.listOf (es.map fun e => Value.ref e.a).toArray n) :: tupsOf es, rfl, ⟨rfl, ⟨_, _, F0, N1, m1, rfl⟩, go_tuple items_isref, ?hlist, ?turn, ?done⟩⟩
  case hlist =>
    rintro k m news h ⟨_, rfl⟩ F N
    exact News.isList N (n := n) (.tail _ (.tail _ (.head _)))
  case turn =>
    rintro I oI j v m news h tk hoI hv ⟨m1, rfl⟩ hoff' F N
    obtain ⟨e, he, rfl⟩ := items_ref j v hv
    refine unpackN_ F N (News.isTup N (.tail _ (.tail _ (.tail _ (.tail _ (ent_mem he)))))) rfl rfl rfl fun h1 F1 N1 => ?_
    obtain ⟨hi, d, pt, hr, hd, hpt⟩ := hes e (List.mem_of_getElem? he)
    obtain ⟨ea, up, i, r, tn, tr⟩ := e
    dsimp only at hi hr F1 N1
    subst hr
    k_steps
    refine TurnEnd.next (by assumption) (by assumption) hoff' ⟨?_, rfl⟩
    walk_at "m_fact"
  case done =>
    rintro h tk m news ⟨m1, rfl⟩ F N
    k_steps
    refine hret _ _ hsh tk2 n1 (fun b o hb e => ?_) (N _ (.tail _ (.head _))).1
    by_cases hm : b ∈ (newTab x dx hl n es).map (·.1)
    · obtain ⟨q, hq, rfl⟩ := List.mem_map.mp hm
      have h1 := hB q hq
      rw [e] at h1
      cases h1
      rcases List.mem_cons.mp hq with rfl | hq
      · exact (N _ (.head _)).1
      · rcases List.mem_cons.mp hq with rfl | hq
        · exact absurd rfl hb
        · exact (N _ (.tail _ (.tail _ hq))).1
    · exact F.keep b o (hg b o e hm)
/-! the plain law: Dijkstra's ring of four -/
/-- the rank by what is so: p = 0, 1, 2; q = 0, 1; r = 0; p = q; q = r -/
def rkB (p0 p1 p2 q0 q1 r0 pq qr : Bool) : Nat :=
  if r0 then
    if p0 then (if q0 then 0 else if q1 then 9 else 5)
    else if q0 then (if p1 then 11 else 7)
    else if pq then (if p1 then 10 else 6)
    else if q1 then (if p2 then 13 else 10)
    else if p1 then 11 else 7
  else
    if p0 then (if q0 then 0 else if qr then 0 else 1)
    else if q0 then (if p1 then 12 else 8)
    else if pq then (if qr then 0 else 2)
    else if qr then 3 else 4
def cntB (p0 r0 pq qr : Bool) : Nat := (if r0 then 1 else 0) + (if p0 then 0 else 1) + (if pq then 0 else 1) + (if qr then 0 else 1)
def rk (p q r : Nat) : Nat := rkB (p == 0) (p == 1) (p == 2) (q == 0) (q == 1) (r == 0) (p == q) (q == r)
def cnt3 (p q r : Nat) : Nat := cntB (p == 0) (r == 0) (p == q) (q == r)
def dec (K p : Nat) : Nat := if p = 0 then K - 1 else p - 1
theorem rkB_le : ∀ p0 p1 p2 q0 q1 r0 pq qr, rkB p0 p1 p2 q0 q1 r0 pq qr ≤ 13 := by decide +kernel
theorem rkB_zero : ∀ p0 p1 p2 q0 q1 r0 pq qr, (p0 && pq) = (q0 && pq) → (p0 && q0) = (p0 && pq) → (q0 && r0) = (q0 && qr) → (r0 && qr) = (q0 && qr) → (p1 && pq) = (q1 && pq) → (rkB p0 p1 p2 q0 q1 r0 pq qr = 0 ↔ cntB p0 r0 pq qr = 1) := by decide +kernel
theorem cntB_pos : ∀ p0 r0 pq qr q0, (p0 && pq) = (q0 && pq) → (q0 && qr) = (r0 && qr) → 1 ≤ cntB p0 r0 pq qr := by decide +kernel
theorem beq_iff (x y : Nat) : ((x == y) = true) = (x = y) := by simp
theorem and_eq {a b c d : Bool} (h : (a = true ∧ b = true) ↔ (c = true ∧ d = true)) : (a && b) = (c && d) := by
  cases a <;> cases b <;> cases c <;> cases d <;> simp_all
theorem rk_le (p q r : Nat) : rk p q r ≤ 13 := rkB_le _ _ _ _ _ _ _ _
theorem rk_zero (p q r : Nat) : rk p q r = 0 ↔ cnt3 p q r = 1 :=
  rkB_zero _ _ _ _ _ _ _ _ (and_eq (by simp only [beq_iff]; omega)) (and_eq (by simp only [beq_iff]; omega)) (and_eq (by simp only [beq_iff]; omega)) (and_eq (by simp only [beq_iff]; omega)) (and_eq (by simp only [beq_iff]; omega))
theorem cnt_pos (p q r : Nat) : 1 ≤ cnt3 p q r :=
  cntB_pos _ _ _ _ (q == 0) (and_eq (by simp only [beq_iff]; omega)) (and_eq (by simp only [beq_iff]; omega))
theorem rkB_b : ∀ p1 p2 q0 q1 r0 pq qr, (q0 && pq) = false → (q0 && q1) = false → (q0 && r0) = (q0 && qr) → (r0 && qr) = (q0 && qr) → (p1 && pq) = (q1 && pq) → (p1 && p2) = false → (p1 && q1) = (p1 && pq) →
    cntB true r0 q0 qr ≤ cntB false r0 pq qr ∧ (rkB false p1 p2 q0 q1 r0 pq qr = 0 ∨ rkB true false false q0 q1 r0 q0 qr < rkB false p1 p2 q0 q1 r0 pq qr) := by decide +kernel
theorem beq_no {x y : Nat} (h : x ≠ y) : (x == y) = false := by simpa using h
theorem and_no {a b : Bool} (h : ¬ (a = true ∧ b = true)) : (a && b) = false := by
  cases a <;> cases b <;> simp_all
theorem rk_b {p q r : Nat} (h : p ≠ 0) : cnt3 0 q r ≤ cnt3 p q r ∧ (rk p q r = 0 ∨ rk 0 q r < rk p q r) := by
  have e : ((0 : Nat) == q) = (q == 0) := by rw [Bool.eq_iff_iff]; simp only [beq_iff]; omega
  unfold rk cnt3
  rw [e, beq_no h]
  exact rkB_b _ _ _ _ _ _ _ (and_no (by simp only [beq_iff]; omega)) (and_no (by simp only [beq_iff]; omega)) (and_eq (by simp only [beq_iff]; omega)) (and_eq (by simp only [beq_iff]; omega)) (and_eq (by simp only [beq_iff]; omega)) (and_no (by simp only [beq_iff]; omega)) (and_eq (by simp only [beq_iff]; omega))
theorem rkB_c : ∀ p0 p1 p2 q0 q1 r0 qr pr, (p0 && q0) = false → (q0 && q1) = false → (p0 && p1) = false → (p1 && p2) = false → (p0 && p2) = false → (q0 && r0) = (q0 && qr) → (r0 && qr) = (q0 && qr) → (p0 && r0) = (p0 && pr) → (r0 && pr) = (p0 && pr) → (p1 && q1) = false → (qr && pr) = false →
    cntB p0 r0 true pr ≤ cntB p0 r0 false qr ∧ (rkB p0 p1 p2 q0 q1 r0 false qr = 0 ∨ rkB p0 p1 p2 p0 p1 r0 true pr < rkB p0 p1 p2 q0 q1 r0 false qr) := by decide +kernel
theorem rk_c {p q r : Nat} (h : p ≠ q) : cnt3 p p r ≤ cnt3 p q r ∧ (rk p q r = 0 ∨ rk p p r < rk p q r) := by
  unfold rk cnt3
  rw [beq_no h, show (p == p) = true from by simp]
  exact rkB_c _ _ _ _ _ _ _ _ (and_no (by simp only [beq_iff]; omega)) (and_no (by simp only [beq_iff]; omega)) (and_no (by simp only [beq_iff]; omega)) (and_no (by simp only [beq_iff]; omega)) (and_no (by simp only [beq_iff]; omega)) (and_eq (by simp only [beq_iff]; omega)) (and_eq (by simp only [beq_iff]; omega)) (and_eq (by simp only [beq_iff]; omega)) (and_eq (by simp only [beq_iff]; omega)) (and_no (by simp only [beq_iff]; omega)) (and_no (by simp only [beq_iff]; omega))
theorem rkB_d : ∀ p0 p1 p2 q0 q1 r0 pq, (q0 && r0) = false → (q0 && q1) = false → (p0 && p1) = false → (p1 && p2) = false → (p0 && p2) = false → (p0 && pq) = (q0 && pq) → (p0 && q0) = (p0 && pq) → (p1 && pq) = (q1 && pq) → (p1 && q1) = (p1 && pq) →
    cntB p0 q0 pq true ≤ cntB p0 r0 pq false ∧ (rkB p0 p1 p2 q0 q1 r0 pq false = 0 ∨ rkB p0 p1 p2 q0 q1 q0 pq true < rkB p0 p1 p2 q0 q1 r0 pq false) := by decide +kernel
theorem rk_d {p q r : Nat} (h : q ≠ r) : cnt3 p q q ≤ cnt3 p q r ∧ (rk p q r = 0 ∨ rk p q q < rk p q r) := by
  unfold rk cnt3
  rw [beq_no h, show (q == q) = true from by simp]
  exact rkB_d _ _ _ _ _ _ _ (and_no (by simp only [beq_iff]; omega)) (and_no (by simp only [beq_iff]; omega)) (and_no (by simp only [beq_iff]; omega)) (and_no (by simp only [beq_iff]; omega)) (and_no (by simp only [beq_iff]; omega)) (and_eq (by simp only [beq_iff]; omega)) (and_eq (by simp only [beq_iff]; omega)) (and_eq (by simp only [beq_iff]; omega)) (and_eq (by simp only [beq_iff]; omega))
/-- a goes: p, q, r all go down by one; p3: p = 3, q2: q = 2 -/
theorem rkB_a : ∀ p0 p1 p2 p3 q0 q1 q2 pq, (p0 && p1) = false → (p0 && p2) = false → (p0 && p3) = false → (p1 && p2) = false → (p1 && p3) = false → (p2 && p3) = false → (q0 && q1) = false → (q0 && q2) = false → (q1 && q2) = false →
    (p0 && pq) = (q0 && pq) → (p0 && q0) = (p0 && pq) → (p1 && pq) = (q1 && pq) → (p1 && q1) = (p1 && pq) → (p2 && pq) = (q2 && pq) → (p2 && q2) = (p2 && pq) →
    cntB p1 false pq q0 ≤ cntB p0 true pq q0 ∧ (rkB p0 p1 p2 q0 q1 true pq q0 = 0 ∨ rkB p1 p2 p3 q1 q2 false pq q0 < rkB p0 p1 p2 q0 q1 true pq q0) := by decide +kernel
theorem dec_beq {K p : Nat} (x : Nat) (hK : 4 ≤ K) (hx : x + 1 < K) : (dec K p == x) = (p == x + 1) := by
  rw [Bool.eq_iff_iff]; simp only [beq_iff]; unfold dec; split <;> omega
theorem rk_a {K p q r : Nat} (hK : 4 ≤ K) (hp : p < K) (hq : q < K) (h : r = 0) : cnt3 (dec K p) (dec K q) (dec K r) ≤ cnt3 p q r ∧ (rk p q r = 0 ∨ rk (dec K p) (dec K q) (dec K r) < rk p q r) := by
  subst h
  have e1 : (dec K p == dec K q) = (p == q) := by
    rw [Bool.eq_iff_iff]; simp only [beq_iff]; unfold dec; split <;> split <;> omega
  have e2 : (dec K q == dec K 0) = (q == 0) := by
    rw [Bool.eq_iff_iff]; simp only [beq_iff]; unfold dec; split <;> split <;> omega
  have e3 : (dec K 0 == 0) = false := beq_no (by unfold dec; rw [if_pos rfl]; omega)
  unfold rk cnt3
  rw [e1, e2, e3, dec_beq 0 hK (by omega), dec_beq 0 hK (by omega), dec_beq 1 hK (by omega), dec_beq 1 hK (by omega), dec_beq 2 hK (by omega), show ((0 : Nat) == 0) = true from rfl]
  exact rkB_a _ _ _ _ _ _ _ _ (and_no (by simp only [beq_iff]; omega)) (and_no (by simp only [beq_iff]; omega)) (and_no (by simp only [beq_iff]; omega)) (and_no (by simp only [beq_iff]; omega)) (and_no (by simp only [beq_iff]; omega)) (and_no (by simp only [beq_iff]; omega)) (and_no (by simp only [beq_iff]; omega)) (and_no (by simp only [beq_iff]; omega)) (and_no (by simp only [beq_iff]; omega))
    (and_eq (by simp only [beq_iff]; omega)) (and_eq (by simp only [beq_iff]; omega)) (and_eq (by simp only [beq_iff]; omega)) (and_eq (by simp only [beq_iff]; omega)) (and_eq (by simp only [beq_iff]; omega)) (and_eq (by simp only [beq_iff]; omega))
def off (K x y : Nat) : Nat := if x ≤ y then y - x else y + K - x
def may4 (a b c d : Nat) : List Nat := (if a = d then [0] else []) ++ (if b = a then [] else [1]) ++ (if c = b then [] else [2]) ++ (if d = c then [] else [3])
def rank4 (K a b c d : Nat) : Nat := rk (off K a b) (off K a c) (off K a d)
theorem off_zero {K x y : Nat} (hx : x < K) (hy : y < K) : off K x y = 0 ↔ y = x := by unfold off; split <;> omega
theorem off_inj {K x y z : Nat} (hx : x < K) (hy : y < K) (hz : z < K) : off K x y = off K x z ↔ z = y := by unfold off; split <;> split <;> omega
theorem off_lt {K x y : Nat} (hx : x < K) (hy : y < K) : off K x y < K := by unfold off; split <;> omega
theorem off_self {K x : Nat} : off K x x = 0 := by unfold off; simp
theorem succ_mod {K x : Nat} (hx : x < K) : (x + 1) % K = if x + 1 = K then 0 else x + 1 := by
  split
  · rename_i h; rw [h, Nat.mod_self]
  · exact Nat.mod_eq_of_lt (by omega)
theorem off_succ {K x y : Nat} (hx : x < K) (hy : y < K) : off K ((x + 1) % K) y = dec K (off K x y) := by
  rw [succ_mod hx]
  unfold off dec
  repeat' split
  all_goals omega
theorem len_may4 {K a b c d : Nat} (ha : a < K) (hb : b < K) (hc : c < K) (hd : d < K) : (may4 a b c d).length = cnt3 (off K a b) (off K a c) (off K a d) := by
  have b1 : (off K a b == 0) = decide (b = a) := by rw [Bool.eq_iff_iff]; simp only [beq_iff, decide_eq_true_eq]; exact off_zero ha hb
  have b2 : (off K a d == 0) = decide (a = d) := by rw [Bool.eq_iff_iff]; simp only [beq_iff, decide_eq_true_eq]; rw [off_zero ha hd]; exact eq_comm
  have b3 : (off K a b == off K a c) = decide (c = b) := by rw [Bool.eq_iff_iff]; simp only [beq_iff, decide_eq_true_eq]; exact off_inj ha hb hc
  have b4 : (off K a c == off K a d) = decide (d = c) := by rw [Bool.eq_iff_iff]; simp only [beq_iff, decide_eq_true_eq]; exact off_inj ha hc hd
  unfold may4 cnt3 cntB
  rw [b1, b2, b3, b4]
  simp only [decide_eq_true_eq]
  repeat' split
  all_goals rfl
theorem rank_zero {K a b c d : Nat} (ha : a < K) (hb : b < K) (hc : c < K) (hd : d < K) : rank4 K a b c d = 0 ↔ (may4 a b c d).length = 1 := by
  rw [len_may4 ha hb hc hd]; exact rk_zero _ _ _
def Better (K a b c d a' b' c' d' : Nat) : Prop := (may4 a' b' c' d').length ≤ (may4 a b c d).length ∧ (rank4 K a b c d = 0 ∨ rank4 K a' b' c' d' < rank4 K a b c d)
theorem mv_a {K a b c d : Nat} (hK : 4 ≤ K) (ha : a < K) (hb : b < K) (hc : c < K) (hd : d < K) (h : a = d) : Better K a b c d ((a + 1) % K) b c d := by
  have ha' : (a + 1) % K < K := Nat.mod_lt _ (by omega)
  unfold Better rank4
  rw [len_may4 ha hb hc hd, len_may4 ha' hb hc hd, off_succ ha hb, off_succ ha hc, off_succ ha hd]
  exact rk_a hK (off_lt ha hb) (off_lt ha hc) ((off_zero ha hd).mpr h.symm)
theorem mv_b {K a b c d : Nat} (ha : a < K) (hb : b < K) (hc : c < K) (hd : d < K) (h : b ≠ a) : Better K a b c d a a c d := by
  unfold Better rank4
  rw [len_may4 ha hb hc hd, len_may4 ha ha hc hd, off_self]
  exact rk_b fun e => h ((off_zero ha hb).mp e)
theorem mv_c {K a b c d : Nat} (ha : a < K) (hb : b < K) (hc : c < K) (hd : d < K) (h : c ≠ b) : Better K a b c d a b b d := by
  unfold Better rank4
  rw [len_may4 ha hb hc hd, len_may4 ha hb hb hd]
  exact rk_c fun e => h ((off_inj ha hb hc).mp e)
theorem mv_d {K a b c d : Nat} (ha : a < K) (hb : b < K) (hc : c < K) (hd : d < K) (h : d ≠ c) : Better K a b c d a b c c := by
  unfold Better rank4
  rw [len_may4 ha hb hc hd, len_may4 ha hb hc hc]
  exact rk_d fun e => h ((off_inj ha hc hd).mp e)
def m4 (x y z u : Bool) : List Nat := (if x then [0] else []) ++ (if y then [] else [1]) ++ (if z then [] else [2]) ++ (if u then [] else [3])
theorem may4_m4 (a b c d : Nat) : may4 a b c d = m4 (decide (a = d)) (decide (b = a)) (decide (c = b)) (decide (d = c)) := by
  unfold may4 m4; simp only [decide_eq_true_eq]
theorem m4_0 : ∀ x y z u, m4 x y z u = [0] → x = true ∧ y = true ∧ z = true ∧ u = true := by decide
theorem m4_1 : ∀ x y z u, m4 x y z u = [1] → x = false ∧ y = false ∧ z = true ∧ u = true := by decide
theorem m4_2 : ∀ x y z u, m4 x y z u = [2] → x = false ∧ y = true ∧ z = false ∧ u = true := by decide
theorem m4_3 : ∀ x y z u, m4 x y z u = [3] → x = false ∧ y = true ∧ z = true ∧ u = false := by decide
theorem m4_of {a b c d : Nat} {x y z u : Bool} (h1 : decide (a = d) = x) (h2 : decide (b = a) = y) (h3 : decide (c = b) = z) (h4 : decide (d = c) = u) : may4 a b c d = m4 x y z u := by
  rw [may4_m4, h1, h2, h3, h4]
theorem one_a {K a b c d : Nat} (hK : 4 ≤ K) (ha : a < K) (h : may4 a b c d = [0]) : may4 ((a + 1) % K) b c d = [1] := by
  rw [succ_mod ha]
  rw [may4_m4] at h
  obtain ⟨h1, h2, h3, h4⟩ := m4_0 _ _ _ _ h
  simp only [decide_eq_true_eq] at h1 h2 h3 h4
  exact m4_of (x := false) (y := false) (z := true) (u := true) (by rw [decide_eq_false_iff_not]; split <;> omega) (by rw [decide_eq_false_iff_not]; split <;> omega) (by simpa using h3) (by simpa using h4)
theorem one_b {a b c d : Nat} (h : may4 a b c d = [1]) : may4 a a c d = [2] := by
  rw [may4_m4] at h
  obtain ⟨h1, h2, h3, h4⟩ := m4_1 _ _ _ _ h
  simp only [decide_eq_true_eq, decide_eq_false_iff_not] at h1 h2 h3 h4
  exact m4_of (x := false) (y := true) (z := false) (u := true) (by simpa using h1) (by simp) (by rw [decide_eq_false_iff_not]; omega) (by simpa using h4)
theorem one_c {a b c d : Nat} (h : may4 a b c d = [2]) : may4 a b b d = [3] := by
  rw [may4_m4] at h
  obtain ⟨h1, h2, h3, h4⟩ := m4_2 _ _ _ _ h
  simp only [decide_eq_true_eq, decide_eq_false_iff_not] at h1 h2 h3 h4
  exact m4_of (x := false) (y := true) (z := true) (u := false) (by simpa using h1) (by simpa using h2) (by simp) (by rw [decide_eq_false_iff_not]; omega)
theorem one_d {a b c d : Nat} (h : may4 a b c d = [3]) : may4 a b c c = [0] := by
  rw [may4_m4] at h
  obtain ⟨h1, h2, h3, h4⟩ := m4_3 _ _ _ _ h
  simp only [decide_eq_true_eq, decide_eq_false_iff_not] at h1 h2 h3 h4
  exact m4_of (x := true) (y := true) (z := true) (u := true) (by rw [decide_eq_true_eq]; omega) (by simpa using h2) (by simpa using h3) (by simp)
/-! the servers' states by their dots and ports -/
def stN (K : Nat) (D P : Nat → Nat) (i : Nat) : Nat := (P i + D i) % K
def pTest (K : Nat) (D P : Nat → Nat) (k : Nat) : Bool := (stN K D P k == stN K D P ((k + 3) % 4)) == (k == 0)
def mayL (K : Nat) (D P : Nat → Nat) : List Nat := (List.range 4).filter (pTest K D P)
theorem mayL_eq (K : Nat) (D P : Nat → Nat) : mayL K D P = may4 (stN K D P 0) (stN K D P 1) (stN K D P 2) (stN K D P 3) := by
  rw [may4_m4]
  have e : mayL K D P = m4 (pTest K D P 0) (!(pTest K D P 1)) (!(pTest K D P 2)) (!(pTest K D P 3)) := by
    unfold mayL m4
    simp only [List.range, List.range.loop, List.filter]
    cases pTest K D P 0 <;> cases pTest K D P 1 <;> cases pTest K D P 2 <;> cases pTest K D P 3 <;> rfl
  rw [e]
  unfold pTest
  congr 1
  · by_cases h : stN K D P 0 = stN K D P 3 <;> simp [h]
  · by_cases h : stN K D P 1 = stN K D P 0 <;> simp [h]
  · by_cases h : stN K D P 2 = stN K D P 1 <;> simp [h]
  · by_cases h : stN K D P 3 = stN K D P 2 <;> simp [h]
def putD (D : Nat → Nat) (k : Nat) : Nat → Nat := fun j => if j = k then goD D k else D j
def putP (P : Nat → Nat) (k : Nat) : Nat → Nat := fun j => if j = k then goP P k else P j
theorem stN_put (K : Nat) (D P : Nat → Nat) (k j : Nat) : stN K (putD D k) (putP P k) j = if j = k then (if k = 0 then (stN K D P 0 + 1) % K else stN K D P (k - 1)) else stN K D P j := by
  unfold stN putD putP goD goP
  by_cases h : j = k
  · simp only [if_pos h]
    by_cases h0 : k = 0
    · simp only [if_pos h0]; rw [Nat.mod_add_mod, Nat.add_assoc]
    · simp only [if_neg h0]
  · simp only [if_neg h]
def rankL (K : Nat) (D P : Nat → Nat) : Nat := rank4 K (stN K D P 0) (stN K D P 1) (stN K D P 2) (stN K D P 3)
theorem may4_mem {a b c d k : Nat} (h : k ∈ may4 a b c d) : (k = 0 ∧ a = d) ∨ (k = 1 ∧ b ≠ a) ∨ (k = 2 ∧ c ≠ b) ∨ (k = 3 ∧ d ≠ c) := by
  unfold may4 at h
  simp only [List.mem_append] at h
  rcases h with ((h | h) | h) | h
  · by_cases q : a = d
    · rw [if_pos q] at h; exact .inl ⟨List.mem_singleton.mp h, q⟩
    · rw [if_neg q] at h; cases h
  · by_cases q : b = a
    · rw [if_pos q] at h; cases h
    · rw [if_neg q] at h; exact .inr (.inl ⟨List.mem_singleton.mp h, q⟩)
  · by_cases q : c = b
    · rw [if_pos q] at h; cases h
    · rw [if_neg q] at h; exact .inr (.inr (.inl ⟨List.mem_singleton.mp h, q⟩))
  · by_cases q : d = c
    · rw [if_pos q] at h; cases h
    · rw [if_neg q] at h; exact .inr (.inr (.inr ⟨List.mem_singleton.mp h, q⟩))
theorem stN_lt {K : Nat} (hK : 4 ≤ K) (D P : Nat → Nat) (i : Nat) : stN K D P i < K := Nat.mod_lt _ (by omega)
theorem step_may {K : Nat} (hK : 4 ≤ K) {D P : Nat → Nat} {k : Nat} (hk : k ∈ mayL K D P) :
    (mayL K (putD D k) (putP P k)).length ≤ (mayL K D P).length ∧ (rankL K D P = 0 ∨ rankL K (putD D k) (putP P k) < rankL K D P) ∧ (mayL K D P = [k] → mayL K (putD D k) (putP P k) = [(k + 1) % 4]) := by
  unfold rankL
  rw [mayL_eq] at hk
  rw [mayL_eq K D P, mayL_eq K (putD D k)]
  simp only [stN_put]
  have ha := stN_lt hK D P 0
  have hb := stN_lt hK D P 1
  have hc := stN_lt hK D P 2
  have hd := stN_lt hK D P 3
  rcases may4_mem hk with ⟨rfl, h⟩ | ⟨rfl, h⟩ | ⟨rfl, h⟩ | ⟨rfl, h⟩
  · have := mv_a hK ha hb hc hd h
    exact ⟨this.1, this.2, one_a hK ha⟩
  · have := mv_b ha hb hc hd h
    exact ⟨this.1, this.2, one_b⟩
  · have := mv_c ha hb hc hd h
    exact ⟨this.1, this.2, one_c⟩
  · have := mv_d ha hb hc hd h
    exact ⟨this.1, this.2, one_d⟩
theorem rankL_zero {K : Nat} (hK : 4 ≤ K) (D P : Nat → Nat) : rankL K D P = 0 ↔ (mayL K D P).length = 1 := by
  rw [mayL_eq]; exact rank_zero (stN_lt hK D P 0) (stN_lt hK D P 1) (stN_lt hK D P 2) (stN_lt hK D P 3)
theorem mayL_pos {K : Nat} (hK : 4 ≤ K) (D P : Nat → Nat) : 1 ≤ (mayL K D P).length := by
  rw [mayL_eq, len_may4 (stN_lt hK D P 0) (stN_lt hK D P 1) (stN_lt hK D P 2) (stN_lt hK D P 3)]; exact cnt_pos _ _ _
theorem rankL_le (K : Nat) (D P : Nat → Nat) : rankL K D P ≤ 13 := rk_le _ _ _
def ringL (m n : Nat) : List Nat := (List.range n).map fun t => (m + t) % 4
def runD (D : Nat → Nat) (l : List Nat) : Nat → Nat := l.foldl putD D
def runP (P : Nat → Nat) (l : List Nat) : Nat → Nat := l.foldl putP P
def ordStep (o : List Nat) (k : Nat) : List Nat := o.filter (fun j => j != k) ++ [k]
def ordOf (w : List Nat) : List Nat := w.foldl ordStep [0, 1, 2, 3]
/-- the run, before turn i: the dots, the ports, who went, the list of before -/
structure Inv (K p0 i : Nat) (D P : Nat → Nat) (went bl : List Nat) : Prop where
  len : went.length = i
  kind : ∀ k ∈ went, k < 4
  d : ∀ j, j < 4 → 1 ≤ D j ∧ D j ≤ i + 1
  p : ∀ j, j < 4 → P j < 65536
  d0 : D 0 = 1 + went.count 0
  pa : P 0 = p0
  bl4 : (mayL K D P).length ≤ bl.length
  ble : bl.length ≤ 4
  early : i ≤ 13 → rankL K D P + i ≤ 13 ∨ rankL K D P = 0
  late : 13 ≤ i → (mayL K D P).length = 1
  round : 13 < i → mayL K D P = [(bl.headD 0 + 1) % 4]
  hist : 13 ≤ i → ∃ w D13 P13 m, m < 4 ∧ w.length = 13 ∧ (∀ k ∈ w, k < 4) ∧ went = w ++ ringL m (i - 13) ∧ D = runD D13 (ringL m (i - 13)) ∧ P = runP P13 (ringL m (i - 13)) ∧ D13 0 = 1 + w.count 0 ∧ P13 0 = p0 ∧ mayL K D P = [(m + (i - 13)) % 4]
theorem mayL_lt {K : Nat} {D P : Nat → Nat} {k : Nat} (h : k ∈ mayL K D P) : k < 4 := by
  unfold mayL at h
  exact List.mem_range.mp (List.mem_filter.mp h).1
theorem mayL_le (K : Nat) (D P : Nat → Nat) : (mayL K D P).length ≤ 4 := by
  have : (mayL K D P).length ≤ (List.range 4).length := List.length_filter_le _ _
  simpa using this
theorem ringL_succ (m n : Nat) : ringL m (n + 1) = ringL m n ++ [(m + n) % 4] := by
  unfold ringL; rw [List.range_succ, List.map_append]; rfl
theorem Inv.start {K : Nat} (hK : 4 ≤ K) {P : Nat → Nat} (hP : ∀ j, j < 4 → P j < 65536) : Inv K (P 0) 0 (fun _ => 1) P [] [0, 1, 2, 3] where
  len := rfl
  kind := by simp
  d := fun j _ => by omega
  p := hP
  d0 := rfl
  pa := rfl
  bl4 := by
    have : (mayL K (fun _ => 1) P).length ≤ (List.range 4).length := List.length_filter_le _ _
    simpa using this
  ble := by decide
  early := fun _ => .inl (by have := rankL_le K (fun _ => 1) P; omega)
  late := fun h => by omega
  round := fun h => by omega
  hist := fun h => by omega
theorem Inv.step {K p0 i : Nat} {D P : Nat → Nat} {went bl : List Nat} (hK : 4 ≤ K) (I : Inv K p0 i D P went bl) {k : Nat} (hk : k ∈ mayL K D P) : Inv K p0 (i + 1) (putD D k) (putP P k) (went ++ [k]) (mayL K D P) := by
  have hk4 := mayL_lt hk
  obtain ⟨s1, s2, s3⟩ := step_may hK hk
  have hone : (mayL K D P).length = 1 → mayL K D P = [k] := fun h => by
    obtain ⟨x, hx⟩ := List.length_eq_one_iff.mp h
    rw [hx] at hk ⊢
    rw [List.mem_singleton.mp hk]
  have hlate : 13 ≤ i → mayL K D P = [k] := fun h => hone (I.late h)
  refine ⟨by simp [I.len], fun x hx => ?_, fun j hj => ?_, fun j hj => ?_, ?_, ?_, s1, mayL_le K D P, fun h => ?_, fun h => ?_, fun h => ?_, fun h => ?_⟩
  · rcases List.mem_append.mp hx with hx | hx
    · exact I.kind x hx
    · rw [List.mem_singleton.mp hx]; exact hk4
  · unfold putD goD
    have h0 := I.d 0 (by omega)
    have h1 := I.d (k - 1) (by omega)
    have h2 := I.d j hj
    split
    · split <;> omega
    · omega
  · unfold putP goP
    have h0 := I.p 0 (by omega)
    have h1 := I.p (k - 1) (by omega)
    have h2 := I.p j hj
    split
    · split <;> omega
    · omega
  · unfold putD goD
    rw [List.count_append, I.d0]
    by_cases h : k = 0
    · subst h; simp; omega
    · rw [if_neg (fun e => h e.symm), List.count_singleton, if_neg (by simpa using h), Nat.add_zero]
  · unfold putP goP
    by_cases h : k = 0
    · subst h; simp; exact I.pa
    · rw [if_neg (fun e => h e.symm)]; exact I.pa
  · rcases I.early (by omega) with e | e
    · rcases s2 with s2 | s2
      · right
        rw [rankL_zero hK] at s2 ⊢
        have := mayL_pos hK (putD D k) (putP P k)
        omega
      · left; omega
    · right
      rw [rankL_zero hK] at e ⊢
      have := mayL_pos hK (putD D k) (putP P k)
      omega
  · by_cases h13 : 13 ≤ i
    · rw [s3 (hlate h13)]; rfl
    · have hi : i = 12 := by omega
      subst hi
      rw [← rankL_zero hK]
      rcases I.early (by omega) with e | e
      · rcases s2 with s2 | s2
        · rw [rankL_zero hK] at s2 ⊢
          have := mayL_pos hK (putD D k) (putP P k)
          omega
        · omega
      · rw [rankL_zero hK] at e ⊢
        have := mayL_pos hK (putD D k) (putP P k)
        omega
  · rw [s3 (hlate (by omega)), hlate (by omega)]; rfl
  · by_cases h13 : 13 ≤ i
    · obtain ⟨w, D13, P13, m, hm, hw, hw4, e1, e2, e3, e4, e5, e6⟩ := I.hist h13
      have hkm : k = (m + (i - 13)) % 4 := by
        have := hlate h13
        rw [e6] at this
        exact (List.cons.inj this).1.symm
      have hi : i + 1 - 13 = (i - 13) + 1 := by omega
      refine ⟨w, D13, P13, m, hm, hw, hw4, ?_, ?_, ?_, e4, e5, ?_⟩
      · rw [hi, ringL_succ, e1, hkm, List.append_assoc]
      · rw [hi, ringL_succ, hkm]; conv => lhs; rw [e2]
        unfold runD; rw [List.foldl_append]; rfl
      · rw [hi, ringL_succ, hkm]; conv => lhs; rw [e3]
        unfold runP; rw [List.foldl_append]; rfl
      · rw [s3 (hlate h13), hkm, hi]
        congr 1
        omega
    · have hi : i = 12 := by omega
      subst hi
      have hlen : (mayL K (putD D k) (putP P k)).length = 1 := by
        rw [← rankL_zero hK]
        rcases I.early (by omega) with e | e
        · rcases s2 with s2 | s2
          · rw [rankL_zero hK] at s2 ⊢
            have := mayL_pos hK (putD D k) (putP P k)
            omega
          · omega
        · rw [rankL_zero hK] at e ⊢
          have := mayL_pos hK (putD D k) (putP P k)
          omega
      obtain ⟨m, hm⟩ := List.length_eq_one_iff.mp hlen
      have hm4 : m < 4 := mayL_lt (k := m) (by rw [hm]; exact .head _)
      refine ⟨went ++ [k], putD D k, putP P k, m, hm4, by simp [I.len], ?_, by simp [ringL], rfl, rfl, ?_, ?_, ?_⟩
      · intro x hx
        rcases List.mem_append.mp hx with hx | hx
        · exact I.kind x hx
        · rw [List.mem_singleton.mp hx]; exact hk4
      · unfold putD goD
        rw [List.count_append, I.d0]
        by_cases h : k = 0
        · subst h; simp; omega
        · rw [if_neg (fun e => h e.symm), List.count_singleton, if_neg (by simpa using h), Nat.add_zero]
      · unfold putP goP
        by_cases h : k = 0
        · subst h; simp; exact I.pa
        · rw [if_neg (fun e => h e.symm)]; exact I.pa
      · rw [hm]
        congr 1
        omega
theorem ordStep_lt {o : List Nat} {k : Nat} (h : ∀ j ∈ o, j < 4) (hk : k < 4) : ∀ j ∈ ordStep o k, j < 4 := fun j hj => by
  rcases List.mem_append.mp hj with hj | hj
  · exact h j (List.mem_filter.mp hj).1
  · rw [List.mem_singleton.mp hj]; exact hk
theorem ordOf_lt : ∀ (w : List Nat) (o : List Nat), (∀ j ∈ o, j < 4) → (∀ k ∈ w, k < 4) → ∀ j ∈ w.foldl ordStep o, j < 4
  | [], _, h, _ => h
  | k :: r, o, h, hw => ordOf_lt r (ordStep o k) (ordStep_lt h (hw k (.head _))) fun x hx => hw x (.tail _ hx)
theorem four_last {o : List Nat} (h : ∀ j ∈ o, j < 4) {a b c d : Nat} (hall : ∀ j, j < 4 → j = a ∨ j = b ∨ j = c ∨ j = d) (hab : a ≠ b) (hac : a ≠ c) (had : a ≠ d) (hbc : b ≠ c) (hbd : b ≠ d) (hcd : c ≠ d) : [a, b, c, d].foldl ordStep o = [a, b, c, d] := by
  simp only [List.foldl, ordStep, List.filter_append, List.filter_filter]
  have e : o.filter (fun j => (j != d) && ((j != c) && ((j != b) && (j != a)))) = [] := by
    rw [List.filter_eq_nil_iff]
    intro j hj
    have := hall j (h j hj)
    simp
    omega
  rw [e]
  have b1 : (a == b) = false := by simpa using hab
  have b2 : (a == c) = false := by simpa using hac
  have b3 : (a == d) = false := by simpa using had
  have b4 : (b == c) = false := by simpa using hbc
  have b5 : (b == d) = false := by simpa using hbd
  have b6 : (c == d) = false := by simpa using hcd
  simp [List.filter, b1, b2, b3, b4, b5, b6, bne]
structure Fin20 (p0 : Nat) (D P : Nat → Nat) (went : List Nat) (last : Nat) : Prop where
  lt : last < 4
  lst : went.getLast? = some last
  ord : ordOf went = [(last + 1) % 4, (last + 2) % 4, (last + 3) % 4, (last + 4) % 4]
  d : ∀ k, k < 4 → D k = went.count 0 + (if k ≤ last then 1 else 0)
  p : ∀ k, k < 4 → P k = p0
  all : ∀ k, k < 4 → k ∈ went
theorem Inv.fin {K p0 : Nat} {D P : Nat → Nat} {went bl : List Nat} (I : Inv K p0 20 D P went bl) : ∃ last, Fin20 p0 D P went last := by
  obtain ⟨w, D13, P13, m, hm, hw, hw4, rfl, rfl, rfl, e4, e5, e6⟩ := I.hist (by omega)
  have ho : ∀ j ∈ ordOf w, j < 4 := ordOf_lt w _ (by intro j hj; simp at hj; omega) hw4
  have hd0 := (I.d 0 (by omega)).1
  have h4 : m = 0 ∨ m = 1 ∨ m = 2 ∨ m = 3 := by omega
  rcases h4 with rfl | rfl | rfl | rfl
  · refine ⟨2, by omega, ?_, ?_, ?_, ?_, ?_⟩
    · simp [ringL, List.range, List.range.loop]
    · unfold ordOf
      rw [List.foldl_append]
      show List.foldl ordStep (List.foldl ordStep (ordOf w) [0, 1, 2]) [3, 0, 1, 2] = [3, 0, 1, 2]
      exact four_last (ordOf_lt _ _ ho (by decide)) (by omega) (by omega) (by omega) (by omega) (by omega) (by omega) (by omega)
    · intro k hk
      rw [List.count_append]
      have : k = 0 ∨ k = 1 ∨ k = 2 ∨ k = 3 := by omega
      rcases this with rfl | rfl | rfl | rfl <;> simp [ringL, List.range, List.range.loop, runD, putD, goD] <;> omega
    · intro k hk
      have : k = 0 ∨ k = 1 ∨ k = 2 ∨ k = 3 := by omega
      rcases this with rfl | rfl | rfl | rfl <;> simp [ringL, List.range, List.range.loop, runP, putP, goP, e5]
    · intro k hk
      refine List.mem_append.mpr (.inr ?_)
      have : k = 0 ∨ k = 1 ∨ k = 2 ∨ k = 3 := by omega
      rcases this with rfl | rfl | rfl | rfl <;> decide
  · refine ⟨3, by omega, ?_, ?_, ?_, ?_, ?_⟩
    · simp [ringL, List.range, List.range.loop]
    · unfold ordOf
      rw [List.foldl_append]
      show List.foldl ordStep (List.foldl ordStep (ordOf w) [1, 2, 3]) [0, 1, 2, 3] = [0, 1, 2, 3]
      exact four_last (ordOf_lt _ _ ho (by decide)) (by omega) (by omega) (by omega) (by omega) (by omega) (by omega) (by omega)
    · intro k hk
      rw [List.count_append]
      have : k = 0 ∨ k = 1 ∨ k = 2 ∨ k = 3 := by omega
      rcases this with rfl | rfl | rfl | rfl <;> simp [ringL, List.range, List.range.loop, runD, putD, goD] <;> omega
    · intro k hk
      have : k = 0 ∨ k = 1 ∨ k = 2 ∨ k = 3 := by omega
      rcases this with rfl | rfl | rfl | rfl <;> simp [ringL, List.range, List.range.loop, runP, putP, goP, e5]
    · intro k hk
      refine List.mem_append.mpr (.inr ?_)
      have : k = 0 ∨ k = 1 ∨ k = 2 ∨ k = 3 := by omega
      rcases this with rfl | rfl | rfl | rfl <;> decide
  · refine ⟨0, by omega, ?_, ?_, ?_, ?_, ?_⟩
    · simp [ringL, List.range, List.range.loop]
    · unfold ordOf
      rw [List.foldl_append]
      show List.foldl ordStep (List.foldl ordStep (ordOf w) [2, 3, 0]) [1, 2, 3, 0] = [1, 2, 3, 0]
      exact four_last (ordOf_lt _ _ ho (by decide)) (by omega) (by omega) (by omega) (by omega) (by omega) (by omega) (by omega)
    · intro k hk
      rw [List.count_append]
      have : k = 0 ∨ k = 1 ∨ k = 2 ∨ k = 3 := by omega
      rcases this with rfl | rfl | rfl | rfl <;> simp [ringL, List.range, List.range.loop, runD, putD, goD] <;> omega
    · intro k hk
      have : k = 0 ∨ k = 1 ∨ k = 2 ∨ k = 3 := by omega
      rcases this with rfl | rfl | rfl | rfl <;> simp [ringL, List.range, List.range.loop, runP, putP, goP, e5]
    · intro k hk
      refine List.mem_append.mpr (.inr ?_)
      have : k = 0 ∨ k = 1 ∨ k = 2 ∨ k = 3 := by omega
      rcases this with rfl | rfl | rfl | rfl <;> decide
  · refine ⟨1, by omega, ?_, ?_, ?_, ?_, ?_⟩
    · simp [ringL, List.range, List.range.loop]
    · unfold ordOf
      rw [List.foldl_append]
      show List.foldl ordStep (List.foldl ordStep (ordOf w) [3, 0, 1]) [2, 3, 0, 1] = [2, 3, 0, 1]
      exact four_last (ordOf_lt _ _ ho (by decide)) (by omega) (by omega) (by omega) (by omega) (by omega) (by omega) (by omega)
    · intro k hk
      rw [List.count_append]
      have : k = 0 ∨ k = 1 ∨ k = 2 ∨ k = 3 := by omega
      rcases this with rfl | rfl | rfl | rfl <;> simp [ringL, List.range, List.range.loop, runD, putD, goD] <;> omega
    · intro k hk
      have : k = 0 ∨ k = 1 ∨ k = 2 ∨ k = 3 := by omega
      rcases this with rfl | rfl | rfl | rfl <;> simp [ringL, List.range, List.range.loop, runP, putP, goP, e5]
    · intro k hk
      refine List.mem_append.mpr (.inr ?_)
      have : k = 0 ∨ k = 1 ∨ k = 2 ∨ k = 3 := by omega
      rcases this with rfl | rfl | rfl | rfl <;> decide
structure EsInv (D P : Nat → Nat) (went : List Nat) (es : List Ent) : Prop where
  lt : ∀ e ∈ es, e.i < 4
  row : ∀ e ∈ es, e.r = row (D e.i) (P e.i)
  all : ∀ j, j < 4 → ∃ e ∈ es, e.i = j
  len : es.length ≤ 4
  ord : es.map Ent.i = ordOf went
  up : ∀ e ∈ es, e.i ∈ went → e.up = true
theorem EsInv.rows {D P : Nat → Nat} {went : List Nat} {es : List Ent} (I : EsInv D P went es) : Rows es D P := fun j hj => by
  obtain ⟨e, he, hi⟩ := I.all j hj
  cases q : es.find? (fun e => e.i == j) with
  | none =>
    have := List.find?_eq_none.mp q e he
    simp [hi] at this
  | some x =>
    have h1 := List.find?_some q
    have h2 := List.mem_of_find?_eq_some q
    have h3 : x.i = j := by simpa using h1
    exact ⟨x, rfl, by rw [← h3]; exact I.row x h2⟩
theorem EsInv.step {D P : Nat → Nat} {went : List Nat} {es : List Ent} (I : EsInv D P went es) {k : Nat} (hk : k < 4) {x : Ent} (hx : x.i = k) (hu : x.up = true) (hr : x.r = Mine.row (goD D k) (goP P k)) :
    EsInv (putD D k) (putP P k) (went ++ [k]) (es.filter (fun e => e.i != k) ++ [x]) := by
  have sub : ∀ e ∈ es.filter (fun e => e.i != k), e ∈ es ∧ e.i ≠ k := fun e he => by
    have := List.mem_filter.mp he
    exact ⟨this.1, by simpa using this.2⟩
  refine ⟨fun e he => ?_, fun e he => ?_, fun j hj => ?_, ?_, ?_, fun e he hw => ?_⟩
  · rcases List.mem_append.mp he with he | he
    · exact I.lt e (sub e he).1
    · rw [List.mem_singleton.mp he, hx]; exact hk
  · unfold putD putP
    rcases List.mem_append.mp he with he | he
    · rw [if_neg (sub e he).2, if_neg (sub e he).2]; exact I.row e (sub e he).1
    · rw [List.mem_singleton.mp he, if_pos hx, if_pos hx]; exact hr
  · by_cases h : j = k
    · exact ⟨x, List.mem_append.mpr (.inr (.head _)), by rw [hx, h]⟩
    · obtain ⟨e, he, hi⟩ := I.all j hj
      exact ⟨e, List.mem_append.mpr (.inl (List.mem_filter.mpr ⟨he, by simp [hi, h]⟩)), hi⟩
  · obtain ⟨e, he, hi⟩ := I.all k hk
    have h1 : (es.filter (fun e => e.i != k)).length < es.length := by
      refine Nat.lt_of_le_of_ne (List.length_filter_le _ _) fun q => ?_
      have := List.length_filter_eq_length_iff.mp q e he
      simp [hi] at this
    have := I.len
    rw [List.length_append, List.length_singleton]; omega
  · unfold ordOf
    rw [List.map_append, List.foldl_append]
    show _ = ordStep (ordOf went) k
    unfold ordStep
    rw [← I.ord, List.filter_map]
    congr 1
    simp [hx]
  · rcases List.mem_append.mp he with he | he
    · refine I.up e (sub e he).1 ?_
      rcases List.mem_append.mp hw with hw | hw
      · exact hw
      · exact absurd (List.mem_singleton.mp hw) (sub e he).2
    · rw [List.mem_singleton.mp he]; exact hu
theorem go_news {g h h' : Heap} {L r : Addr} {m : Str → Option Value} {pre : List (Addr × Obj)} {tb : Tb} {es : List Ent} {k n2 : Nat} {x : Str} {tn tr : Tok} (F : Fr g L h m) (N : News g L h (pre ++ tb.news es)) (hpre : ∀ p ∈ pre, p.1 ≠ tb.hl)
    (hs : ∀ b o, b ≠ tb.hl → h.get? b = some o → h'.get? b = some o) (hf : h.get? r = none) (hr : h'.get? r = some (tupO (.str (nm true k) tn) (.str x tr)))
    (hl : h'.get? tb.hl = some (W.listOf (((es.filter fun e : Ent => e.i != k).map fun e => Value.ref e.a) ++ [Value.ref r] : List Value).toArray n2)) :
    Fr g L h' m ∧ News g L h' (pre ++ ({ tb with n2 := n2 } : Tb).news (es.filter (fun e => e.i != k) ++ [⟨r, true, k, x, tn, tr⟩])) := by
  have hB : ∀ q ∈ tb.news es, h.get? q.1 = some q.2 := fun q hq => (N q (List.mem_append.mpr (.inr hq))).1
  obtain ⟨ne1, ne2, ne3⟩ := tab_ne hB
  have zl := N (tb.hl, _) (List.mem_append.mpr (.inr (.tail _ (.tail _ (.head _)))))
  have hgl : ∀ b o, g.get? b = some o → b ≠ tb.hl := fun b o e q => by rw [q, zl.2.2] at e; cases e
  refine ⟨⟨F.ns.at' fun o e => hs _ o (Ne.symm zl.2.1) e, fun b o e => hs b o (hgl b o e) (F.keep b o e), F.above⟩, fun q hq => ?_⟩
  rcases List.mem_append.mp hq with hq | hq
  · have y := N q (List.mem_append.mpr (.inl hq))
    exact ⟨hs _ _ (hpre q hq) y.1, y.2⟩
  · rcases List.mem_cons.mp hq with rfl | hq
    · have y := N _ (List.mem_append.mpr (.inr (.head _)))
      exact ⟨hs _ _ ne1 y.1, y.2⟩
    · rcases List.mem_cons.mp hq with rfl | hq
      · have y := N _ (List.mem_append.mpr (.inr (.tail _ (.head _))))
        exact ⟨hs _ _ ne2 y.1, y.2⟩
      · rcases List.mem_cons.mp hq with rfl | hq
        · refine ⟨?_, zl.2⟩
          simp only [List.map_append, List.map_cons, List.map_nil]
          exact hl
        · unfold tupsOf at hq
          rw [List.map_append] at hq
          rcases List.mem_append.mp hq with hq | hq
          · obtain ⟨e, he, rfl⟩ := List.mem_map.mp hq
            have hm : (e.a, e.obj) ∈ tupsOf es := List.mem_map.mpr ⟨e, (List.mem_filter.mp he).1, rfl⟩
            have y := N _ (List.mem_append.mpr (.inr (.tail _ (.tail _ (.tail _ hm)))))
            exact ⟨hs _ _ (ne3 _ hm) y.1, y.2⟩
          · rw [List.mem_singleton.mp hq]
            refine ⟨hr, fun e => ?_, ?_⟩
            · obtain ⟨oL, _, _, hL, _⟩ := F.ns
              dsimp only at e
              rw [e, hL] at hf; cases hf
            · dsimp only
              cases z : g.get? r with
              | none => rfl
              | some o => rw [F.keep _ _ z] at hf; cases hf
theorem ne_obj {h : Heap} {a b : Addr} {oa ob : Obj} (ha : h.get? a = some oa) (hb : h.get? b = some ob) (hne : oa ≠ ob) : @Ne Nat a b := fun e => by
  rw [show a = b from e, hb] at ha
  exact hne (Option.some.inj ha).symm
def kindOf : Data → Nat
  | .cell _ => 1
  | .seq _ _ => 2
  | .dict _ _ => 3
  | .plain => 4
  | _ => 5
theorem ne_kind {h : Heap} {a b : Addr} {oa ob : Obj} (ha : h.get? a = some oa) (hb : h.get? b = some ob) (hne : kindOf oa.data ≠ kindOf ob.data) : @Ne Nat a b :=
  ne_obj ha hb fun e => hne (by rw [e])
theorem ints_no_refs {vs : List Value} {ns : List Int} {es : List Ent} {n n' : Nat} (h : IntsAre vs ns) {e : Ent} (he : e ∈ es) : W.listOf vs.toArray n ≠ W.listOf (es.map fun e => Value.ref e.a).toArray n' := fun q => by
  have h1 : vs = es.map fun e => Value.ref e.a := by
    have := congrArg Obj.data q
    simp [W.listOf] at this
    exact this.1
  have : Value.ref e.a ∈ vs := by rw [h1]; exact List.mem_map.mpr ⟨e, he, rfl⟩
  obtain ⟨n, t, z⟩ := h.all _ this
  cases z
structure TurnNe (L bl wl dl : Nat) (tb : Tb) (es : List Ent) : Prop where
  w1 : @Ne Nat (L + 1 + 1 + 1) wl
  w2 : @Ne Nat (L + 1 + 1) wl
  w3 : @Ne Nat (L + 1) wl
  w4 : @Ne Nat tb.o wl
  w5 : @Ne Nat tb.dx wl
  w6 : @Ne Nat tb.hl wl
  w7 : ∀ p ∈ tupsOf es, p.1 ≠ wl
  c1 : @Ne Nat bl (L + 1 + 1 + 1)
  c3 : @Ne Nat dl (L + 1 + 1 + 1)
  c4 : @Ne Nat tb.o (L + 1 + 1 + 1)
  c5 : @Ne Nat tb.dx (L + 1 + 1 + 1)
  c6 : @Ne Nat tb.hl (L + 1 + 1 + 1)
  c7 : ∀ p ∈ tupsOf es, p.1 ≠ (L + 1 + 1 + 1 : Nat)
  h1 : @Ne Nat bl tb.hl
  h2 : @Ne Nat dl tb.hl
  h3 : @Ne Nat (L + 1 + 1) tb.hl
  h4 : @Ne Nat (L + 1) tb.hl
theorem turn_ne {g h : Heap} {Lx : Addr} {L bl wl dl : Nat} {vb vw vd : List Value} {nb nw n : Nat} {nsb nsw nsd : List Int} {o3 o2 o1 : Obj} {tb : Tb} {es : List Ent}
    (N : News g Lx h ((bl, W.listOf vb.toArray nb) :: (wl, W.listOf vw.toArray nw) :: (dl, W.listOf vd.toArray n) :: (L + 1 + 1 + 1, o3) :: (L + 1 + 1, o2) :: (L + 1, o1) :: tb.news es))
    (hvb : IntsAre vb nsb) (hvw : IntsAre vw nsw) (hvd : IntsAre vd nsd) {e : Ent} (he : e ∈ es) {x3 x2 x1 : Option Value} (k3 : o3.data = .cell x3) (k2 : o2.data = .cell x2) (k1 : o1.data = .cell x1) : TurnNe L bl wl dl tb es := by
  have gb := (N _ (.head _)).1
  have gw := (N _ (.tail _ (.head _))).1
  have gd := (N _ (.tail _ (.tail _ (.head _)))).1
  have g3 := (N _ (.tail _ (.tail _ (.tail _ (.head _))))).1
  have g2 := (N _ (.tail _ (.tail _ (.tail _ (.tail _ (.head _)))))).1
  have g1 := (N _ (.tail _ (.tail _ (.tail _ (.tail _ (.tail _ (.head _))))))).1
  have go := (N _ (.tail _ (.tail _ (.tail _ (.tail _ (.tail _ (.tail _ (.head _)))))))).1
  have gx := (N _ (.tail _ (.tail _ (.tail _ (.tail _ (.tail _ (.tail _ (.tail _ (.head _))))))))).1
  have gl := (N _ (.tail _ (.tail _ (.tail _ (.tail _ (.tail _ (.tail _ (.tail _ (.tail _ (.head _)))))))))).1
  have gt : ∀ p ∈ tupsOf es, h.get? p.1 = some p.2 := fun p hp => (N _ (.tail _ (.tail _ (.tail _ (.tail _ (.tail _ (.tail _ (.tail _ (.tail _ (.tail _ hp)))))))))).1
  clear N
  dsimp only at gb gw gd g3 g2 g1 go gx gl
  have tup : ∀ p ∈ tupsOf es, ∃ a b, p.2 = tupO a b := fun p hp => by
    obtain ⟨e, _, rfl⟩ := List.mem_map.mp hp
    exact ⟨_, _, rfl⟩
  refine ⟨ne_kind g3 gw (by rw [k3]; simp [kindOf, W.listOf]), ne_kind g2 gw (by rw [k2]; simp [kindOf, W.listOf]), ne_kind g1 gw (by rw [k1]; simp [kindOf, W.listOf]),
    ne_kind go gw (by simp [kindOf, W.listOf, instObj]), ne_kind gx gw (by simp [kindOf, W.listOf, dictOf]), ne_obj gl gw (ints_no_refs hvw he).symm, fun p hp => ?_,
    ne_kind gb g3 (by rw [k3]; simp [kindOf, W.listOf]), ne_kind gd g3 (by rw [k3]; simp [kindOf, W.listOf]), ne_kind go g3 (by rw [k3]; simp [kindOf, instObj]), ne_kind gx g3 (by rw [k3]; simp [kindOf, dictOf]),
    ne_kind gl g3 (by rw [k3]; simp [kindOf, W.listOf]), fun p hp => ?_, ne_obj gb gl (ints_no_refs hvb he), ne_obj gd gl (ints_no_refs hvd he), ne_kind g2 gl (by rw [k2]; simp [kindOf, W.listOf]), ne_kind g1 gl (by rw [k1]; simp [kindOf, W.listOf])⟩
  · obtain ⟨a, b, q⟩ := tup p hp
    have z := gt p hp
    rw [q] at z
    exact ne_obj z gw fun e => by have := congrArg Obj.cls e; simp [W.listOf] at this
  · obtain ⟨a, b, q⟩ := tup p hp
    have z := gt p hp
    rw [q] at z
    exact ne_kind z g3 (by rw [k3]; simp [kindOf])
/-- the loop, before turn i -/
def LoopJ (L : Nat) (sl wl dl : Addr) (five o2 o1 : Obj) (K p0 i : Nat) (m : Str → Option Value) (news : List (Addr × Obj)) : Prop :=
  m "script" = some (.ref sl) ∧ m "went" = some (.ref wl) ∧ ∃ tb bl nb nw x3 o3 vb vw D P went bll es, m "table" = some (.ref (Tb.o tb)) ∧ m "before" = some (.ref bl) ∧ @Ne Nat bl wl ∧ o3.data = .cell x3 ∧
    IntsAre vb (bll.map fun k => ((k : Nat) : Int)) ∧ IntsAre vw (went.map fun k => ((k : Nat) : Int)) ∧ Inv K p0 i D P went bll ∧ EsInv D P went es ∧
    news = (bl, W.listOf vb.toArray nb) :: (wl, W.listOf vw.toArray nw) :: (dl, five) :: (L + 1 + 1 + 1, o3) :: (L + 1 + 1, o2) :: (L + 1, o1) :: tb.news es
theorem TurnNe.cells {L bl wl dl : Nat} {tb : Tb} {es : List Ent} {o2 o1 : Obj} (T : TurnNe L bl wl dl tb es) : ∀ p ∈ (L + 1 + 1, o2) :: (L + 1, o1) :: tb.news es, p.1 ≠ (L + 1 + 1 + 1 : Nat) := fun p hp => by
  rcases List.mem_cons.mp hp with rfl | hp
  · exact Nat.ne_of_lt (Nat.lt_succ_self _)
  · rcases List.mem_cons.mp hp with rfl | hp
    · exact Nat.ne_of_lt (Nat.lt_succ_of_lt (Nat.lt_succ_self _))
    · rcases List.mem_cons.mp hp with rfl | hp
      · exact T.c4
      · rcases List.mem_cons.mp hp with rfl | hp
        · exact T.c5
        · rcases List.mem_cons.mp hp with rfl | hp
          · exact T.c6
          · exact T.c7 p hp
theorem TurnNe.went {L bl wl dl : Nat} {tb : Tb} {es : List Ent} {od o3 o2 o1 : Obj} (T : TurnNe L bl wl dl tb es) (hd : @Ne Nat dl wl) : ∀ p ∈ (dl, od) :: (L + 1 + 1 + 1, o3) :: (L + 1 + 1, o2) :: (L + 1, o1) :: tb.news es, p.1 ≠ wl := fun p hp => by
  rcases List.mem_cons.mp hp with rfl | hp
  · exact hd
  · rcases List.mem_cons.mp hp with rfl | hp
    · exact T.w1
    · rcases List.mem_cons.mp hp with rfl | hp
      · exact T.w2
      · rcases List.mem_cons.mp hp with rfl | hp
        · exact T.w3
        · rcases List.mem_cons.mp hp with rfl | hp
          · exact T.w4
          · rcases List.mem_cons.mp hp with rfl | hp
            · exact T.w5
            · rcases List.mem_cons.mp hp with rfl | hp
              · exact T.w6
              · exact T.w7 p hp
theorem TurnNe.hl {L bl wl dl : Nat} {tb : Tb} {es : List Ent} {ob ow od o3 o2 o1 : Obj} (T : TurnNe L bl wl dl tb es) : ∀ p ∈ [(bl, ob), (wl, ow), (dl, od), (L + 1 + 1 + 1, o3), (L + 1 + 1, o2), (L + 1, o1)], p.1 ≠ tb.hl := fun p hp => by
  rcases List.mem_cons.mp hp with rfl | hp
  · exact T.h1
  · rcases List.mem_cons.mp hp with rfl | hp
    · exact fun q => T.w6 q.symm
    · rcases List.mem_cons.mp hp with rfl | hp
      · exact T.h2
      · rcases List.mem_cons.mp hp with rfl | hp
        · exact fun q => T.c6 q.symm
        · rcases List.mem_cons.mp hp with rfl | hp
          · exact T.h3
          · rw [List.mem_singleton.mp hp]; exact T.h4
theorem ints4 {vs : List Value} {p q r s : Int} (h : IntsAre vs [p, q, r, s]) : ∃ t0 t1 t2 t3, vs = [.int p t0, .int q t1, .int r t2, .int s t3] := by
  cases h with
  | cons _ t0 h => cases h with
    | cons _ t1 h => cases h with
      | cons _ t2 h => cases h with
        | cons _ t3 h => cases h; exact ⟨t0, t1, t2, t3, rfl⟩
theorem outs_ints : ∀ {outs : List Out}, (∀ o ∈ outs, (∃ t, o.2.1 = .int ((o.1 : Nat) : Int) t ∧ o.2.2 = []) ∧ ∀ q ∈ o.2.2, True) → IntsAre (outs.map fun o => o.2.1) ((outs.map fun o => o.1).map fun k => ((k : Nat) : Int))
  | [], _ => .nil
  | o :: r, h => by
    obtain ⟨⟨t, e, _⟩, _⟩ := h o (.head _)
    rw [List.map_cons, List.map_cons, List.map_cons, e]
    exact .cons _ _ (outs_ints fun o ho => h o (.tail _ ho))
theorem int_beq (x y : Nat) : (((x : Nat) : Int) == ((y : Nat) : Int)) = (x == y) := by
  by_cases h : x = y
  · subst h; simp
  · have h' : ¬ ((x : Nat) : Int) = ((y : Nat) : Int) := by omega
    rw [beq_eq_false_iff_ne.mpr h, beq_eq_false_iff_ne.mpr h']
theorem head_cast (l : List Nat) : ((l.map fun k => ((k : Nat) : Int)).getD (Int.toNat 0) 0 + 1).fmod 4 = (((l.headD 0 + 1) % 4 : Nat) : Int) := by
  have e : ((l.map fun k => ((k : Nat) : Int)).getD (Int.toNat 0) 0) = ((l.headD 0 : Nat) : Int) := by
    cases l <;> rfl
  rw [e, Int.fmod_eq_emod_of_nonneg _ (by decide)]
  rfl
theorem pick_in {l : List Nat} (hl : 1 ≤ l.length) (pv : Int) : ∃ k ∈ l, (l.map fun k => ((k : Nat) : Int)).getD (pv.fmod (((l.map fun k => ((k : Nat) : Int)).length : Nat) : Int)).toNat 0 = ((k : Nat) : Int) := by
  rw [List.length_map]
  have h1 : (0 : Int) ≤ pv.fmod (l.length : Int) := Int.fmod_nonneg_of_pos _ (by omega)
  have h2 : pv.fmod (l.length : Int) < (l.length : Int) := Int.fmod_lt_of_pos _ (by omega)
  have h3 : (pv.fmod (l.length : Int)).toNat < l.length := by omega
  refine ⟨l[(pv.fmod (l.length : Int)).toNat], List.getElem_mem _, ?_⟩
  rw [List.getD_eq_getElem?_getD, List.getElem?_map, List.getElem?_eq_getElem h3]
  rfl
theorem last_get (l : List Nat) (k : Nat) : ((l ++ [k]).map fun k => ((k : Nat) : Int)).getD (-1 + ((((l ++ [k]).map fun k => ((k : Nat) : Int)).length : Nat) : Int)).toNat 0 = ((k : Nat) : Int) := by
  rw [List.length_map, List.length_append, List.length_singleton]
  rw [show (-1 + ((l.length + 1 : Nat) : Int)).toNat = l.length by omega]
  rw [List.getD_eq_getElem?_getD, List.getElem?_map, List.getElem?_concat_length]
  rfl
theorem last_split {w : List Nat} {x : Nat} (h : w.getLast? = some x) : ∃ w0, w = w0 ++ [x] := by
  obtain ⟨ys, e⟩ := List.getLast?_eq_some_iff.mp h
  exact ⟨ys, e⟩
/-- the list of the due, before its turn i -/
def DueJ (L : Nat) (sl wl dl ul : Addr) (tbo : Value) (ow five o3 o2 o1 : Obj) (tabs : List (Addr × Obj)) (b cnt last : Nat) (lt : Tok) (i : Nat) (m : Str → Option Value) (news : List (Addr × Obj)) : Prop :=
  m "script" = some (.ref sl) ∧ m "went" = some (.ref wl) ∧ m "table" = some tbo ∧ m "last" = some (.int ((last : Nat) : Int) lt) ∧ m "due" = some (.ref ul) ∧ ∃ us nu, us.map Ent.i = (List.range i).map (fun t => (last + 1 + t) % 4) ∧
    (∀ u ∈ us, Ent.up u = true ∧ u.r = row (cnt + if u.i ≤ last then 1 else 0) b) ∧ news = (ul, W.listOf (us.map fun e => Value.ref e.a).toArray nu) :: (wl, ow) :: (dl, five) :: (L + 1 + 1 + 1, o3) :: (L + 1 + 1, o2) :: (L + 1, o1) :: (tabs ++ tupsOf us)
theorem count_cast (l : List Nat) : List.count (0 : Int) (l.map fun k => ((k : Nat) : Int)) = l.count 0 := by
  induction l with
  | nil => rfl
  | cons a r ih =>
    rw [List.map_cons, List.count_cons, List.count_cons, ih]
    have : (((a : Nat) : Int) == 0) = (a == 0) := int_beq a 0
    rw [this]
theorem tups_snoc {tabs : List (Addr × Obj)} {us : List Ent} {x : Ent} {q : Addr × Obj} (h : q ∈ tabs ++ tupsOf (us ++ [x])) : q ∈ tabs ++ tupsOf us ∨ q = (x.a, x.obj) := by
  rcases List.mem_append.mp h with h | h
  · exact .inl (List.mem_append.mpr (.inl h))
  · unfold tupsOf at h
    rw [List.map_append] at h
    rcases List.mem_append.mp h with h | h
    · exact .inl (List.mem_append.mpr (.inr h))
    · exact .inr (List.mem_singleton.mp h)
theorem due_turn {g h : Heap} {L I ul : Addr} {oI : Obj} {rest : List (Addr × Obj)} {tabs : List (Addr × Obj)} {us : List Ent} {x : Ent} {nu : Nat}
    (N : News g L h ((x.a, x.obj) :: (I, oI) :: (ul, W.listOf ((us.map fun e => Value.ref e.a).toArray.push (.ref x.a)) nu) :: (rest ++ (tabs ++ tupsOf us)))) :
    News g L h ((I, oI) :: (ul, W.listOf ((us ++ [x]).map fun e => Value.ref e.a).toArray nu) :: (rest ++ (tabs ++ tupsOf (us ++ [x])))) := fun q hq => by
  rcases List.mem_cons.mp hq with rfl | hq
  · exact N _ (.tail _ (.head _))
  · rcases List.mem_cons.mp hq with rfl | hq
    · have z := N _ (.tail _ (.tail _ (.head _)))
      rw [List.map_append, List.map_cons, List.map_nil]
      rw [List.push_toArray] at z
      exact z
    · rcases List.mem_append.mp hq with hq | hq
      · exact N _ (.tail _ (.tail _ (.tail _ (List.mem_append.mpr (.inl hq)))))
      · rcases tups_snoc hq with hq | rfl
        · exact N _ (.tail _ (.tail _ (.tail _ (List.mem_append.mpr (.inr hq)))))
        · exact N _ (.head _)
theorem new_tup {M : Model} {g : Heap} {L : Addr} {m : Str → Option Value} {news : List (Addr × Obj)} {x y : Value} (F : Fr g L s.heap m) (N : News g L s.heap news)
    (h : ∀ (T : Addr) (h' : Heap), Fr g L h' m → News g L h' ((T, tupO x y) :: news) → (∀ p ∈ news, p.1 ≠ T) → Q (.ref T) { s with heap := h' }) : wpAny M A (newTuple [x, y]) Q E s := by
  refine wpAny_newTuple ?_
  refine keep3 (r := s.heap.objs.size) (o := tupO x y) F N (fun b o e => Heap.get?_push_of_some _ e) ?_ (Heap.get?_push_size _ rfl) fun F4 N4 ne4 => h _ _ F4 N4 ne4
  cases z : s.heap.get? s.heap.objs.size with
  | none => rfl
  | some o => exact absurd (Heap.lt_size z) (Nat.lt_irrefl _)
def dE (e : Ent) : PyData := .tuple [.str (nm e.up e.i), .str e.r]
theorem reads_es {h : Heap} : ∀ {es : List Ent}, (∀ q ∈ tupsOf es, h.get? q.1 = some q.2) → ∃ as, ReadsAll h (es.map fun e => Value.ref e.a) (es.map dE) as
  | [], _ => ⟨_, .nil⟩
  | e :: r, H => by
    obtain ⟨as, h1⟩ := reads_es (es := r) fun q hq => H q (.tail _ hq)
    have h2 := H (e.a, e.obj) (.head _)
    exact ⟨_, .cons (PyProof.Rows.reads_tuple_at h2 rfl rfl (.cons (.str _ _) (.cons (.str _ _) .nil))) h1⟩
theorem strOk_of {x : Str} (h : ∀ c ∈ x.cps.toList, 32 ≤ c ∧ c < 127) : PyData.strOk x = true := by
  unfold PyData.strOk
  rw [← Array.all_toList, List.all_eq_true]
  intro c hc
  have := (h c hc).2
  simp only [decide_eq_true_eq]
  omega
theorem lay_es : ∀ {es : List Ent}, (∀ e ∈ es, e.i < 5 ∧ ∃ d p, e.r = row d p) → PyData.canLayAll0 (es.map dE) = true ∧ PyData.depthAll (es.map dE) ≤ 1
  | [], _ => ⟨rfl, by simp [PyData.depthAll]⟩
  | e :: r, H => by
    obtain ⟨h1, h2⟩ := lay_es (es := r) fun x hx => H x (.tail _ hx)
    obtain ⟨hi, d, p, hr⟩ := H e (.head _)
    have s1 := strOk_of (nm_range e.up hi)
    have s2 : PyData.strOk e.r = true := by rw [hr]; exact strOk_of (row_range d p)
    refine ⟨?_, ?_⟩
    · rw [List.map_cons]
      simp [PyData.canLayAll0, dE, PyData.canLay0, s1, s2, h1]
    · rw [List.map_cons]
      simp only [PyData.depthAll, dE, PyData.depth]
      omega
theorem eq_tabs {Q : Value → Shared → Prop} {r ul : Addr} {n n' : Nat} {es us : List Ent} (hr : s.heap.get? r = some (W.listOf (es.map fun e => Value.ref e.a).toArray n)) (hu : s.heap.get? ul = some (W.listOf (us.map fun e => Value.ref e.a).toArray n'))
    (he : ∀ q ∈ tupsOf es, s.heap.get? q.1 = some q.2) (hut : ∀ q ∈ tupsOf us, s.heap.get? q.1 = some q.2) (hes : es.map dE = us.map dE) (hok : ∀ e ∈ es, e.i < 5 ∧ ∃ d p, e.r = row d p)
    (hun : A.units + 64 < cLine) (h : Q (.bool true) s) : wpAny (model prog w) A (compareOp .Eq (.ref r) (.ref ul)) Q E s := by
  obtain ⟨as, h1⟩ := reads_es he
  obtain ⟨bs, h2⟩ := reads_es hut
  obtain ⟨l1, l2⟩ := lay_es hok
  have c1 : PyData.canLay0 (.list (es.map dE)) = true := by simpa [PyData.canLay0] using l1
  have sh : SeqAt.shaped (.list (es.map dE)) = true := by
    unfold SeqAt.shaped
    rw [c1, Bool.true_and]
    refine decide_eq_true ?_
    simp only [PyData.depth]
    omega
  refine PyProof.Rows.eq_dataH (PyProof.Rows.reads_list_at hr rfl rfl h1) (PyProof.Rows.reads_list_at hu rfl rfl h2) sh (hes ▸ sh) hun ?_
  rw [← hes, SeqAt.eqv_refl _ c1]
  exact h
theorem due_eq {D P : Nat → Nat} {went : List Nat} {es us : List Ent} {p0 last : Nat} (hE : EsInv D P went es) (fn : Fin20 p0 D P went last) (hus : us.map Ent.i = (List.range 4).map fun t => (last + 1 + t) % 4)
    (hur : ∀ u ∈ us, Ent.up u = true ∧ u.r = row (went.count 0 + if u.i ≤ last then 1 else 0) p0) : es.map dE = us.map dE := by
  have e1 : es.map dE = (es.map Ent.i).map fun i => PyData.tuple [.str (nm true i), .str (row (went.count 0 + if i ≤ last then 1 else 0) p0)] := by
    rw [List.map_map]
    refine List.map_congr_left fun e he => ?_
    have hi := hE.lt e he
    unfold dE
    rw [hE.up e he (fn.all _ hi), hE.row e he, fn.d _ hi, fn.p _ hi]
    rfl
  have e2 : us.map dE = (us.map Ent.i).map fun i => PyData.tuple [.str (nm true i), .str (row (went.count 0 + if i ≤ last then 1 else 0) p0)] := by
    rw [List.map_map]
    refine List.map_congr_left fun e he => ?_
    unfold dE
    rw [(hur e he).1, (hur e he).2]
    rfl
  rw [e1, e2, hus, hE.ord, fn.ord]
  rfl
def CutEnd (g : Heap) (L : Addr) (s : Shared) (P : (Str → Option Value) → List (Addr × Obj) → Prop) (f : Flow) (s' : Shared) : Prop :=
  f = .next ∧ ∃ h' tk m' news', s' = { s with heap := h', toks := tk } ∧ Fr g L h' m' ∧ News g L h' news' ∧ P m' news'
theorem CutEnd.intro {g h' : Heap} {L : Addr} {s : Shared} {P : (Str → Option Value) → List (Addr × Obj) → Prop} {tk : Nat} {m' : Str → Option Value} {news' : List (Addr × Obj)} (F : Fr g L h' m') (N : News g L h' news') (p : P m' news') :
    CutEnd g L s P .next { s with heap := h', toks := tk } := ⟨rfl, _, _, _, _, rfl, F, N, p⟩
theorem cut_ {M : Model} {S : Stmt} {rest : List Stmt} {env : Env} {g : Heap} {L : Addr} {Q : Flow → Shared → Prop} {E : Value → Shared → Prop} {h : Heap} {m : Str → Option Value} (F : Fr g L h m) (P : (Str → Option Value) → List (Addr × Obj) → Prop)
    (h1 : wpAny M A (exec S env) (CutEnd g L s P) E s)
    (h2 : ∀ h' tk m' news', Fr g L h' m' → News g L h' news' → P m' news' → wpAny M A (execs rest env) Q E { s with heap := h', toks := tk }) : wpAny M A (execs (S :: rest) env) Q E s := by
  refine wpAny_execs_cons (wpAny_mono h1 (fun f s' hf => ?_) fun _ _ e => e)
  obtain ⟨rfl, h', tk, m', news', rfl, F, N, p⟩ := hf
  exact h2 h' tk m' news' F N p
theorem paired_ints {f : Int → Int} : ∀ {vs ys : List Value} {ns : List Int}, IntsAre vs ns → Paired (fun v y => ∃ n t t', v = .int n t ∧ y = .int (f n) t') vs ys → IntsAre ys (ns.map f)
  | _, _, _, .nil, .nil => .nil
  | _, _, _, .cons n t h, .cons e p => by
    obtain ⟨n', u, u', e1, e2⟩ := e
    cases e1
    rw [e2]
    exact .cons _ _ (paired_ints h p)
theorem filter_all (l : List Value) : l.filter (fun _ => true) = l := List.filter_eq_self.mpr fun _ _ => rfl
theorem ints_shape {ys : Array Value} {ns : List Int} (h : IntsAre ys.toList ((ns.take 5).map fun x => x.fmod 65536)) :
    ∃ ds : List (Nat × Tok), ds.length ≤ 5 ∧ (∀ d ∈ ds, d.1 < 65536) ∧ ys = (ds.map fun d => Value.int (d.1 : Int) d.2).toArray := by
  have key : ∀ {vs : List Value} {ms : List Int}, IntsAre vs (ms.map fun x => x.fmod 65536) → ∃ ds : List (Nat × Tok), ds.length = vs.length ∧ (∀ d ∈ ds, d.1 < 65536) ∧ vs = ds.map fun d => Value.int (d.1 : Int) d.2 := by
    intro vs
    induction vs with
    | nil => intro ms _; exact ⟨[], rfl, by simp, rfl⟩
    | cons v r ih =>
      intro ms h
      cases ms with
      | nil => cases h
      | cons m ms =>
        cases h with
        | cons _ t h' =>
          obtain ⟨ds, h1, h2, h3⟩ := ih h'
          have e0 : 0 ≤ m.fmod 65536 := fmod_lo m (by decide)
          have e1 : m.fmod 65536 < 65536 := fmod_hi m (by decide)
          refine ⟨((m.fmod 65536).toNat, t) :: ds, by simp [h1], ?_, ?_⟩
          · intro d hd
            rcases List.mem_cons.mp hd with rfl | hd
            · dsimp only; omega
            · exact h2 d hd
          · rw [h3, List.map_cons]
            dsimp only
            rw [Int.toNat_of_nonneg e0]
  obtain ⟨ds, h1, h2, h3⟩ := key h
  refine ⟨ds, ?_, h2, ?_⟩
  · rw [h1, h.length, List.length_map, List.length_take]; omega
  · rw [← h3]
/-- how the law ends -/
def MainEnd (s₁ : Shared) (f : Flow) (s' : Shared) : Prop := f = .ret (.bool true) ∧ ∃ h' tk L m, s' = { heap := h', gens := s₁.gens, drawn := s₁.drawn, toks := tk, os := s₁.os } ∧ Fr s₁.heap L h' m
theorem MainEnd.intro {s₁ : Shared} {L : Addr} {h' : Heap} {tk : Nat} {m : Str → Option Value} (F : Fr s₁.heap L h' m) : MainEnd s₁ (.ret (.bool true)) { heap := h', gens := s₁.gens, drawn := s₁.drawn, toks := tk, os := s₁.os } := ⟨rfl, _, _, _, _, rfl, F⟩
theorem main_cut {M : Model} {T : Sem Flow} {s₁ : Shared} {c : ClaimW} {cl : Str → Option Addr} {mean : ExcName → Option Value} {args : List WData} {E' : Value → Shared → Prop} {h : Heap} {tk : Nat} {L : Addr} {m : Str → Option Value}
    (F0 : Fr s₁.heap L h m) (hg : s₁.gens = #[]) (hn : ∀ cls, c.raises args cls = false) (hp : c.post args (.bool true) args = true)
    (hw : wpAny M A T (MainEnd s₁) (fun _ _ => False) { heap := h, gens := s₁.gens, drawn := s₁.drawn, toks := tk, os := s₁.os }) :
    wpAny M A T (fun f s' => GoodW c cl mean args s₁ (.ok (.ret (match f with | .ret v => v | _ => .none))) s') E' { heap := h, gens := s₁.gens, drawn := s₁.drawn, toks := tk, os := s₁.os } := by
  refine wpAny_mono hw (fun f s' hf => ?_) fun _ _ e => e.elim
  obtain ⟨rfl, h', tk, L, m, rfl, F⟩ := hf
  exact goodW_bool F hg hn hp
abbrev fiveO (a b c d e : Nat) (t0 t1 t2 t3 t4 : Tok) (n : Nat) : Obj := W.listOf #[.int ((a : Nat) : Int) t0, .int ((b : Nat) : Int) t1, .int ((c : Nat) : Int) t2, .int ((d : Nat) : Int) t3, .int ((e : Nat) : Int) t4] n
def S2Bound (a b c d e : Nat) : Prop := a < 65536 ∧ b < 65536 ∧ c < 65536 ∧ d < 65536 ∧ e < 65536
def P2 (L : Nat) (sl : Addr) (o3 o2 : Obj) (m : Str → Option Value) (news : List (Addr × Obj)) : Prop := m "script" = some (.ref sl) ∧ ∃ o1 dl n a b c d e t0 t1 t2 t3 t4, news = (dl, fiveO a b c d e t0 t1 t2 t3 t4 n) :: [(L + 1 + 1 + 1, o3), (L + 1 + 1, o2), (L + 1, o1)] ∧ o1.data = .cell (some (.ref dl)) ∧ @LT.lt Nat _ (L + 1 + 1 + 1) dl ∧ S2Bound a b c d e
theorem s2_end {g h' : Heap} {L : Nat} {s : Shared} {sl D' : Addr} {o3 o2 o1 : Obj} {tk : Nat} {m' : Str → Option Value} {a b c d e : Nat} {t0 t1 t2 t3 t4 : Tok} {n : Nat} (mid : List (Addr × Obj)) (F : Fr g L h' m')
    (N : News g L h' ((D', fiveO a b c d e t0 t1 t2 t3 t4 n) :: (mid ++ [(L + 1 + 1 + 1, o3), (L + 1 + 1, o2), (L + 1, o1)]))) (m1 : m' "script" = some (.ref sl)) (d1 : o1.data = .cell (some (.ref D'))) (hlt : @LT.lt Nat _ (L + 1 + 1 + 1) D') (hb : S2Bound a b c d e) :
    CutEnd g L s (P2 L sl o3 o2) .next { s with heap := h', toks := tk } := by
  refine CutEnd.intro (news' := (D', fiveO a b c d e t0 t1 t2 t3 t4 n) :: [(L + 1 + 1 + 1, o3), (L + 1 + 1, o2), (L + 1, o1)]) F (news_sub N ?_) ⟨m1, o1, D', n, a, b, c, d, e, t0, t1, t2, t3, t4, rfl, d1, hlt, hb⟩
  intro q hq
  rcases List.mem_cons.mp hq with rfl | hq
  · exact .head _
  · exact .tail _ (List.mem_append.mpr (.inr hq))
theorem item_abcd4 {i : Nat} (hi : i < 4) : Txt.item (Str.ofString "abcd") (i : Int) = nm false i := by
  rw [nm_lit]
  have : i = 0 ∨ i = 1 ∨ i = 2 ∨ i = 3 := by omega
  rcases this with rfl | rfl | rfl | rfl <;> rfl
local macro_rules | `(tactic| walk_at "m_in") => `(tactic| (intro q hq; with_reducible (repeat (first | exact hq | refine List.mem_cons_of_mem _ ?_))))
local macro_rules | `(tactic| walk_at "exec Assign cons ListComp") => `(tactic| refine stop_ ?_)
local macro_rules | `(tactic| walk_at "compareOp Eq ref ref") => `(tactic| refine stop_ ?_)
local macro_rules | `(tactic| walk_at "newTuple") => `(tactic| refine stop_ ?_)
local macro_rules | `(tactic| walk_at "call ref") => `(tactic| refine stop_ ?_)
theorem ents_of {P : Nat → Nat} {Good : Addr × Obj → Prop} : ∀ {outs : List Out}, (∀ o ∈ outs, (∃ T tn tr, o.2.1 = .ref T ∧ o.2.2 = [(T, tupO (.str (nm false o.1) tn) (.str (row 1 (P o.1)) tr))]) ∧ ∀ q ∈ o.2.2, Good q) →
    ∃ es : List Ent, (outs.map fun o => o.2.1) = (es.map fun e => Value.ref e.a) ∧ es.map Ent.i = outs.map (fun o => o.1) ∧ (∀ e ∈ es, e.r = row 1 (P e.i)) ∧ ∀ q ∈ tupsOf es, Good q
  | [], _ => ⟨[], rfl, rfl, by simp, by simp [tupsOf]⟩
  | o :: r, h => by
    obtain ⟨es, h1, h2, h3, h4⟩ := ents_of fun o ho => h o (.tail _ ho)
    obtain ⟨⟨T, tn, tr, e1, e2⟩, hg⟩ := h o (.head _)
    refine ⟨⟨T, false, o.1, row 1 (P o.1), tn, tr⟩ :: es, by simp [h1, e1], by simp [h2], fun e he => ?_, fun q hq => ?_⟩
    · rcases List.mem_cons.mp he with rfl | he
      · rfl
      · exact h3 e he
    · rcases List.mem_cons.mp hq with rfl | hq
      · exact hg _ (by rw [e2]; exact .head _)
      · exact h4 q hq
theorem news_add {g h h' : Heap} {L : Addr} {m : Str → Option Value} {news extra : List (Addr × Obj)} (F : Fr g L h m) (N : News g L h news) (hs : h.StaysIn h') (hx : ∀ q ∈ extra, h.get? q.1 = none ∧ h'.get? q.1 = some q.2) : News g L h' (news ++ extra) := fun q hq => by
  rcases List.mem_append.mp hq with hq | hq
  · exact N.grown hs q hq
  · refine ⟨(hx q hq).2, fun e => ?_, ?_⟩
    · obtain ⟨oL, _, _, hL, _⟩ := F.ns
      have := (hx q hq).1
      rw [e, hL] at this; cases this
    · cases z : g.get? q.1 with
      | none => rfl
      | some o => have := (hx q hq).1; rw [F.keep _ _ z] at this; cases this
theorem fold_aux {f : Nat → Int} : ∀ (es : List Ent) (ns : List Int), ns.length = 4 → (∀ e ∈ es, e.i < 4) → (es.foldl (fun ns e => ns.set e.i (f e.i)) ns).length = 4 ∧ ∀ j, j < 4 → ((∃ e ∈ es, e.i = j) ∨ ns[j]? = some (f j)) → (es.foldl (fun ns e => ns.set e.i (f e.i)) ns)[j]? = some (f j)
  | [], ns, h, _ => ⟨h, fun j _ hj => by
      rcases hj with ⟨e, he, _⟩ | hj
      · exact absurd he (by simp)
      · exact hj⟩
  | e :: r, ns, h, hi => by
    have := fold_aux (f := f) r (ns.set e.i (f e.i)) (by rw [List.length_set]; exact h) fun e' he' => hi e' (.tail _ he')
    refine ⟨this.1, fun j hj hx => this.2 j hj ?_⟩
    by_cases hej : e.i = j
    · subst hej
      exact .inr (by rw [List.getElem?_set_self (by omega)])
    · rcases hx with ⟨e', he', q⟩ | hx
      · rcases List.mem_cons.mp he' with rfl | he'
        · exact absurd q hej
        · exact .inl ⟨e', he', q⟩
      · exact .inr (by rw [List.getElem?_set_ne hej]; exact hx)
theorem states_fold {f : Nat → Int} {es : List Ent} (hi : ∀ e ∈ es, e.i < 4) (ha : ∀ j, j < 4 → ∃ e ∈ es, e.i = j) : es.foldl (fun ns e => ns.set e.i (f e.i)) [0, 0, 0, 0] = [f 0, f 1, f 2, f 3] := by
  obtain ⟨h1, h2⟩ := fold_aux (f := f) es [0, 0, 0, 0] rfl hi
  generalize es.foldl (fun ns e => ns.set e.i (f e.i)) [0, 0, 0, 0] = l at h1 h2
  have h0 := h2 0 (by omega) (.inl (ha 0 (by omega)))
  have h1' := h2 1 (by omega) (.inl (ha 1 (by omega)))
  have h2' := h2 2 (by omega) (.inl (ha 2 (by omega)))
  have h3 := h2 3 (by omega) (.inl (ha 3 (by omega)))
  match l, h1 with
  | [x, y, z, u], _ =>
    simp at h0 h1' h2' h3
    rw [h0, h1', h2', h3]
theorem stOf_port {K : Nat} {P : Nat → Nat} {i : Nat} : stOf K (fun _ => 1) P i = (((P i : Nat) : Int) + 1).fmod (K : Int) := by
  unfold stOf
  rw [Int.fmod_eq_emod_of_nonneg _ (Int.natCast_nonneg K)]
  rfl
def port0 (b c d e i : Nat) : Nat := if i = 0 then b else if i = 1 then c else if i = 2 then d else e
theorem port0_lt {a b c d e : Nat} (hb : S2Bound a b c d e) (i : Nat) : port0 b c d e i < 65536 := by
  obtain ⟨h1, h2, h3, h4, h5⟩ := hb
  unfold port0; repeat' split
  all_goals assumption
theorem main_try.tw9550595261871092873 : True := trivial
theorem main_try.tw9350515668827688795 : True := trivial
theorem main_try.tw15776148512285264040 : True := trivial
theorem main_try.tw9445320347001681794 : True := trivial
theorem main_try.tw9905567940999105394 : True := trivial
theorem main_try.tw16018376273583443465 : True := trivial
theorem main_try.tw1312383015986698690 : True := trivial
theorem main_try.tw15143975717374283428 : True := trivial
theorem main_try.tw16587964162257039940 : True := trivial
theorem main_try.tw16932081789038040474 : True := trivial
theorem main_try.tw8171810732097209075 : True := trivial
theorem main_try.tw13133816006027417025 : True := trivial
theorem main_try.tw158917165081966572 : True := trivial
theorem main_try.tw7409513566894147424 : True := trivial
theorem main_try.tw4664916824898993037 : True := trivial
theorem main_try.tw12730659376744344396 : True := trivial
theorem main_try.tw5529892960733168185 : True := trivial
theorem main_try.tw3650164806167339356 : True := trivial
theorem main_try.tw8694344978498042071 : True := trivial
theorem main_try.tw14295086009373367802 : True := trivial
theorem main_try.tw1045403155169780700 : True := trivial
theorem main_try.tw15470760464142264500 : True := trivial
theorem main_try.tw702941052626377386 : True := trivial
theorem main_try.tw17186587219394050006 : True := trivial
theorem main_try.tw16998138810232731 : True := trivial
theorem main_try.tw9433955255228384581 : True := trivial
theorem main_try.tw12179524429956887543 : True := trivial
theorem main_try.tw6129914038757405843 : True := trivial
theorem main_try.tw13713462696279961876 : True := trivial
theorem main_try.tw13529392638988618512 : True := trivial
theorem main_try.tw10532642799638746548 : True := trivial
theorem main_try.tw2528114728786451169 : True := trivial
theorem main_try.tw18151982933562358730 : True := trivial
theorem main_try.tw11433654126804795757 : True := trivial
theorem main_try.tw14644570192079634504 : True := trivial
theorem main_try.tw6754468283198793503 : True := trivial
theorem main_try.tw2912566934735423175 : True := trivial
theorem main_try.tw17564006603472560373 : True := trivial
theorem main_try.tw13054576605920453637 : True := trivial
theorem main_try.tw7428394214754545436 : True := trivial
theorem main_try.tw4403297661401200087 : True := trivial
theorem main_try.tw17233716736941586735 : True := trivial
theorem main_try.tw9356195596569686947 : True := trivial
theorem main_try.tw11943013746069055418 : True := trivial
theorem main_try.tw3643217113374307794 : True := trivial
theorem main_try.tw8786701748595863749 : True := trivial
theorem main_try.tw7742201760371439886 : True := trivial
theorem main_try.tw15088430819585784755 : True := trivial
theorem main_try.tw5579864797167830337 : True := trivial
theorem main_try.tw9780420802695681646 : True := trivial
theorem main_try.tw3528324981201646321 : True := trivial
theorem main_try.tw5174281382703077759 : True := trivial
theorem main_try.tw5363175005722439530 : True := trivial
theorem main_try.tw17977839063673147810 : True := trivial
theorem main_try.tw1627267420041705731 : True := trivial
theorem main_try.tw14485023702928559614 : True := trivial
theorem main_try.tw385892594151280032 : True := trivial
theorem main_try.tw2908791314051773834 : True := trivial
theorem main_try.tw13115950983588301687 : True := trivial
theorem main_try.tw6979443339139860719 : True := trivial
theorem main_try.tw12807700263089842288 : True := trivial
theorem main_try.tw16144084811704692991 : True := trivial
theorem main_try.tw4050361671430434474 : True := trivial
theorem main_try.tw12523723192379726461 : True := trivial
theorem main_try.tw13596656564022445008 : True := trivial
theorem main_try.tw6349493809936162288 : True := trivial
theorem main_try.tw5712347875632176219 : True := trivial
theorem main_try.tw8245731615904568476 : True := trivial
theorem main_try.tw783048371076361369 : True := trivial
theorem main_try.tw4723322010941038122 : True := trivial
theorem main_try.tw14198586355284453520 : True := trivial
theorem main_try.tw6089553272381255649 : True := trivial
theorem main_try.tw1009592614461379236 : True := trivial
theorem main_try.tw2466569397851770652 : True := trivial
theorem main_try.tw12144634475146818865 : True := trivial
theorem main_try.tw1201611082414058860 : True := trivial
theorem main_try.tw16230693503236265880 : True := trivial
theorem main_try.tw13469779512483932489 : True := trivial
theorem main_try.tw5549551721333555068 : True := trivial
theorem main_try.tw13220284294655026135 : True := trivial
theorem main_try.tw8323673993971160526 : True := trivial
theorem main_try.tw8183391642558352909 : True := trivial
theorem main_try.tw4250137848936934899 : True := trivial
theorem main_try.tw404422052330105681 : True := trivial
theorem main_try.tw13595997435765546121 : True := trivial
theorem main_try.tw4760654461161647114 : True := trivial
theorem main_try.tw11641330106934429705 : True := trivial
theorem main_try.tw13211337561365172222 : True := trivial
theorem main_try.tw17935905736209824962 : True := trivial
theorem main_try.tw5604317698366746076 : True := trivial
theorem main_try.tw3660217322576874459 : True := trivial
theorem main_try.tw13355764834817817393 : True := trivial
theorem main_try.tw3223820494510460077 : True := trivial
theorem main_try.tw7506718722562589470 : True := trivial
theorem main_try.tw15990734182921168180 : True := trivial
theorem main_try.tw3819538105791659143 : True := trivial
theorem main_try.tw12636960509774464865 : True := trivial
theorem main_try.tw2903563984868370471 : True := trivial
theorem main_try.tw4430559753215499206 : True := trivial
theorem main_try.tw2739547213157886576 : True := trivial
theorem main_try.tw15256256440939974088 : True := trivial
theorem main_try.tw10431173925750197472 : True := trivial
theorem main_try.tw16686981059322774559 : True := trivial
theorem main_try.tw155424474003581858 : True := trivial
theorem main_try.tw3504564239151375955 : True := trivial
theorem main_try.tw6054100341565504534 : True := trivial
theorem main_try.tw14515392251016589439 : True := trivial
theorem main_try.tw136109412771412816 : True := trivial
theorem main_try.tw13771893491384428523 : True := trivial
theorem main_try.tw7667386028049111585 : True := trivial
theorem main_try.tw11570637093897258811 : True := trivial
theorem main_try.tw8397600106523026938 : True := trivial
theorem main_try.tw3322668592553527151 : True := trivial
theorem main_try.tw16552399711976750025 : True := trivial
theorem main_try.tw15472458978935412776 : True := trivial
theorem main_try.tw11773884081273930481 : True := trivial
theorem main_try.tw5365714824014190403 : True := trivial
theorem main_try.tw2506817211599634100 : True := trivial
theorem main_try.tw2455430556970033615 : True := trivial
theorem main_try.tw3385274164204089839 : True := trivial
theorem main_try.tw17107077450361541785 : True := trivial
theorem main_try.tw7461042278923745514 : True := trivial
theorem main_try.tw6042942105318969907 : True := trivial
theorem main_try.tw3415214448187754449 : True := trivial
theorem main_try.tw5694531407622601738 : True := trivial
theorem main_try.tw3761407289174837621 : True := trivial
theorem main_try.tw10702321320693490696 : True := trivial
theorem main_try.tw3535538363415708927 : True := trivial
theorem main_try.tw17182444422566443907 : True := trivial
theorem main_try.tw1426427785282226829 : True := trivial
theorem main_try.tw10867508228289160585 : True := trivial
theorem main_try.tw15138960710810172471 : True := trivial
theorem main_try.tw11880108169310551198 : True := trivial
theorem main_try.tw13626178573271874140 : True := trivial
theorem main_try.tw9960990187124954971 : True := trivial
theorem main_try.tw18207095878656189185 : True := trivial
theorem main_try.tw5104870471009285575 : True := trivial
theorem main_try.tw11793037983172723654 : True := trivial
theorem main_try.tw14012151459172531339 : True := trivial
theorem main_try.tw14675765025996429656 : True := trivial
theorem main_try.tw14169859453979440589 : True := trivial
theorem main_try.tw10112371196521523197 : True := trivial
theorem main_try.tw9405182560710975045 : True := trivial
theorem main_try.tw9669538942871615406 : True := trivial
theorem main_try.tw14525477053523275510 : True := trivial
theorem main_try.tw14600726731255750163 : True := trivial
theorem main_try.tw6532322092371276707 : True := trivial
theorem main_try.tw3005871118811170297 : True := trivial
theorem main_try.tw7441386506779243372 : True := trivial
theorem main_try.tw8651079855419292989 : True := trivial
theorem main_try.tw10487012526156241523 : True := trivial
theorem main_try.tw5980708853400587505 : True := trivial
theorem main_try.tw10620517489998421531 : True := trivial
theorem main_try.tw7500973543250243849 : True := trivial
theorem main_try.tw13618124770726794082 : True := trivial
theorem main_try.tw10882628234924697036 : True := trivial
theorem main_try.tw17419528374337497125 : True := trivial
theorem main_try.tw15805323491451258429 : True := trivial
theorem main_try.tw5388687350947847646 : True := trivial
theorem main_try.tw14399707712533462331 : True := trivial
theorem main_try.tw6656868087986723151 : True := trivial
theorem main_try.tw13422755612150630597 : True := trivial
theorem main_try.tw11507261416311760838 : True := trivial
theorem main_try.tw524371062067838880 : True := trivial
theorem main_try.tw14514918091845794196 : True := trivial
theorem main_try.tw12227844996538891256 : True := trivial
theorem main_try.tw4336334944434798089 : True := trivial
theorem main_try.tw16149854166443041025 : True := trivial
theorem main_try.tw10731475102440185436 : True := trivial
theorem main_try.tw18212660658709803248 : True := trivial
theorem main_try.tw14524379337855942888 : True := trivial
theorem main_try.tw16881647769205064958 : True := trivial
theorem main_try.tw14123359902143318610 : True := trivial
theorem main_try.tw6331677813970799094 : True := trivial
theorem main_try.tw5433812897895300689 : True := trivial
theorem main_try.tw5224338462805347256 : True := trivial
theorem main_try.tw3001372456907784982 : True := trivial
theorem main_try.tw18193528496520568483 : True := trivial
theorem main_try.tw17179587129898606139 : True := trivial
theorem main_try.tw16401798598059846403 : True := trivial
theorem main_try.tw14827838906917802375 : True := trivial
set_option Elab.async true in
set_option maxHeartbeats 8000000 in
theorem main_try : PySem.Challenge.rw_tp0022_02.Holds := by
  w_on; o_law; k_head; (case hw => w_witness2)
  k_go0
  rename IntsAre _ _ => hI
  rename Fr _ _ _ _ => F0
  rename News _ _ _ _ => N0
  rename (¬ _ < _) => hcond
  rename (List Int) => ns
  rename (List Value) => vs
  rename Heap.IsList _ _ _ => hL
  rename Shared => s₁
  rename Top _ _ _ _ _ _ => T0
  rename Frag.In _ _ => KX
  rename World => w0
  replace KX : (hd.heap_1 w0.params).In _ := KX
  refine main_cut F0 (by assumption) ?nEnd ?pEnd ?mEnd
  case nEnd => exact raisesW_false (by wrow_none_raised)
  case pEnd => wrow_post
  case mEnd =>
    have hlen : ns.length ≤ 63 := by omega
    clear hcond
    dsimp only
    generalize hM : (bindL _ _ _ : Str → Option Value) = M₀ at F0
    obtain ⟨sl, m1, hL1⟩ : ∃ sl, M₀ "script" = some (.ref sl) ∧ s₁.heap.IsList sl vs.toArray := ⟨_, by rw [← hM]; rfl, hL⟩
    clear hM
    rename (Obj.data _ = Data.cell _) => e1
    revert e1
    rename (Obj.data _ = Data.cell _) => e2
    revert e2
    rename (Obj.data _ = Data.cell _) => e3
    intro e2 e1
    obtain ⟨o3, o2, o1, N1, d3, d2, d1⟩ : ∃ o3 o2 o1, News s₁.heap s₁.heap.objs.size _ [(s₁.heap.objs.size + 1 + 1 + 1, o3), (s₁.heap.objs.size + 1 + 1, o2), (s₁.heap.objs.size + 1, o1)] ∧ o3.data = .cell none ∧ o2.data = .cell none ∧ o1.data = .cell none := ⟨_, _, _, N0, e3, e2, e1⟩
    clear e1 e2 e3 N0
    rename CellsAre _ _ _ => z; clear z
    rename Dflts _ _ _ _ _ _ => z; clear z
    rename Below _ _ _ _ => z; clear z
    rename ReadsAllW _ _ _ _ _ _ => z; clear z
    rename Reads _ _ _ _ => z; clear z
    rename Well _ _ _ _ => z; clear z
    rename ReadsAll _ _ _ _ => z; clear z
    clear hL
    rename Heap.CodeRec _ _ _ => z; clear z
    rename BMod _ _ _ _ _ => z; clear z
    rename TopW _ _ _ => z; clear z
    rename TopE _ _ _ _ => z; clear z
    rename Tables _ _ _ _ => z; clear z
    rename Glob _ _ _ _ _ _ _ _ => z; clear z
    rename LooseAre _ _ _ => z; clear z
    rename Flt.MathXP _ _ _ => z; clear z
    rename Ground _ _ _ _ _ _ _ _ _ => z; clear z; rename Hook.says _ _ _ => z
    clear z
    refine cut_ F0 (fun m news => m "script" = some (.ref sl) ∧ ∃ o3 o2 o1 dl ys n, news = (dl, W.listOf ys n) :: [(s₁.heap.objs.size + 1 + 1 + 1, o3), (s₁.heap.objs.size + 1 + 1, o2), (s₁.heap.objs.size + 1, o1)] ∧ o3.data = .cell none ∧ o2.data = .cell none ∧ o1.data = .cell (some (.ref dl)) ∧ (@Ne Nat (s₁.heap.objs.size + 1 + 1 + 1) dl ∧ @Ne Nat (s₁.heap.objs.size + 1 + 1) dl ∧ @Ne Nat (s₁.heap.objs.size + 1) dl) ∧ IntsAre ys.toList ((ns.take 5).map fun x => x.fmod 65536)) ?s1 ?r1
    case s1 =>
      k_steps
      unfold Stop
      refine wpAny_Assign_Name ?_
      k_steps
      unfold Stop
      refine' comp_list ?hhS1 ?hclosS1 ?hcellS1 ?hkindS1 ?hnamesS1 ?hxS1 ?_ ?hsS1
      case hsS1 => intro _; rfl
      case hhS1 => exact rfl
      case hclosS1 => with_unfolding_all rfl
      case hcellS1 => decide
      case hkindS1 => rfl
      case hnamesS1 => decide
      case hxS1 => rfl
      k_steps
      all_goals (try k_data)
      with_reducible rename Fr _ _ _ _ => F1
      with_reducible rename News _ _ _ _ => N1
      rename IntsAre _ (List.take 5 _) => hI5
      have hl5 := hI5.length
      refine ⟨_, _, fun _ => true, fun v y => ∃ n t t', v = .int n t ∧ y = .int (n.fmod 65536) t', rfl, ⟨News.isList N1 (n := 0) (.head _), by simp only [List.size_toArray]; unfold sizeLine; omega, ?_, ?_, ?_⟩⟩
      · intro C v s₃ m₃ E' hv hC hn₃ hm₃ hk₃
        exact wpAny_tests_nil ⟨rfl, _, _, rfl, fun _ _ e => e⟩
      · intro C v s₃ m₃ E' hv _ hC hn₃ hm₃ hk₃
        obtain ⟨h₃, g₃, d₃, t₃, o₃⟩ := s₃
        dsimp only at hn₃ hk₃ hv ⊢
        obtain ⟨n, t, rfl⟩ := hI5.all v hv
        have F3 := F1.keeps hk₃
        have N3 := N1.grown hk₃
        clear F1 N1
        k_steps
        exact ⟨_, _, rfl, fun _ _ e => e⟩
      · intro D h' tk ys n hD hD' hP hk'
        dsimp only at hD hk' ⊢
        refine keep3 F1 N1 hk' hD hD' fun F3 N3 ne3 => ?_
        replace ne3 := allNe_of ne3
        simp only [AllNe, and_true] at ne3
        have hlD := ne3.2
        rw [filter_all] at hP
        have hys : IntsAre ys.toList ((ns.take 5).map fun x => x.fmod 65536) := paired_ints hI5 hP
        clear F1 N1
        k_steps
        with_reducible rename Fr _ _ _ _ => F9
        with_reducible rename News _ _ _ _ => N9
        refine CutEnd.intro F9 (news_sub N9 (tab := [_, _, _, _]) ?_) ⟨m1, o3, o2, _, D, ys, n, rfl, d3, d2, by assumption, hlD, hys⟩
        intro q hq
        rcases List.mem_cons.mp hq with rfl | hq
        · exact .head _
        · exact .tail _ (.tail _ hq)
    intro h tk m news F1 N1 ⟨m1, o3, o2, o1, dl, ys, n, hnews, d3, d2, d1, hld, hys⟩
    subst hnews
    dsimp only at F1 N1 ⊢
    refine cut_ F1 (P2 s₁.heap.objs.size sl o3 o2) ?s2 ?r2
    case s2 =>
      obtain ⟨ds, hds, hlt, rfl⟩ := ints_shape hys
      clear hys
      obtain ⟨hl3, hl2, hl1⟩ := hld
      rcases ds with _ | ⟨⟨x0, u0⟩, _ | ⟨⟨x1, u1⟩, _ | ⟨⟨x2, u2⟩, _ | ⟨⟨x3, u3⟩, _ | ⟨⟨x4, u4⟩, _ | ⟨x5, ds⟩⟩⟩⟩⟩⟩
      · --0
        try simp only [List.forall_mem_cons] at hlt
        dsimp only [List.map] at N1
        iterate 28 (first | (k_unfold; (try dsimp only)) | (walk1; (try dsimp only)))
        refine PySem.W.kba_turn (value' := PySem.Expr.Name (PySem.Str.ofString "_") ⟨0, 0, 0, 0⟩) (fun _ => rfl) ?_
        refine' PySem.W.kms_slice_lit (s := ⟨_, _, _, _, _⟩) (zs := [_, _, _, _, _]) ?sFS2 ?sNS2 ?slS2 ?spS2 ?sqS2 ?seS2 ?_ ?ssS2 ?stS2 ?szS2
        case sFS2 => assumption
        case sNS2 => assumption
        case slS2 => exact News.isList (by assumption) (.head _)
        case spS2 => constructor
        case sqS2 => constructor
        case seS2 => rfl
        case ssS2 => with_unfolding_all rfl
        case stS2 => intro _; with_unfolding_all rfl
        case szS2 => exact Nat.le_of_ble_eq_true rfl
        intro D h' F9 N9 l9
        k_lt l9
        dsimp only
        repeat (first | (k_unfold; (try dsimp only)) | (walk1; (try dsimp only)))
        with_reducible rename Fr _ _ _ _ => F9
        with_reducible rename News _ _ _ _ => N9
        refine s2_end (a := 0) (b := 0) (c := 2) (d := 1) (e := 0) [_, _, _] F9 N9 m1 (by assumption) ?_ ?_
        · omega
        · unfold S2Bound; omega
      · --1
        try simp only [List.forall_mem_cons] at hlt
        dsimp only [List.map] at N1
        iterate 28 (first | (k_unfold; (try dsimp only)) | (walk1; (try dsimp only)))
        refine PySem.W.kba_turn (value' := PySem.Expr.Name (PySem.Str.ofString "_") ⟨0, 0, 0, 0⟩) (fun _ => rfl) ?_
        refine' PySem.W.kms_slice_lit (s := ⟨_, _, _, _, _⟩) (zs := [_, _, _, _]) ?sFS2 ?sNS2 ?slS2 ?spS2 ?sqS2 ?seS2 ?_ ?ssS2 ?stS2 ?szS2
        case sFS2 => assumption
        case sNS2 => assumption
        case slS2 => exact News.isList (by assumption) (.head _)
        case spS2 => constructor
        case sqS2 => constructor
        case seS2 => rfl
        case ssS2 => with_unfolding_all rfl
        case stS2 => intro _; with_unfolding_all rfl
        case szS2 => exact Nat.le_of_ble_eq_true rfl
        intro D h' F9 N9 l9
        k_lt l9
        dsimp only
        repeat (first | (k_unfold; (try dsimp only)) | (walk1; (try dsimp only)))
        with_reducible rename Fr _ _ _ _ => F9
        with_reducible rename News _ _ _ _ => N9
        refine s2_end (a := x0) (b := 0) (c := 2) (d := 1) (e := 0) [_, _, _] F9 N9 m1 (by assumption) ?_ ?_
        · omega
        · unfold S2Bound; omega
      · --2
        try simp only [List.forall_mem_cons] at hlt
        dsimp only [List.map] at N1
        iterate 28 (first | (k_unfold; (try dsimp only)) | (walk1; (try dsimp only)))
        refine PySem.W.kba_turn (value' := PySem.Expr.Name (PySem.Str.ofString "_") ⟨0, 0, 0, 0⟩) (fun _ => rfl) ?_
        refine' PySem.W.kms_slice_lit (s := ⟨_, _, _, _, _⟩) (zs := [_, _, _]) ?sFS2 ?sNS2 ?slS2 ?spS2 ?sqS2 ?seS2 ?_ ?ssS2 ?stS2 ?szS2
        case sFS2 => assumption
        case sNS2 => assumption
        case slS2 => exact News.isList (by assumption) (.head _)
        case spS2 => constructor
        case sqS2 => constructor
        case seS2 => rfl
        case ssS2 => with_unfolding_all rfl
        case stS2 => intro _; with_unfolding_all rfl
        case szS2 => exact Nat.le_of_ble_eq_true rfl
        intro D h' F9 N9 l9
        k_lt l9
        dsimp only
        repeat (first | (k_unfold; (try dsimp only)) | (walk1; (try dsimp only)))
        with_reducible rename Fr _ _ _ _ => F9
        with_reducible rename News _ _ _ _ => N9
        refine s2_end (a := x0) (b := x1) (c := 2) (d := 1) (e := 0) [_, _, _] F9 N9 m1 (by assumption) ?_ ?_
        · omega
        · unfold S2Bound; omega
      · --3
        try simp only [List.forall_mem_cons] at hlt
        dsimp only [List.map] at N1
        iterate 28 (first | (k_unfold; (try dsimp only)) | (walk1; (try dsimp only)))
        refine PySem.W.kba_turn (value' := PySem.Expr.Name (PySem.Str.ofString "_") ⟨0, 0, 0, 0⟩) (fun _ => rfl) ?_
        refine' PySem.W.kms_slice_lit (s := ⟨_, _, _, _, _⟩) (zs := [_, _]) ?sFS2 ?sNS2 ?slS2 ?spS2 ?sqS2 ?seS2 ?_ ?ssS2 ?stS2 ?szS2
        case sFS2 => assumption
        case sNS2 => assumption
        case slS2 => exact News.isList (by assumption) (.head _)
        case spS2 => constructor
        case sqS2 => constructor
        case seS2 => rfl
        case ssS2 => with_unfolding_all rfl
        case stS2 => intro _; with_unfolding_all rfl
        case szS2 => exact Nat.le_of_ble_eq_true rfl
        intro D h' F9 N9 l9
        k_lt l9
        dsimp only
        repeat (first | (k_unfold; (try dsimp only)) | (walk1; (try dsimp only)))
        with_reducible rename Fr _ _ _ _ => F9
        with_reducible rename News _ _ _ _ => N9
        refine s2_end (a := x0) (b := x1) (c := x2) (d := 1) (e := 0) [_, _, _] F9 N9 m1 (by assumption) ?_ ?_
        · omega
        · unfold S2Bound; omega
      · --4
        try simp only [List.forall_mem_cons] at hlt
        dsimp only [List.map] at N1
        iterate 28 (first | (k_unfold; (try dsimp only)) | (walk1; (try dsimp only)))
        refine PySem.W.kba_turn (value' := PySem.Expr.Name (PySem.Str.ofString "_") ⟨0, 0, 0, 0⟩) (fun _ => rfl) ?_
        refine' PySem.W.kms_slice_lit (s := ⟨_, _, _, _, _⟩) (zs := [_]) ?sFS2 ?sNS2 ?slS2 ?spS2 ?sqS2 ?seS2 ?_ ?ssS2 ?stS2 ?szS2
        case sFS2 => assumption
        case sNS2 => assumption
        case slS2 => exact News.isList (by assumption) (.head _)
        case spS2 => constructor
        case sqS2 => constructor
        case seS2 => rfl
        case ssS2 => with_unfolding_all rfl
        case stS2 => intro _; with_unfolding_all rfl
        case szS2 => exact Nat.le_of_ble_eq_true rfl
        intro D h' F9 N9 l9
        k_lt l9
        dsimp only
        repeat (first | (k_unfold; (try dsimp only)) | (walk1; (try dsimp only)))
        with_reducible rename Fr _ _ _ _ => F9
        with_reducible rename News _ _ _ _ => N9
        refine s2_end (a := x0) (b := x1) (c := x2) (d := x3) (e := 0) [_, _, _] F9 N9 m1 (by assumption) ?_ ?_
        · omega
        · unfold S2Bound; omega
      · --5
        try simp only [List.forall_mem_cons] at hlt
        dsimp only [List.map] at N1
        iterate 28 (first | (k_unfold; (try dsimp only)) | (walk1; (try dsimp only)))
        refine PySem.W.kba_turn (value' := PySem.Expr.Name (PySem.Str.ofString "_") ⟨0, 0, 0, 0⟩) (fun _ => rfl) ?_
        refine' PySem.W.kms_slice_lit (s := ⟨_, _, _, _, _⟩) (zs := []) ?sFS2 ?sNS2 ?slS2 ?spS2 ?sqS2 ?seS2 ?_ ?ssS2 ?stS2 ?szS2
        case sFS2 => assumption
        case sNS2 => assumption
        case slS2 => exact News.isList (by assumption) (.head _)
        case spS2 => constructor
        case sqS2 => constructor
        case seS2 => rfl
        case ssS2 => with_unfolding_all rfl
        case stS2 => intro _; with_unfolding_all rfl
        case szS2 => exact Nat.le_of_ble_eq_true rfl
        intro D h' F9 N9 l9
        k_lt l9
        dsimp only
        repeat (first | (k_unfold; (try dsimp only)) | (walk1; (try dsimp only)))
        with_reducible rename Fr _ _ _ _ => F9
        with_reducible rename News _ _ _ _ => N9
        refine s2_end (a := x0) (b := x1) (c := x2) (d := x3) (e := x4) [_, _, _] F9 N9 m1 (by assumption) ?_ ?_
        · omega
        · unfold S2Bound; omega
      · simp at hds
    clear F1 N1 m1 hld hys d1
    intro h tk m news F1 N1 ⟨m1, o1, dl, n, a, b, c, d, e, t0, t1, t2, t3, t4, hnews, d1, hlt, hb⟩
    subst hnews
    dsimp only at F1 N1 ⊢
    refine cut_ F1 (fun m news => m "script" = some (.ref sl) ∧ ∃ o2 tz, news = (dl, fiveO a b c d e t0 t1 t2 t3 t4 n) :: [(s₁.heap.objs.size + 1 + 1 + 1, o3), (s₁.heap.objs.size + 1 + 1, o2), (s₁.heap.objs.size + 1, o1)] ∧ o2.data = .cell (some (.int ((4 + a : Nat) : Int) tz))) ?s3 ?r3
    case s3 =>
      repeat (first | (k_unfold; (try dsimp only)) | (walk1; (try dsimp only)))
      with_reducible rename Fr _ _ _ _ => F9
      with_reducible rename News _ _ _ _ => N9
      rename (Obj.data _ = Data.cell _) => dz
      have ez : (4 + [(a : Int), (b : Int), (c : Int), (d : Int), (e : Int)].getD (Int.toNat 0) 0 : Int) = ((4 + a : Nat) : Int) := by simp
      rw [ez] at dz
      exact CutEnd.intro F9 N9 ⟨m1, _, _, rfl, dz⟩
    clear F1 N1 m1
    intro h tk m news F1 N1 ⟨m1, o2, tz, hnews, d2⟩
    subst hnews
    dsimp only at F1 N1 ⊢
    refine cut_ F1 (fun m news => m "script" = some (.ref sl) ∧ ∃ tb : Tb, ∃ es : List Ent, m "table" = some (.ref tb.o) ∧ news = (dl, fiveO a b c d e t0 t1 t2 t3 t4 n) :: (s₁.heap.objs.size + 1 + 1 + 1, o3) :: (s₁.heap.objs.size + 1 + 1, o2) :: (s₁.heap.objs.size + 1, o1) :: tb.news es ∧ es.map Ent.i = [0, 1, 2, 3] ∧ ∀ e' ∈ es, e'.r = row 1 (port0 b c d e e'.i)) ?s4 ?r4
    case s4 =>
      repeat (first | (k_unfold; (try dsimp only)) | (walk1; (try dsimp only)))
      unfold Stop
      refine' comp_rangeX ?hhS4 ?hclosS4 ?hcellS4 ?hkindS4 ?hnamesS4 ?hxS4 ?_ ?hsS4
      case hsS4 => intro _; rfl
      case hhS4 => exact rfl
      case hclosS4 => with_unfolding_all rfl
      case hcellS4 => decide
      case hkindS4 => rfl
      case hnamesS4 => decide
      case hxS4 => rfl
      repeat (first | (k_unfold; (try dsimp only)) | (walk1; (try dsimp only)))
      rename IsRange _ _ _ _ _ _ _ _ => hR
      with_reducible rename Fr _ _ _ _ => F9
      with_reducible rename News _ _ _ _ => N9
      refine ⟨_, 4, fun _ => true, fun i y os => ∃ T tn tr, y = .ref T ∧ os = [(T, tupO (.str (nm false i) tn) (.str (row 1 (port0 b c d e i)) tr))], rfl, ⟨⟨_, _, _, hR⟩, by omega, ?testsS4, ?eltS4, ?outS4⟩⟩
      case testsS4 =>
        intro C i t s₃ m₃ E' hi hC hn₃ hm₃ hk₃
        exact wpAny_tests_nil ⟨rfl, _, _, rfl, fun _ _ e => e⟩
      case eltS4 =>
        intro C i t s₃ m₃ E' hi _ hC hn₃ hm₃ hk₃
        obtain ⟨h₃, g₃, d₃, t₃, o₃⟩ := s₃
        dsimp only at hn₃ hk₃ ⊢
        have F3 := F9.keeps hk₃
        have N3 := N9.grown hk₃
        clear F9 N9
        have hi4 : i = 0 ∨ i = 1 ∨ i = 2 ∨ i = 3 := by omega
        rcases hi4 with rfl | rfl | rfl | rfl
        · replace hm₃ : m₃ "k" = some (.int 0 t) := hm₃
          repeat (first | (k_unfold; (try dsimp only)) | (walk1; (try dsimp only)))
          refine row_spec (port := b) (dots := 1) KX T0 (Fr.keep F3) rfl hb.2.1 (by omega) (Nat.le_of_ble_eq_true rfl) (Nat.le_of_ble_eq_true rfl) ?_
          intro tr h5 tk5 hs5
          dsimp only at hs5
          replace F3 := F3.keeps hs5
          replace N3 := N3.grown hs5
          replace hn₃ := Heap.Ns.keeps hn₃ hs5
          repeat (first | (k_unfold; (try dsimp only)) | (walk1; (try dsimp only)))
          unfold Stop
          refine wpAny_newTuple ?_
          exact elt_tup hs5 ⟨_, _, _, rfl, by rw [show nm false 0 = Txt.item (Str.ofString "abcd") (((0 : Nat)) : Int) from (item_abcd4 (by omega)).symm]; rfl⟩
        · replace hm₃ : m₃ "k" = some (.int 1 t) := hm₃
          repeat (first | (k_unfold; (try dsimp only)) | (walk1; (try dsimp only)))
          refine row_spec (port := c) (dots := 1) KX T0 (Fr.keep F3) rfl hb.2.2.1 (by omega) (Nat.le_of_ble_eq_true rfl) (Nat.le_of_ble_eq_true rfl) ?_
          intro tr h5 tk5 hs5
          dsimp only at hs5
          replace F3 := F3.keeps hs5
          replace N3 := N3.grown hs5
          replace hn₃ := Heap.Ns.keeps hn₃ hs5
          repeat (first | (k_unfold; (try dsimp only)) | (walk1; (try dsimp only)))
          unfold Stop
          refine wpAny_newTuple ?_
          exact elt_tup hs5 ⟨_, _, _, rfl, by rw [show nm false 1 = Txt.item (Str.ofString "abcd") (((1 : Nat)) : Int) from (item_abcd4 (by omega)).symm]; rfl⟩
        · replace hm₃ : m₃ "k" = some (.int 2 t) := hm₃
          repeat (first | (k_unfold; (try dsimp only)) | (walk1; (try dsimp only)))
          refine row_spec (port := d) (dots := 1) KX T0 (Fr.keep F3) rfl hb.2.2.2.1 (by omega) (Nat.le_of_ble_eq_true rfl) (Nat.le_of_ble_eq_true rfl) ?_
          intro tr h5 tk5 hs5
          dsimp only at hs5
          replace F3 := F3.keeps hs5
          replace N3 := N3.grown hs5
          replace hn₃ := Heap.Ns.keeps hn₃ hs5
          repeat (first | (k_unfold; (try dsimp only)) | (walk1; (try dsimp only)))
          unfold Stop
          refine wpAny_newTuple ?_
          exact elt_tup hs5 ⟨_, _, _, rfl, by rw [show nm false 2 = Txt.item (Str.ofString "abcd") (((2 : Nat)) : Int) from (item_abcd4 (by omega)).symm]; rfl⟩
        · replace hm₃ : m₃ "k" = some (.int 3 t) := hm₃
          repeat (first | (k_unfold; (try dsimp only)) | (walk1; (try dsimp only)))
          refine row_spec (port := e) (dots := 1) KX T0 (Fr.keep F3) rfl hb.2.2.2.2 (by omega) (Nat.le_of_ble_eq_true rfl) (Nat.le_of_ble_eq_true rfl) ?_
          intro tr h5 tk5 hs5
          dsimp only at hs5
          replace F3 := F3.keeps hs5
          replace N3 := N3.grown hs5
          replace hn₃ := Heap.Ns.keeps hn₃ hs5
          repeat (first | (k_unfold; (try dsimp only)) | (walk1; (try dsimp only)))
          unfold Stop
          refine wpAny_newTuple ?_
          exact elt_tup hs5 ⟨_, _, _, rfl, by rw [show nm false 3 = Txt.item (Str.ofString "abcd") (((3 : Nat)) : Int) from (item_abcd4 (by omega)).symm]; rfl⟩
      case outS4 =>
        intro D h' tk' k outs hD hD' hn4 hobj hk'
        dsimp only at hD hk' hobj ⊢
        obtain ⟨es, e1, e2, e3, e4⟩ := ents_of hobj
        rw [e1] at hD'
        have hes4 : es.map Ent.i = [0, 1, 2, 3] := by rw [e2, hn4]; rfl
        have N4 := news_add F9 N9 hk' (extra := (D, W.listOf (es.map fun e => Value.ref e.a).toArray k) :: tupsOf es) (fun q hq => by
          rcases List.mem_cons.mp hq with rfl | hq
          · exact ⟨hD, hD'⟩
          · exact (e4 q hq).2)
        have F4 := F9.keeps hk'
        clear F9 N9 e1 e2 hn4 hobj
        repeat (first | (k_unfold; (try dsimp only)) | (walk1; (try dsimp only)))
        unfold Stop
        refine' call_cls F4 KX N4 ?hmS4 ?hiS4 ?hfS4 ?_
        case hmS4 => k_is
        case hiS4 => k_is
        case hfS4 => k_is
        intro x dx h6 F6 N6 l1 l2
        have hin : ∀ q ∈ newTab x dx D k es, q ∈ (x, instObj 171 dx) :: (dx, dictOf [] 0) :: ([(dl, fiveO a b c d e t0 t1 t2 t3 t4 n), (s₁.heap.objs.size + 1 + 1 + 1, o3), (s₁.heap.objs.size + 1 + 1, o2), (s₁.heap.objs.size + 1, o1)] ++ (D, W.listOf (es.map fun e => Value.ref e.a).toArray k) :: tupsOf es) := by
          intro q hq
          rcases List.mem_cons.mp hq with rfl | hq
          · exact .head _
          · rcases List.mem_cons.mp hq with rfl | hq
            · exact .tail _ (.head _)
            · exact .tail _ (.tail _ (List.mem_append.mpr (.inr hq)))
        refine init_spec (x := x) (dx := dx) (hl := D) (n := k) (es := es) KX T0 (Fr.keep F6) rfl (news_tab N6 hin) (news_off N6 hin) ?hlenS4 ?hesS4 (Nat.le_of_ble_eq_true rfl) (Nat.le_of_ble_eq_true rfl) ?hretS4
        case hlenS4 =>
          have := congrArg List.length hes4
          simp at this
          omega
        case hesS4 =>
          intro e' he'
          have hi : e'.i ∈ es.map Ent.i := List.mem_map.mpr ⟨e', he', rfl⟩
          rw [hes4] at hi
          simp at hi
          refine ⟨by omega, 1, _, e3 e' he', by omega, port0_lt hb _⟩
        case hretS4 =>
          intro h7 tk7 hsh tkk n1 hk7 hd7
          dsimp only at hk7
          refine keep4 F6 N6 (.tail (Nat.ne_of_gt l2) (.head fun p hp => Nat.ne_of_lt (l1 p hp))) hk7 hd7 fun F7 N7 => ?_
          clear F6 N6 F4 N4
          unfold InitBack
          dsimp only
          repeat (first | (k_unfold; (try dsimp only)) | (walk1; (try dsimp only)))
          with_reducible rename Fr _ _ _ _ => F9
          with_reducible rename News _ _ _ _ => N9
          refine CutEnd.intro F9 (news_sub N9 ?hsubS4) ⟨?hm1S4, ⟨x, dx, D, tkk, n1, k, hsh⟩, es, ?hm2S4, rfl, hes4, e3⟩
          case hm1S4 => exact m1
          case hm2S4 => rfl
          case hsubS4 =>
            intro q hq
            have hq' : q ∈ [(dl, fiveO a b c d e t0 t1 t2 t3 t4 n), (s₁.heap.objs.size + 1 + 1 + 1, o3), (s₁.heap.objs.size + 1 + 1, o2), (s₁.heap.objs.size + 1, o1)] ++ Tb.news ⟨x, dx, D, tkk, n1, k, hsh⟩ es := hq
            rcases List.mem_append.mp hq' with hq | hq
            · exact .tail _ (.tail _ (List.mem_append.mpr (.inl hq)))
            · rcases List.mem_cons.mp hq with rfl | hq
              · exact .head _
              · rcases List.mem_cons.mp hq with rfl | hq
                · exact .tail _ (.head _)
                · exact .tail _ (.tail _ (List.mem_append.mpr (.inr hq)))
    clear F1 N1 m1
    intro h tk m news F1 N1 ⟨m1, tb, es, m2, hnews, hes4, hrow⟩
    subst hnews
    dsimp only at F1 N1 ⊢
    refine cut_ F1 (fun m news => m "script" = some (.ref sl) ∧ m "table" = some (.ref tb.o) ∧ news = (dl, fiveO a b c d e t0 t1 t2 t3 t4 n) :: (s₁.heap.objs.size + 1 + 1 + 1, o3) :: (s₁.heap.objs.size + 1 + 1, o2) :: (s₁.heap.objs.size + 1, o1) :: tb.news es) ?s5 ?r5
    case s5 =>
      have hlen4 : es.length = 4 := by have := congrArg List.length hes4; simpa using this
      have hi4 : ∀ e' ∈ es, e'.i < 4 := fun e' he' => by
        have hi : e'.i ∈ es.map Ent.i := List.mem_map.mpr ⟨e', he', rfl⟩
        rw [hes4] at hi
        simp at hi
        omega
      have ha4 : ∀ j, j < 4 → ∃ e' ∈ es, e'.i = j := fun j hj => by
        have : j ∈ es.map Ent.i := by rw [hes4]; simp; omega
        obtain ⟨e', he', q⟩ := List.mem_map.mp this
        exact ⟨e', he', q⟩
      repeat (first | (k_unfold; (try dsimp only)) | (walk1; (try dsimp only)))
      unfold Stop
      refine states_spec (B := tb) (es := es) (K := 4 + a) (D := fun _ => 1) (P := port0 b c d e) KX T0 (Fr.keep F1) rfl (news_tab N1 (by walk_at "m_in")) (news_off N1 (by walk_at "m_in")) (by omega) (fun e' he' => ⟨hi4 e' he', hrow e' he', by omega, port0_lt hb _⟩) (by omega) (by have := hb.1; omega) (Nat.le_of_ble_eq_true rfl) (Nat.le_of_ble_eq_true rfl) ?_
      intro r vs' n' h' tk' hs' hf' hr' hvs
      dsimp only at hs' hf' hr'
      rw [states_fold hi4 ha4] at hvs
      refine keep3 F1 N1 hs' hf' hr' fun F3 N3 ne3 => ?_
      clear F1 N1
      repeat (first | (k_unfold; (try dsimp only)) | (walk1; (try dsimp only)))
      unfold Stop
      refine' comp_list ?hhS5 ?hclosS5 ?hcellS5 ?hkindS5 ?hnamesS5 ?hxS5 ?_ ?hsS5
      case hsS5 => intro _; rfl
      case hhS5 => exact rfl
      case hclosS5 => with_unfolding_all rfl
      case hcellS5 => decide
      case hkindS5 => rfl
      case hnamesS5 => decide
      case hxS5 => rfl
      iterate 7 (first | (k_unfold; (try dsimp only)) | (walk1; (try dsimp only)))
      refine PySem.W.kba_turn (value' := PySem.Expr.Name (PySem.Str.ofString "_") ⟨0, 0, 0, 0⟩) (fun _ => rfl) ?_
      refine' PySem.W.kms_slice_lit (s := ⟨_, _, _, _, _⟩) (zs := [_, _, _, _]) ?sFS5 ?sNS5 ?slS5 ?spS5 ?sqS5 ?seS5 ?_ ?ssS5 ?stS5 ?szS5
      case sFS5 => assumption
      case sNS5 => assumption
      case slS5 => exact News.isList (by assumption) (.tail _ (.head _))
      case spS5 => constructor
      case sqS5 => constructor
      case seS5 => rfl
      case ssS5 => with_unfolding_all rfl
      case stS5 => intro _; with_unfolding_all rfl
      case szS5 => exact Nat.le_of_ble_eq_true rfl
      intro D h9 F9 N9 l9
      dsimp only
      have hI4 : IntsAre [Value.int ((b : Nat) : Int) t1, .int ((c : Nat) : Int) t2, .int ((d : Nat) : Int) t3, .int ((e : Nat) : Int) t4] [((b : Nat) : Int), ((c : Nat) : Int), ((d : Nat) : Int), ((e : Nat) : Int)] := .cons _ _ (.cons _ _ (.cons _ _ (.cons _ _ .nil)))
      refine ⟨_, _, fun _ => true, fun v y => ∃ n t t', v = .int n t ∧ y = .int ((n + 1).fmod (((4 + a : Nat)) : Int)) t', rfl, ⟨News.isList N9 (.head _), Nat.le_of_ble_eq_true rfl, ?_, ?_, ?_⟩⟩
      · intro C v s₃ m₃ E' hv hC hn₃ hm₃ hk₃
        exact wpAny_tests_nil ⟨rfl, _, _, rfl, fun _ _ e => e⟩
      · intro C v s₃ m₃ E' hv _ hC hn₃ hm₃ hk₃
        obtain ⟨h₃, g₃, d₃, t₃, o₃⟩ := s₃
        dsimp only at hn₃ hk₃ hv ⊢
        obtain ⟨n, t, rfl⟩ := hI4.all v hv
        have F4 := F9.keeps hk₃
        have N4 := N9.grown hk₃
        clear F3 N3 F9 N9
        repeat (first | (k_unfold; (try dsimp only)) | (walk1; (try dsimp only)))
        exact ⟨_, _, rfl, fun _ _ e => e⟩
      · intro D2 h' tk ys n hD hD' hP hk'
        dsimp only at hD hk' ⊢
        refine keep3 F9 N9 hk' hD hD' fun F4 N4 ne4 => ?_
        rw [filter_all] at hP
        have hys := paired_ints (f := fun n => (n + 1).fmod (((4 + a : Nat)) : Int)) hI4 hP
        clear F9 N9 F3 N3
        iterate 1 (first | (k_unfold; (try dsimp only)) | (walk1; (try dsimp only)))
        have hc : ([stOf (4 + a) (fun x => 1) (port0 b c d e) 0, stOf (4 + a) (fun x => 1) (port0 b c d e) 1, stOf (4 + a) (fun x => 1) (port0 b c d e) 2, stOf (4 + a) (fun x => 1) (port0 b c d e) 3] = List.map (fun n => (n + 1).fmod ((4 + a : Nat) : Int)) [((b : Nat) : Int), ((c : Nat) : Int), ((d : Nat) : Int), ((e : Nat) : Int)]) := by
          rw [stOf_port, stOf_port, stOf_port, stOf_port]; rfl
        rw [decide_eq_true hc]
        repeat (first | (k_unfold; (try dsimp only)) | (walk1; (try dsimp only)))
        with_reducible rename Fr _ _ _ _ => F9
        with_reducible rename News _ _ _ _ => N9
        exact CutEnd.intro F9 (news_sub N9 (by walk_at "m_in")) ⟨m1, m2, rfl⟩
    clear F1 N1 m1 m2
    intro h tk m news F1 N1 ⟨m1, m2, hnews⟩
    subst hnews
    dsimp only at F1 N1 ⊢
    refine cut_ F1 (fun m news => m "script" = some (.ref sl) ∧ m "table" = some (.ref tb.o) ∧ ∃ wl nw, m "went" = some (.ref wl) ∧ @Ne Nat dl wl ∧ news = (wl, W.listOf #[] nw) :: (dl, fiveO a b c d e t0 t1 t2 t3 t4 n) :: (s₁.heap.objs.size + 1 + 1 + 1, o3) :: (s₁.heap.objs.size + 1 + 1, o2) :: (s₁.heap.objs.size + 1, o1) :: tb.news es) ?s6 ?r6
    case s6 =>
      repeat (first | (k_unfold; (try dsimp only)) | (walk1; (try dsimp only)))
      with_reducible rename Fr _ _ _ _ => F9
      with_reducible rename News _ _ _ _ => N9
      exact CutEnd.intro F9 N9 ⟨by walk_at "m_fact", by walk_at "m_fact", _, _, if_pos rfl, by omega, rfl⟩
    clear F1 N1 m1 m2
    intro h tk m news F1 N1 ⟨m1, m2, wl, nw, m3, hdw, hnews⟩
    subst hnews
    dsimp only at F1 N1 ⊢
    refine cut_ F1 (fun m news => m "script" = some (.ref sl) ∧ m "table" = some (.ref tb.o) ∧ m "went" = some (.ref wl) ∧ ∃ bl nb u0 u1 u2 u3, m "before" = some (.ref bl) ∧ @Ne Nat bl wl ∧ news = (bl, W.listOf #[.int 0 u0, .int 1 u1, .int 2 u2, .int 3 u3] nb) :: (wl, W.listOf #[] nw) :: (dl, fiveO a b c d e t0 t1 t2 t3 t4 n) :: (s₁.heap.objs.size + 1 + 1 + 1, o3) :: (s₁.heap.objs.size + 1 + 1, o2) :: (s₁.heap.objs.size + 1, o1) :: tb.news es) ?s7 ?r7
    case s7 =>
      repeat (first | (k_unfold; (try dsimp only)) | (walk1; (try dsimp only)))
      with_reducible rename Fr _ _ _ _ => F9
      with_reducible rename News _ _ _ _ => N9
      exact CutEnd.intro F9 N9 ⟨by walk_at "m_fact", by walk_at "m_fact", by walk_at "m_fact", _, _, _, _, _, _, if_pos rfl, by omega, rfl⟩
    clear F1 N1 m1 m2 m3
    intro h tk m news F1 N1 ⟨m1, m2, m3, bl, nb, u0, u1, u2, u3, m4, hbw, hnews⟩
    subst hnews
    dsimp only at F1 N1 ⊢
    refine cut_ F1 (LoopJ s₁.heap.objs.size sl wl dl (fiveO a b c d e t0 t1 t2 t3 t4 n) o2 o1 (4 + a) b 20) ?s8 ?r8
    case s8 =>
      refine for_rangeX (g := s₁.heap) rfl ?_ (by intro _; rfl) PassesOwn.never
      repeat (first | (k_unfold; (try dsimp only)) | (walk1; (try dsimp only)))
      rename IsRange _ _ _ _ _ _ _ _ => hR
      with_reducible rename Fr _ _ _ _ => F9
      with_reducible rename News _ _ _ _ => N9
      refine ⟨_, 0, 20, LoopJ s₁.heap.objs.size sl wl dl (fiveO a b c d e t0 t1 t2 t3 t4 n) o2 o1 (4 + a) b, rfl, ⟨rfl, ⟨_, _, _, hR⟩, ⟨by omega, by omega⟩, ⟨_, _, F9, N9, ?startS8⟩, ?turnS8, ?doneS8⟩⟩
      case startS8 =>
        have hi4 : ∀ e' ∈ es, e'.i < 4 := fun e' he' => by
          have hi : e'.i ∈ es.map Ent.i := List.mem_map.mpr ⟨e', he', rfl⟩
          rw [hes4] at hi
          simp at hi
          omega
        refine ⟨m1, m3, tb, bl, _, _, _, o3, [.int 0 u0, .int 1 u1, .int 2 u2, .int 3 u3], [], fun _ => 1, port0 b c d e, [], [0, 1, 2, 3], es, m2, m4, hbw, d3, .cons _ _ (.cons _ _ (.cons _ _ (.cons _ _ .nil))), .nil, Inv.start (by omega) (fun j _ => port0_lt hb j), ?_, rfl⟩
        refine ⟨hi4, hrow, fun j hj => ?_, ?_, hes4, fun _ _ h => nomatch h⟩
        · have : j ∈ es.map Ent.i := by rw [hes4]; simp; omega
          obtain ⟨e', he', q⟩ := List.mem_map.mp this
          exact ⟨e', he', q⟩
        · have := congrArg List.length hes4
          simp at this
          omega
      case doneS8 =>
        intro h tk m news hJ F N
        exact CutEnd.intro F N hJ
      case turnS8 =>
        clear F9 N9 m1 m2 m3 m4 hes4 hrow d3
        rintro I oI i ti m news h tk hoI hi ⟨m1, m3, tb, bl, nb, nw, x3, o3, vb, vw, D, P, went, bll, es, m2, m4, hbw, d3, hvb, hvw, hInv, hEs, rfl⟩ hoff F1 N1
        rw [Int.zero_add]
        iterate 2 (first | (k_unfold; (try dsimp only)) | (walk1; (try dsimp only)))
        with_reducible rename Fr _ _ _ _ => F2
        with_reducible rename News _ _ _ _ => N2
        obtain ⟨e0, he0, _⟩ := hEs.all 0 (by omega)
        have tn := turn_ne (L := s₁.heap.objs.size) (vd := [.int ((a : Nat) : Int) t0, .int ((b : Nat) : Int) t1, .int ((c : Nat) : Int) t2, .int ((d : Nat) : Int) t3, .int ((e : Nat) : Int) t4]) (fun q hq => N2 q (.tail _ hq)) hvb hvw (.cons _ _ (.cons _ _ (.cons _ _ (.cons _ _ (.cons _ _ .nil))))) he0 d3 d2 d1
        obtain ⟨M1, F3, m1', m2', m3', m4', m5⟩ : ∃ M1, Fr s₁.heap s₁.heap.objs.size _ M1 ∧ M1 "script" = some (.ref sl) ∧ M1 "table" = some (.ref tb.o) ∧ M1 "went" = some (.ref wl) ∧ M1 "before" = some (.ref bl) ∧ M1 "turn" = some (.int ((i : Nat) : Int) ti) := ⟨_, F2, by walk_at "m_fact", by walk_at "m_fact", by walk_at "m_fact", by walk_at "m_fact", if_pos rfl⟩
        clear F2 m1 m2 m3 m4 hR
        clear F1 N1
        refine cut_ F3 (fun m news => m "script" = some (.ref sl) ∧ m "table" = some (.ref tb.o) ∧ m "went" = some (.ref wl) ∧ m "before" = some (.ref bl) ∧ m "turn" = some (.int ((i : Nat) : Int) ti) ∧ ∃ r vs' n' o3, o3.data = .cell (some (.ref r)) ∧ IntsAre vs' [stOf (4 + a) D P 0, stOf (4 + a) D P 1, stOf (4 + a) D P 2, stOf (4 + a) D P 3] ∧ @Ne Nat r wl ∧ news = (r, W.listOf (List.toArray vs') n') :: (I, oI) :: (bl, W.listOf vb.toArray nb) :: (wl, W.listOf vw.toArray nw) :: (dl, fiveO a b c d e t0 t1 t2 t3 t4 n) :: (s₁.heap.objs.size + 1 + 1 + 1, o3) :: (s₁.heap.objs.size + 1 + 1, o2) :: (s₁.heap.objs.size + 1, o1) :: tb.news es) ?q1S8 ?w1S8
        case q1S8 =>
          repeat (first | (k_unfold; (try dsimp only)) | (walk1; (try dsimp only)))
          unfold Stop
          refine states_spec (B := tb) (es := es) (K := 4 + a) (D := D) (P := P) KX T0 (Fr.keep F3) rfl (news_tab N2 (by walk_at "m_in")) (news_off N2 (by walk_at "m_in")) (by have := hEs.len; omega) (fun e' he' => ⟨hEs.lt e' he', hEs.row e' he', by have := (hInv.d _ (hEs.lt e' he')).2; omega, hInv.p _ (hEs.lt e' he')⟩) (by omega) (by have := hb.1; omega) (Nat.le_of_ble_eq_true rfl) (Nat.le_of_ble_eq_true rfl) ?_
          intro r vs' n' h' tk' hs' hf' hr' hvs
          dsimp only at hs' hf' hr'
          rw [states_fold hEs.lt hEs.all] at hvs
          refine keep3 F3 N2 hs' hf' hr' fun F4 N4 ne4 => ?_
          clear F3 N2
          refine' storeX_C ?xFT1 ?xNT1 ?xcT1 ?xUT1 ?xdT1 ?_ ?xaT1 ?xbT1
          case xaT1 => rfl
          case xbT1 => rfl
          case xFT1 => with_reducible assumption
          case xNT1 => with_reducible assumption
          case xcT1 => rfl
          case xUT1 => exact .tail (fun q => ne4 (s₁.heap.objs.size + 1 + 1 + 1, o3) (.tail _ (.tail _ (.tail _ (.tail _ (.head _))))) q.symm) (.tail (fun q => hoff (s₁.heap.objs.size + 1 + 1 + 1, o3) (.tail _ (.tail _ (.tail _ (.head _)))) q.symm) (.tail tn.c1 (.tail (fun q => tn.w1 q.symm) (.tail tn.c3 (.head tn.cells)))))
          case xdT1 => with_reducible assumption
          intro h' o' F9 N9 dz
          exact CutEnd.intro F9 N9 ⟨m1', m2', m3', m4', m5, r, vs', n', o', dz, hvs, fun q => ne4 (wl, _) (.tail _ (.tail _ (.head _))) q.symm, rfl⟩
        clear F3 N2 m1' m2' m3' m4' m5
        intro h tk m news F1 N1 ⟨m1, m2, m3, m4, m5, r, vs', n', o3, d3, hvs', hrw, hnews⟩
        subst hnews
        dsimp only at F1 N1 ⊢
        clear tn
        obtain ⟨y0, y1, y2, y3, rfl⟩ := ints4 hvs'
        clear hvs'
        refine cut_ F1 (fun m news => m "script" = some (.ref sl) ∧ m "table" = some (.ref tb.o) ∧ m "went" = some (.ref wl) ∧ m "before" = some (.ref bl) ∧ m "turn" = some (.int ((i : Nat) : Int) ti) ∧ ∃ ml vm nm, m "may" = some (.ref ml) ∧ IntsAre vm ((mayL (4 + a) D P).map fun k => ((k : Nat) : Int)) ∧ @Ne Nat ml wl ∧ news = (I, oI) :: (ml, W.listOf (List.toArray vm) nm) :: (bl, W.listOf vb.toArray nb) :: (wl, W.listOf vw.toArray nw) :: (dl, fiveO a b c d e t0 t1 t2 t3 t4 n) :: (s₁.heap.objs.size + 1 + 1 + 1, o3) :: (s₁.heap.objs.size + 1 + 1, o2) :: (s₁.heap.objs.size + 1, o1) :: tb.news es) ?q2S8 ?w2S8
        case q2S8 =>
          repeat (first | (k_unfold; (try dsimp only)) | (walk1; (try dsimp only)))
          unfold Stop
          refine' assign_rangeX ?hswT2 ?hhT2 ?hclosT2 ?hcellT2 ?hkindT2 ?hnamesT2 ?hxT2 ?hyT2 ?hpT2 ?_ ?hsT2
          case hswT2 => with_unfolding_all rfl
          case hyT2 => rfl
          case hpT2 => rfl
          case hsT2 => intro _; rfl
          case hhT2 => exact rfl
          case hclosT2 => with_unfolding_all rfl
          case hcellT2 => decide
          case hkindT2 => rfl
          case hnamesT2 => decide
          case hxT2 => rfl
          repeat (first | (k_unfold; (try dsimp only)) | (walk1; (try dsimp only)))
          rename IsRange _ _ _ _ _ _ _ _ => hR
          with_reducible rename Fr _ _ _ _ => F9
          with_reducible rename News _ _ _ _ => N9
          refine ⟨_, 4, pTest (4 + a) D P, fun i y os => ∃ t, y = .int ((i : Nat) : Int) t ∧ os = [], _, rfl, ⟨⟨_, _, _, hR⟩, by omega, F9.ns, ⟨?testsT2, ?eltT2⟩, ?outT2⟩⟩
          case testsT2 =>
            intro C j t s₃ m₃ E' hj hC hn₃ hm₃ hk₃
            obtain ⟨h₃, g₃, d₃, t₃, o₃⟩ := s₃
            dsimp only at hn₃ hk₃ ⊢
            have F3 := F9.keeps hk₃
            have N3 := N9.grown hk₃
            clear F9 N9
            have hj4 : j = 0 ∨ j = 1 ∨ j = 2 ∨ j = 3 := by omega
            rcases hj4 with rfl | rfl | rfl | rfl
            · replace hm₃ : m₃ "k" = some (.int 0 t) := hm₃
              refine wpAny_tests_one ?_
              repeat (first | (k_unfold; (try dsimp only)) | (walk1; (try dsimp only)))
              · show ((((stN (4 + a) D P 0 : Nat) : Int) == ((stN (4 + a) D P 3 : Nat) : Int)) == _) = _
                rw [int_beq]; rfl
              · exact ⟨_, _, rfl, fun _ _ e => e⟩
            · replace hm₃ : m₃ "k" = some (.int 1 t) := hm₃
              refine wpAny_tests_one ?_
              repeat (first | (k_unfold; (try dsimp only)) | (walk1; (try dsimp only)))
              · show ((((stN (4 + a) D P 1 : Nat) : Int) == ((stN (4 + a) D P 0 : Nat) : Int)) == _) = _
                rw [int_beq]; rfl
              · exact ⟨_, _, rfl, fun _ _ e => e⟩
            · replace hm₃ : m₃ "k" = some (.int 2 t) := hm₃
              refine wpAny_tests_one ?_
              repeat (first | (k_unfold; (try dsimp only)) | (walk1; (try dsimp only)))
              · show ((((stN (4 + a) D P 2 : Nat) : Int) == ((stN (4 + a) D P 1 : Nat) : Int)) == _) = _
                rw [int_beq]; rfl
              · exact ⟨_, _, rfl, fun _ _ e => e⟩
            · replace hm₃ : m₃ "k" = some (.int 3 t) := hm₃
              refine wpAny_tests_one ?_
              repeat (first | (k_unfold; (try dsimp only)) | (walk1; (try dsimp only)))
              · show ((((stN (4 + a) D P 3 : Nat) : Int) == ((stN (4 + a) D P 2 : Nat) : Int)) == _) = _
                rw [int_beq]; rfl
              · exact ⟨_, _, rfl, fun _ _ e => e⟩
          case eltT2 =>
            intro C j t s₃ m₃ E' hj _ hC hn₃ hm₃ hk₃
            obtain ⟨h₃, g₃, d₃, t₃, o₃⟩ := s₃
            dsimp only at hn₃ hk₃ ⊢
            have F3 := F9.keeps hk₃
            have N3 := N9.grown hk₃
            clear F9 N9
            repeat (first | (k_unfold; (try dsimp only)) | (walk1; (try dsimp only)))
            exact elt_flat (fun _ _ e => e) ⟨_, rfl, rfl⟩
          case outT2 =>
            intro D2 h' tk' k2 outs hD hD' hn4 hobj hn' hk'
            dsimp only at hD hk' hobj ⊢
            have hvm := outs_ints fun o ho => ⟨hobj o ho, fun _ _ => trivial⟩
            rw [hn4] at hvm
            refine keep5 F9 N9 hn' hk' hD hD' fun F4 N4 ne4 => ?_
            clear F9 N9
            refine CutEnd.intro F4 (news' := (I, oI) :: (D2, _) :: _) (fun q hq => ?_) ⟨by walk_at "m_fact", by walk_at "m_fact", by walk_at "m_fact", by walk_at "m_fact", by walk_at "m_fact", D2, _, k2, if_pos rfl, hvm, fun q => ne4 (wl, _) (.tail _ (.tail _ (.tail _ (.head _)))) q.symm, rfl⟩
            rcases List.mem_cons.mp hq with rfl | hq
            · exact N4 _ (.tail _ (.tail _ (.head _)))
            · rcases List.mem_cons.mp hq with rfl | hq
              · exact N4 _ (.head _)
              · exact N4 _ (.tail _ (.tail _ (.tail _ hq)))
        clear F1 N1 m1 m2 m3 m4 m5
        intro h tk m news F1 N1 ⟨m1, m2, m3, m4, m5, ml, vm, nm, m6, hvm, hmw, hnews⟩
        subst hnews
        dsimp only at F1 N1 ⊢
        have hvmL := hvm.length
        have hvbL := hvb.length
        rw [List.length_map] at hvmL hvbL
        have hmay1 := mayL_pos (K := 4 + a) (by omega) D P
        have hle := hInv.bl4
        have hbl4 : bll.length ≤ 4 := hInv.ble
        refine cut_ F1 (fun m news => m "script" = some (.ref sl) ∧ m "table" = some (.ref tb.o) ∧ m "went" = some (.ref wl) ∧ m "before" = some (.ref bl) ∧ m "turn" = some (.int ((i : Nat) : Int) ti) ∧ m "may" = some (.ref ml) ∧ news = (I, oI) :: (ml, W.listOf (List.toArray vm) nm) :: (bl, W.listOf vb.toArray nb) :: (wl, W.listOf vw.toArray nw) :: (dl, fiveO a b c d e t0 t1 t2 t3 t4 n) :: (s₁.heap.objs.size + 1 + 1 + 1, o3) :: (s₁.heap.objs.size + 1 + 1, o2) :: (s₁.heap.objs.size + 1, o1) :: tb.news es) ?q3S8 ?w3S8
        case q3S8 =>
          repeat (first | (k_unfold; (try dsimp only)) | (walk1; (try dsimp only)))
          all_goals repeat (first | (k_unfold; (try dsimp only)) | (walk1; (try dsimp only)))
          all_goals first | (exact CutEnd.intro (by with_reducible assumption) (news_sub (by with_reducible assumption) (by walk_at "m_in")) ⟨m1, m2, m3, m4, m5, m6, rfl⟩) | (exfalso; rename (_ < _) => hc; simp only [List.length_map] at hc; clear hmw hbw hdw; omega)
        clear F1 N1 m1 m2 m3 m4 m5 m6
        intro h tk m news F1 N1 ⟨m1, m2, m3, m4, m5, m6, hnews⟩
        subst hnews
        dsimp only at F1 N1 ⊢
        refine cut_ F1 (fun m news => m "script" = some (.ref sl) ∧ m "table" = some (.ref tb.o) ∧ m "went" = some (.ref wl) ∧ m "before" = some (.ref bl) ∧ m "turn" = some (.int ((i : Nat) : Int) ti) ∧ m "may" = some (.ref ml) ∧ news = (I, oI) :: (ml, W.listOf (List.toArray vm) nm) :: (bl, W.listOf vb.toArray nb) :: (wl, W.listOf vw.toArray nw) :: (dl, fiveO a b c d e t0 t1 t2 t3 t4 n) :: (s₁.heap.objs.size + 1 + 1 + 1, o3) :: (s₁.heap.objs.size + 1 + 1, o2) :: (s₁.heap.objs.size + 1, o1) :: tb.news es) ?q4S8 ?w4S8
        case q4S8 =>
          repeat (first | (k_unfold; (try dsimp only)) | (walk1; (try dsimp only)))
          all_goals repeat (first | (k_unfold; (try dsimp only)) | (walk1; (try dsimp only)))
          all_goals first | (exact CutEnd.intro (by with_reducible assumption) (news_sub (by with_reducible assumption) (by walk_at "m_in")) ⟨m1, m2, m3, m4, m5, m6, rfl⟩) | (exfalso; rename (_ ≠ _) => hc; have hl := hInv.late (by clear hc hmw hbw hdw; omega); simp only [List.length_map] at hc; clear hmw hbw hdw; omega)
        clear F1 N1 m1 m2 m3 m4 m5 m6
        intro h tk m news F1 N1 ⟨m1, m2, m3, m4, m5, m6, hnews⟩
        subst hnews
        dsimp only at F1 N1 ⊢
        refine cut_ F1 (fun m news => m "script" = some (.ref sl) ∧ m "table" = some (.ref tb.o) ∧ m "went" = some (.ref wl) ∧ m "before" = some (.ref bl) ∧ m "turn" = some (.int ((i : Nat) : Int) ti) ∧ m "may" = some (.ref ml) ∧ news = (I, oI) :: (ml, W.listOf (List.toArray vm) nm) :: (bl, W.listOf vb.toArray nb) :: (wl, W.listOf vw.toArray nw) :: (dl, fiveO a b c d e t0 t1 t2 t3 t4 n) :: (s₁.heap.objs.size + 1 + 1 + 1, o3) :: (s₁.heap.objs.size + 1 + 1, o2) :: (s₁.heap.objs.size + 1, o1) :: tb.news es) ?q5S8 ?w5S8
        case q5S8 =>
          repeat (first | (k_unfold; (try dsimp only)) | (walk1; (try dsimp only)))
          all_goals repeat (first | (k_unfold; (try dsimp only)) | (walk1; (try dsimp only)))
          all_goals first | (exact CutEnd.intro (by with_reducible assumption) (news_sub (by with_reducible assumption) (by walk_at "m_in")) ⟨m1, m2, m3, m4, m5, m6, rfl⟩) | (exfalso; have hl := hInv.round (by omega); rename (¬ _ = _) => hne; exact hne (by rw [hl, head_cast]; rfl))
        clear F1 N1 m1 m2 m3 m4 m5 m6
        intro h tk m news F1 N1 ⟨m1, m2, m3, m4, m5, m6, hnews⟩
        subst hnews
        dsimp only at F1 N1 ⊢
        refine cut_ F1 (fun m news => m "script" = some (.ref sl) ∧ m "table" = some (.ref tb.o) ∧ m "went" = some (.ref wl) ∧ m "before" = some (.ref bl) ∧ m "turn" = some (.int ((i : Nat) : Int) ti) ∧ m "may" = some (.ref ml) ∧ (∃ pv pt, m "pick" = some (.int pv pt)) ∧ news = (I, oI) :: (ml, W.listOf (List.toArray vm) nm) :: (bl, W.listOf vb.toArray nb) :: (wl, W.listOf vw.toArray nw) :: (dl, fiveO a b c d e t0 t1 t2 t3 t4 n) :: (s₁.heap.objs.size + 1 + 1 + 1, o3) :: (s₁.heap.objs.size + 1 + 1, o2) :: (s₁.heap.objs.size + 1, o1) :: tb.news es) ?q6S8 ?w6S8
        case q6S8 =>
          repeat (first | (k_unfold; (try dsimp only)) | (walk1; (try dsimp only)))
          all_goals repeat (first | (k_unfold; (try dsimp only)) | (walk1; (try dsimp only)))
          all_goals exact CutEnd.intro (by with_reducible assumption) (news_sub (by with_reducible assumption) (by walk_at "m_in")) ⟨by walk_at "m_fact", by walk_at "m_fact", by walk_at "m_fact", by walk_at "m_fact", by walk_at "m_fact", by walk_at "m_fact", ⟨_, _, if_pos rfl⟩, rfl⟩
        clear F1 N1 m1 m2 m3 m4 m5 m6
        intro h tk m news F1 N1 ⟨m1, m2, m3, m4, m5, m6, ⟨pv, pt, m7⟩, hnews⟩
        subst hnews
        dsimp only at F1 N1 ⊢
        have tn := turn_ne (L := s₁.heap.objs.size) (vd := [.int ((a : Nat) : Int) t0, .int ((b : Nat) : Int) t1, .int ((c : Nat) : Int) t2, .int ((d : Nat) : Int) t3, .int ((e : Nat) : Int) t4]) (fun q hq => N1 q (.tail _ (.tail _ hq))) hvb hvw (.cons _ _ (.cons _ _ (.cons _ _ (.cons _ _ (.cons _ _ .nil))))) he0 d3 d2 d1
        have hvwL := hvw.length
        rw [List.length_map, hInv.len] at hvwL
        have hIw : @Ne Nat I wl := ne_obj (N1 _ (.head _)).1 (N1 _ (.tail _ (.tail _ (.tail _ (.head _))))).1 fun q => by dsimp only at q; rw [q] at hoI; simp [W.listOf] at hoI
        have hwall := tn.went (od := fiveO a b c d e t0 t1 t2 t3 t4 n) (o3 := o3) (o2 := o2) (o1 := o1) hdw
        refine cut_ F1 (fun m news => m "script" = some (.ref sl) ∧ m "table" = some (.ref tb.o) ∧ m "went" = some (.ref wl) ∧ m "before" = some (.ref bl) ∧ m "turn" = some (.int ((i : Nat) : Int) ti) ∧ m "may" = some (.ref ml) ∧ ∃ k kt nw, k ∈ mayL (4 + a) D P ∧ news = (I, oI) :: (ml, W.listOf (List.toArray vm) nm) :: (bl, W.listOf vb.toArray nb) :: (wl, W.listOf (vw ++ [Value.int ((k : Nat) : Int) kt]).toArray nw) :: (dl, fiveO a b c d e t0 t1 t2 t3 t4 n) :: (s₁.heap.objs.size + 1 + 1 + 1, o3) :: (s₁.heap.objs.size + 1 + 1, o2) :: (s₁.heap.objs.size + 1, o1) :: tb.news es) ?q7S8 ?w7S8
        case q7S8 =>
          obtain ⟨k, hk, ek⟩ := pick_in hmay1 pv
          repeat (first | (k_unfold; (try dsimp only)) | (walk1; (try dsimp only)))
          with_reducible rename Fr _ _ _ _ => F9
          with_reducible rename News _ _ _ _ => N9
          rw [ek] at N9
          simp only [List.push_toArray] at N9
          exact CutEnd.intro F9 N9 ⟨m1, m2, m3, m4, m5, m6, k, _, _, hk, rfl⟩
        clear F1 N1 m1 m2 m3 m4 m5 m6 m7
        intro h tk m news F1 N1 ⟨m1, m2, m3, m4, m5, m6, k, kt, nw, hk, hnews⟩
        subst hnews
        dsimp only at F1 N1 ⊢
        have hw9 : IntsAre (vw ++ [Value.int ((k : Nat) : Int) kt]) ((went ++ [k]).map fun k => ((k : Nat) : Int)) := by
          rw [List.map_append]
          exact intsAre_append hvw (.cons _ _ .nil)
        have hk4 := mayL_lt hk
        refine cut_ F1 (fun m news => m "script" = some (.ref sl) ∧ m "table" = some (.ref tb.o) ∧ m "went" = some (.ref wl) ∧ m "before" = some (.ref bl) ∧ m "turn" = some (.int ((i : Nat) : Int) ti) ∧ m "may" = some (.ref ml) ∧ ∃ n2 x, Ent.i x = k ∧ x.up = true ∧ x.r = row (goD D k) (goP P k) ∧ news = [(I, oI), (ml, W.listOf (List.toArray vm) nm), (bl, W.listOf vb.toArray nb), (wl, W.listOf (vw ++ [Value.int ((k : Nat) : Int) kt]).toArray nw), (dl, fiveO a b c d e t0 t1 t2 t3 t4 n), (s₁.heap.objs.size + 1 + 1 + 1, o3), (s₁.heap.objs.size + 1 + 1, o2), (s₁.heap.objs.size + 1, o1)] ++ ({ tb with n2 := n2 } : Tb).news (es.filter (fun e => e.i != k) ++ [x])) ?q8S8 ?w8S8
        case q8S8 =>
          repeat (first | (k_unfold; (try dsimp only)) | (walk1; (try dsimp only)))
          unfold Stop
          rw [last_get]
          have gI := (N1 _ (.head _)).1
          have gm := (N1 _ (.tail _ (.head _))).1
          have gl := (N1 _ (.tail _ (.tail _ (.tail _ (.tail _ (.tail _ (.tail _ (.tail _ (.tail _ (.tail _ (.tail _ (.head _)))))))))))).1
          dsimp only at gI gm gl
          have tn8 := turn_ne (L := s₁.heap.objs.size) (vd := [.int ((a : Nat) : Int) t0, .int ((b : Nat) : Int) t1, .int ((c : Nat) : Int) t2, .int ((d : Nat) : Int) t3, .int ((e : Nat) : Int) t4]) (fun q hq => N1 q (.tail _ (.tail _ hq))) hvb hw9 (.cons _ _ (.cons _ _ (.cons _ _ (.cons _ _ (.cons _ _ .nil))))) he0 d3 d2 d1
          refine go_spec (B := tb) (es := es) (D := D) (P := P) (k := k) KX T0 (Fr.keep F1) rfl (news_tab N1 (by walk_at "m_in")) (news_off N1 (by walk_at "m_in")) hEs.rows hk4 (fun e' he' => Nat.lt_succ_of_lt (hEs.lt e' he')) (by have := hEs.len; omega) (fun j hj => by have := hInv.d j hj; omega) hInv.p (Nat.le_of_ble_eq_true rfl) (Nat.le_of_ble_eq_true rfl) ?_
          intro h' tk' n2 r tn' tr hs' hf' hr' hl'
          dsimp only at hs' hf' hr' hl'
          obtain ⟨F9, N9⟩ := go_news (pre := [(I, oI), (ml, W.listOf (List.toArray vm) nm), (bl, W.listOf vb.toArray nb), (wl, W.listOf (vw ++ [Value.int ((k : Nat) : Int) kt]).toArray nw), (dl, fiveO a b c d e t0 t1 t2 t3 t4 n), (s₁.heap.objs.size + 1 + 1 + 1, o3), (s₁.heap.objs.size + 1 + 1, o2), (s₁.heap.objs.size + 1, o1)]) F1 N1 (fun p hp => by
            rcases List.mem_cons.mp hp with rfl | hp
            · exact ne_obj gI gl fun q => by rw [q] at hoI; simp [W.listOf] at hoI
            · rcases List.mem_cons.mp hp with rfl | hp
              · exact ne_obj gm gl (ints_no_refs hvm he0)
              · exact tn8.hl p hp) hs' hf' hr' hl'
          clear F1 N1
          repeat (first | (k_unfold; (try dsimp only)) | (walk1; (try dsimp only)))
          exact CutEnd.intro F9 N9 ⟨m1, m2, m3, m4, m5, m6, n2, _, rfl, rfl, rfl, rfl⟩
        clear F1 N1 m1 m2 m3 m4 m5 m6
        intro h tk m news F1 N1 ⟨m1, m2, m3, m4, m5, m6, n2, x, hx1, hx2, hx3, hnews⟩
        subst hnews
        dsimp only at F1 N1 ⊢
        repeat (first | (k_unfold; (try dsimp only)) | (walk1; (try dsimp only)))
        with_reducible rename Fr _ _ _ _ => F9
        with_reducible rename News _ _ _ _ => N9
        refine TurnEnd.next (news' := (ml, W.listOf (List.toArray vm) nm) :: (wl, W.listOf (vw ++ [Value.int ((k : Nat) : Int) kt]).toArray nw) :: (dl, fiveO a b c d e t0 t1 t2 t3 t4 n) :: (s₁.heap.objs.size + 1 + 1 + 1, o3) :: (s₁.heap.objs.size + 1 + 1, o2) :: (s₁.heap.objs.size + 1, o1) :: ({ tb with n2 := n2 } : Tb).news (es.filter (fun e => e.i != k) ++ [x])) F9 (fun q hq => ?n9T9) (fun q hq => ?h9T9) ⟨?jm1T9, ?jm2T9, { tb with n2 := n2 }, ml, nm, nw, _, o3, vm, _, putD D k, putP P k, went ++ [k], mayL (4 + a) D P, _, ?jm3T9, ?jm4T9, hmw, d3, hvm, hw9, hInv.step (by omega) hk, hEs.step hk4 hx1 hx2 hx3, rfl⟩
        case n9T9 =>
          rcases List.mem_cons.mp hq with rfl | hq
          · exact N9 _ (.head _)
          · rcases List.mem_cons.mp hq with rfl | hq
            · exact N9 _ (.tail _ (.head _))
            · exact N9 _ (.tail _ (.tail _ (.tail _ hq)))
        case jm1T9 => walk_at "m_fact"
        case jm2T9 => walk_at "m_fact"
        case jm3T9 => walk_at "m_fact"
        case jm4T9 => exact if_pos rfl
        case h9T9 =>
          have gI := (N9 _ (.head _)).1
          rcases List.mem_cons.mp hq with rfl | hq
          · exact ne_obj (N9 _ (.tail _ (.head _))).1 gI fun q => by dsimp only at q; rw [← q] at hoI; simp at hoI
          · rcases List.mem_cons.mp hq with rfl | hq
            · have z := hoff _ (.tail _ (.head _)); exact z
            · rcases List.mem_cons.mp hq with rfl | hq
              · have z := hoff _ (.tail _ (.tail _ (.head _))); exact z
              · rcases List.mem_cons.mp hq with rfl | hq
                · have z := hoff _ (.tail _ (.tail _ (.tail _ (.head _)))); exact z
                · rcases List.mem_cons.mp hq with rfl | hq
                  · have z := hoff _ (.tail _ (.tail _ (.tail _ (.tail _ (.head _))))); exact z
                  · rcases List.mem_cons.mp hq with rfl | hq
                    · have z := hoff _ (.tail _ (.tail _ (.tail _ (.tail _ (.tail _ (.head _)))))); exact z
                    · rcases List.mem_cons.mp hq with rfl | hq
                      · have z := hoff _ (.tail _ (.tail _ (.tail _ (.tail _ (.tail _ (.tail _ (.head _))))))); exact z
                      · rcases List.mem_cons.mp hq with rfl | hq
                        · have z := hoff _ (.tail _ (.tail _ (.tail _ (.tail _ (.tail _ (.tail _ (.tail _ (.head _)))))))); exact z
                        · rcases List.mem_cons.mp hq with rfl | hq
                          · have z := hoff _ (.tail _ (.tail _ (.tail _ (.tail _ (.tail _ (.tail _ (.tail _ (.tail _ (.head _))))))))); exact z
                          · have gq := (N9 q (.tail _ (.tail _ (.tail _ (.tail _ (.tail _ (.tail _ (.tail _ (.tail _ (.tail _ (.tail _ (.tail _ hq)))))))))))).1
                            obtain ⟨y, _, rfl⟩ := List.mem_map.mp hq
                            exact ne_obj gq gI fun q => by dsimp only [Ent.obj] at q; rw [← q] at hoI; simp at hoI
    clear F1 N1 m1 m2 m3 m4 hes4 hrow d3
    intro h tk m news F1 N1 ⟨m1, m3, tb, bl, nb, nw, x3, o3, vb, vw, D, P, went, bll, es, m2, m4, hbw, d3, hvb, hvw, hInv, hEs, hnews⟩
    subst hnews
    dsimp only at F1 N1 ⊢
    obtain ⟨last, fin⟩ := hInv.fin
    have hlast4 := fin.lt
    obtain ⟨w0, rfl⟩ := last_split fin.lst
    have hvwL := hvw.length
    rw [List.length_map, hInv.len] at hvwL
    refine cut_ F1 (fun m news => m "script" = some (.ref sl) ∧ m "went" = some (.ref wl) ∧ m "table" = some (.ref tb.o) ∧ (∃ lt, m "last" = some (.int ((last : Nat) : Int) lt)) ∧ news = (wl, W.listOf vw.toArray nw) :: (dl, fiveO a b c d e t0 t1 t2 t3 t4 n) :: (s₁.heap.objs.size + 1 + 1 + 1, o3) :: (s₁.heap.objs.size + 1 + 1, o2) :: (s₁.heap.objs.size + 1, o1) :: tb.news es) ?s9 ?r9
    case s9 =>
      repeat (first | (k_unfold; (try dsimp only)) | (walk1; (try dsimp only)))
      with_reducible rename Fr _ _ _ _ => F9
      with_reducible rename News _ _ _ _ => N9
      rw [last_get] at F9
      exact CutEnd.intro F9 (news_sub N9 (by walk_at "m_in")) ⟨by walk_at "m_fact", by walk_at "m_fact", by walk_at "m_fact", ⟨_, if_pos rfl⟩, rfl⟩
    clear F1 N1 m1 m2 m3 m4 hvb hbw
    intro h tk m news F1 N1 ⟨m1, m3, m2, ⟨lt, m5⟩, hnews⟩
    subst hnews
    dsimp only at F1 N1 ⊢
    refine cut_ F1 (fun m news => m "script" = some (.ref sl) ∧ m "went" = some (.ref wl) ∧ m "table" = some (.ref tb.o) ∧ m "last" = some (.int ((last : Nat) : Int) lt) ∧ ∃ ul nu, m "due" = some (.ref ul) ∧ (∀ p ∈ (wl, W.listOf vw.toArray nw) :: (dl, fiveO a b c d e t0 t1 t2 t3 t4 n) :: (s₁.heap.objs.size + 1 + 1 + 1, o3) :: (s₁.heap.objs.size + 1 + 1, o2) :: (s₁.heap.objs.size + 1, o1) :: tb.news es, p.1 ≠ ul) ∧ news = (ul, W.listOf #[] nu) :: (wl, W.listOf vw.toArray nw) :: (dl, fiveO a b c d e t0 t1 t2 t3 t4 n) :: (s₁.heap.objs.size + 1 + 1 + 1, o3) :: (s₁.heap.objs.size + 1 + 1, o2) :: (s₁.heap.objs.size + 1, o1) :: tb.news es) ?s10 ?r10
    case s10 =>
      repeat (first | (k_unfold; (try dsimp only)) | (walk1; (try dsimp only)))
      with_reducible rename Fr _ _ _ _ => F9
      with_reducible rename News _ _ _ _ => N9
      rename (_ < _ ∧ _) => l1
      exact CutEnd.intro F9 N9 ⟨by walk_at "m_fact", by walk_at "m_fact", by walk_at "m_fact", by walk_at "m_fact", _, _, if_pos rfl, allLt_ne (l := (wl, W.listOf vw.toArray nw) :: (dl, fiveO a b c d e t0 t1 t2 t3 t4 n) :: (s₁.heap.objs.size + 1 + 1 + 1, o3) :: (s₁.heap.objs.size + 1 + 1, o2) :: (s₁.heap.objs.size + 1, o1) :: tb.news es) l1, rfl⟩
    clear F1 N1 m1 m2 m3 m5
    intro h tk m news F1 N1 ⟨m1, m3, m2, m5, ul, nu, m6, hul, hnews⟩
    subst hnews
    dsimp only at F1 N1 ⊢
    have hcnt : (w0 ++ [last]).count 0 ≤ 20 := by have := List.count_le_length (a := 0) (l := w0 ++ [last]); have := hInv.len; omega
    refine cut_ F1 (DueJ s₁.heap.objs.size sl wl dl ul (.ref tb.o) (W.listOf vw.toArray nw) (fiveO a b c d e t0 t1 t2 t3 t4 n) o3 o2 o1 (tb.news es) b ((w0 ++ [last]).count 0) last lt 4) ?s11 ?r11
    case s11 =>
      refine for_rangeX (g := s₁.heap) rfl ?_ (by intro _; rfl) PassesOwn.never
      repeat (first | (k_unfold; (try dsimp only)) | (walk1; (try dsimp only)))
      rename IsRange _ _ _ _ _ _ _ _ => hR
      with_reducible rename Fr _ _ _ _ => F9
      with_reducible rename News _ _ _ _ => N9
      refine ⟨_, 1, 4, DueJ s₁.heap.objs.size sl wl dl ul (.ref tb.o) (W.listOf vw.toArray nw) (fiveO a b c d e t0 t1 t2 t3 t4 n) o3 o2 o1 (tb.news es) b ((w0 ++ [last]).count 0) last lt, rfl, ⟨rfl, ⟨_, _, _, hR⟩, ⟨by omega, by omega⟩, ⟨_, _, F9, N9, ⟨m1, m3, m2, m5, m6, [], nu, rfl, (fun _ h => nomatch h), ?nilS11⟩⟩, ?turnS11, ?doneS11⟩⟩
      case nilS11 =>
        have eN : tb.news es ++ tupsOf [] = tb.news es := List.append_nil _
        rw [eN]
        first | done | rfl
      case doneS11 =>
        intro h tk m news hJ F N
        exact CutEnd.intro F N hJ
      case turnS11 =>
        clear F9 N9 m1 m2 m3 m5 m6
        rintro I oI i ti m news h tk hoI hi ⟨m1, m3, m2, m5, m6, us, nu, hus, hur, rfl⟩ hoff F1 N1
        iterate 2 (first | (k_unfold; (try dsimp only)) | (walk1; (try dsimp only)))
        with_reducible rename Fr _ _ _ _ => F2
        with_reducible rename News _ _ _ _ => N2
        obtain ⟨M1, F3, m1', m2', m3', m5', m6', m7⟩ : ∃ M1, Fr s₁.heap s₁.heap.objs.size _ M1 ∧ M1 "script" = some (.ref sl) ∧ M1 "table" = some (.ref tb.o) ∧ M1 "went" = some (.ref wl) ∧ M1 "last" = some (.int ((last : Nat) : Int) lt) ∧ M1 "due" = some (.ref ul) ∧ M1 "j" = some (.int (1 + ((i : Nat) : Int)) ti) := ⟨_, F2, by walk_at "m_fact", by walk_at "m_fact", by walk_at "m_fact", by walk_at "m_fact", by walk_at "m_fact", if_pos rfl⟩
        clear F2 m1 m2 m3 m5 m6 hR
        clear F1 N1
        refine cut_ F3 (fun m news => m "script" = some (.ref sl) ∧ m "table" = some (.ref tb.o) ∧ m "went" = some (.ref wl) ∧ m "last" = some (.int ((last : Nat) : Int) lt) ∧ m "due" = some (.ref ul) ∧ (∃ kt, m "k" = some (.int (((last + 1 + i) % 4 : Nat) : Int) kt)) ∧ news = (I, oI) :: (ul, W.listOf (us.map fun e => Value.ref e.a).toArray nu) :: (wl, W.listOf vw.toArray nw) :: (dl, fiveO a b c d e t0 t1 t2 t3 t4 n) :: (s₁.heap.objs.size + 1 + 1 + 1, o3) :: (s₁.heap.objs.size + 1 + 1, o2) :: (s₁.heap.objs.size + 1, o1) :: (tb.news es ++ tupsOf us)) ?v1S11 ?x1S11
        case v1S11 =>
          repeat (first | (k_unfold; (try dsimp only)) | (walk1; (try dsimp only)))
          with_reducible rename Fr _ _ _ _ => F9
          with_reducible rename News _ _ _ _ => N9
          rw [show (((last : Nat) : Int) + (1 + ((i : Nat) : Int))).fmod 4 = (((last + 1 + i) % 4 : Nat) : Int) by
            rw [show (((last : Nat) : Int) + (1 + ((i : Nat) : Int))) = ((last + 1 + i : Nat) : Int) by omega, Int.fmod_eq_emod_of_nonneg _ (by decide)]; rfl] at F9
          exact CutEnd.intro F9 N9 ⟨by walk_at "m_fact", by walk_at "m_fact", by walk_at "m_fact", by walk_at "m_fact", by walk_at "m_fact", ⟨_, if_pos rfl⟩, rfl⟩
        clear F3 N2 m1' m2' m3' m5' m6' m7
        intro h tk m news F1 N1 ⟨m1, m2, m3, m5, m6, ⟨kt, m7⟩, hnews⟩
        subst hnews
        dsimp only at F1 N1 ⊢
        have hk4 : (last + 1 + i) % 4 < 4 := Nat.mod_lt _ (by omega)
        generalize hkk : (last + 1 + i) % 4 = kk at m7 hk4
        have hIu : @Ne Nat I ul := fun q => hoff (ul, _) (.head _) q.symm
        have hall : ∀ p ∈ (wl, W.listOf vw.toArray nw) :: (dl, fiveO a b c d e t0 t1 t2 t3 t4 n) :: (s₁.heap.objs.size + 1 + 1 + 1, o3) :: (s₁.heap.objs.size + 1 + 1, o2) :: (s₁.heap.objs.size + 1, o1) :: (tb.news es ++ tupsOf us), p.1 ≠ ul := by
          intro p hp
          rcases List.mem_append.mp (show p ∈ ([(wl, W.listOf vw.toArray nw), (dl, fiveO a b c d e t0 t1 t2 t3 t4 n), (s₁.heap.objs.size + 1 + 1 + 1, o3), (s₁.heap.objs.size + 1 + 1, o2), (s₁.heap.objs.size + 1, o1)] ++ tb.news es) ++ tupsOf us from hp) with hp' | hp'
          · exact hul p hp'
          · have gp := (N1 p (.tail _ (.tail _ hp))).1
            have gu := (N1 _ (.tail _ (.head _))).1
            obtain ⟨y, _, rfl⟩ := List.mem_map.mp hp'
            exact ne_obj gp gu fun q => by have := congrArg Obj.cls q; simp [W.listOf, Ent.obj] at this
        have huL : us.length = i := by have := congrArg List.length hus; simpa using this
        repeat (first | (k_unfold; (try dsimp only)) | (walk1; (try dsimp only)))
        all_goals repeat (first | (k_unfold; (try dsimp only)) | (walk1; (try dsimp only)))
        · rename (_ ≤ _) => hle
          rw [count_cast]
          have hdd : (w0 ++ [last]).count 0 + 1 = (w0 ++ [last]).count 0 + (if kk ≤ last then 1 else 0) := by
            rw [if_pos (by omega)]
          rw [show ((((w0 ++ [last]).count 0 : Nat) : Int) + 1) = (((w0 ++ [last]).count 0 + 1 : Nat) : Int) from rfl, hdd]
          have hdd2 : (w0 ++ [last]).count 0 + (if kk ≤ last then 1 else 0) < 1000 := by rw [← hdd]; omega
          clear hdd hle
          generalize hdots : (w0 ++ [last]).count 0 + (if kk ≤ last then 1 else 0) = dots at hdd2
          unfold Stop
          refine row_spec (port := b) (dots := dots) KX T0 (Fr.keep F1) rfl hb.2.1 hdd2 (Nat.le_of_ble_eq_true rfl) (Nat.le_of_ble_eq_true rfl) ?_
          intro tr h5 tk5 hs5
          dsimp only at hs5
          replace F1 := F1.keeps hs5
          replace N1 := N1.grown hs5
          repeat (first | (k_unfold; (try dsimp only)) | (walk1; (try dsimp only)))
          unfold Stop
          refine new_tup F1 N1 fun T h6 F4 N4 ne4 => ?_
          have hTu : @Ne Nat T ul := fun q => ne4 (ul, _) (.tail _ (.head _)) q.symm
          have hTI : @Ne Nat T I := fun q => ne4 (I, _) (.head _) q.symm
          clear F1 N1 ne4
          dsimp only
          repeat (first | (k_unfold; (try dsimp only)) | (walk1; (try dsimp only)))
          with_reducible rename Fr _ _ _ _ => F9
          with_reducible rename News _ _ _ _ => N9
          rw [item_ABCD hk4] at N9
          have N10 := @due_turn s₁.heap _ s₁.heap.objs.size I ul oI [(wl, W.listOf vw.toArray nw), (dl, fiveO a b c d e t0 t1 t2 t3 t4 n), (s₁.heap.objs.size + 1 + 1 + 1, o3), (s₁.heap.objs.size + 1 + 1, o2), (s₁.heap.objs.size + 1, o1)] (tb.news es) us ⟨T, true, kk, row dots b, tk + 1, tr⟩ (nu + 1) N9
          refine TurnEnd.next F9 N10 (fun q hq => ?_) ⟨m1, m3, m2, m5, m6, us ++ [⟨T, true, kk, row dots b, tk + 1, tr⟩], _, ?_, ?_, rfl⟩
          · rcases List.mem_cons.mp hq with rfl | hq
            · have z := hoff _ (.head _)
              exact z
            · rcases List.mem_append.mp hq with hq | hq
              · exact hoff q (.tail _ (List.mem_append.mpr (.inl hq : q ∈ [(wl, W.listOf vw.toArray nw), (dl, fiveO a b c d e t0 t1 t2 t3 t4 n), (s₁.heap.objs.size + 1 + 1 + 1, o3), (s₁.heap.objs.size + 1 + 1, o2), (s₁.heap.objs.size + 1, o1)] ∨ q ∈ tb.news es ++ tupsOf us)))
              · rcases tups_snoc hq with hq | rfl
                · exact hoff q (.tail _ (List.mem_append.mpr (.inr hq : q ∈ [(wl, W.listOf vw.toArray nw), (dl, fiveO a b c d e t0 t1 t2 t3 t4 n), (s₁.heap.objs.size + 1 + 1 + 1, o3), (s₁.heap.objs.size + 1 + 1, o2), (s₁.heap.objs.size + 1, o1)] ∨ q ∈ tb.news es ++ tupsOf us)))
                · exact hTI
          · rw [List.map_append, hus, List.range_succ, List.map_append, List.map_cons, List.map_nil, List.map_cons, List.map_nil, hkk]
          · intro u hu
            rcases List.mem_append.mp hu with hu | hu
            · exact hur u hu
            · rw [List.mem_singleton.mp hu]
              exact ⟨rfl, by show row dots b = row ((w0 ++ [last]).count 0 + if kk ≤ last then 1 else 0) b; rw [hdots]⟩
        · rename (¬ _ ≤ _) => hle
          rw [count_cast]
          have hdd : (w0 ++ [last]).count 0 + 0 = (w0 ++ [last]).count 0 + (if kk ≤ last then 1 else 0) := by
            rw [if_neg (by omega)]
          rw [show ((((w0 ++ [last]).count 0 : Nat) : Int) + 0) = (((w0 ++ [last]).count 0 + 0 : Nat) : Int) from rfl, hdd]
          have hdd2 : (w0 ++ [last]).count 0 + (if kk ≤ last then 1 else 0) < 1000 := by rw [← hdd]; omega
          clear hdd hle
          generalize hdots : (w0 ++ [last]).count 0 + (if kk ≤ last then 1 else 0) = dots at hdd2
          unfold Stop
          refine row_spec (port := b) (dots := dots) KX T0 (Fr.keep F1) rfl hb.2.1 hdd2 (Nat.le_of_ble_eq_true rfl) (Nat.le_of_ble_eq_true rfl) ?_
          intro tr h5 tk5 hs5
          dsimp only at hs5
          replace F1 := F1.keeps hs5
          replace N1 := N1.grown hs5
          repeat (first | (k_unfold; (try dsimp only)) | (walk1; (try dsimp only)))
          unfold Stop
          refine new_tup F1 N1 fun T h6 F4 N4 ne4 => ?_
          have hTu : @Ne Nat T ul := fun q => ne4 (ul, _) (.tail _ (.head _)) q.symm
          have hTI : @Ne Nat T I := fun q => ne4 (I, _) (.head _) q.symm
          clear F1 N1 ne4
          dsimp only
          repeat (first | (k_unfold; (try dsimp only)) | (walk1; (try dsimp only)))
          with_reducible rename Fr _ _ _ _ => F9
          with_reducible rename News _ _ _ _ => N9
          rw [item_ABCD hk4] at N9
          have N10 := @due_turn s₁.heap _ s₁.heap.objs.size I ul oI [(wl, W.listOf vw.toArray nw), (dl, fiveO a b c d e t0 t1 t2 t3 t4 n), (s₁.heap.objs.size + 1 + 1 + 1, o3), (s₁.heap.objs.size + 1 + 1, o2), (s₁.heap.objs.size + 1, o1)] (tb.news es) us ⟨T, true, kk, row dots b, tk + 1, tr⟩ (nu + 1) N9
          refine TurnEnd.next F9 N10 (fun q hq => ?_) ⟨m1, m3, m2, m5, m6, us ++ [⟨T, true, kk, row dots b, tk + 1, tr⟩], _, ?_, ?_, rfl⟩
          · rcases List.mem_cons.mp hq with rfl | hq
            · have z := hoff _ (.head _)
              exact z
            · rcases List.mem_append.mp hq with hq | hq
              · exact hoff q (.tail _ (List.mem_append.mpr (.inl hq : q ∈ [(wl, W.listOf vw.toArray nw), (dl, fiveO a b c d e t0 t1 t2 t3 t4 n), (s₁.heap.objs.size + 1 + 1 + 1, o3), (s₁.heap.objs.size + 1 + 1, o2), (s₁.heap.objs.size + 1, o1)] ∨ q ∈ tb.news es ++ tupsOf us)))
              · rcases tups_snoc hq with hq | rfl
                · exact hoff q (.tail _ (List.mem_append.mpr (.inr hq : q ∈ [(wl, W.listOf vw.toArray nw), (dl, fiveO a b c d e t0 t1 t2 t3 t4 n), (s₁.heap.objs.size + 1 + 1 + 1, o3), (s₁.heap.objs.size + 1 + 1, o2), (s₁.heap.objs.size + 1, o1)] ∨ q ∈ tb.news es ++ tupsOf us)))
                · exact hTI
          · rw [List.map_append, hus, List.range_succ, List.map_append, List.map_cons, List.map_nil, List.map_cons, List.map_nil, hkk]
          · intro u hu
            rcases List.mem_append.mp hu with hu | hu
            · exact hur u hu
            · rw [List.mem_singleton.mp hu]
              exact ⟨rfl, by show row dots b = row ((w0 ++ [last]).count 0 + if kk ≤ last then 1 else 0) b; rw [hdots]⟩
    clear F1 N1 m1 m2 m3 m5 m6
    intro h tk m news F1 N1 ⟨m1, m3, m2, m5, m6, us, nu, hus, hur, hnews⟩
    subst hnews
    dsimp only at F1 N1 ⊢
    have hin : ∀ q ∈ tb.news es, q ∈ (ul, W.listOf (us.map fun e => Value.ref e.a).toArray nu) :: (wl, W.listOf vw.toArray nw) :: (dl, fiveO a b c d e t0 t1 t2 t3 t4 n) :: (s₁.heap.objs.size + 1 + 1 + 1, o3) :: (s₁.heap.objs.size + 1 + 1, o2) :: (s₁.heap.objs.size + 1, o1) :: (tb.news es ++ tupsOf us) := fun q hq => .tail _ (.tail _ (.tail _ (.tail _ (.tail _ (.tail _ (List.mem_append.mpr (.inl hq)))))))
    have hdue := due_eq hEs fin hus hur
    repeat (first | (k_unfold; (try dsimp only)) | (walk1; (try dsimp only)))
    unfold Stop
    refine items_spec (B := tb) (es := es) KX T0 (Fr.keep F1) rfl (news_tab N1 hin) (news_off N1 hin) (by have := hEs.len; omega) (Nat.le_of_ble_eq_true rfl) (Nat.le_of_ble_eq_true rfl) ?_
    intro r h' tk' hs' hf' hr'
    dsimp only at hs' hf' hr'
    refine keep3 F1 N1 hs' hf' hr' fun F4 N4 ne4 => ?_
    clear F1 N1 ne4
    repeat (first | (k_unfold; (try dsimp only)) | (walk1; (try dsimp only)))
    unfold Stop
    refine eq_tabs (es := es) (us := us) (News.get N4 (.head _)) (News.get N4 (.tail _ (.head _))) (fun q hq => (N4 q (.tail _ (hin q (.tail _ (.tail _ (.tail _ hq)))))).1) (fun q hq => (N4 q (.tail _ (.tail _ (.tail _ (.tail _ (.tail _ (.tail _ (.tail _ (List.mem_append.mpr (.inr hq))))))))) ).1) hdue (fun e' he' => ⟨Nat.lt_succ_of_lt (hEs.lt e' he'), _, _, hEs.row e' he'⟩) (Nat.le_of_ble_eq_true rfl) ?_
    repeat (first | (k_unfold; (try dsimp only)) | (walk1; (try dsimp only)))
    exact MainEnd.intro F4
end
end Mine
end
theorem PySem.Challenge.cw_tp0022_02_holds : PySem.Challenge.rw_tp0022_02.Holds := by
  exact Mine.main_try
