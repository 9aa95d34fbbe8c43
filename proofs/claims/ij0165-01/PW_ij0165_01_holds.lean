import PyProof.Rows.All
import Wide.All
import OpenK.AllK
import Wide.FinOn
import PySem.Sre
import PyProof.TupleOfGen
import PyProof.StrLawsTight
import PyProof.EnumMake
import KE.KExtendNil
import Lean
import PySem.Challenge.RW_ij0165_01
set_option Elab.async false
set_option maxRecDepth 100000
set_option linter.all false

namespace Mine
section
open PySem PySem.W PyProof.Rows
set_option maxHeartbeats 8000000
/-- the head with its run left as a premise beside the walk: what the run says is proved in theorems of its own -/
local macro_rules | `(tactic| refine PySem.W.holds_open $args*) => `(tactic| (
  (refine' PySem.W.holds_open $args*);
  (case' hl => refine And.left (b := ?B) ?c);
  (case' hc => refine And.right ?c)))
open_top hd for PySem.Challenge.rw_ij0165_01
abbrev BodyOf {P : World → Prop} {b c : Prop} (_ : (∀ w, P w) ∧ b → c) : World → Prop := P
abbrev RestOf {a b c : Prop} (_ : a ∧ b → c) : Prop := b
abbrev fol1 (w : World) (b : Bool) : World := w.withFollow "comprehension-iter-twice" b
abbrev fol2 (w : World) (b : Bool) : World := w.withFollow "special-get-raises" b
/-- the run, once for each choice of the world's two rows -/
theorem run_ff (w : World) : BodyOf hd (fol1 (fol2 w false) false) := by dsimp only [BodyOf]; kernel_rfl
theorem run_ft (w : World) : BodyOf hd (fol1 (fol2 w true) false) := by dsimp only [BodyOf]; kernel_rfl
theorem run_tf (w : World) : BodyOf hd (fol1 (fol2 w false) true) := by dsimp only [BodyOf]; kernel_rfl
theorem run_tt (w : World) : BodyOf hd (fol1 (fol2 w true) true) := by dsimp only [BodyOf]; kernel_rfl
theorem run_all : ∀ w, BodyOf hd w := byRow2 (P := BodyOf hd) "comprehension-iter-twice"
  (byRow2 (P := fun w => BodyOf hd (fol1 w false)) "special-get-raises" run_ff run_ft)
  (byRow2 (P := fun w => BodyOf hd (fol1 w true)) "special-get-raises" run_tf run_tt)
/-- the head: the walk alone is left -/
theorem hdw {P : World → Prop} {b c : Prop} (f : (∀ w, P w) ∧ b → c) (h : ∀ w, BodyOf f w) (x : b) : c := f ⟨h, x⟩
theorem hdW (x : RestOf hd) : PySem.Challenge.rw_ij0165_01.Holds := hdw hd run_all x
end

example : True := by
  w_top off
  trivial

local macro_rules | `(tactic| omega) => `(tactic| (fail_if_success (fail_if_success omega +splitDisjunctions)); lia)

section
open PySem PySem.Sre
set_option maxHeartbeats 4000000
/-- the words of (?:\r\n|\n|\r(?!\n)) -/
abbrev code2 : Array Nat := #[14, 9, 4, 1, 2, 16, 10, 16, 13, 0, 7, 7, 16, 13, 16, 10, 15, 18, 5, 16, 10, 15, 13, 11, 16, 13, 5, 5, 0, 16, 10, 1, 15, 2, 0, 1]
/-- the words of (?m)^\. -/
abbrev code1 : Array Nat := #[14, 4, 0, 1, 1, 6, 1, 16, 46, 1]

theorem inSet2 (c n : Nat) (sn : Seen) : ∃ sn', inSet code2 c (n + 3) 5 true sn = .ok (decide (c = 10 ∨ c = 13), sn') := by
  by_cases h1 : c = 10
  · subst h1; exact ⟨_, rfl⟩
  · by_cases h2 : c = 13
    · subst h2; exact ⟨_, rfl⟩
    · refine ⟨((sn.add 16).add 16).add 0, ?_⟩
      have e1 : (c == 10) = false := by simpa using h1
      have e2 : (c == 13) = false := by simpa using h2
      simp [inSet, code2, ops, e1, e2, h1, h2]

section
variable (code : Array Nat) (T : Array Nat) (lim a ls : Nat)
/-- a state of the machine at the place a -/
def q (sn : Seen) (pc pos : Nat) (out : Bool) (frs : List PySem.Sre.Frame) (w hd : Nat) (ans : Option Bool) : M :=
  { code, text := T, lim, start := a, lastStart := ls, pc, pos, handed := hd, outermost := out, marks := #[], frames := frs, weight := w, answer := ans, seen := sn }
def F0 (pc : Nat) : PySem.Sre.Frame := { wait := .nextStart, pc, pos := a, outermost := true }
def FB (b : Nat) : PySem.Sre.Frame := { wait := .nextBranch, pc := b, pos := a, outermost := true }
def FL : PySem.Sre.Frame := { wait := .lookNot, pc := 26, pos := a + 1, outermost := true }

theorem lit_ok {c : Nat} (sn : Seen) (pc pos : Nat) (out : Bool) (frs : List PySem.Sre.Frame) (w hd : Nat) (hpc : pc < code.size) (hop : code.getD pc 0 = 16) (hc : code.getD (pc + 1) 0 = c) (hp : pos < lim) (hT : T.getD pos 0 = c) :
    (q code T lim a ls sn pc pos out frs w hd none).step = q code T lim a ls (sn.add 16) (pc + 2) (pos + 1) out frs w hd none := by
  have g1 : ¬ lim ≤ pos := by omega
  subst hc
  simp [q, M.step, M.exec, M.word, ops, accepts, itemWidth, hpc, hop, g1, hT]
theorem lit_no {c : Nat} (sn : Seen) (pc pos : Nat) (out : Bool) (frs : List PySem.Sre.Frame) (w hd : Nat) (hpc : pc < code.size) (hop : code.getD pc 0 = 16) (hc : code.getD (pc + 1) 0 = c) (hp : lim ≤ pos ∨ T.getD pos 0 ≠ c) :
    (q code T lim a ls sn pc pos out frs w hd none).step = q code T lim a ls (sn.add 16) pc pos out frs w hd (some false) := by
  subst hc
  by_cases g1 : lim ≤ pos
  · simp [q, M.step, M.exec, M.word, ops, accepts, itemWidth, hpc, hop, g1, M.say]
  · have h2 := hp.resolve_left g1
    have h3 : (T[pos]?.getD 0 == code[pc + 1]?.getD 0) = false := by simpa using h2
    simp [q, M.step, M.exec, M.word, ops, accepts, itemWidth, hpc, hop, g1, M.say, h3]

theorem jump_ (sn : Seen) (pc pos : Nat) (out : Bool) (frs : List PySem.Sre.Frame) (w hd : Nat) (hpc : pc < code.size) (hop : code.getD pc 0 = 15) :
    (q code T lim a ls sn pc pos out frs w hd none).step = q code T lim a ls (sn.add 15) (pc + 1 + code.getD (pc + 1) 0) pos out frs w hd none := by
  simp [q, M.step, M.exec, M.word, ops, hpc, hop]
theorem success_ (sn : Seen) (pc pos : Nat) (out : Bool) (frs : List PySem.Sre.Frame) (w hd : Nat) (hpc : pc < code.size) (hop : code.getD pc 0 = 1) :
    (q code T lim a ls sn pc pos out frs w hd none).step = q code T lim a ls (sn.add 1) pc pos out frs w pos (some true) := by
  simp [q, M.step, M.exec, M.word, ops, hpc, hop, M.say]
theorem yes_start (sn : Seen) (pc pos fp : Nat) (out : Bool) (w hd : Nat) :
    (q code T lim a ls sn pc pos out [F0 a fp] (w + 1) hd (some true)).step = q code T lim a ls sn fp a true [] w hd (some true) := by
  simp [q, M.step, M.resume, F0, M.say]
theorem yes_branch (sn : Seen) (pc pos b : Nat) (out : Bool) (frs : List PySem.Sre.Frame) (w hd : Nat) :
    (q code T lim a ls sn pc pos out (FB a b :: frs) (w + 1) hd (some true)).step = q code T lim a ls sn b a true frs w hd (some true) := by
  simp [q, M.step, M.resume, FB, M.say]
theorem end_ (sn : Seen) (pc pos : Nat) (out : Bool) (w hd : Nat) (y : Bool) :
    (q code T lim a ls sn pc pos out [] w hd (some y)).step = { q code T lim a ls sn pc pos out [] w hd (some y) with outcome := some (if y then .matched else .failed) } := by
  simp [q, M.step]

theorem branch2 (sn : Seen) (w hd : Nat) : (q code2 T lim a ls sn 10 a true [F0 a 10] 1 hd none).step = q code2 T lim a ls (sn.add 7) 12 a true [FB a 11, F0 a 10] 2 a none := rfl
theorem no_branch11 (sn : Seen) (pc pos : Nat) (out : Bool) (hd : Nat) : (q code2 T lim a ls sn pc pos out [FB a 11, F0 a 10] 2 hd (some false)).step = q code2 T lim a ls sn 19 a true [FB a 18, F0 a 10] 2 a none := rfl
theorem no_branch18 (sn : Seen) (pc pos : Nat) (out : Bool) (hd : Nat) : (q code2 T lim a ls sn pc pos out [FB a 18, F0 a 10] 2 hd (some false)).step = q code2 T lim a ls sn 24 a true [FB a 23, F0 a 10] 2 a none := rfl
theorem not_look (sn : Seen) (hd : Nat) : (q code2 T lim a ls sn 26 (a + 1) true [FB a 23, F0 a 10] 2 hd none).step = q code2 T lim a ls (sn.add 5) 29 (a + 1) false [FL a, FB a 23, F0 a 10] 3 (a + 1) none := by
  simp [q, M.step, M.exec, M.word, ops, M.attempt, M.frame, M.keep, FL]
theorem no_look (sn : Seen) (pc pos : Nat) (out : Bool) (hd : Nat) : (q code2 T lim a ls sn pc pos out [FL a, FB a 23, F0 a 10] 3 hd (some false)).step = q code2 T lim a ls sn 32 (a + 1) true [FB a 23, F0 a 10] 2 hd none := by
  simp [q, M.step, M.resume, FL, M.putBack, M.word]

theorem run_step {m m' : M} (h : m.outcome = none) (e : m.step = m') (n : Nat) : m.runFor (n + 1) = m'.runFor n := by
  rw [M.runFor, if_neg (by rw [h]; simp), e]

def Hit (m : M) (b : Nat) : Prop := ∃ n, n ≤ 40 ∧ (m.runFor n).outcome = some .matched ∧ (m.runFor n).start = m.start ∧ (m.runFor n).handed = b
theorem Hit.step {m m' : M} {b : Nat} {k : Nat} (h : m.outcome = none) (e : m.step = m') (hs : m'.start = m.start) (H : ∃ n, n ≤ k ∧ (m'.runFor n).outcome = some .matched ∧ (m'.runFor n).start = m'.start ∧ (m'.runFor n).handed = b) :
    ∃ n, n ≤ k + 1 ∧ (m.runFor n).outcome = some .matched ∧ (m.runFor n).start = m.start ∧ (m.runFor n).handed = b := by
  obtain ⟨n, hn, h1, h2, h3⟩ := H
  exact ⟨n + 1, by omega, by rw [run_step h e]; exact h1, by rw [run_step h e, h2, hs], by rw [run_step h e]; exact h3⟩
theorem Hit.tail (sn : Seen) (b hd : Nat) (pos : Nat) : ∃ n, n ≤ 4 ∧ ((q code2 T lim a ls sn 35 pos true [FB a b, F0 a 10] 2 hd none).runFor n).outcome = some .matched ∧ ((q code2 T lim a ls sn 35 pos true [FB a b, F0 a 10] 2 hd none).runFor n).start = (q code2 T lim a ls sn 35 pos true [FB a b, F0 a 10] 2 hd none).start ∧
    ((q code2 T lim a ls sn 35 pos true [FB a b, F0 a 10] 2 hd none).runFor n).handed = pos := by
  refine Hit.step rfl (success_ code2 T lim a ls sn 35 pos true _ 2 hd (by decide) (by decide)) rfl ?_
  refine Hit.step rfl (yes_branch code2 T lim a ls _ 35 pos b true _ 1 pos) rfl ?_
  refine Hit.step rfl (yes_start code2 T lim a ls _ b a 10 true 0 pos) rfl ?_
  refine Hit.step rfl (end_ code2 T lim a ls _ 10 a true 0 pos true) rfl ?_
  exact ⟨0, Nat.le_refl _, rfl, rfl, rfl⟩
theorem run2 (sn : Seen) (hd : Nat) (h : a < lim) (h1 : T.getD a 0 = 10 ∨ T.getD a 0 = 13) :
    Hit (q code2 T lim a ls sn 10 a true [F0 a 10] 1 hd none) (if T.getD a 0 = 13 ∧ a + 1 < lim ∧ T.getD (a + 1) 0 = 10 then a + 2 else a + 1) := by
  have H : ∃ n, n ≤ 15 ∧ ((q code2 T lim a ls sn 10 a true [F0 a 10] 1 hd none).runFor n).outcome = some .matched ∧ ((q code2 T lim a ls sn 10 a true [F0 a 10] 1 hd none).runFor n).start = (q code2 T lim a ls sn 10 a true [F0 a 10] 1 hd none).start ∧
      ((q code2 T lim a ls sn 10 a true [F0 a 10] 1 hd none).runFor n).handed = (if T.getD a 0 = 13 ∧ a + 1 < lim ∧ T.getD (a + 1) 0 = 10 then a + 2 else a + 1) := by
    refine Hit.step rfl (branch2 T lim a ls sn 1 hd) rfl ?_
    by_cases hc : T.getD a 0 = 13
    · refine Hit.step rfl (lit_ok code2 T lim a ls (c := 13) _ 12 a true _ 2 a (by decide) (by decide) (by decide) h hc) rfl ?_
      by_cases hn : a + 1 < lim ∧ T.getD (a + 1) 0 = 10
      · rw [if_pos ⟨hc, hn⟩]
        refine Hit.step rfl (lit_ok code2 T lim a ls (c := 10) _ 14 (a + 1) true _ 2 a (by decide) (by decide) (by decide) hn.1 hn.2) rfl ?_
        refine Hit.step rfl (jump_ code2 T lim a ls _ 16 (a + 2) true _ 2 a (by decide) (by decide)) rfl ?_
        obtain ⟨n, h1, h2⟩ := Hit.tail T lim a ls _ 11 a (a + 2)
        exact ⟨n, by omega, h2⟩
      · rw [if_neg (fun x => hn x.2)]
        have hno : lim ≤ a + 1 ∨ T.getD (a + 1) 0 ≠ 10 := by
          by_cases hl : lim ≤ a + 1
          · exact .inl hl
          · exact .inr fun e => hn ⟨by omega, e⟩
        refine Hit.step rfl (lit_no code2 T lim a ls (c := 10) _ 14 (a + 1) true _ 2 a (by decide) (by decide) (by decide) hno) rfl ?_
        refine Hit.step rfl (no_branch11 T lim a ls _ 14 (a + 1) true a) rfl ?_
        refine Hit.step rfl (lit_no code2 T lim a ls (c := 10) _ 19 a true _ 2 a (by decide) (by decide) (by decide) (.inr (by rw [hc]; decide))) rfl ?_
        refine Hit.step rfl (no_branch18 T lim a ls _ 19 a true a) rfl ?_
        refine Hit.step rfl (lit_ok code2 T lim a ls (c := 13) _ 24 a true _ 2 a (by decide) (by decide) (by decide) h hc) rfl ?_
        refine Hit.step rfl (not_look T lim a ls _ a) rfl ?_
        refine Hit.step rfl (lit_no code2 T lim a ls (c := 10) _ 29 (a + 1) false _ 3 (a + 1) (by decide) (by decide) (by decide) hno) rfl ?_
        refine Hit.step rfl (no_look T lim a ls _ 29 (a + 1) false (a + 1)) rfl ?_
        refine Hit.step rfl (jump_ code2 T lim a ls _ 32 (a + 1) true _ 2 (a + 1) (by decide) (by decide)) rfl ?_
        obtain ⟨n, h1, h2⟩ := Hit.tail T lim a ls _ 23 (a + 1) (a + 1)
        exact ⟨n, by omega, h2⟩
    · rw [if_neg (fun x => hc x.1)]
      refine Hit.step rfl (lit_no code2 T lim a ls (c := 13) _ 12 a true _ 2 a (by decide) (by decide) (by decide) (.inr hc)) rfl ?_
      refine Hit.step rfl (no_branch11 T lim a ls _ 12 a true a) rfl ?_
      refine Hit.step rfl (lit_ok code2 T lim a ls (c := 10) _ 19 a true _ 2 a (by decide) (by decide) (by decide) h (h1.resolve_right hc)) rfl ?_
      refine Hit.step rfl (jump_ code2 T lim a ls _ 21 (a + 1) true _ 2 a (by decide) (by decide)) rfl ?_
      obtain ⟨n, h1, h2⟩ := Hit.tail T lim a ls _ 18 a (a + 1)
      exact ⟨n, by omega, h2⟩
  obtain ⟨n, hn, h2⟩ := H
  exact ⟨n, by omega, h2⟩
end
end

section
open PySem PySem.Sre
set_option maxHeartbeats 400000
/-- the place of the first line end -/
noncomputable def eolAt : List Nat → Option Nat
  | [] => none
  | c :: r => if c = 10 ∨ c = 13 then some 0 else (eolAt r).map (· + 1)
theorem drop_cons {T : List Nat} {p : Nat} (h : p < T.length) : T.drop p = T.getD p 0 :: T.drop (p + 1) := by
  rw [List.drop_eq_getElem_cons h]
  simp [List.getD_eq_getElem?_getD, h]

theorem admitted2 (m : M) (hc : m.code = code2) (T : List Nat) (ht : m.text = T.toArray) (hl : m.lim = T.length) : ∀ (f p : Nat) (sn : Seen), T.length < p + f → ∃ sn', M.admitted m f p sn = .ok ((eolAt (T.drop p)).map (p + ·), sn')
  | 0, p, sn, h => ⟨sn, by rw [List.drop_of_length_le (by omega)]; rfl⟩
  | f + 1, p, sn, h => by
    unfold M.admitted
    by_cases hp : p ≥ m.lim
    · rw [if_pos hp]
      exact ⟨sn, by rw [List.drop_of_length_le (by omega)]; rfl⟩
    · rw [if_neg hp, hc, ht]
      have hpl : p < T.length := by omega
      rw [drop_cons hpl]
      have hg : T.toArray.getD p 0 = T.getD p 0 := by simp
      rw [hg]
      generalize T.getD p 0 = c
      obtain ⟨sn', e⟩ := inSet2 c 33 sn
      have e' : inSet code2 c code2.size 5 true sn = .ok (decide (c = 10 ∨ c = 13), sn') := e
      rw [e']
      by_cases hx : c = 10 ∨ c = 13
      · rw [eolAt, if_pos hx, decide_eq_true hx]; exact ⟨_, rfl⟩
      · rw [eolAt, if_neg hx, decide_eq_false hx]
        obtain ⟨sn2, e2⟩ := admitted2 m hc T ht hl f (p + 1) sn' (by omega)
        refine ⟨sn2, ?_⟩
        show M.admitted m f (p + 1) sn' = _
        rw [e2, Option.map_map]
        congr 1
        simp only [Prod.mk.injEq, and_true]
        congr 1
        funext x
        simp only [Function.comp_apply]; omega

def m2 (T : List Nat) (p : Nat) : M := { code := code2, text := T.toArray, lim := T.length, start := p, lastStart := T.length, pc := 10, pos := p, handed := p, marks := #[], seen := ({} : Seen).add 14 }
theorem forSearch2 (T : List Nat) (p : Nat) (h : p < T.length) : forSearch code2 T.toArray 0 p T.length false = (m2 T p).attemptFrom p true := by
  unfold forSearch
  have h1 : ¬ (p > T.length ∨ T.length - p < (header code2).1) := by
    show ¬ (p > T.length ∨ T.length - p < 1)
    omega
  simp only [Bool.or_eq_true, decide_eq_true_eq, h1, if_false]
  rfl
theorem forSearch2_end (T : List Nat) (p : Nat) (h : T.length ≤ p) : (forSearch code2 T.toArray 0 p T.length false).outcome = none ∧ (forSearch code2 T.toArray 0 p T.length false).answer = some false ∧ (forSearch code2 T.toArray 0 p T.length false).frames = [] := by
  unfold forSearch
  have h1 : (p > T.length ∨ T.length - p < (header code2).1) := by
    show (p > T.length ∨ T.length - p < 1)
    omega
  simp only [Bool.or_eq_true, decide_eq_true_eq, h1, if_true]
  exact ⟨rfl, rfl, rfl⟩
def Miss (m : M) : Prop := (m.runFor 1).outcome = some .failed
theorem miss_of {m : M} (h1 : m.outcome = none) (h2 : m.answer = some false) (h3 : m.frames = []) : Miss m := by
  unfold Miss
  rw [M.runFor, if_neg (by rw [h1]; simp)]
  unfold M.step
  rw [if_neg (by rw [h1]; simp), h2, h3]
  rfl
theorem search2 (T : List Nat) (p : Nat) (hp : p ≤ T.length) : match eolAt (T.drop p) with
    | none => Miss (forSearch code2 T.toArray 0 p T.length false)
    | some k => Hit (forSearch code2 T.toArray 0 p T.length false) (if T.getD (p + k) 0 = 13 ∧ p + k + 1 < T.length ∧ T.getD (p + k + 1) 0 = 10 then p + k + 2 else p + k + 1) ∧ (forSearch code2 T.toArray 0 p T.length false).start = p + k := by
  by_cases hl : p < T.length
  · rw [forSearch2 T p hl]
    unfold M.attemptFrom
    have hf : (m2 T p).hasFirstSet = true := by rfl
    rw [hf]
    obtain ⟨sn', e⟩ := admitted2 (m2 T p) rfl T rfl rfl ((m2 T p).lim + 1 - p) p (m2 T p).seen (by show T.length < p + (T.length + 1 - p); omega)
    simp only [Bool.not_true, Bool.false_eq_true, if_false]
    rw [e]
    cases hk : eolAt (T.drop p) with
    | none => exact miss_of rfl rfl rfl
    | some k =>
      simp only [Option.map_some]
      refine ⟨?_, rfl⟩
      have hb : p + k < T.length ∧ (T.getD (p + k) 0 = 10 ∨ T.getD (p + k) 0 = 13) := by
        clear e sn' hf hl hp
        generalize hr : T.drop p = r at hk
        induction r generalizing p k with
        | nil => cases hk
        | cons c r ih =>
          have hlt : p < T.length := by
            have := congrArg List.length hr
            simp only [List.length_drop, List.length_cons] at this
            omega
          rw [drop_cons hlt] at hr
          injection hr with h1 h2
          rw [eolAt] at hk
          by_cases hx : c = 10 ∨ c = 13
          · rw [if_pos hx] at hk
            cases hk
            exact ⟨hlt, h1 ▸ hx⟩
          · rw [if_neg hx] at hk
            cases hk' : eolAt r with
            | none => rw [hk'] at hk; cases hk
            | some j =>
              rw [hk'] at hk
              cases hk
              have := ih (p + 1) j h2 hk'
              rw [show p + (j + 1) = p + 1 + j by omega]
              exact this
      have h := run2 T.toArray T.length (p + k) T.length sn' (p + k) hb.1 (by simpa using hb.2)
      have e1 : T.toArray.getD (p + k) 0 = T.getD (p + k) 0 := by simp
      have e2 : T.toArray.getD (p + k + 1) 0 = T.getD (p + k + 1) 0 := by simp
      rw [e1, e2] at h
      exact h
  · have hd : T.drop p = [] := List.drop_of_length_le (by omega)
    rw [hd]
    obtain ⟨h1, h2, h3⟩ := forSearch2_end T p (by omega)
    exact miss_of h1 h2 h3
end

section
open PySem PySem.Sre
set_option maxHeartbeats 400000
/-- the place of the first dot that opens a row -/
noncomputable def dotAt : Bool → List Nat → Option Nat
  | _, [] => none
  | b, c :: r => if b = true ∧ c = 46 then some 0 else (dotAt (decide (c = 10)) r).map (· + 1)
def bol (T : List Nat) (a : Nat) : Bool := decide (a = 0 ∨ T.getD (a - 1) 0 = 10)

section
variable (T : List Nat)
def q1 (a : Nat) (out : Bool) (sn : Seen) : M :=
  { code := code1, text := T.toArray, lim := T.length, start := a, lastStart := T.length, pc := 5, pos := a, handed := a, outermost := out, marks := #[], frames := [{ wait := .nextStart, pc := 5, pos := a, outermost := out }], weight := 1, seen := sn }
def HitN (N : Nat) (m : M) (a b : Nat) : Prop := ∃ n, n ≤ N ∧ (m.runFor n).outcome = some .matched ∧ (m.runFor n).start = a ∧ (m.runFor n).handed = b
def MissN (N : Nat) (m : M) : Prop := ∃ n, n ≤ N ∧ (m.runFor n).outcome = some .failed
theorem HitN.step {N : Nat} {m m' : M} {a b : Nat} (h : m.outcome = none) (e : m.step = m') (H : HitN N m' a b) : HitN (N + 1) m a b := by
  obtain ⟨n, hn, h1, h2, h3⟩ := H
  exact ⟨n + 1, by omega, by rw [run_step h e]; exact h1, by rw [run_step h e, h2], by rw [run_step h e]; exact h3⟩
theorem MissN.step {N : Nat} {m m' : M} (h : m.outcome = none) (e : m.step = m') (H : MissN N m') : MissN (N + 1) m := by
  obtain ⟨n, hn, h1⟩ := H
  exact ⟨n + 1, by omega, by rw [run_step h e]; exact h1⟩
theorem HitN.le {N N' : Nat} {m : M} {a b : Nat} (H : HitN N m a b) (h : N ≤ N') : HitN N' m a b := let ⟨n, hn, r⟩ := H; ⟨n, by omega, r⟩
theorem MissN.le {N N' : Nat} {m : M} (H : MissN N m) (h : N ≤ N') : MissN N' m := let ⟨n, hn, r⟩ := H; ⟨n, by omega, r⟩

theorem at_step (a : Nat) (out : Bool) (sn : Seen) : (q1 T a out sn).step = if (a == 0 || T.toArray.getD (a - 1) 0 == 10) = true then { q1 T a out ((sn.add 6).add 44) with pc := 7 } else { q1 T a out ((sn.add 6).add 44) with answer := some false } := rfl
theorem bol_eq (a : Nat) : (a == 0 || T.toArray.getD (a - 1) 0 == 10) = bol T a := by
  unfold bol
  rw [Bool.eq_iff_iff]
  simp
theorem at_yes (a : Nat) (out : Bool) (sn : Seen) (h : bol T a = true) : (q1 T a out sn).step = { q1 T a out ((sn.add 6).add 44) with pc := 7 } := by
  rw [at_step, bol_eq, if_pos h]
theorem at_no (a : Nat) (out : Bool) (sn : Seen) (h : bol T a = false) : (q1 T a out sn).step = { q1 T a out ((sn.add 6).add 44) with answer := some false } := by
  rw [at_step, bol_eq, if_neg (by rw [h]; simp)]
theorem dot_no (a : Nat) (out : Bool) (sn : Seen) (h : T.length ≤ a ∨ T.getD a 0 ≠ 46) : ({ q1 T a out sn with pc := 7 } : M).step = { q1 T a out (sn.add 16) with pc := 7, answer := some false } := by
  have := lit_no code1 T.toArray T.length a T.length (c := 46) sn 7 a out [{ wait := .nextStart, pc := 5, pos := a, outermost := out }] 1 a (by decide) (by decide) (by decide) (by simpa using h)
  exact this
theorem dot_yes (a : Nat) (out : Bool) (sn : Seen) (h : a < T.length) (h2 : T.getD a 0 = 46) : ({ q1 T a out sn with pc := 7 } : M).step = { q1 T a out (sn.add 16) with pc := 9, pos := a + 1 } := by
  have := lit_ok code1 T.toArray T.length a T.length (c := 46) sn 7 a out [{ wait := .nextStart, pc := 5, pos := a, outermost := out }] 1 a (by decide) (by decide) (by decide) h (by simpa using h2)
  exact this
theorem succ1 (a : Nat) (out : Bool) (sn : Seen) : HitN 3 { q1 T a out sn with pc := 9, pos := a + 1 } a (a + 1) := by
  refine HitN.step rfl (success_ code1 T.toArray T.length a T.length sn 9 (a + 1) out _ 1 a (by decide) (by decide)) ?_
  refine HitN.step (m' := { q1 T a out (sn.add 1) with frames := [], weight := 0, handed := a + 1, answer := some true }) rfl rfl ?_
  refine HitN.step rfl rfl ?_
  exact ⟨0, Nat.le_refl _, rfl, rfl, rfl⟩
theorem next1 (a : Nat) (out : Bool) (sn : Seen) (pc : Nat) (h : a < T.length) : ({ q1 T a out sn with pc := pc, answer := some false } : M).step = q1 T (a + 1) false sn := by
  simp [q1, M.step, M.resume, M.attemptFrom, M.hasFirstSet, M.attemptAt, M.attempt, h, code1, ops, M.putBack]
theorem last1 (a : Nat) (out : Bool) (sn : Seen) (pc : Nat) (h : T.length ≤ a) : MissN 2 ({ q1 T a out sn with pc := pc, answer := some false } : M) := by
  have h' : ¬ a < T.length := by omega
  refine MissN.step (m' := { q1 T a out sn with pc := 5, answer := some false, frames := [], weight := 0 }) rfl ?_ ?_
  · simp [q1, M.step, M.resume, h', M.say, M.putBack]
  · refine MissN.step rfl rfl ?_
    exact ⟨0, Nat.le_refl _, rfl⟩

theorem run1 : ∀ (r : List Nat) (a : Nat) (out : Bool) (sn : Seen), T.drop a = r → a ≤ T.length → match dotAt (bol T a) r with
    | none => MissN (3 * r.length + 4) (q1 T a out sn)
    | some k => HitN (3 * r.length + 5) (q1 T a out sn) (a + k) (a + k + 1)
  | [], a, out, sn, hr, ha => by
    have hl : T.length ≤ a := by have := congrArg List.length hr; simp at this; omega
    show MissN _ _
    cases hb : bol T a with
    | false => exact (MissN.step rfl (at_no T a out sn hb) (last1 T a out _ 5 hl)).le (by simp)
    | true => exact (MissN.step rfl (at_yes T a out sn hb) (MissN.step rfl (dot_no T a out _ (.inl hl)) (last1 T a out _ 7 hl))).le (by simp)
  | c :: r, a, out, sn, hr, ha => by
    have hl : a < T.length := by have := congrArg List.length hr; simp at this; omega
    rw [drop_cons hl] at hr
    injection hr with h1 h2
    have hb1 : bol T (a + 1) = decide (c = 10) := by unfold bol; rw [← h1]; simp
    by_cases hx : bol T a = true ∧ c = 46
    · rw [dotAt, if_pos hx]
      show HitN _ _ _ _
      exact (HitN.step rfl (at_yes T a out sn hx.1) (HitN.step rfl (dot_yes T a out _ hl (h1.trans hx.2)) (succ1 T a out _))).le (by simp)
    · rw [dotAt, if_neg hx]
      have ih := fun sn => run1 r (a + 1) false sn h2 (by omega)
      rw [hb1] at ih
      have hto : ∃ j sn', j ≤ 3 ∧ (q1 T a out sn).runFor j = q1 T (a + 1) false sn' ∧ (∀ i, i < j → ((q1 T a out sn).runFor i).outcome = none) := by
        cases hb : bol T a with
        | false =>
          refine ⟨2, (sn.add 6).add 44, by omega, ?_, ?_⟩
          · exact (run_step rfl (at_no T a out sn hb) 1).trans ((run_step rfl (next1 T a out _ 5 hl) 0).trans rfl)
          · intro i hi
            match i, hi with
            | 0, _ => rfl
            | 1, _ => rw [run_step rfl (at_no T a out sn hb)]; rfl
        | true =>
          have hc : T.getD a 0 ≠ 46 := fun e => hx ⟨hb, h1.symm.trans e⟩
          refine ⟨3, ((sn.add 6).add 44).add 16, by omega, ?_, ?_⟩
          · exact (run_step rfl (at_yes T a out sn hb) 2).trans ((run_step rfl (dot_no T a out _ (.inr hc)) 1).trans ((run_step rfl (next1 T a out _ 7 hl) 0).trans rfl))
          · intro i hi
            match i, hi with
            | 0, _ => rfl
            | 1, _ => rw [run_step rfl (at_yes T a out sn hb)]; rfl
            | 2, _ => exact (congrArg M.outcome ((run_step rfl (at_yes T a out sn hb) 1).trans (run_step rfl (dot_no T a out _ (.inr hc)) 0))).trans rfl
      obtain ⟨j, sn', hj, e, hn⟩ := hto
      have add : ∀ (k n : Nat) (m : M), (∀ i, i < k → (m.runFor i).outcome = none) → m.runFor (k + n) = (m.runFor k).runFor n := by
        intro k
        induction k with
        | zero => intro n m _; rw [Nat.zero_add]; rfl
        | succ k ih =>
          intro n m hm
          have h0 : m.outcome = none := hm 0 (by omega)
          rw [show k + 1 + n = (k + n) + 1 by omega, run_step h0 rfl, run_step h0 rfl]
          refine ih n m.step fun i hi => ?_
          have := hm (i + 1) (by omega)
          rw [run_step h0 rfl] at this
          exact this
      have ih' := ih sn'
      cases hd : dotAt (decide (c = 10)) r with
      | none =>
        rw [hd] at ih'
        obtain ⟨n, hn', h3⟩ := ih'
        exact ⟨j + n, by simp; omega, by rw [add j n _ hn, e]; exact h3⟩
      | some k =>
        rw [hd] at ih'
        obtain ⟨n, hn', h3, h4, h5⟩ := ih'
        refine ⟨j + n, by simp; omega, by rw [add j n _ hn, e]; exact h3, ?_, ?_⟩
        · rw [add j n _ hn, e, h4]; show a + 1 + k = a + (k + 1); omega
        · rw [add j n _ hn, e, h5]; show a + 1 + k + 1 = a + (k + 1) + 1; omega
theorem forSearch1 (p : Nat) (h : p < T.length) : forSearch code1 T.toArray 0 p T.length false = q1 T p true (({} : Seen).add 14) := by
  unfold forSearch
  have h1 : ¬ (p > T.length ∨ T.length - p < (header code1).1) := by
    show ¬ (p > T.length ∨ T.length - p < 1)
    omega
  simp only [Bool.or_eq_true, decide_eq_true_eq, h1, if_false]
  rfl
theorem search1 (p : Nat) (hp : p ≤ T.length) : match dotAt (bol T p) (T.drop p) with
    | none => MissN (3 * T.length + 5) (forSearch code1 T.toArray 0 p T.length false)
    | some k => HitN (3 * T.length + 5) (forSearch code1 T.toArray 0 p T.length false) (p + k) (p + k + 1) := by
  by_cases hl : p < T.length
  · rw [forSearch1 T p hl]
    have := run1 T (T.drop p) p true (({} : Seen).add 14) rfl hp
    have hle : (T.drop p).length ≤ T.length := by simp
    cases hd : dotAt (bol T p) (T.drop p) with
    | none => rw [hd] at this; exact this.le (by omega)
    | some k => rw [hd] at this; exact this.le (by omega)
  · have hd : T.drop p = [] := List.drop_of_length_le (by omega)
    rw [hd]
    show MissN _ _
    have : ∀ m : M, m.outcome = none → m.answer = some false → m.frames = [] → MissN (3 * T.length + 5) m := fun m h1 h2 h3 => ⟨1, by omega, miss_of h1 h2 h3⟩
    unfold forSearch
    have h1 : (p > T.length ∨ T.length - p < (header code1).1) := by
      show (p > T.length ∨ T.length - p < 1)
      omega
    simp only [Bool.or_eq_true, decide_eq_true_eq, h1, if_true]
    exact this _ rfl rfl rfl
theorem search2N (p : Nat) (hp : p ≤ T.length) : match eolAt (T.drop p) with
    | none => MissN (3 * T.length + 50) (forSearch code2 T.toArray 0 p T.length false)
    | some k => HitN (3 * T.length + 50) (forSearch code2 T.toArray 0 p T.length false) (p + k) (if T.getD (p + k) 0 = 13 ∧ p + k + 1 < T.length ∧ T.getD (p + k + 1) 0 = 10 then p + k + 2 else p + k + 1) := by
  have := search2 T p hp
  cases h : eolAt (T.drop p) with
  | none => rw [h] at this; exact ⟨1, by omega, this⟩
  | some k =>
    rw [h] at this
    obtain ⟨⟨n, hn, h1, h2, h3⟩, h4⟩ := this
    exact ⟨n, by omega, h1, by rw [h2, h4], h3⟩
end
end

open PySem PySem.W PyProof.Rows PySem.Calls

section
open PySem PySem.W PyProof.Rows PySem.Calls

theorem frB {h₀ h : Heap} {L : Addr} {m : Str → Option Value} (F : Fr h₀ L h m) (ps : List (Str × Value)) (hm : ∀ q ∈ ps, m q.1 = some q.2) : Fr h₀ L h (kstB m ps) := by
  have e : kstB m ps = m := by
    funext y
    exact kstB_eq hm fun _ => rfl
  rw [e]; exact F

/-- the end of a turn: the frame and the ledger for the next one -/
def Turn (h₀ : Heap) (L : Addr) (J : (Str → Option Value) → List (Addr × Obj) → Prop) (it : Addr × Obj) (Q : Flow → Shared → Prop) (s₁ : Shared) (f : Flow) (s₂ : Shared) : Prop :=
  match f with
  | .ret v => Q (.ret v) s₂
  | .brk => Q .next s₂
  | _ => ∃ h' tk' m' news', s₂ = { s₁ with heap := h', toks := tk' } ∧ Fr h₀ L h' m' ∧ News h₀ L h' (it :: news') ∧ (∀ q ∈ news', q.2.cls ≠ it.2.cls) ∧ J m' news'

theorem Turn.next {h₀ h' : Heap} {L : Addr} {J : (Str → Option Value) → List (Addr × Obj) → Prop} {it : Addr × Obj} {Q : Flow → Shared → Prop} {s₁ : Shared} {tk' : Nat} {m' : Str → Option Value} {news' : List (Addr × Obj)}
    (F : Fr h₀ L h' m') (N : News h₀ L h' (it :: news')) (hc : ∀ q ∈ news', q.2.cls ≠ it.2.cls) (hJ : J m' news') : Turn h₀ L J it Q s₁ .next { s₁ with heap := h', toks := tk' } :=
  ⟨h', tk', m', news', rfl, F, N, hc, hJ⟩

theorem le_line {n : Nat} (h : n ≤ 1000000) : n ≤ sizeLine := by rw [sizeLine_eq]; omega
def NewIn (h h' : Heap) (q : List (Addr × Obj)) : Prop := ∀ p ∈ q, h'.get? p.1 = some p.2 ∧ h.get? p.1 = none
theorem NewIn.of {h h' : Heap} {L : Addr} {q : List (Addr × Obj)} (N : News h L h' q) : NewIn h h' q := fun p hp => ⟨(N p hp).1, (N p hp).2.2⟩
theorem fr_stays {h₀ h h' : Heap} {L : Addr} {m : Str → Option Value} (F : Fr h₀ L h m) (k : h.StaysIn h') : Fr h₀ L h' m := by
  obtain ⟨oL, es, ep, hLg, r⟩ := F.ns
  exact ⟨⟨oL, es, ep, k _ _ hLg, r⟩, fun b o e => k _ _ (F.keep b o e), F.above⟩
theorem news_stays {h₀ h h' : Heap} {L : Addr} {news : List (Addr × Obj)} (N : News h₀ L h news) (k : h.StaysIn h') : News h₀ L h' news := fun p hp => ⟨k _ _ (N p hp).1, (N p hp).2⟩
theorem news_add {h₀ h h' : Heap} {L : Addr} {m : Str → Option Value} {news q : List (Addr × Obj)} (F : Fr h₀ L h m) (N : News h₀ L h news) (k : h.StaysIn h') (W : NewIn h h' q) : News h₀ L h' (q ++ news) := by
  intro p hp
  rcases List.mem_append.mp hp with hp | hp
  · obtain ⟨h1, h2⟩ := W p hp
    refine ⟨h1, ?_, ?_⟩
    · obtain ⟨oL, es, ep, hLg, r⟩ := F.ns
      rintro rfl
      rw [hLg] at h2; cases h2
    · cases e : h₀.get? p.1 with
      | none => rfl
      | some o => have := F.keep _ _ e; rw [h2] at this; cases this
  · exact news_stays N k p hp
abbrev rit (k left : Int) : Obj := { cls := .type "range_iterator", dict := none, data := .fields #[rawInt k, rawInt left, rawInt 1], slots := #[] }
abbrev lit (l : Addr) (k : Nat) : Obj := { cls := .type "list_iterator", dict := none, data := .fields #[.ref l, .int k 0], slots := #[] }

section
variable {prog : Program} {w : World} {A : Around} {s : Shared} {env : Env} {h₀ : Heap} {L : Addr} {Q : Flow → Shared → Prop}

theorem news_ne {h : Heap} {news : List (Addr × Obj)} {it : Addr × Obj} (N : News h₀ L h (it :: news)) (hc : ∀ q ∈ news, q.2.cls ≠ it.2.cls) : ∀ q ∈ news, q.1 ≠ it.1 := fun q hq e => by
  have h1 := (N q (.tail _ hq)).1
  have h2 := (N it (.head _)).1
  rw [e, h2] at h1
  exact hc q hq (by rw [Option.some.inj h1])

theorem fr_same {h h' : Heap} {m : Str → Option Value} {it : Addr} (F : Fr h₀ L h m) (hL : L ≠ it) (h0 : h₀.get? it = none) (hs : Heap.ExtBut it h h') : Fr h₀ L h' m := by
  obtain ⟨oL, es, ep, hLg, r⟩ := F.ns
  exact ⟨⟨oL, es, ep, hs L oL hL hLg, r⟩, fun b o e => hs b o (by rintro rfl; rw [h0] at e; cases e) (F.keep b o e), F.above⟩

theorem news_same {h h' : Heap} {news : List (Addr × Obj)} {it : Addr} (N : News h₀ L h news) (hn : ∀ q ∈ news, q.1 ≠ it) (hs : Heap.ExtBut it h h') : News h₀ L h' news :=
  fun q hq => ⟨hs q.1 q.2 (hn q hq) (N q hq).1, (N q hq).2⟩

/-- a for over a range, by an invariant -/
theorem iter_range {x : Str} {px : Pos} {body : List Stmt} {n : Nat} {r : Addr} {t u v : Tok} {m₀ : Str → Option Value} {news₀ : List (Addr × Obj)} (J : Nat → (Str → Option Value) → List (Addr × Obj) → Prop)
    (hh : A.handled = none) (hk : env.kindOf x = some .local) (hp : (env.scope.kind == .class || (env.scope.kind == .module && env.locals != env.globals)) = false) (hL : env.locals = L)
    (hr : IsRange s.heap r 0 n 1 t u v) (hn : n < 1000000)
    (F : Fr h₀ L s.heap m₀) (N : News h₀ L s.heap news₀) (hc₀ : ∀ q ∈ news₀, q.2.cls ≠ .type "range_iterator") (hJ : J 0 m₀ news₀)
    (turn : ∀ k m news h tk t it, k < n → J k m news → (∀ q ∈ news, q.2.cls ≠ .type "range_iterator") → (∀ q ∈ news, q.1 ≠ it) → Fr h₀ L h (fun y => if y = x then some (.int k t) else m y) → News h₀ L h ((it, rit (k + 1) (n - k - 1)) :: news) →
      wpAny (model prog w) A (execs body env) (Turn h₀ L (J (k + 1)) (it, rit (k + 1) (n - k - 1)) Q { s with heap := h, toks := tk }) (fun _ _ => False) { s with heap := h, toks := tk })
    (done : ∀ m news h tk, J n m news → Fr h₀ L h m → News h₀ L h news → Q .next { s with heap := h, toks := tk }) :
    wpAny (model prog w) A (pyIter (.ref r)) (fun it s₂ => codeAny (model prog w) A (.forLoop (.Name x px) it body [] env) (fun r s' => match r with | .ok f => Q f s' | .error e => cameBackBy (model prog w) A env (fun _ _ => False) e s') s₂) (fun _ _ => False) s := by
  subst hL
  have hsz : Builtin.Range.rangeSize 0 (n : Int) 1 = n := by
    unfold Builtin.Range.rangeSize
    split <;> (try split) <;> omega
  have hsm : Builtin.Range.small 0 (n : Int) 1 = true := by
    unfold Builtin.Range.small
    rw [hsz]
    unfold Builtin.Range.rangeFitsLong
    simp only [Bool.and_eq_true, Bool.or_eq_true, decide_eq_true_eq, beq_iff_eq]
    refine ⟨⟨⟨⟨?_, ?_⟩, ?_⟩, ?_⟩, ?_⟩ <;> (try simp) <;> omega
  refine wpAny_pyIter_range hr hsm ?_
  rw [hsz]
  have hLlt := F.ns.lt
  have hitL : env.locals ≠ s.heap.objs.size := Nat.ne_of_lt hLlt
  have hit0 : h₀.get? s.heap.objs.size = none := by
    cases hq : h₀.get? s.heap.objs.size with
    | none => rfl
    | some o => exact absurd (Heap.lt_size (F.keep _ _ hq)) (Nat.lt_irrefl _)
  let I : Nat → Shared → Prop := fun j s' => ∃ k h tk m news, j + k = n ∧ s' = { s with heap := h, toks := tk } ∧ J k m news ∧ (∀ q ∈ news, q.2.cls ≠ .type "range_iterator") ∧ Fr h₀ env.locals h m ∧ News h₀ env.locals h ((s.heap.objs.size, rit k (n - k)) :: news)
  refine codeAny_forLoop I ?_ n ?_ (fun _ => rfl)
  · rintro j s' ⟨k, h, tk, m, news, hjk, rfl, hJk, hcn, Fk, Nk⟩
    have hit : h.get? s.heap.objs.size = some (rit k (n - k)) := (Nk _ (.head _)).1
    have hne := news_ne Nk hcn
    by_cases hkn : k < n
    · refine wpAny_pyNext_range_item (x := (k : Int)) (left := (n : Int) - k) (step := 1) hit (by omega) ?_
      intro h' hit' hsb
      have F' := fr_same Fk hitL hit0 hsb.extBut
      have N' : News h₀ env.locals h' ((s.heap.objs.size, rit (k + 1) (n - k - 1)) :: news) := by
        intro q hq
        rcases List.mem_cons.mp hq with rfl | hq
        · exact ⟨hit', Ne.symm hitL, hit0⟩
        · exact news_same (fun q hq => Nk q (.tail _ hq)) hne hsb.extBut q hq
      refine wpAny_assign_Name (wpAny_storeName_local hk F'.ns (fun h₂ hn₂ hs₂ => ?_) hp)
      have F₂ : Fr h₀ env.locals h₂ _ := F'.set hn₂ hs₂
      have N₂ := N'.set hs₂
      refine wpAny_mono (turn k m news h₂ (tk + 1 + 1) tk s.heap.objs.size hkn hJk hcn hne F₂ N₂) (fun f s₃ hf => ?_) fun _ _ e => e.elim
      have fin : (∃ h' tk' m' news', s₃ = { s with heap := h', toks := tk' } ∧ Fr h₀ env.locals h' m' ∧ News h₀ env.locals h' ((s.heap.objs.size, rit (k + 1) (n - k - 1)) :: news') ∧ (∀ q ∈ news', q.2.cls ≠ .type "range_iterator") ∧ J (k + 1) m' news') → ∃ m, m < j ∧ I m s₃ := by
        rintro ⟨h', tk', m', news', rfl, F', N', hc', hJ'⟩
        refine ⟨j - 1, by omega, k + 1, h', tk', m', news', by omega, rfl, hJ', hc', F', ?_⟩
        have e : rit ((k + 1 : Nat) : Int) (n - (k + 1 : Nat)) = rit (k + 1) (n - k - 1) := by
          have e1 : ((k + 1 : Nat) : Int) = (k : Int) + 1 := by omega
          have e2 : (n : Int) - (k + 1 : Nat) = n - k - 1 := by omega
          rw [e1, ← e2]; rfl
        rw [e]; exact N'
      cases f with
      | next => exact fin hf
      | cont => exact fin hf
      | brk => exact hf
      | ret v => exact hf
    · have hk' : k = n := by omega
      subst hk'
      refine wpAny_pyNext_range_end hh hit (by omega) ?_
      intro h' hsb
      refine wpAny_execs_nil ?_
      exact done m news h' tk hJk (fr_same Fk hitL hit0 hsb) (news_same (fun q hq => Nk q (.tail _ hq)) hne hsb)
  · refine ⟨0, _, s.toks, m₀, news₀, by omega, rfl, hJ, hc₀, F.push _, ?_⟩
    have := N.push F (rit 0 n) rfl
    simpa using this

/-- a for over a list that stands still, by an invariant -/
theorem iter_list {x : Str} {px : Pos} {body : List Stmt} {l : Addr} {items : Array Value} {m₀ : Str → Option Value} {news₀ : List (Addr × Obj)} (J : Nat → (Str → Option Value) → List (Addr × Obj) → Prop)
    (hh : A.handled = none) (hk : env.kindOf x = some .local) (hp : (env.scope.kind == .class || (env.scope.kind == .module && env.locals != env.globals)) = false) (hL : env.locals = L)
    (hl : ∀ k m news h, J k m news → Fr h₀ L h m → News h₀ L h news → h.IsList l items)
    (F : Fr h₀ L s.heap m₀) (N : News h₀ L s.heap news₀) (hc₀ : ∀ q ∈ news₀, q.2.cls ≠ .type "list_iterator") (hJ : J 0 m₀ news₀)
    (turn : ∀ k v m news h tk it, items[k]? = some v → J k m news → (∀ q ∈ news, q.2.cls ≠ .type "list_iterator") → (∀ q ∈ news, q.1 ≠ it) → Fr h₀ L h (fun y => if y = x then some v else m y) → News h₀ L h ((it, lit l (k + 1)) :: news) →
      wpAny (model prog w) A (execs body env) (Turn h₀ L (J (k + 1)) (it, lit l (k + 1)) Q { s with heap := h, toks := tk }) (fun _ _ => False) { s with heap := h, toks := tk })
    (done : ∀ m news h tk, J items.size m news → Fr h₀ L h m → News h₀ L h news → Q .next { s with heap := h, toks := tk }) :
    wpAny (model prog w) A (pyIter (.ref l)) (fun it s₂ => codeAny (model prog w) A (.forLoop (.Name x px) it body [] env) (fun r s' => match r with | .ok f => Q f s' | .error e => cameBackBy (model prog w) A env (fun _ _ => False) e s') s₂) (fun _ _ => False) s := by
  subst hL
  refine wpAny_pyIter_list (hl 0 _ _ _ hJ F N) ?_
  have hLlt := F.ns.lt
  have hitL : env.locals ≠ s.heap.objs.size := Nat.ne_of_lt hLlt
  have hit0 : h₀.get? s.heap.objs.size = none := by
    cases hq : h₀.get? s.heap.objs.size with
    | none => rfl
    | some o => exact absurd (Heap.lt_size (F.keep _ _ hq)) (Nat.lt_irrefl _)
  let I : Nat → Shared → Prop := fun j s' => ∃ k h tk m news, j + k = items.size ∧ s' = { s with heap := h, toks := tk } ∧ J k m news ∧ (∀ q ∈ news, q.2.cls ≠ .type "list_iterator") ∧ Fr h₀ env.locals h m ∧ News h₀ env.locals h ((s.heap.objs.size, lit l k) :: news)
  refine codeAny_forLoop I ?_ items.size ?_ (fun _ => rfl)
  · rintro j s' ⟨k, h, tk, m, news, hjk, rfl, hJk, hcn, Fk, Nk⟩
    have hit : h.get? s.heap.objs.size = some (lit l k) := (Nk _ (.head _)).1
    have hne := news_ne Nk hcn
    have Nk' : News h₀ env.locals h news := fun q hq => Nk q (.tail _ hq)
    have hlk := hl k m news h hJk Fk Nk'
    by_cases hkn : k < items.size
    · obtain ⟨v, hv⟩ : ∃ v, items[k]? = some v := ⟨items[k], by simp [hkn]⟩
      obtain ⟨ol, hol, hcl, nl, hdl⟩ := id hlk
      -- the step, written out
      unfold pyNext
      have hT : Shared.TypeIs { s with heap := h, toks := tk } (.ref s.heap.objs.size) "list_iterator" := ⟨_, hit, rfl⟩
      refine wpAny_bind (wpAny_attempt (wpAny_callSpecial?_slot (name := Str.ofString "__next__") hT slot_listiter_next
        (wpAny_call_entry slot_listiter_next hT entry_listiter_next ?_ (args_listiter_next _))))
      show wpAny _ _ (field (.ref s.heap.objs.size) 0 >>= _) _ _ _
      refine wpAny_bind (wpAny_field hit rfl (x := .ref l) rfl ?_)
      show wpAny _ _ (if (Value.ref l == Value.none) = true then _ else _) _ _ _
      rw [if_neg (show ¬ ((Value.ref l == Value.none) = true) from Bool.false_ne_true)]
      show wpAny _ _ (field (.ref s.heap.objs.size) 1 >>= _) _ _ _
      refine wpAny_bind (wpAny_field hit rfl (x := .int k 0) rfl ?_)
      show wpAny _ _ (seqItems? (.ref l) >>= _) _ _ _
      refine wpAny_bind (wpAny_seqItems hol hdl ?_)
      simp only [Int.toNat_natCast, hv]
      refine wpAny_bind (wpAny_setField hit rfl (by simp) (wpAny_pure ⟨v, rfl, wpAny_pure ?_⟩))
      have hsb : Heap.SameBut s.heap.objs.size h (h.update s.heap.objs.size (Obj.mapFields fun vs => vs.setIfInBounds 1 (rawInt (k + 1)))) := Heap.SameBut.update ..
      have hit2 : (h.update s.heap.objs.size (Obj.mapFields fun vs => vs.setIfInBounds 1 (rawInt (k + 1)))).get? s.heap.objs.size = some (lit l (k + 1)) := by
        have := Heap.get?_update_self (Obj.mapFields fun vs => vs.setIfInBounds 1 (rawInt (k + 1))) hit (by rfl)
        exact this
      have F' := fr_same Fk hitL hit0 hsb.extBut
      have N' : News h₀ env.locals (h.update s.heap.objs.size (Obj.mapFields fun vs => vs.setIfInBounds 1 (rawInt (k + 1)))) ((s.heap.objs.size, lit l (k + 1)) :: news) := by
        intro q hq
        rcases List.mem_cons.mp hq with rfl | hq
        · exact ⟨hit2, Ne.symm hitL, hit0⟩
        · exact news_same Nk' hne hsb.extBut q hq
      refine wpAny_assign_Name (wpAny_storeName_local hk F'.ns (fun h₂ hn₂ hs₂ => ?_) hp)
      have F₂ : Fr h₀ env.locals h₂ _ := F'.set hn₂ hs₂
      have N₂ := N'.set hs₂
      refine wpAny_mono (turn k v m news h₂ (tk + 1) s.heap.objs.size hv hJk hcn hne F₂ N₂) (fun f s₃ hf => ?_) fun _ _ e => e.elim
      have fin : (∃ h' tk' m' news', s₃ = { s with heap := h', toks := tk' } ∧ Fr h₀ env.locals h' m' ∧ News h₀ env.locals h' ((s.heap.objs.size, lit l (k + 1)) :: news') ∧ (∀ q ∈ news', q.2.cls ≠ .type "list_iterator") ∧ J (k + 1) m' news') → ∃ m, m < j ∧ I m s₃ := by
        rintro ⟨h', tk', m', news', rfl, F', N', hc', hJ'⟩
        exact ⟨j - 1, by omega, k + 1, h', tk', m', news', by omega, rfl, hJ', hc', F', N'⟩
      cases f with
      | next => exact fin hf
      | cont => exact fin hf
      | brk => exact hf
      | ret v => exact hf
    · have hk' : k = items.size := by omega
      subst hk'
      refine wpAny_pyNext_list_end hh ⟨_, hit, rfl, rfl⟩ hlk (by simp) ?_
      intro h' hsb
      refine wpAny_execs_nil ?_
      exact done m news h' tk hJk (fr_same Fk hitL hit0 hsb) (news_same Nk' hne hsb)
  · refine ⟨0, _, s.toks, m₀, news₀, by omega, rfl, hJ, hc₀, F.push _, ?_⟩
    exact N.push F (lit l 0) rfl
end
end

section
open PySem PySem.W PyProof.Rows PySem.Calls
section
variable {prog : Program} {w : World} {A : Around} {E : Value → Shared → Prop} {s : Shared} {h₀ : Heap} {L : Addr} {m : Str → Option Value} {news news' : List (Addr × Obj)}

theorem isList_led {h : Heap} {l : Addr} {its : Array Value} {n : Nat} (N : News h₀ L h news) (hm : (l, W.listOf its n) ∈ news) : h.IsList l its := ⟨_, (N _ hm).1, rfl, n, rfl⟩

theorem getItem_led {l : Addr} {its : Array Value} {n : Nat} {k : Int} {t : Tok} {x : Value} {Q : Value → Shared → Prop} (N : News h₀ L s.heap news) (hm : (l, W.listOf its n) ∈ news)
    (h0 : 0 ≤ k) (hfit : k < 2 ^ 63) (hx : its[k.toNat]? = some x) (h : Q x s) : wpAny (model prog w) A (getItem (.ref l) (.int k t)) Q E s :=
  wpAny_getItem_list (isList_led N hm) h0 hfit hx h

theorem getItem_last {l : Addr} {its : Array Value} {n : Nat} {t : Tok} {x : Value} {Q : Value → Shared → Prop} (N : News h₀ L s.heap news) (hm : (l, W.listOf (its.push x) n) ∈ news)
    (h : Q x s) : wpAny (model prog w) A (getItem (.ref l) (.int (-1) t)) Q E s :=
  wpAny_getItem_list_neg (isList_led N hm) (by decide) (by rw [Array.size_push]; omega) (by decide) (by
    have : ((-1 : Int) + ((its.push x).size : Nat)).toNat = its.size := by rw [Array.size_push]; omega
    rw [this]; simp) h

theorem setItem_last {l : Addr} {its : Array Value} {n : Nat} {t : Tok} {x v : Value} {Q : Unit → Shared → Prop} (F : Fr h₀ L s.heap m) (N : News h₀ L s.heap news)
    (U : Upd l (W.listOf (its.push x) n) (W.listOf (its.push v) n) news news')
    (h : ∀ h', Fr h₀ L h' m → News h₀ L h' news' → Q () { s with heap := h' }) : wpAny (model prog w) A (setItem (.ref l) (.int (-1) t) v) Q E s := by
  obtain ⟨pre, post, rfl, rfl, h1, h2⟩ := U.split
  have z := N (l, W.listOf (its.push x) n) (by simp)
  have hl : s.heap.IsList l (its.push x) := ⟨_, z.1, rfl, n, rfl⟩
  unfold setItem
  try with_reducible refine wpAny_holding ?_
  first | refine wpAny_bind (wpAny_pure ?_) | skip
  refine wpAny_bind (wpAny_sequenceKey hl.typeIs (by decide) ?_)
  refine wpAny_bind (wpAny_callSpecial?_slot (name := Str.ofString "__setitem__") hl.typeIs slot_list_setitem
    (wpAny_call_entry slot_list_setitem hl.typeIs entry_list_setitem ?_ (args_list_setitem _ _ _)))
  show wpAny _ _ (Builtin.List.listSubscript? (.int (-1) t) >>= _) _ _ s
  refine wpAny_bind (wpAny_listSubscript_int (fitsIndex_neg (by decide) (by decide)) ?_)
  have hidx : seqIndex? (-1) (its.push x).size = some its.size := by
    rw [seqIndex_neg (by decide) (by rw [Array.size_push]; omega)]
    congr 1
    rw [Array.size_push]; omega
  show wpAny _ _ ((Builtin.List.listItems (.ref l) >>= fun xs => pure ((seqIndex? (-1) xs.size).bind fun i => xs[i]?.map (i, ·))) >>= _) _ _ s
  refine wpAny_bind (wpAny_bind ?_)
  show wpAny _ _ (seqItems? (.ref l) >>= _) _ _ s
  refine wpAny_bind (wpAny_seqItems z.1 rfl (wpAny_pure (wpAny_pure ?_)))
  rw [hidx]
  have hx : (its.push x)[its.size]? = some x := by simp
  simp only [Option.bind_some, hx, Option.map_some]
  show wpAny _ _ (setSeqItemAt l its.size v >>= _) _ _ s
  refine wpAny_bind (wpAny_setSeqItemAt z.1 rfl ?_)
  have e : Obj.mapSeq (·.setIfInBounds its.size v) (W.listOf (its.push x) n) = W.listOf (its.push v) n := by
    have e0 : (its.push x).setIfInBounds its.size v = its.push v := by
      apply Array.ext'
      simp
    simp [Obj.mapSeq, W.listOf, e0]
  have fin := news_upd (f := Obj.mapSeq (·.setIfInBounds its.size v)) F N h1 h2 e rfl
  first
    | exact wpAny_bind (wpAny_pure (wpAny_pure ⟨.none, rfl, wpAny_pure (h _ fin.1 fin.2)⟩))
    | exact wpAny_pure ⟨.none, rfl, wpAny_pure (h _ fin.1 fin.2)⟩
end
end

section
open PySem PySem.W PyProof.Rows PySem.Calls PyProof
/-- a text by the numbers of its signs -/
abbrev S (l : List Nat) : Str := ⟨l.toArray⟩
theorem S_len (l : List Nat) : (S l).length = l.length := by simp [Str.length]
theorem S_add (a b : List Nat) : S a ++ S b = S (a ++ b) := by
  show Str.append _ _ = _
  unfold Str.append
  simp
theorem S_beq (a b : List Nat) : (S a == S b) = decide (a = b) := by
  by_cases h : a = b
  · subst h; simp
  · have : S a ≠ S b := fun e => h (by injection e with e; simpa using e)
    simp [h, this]
theorem S_bne (a b : List Nat) : (S a != S b) = decide (a ≠ b) := by
  unfold bne; rw [S_beq]; by_cases h : a = b <;> simp [h]
theorem S_inj {a b : List Nat} (e : S a = S b) : a = b := by injection e with e; simpa using e
theorem S_toList (x : Str) : S x.cps.toList = x := by simp [S]
theorem S_item {l : List Nat} {k : Nat} (h : k < l.length) : Txt.item (S l) (k : Int) = S [l.getD k 0] := by
  rw [PyProof.Rows.item_at (n := k) (by omega) (by rw [S_len]; omega) (by simp)]
  simp [S]
theorem S_contains (l : List Nat) (c : Nat) : Txt.contains (S l) (S [c]) = decide (c ∈ l) := by
  have := StrLaws.found_one (S l) c
  unfold Txt.contains
  simpa using this
theorem S_slice_to {l : List Nat} {j : Nat} (h : j ≤ l.length) : Txt.slice (S l) none (some (j : Int)) = S (l.take j) := by
  have := PyProof.Rows.slice_closes_toL (x := S l) (j := j) (by omega) (by rw [S_len]; omega)
  rw [beq_iff_eq] at this
  rw [this]
  simp [S]
theorem S_slice_from {l : List Nat} {i : Nat} (h : i ≤ l.length) : Txt.slice (S l) (some (i : Int)) none = S (l.drop i) := by
  have := PyProof.Rows.slice_closes_fromL (x := S l) (i := i) (b := (l.length : Int)) (by omega) (by rw [S_len]; omega) (by rw [S_len])
  rw [beq_iff_eq] at this
  rw [this]
  have e : ((l.length : Int) - (i : Int)).toNat = l.length - i := by omega
  simp only [S, e, Int.toNat_natCast]
  rw [List.take_of_length_le (by simp)]
theorem S_slice {l : List Nat} {i j : Nat} (h : i ≤ j) (h2 : j ≤ l.length) : Txt.slice (S l) (some (i : Int)) (some (j : Int)) = S ((l.drop i).take (j - i)) := by
  have := PyProof.Rows.slice_closesL (x := S l) (i := i) (j := j) (by omega) (by omega) (by rw [S_len]; omega)
  rw [beq_iff_eq] at this
  rw [this]
  have e : ((j : Int) - (i : Int)).toNat = j - i := by omega
  simp [S]
theorem slice_neg_lower (x : Str) {i : Nat} (u : Option Int) (hi : 0 < i) (h : i ≤ x.length) : Txt.slice x (some (-(i : Int))) u = Txt.slice x (some ((x.length - i : Nat) : Int)) u := by
  have e : Builtin.Str.strSliceIndices (some (-(i : Int))) u 1 x.length = Builtin.Str.strSliceIndices (some ((x.length - i : Nat) : Int)) u 1 x.length := by
    unfold Builtin.Str.strSliceIndices
    have h1 : (-(i : Int)) < 0 := by omega
    have h2 : ¬ (((x.length - i : Nat) : Int) < 0) := by omega
    have h3 : (-(i : Int)) + (x.length : Int) = ((x.length - i : Nat) : Int) := by omega
    simp only [if_pos h1, if_neg h2, h3]
  unfold Txt.slice
  rw [e]
theorem slice_neg_upper (x : Str) {i : Nat} (l : Option Int) (hi : 0 < i) (h : i ≤ x.length) : Txt.slice x l (some (-(i : Int))) = Txt.slice x l (some ((x.length - i : Nat) : Int)) := by
  have e : Builtin.Str.strSliceIndices l (some (-(i : Int))) 1 x.length = Builtin.Str.strSliceIndices l (some ((x.length - i : Nat) : Int)) 1 x.length := by
    unfold Builtin.Str.strSliceIndices
    have h1 : (-(i : Int)) < 0 := by omega
    have h2 : ¬ (((x.length - i : Nat) : Int) < 0) := by omega
    have h3 : (-(i : Int)) + (x.length : Int) = ((x.length - i : Nat) : Int) := by omega
    simp only [if_pos h1, if_neg h2, h3]
  unfold Txt.slice
  rw [e]
theorem S_slice_last {l : List Nat} {i : Nat} (hi : 0 < i) (h : i ≤ l.length) : Txt.slice (S l) (some (-(i : Int))) none = S (l.drop (l.length - i)) := by
  rw [slice_neg_lower _ _ hi (by rw [S_len]; exact h), S_len, S_slice_from (by omega)]
theorem S_slice_nil (a b : Option Int) : Txt.slice (S []) a b = S [] := by
  have := Txt.slice_le (S []) a b
  rw [S_len] at this
  generalize Txt.slice (S []) a b = y at this
  obtain ⟨c⟩ := y
  have : c.size = 0 := by simpa [Str.length] using this
  simp [S, Array.eq_empty_of_size_eq_zero this]
/-- mail[:k][-1:] -/
theorem S_prev {l : List Nat} {k : Nat} (h : k ≤ l.length) : Txt.slice (Txt.slice (S l) none (some (k : Int))) (some (-1)) none = S (if k = 0 then [] else [l.getD (k - 1) 0]) := by
  rw [S_slice_to h]
  by_cases h0 : k = 0
  · subst h0; simp only [List.take_zero, if_true]; exact S_slice_nil _ _
  · rw [if_neg h0]
    have hl : (l.take k).length = k := by simp; omega
    have := S_slice_last (l := l.take k) (i := 1) (by omega) (by omega)
    rw [show (-1 : Int) = -((1 : Nat) : Int) by rfl, this, hl]
    have : (l.take k).drop (k - 1) = [l.getD (k - 1) 0] := by
      apply List.ext_getElem?
      intro j
      simp only [List.getElem?_drop, List.getElem?_take]
      rcases j with _ | j
      · simp [show k - 1 < k by omega, List.getD_eq_getElem?_getD]
        rw [List.getElem?_eq_getElem (by omega)]; simp
      · simp; omega
    rw [this]
theorem strs_push {vs : Array Value} {xs : List (List Nat)} {x : List Nat} {t : Tok} (h : StrsAre vs.toList (xs.map S)) : StrsAre (vs.push (.str (S x) t)).toList ((xs ++ [x]).map S) := by
  rw [Array.toList_push, List.map_append]
  exact h.append' (.cons _ _ .nil)
end

section
open PySem PySem.W PyProof.Rows PySem.Calls
/-- a continuation under a name: it is not copied at each depth of the proof's term -/
structure IsQ (Q R : Flow → Shared → Prop) : Type where
  eq : Q = R
theorem endQ {Q R : Flow → Shared → Prop} {fl : Flow} {s : Shared} (hq : IsQ Q R) (h : R fl s) : Q fl s := by rw [hq.eq]; exact h
/-- what stands behind a statement: the rest of its block -/
def Rest (M : Model) (A : Around) (rest : List Stmt) (env : Env) (Q : Flow → Shared → Prop) (E : Value → Shared → Prop) : Flow → Shared → Prop :=
  fun f s' => match f with | .next => wpAny M A (execs rest env) Q E s' | f => Q f s'
section
variable {M : Model} {A : Around} {rest : List Stmt} {env : Env} {Q Q' : Flow → Shared → Prop} {E : Value → Shared → Prop} {s : Shared}
theorem execsN {st : Stmt} (h : ∀ Q', IsQ Q' (Rest M A rest env Q E) → wpAny M A (exec st env) Q' E s) : wpAny M A (execs (st :: rest) env) Q E s := wpAny_execs_cons (h _ ⟨rfl⟩)
theorem endN (hq : IsQ Q' (Rest M A rest env Q E)) (h : wpAny M A (execs rest env) Q E s) : Q' .next s := by rw [hq.eq]; exact h
theorem endR (hq : IsQ Q' (Rest M A rest env Q E)) {v : Value} (h : Q (.ret v) s) : Q' (.ret v) s := by rw [hq.eq]; exact h
theorem endB (hq : IsQ Q' (Rest M A rest env Q E)) (h : Q .brk s) : Q' .brk s := by rw [hq.eq]; exact h
theorem endC (hq : IsQ Q' (Rest M A rest env Q E)) (h : Q .cont s) : Q' .cont s := by rw [hq.eq]; exact h
end
inductive AllB (m : Str → Option Value) : List (Str × Value) → Prop
  | nil : AllB m []
  | cons {x : Str} {v : Value} {l : List (Str × Value)} (h : m x = some v) (t : AllB m l) : AllB m ((x, v) :: l)
theorem AllB.all {m : Str → Option Value} {l : List (Str × Value)} (h : AllB m l) : ∀ q ∈ l, m q.1 = some q.2 := by
  induction h with
  | nil => exact fun _ h => nomatch h
  | cons h _ ih => exact List.forall_mem_cons.mpr ⟨h, ih⟩
theorem frC {h₀ h : Heap} {L : Addr} {m : Str → Option Value} (F : Fr h₀ L h m) (ps : List (Str × Value)) (hm : AllB m ps) : Fr h₀ L h (kstB m ps) := frB F ps hm.all
theorem subN {l' : List (Addr × Obj)} : ∀ q ∈ ([] : List (Addr × Obj)), q ∈ l' := fun _ h => nomatch h
theorem subC {a : Addr × Obj} {l l' : List (Addr × Obj)} (h : a ∈ l') (t : ∀ q ∈ l, q ∈ l') : ∀ q ∈ a :: l, q ∈ l' := List.forall_mem_cons.mpr ⟨h, t⟩
structure IsV {α : Type} (Q R : α → Shared → Prop) : Type where
  eq : Q = R
theorem endV {α : Type} {Q R : α → Shared → Prop} {v : α} {s : Shared} (hq : IsV Q R) (h : R v s) : Q v s := by rw [hq.eq]; exact h
theorem TupleN {M : Model} {A : Around} {E : Value → Shared → Prop} {s : Shared} {env : Env} {elts : List Expr} {k : Nat} {pos : Pos} {Q : Value → Shared → Prop}
    (h : ∀ Q' : List Value → Shared → Prop, IsV Q' (fun vs s₁ => wpAny M A (newTuple vs) Q E s₁) → wpAny M A (spliced (backTo pos (starEach elts env))) Q' E s) : wpAny M A (eval (.Tuple elts k pos) env) Q E s := Tuple_ (h _ ⟨rfl⟩)
theorem ListN {M : Model} {A : Around} {E : Value → Shared → Prop} {s : Shared} {env : Env} {elts : List Expr} {pos : Pos} {Q : Value → Shared → Prop}
    (h : ∀ Q' : List Value → Shared → Prop, IsV Q' (fun vs s₁ => wpAny M A (newList vs) Q E s₁) → wpAny M A (spliced (backTo pos (starEach elts env))) Q' E s) : wpAny M A (eval (.List elts pos) env) Q E s := List_ (h _ ⟨rfl⟩)
/-! where a walk stops: each is the goal itself, under the form that its name says -/
section
variable {M : Model} {A : Around} {E : Value → Shared → Prop} {s : Shared} {env : Env}
theorem sFor {a b c d e Q} (h : wpAny M A (exec (Stmt.For a b c d e) env) Q E s) : wpAny M A (exec (Stmt.For a b c d e) env) Q E s := h
theorem sWhile {a b c d Q} (h : wpAny M A (exec (Stmt.While a b c d) env) Q E s) : wpAny M A (exec (Stmt.While a b c d) env) Q E s := h
theorem sIter {a Q} (h : wpAny M A (pyIter a) Q E s) : wpAny M A (pyIter a) Q E s := h
theorem sGet {a b Q} (h : wpAny M A (getItem (Value.ref a) b) Q E s) : wpAny M A (getItem (Value.ref a) b) Q E s := h
theorem sSet {a b c Q} (h : wpAny M A (setItem (Value.ref a) b c) Q E s) : wpAny M A (setItem (Value.ref a) b c) Q E s := h
theorem sApp {a Q} (h : wpAny M A (call (Value.builtin "list.append") a) Q E s) : wpAny M A (call (Value.builtin "list.append") a) Q E s := h
theorem sReSub {a Q} (h : wpAny M A (call (Value.builtin "re.Pattern.sub") a) Q E s) : wpAny M A (call (Value.builtin "re.Pattern.sub") a) Q E s := h
theorem sMSub {a b Q} (h : wpAny M A (getMethod (Value.ref a) (Str.ofString "sub") b) Q E s) : wpAny M A (getMethod (Value.ref a) (Str.ofString "sub") b) Q E s := h
theorem sTrl {a Q} (h : wpAny M A (call (Value.builtin "str.translate") a) Q E s) : wpAny M A (call (Value.builtin "str.translate") a) Q E s := h
theorem sAttr {a b c Q} (h : wpAny M A (getAttr (Value.ref a) b c) Q E s) : wpAny M A (getAttr (Value.ref a) b c) Q E s := h
theorem sCall {a b c Q} (h : wpAny M A (call (Value.ref a) b c) Q E s) : wpAny M A (call (Value.ref a) b c) Q E s := h
theorem sLam {a b c d Q} (h : wpAny M A (eval (Expr.Lambda a b c d) env) Q E s) : wpAny M A (eval (Expr.Lambda a b c d) env) Q E s := h
theorem sLen {a Q} (h : wpAny M A (call (Value.builtin "len") [Value.ref a]) Q E s) : wpAny M A (call (Value.builtin "len") [Value.ref a]) Q E s := h
theorem sJoin {a Q} (h : wpAny M A (call (Value.builtin "str.join") a) Q E s) : wpAny M A (call (Value.builtin "str.join") a) Q E s := h
theorem sALC {a b c d e f Q} (h : wpAny M A (exec (Stmt.Assign a (Expr.ListComp b c d e) f) env) Q E s) : wpAny M A (exec (Stmt.Assign a (Expr.ListComp b c d e) f) env) Q E s := h
theorem sAdd {a b Q} (h : wpAny M A (binaryOp Operator.Add (Value.ref a) (Value.ref b)) Q E s) : wpAny M A (binaryOp Operator.Add (Value.ref a) (Value.ref b)) Q E s := h
theorem sIn {a b Q} (h : wpAny M A (compareOp CmpOp.In a (Value.ref b)) Q E s) : wpAny M A (compareOp CmpOp.In a (Value.ref b)) Q E s := h
theorem sMin {a Q} (h : wpAny M A (call (Value.builtin "min") [Value.ref a]) Q E s) : wpAny M A (call (Value.builtin "min") [Value.ref a]) Q E s := h
theorem sList {a Q} (h : wpAny M A (call (Value.type "list") [Value.ref a]) Q E s) : wpAny M A (call (Value.type "list") [Value.ref a]) Q E s := h
theorem sLC {a b c d Q} (h : wpAny M A (eval (Expr.ListComp a b c d) env) Q E s) : wpAny M A (eval (Expr.ListComp a b c d) env) Q E s := h
theorem sEq {a b Q} (h : wpAny M A (compareOp CmpOp.Eq (Value.ref a) (Value.ref b)) Q E s) : wpAny M A (compareOp CmpOp.Eq (Value.ref a) (Value.ref b)) Q E s := h
theorem sNe {a b Q} (h : wpAny M A (compareOp CmpOp.NotEq (Value.ref a) (Value.ref b)) Q E s) : wpAny M A (compareOp CmpOp.NotEq (Value.ref a) (Value.ref b)) Q E s := h
theorem sStAt {a Q} (h : wpAny M A (storeName env (Str.ofString "at") a) Q E s) : wpAny M A (storeName env (Str.ofString "at") a) Q E s := h
theorem sStUn {a Q} (h : wpAny M A (storeName env (Str.ofString "units") a) Q E s) : wpAny M A (storeName env (Str.ofString "units") a) Q E s := h
theorem sSubUn {a b c d Q} (h : wpAny M A (subscriptTail (Expr.Name (Str.ofString "units") a) b c d) Q E s) : wpAny M A (subscriptTail (Expr.Name (Str.ofString "units") a) b c d) Q E s := h
theorem sSplit {a Q} (h : wpAny M A (call (Value.builtin "str.split") a) Q E s) : wpAny M A (call (Value.builtin "str.split") a) Q E s := h
theorem sEnum {a Q} (h : wpAny M A (call (Value.type "enumerate") a) Q E s) : wpAny M A (call (Value.type "enumerate") a) Q E s := h
theorem sExt {a Q} (h : wpAny M A (call (Value.builtin "list.extend") a) Q E s) : wpAny M A (call (Value.builtin "list.extend") a) Q E s := h
theorem sChr {a Q} (h : wpAny M A (call (Value.builtin "chr") a) Q E s) : wpAny M A (call (Value.builtin "chr") a) Q E s := h
theorem sEnd {a b c Q} (h : wpAny M A (exec (Stmt.Assign [Expr.Name (Str.ofString "end") a] b c) env) Q E s) : wpAny M A (exec (Stmt.Assign [Expr.Name (Str.ofString "end") a] b c) env) Q E s := h
theorem sSign {a b c d e f Q} (h : wpAny M A (exec (Stmt.Assign [Expr.Name (Str.ofString "sign") a] (Expr.Call b c d e) f) env) Q E s) : wpAny M A (exec (Stmt.Assign [Expr.Name (Str.ofString "sign") a] (Expr.Call b c d e) f) env) Q E s := h
theorem sIfSign {a b c d e f g Q} (h : wpAny M A (exec (Stmt.If (Expr.Compare (Expr.Name (Str.ofString "sign") a) b c d) e f g) env) Q E s) : wpAny M A (exec (Stmt.If (Expr.Compare (Expr.Name (Str.ofString "sign") a) b c d) e f g) env) Q E s := h
theorem sMail {a b c d Q} (h : wpAny M A (exec (Stmt.AugAssign (Expr.Name (Str.ofString "mail") a) b c d) env) Q E s) : wpAny M A (exec (Stmt.AugAssign (Expr.Name (Str.ofString "mail") a) b c d) env) Q E s := h
theorem sPieces {a b c Q} (h : wpAny M A (exec (Stmt.Assign [Expr.Name (Str.ofString "pieces") a] b c) env) Q E s) : wpAny M A (exec (Stmt.Assign [Expr.Name (Str.ofString "pieces") a] b c) env) Q E s := h
theorem sPiece {a b c d e f Q} (h : wpAny M A (exec (Stmt.Assign [Expr.Tuple [Expr.Name (Str.ofString "piece") a, b] c d] e f) env) Q E s) : wpAny M A (exec (Stmt.Assign [Expr.Tuple [Expr.Name (Str.ofString "piece") a, b] c d] e f) env) Q E s := h
theorem sSubP {a b c d Q} (h : wpAny M A (subscriptTail (Expr.Name (Str.ofString "pieces") a) b c d) Q E s) : wpAny M A (subscriptTail (Expr.Name (Str.ofString "pieces") a) b c d) Q E s := h
theorem sSubL {a b c d e Q} (h : wpAny M A (subscriptTail (Expr.List a b) c d e) Q E s) : wpAny M A (subscriptTail (Expr.List a b) c d e) Q E s := h
theorem sAnd {a b c d e Q} (h : wpAny M A (exec (Stmt.If (Expr.BoolOp BoolOp.And a b) c d e) env) Q E s) : wpAny M A (exec (Stmt.If (Expr.BoolOp BoolOp.And a b) c d e) env) Q E s := h
theorem sSize {a b c Q} (h : wpAny M A (exec (Stmt.Assign [Expr.Name (Str.ofString "size") a] b c) env) Q E s) : wpAny M A (exec (Stmt.Assign [Expr.Name (Str.ofString "size") a] b c) env) Q E s := h
theorem sTurn {a b c d e f g x} (h : Turn a b c d e f g x) : Turn a b c d e f g x := h
theorem sW2 {a b c d e f g x} (h : WhileStep2 a b c d e f g x) : WhileStep2 a b c d e f g x := h
theorem sCE {a b c d e f g x i j k l m n} (h : LCg.CompEnd a b c d e f g x i j k l m n) : LCg.CompEnd a b c d e f g x i j k l m n := h
theorem sCT {a b c d e f g x i j k l m n o} (h : LCt.CompSrcT a b c d e f g x i j k l m n o) : LCt.CompSrcT a b c d e f g x i j k l m n o := h
theorem sCS {a b c d e f g x i j k l m n} (h : LCg.CompSrc a b c d e f g x i j k l m n) : LCg.CompSrc a b c d e f g x i j k l m n := h
end
end

section
open PySem PySem.W PyProof.Rows PySem.Calls
theorem fillFrag : PySem.Challenge.rw_ij0165_01 = PySem.Challenge.rw_ij0165_01 ∧ hd.heap_39 = hd.heap_39 := by
  k_fill
  exact ⟨rfl, rfl⟩
noncomputable abbrev KK (w : World) : Frag := hd.heap_39 w.params

theorem enterF {prog : Program} {w : World} {A : Around} {s : Shared} {K : Frag} {p : Program} {loose : List Str} {mean : ExcName → Option Value} {mg mb : Str → Option Value} {R : Value → Shared → Prop}
    {name qual : Str} {params : Arguments} {body : List Stmt} {scope : Scope} {dV kV doc pm cdv ct oc : Value} {an od : Option Addr} {osl : Array (Option Value)} {f : Addr} {pos : List Value} {binds : List (Str × Value)}
    (X : K.In s.heap) (T : Top p loose mean mg mb s.heap) (hroom : A.depth < recursionLimit)
    (ho : K.lookup f = some ⟨oc, od, .func (fnOf name qual params body scope dV kV doc pm an cdv ct), osl⟩) (hcd : codeIn K cdv qual = true)
    (hbind : BindsTo s (fnOf name qual params body scope dV kV doc pm an cdv ct) ⟨pos, []⟩ binds) (hloc : ∀ y ∈ binds, scope.names.lookup y.1 = some .local)
    (h : ∀ L h₁, Fr s.heap L h₁ (fun y => binds.reverse.lookup y) → News s.heap L h₁ [] →
      wpAny (model prog w) (A.deeper (envOf qual scope L f cdv)) (execs body (envOf qual scope L f cdv))
        (fun fl s' => R (match fl with | .ret v => v | _ => .none) s') (fun _ _ => False)
        { s with heap := h₁, toks := s.toks + binds.length })
    (hco : scope.isCoroutine = false) (hgen : scope.isGenerator = false) (hk : scope.kind = .function)
    (hcell : ∀ x ∈ scope.names, x.2 ≠ .cell) : wpAny (model prog w) A (call (.ref f) pos []) R (fun _ _ => False) s := by
  refine wpAny_call ?_
  refine codeAny_call_def (fd := fnOf name qual params body scope dV kV doc pm an cdv ct) (body := body) (binds := binds) hroom (X _ _ ho) rfl T.nolimit (codeRec_of X hcd) rfl hbind hcell hloc (fun h₁ hns hk₁ => ?_) hco hgen hk
  exact wpAny_mono (h s.heap.objs.size h₁ ⟨hns, hk₁, Nat.le_refl _⟩ News.nil) (fun fl s' x => x) fun _ _ x => x.elim
end

local macro_rules | `(tactic| walk_at "stA") => `(tactic| fail_if_success (with_reducible first | refine sFor ?_ | refine sWhile ?_ | refine sIter ?_ | refine sGet ?_ | refine sSet ?_ | refine sApp ?_ | refine sTurn ?_))
local macro_rules | `(tactic| walk_at "stB") => `(tactic| (walk_at "stA"; fail_if_success (with_reducible first | refine sReSub ?_ | refine sMSub ?_)))
local macro_rules | `(tactic| walk_at "stC") => `(tactic| (walk_at "stB"; fail_if_success (with_reducible refine sTrl ?_)))
local macro_rules | `(tactic| walk_at "stD") => `(tactic| (walk_at "stC"; fail_if_success (with_reducible first | refine sAttr ?_ | refine sCall ?_ | refine sLam ?_)))
local macro_rules | `(tactic| walk_at "stE") => `(tactic| (walk_at "stD"; fail_if_success (with_reducible first | refine sLen ?_ | refine sJoin ?_)))
local macro_rules | `(tactic| walk_at "go1") => `(tactic| (walk_at "stop1"; first | (with_reducible (rename IsQ _ _ => hq8; rename Flow → Shared → Prop => Q8; show Q8 _ _; first | refine endN hq8 ?_ | refine endR hq8 ?_ | refine endB hq8 ?_ | refine endC hq8 ?_ | (refine endQ hq8 ?_; dsimp only [Rest])); clear hq8 Q8; try dsimp only) | (k_unfold; try dsimp only) | walk1 | (dsimp only; walk1) | (leave1; try dsimp only) | fail))
local macro_rules | `(tactic| walk_at "go") => `(tactic| repeat' walk_at "go1")
local macro_rules | `(tactic| walk_at "execs cons") => `(tactic| (first | (k_here; k_gentoks) | with_reducible refine execsN fun Q hQ => ?_))
local macro_rules | `(tactic| walk_at "compareOp NotIn str str") => `(tactic| refine SB.notContains ?_)
local macro_rules | `(tactic| walk_at "compareOp In str str") => `(tactic| refine SB.contains ?_)

section
open PySem PySem.W PyProof.Rows PySem.Calls
set_option maxHeartbeats 8000000
local macro_rules | `(tactic| walk_at "stop1") => `(tactic| walk_at "stA")


/-- the rows that _law_rows has made behind k signs: all but the last, and the last -/
noncomputable def rowsAt (mail : List Nat) : Nat → List (List Nat) × List Nat
  | 0 => ([], [])
  | k + 1 => let r := rowsAt mail k
    let c := mail.getD k 0
    if c = 13 ∨ c = 10 then
      if c = 13 ∨ k = 0 ∨ mail.getD (k - 1) 0 ≠ 13 then (r.1 ++ [r.2], []) else r
    else (r.1, r.2 ++ [c])
theorem rowsAt_len (mail : List Nat) : ∀ k, (rowsAt mail k).1.length ≤ k ∧ (rowsAt mail k).2.length ≤ k
  | 0 => ⟨Nat.le_refl _, Nat.le_refl _⟩
  | k + 1 => by
    have ih := rowsAt_len mail k
    unfold rowsAt
    dsimp only
    split
    · split
      · simp; omega
      · omega
    · simp; omega
inductive RowsJ (mail : List Nat) (tk₀ : Tok) (k : Nat) (m : Str → Option Value) (news : List (Addr × Obj)) : Prop
  | mk (l : Addr) (vs : Array Value) (n : Nat) (t : Tok) (e1 : m (Str.ofString "mail") = some (.str (S mail) tk₀)) (e2 : m (Str.ofString "rows") = some (.ref l)) (e3 : news = [(l, W.listOf (vs.push (.str (S (rowsAt mail k).2) t)) n)]) (e4 : StrsAre vs.toList ((rowsAt mail k).1.map S))
theorem lit_cr : Str.ofString "\r" = S [13] := by decide +kernel
theorem lit_crlf : Str.ofString "\r\n" = S [13, 10] := by decide +kernel
theorem lit_nil : Str.ofString "" = S [] := by decide +kernel

theorem rowsTurn {h₀ h' : Heap} {L : Addr} {mail : List Nat} {tk₀ : Tok} {k : Nat} {Q : Flow → Shared → Prop} {s₁ s₂ : Shared} {tk' : Nat} {m : Str → Option Value} {l it : Addr} {io : Obj} {vs : Array Value} {n : Nat} {x : Str} {t : Tok}
    (e : s₂ = { s₁ with heap := h', toks := tk' }) (F : Fr h₀ L h' m) (N : News h₀ L h' [(it, io), (l, W.listOf (vs.push (.str x t)) n)]) (hc : io.cls = .type "range_iterator")
    (h1 : m (Str.ofString "mail") = some (.str (S mail) tk₀)) (h2 : m (Str.ofString "rows") = some (.ref l)) (hx : x = S (rowsAt mail k).2) (hS : StrsAre vs.toList ((rowsAt mail k).1.map S)) :
    Turn h₀ L (RowsJ mail tk₀ k) (it, io) Q s₁ .next s₂ := by
  subst e hx
  refine Turn.next F N ?_ ⟨l, vs, n, t, h1, h2, rfl, hS⟩
  intro q hq
  simp only [List.mem_singleton] at hq
  subst hq
  rw [hc]
  simp

section
variable {prog : Program} {w : World} {A : Around} {s : Shared} {p : Program} {loose : List Str} {mean : ExcName → Option Value} {mg mb : Str → Option Value} {R : Value → Shared → Prop}
theorem rows_spec {mail : List Nat} {tk₀ : Tok} (X : (hd.heap_39 w.params).In s.heap) (T : Top p loose mean mg mb s.heap) (hd : A.depth < 900) (hh : A.handled = none) (hu : A.units < 1000) (hm : mail.length ≤ 1000)
    (hR : ∀ l vs n h' tk', s.heap.StaysIn h' → NewIn s.heap h' [(l, W.listOf vs n)] → StrsAre vs.toList (((rowsAt mail mail.length).1 ++ [(rowsAt mail mail.length).2]).map S) → R (.ref l) { s with heap := h', toks := tk' }) :
    wpAny (model prog w) A (call (.ref 107) [.str (S mail) tk₀] []) R (fun _ _ => False) s := by
  have hroom : A.depth < recursionLimit := by unfold recursionLimit; omega
  have hmS : (S mail).length ≤ 1000 := by rw [S_len]; exact hm
  refine' enterF (binds := [(Str.ofString "mail", .str (S mail) tk₀)]) X T hroom ?k6 ?k7 ?k9 ?kB ?_ ?c2 ?c3 ?c4 ?c5
  (( (case k6 => k_is); (case k7 => k_is); (case k9 => exact BindsTo.of_eq rfl); (case c5 => decide); (case kB => exact locs rfl); (case c2 => exact rfl); (case c3 => exact rfl); (case c4 => exact rfl)))
  intro L h₁ F N
  replace F := frC F [(Str.ofString "mail", .str (S mail) tk₀)] (by (repeat refine .cons (by rfl) ?_); exact .nil)
  try dsimp only
  try k_fold
  walk_at "go"
  refine wpAny_For ?_
  walk_at "go"
  try dsimp only at *
  with_reducible rename Fr _ _ _ _ => F9
  with_reducible rename News _ _ _ _ => N9
  with_reducible rename IsRange _ _ _ _ _ _ _ _ => hRg
  rw [S_len] at hRg
  refine iter_range (n := mail.length) (L := L) (RowsJ mail tk₀) hh rfl rfl rfl hRg (by have h5 := hm; omega) F9 N9 ?_ ?_ ?_ ?_
  · intro q hq
    simp only [List.mem_singleton] at hq
    subst hq
    simp
  · exact ⟨_, #[], _, _, rfl, rfl, rfl, .nil⟩
  · clear hRg F9 N9
    rintro k m news h tk1 t it hk ⟨l, vs, n, tz, hm1, hm2, rfl, hS⟩ hc hne Fk Nk
    replace Fk := frC Fk [(Str.ofString "mail", .str (S mail) tk₀), (Str.ofString "rows", .ref l), (Str.ofString "k", .int k t)] (by (repeat refine .cons (by first | assumption | rfl) ?_); exact .nil)
    have hlit : @Ne Nat l it := hne _ (.head _)
    have hl := rowsAt_len mail k
    have hvs : vs.size ≤ 1000 := by
      have h6 := hS.length
      have h7 := hm
      simp only [Array.length_toList, List.length_map] at h6
      omega
    have hz : (S (rowsAt mail k).2).length ≤ 1000 := by rw [S_len]; have h7 := hm; omega
    have hit := S_item hk
    have hR1 : rowsAt mail (k + 1) = (let r := rowsAt mail k
      let c := mail.getD k 0
      if c = 13 ∨ c = 10 then
        if c = 13 ∨ k = 0 ∨ mail.getD (k - 1) 0 ≠ 13 then (r.1 ++ [r.2], []) else r
      else (r.1, r.2 ++ [c])) := rfl
    dsimp only at hR1
    have hcon : Txt.contains (Str.ofString "\r\n") (S [mail.getD k 0]) = decide (mail.getD k 0 = 13 ∨ mail.getD k 0 = 10) := by
      rw [lit_crlf, S_contains]; simp
    have hkI : (k : Int) < (S mail).length := by rw [S_len]; omega
    walk_at "go"
    · with_reducible rename Txt.contains _ _ = true => h1
      with_reducible rename (_ == _) = true => h2
      rw [hit, hcon] at h1
      rw [hit, lit_cr, S_beq] at h2
      simp only [decide_eq_true_eq, List.cons.injEq, and_true] at h1 h2
      rw [if_pos h1, if_pos (.inl h2)] at hR1
      refine append_K Fk Nk (by k_upd) (fun h' F' N' => ?_) (le_line (by rw [Array.size_push]; omega))
      walk_at "go"
      refine rowsTurn rfl F' N' rfl rfl rfl (by rw [hR1, lit_nil]) ?_
      rw [hR1]
      exact strs_push hS
    · with_reducible rename Txt.contains _ _ = true => h1
      with_reducible rename (_ != _) = true => h3
      with_reducible rename (_ == _) = false => h2
      with_reducible rename Fr _ _ _ _ => F9
      with_reducible rename News _ _ _ _ => N9
      rw [hit, hcon] at h1
      rw [hit, lit_cr, S_beq] at h2
      rw [S_prev (Nat.le_of_lt hk), lit_cr, S_bne] at h3
      simp only [decide_eq_true_eq, decide_eq_false_iff_not, List.cons.injEq, and_true, ne_eq] at h1 h2 h3
      have h4 : k = 0 ∨ mail.getD (k - 1) 0 ≠ 13 := by
        by_cases h0 : k = 0
        · exact .inl h0
        · rw [if_neg h0] at h3; exact .inr (by simpa using h3)
      rw [if_pos h1, if_pos (.inr h4)] at hR1
      refine append_K F9 N9 (by k_upd) (fun h' F' N' => ?_) (le_line (by rw [Array.size_push]; omega))
      walk_at "go"
      refine rowsTurn rfl F' N' rfl rfl rfl (by rw [hR1, lit_nil]) ?_
      rw [hR1]
      exact strs_push hS
    · with_reducible rename Txt.contains _ _ = true => h1
      with_reducible rename (_ != _) = false => h3
      with_reducible rename (_ == _) = false => h2
      with_reducible rename Fr _ _ _ _ => F9
      with_reducible rename News _ _ _ _ => N9
      rw [hit, hcon] at h1
      rw [hit, lit_cr, S_beq] at h2
      rw [S_prev (Nat.le_of_lt hk), lit_cr, S_bne] at h3
      simp only [decide_eq_true_eq, decide_eq_false_iff_not, List.cons.injEq, and_true, ne_eq, Decidable.not_not] at h1 h2 h3
      have h4 : ¬ (mail.getD k 0 = 13 ∨ k = 0 ∨ mail.getD (k - 1) 0 ≠ 13) := by
        rintro (h | h | h)
        · exact h2 h
        · rw [if_pos h] at h3; simp at h3
        · by_cases h0 : k = 0
          · rw [if_pos h0] at h3; simp at h3
          · rw [if_neg h0] at h3; exact h (by simpa using h3)
      rw [if_pos h1, if_neg h4] at hR1
      refine rowsTurn rfl F9 N9 rfl rfl rfl (by rw [hR1]) ?_
      rw [hR1]
      exact hS
    · with_reducible rename Txt.contains _ _ = false => h1
      rw [hit, hcon] at h1
      simp only [decide_eq_false_iff_not] at h1
      rw [if_neg h1] at hR1
      refine getItem_last Nk (by k_mem) ?_
      walk_at "go"
      refine setItem_last Fk Nk (by k_upd) (fun h' F' N' => ?_)
      walk_at "go"
      refine rowsTurn rfl F' N' rfl rfl rfl (by rw [hR1, hit, S_add]) ?_
      rw [hR1]
      exact hS
  · rintro m news h tk ⟨l, vs, n, tz, hm1, hm2, rfl, hS⟩ Fk Nk
    replace Fk := frC Fk [(Str.ofString "mail", .str (S mail) tk₀), (Str.ofString "rows", .ref l)] (by (repeat refine .cons (by assumption) ?_); exact .nil)
    walk_at "go"
    exact hR _ _ _ _ _ Fk.keep (.of Nk) (strs_push hS)
end
end

section
open PySem PySem.W PyProof.Rows PySem.Calls
set_option maxHeartbeats 4000000
theorem plainAttrs_pattern : PlainAttrs "re.Pattern" :=
  ⟨⟨"object.__getattribute__", by rw [typeLookup_type, builtinLookup_eq_fast]; kernel_rfl, by decide +kernel⟩, by rw [typeLookup_type, builtinLookup_eq_fast]; kernel_rfl⟩
theorem slot_sub : Slot "re.Pattern" "sub" "re.Pattern.sub" :=
  .of (owner := "re.Pattern") (n := "sub") (by rw [typeLookup_type, builtinLookup_eq_fast]; kernel_rfl) (by decide +kernel) (by decide +kernel) (by decide +kernel)
    (by first | exact .inl (by decide +kernel) | exact .inr (by decide +kernel)) (by rw [isSubtype_type]; kernel_rfl)
theorem type_sub : typeOf (.builtin "re.Pattern.sub") = pure (.type "method_descriptor") := by show builtinType _ = _; rw [builtinType_eq_fast]; kernel_rfl
theorem entry_sub : entryFor table "re.Pattern.sub" = some Builtin.«re.Pattern.sub» := entryFor_of_tree (by kernel_rfl)
theorem entry_subloop : entryFor table "re.Pattern.sub.loop" = some Builtin.«re.Pattern.sub.loop» := entryFor_of_tree (by kernel_rfl)
end

section
open PySem PySem.W PyProof.Rows PySem.Calls PySem.Sre PySem.Builtin PySem.Builtin.Re
set_option maxHeartbeats 1000000
theorem runFor_fix {m : Sre.M} (h : m.outcome.isSome = true) : ∀ n, m.runFor n = m
  | 0 => rfl
  | n + 1 => by rw [M.runFor, if_pos h]
theorem runFor_add (m : Sre.M) : ∀ a b, m.runFor (a + b) = (m.runFor a).runFor b
  | 0, b => by rw [Nat.zero_add]; rfl
  | a + 1, b => by
    rw [show a + 1 + b = (a + b) + 1 by omega, M.runFor, M.runFor]
    cases h : m.outcome.isSome with
    | true => rw [if_pos rfl, if_pos rfl, runFor_fix h]
    | false => rw [if_neg (by simp), if_neg (by simp)]; exact runFor_add m.step a b

section
variable {M : Model} {A : Around} {E : Value → Shared → Prop} {s : Shared}
theorem drive {Q : Sre.M → Shared → Prop} : ∀ (t n : Nat) (m : Sre.M), (m.runFor n).outcome.isSome = true → n ≤ 4 * (t + 1) → Q (m.runFor n) s → wpAny M A (reDrive (t + 1) m) Q E s := by
  intro t
  induction t with
  | zero =>
    intro n m h hn q
    unfold reDrive
    have e : m.runFor 4 = m.runFor n := by
      rw [show 4 = n + (4 - n) by omega, runFor_add, runFor_fix h]
    show wpAny M A (if (m.runFor 4).outcome.isSome then _ else _) Q E s
    rw [e, if_pos h]
    exact wpAny_pure (show Q (m.runFor 4) s by rw [e]; exact q)
  | succ t ih =>
    intro n m h hn q
    unfold reDrive
    show wpAny M A (if (m.runFor 4).outcome.isSome then _ else _) Q E s
    cases h4 : (m.runFor 4).outcome.isSome with
    | true =>
      have e : m.runFor 4 = m.runFor n := by
        by_cases hle : n ≤ 4
        · rw [show 4 = n + (4 - n) by omega, runFor_add, runFor_fix h]
        · rw [show n = 4 + (n - 4) by omega, runFor_add, runFor_fix h4]
      rw [if_pos rfl]
      exact wpAny_pure (show Q (m.runFor 4) s by rw [e]; exact q)
    | false =>
      rw [if_neg (by simp)]
      have hlt : 4 < n := by
        by_cases hle : n ≤ 4
        · rw [show 4 = n + (4 - n) by omega, runFor_add, runFor_fix h, h] at h4; cases h4
        · omega
      have e : m.runFor n = (m.runFor 4).runFor (n - 4) := by rw [← runFor_add]; congr 1; omega
      refine wpAny_bind (wpAny_rule ?_)
      rw [e] at h q
      exact ih (n - 4) _ h (by omega) q

theorem rules_ {Q : PUnit → Shared → Prop} (c : Nat → Bool) (g : Nat → String) (l : List Nat) (q : Q PUnit.unit s) :
    wpAny M A (forIn l PUnit.unit fun i _ => if c i = true then (do rule (g i); pure (ForInStep.yield PUnit.unit)) else pure (ForInStep.yield PUnit.unit)) Q E s := by
  induction l with
  | nil => exact wpAny_pure q
  | cons i r ih =>
    rw [List.forIn_cons]
    refine wpAny_bind ?_
    split
    · exact wpAny_bind (wpAny_rule (wpAny_pure ih))
    · exact wpAny_pure ih

theorem runToEnd {Q : Option Sre.M → Shared → Prop} {m : Sre.M} {n : Nat} (h : (m.runFor n).outcome.isSome = true) (hn : n ≤ 1000000)
    (q : match (m.runFor n).outcome with | some .matched => Q (some (m.runFor n)) s | some .failed => Q none s | _ => False) : wpAny M A (reRunToEnd m) Q E s := by
  unfold reRunToEnd
  refine wpAny_bind ?_
  obtain ⟨t, ht⟩ : ∃ t, 2 ^ 64 = t + 1 := ⟨2 ^ 64 - 1, by omega⟩
  rw [ht]
  refine drive t n m h (by omega) ?_
  refine wpAny_bind ?_
  refine rules_ _ _ _ ?_
  revert q
  cases (m.runFor n).outcome with
  | none => exact fun q => q.elim
  | some o =>
    cases o with
    | matched => exact fun q => wpAny_pure q
    | failed => exact fun q => wpAny_pure q
    | stuck y => exact fun q => q.elim
theorem run_hit {Q : Option Sre.M → Shared → Prop} {m : Sre.M} {N a b : Nat} (H : HitN N m a b) (hN : N ≤ 1000000) (q : ∀ m', m'.start = a → m'.handed = b → Q (some m') s) : wpAny M A (reRunToEnd m) Q E s := by
  obtain ⟨n, hn, h1, h2, h3⟩ := H
  refine runToEnd (n := n) (by rw [h1]; rfl) (by omega) ?_
  rw [h1]
  exact q _ h2 h3
theorem run_miss {Q : Option Sre.M → Shared → Prop} {m : Sre.M} {N : Nat} (H : MissN N m) (hN : N ≤ 1000000) (q : Q none s) : wpAny M A (reRunToEnd m) Q E s := by
  obtain ⟨n, hn, h1⟩ := H
  refine runToEnd (n := n) (by rw [h1]; rfl) (by omega) ?_
  rw [h1]
  exact q

/-- what stands of a pattern: its object and its words -/
structure PatAt (h : Heap) (P : Addr) (code : Array Nat) : Prop where
  obj : ∃ src fl ct o, h.get? P = some o ∧ o.cls = .type "re.Pattern" ∧ o.dict = none ∧ o.data = .fields #[src, fl, .int 0 0, .none, .none, .ref ct, .int 0 0] ∧
    ∃ oc n, h.get? ct = some oc ∧ oc.data = .seq (code.map fun (w : Nat) => Value.int (w : Int) 0) n
theorem PatAt.stays {h h' : Heap} {P : Addr} {code : Array Nat} (x : PatAt h P code) (k : h.StaysIn h') : PatAt h' P code := by
  obtain ⟨src, fl, ct, o, h1, h2, h3, h4, oc, n, h5, h6⟩ := x.obj
  exact ⟨src, fl, ct, o, k _ _ h1, h2, h3, h4, oc, n, k _ _ h5, h6⟩
section
variable {M : Model} {A : Around} {E : Value → Shared → Prop} {s : Shared} {P : Addr} {code : Array Nat}
theorem whole_target {T : List Nat} {tk : Tok} {Q : ReTarget → Shared → Prop} (x : PatAt s.heap P code)
    (q : Q { pattern := .ref P, string := .str (S T) tk, code := code, text := T.toArray, kind := 0, groups := 0, pos := 0, lim := T.length } s) : wpAny M A (reWholeTarget (.ref P) (.str (S T) tk)) Q E s := by
  obtain ⟨src, fl, ct, o, h1, h2, h3, h4, oc, n, h5, h6⟩ := x.obj
  unfold reWholeTarget
  refine wpAny_bind ?_
  unfold fieldsOf
  refine wpAny_bind (wpAny_load h1 ?_)
  rw [h4]
  refine wpAny_pure ?_
  refine wpAny_bind (wpAny_of_eq (a := ((S T).cps, 0)) rfl ?_)
  show wpAny M A (reNoCollectionInside (.str (S T) tk) 0 >>= fun _ => reRawItems (.ref ct) >>= fun its =>
    pure { pattern := .ref P, string := .str (S T) tk, code := its.map (·.toNat), text := (S T).cps, kind := 0, groups := 0, pos := 0, lim := (S T).cps.size }) Q E s
  refine wpAny_bind (wpAny_of_eq (a := ()) rfl ?_)
  refine wpAny_bind ?_
  unfold reRawItems
  refine wpAny_bind (wpAny_seqItems h5 h6 (wpAny_pure ?_))
  refine wpAny_pure ?_
  have e : (((some (code.map fun (w : Nat) => Value.int (w : Int) 0)).getD #[]).map reRawOf).map (·.toNat) = code := by
    simp only [Option.getD_some, Array.map_map]
    have : ((fun x : Int => x.toNat) ∘ reRawOf ∘ fun (w : Nat) => Value.int (w : Int) 0) = _root_.id := by
      funext w; simp [reRawOf]
    rw [this, Array.map_id]
  rw [e]
  have e2 : (S T).cps.size = T.length := by simp
  rw [e2]
  exact q
end
end
theorem slice_ok {M : Model} {A : Around} {E : Value → Shared → Prop} {s : Shared} {T : List Nat} {b e : Nat} {Q : Value → Shared → Prop} (hT : T.length ≤ 100000) (hb : b ≤ e) (he : e ≤ T.length)
    (q : Q (.str (S ((T.drop b).take (e - b))) s.toks) { s with toks := s.toks + 1 }) : wpAny M A (reSlice T.toArray 0 b e) Q E s := by
  unfold reSlice
  have h : (⟨T.toArray.extract b e⟩ : Str) = S ((T.drop b).take (e - b)) := by
    simp [S, List.extract_toArray]
  show wpAny M A (mkStr ⟨T.toArray.extract b e⟩) Q E s
  rw [h]
  refine wpAny_mkStr q (le_line ?_)
  rw [S_len]
  simp
  omega
section
variable {prog : Program} {w : World} {A : Around} {R : Result → Shared → Prop}
abbrev subArgs (P : Addr) (T : List Nat) (tk : Tok) (rep : List Nat) (tr : Tok) (n : Int) (p : Nat) (l : Addr) : Args :=
  ⟨[.ref P, .str (S T) tk, .str (S rep) tr, rawInt 0, rawInt 0, rawInt n, rawInt p, rawInt p, .bool false, .ref l, .bool false], []⟩

/-- lists joined by a list -/
noncomputable def joinL (sep : List Nat) : List (List Nat) → List Nat
  | [] => []
  | [x] => x
  | x :: y :: r => x ++ sep ++ joinL sep (y :: r)
theorem S_joinL (sep : List Nat) : ∀ xs : List (List Nat), Txt.join (S sep) (xs.map S) = S (joinL sep xs) := by
  intro xs
  unfold Txt.join
  rw [StrLaws.glued_eq_join]
  induction xs with
  | nil => rfl
  | cons x r ih =>
    cases r with
    | nil => rfl
    | cons y r =>
      rw [List.map_cons, List.map_cons]
      show Str.join (S sep) (S x :: S y :: r.map S) = _
      rw [Str.join, joinL, ← S_add, ← S_add, ← ih]
      · rfl
      · intro h; cases h
theorem joinL_nil : ∀ xs : List (List Nat), joinL [] xs = xs.flatten
  | [] => rfl
  | [x] => by simp [joinL]
  | x :: y :: r => by rw [joinL, joinL_nil (y :: r)]; simp
theorem S_join (xs : List (List Nat)) : Txt.join (S []) (xs.map S) = S xs.flatten := by
  rw [S_joinL, joinL_nil]
/-- a list object that grows by a sign more -/
theorem push_led {h h₁ : Heap} {l : Addr} {vs : Array Value} {n : Nat} {v : Value} (hl : h₁.get? l = some (W.listOf vs n)) (hk : ∀ b o, b ≠ l → h.get? b = some o → h₁.get? b = some o) :
    (h₁.update l (Obj.mapSeq (·.push v))).get? l = some (W.listOf (vs.push v) (n + 1)) ∧ ∀ b o, b ≠ l → h.get? b = some o → (h₁.update l (Obj.mapSeq (·.push v))).get? b = some o := by
  constructor
  · have := Heap.get?_update_self (Obj.mapSeq (·.push v)) hl (by simp [Obj.mapSeq, Obj.isFreed])
    rw [this]
    simp [Obj.mapSeq]
  · intro b o hb e
    rw [Heap.get?_update_ne _ _ _ _ hb]
    exact hk b o hb e

theorem sub_loop {P : Addr} {code : Array Nat} {T rep : List Nat} {tk tr : Tok} {l : Addr} (F : Nat → List Nat) (nx : Nat → Option (Nat × Nat)) {s : Shared}
    (hT : T.length ≤ 1000) (hrep : rep.length ≤ 10) (x : PatAt s.heap P code) (hlne : s.heap.get? l = none)
    (hs : ∀ p, p ≤ T.length → match nx p with
      | none => MissN 100000 (forSearch code T.toArray 0 p T.length false)
      | some (a, b) => HitN 100000 (forSearch code T.toArray 0 p T.length false) a b ∧ p ≤ a ∧ a < b ∧ b ≤ T.length)
    (hF0 : ∀ p, p ≤ T.length → nx p = none → F p = T.drop p) (hF1 : ∀ p a b, p ≤ T.length → nx p = some (a, b) → F p = (T.drop p).take (a - p) ++ rep ++ F b)
    (hR : ∀ t h' tk', s.heap.StaysIn h' → R (.ok (.ret (.str (S (F 0)) t))) { s with heap := h', toks := tk' }) :
    ∀ (k p : Nat) (n : Int) (vs : Array Value) (xs : List (List Nat)) (c : Nat) (h₁ : Heap) (tk₁ : Nat), T.length - p < k → p ≤ T.length → xs.length ≤ 2 * p → StrsAre vs.toList (xs.map S) → xs.flatten ++ F p = F 0 → (xs.map List.length).sum ≤ 11 * p →
      h₁.get? l = some (W.listOf vs c) → (∀ b o, b ≠ l → s.heap.get? b = some o → h₁.get? b = some o) →
      codeAny (model prog w) A (.builtin "re.Pattern.sub.loop" (subArgs P T tk rep tr n p l)) R { s with heap := h₁, toks := tk₁ } := by
  intro k
  induction k with
  | zero => intro p n vs xs c h₁ tk₁ h; omega
  | succ k ih =>
    intro p n vs xs c h₁ tk₁ hk hp hxl hv hF hsum hl hkeep
    have hkeep' : s.heap.StaysIn h₁ := fun b o e => hkeep b o (by rintro rfl; rw [hlne] at e; cases e) e
    refine codeAny_builtin entry_subloop ?_
    unfold Builtin.«re.Pattern.sub.loop»
    show wpAny _ _ (reWholeTarget (.ref P) (.str (S T) tk) >>= _) _ _ _
    refine wpAny_bind (whole_target (x.stays hkeep') ?_)
    show wpAny _ _ (reLiteralCannotBeTurned (.str (S rep) tr) >>= fun _ => _) _ _ _
    refine wpAny_bind (wpAny_of_eq (a := PUnit.unit) rfl ?_)
    show wpAny _ _ (reRunToEnd (forSearch code T.toArray 0 p T.length false) >>= _) _ _ _
    have hsp := hs p hp
    cases hn : nx p with
    | none =>
      rw [hn] at hsp
      refine wpAny_bind (run_miss hsp (by omega) ?_)
      have fin : ∀ (vs' : Array Value) (xs' : List (List Nat)) (c' : Nat) (h₂ : Heap) (tk₂ : Nat), StrsAre vs'.toList (xs'.map S) → xs'.flatten = F 0 → xs'.length ≤ 2001 → (xs'.map List.length).sum ≤ 12000 → h₂.get? l = some (W.listOf vs' c') → (∀ b o, b ≠ l → s.heap.get? b = some o → h₂.get? b = some o) →
          wpAny (model prog w) (A.under (Code.builtin "re.Pattern.sub.loop" (subArgs P T tk rep tr n p l))) (reSlice T.toArray 0 0 0 >>= fun joiner => seqItems? (.ref l) >>= fun o =>
            if (o.getD #[]).isEmpty = true then (pure joiner >>= fun text => ret text) else (call (.builtin "str.join") [joiner, .ref l] >>= fun text => ret text))
            (fun fin s' => match fin with | .done f => R (.ok f) s' | .again c' => c'.quiet = true ∧ codeAny (model prog w) A c' R s') (fun e s' => R (.error e) s') { s with heap := h₂, toks := tk₂ } := by
        intro vs' xs' c' h₂ tk₂ hv' hF' hlen hsum' hl' hk'
        refine wpAny_bind (slice_ok (by omega) (Nat.le_refl _) (by omega) ?_)
        simp only [Nat.sub_self, List.take_zero]
        refine wpAny_bind (wpAny_seqItems hl' rfl ?_)
        have hst : s.heap.StaysIn h₂ := fun b o e => hk' b o (by rintro rfl; rw [hlne] at e; cases e) e
        by_cases he : vs'.isEmpty = true
        · simp only [Option.getD_some, he, if_true]
          have hx : xs' = [] := by
            have h6 := hv'.length
            have h7 : vs'.size = 0 := by simpa using he
            simp only [Array.length_toList, List.length_map, h7] at h6
            exact List.length_eq_zero_iff.mp h6.symm
          subst hx
          refine wpAny_bind (wpAny_pure (wpAny_pure ?_))
          have := hR tk₂ h₂ (tk₂ + 1) hst
          rw [← hF'] at this
          exact this
        · simp only [Option.getD_some, he, if_false]
          refine wpAny_bind (PyProof.Rows.join_list (x := S []) (ys := xs'.map S) ⟨_, hl', rfl, _, rfl⟩ hv' ?_ ?_)
          · have e1 : ((xs'.map S).map (·.length)) = xs'.map List.length := by
              rw [List.map_map]; exact List.map_congr_left fun z _ => S_len z
            rw [e1, S_len]; simp only [List.length_nil, Nat.mul_zero, Nat.add_zero] <;> omega
          · intro t' k'
            rw [S_join, hF']
            exact wpAny_pure (hR t' h₂ k' hst)
      have hFp := hF0 p hp hn
      show wpAny _ _ (if p < T.length then (reSlice T.toArray 0 p T.length >>= fun v => updateSeq l (·.push v) >>= fun _ => _) else _) _ _ _
      by_cases hpl : p < T.length
      · rw [if_pos hpl]
        refine wpAny_bind (slice_ok (by omega) (by omega) (Nat.le_refl _) ?_)
        have e2 : (T.drop p).take (T.length - p) = T.drop p := List.take_of_length_le (by simp)
        rw [e2]
        have hsz : vs.size ≤ 2000 := by
          have h6 := hv.length
          simp only [Array.length_toList, List.length_map] at h6
          omega
        refine wpAny_bind (wpAny_updateSeq hl rfl ?_ (le_line (by omega)) (by rw [Array.size_push]; exact Nat.succ_le_succ (le_line (by omega))))
        obtain ⟨g1, g2⟩ := push_led (v := .str (S (T.drop p)) tk₁) hl hkeep
        refine fin _ (xs ++ [T.drop p]) _ _ _ (strs_push hv) ?_ ?_ ?_ g1 g2
        · rw [List.flatten_append]; simp only [List.flatten_cons, List.flatten_nil, List.append_nil]; rw [← hFp]; exact hF
        · simp; omega
        · simp; omega
      · rw [if_neg hpl]
        refine fin vs xs c h₁ tk₁ hv ?_ (by omega) (by omega) hl hkeep
        rw [hFp, List.drop_of_length_le (by omega), List.append_nil] at hF
        exact hF
    | some ab =>
      obtain ⟨a, b⟩ := ab
      rw [hn] at hsp
      obtain ⟨H, h1, h2, h3⟩ := hsp
      refine wpAny_bind (run_hit H (by omega) fun m' hm1 hm2 => ?_)
      dsimp only
      rw [hm1, hm2]
      have hF1' := hF1 p a b hp hn
      have again_ : ∀ (vs' : Array Value) (xs' : List (List Nat)) (c' : Nat) (h₂ : Heap) (tk₂ : Nat), StrsAre vs'.toList (xs'.map S) → xs'.flatten ++ rep ++ F b = F 0 → xs'.length ≤ 2 * p + 1 → (xs'.map List.length).sum ≤ 11 * p + (a - p) → h₂.get? l = some (W.listOf vs' c') → (∀ b o, b ≠ l → s.heap.get? b = some o → h₂.get? b = some o) →
          wpAny (model prog w) (A.under (Code.builtin "re.Pattern.sub.loop" (subArgs P T tk rep tr n p l))) (updateSeq l (·.push (.str (S rep) tr)) >>= fun _ => again (Code.builtin "re.Pattern.sub.loop" (subArgs P T tk rep tr (n + 1) b l)))
            (fun fin s' => match fin with | .done f => R (.ok f) s' | .again c' => c'.quiet = true ∧ codeAny (model prog w) A c' R s') (fun e s' => R (.error e) s') { s with heap := h₂, toks := tk₂ } := by
        intro vs' xs' c' h₂ tk₂ hv' hF' hlen hsum' hl' hk'
        have hsz : vs'.size ≤ 2001 := by
          have h6 := hv'.length
          simp only [Array.length_toList, List.length_map] at h6
          omega
        refine wpAny_bind (wpAny_updateSeq hl' rfl ?_ (le_line (by omega)) (by rw [Array.size_push]; exact Nat.succ_le_succ (le_line (by omega))))
        obtain ⟨g1, g2⟩ := push_led (v := .str (S rep) tr) hl' hk'
        refine wpAny_pure ⟨Code.quiet_builtin _ (by decide +kernel), ?_⟩
        refine ih b (n + 1) _ (xs' ++ [rep]) _ _ _ (by omega) h3 ?_ (strs_push hv') ?_ ?_ g1 g2
        · simp; omega
        · rw [List.flatten_append]; simp only [List.flatten_cons, List.flatten_nil, List.append_nil]; exact hF'
        · simp; omega
      have hb : (b == a) = false := by simp; omega
      rw [hb]
      show wpAny _ _ (if p < a then (reSlice T.toArray 0 p a >>= fun v => updateSeq l (·.push v) >>= fun _ => _) else _) _ _ _
      by_cases hpa : p < a
      · rw [if_pos hpa]
        refine wpAny_bind (slice_ok (by omega) (by omega) (by omega) ?_)
        have hsz : vs.size ≤ 2000 := by
          have h6 := hv.length
          simp only [Array.length_toList, List.length_map] at h6
          omega
        refine wpAny_bind (wpAny_updateSeq hl rfl ?_ (le_line (by omega)) (by rw [Array.size_push]; exact Nat.succ_le_succ (le_line (by omega))))
        obtain ⟨g1, g2⟩ := push_led (v := .str (S ((T.drop p).take (a - p))) tk₁) hl hkeep
        refine again_ _ (xs ++ [(T.drop p).take (a - p)]) _ _ _ (strs_push hv) ?_ ?_ ?_ g1 g2
        · rw [List.flatten_append]; simp only [List.flatten_cons, List.flatten_nil, List.append_nil]
          rw [← hF, hF1']; simp
        · simp; omega
        · simp; omega
      · rw [if_neg hpa]
        have hap : a = p := by omega
        refine again_ vs xs c h₁ tk₁ hv ?_ (by omega) (by omega) hl hkeep
        rw [← hF, hF1', hap]; simp

theorem args_sub (a b c : Value) : argsOk "re.Pattern.sub" ⟨[a, b, c], []⟩ := by
  have owner : Manifest.owners.lookup (String.ofList ['n', 'r', 'e', 't', 't', 'a', 'P', '.', 'e', 'r'].reverse) = some Manifest.sig_re_Pattern := by kernel_rfl
  unfold argsOk; rw [signature?_of (id := "re.Pattern.sub") (n := ['b', 'u', 's']) (o := ['n', 'r', 'e', 't', 't', 'a', 'P', '.', 'e', 'r']) (by kernel_rfl) owner]; kernel_rfl
theorem call_str : typeLookup (.type "str") "__call__" = pure none := by rw [typeLookup_type, builtinLookup_eq_fast]; kernel_rfl

theorem sub_call {P : Addr} {code : Array Nat} {T rep : List Nat} {tk tr : Tok} (F : Nat → List Nat) (nx : Nat → Option (Nat × Nat)) {s : Shared} {Q E : Value → Shared → Prop}
    (hT : T.length ≤ 1000) (hrep : rep.length ≤ 10) (h92 : rep.contains 92 = false) (x : PatAt s.heap P code)
    (hs : ∀ p, p ≤ T.length → match nx p with
      | none => MissN 100000 (forSearch code T.toArray 0 p T.length false)
      | some (a, b) => HitN 100000 (forSearch code T.toArray 0 p T.length false) a b ∧ p ≤ a ∧ a < b ∧ b ≤ T.length)
    (hF0 : ∀ p, p ≤ T.length → nx p = none → F p = T.drop p) (hF1 : ∀ p a b, p ≤ T.length → nx p = some (a, b) → F p = (T.drop p).take (a - p) ++ rep ++ F b)
    (hQ : ∀ t h' tk', s.heap.StaysIn h' → Q (.str (S (F 0)) t) { s with heap := h', toks := tk' }) :
    wpAny (model prog w) A (call (.builtin "re.Pattern.sub") [.ref P, .str (S rep) tr, .str (S T) tk]) Q E s := by
  have hty : s.TypeIs (.ref P) "re.Pattern" := by
    obtain ⟨src, fl, ct, o, h1, h2, _⟩ := x.obj
    exact ⟨o, h1, h2⟩
  refine wpAny_call (codeAny_call_builtin slot_sub.plain entry_sub (slot_sub.check _ _ _ _ _ _ _ _ hty (args_sub _ _ _) ?_))
  unfold Builtin.«re.Pattern.sub» reSubstitute
  show wpAny _ _ (reNamed "re.Pattern.sub" "sub" ["repl", "string", "count"] 2 [.str (S rep) tr, .str (S T) tk] [] >>= _) _ _ _
  have hn : reNamed "re.Pattern.sub" "sub" ["repl", "string", "count"] 2 [.str (S rep) tr, .str (S T) tk] [] = pure [some (.str (S rep) tr), some (.str (S T) tk), none] := by
    rfl
  refine wpAny_bind (wpAny_of_eq hn ?_)
  refine wpAny_bind (wpAny_pure ?_)
  refine wpAny_bind (wpAny_specialOf rfl call_str ?_)
  show wpAny _ _ (asStr? (.str (S rep) tr) >>= _) _ _ _
  refine wpAny_bind (wpAny_of_eq (a := some (S rep)) rfl ?_)
  have h92' : (!(S rep).cps.contains 92) = true := by
    have : (S rep).cps.contains 92 = rep.contains 92 := by simp [S]
    rw [this, h92]; rfl
  dsimp only
  rw [h92']
  refine wpAny_bind (wpAny_pure ?_)
  show wpAny _ _ (pure (Value.str (S rep) tr, 0) >>= _) _ _ _
  refine wpAny_bind (wpAny_pure ?_)
  refine wpAny_bind (wpAny_holding (whole_target x ?_))
  show wpAny _ _ (newList [] >>= _) _ _ _
  refine wpAny_bind (wpAny_newObj_type ?_ (by size_fits))
  refine wpAny_pure ⟨Code.quiet_builtin _ (by decide +kernel), ?_⟩
  have hfree : s.heap.get? s.heap.objs.size = none := by
    cases e : s.heap.get? s.heap.objs.size with
    | none => rfl
    | some o => exact absurd (Heap.lt_size e) (Nat.lt_irrefl _)
  refine sub_loop (code := code) (T := T) (rep := rep) (l := s.heap.objs.size) F nx (s := s) hT hrep x hfree hs hF0 hF1 ?_ (T.length + 1) 0 0 #[] [] 0 _ _ (by omega) (by omega) (by simp) .nil (by simp) (by simp) (Heap.get?_push_size _ rfl) (fun b o hb e => Heap.get?_push_of_some _ e)
  intro t h' tk' hst
  exact hQ t h' tk' hst
end
end

section
open PySem PySem.W PyProof.Rows PySem.Calls PySem.Sre
set_option maxHeartbeats 1000000
/-- the line ends made even: the flag says that a carriage return stands right before -/
noncomputable def fixG : Bool → List Nat → List Nat
  | _, [] => []
  | b, c :: r => if c = 13 then 13 :: 10 :: fixG true r else if c = 10 then (if b = true then fixG false r else 13 :: 10 :: fixG false r) else c :: fixG false r
theorem fixG_none : ∀ (l : List Nat), eolAt l = none → fixG false l = l
  | [], _ => rfl
  | c :: r, h => by
    rw [eolAt] at h
    by_cases hx : c = 10 ∨ c = 13
    · rw [if_pos hx] at h; cases h
    · rw [if_neg hx] at h
      have h' : eolAt r = none := by simpa using h
      rw [fixG, if_neg (fun e => hx (.inr e)), if_neg (fun e => hx (.inl e)), fixG_none r h']
theorem fixG_true {r : List Nat} (h : r.head? ≠ some 10) : fixG true r = fixG false r := by
  cases r with
  | nil => rfl
  | cons c r =>
    have hc : c ≠ 10 := fun e => h (by rw [e]; rfl)
    simp [fixG, hc]
theorem fixG_some : ∀ (l : List Nat) (k : Nat), eolAt l = some k → fixG false l = l.take k ++ [13, 10] ++ fixG false (l.drop (k + (if l.getD k 0 = 13 ∧ k + 1 < l.length ∧ l.getD (k + 1) 0 = 10 then 2 else 1)))
  | [], k, h => by cases h
  | c :: r, k, h => by
    rw [eolAt] at h
    by_cases hx : c = 10 ∨ c = 13
    · rw [if_pos hx] at h
      cases h
      by_cases hc : c = 13
      · subst hc
        rw [fixG, if_pos rfl]
        cases r with
        | nil => simp [fixG]
        | cons d r =>
          by_cases hd : d = 10
          · subst hd; simp [fixG]
          · rw [fixG_true (by simpa using hd)]; simp [hd]
      · have hc' : c = 10 := hx.resolve_right hc
        subst hc'
        simp [fixG]
    · rw [if_neg hx] at h
      cases hk : eolAt r with
      | none => rw [hk] at h; cases h
      | some j =>
        rw [hk] at h
        cases h
        rw [fixG, if_neg (fun e => hx (.inr e)), if_neg (fun e => hx (.inl e)), fixG_some r j hk]
        have e : ((c :: r).getD (j + 1) 0 = 13 ∧ j + 1 + 1 < (c :: r).length ∧ (c :: r).getD (j + 1 + 1) 0 = 10) = (r.getD j 0 = 13 ∧ j + 1 < r.length ∧ r.getD (j + 1) 0 = 10) := by
          simp
        rw [show (fun x => x + 1) j = j + 1 from rfl]
        simp only [e]
        rw [show j + 1 + (if r.getD j 0 = 13 ∧ j + 1 < r.length ∧ r.getD (j + 1) 0 = 10 then 2 else 1) = (j + (if r.getD j 0 = 13 ∧ j + 1 < r.length ∧ r.getD (j + 1) 0 = 10 then 2 else 1)) + 1 by omega]
        simp
/-- a dot more ahead of each row that begins with one -/
noncomputable def qd : Bool → List Nat → List Nat
  | _, [] => []
  | b, c :: r => (if b = true ∧ c = 46 then [46, 46] else [c]) ++ qd (decide (c = 10)) r
theorem qd_none : ∀ (l : List Nat) (b : Bool), dotAt b l = none → qd b l = l
  | [], _, _ => rfl
  | c :: r, b, h => by
    rw [dotAt] at h
    by_cases hx : b = true ∧ c = 46
    · rw [if_pos hx] at h; cases h
    · rw [if_neg hx] at h
      rw [qd, if_neg hx, qd_none r _ (by simpa using h)]; rfl
theorem qd_some : ∀ (l : List Nat) (b : Bool) (k : Nat), dotAt b l = some k → qd b l = l.take k ++ [46, 46] ++ qd false (l.drop (k + 1)) ∧ l.getD k 0 = 46 ∧ k < l.length
  | [], _, _, h => by cases h
  | c :: r, b, k, h => by
    rw [dotAt] at h
    by_cases hx : b = true ∧ c = 46
    · rw [if_pos hx] at h
      cases h
      rw [qd, if_pos hx, hx.2]
      exact ⟨by simp, by simp, by simp⟩
    · rw [if_neg hx] at h
      cases hk : dotAt (decide (c = 10)) r with
      | none => rw [hk] at h; cases h
      | some j =>
        rw [hk] at h
        cases h
        obtain ⟨h1, h2, h3⟩ := qd_some r _ j hk
        rw [qd, if_neg hx, h1]
        exact ⟨by simp, by simpa using h2, by simpa using h3⟩
theorem eolAt_lt : ∀ (l : List Nat) (k : Nat), eolAt l = some k → k < l.length
  | [], k, h => by cases h
  | c :: r, k, h => by
    rw [eolAt] at h
    by_cases hx : c = 10 ∨ c = 13
    · rw [if_pos hx] at h; cases h; simp
    · rw [if_neg hx] at h
      cases hk : eolAt r with
      | none => rw [hk] at h; cases h
      | some j => rw [hk] at h; cases h; simpa using eolAt_lt r j hk

section
variable {prog : Program} {w : World} {A : Around} {s : Shared} {Q E : Value → Shared → Prop} {T : List Nat} {tk tr : Tok} {P : Addr}
theorem getD_drop (T : List Nat) (p k : Nat) : (T.drop p).getD k 0 = T.getD (p + k) 0 := by
  simp [List.getD_eq_getElem?_getD]
theorem sub_eols (hT : T.length ≤ 1000) (x : PatAt s.heap P code2) (hQ : ∀ t h' tk', s.heap.StaysIn h' → Q (.str (S (fixG false T)) t) { s with heap := h', toks := tk' }) :
    wpAny (model prog w) A (call (.builtin "re.Pattern.sub") [.ref P, .str (S [13, 10]) tr, .str (S T) tk]) Q E s := by
  refine sub_call (fun p => fixG false (T.drop p)) (fun p => (eolAt (T.drop p)).map fun k => (p + k, if T.getD (p + k) 0 = 13 ∧ p + k + 1 < T.length ∧ T.getD (p + k + 1) 0 = 10 then p + k + 2 else p + k + 1)) hT (by simp) rfl x ?_ ?_ ?_ ?_
  · intro p hp
    have h := search2N T p hp
    cases hk : eolAt (T.drop p) with
    | none => rw [hk] at h; exact h.le (by omega)
    | some k =>
      rw [hk] at h
      have hlt := eolAt_lt _ _ hk
      simp only [List.length_drop] at hlt
      refine ⟨h.le (by omega), by omega, ?_, ?_⟩
      · split <;> omega
      · split <;> omega
  · intro p hp h
    have h' : eolAt (T.drop p) = none := by simpa using h
    exact fixG_none _ h'
  · intro p a b hp h
    cases hk : eolAt (T.drop p) with
    | none => rw [hk] at h; cases h
    | some k =>
      rw [hk] at h
      simp only [Option.map_some, Option.some.injEq, Prod.mk.injEq] at h
      obtain ⟨rfl, rfl⟩ := h
      have hlt := eolAt_lt _ _ hk
      simp only [List.length_drop] at hlt
      have := fixG_some _ _ hk
      try dsimp only
      rw [this, getD_drop, getD_drop, List.length_drop, List.drop_drop]
      rw [show p + k - p = k by omega]
      congr 2
      have e : (T.getD (p + k) 0 = 13 ∧ k + 1 < T.length - p ∧ T.getD (p + (k + 1)) 0 = 10) = (T.getD (p + k) 0 = 13 ∧ p + k + 1 < T.length ∧ T.getD (p + k + 1) 0 = 10) := by
        rw [show p + (k + 1) = p + k + 1 by omega]
        have : (k + 1 < T.length - p) = (p + k + 1 < T.length) := by simp; omega
        rw [this]
      simp only [e]
      split <;> rfl
  · intro t h' tk' hst
    exact hQ t h' tk' hst
theorem sub_dots (hT : T.length ≤ 1000) (x : PatAt s.heap P code1) (hQ : ∀ t h' tk', s.heap.StaysIn h' → Q (.str (S (qd true T)) t) { s with heap := h', toks := tk' }) :
    wpAny (model prog w) A (call (.builtin "re.Pattern.sub") [.ref P, .str (S [46, 46]) tr, .str (S T) tk]) Q E s := by
  refine sub_call (fun p => qd (bol T p) (T.drop p)) (fun p => (dotAt (bol T p) (T.drop p)).map fun k => (p + k, p + k + 1)) hT (by simp) rfl x ?_ ?_ ?_ ?_
  · intro p hp
    have h := search1 T p hp
    cases hk : dotAt (bol T p) (T.drop p) with
    | none => rw [hk] at h; exact h.le (by omega)
    | some k =>
      rw [hk] at h
      have hlt := (qd_some _ _ _ hk).2.2
      simp only [List.length_drop] at hlt
      exact ⟨h.le (by omega), by omega, by omega, by omega⟩
  · intro p hp h
    have h' : dotAt (bol T p) (T.drop p) = none := by simpa using h
    exact qd_none _ _ h'
  · intro p a b hp h
    cases hk : dotAt (bol T p) (T.drop p) with
    | none => rw [hk] at h; cases h
    | some k =>
      rw [hk] at h
      simp only [Option.map_some, Option.some.injEq, Prod.mk.injEq] at h
      obtain ⟨rfl, rfl⟩ := h
      obtain ⟨h1, h2, h3⟩ := qd_some _ _ _ hk
      rw [getD_drop] at h2
      try dsimp only
      have hb : bol T (p + k + 1) = false := by
        unfold bol
        have : T.getD (p + k + 1 - 1) 0 = 46 := by rw [show p + k + 1 - 1 = p + k by omega]; exact h2
        rw [this]; simp
      rw [h1, hb, List.drop_drop, show p + k - p = k by omega, show p + (k + 1) = p + k + 1 by omega]
  · intro t h' tk' hst
    exact hQ t h' tk' hst
end
end

section
open PySem PySem.W PyProof.Rows PySem.Calls
set_option maxHeartbeats 8000000
local macro_rules | `(tactic| walk_at "stop1") => `(tactic| walk_at "stB")
theorem pat79 {w : World} {h : Heap} (X : (hd.heap_39 w.params).In h) : PatAt h 79 code2 := by
  have h1 := X 79 _ (by k_is)
  have h2 := X 78 _ (by k_is)
  exact ⟨_, _, 78, _, h1, rfl, rfl, rfl, _, 0, h2, by simp⟩
theorem pat74 {w : World} {h : Heap} (X : (hd.heap_39 w.params).In h) : PatAt h 74 code1 := by
  have h1 := X 74 _ (by k_is)
  have h2 := X 73 _ (by k_is)
  exact ⟨_, _, 73, _, h1, rfl, rfl, rfl, _, 0, h2, by simp⟩
theorem getSub {M : Model} {A : Around} {E : Value → Shared → Prop} {s : Shared} {P : Addr} {code : Array Nat} {pl : Sem Bool} {Q : Value × List Value → Shared → Prop} (x : PatAt s.heap P code)
    (h : Q (.builtin "re.Pattern.sub", [.ref P]) s) : wpAny M A (getMethod (.ref P) (Str.ofString "sub") pl) Q E s := by
  obtain ⟨src, fl, ct, o, h1, h2, h3, _⟩ := x.obj
  exact getMethod_builtin (T := "re.Pattern") ⟨o, h1, h2⟩ plainAttrs_pattern slot_sub type_sub (fun a e => by cases e; exact ⟨o, h1, h3⟩) h
section
variable {prog : Program} {w : World} {A : Around} {s : Shared} {p : Program} {loose : List Str} {mean : ExcName → Option Value} {mg mb : Str → Option Value} {R : Value → Shared → Prop}
theorem eols_spec {data : List Nat} {tk₀ : Tok} (X : (hd.heap_39 w.params).In s.heap) (T : Top p loose mean mg mb s.heap) (hd : A.depth < 900) (hm : data.length ≤ 1000)
    (hR : ∀ t h' tk', s.heap.StaysIn h' → R (.str (S (fixG false data)) t) { s with heap := h', toks := tk' }) :
    wpAny (model prog w) A (call (.ref 93) [.str (S data) tk₀] []) R (fun _ _ => False) s := by
  have hroom : A.depth < recursionLimit := by unfold recursionLimit; omega
  refine' enterF (binds := [(Str.ofString "data", .str (S data) tk₀)]) X T hroom ?k6 ?k7 ?k9 ?kB ?_ ?c2 ?c3 ?c4 ?c5
  (( (case k6 => k_is); (case k7 => k_is); (case k9 => exact BindsTo.of_eq rfl); (case c5 => decide); (case kB => exact locs rfl); (case c2 => exact rfl); (case c3 => exact rfl); (case c4 => exact rfl)))
  intro L h₁ F N
  replace F := frC F [(Str.ofString "data", .str (S data) tk₀)] (by (repeat refine .cons (by rfl) ?_); exact .nil)
  try dsimp only
  try k_fold
  walk_at "go"
  refine getSub (pat79 (X.keeps F.keep)) ?_
  walk_at "go"
  refine sub_eols hm (pat79 (X.keeps F.keep)) fun t h' tk' hst => ?_
  walk_at "go"
  exact hR t h' tk' fun b o e => hst b o (F.keep b o e)
theorem quote_spec {data : List Nat} {tk₀ : Tok} (X : (hd.heap_39 w.params).In s.heap) (T : Top p loose mean mg mb s.heap) (hd : A.depth < 900) (hm : data.length ≤ 1000) (hm2 : (fixG false data).length ≤ 1000)
    (hR : ∀ t h' tk', s.heap.StaysIn h' → R (.str (S (qd true (fixG false data))) t) { s with heap := h', toks := tk' }) :
    wpAny (model prog w) A (call (.ref 86) [.str (S data) tk₀] []) R (fun _ _ => False) s := by
  have hroom : A.depth < recursionLimit := by unfold recursionLimit; omega
  refine' enterF (binds := [(Str.ofString "data", .str (S data) tk₀)]) X T hroom ?k6 ?k7 ?k9 ?kB ?_ ?c2 ?c3 ?c4 ?c5
  (( (case k6 => k_is); (case k7 => k_is); (case k9 => exact BindsTo.of_eq rfl); (case c5 => decide); (case kB => exact locs rfl); (case c2 => exact rfl); (case c3 => exact rfl); (case c4 => exact rfl)))
  intro L h₁ F N
  replace F := frC F [(Str.ofString "data", .str (S data) tk₀)] (by (repeat refine .cons (by rfl) ?_); exact .nil)
  try dsimp only
  try k_fold
  walk_at "go"
  refine getSub (pat74 (X.keeps F.keep)) ?_
  walk_at "go"
  refine getSub (pat79 (X.keeps F.keep)) ?_
  walk_at "go"
  refine sub_eols hm (pat79 (X.keeps F.keep)) fun t h' tk' hst => ?_
  replace F := fr_stays F hst
  replace N := news_stays N hst
  walk_at "go"
  refine sub_dots hm2 (pat74 (X.keeps F.keep)) fun t h'' tk'' hst2 => ?_
  walk_at "go"
  exact hR _ _ _ fun b o e => hst2 b o (F.keep b o e)
end
end

section
open PySem PySem.W PyProof.Rows PySem.Calls
set_option maxHeartbeats 8000000
local macro_rules | `(tactic| walk_at "stop1") => `(tactic| walk_at "stC")
/-- the signs that escape puts a backslash ahead of -/
def specials : List Nat := [40, 41, 91, 93, 123, 125, 63, 42, 43, 45, 124, 94, 36, 92, 46, 38, 126, 35, 32, 9, 10, 13, 11, 12]
def chkE (e : DictEntry) : Bool := match e.key, e.val with
  | .int k _, .str x _ => decide (0 ≤ k) && specials.contains k.toNat && e.hash == k && x == S [92, k.toNat]
  | _, _ => false
section
variable {prog : Program} {w : World}
theorem chkE_of {e : DictEntry} (h : chkE e = true) : ∃ (k : Nat) (t u : Tok), e.key = .int k t ∧ e.val = .str (S [92, k]) u ∧ k ∈ specials ∧ e.hash = k := by
  unfold chkE at h
  split at h
  · rename_i k t x u h1 h2
    simp only [Bool.and_eq_true, decide_eq_true_eq, beq_iff_eq] at h
    obtain ⟨⟨⟨h3, h4⟩, h5⟩, h6⟩ := h
    obtain ⟨j, rfl⟩ := Int.eq_ofNat_of_zero_le h3
    exact ⟨j, t, u, h1, by rw [h2, h6]; rfl, by simpa using h4, h5⟩
  · cases h
theorem chars_map {h : Heap} (X : (hd.heap_39 w.params).In h) : ∃ f, h.MapOf (intKind prog w) 45 f ∧ (∀ c ∈ specials, ∃ t, f (c : Nat) = some (.str (S [92, c]) t)) ∧ (∀ c : Nat, c ∉ specials → f (c : Nat) = none) := by
  have h1 := X 45 _ (by k_is)
  generalize he : (#[_, _, _, _, _, _, _, _, _, _, _, _, _, _, _, _, _, _, _, _, _, _, _, _] : Array DictEntry) = es at h1
  have hall : es.toList.all chkE = true := by rw [← he]; decide +kernel
  have hhas : specials.all (fun c => es.toList.any fun e => match e.key with | .int k _ => k == (c : Int) | _ => false) = true := by rw [← he]; decide +kernel
  clear he
  have hE : ∀ e ∈ es.toList, ∃ (k : Nat) (t u : Tok), e.key = .int k t ∧ e.val = .str (S [92, k]) u ∧ k ∈ specials ∧ e.hash = k := fun e hm => chkE_of (List.all_eq_true.mp hall e hm)
  refine ⟨_, ⟨_, es, _, h1, ⟨rfl, rfl, rfl⟩, rfl, ?_, fun _ => rfl⟩, ?_, ?_⟩
  · intro e hm
    obtain ⟨k, t, u, h2, h3, h4, h5⟩ := hE e (by simpa using hm)
    refine ⟨(k : Int), by rw [h2]; simp [intKind, Value.isInt], ?_⟩
    rw [h5]
    have : ∀ c ∈ specials, (intKind prog w).hash (c : Int) = (c : Int) := by
      intro c hc
      have : specials.all (fun c => hashInt (c : Int) == (c : Int)) = true := by decide +kernel
      have := List.all_eq_true.mp this c hc
      have : hashInt (c : Int) = (c : Int) := by simpa using this
      exact this
    exact (this k h4).symm
  · intro c hc
    have h2 := List.all_eq_true.mp hhas c hc
    obtain ⟨e, hm, h3⟩ := List.any_eq_true.mp h2
    have hf : ∃ e', es.find? (fun e => (intKind prog w).is (c : Int) e.key) = some e' := by
      rw [← Array.find?_toList]
      cases hq : es.toList.find? (fun e => (intKind prog w).is (c : Int) e.key) with
      | some e' => exact ⟨e', rfl⟩
      | none =>
        have := List.find?_eq_none.mp hq e hm
        obtain ⟨k, t, u, h4, _⟩ := hE e hm
        rw [h4] at this h3
        simp [intKind, Value.isInt] at this h3
        exact absurd h3 (by intro e; exact this (by omega))
    obtain ⟨e', hf⟩ := hf
    have h5 := Array.find?_some hf
    have hm' : e' ∈ es.toList := by simpa using Array.mem_of_find?_eq_some hf
    obtain ⟨k, t, u, h6, h7, _⟩ := hE e' hm'
    rw [h6] at h5
    have hkc : k = c := by
      simp [intKind, Value.isInt] at h5
      omega
    refine ⟨u, ?_⟩
    unfold findBy
    rw [hf, Option.map_some, h7, hkc]
  · intro c hc
    unfold findBy
    have : es.find? (fun e => (intKind prog w).is (c : Int) e.key) = none := by
      rw [← Array.find?_toList]
      refine List.find?_eq_none.mpr fun e hm => ?_
      obtain ⟨k, t, u, h6, h7, h8, _⟩ := hE e hm
      rw [h6]
      intro h9
      simp [intKind, Value.isInt] at h9
      exact hc (by have : k = c := by omega
                   rw [← this]; exact h8)
    rw [this]; rfl

theorem isi_key_lookup : isSubtype (.type "KeyError") (.type "LookupError") = pure true := by rw [isSubtype_type]; kernel_rfl
def escC (c : Nat) : List Nat := if c ∈ specials then [92, c] else [c]
variable {A : Around} {s : Shared} {Q E : Value → Shared → Prop}
theorem look_yes {c : Nat} {QM : Builtin.Str.Mapped → Shared → Prop} (X : (hd.heap_39 w.params).In s.heap) (hc : c ∈ specials) (h : QM (.text (S [92, c])) { s with toks := s.toks + 2 }) :
    wpAny (model prog w) A (Builtin.Str.tableLookup (.ref 45) c) QM E s := by
  obtain ⟨f, hm, h1, _⟩ := chars_map (prog := prog) X
  obtain ⟨t, h1⟩ := h1 c hc
  unfold Builtin.Str.tableLookup
  refine wpAny_bind (wpAny_attempt (wpAny_bind (wpAny_mkInt ?_)))
  refine wpAny_getItem_of (knd := intKind prog w) (intKind_is prog w (c : Int) _) hm h1 ?_
  dsimp only
  refine wpAny_bind (wpAny_of_eq (a := (none : Option Int)) rfl ?_)
  dsimp only
  refine wpAny_bind (wpAny_of_eq (a := some (S [92, c])) rfl ?_)
  exact wpAny_pure h
theorem look_no {c : Nat} {QM : Builtin.Str.Mapped → Shared → Prop} (X : (hd.heap_39 w.params).In s.heap) (hh : A.handled = none) (hc : c ∉ specials) (h : ∀ h', s.heap.StaysIn h' → QM .keep { s with heap := h', toks := s.toks + 2 }) :
    wpAny (model prog w) A (Builtin.Str.tableLookup (.ref 45) c) QM E s := by
  obtain ⟨f, hm, _, h2⟩ := chars_map (prog := prog) X
  unfold Builtin.Str.tableLookup
  refine wpAny_bind (wpAny_attempt (wpAny_bind (wpAny_mkInt ?_)))
  refine wpAny_getItem_missing_of (knd := intKind prog w) (intKind_is prog w (c : Int) _) (by decide) hh hm (h2 c hc) ?_
  intro h' e N
  dsimp only
  obtain ⟨ob, t, g1, g2, g3⟩ := N.there
  refine wpAny_bind (wpAny_isInstance (T := "KeyError") (b := true) ⟨ob, g1, g2⟩ isi_key_lookup ?_)
  rw [if_pos rfl]
  exact wpAny_bind (wpAny_rule (wpAny_pure (h h' N.keeps)))
theorem args_translate (a b : Value) : argsOk "str.translate" ⟨[a, b], []⟩ := F.args_str_translate_2 a b
theorem translate_call {c : Nat} {tk : Tok} (X : (hd.heap_39 w.params).In s.heap) (hh : A.handled = none) (h : ∀ t h' tk', s.heap.StaysIn h' → Q (.str (S (escC c)) t) { s with heap := h', toks := tk' }) :
    wpAny (model prog w) A (call (.builtin "str.translate") [.str (S [c]) tk, .ref 45]) Q E s := by
  refine wpAny_call_entry F.slot_str_translate (by rfl) F.entry_str_translate ?_ (args_translate _ _)
  unfold Builtin.«str.translate»
  refine wpAny_bind (wpAny_of_eq (a := (Value.str (S [c]) tk, S [c], Value.ref 45)) rfl ?_)
  dsimp only
  rw [if_neg (by simp [S_len])]
  rw [← Array.forIn_toList]
  show wpAny _ _ (forIn [c] _ _ >>= _) _ _ _
  rw [List.forIn_cons]
  have fin : ∀ (h' : Heap) (tk' : Nat), s.heap.StaysIn h' → ∀ x : Str, x = S (escC c) → wpAny (model prog w) A.in1 (retStr x) (fun fin s' => ∃ v, fin = .done (.ret v) ∧ Q v s') E { s with heap := h', toks := tk' } := by
    intro h' tk' hst x hx
    unfold retStr
    rw [hx]
    refine wpAny_bind (wpAny_mkStr (wpAny_pure ⟨_, rfl, h _ _ _ hst⟩) (le_line ?_))
    rw [S_len]; unfold escC; split <;> simp
  by_cases hf : c < 128
  · have hall : (#[c].all fun x => decide (x < 128)) = true := by simp [hf]
    rw [hall]
    refine wpAny_bind (wpAny_bind ?_)
    rw [if_neg (by decide), if_pos rfl]
    show wpAny _ _ (Builtin.Str.tableLookup (.ref 45) c >>= _) _ _ _
    by_cases hc : c ∈ specials
    · refine wpAny_bind (look_yes X hc ?_)
      have e1 : ((S [92, c]).length == 1 && (S [92, c]).cps.all fun x => decide (x < 128)) = false := by simp [S_len]
      dsimp only
      rw [e1]
      simp only [Bool.false_eq_true, if_false]
      refine wpAny_bind (wpAny_pure ?_)
      dsimp only
      refine wpAny_bind (wpAny_rule ?_)
      refine wpAny_bind (look_yes X hc ?_)
      dsimp only
      refine wpAny_pure ?_
      dsimp only
      rw [List.forIn_nil]
      refine wpAny_pure ?_
      dsimp only
      rw [if_neg (by simp [S_len, Builtin.Str.tooLong, sizeLine_eq])]
      refine fin _ _ (fun _ _ e => e) _ ?_
      simp [escC, hc, S]
    · refine wpAny_bind (look_no X hh hc fun h' hst => ?_)
      dsimp only
      refine wpAny_bind (wpAny_pure ?_)
      dsimp only
      refine wpAny_pure ?_
      dsimp only
      rw [List.forIn_nil]
      refine wpAny_pure ?_
      dsimp only
      rw [if_neg (by decide)]
      refine fin h' _ hst _ ?_
      simp [escC, hc, S]
  · have hall : (#[c].all fun x => decide (x < 128)) = false := by simp; omega
    rw [hall]
    have hc : c ∉ specials := fun hm => by
      have : specials.all (fun c => decide (c < 128)) = true := by decide
      have := List.all_eq_true.mp this c hm
      simp at this; omega
    refine wpAny_bind (wpAny_bind ?_)
    rw [if_neg (by decide), if_neg (by simp), if_neg (by simp)]
    refine wpAny_bind (look_no X hh hc fun h' hst => ?_)
    dsimp only
    refine wpAny_pure ?_
    dsimp only
    rw [List.forIn_nil]
    refine wpAny_pure ?_
    dsimp only
    rw [if_neg (by decide)]
    refine fin h' _ hst _ ?_
    simp [escC, hc, S]

theorem getTr {M : Model} {A : Around} {E : Value → Shared → Prop} {s : Shared} {x : Str} {t : Tok} {pl : Sem Bool} {Q : Value × List Value → Shared → Prop} (h : Q (.builtin "str.translate", [.str x t]) s) :
    wpAny M A (getMethod (.str x t) (Str.ofString "translate") pl) Q E s :=
  getMethod_builtin (T := "str") (v := .str x t) (name := Str.ofString "translate") rfl PySem.F.plainAttrs_str PySem.F.slot_str_translate PySem.F.type_str_translate (fun a e => by cases e) h
variable {p : Program} {loose : List Str} {mean : ExcName → Option Value} {mg mb : Str → Option Value} {R : Value → Shared → Prop}
theorem esc_spec {c : Nat} {tk₀ : Tok} (X : (hd.heap_39 w.params).In s.heap) (T : Top p loose mean mg mb s.heap) (hd : A.depth < 900) (hh : A.handled = none)
    (hR : ∀ t h' tk', s.heap.StaysIn h' → R (.str (S (escC c)) t) { s with heap := h', toks := tk' }) :
    wpAny (model prog w) A (call (.ref 55) [.str (S [c]) tk₀] []) R (fun _ _ => False) s := by
  have hroom : A.depth < recursionLimit := by unfold recursionLimit; omega
  refine' enterF (binds := [(Str.ofString "pattern", .str (S [c]) tk₀)]) X T hroom ?k6 ?k7 ?k9 ?kB ?_ ?c2 ?c3 ?c4 ?c5
  (( (case k6 => k_is); (case k7 => k_is); (case k9 => exact BindsTo.of_eq rfl); (case c5 => decide); (case kB => exact locs rfl); (case c2 => exact rfl); (case c3 => exact rfl); (case c4 => exact rfl)))
  intro L h₁ F N
  replace F := frC F [(Str.ofString "pattern", .str (S [c]) tk₀)] (by (repeat refine .cons (by rfl) ?_); exact .nil)
  try dsimp only
  try k_fold
  walk_at "go"
  with_reducible refine getTr ?_
  walk_at "go"
  refine translate_call (X.keeps F.keep) (by exact hh) fun t h' tk' hst => ?_
  walk_at "go"
  exact hR _ _ _ fun b o e => hst b o (F.keep b o e)
end
end

section
open PySem PySem.W PyProof.Rows PySem.Calls PySem.Sre PySem.Builtin PySem.Builtin.Re
set_option maxHeartbeats 1000000
/-- the words of ([&~|]) -/
abbrev code3 : Array Nat := #[14, 14, 4, 1, 1, 9, 0, 64, 0, 1342177280, 0, 0, 0, 0, 0, 17, 0, 13, 11, 9, 0, 64, 0, 1342177280, 0, 0, 0, 0, 0, 17, 1, 1]
structure PatAt1 (h : Heap) (P : Addr) (code : Array Nat) : Prop where
  obj : ∃ src fl x3 x4 ct o, h.get? P = some o ∧ o.cls = .type "re.Pattern" ∧ o.dict = none ∧ o.data = .fields #[src, fl, .int 1 0, x3, x4, .ref ct, .int 0 0] ∧
    ∃ oc n, h.get? ct = some oc ∧ oc.data = .seq (code.map fun (w : Nat) => Value.int (w : Int) 0) n
theorem PatAt1.stays {h h' : Heap} {P : Addr} {code : Array Nat} (x : PatAt1 h P code) (k : h.StaysIn h') : PatAt1 h' P code := by
  obtain ⟨src, fl, x3, x4, ct, o, h1, h2, h3, h4, oc, n, h5, h6⟩ := x.obj
  exact ⟨src, fl, x3, x4, ct, o, k _ _ h1, h2, h3, h4, oc, n, k _ _ h5, h6⟩
section
variable {M : Model} {A : Around} {E : Value → Shared → Prop} {s : Shared} {P : Addr} {code : Array Nat}
theorem whole_target1 {T : List Nat} {tk : Tok} {Q : ReTarget → Shared → Prop} (x : PatAt1 s.heap P code)
    (q : Q { pattern := .ref P, string := .str (S T) tk, code := code, text := T.toArray, kind := 0, groups := 1, pos := 0, lim := T.length } s) : wpAny M A (reWholeTarget (.ref P) (.str (S T) tk)) Q E s := by
  obtain ⟨src, fl, x3, x4, ct, o, h1, h2, h3, h4, oc, n, h5, h6⟩ := x.obj
  unfold reWholeTarget
  refine wpAny_bind ?_
  unfold fieldsOf
  refine wpAny_bind (wpAny_load h1 ?_)
  rw [h4]
  refine wpAny_pure ?_
  refine wpAny_bind (wpAny_of_eq (a := ((S T).cps, 0)) rfl ?_)
  show wpAny M A (reNoCollectionInside (.str (S T) tk) 0 >>= fun _ => reRawItems (.ref ct) >>= fun its =>
    pure { pattern := .ref P, string := .str (S T) tk, code := its.map (·.toNat), text := (S T).cps, kind := 0, groups := 1, pos := 0, lim := (S T).cps.size }) Q E s
  refine wpAny_bind (wpAny_of_eq (a := ()) rfl ?_)
  refine wpAny_bind ?_
  unfold reRawItems
  refine wpAny_bind (wpAny_seqItems h5 h6 (wpAny_pure ?_))
  refine wpAny_pure ?_
  have e : (((some (code.map fun (w : Nat) => Value.int (w : Int) 0)).getD #[]).map reRawOf).map (·.toNat) = code := by
    simp only [Option.getD_some, Array.map_map]
    have : ((fun x : Int => x.toNat) ∘ reRawOf ∘ fun (w : Nat) => Value.int (w : Int) 0) = _root_.id := by
      funext w; simp [reRawOf]
    rw [this, Array.map_id]
  rw [e]
  have e2 : (S T).cps.size = T.length := by simp
  rw [e2]
  exact q
end
theorem call_function : ∃ id, typeLookup (.type "function") "__call__" = pure (some (.builtin id)) := by
  refine ⟨"function.__call__", ?_⟩
  rw [typeLookup_type, builtinLookup_eq_fast]; kernel_rfl
theorem isi_str_bytearray : isSubtype (.type "str") (.type "bytearray") = pure false := by rw [isSubtype_type]; kernel_rfl
theorem getSub1 {M : Model} {A : Around} {E : Value → Shared → Prop} {s : Shared} {P : Addr} {code : Array Nat} {pl : Sem Bool} {Q : Value × List Value → Shared → Prop} (x : PatAt1 s.heap P code)
    (h : Q (.builtin "re.Pattern.sub", [.ref P]) s) : wpAny M A (getMethod (.ref P) (Str.ofString "sub") pl) Q E s := by
  obtain ⟨src, fl, x3, x4, ct, o, h1, h2, h3, _⟩ := x.obj
  exact getMethod_builtin (T := "re.Pattern") ⟨o, h1, h2⟩ plainAttrs_pattern slot_sub type_sub (fun a e => by cases e; exact ⟨o, h1, h3⟩) h
section
variable {prog : Program} {w : World} {A : Around} {s : Shared} {Q E : Value → Shared → Prop}
/-- a text without a hit: the function is never called -/
theorem sub_fn {P f : Addr} {code : Array Nat} {T : List Nat} {tk : Tok} {of : Obj} (hT : T.length ≤ 1000) (h0 : 0 < T.length) (x : PatAt1 s.heap P code) (hf : s.heap.get? f = some of) (hc : of.cls = .type "function")
    (hm : MissN 100000 (forSearch code T.toArray 1 0 T.length false))
    (hQ : ∀ t h' tk', s.heap.StaysIn h' → Q (.str (S T) t) { s with heap := h', toks := tk' }) :
    wpAny (model prog w) A (call (.builtin "re.Pattern.sub") [.ref P, .ref f, .str (S T) tk]) Q E s := by
  have hty : s.TypeIs (.ref P) "re.Pattern" := by
    obtain ⟨src, fl, x3, x4, ct, o, h1, h2, _⟩ := x.obj
    exact ⟨o, h1, h2⟩
  refine wpAny_call (codeAny_call_builtin slot_sub.plain entry_sub (slot_sub.check _ _ _ _ _ _ _ _ hty (args_sub _ _ _) ?_))
  unfold Builtin.«re.Pattern.sub» reSubstitute
  show wpAny _ _ (reNamed "re.Pattern.sub" "sub" ["repl", "string", "count"] 2 [.ref f, .str (S T) tk] [] >>= _) _ _ _
  have hn : reNamed "re.Pattern.sub" "sub" ["repl", "string", "count"] 2 [.ref f, .str (S T) tk] [] = pure [some (.ref f), some (.str (S T) tk), none] := by
    rfl
  refine wpAny_bind (wpAny_of_eq hn ?_)
  refine wpAny_bind (wpAny_pure ?_)
  obtain ⟨id, hcf⟩ := call_function
  refine wpAny_bind (wpAny_specialOf (T := "function") ⟨of, hf, hc⟩ hcf ?_)
  simp only [Option.isSome_some, if_true]
  refine wpAny_bind (wpAny_pure ?_)
  show wpAny _ _ (pure (Value.ref f, 1) >>= _) _ _ _
  refine wpAny_bind (wpAny_pure ?_)
  refine wpAny_bind (wpAny_holding (whole_target1 x ?_))
  show wpAny _ _ (reNotHeld "re.Pattern.sub" (.str (S T) tk) >>= fun _ => newList [] >>= _) _ _ _
  refine wpAny_bind ?_
  unfold reNotHeld
  refine wpAny_bind (wpAny_isInstance (T := "str") (b := false) rfl isi_str_bytearray ?_)
  rw [if_neg (by decide)]
  refine wpAny_pure ?_
  show wpAny _ _ (newList [] >>= _) _ _ _
  refine wpAny_bind (wpAny_newObj_type ?_ (by size_fits))
  refine wpAny_pure ⟨Code.quiet_builtin _ (by decide +kernel), ?_⟩
  have hst : ∀ oN : Obj, s.heap.StaysIn (s.heap.push oN) := fun oN b o e => Heap.get?_push_of_some _ e
  refine codeAny_builtin entry_subloop ?_
  unfold Builtin.«re.Pattern.sub.loop»
  show wpAny _ _ (reWholeTarget (.ref P) (.str (S T) tk) >>= _) _ _ _
  refine wpAny_bind (whole_target1 (x.stays (hst _)) ?_)
  show wpAny _ _ (reRunToEnd (forSearch code T.toArray 1 0 T.length false) >>= _) _ _ _
  refine wpAny_bind (run_miss hm (by omega) ?_)
  show wpAny _ _ (if 0 < T.length then (reSlice T.toArray 0 0 T.length >>= fun v => updateSeq s.heap.objs.size (·.push v) >>= fun _ => _) else _) _ _ _
  rw [if_pos h0]
  refine wpAny_bind (slice_ok (by omega) (by omega) (Nat.le_refl _) ?_)
  have e2 : (T.drop 0).take (T.length - 0) = T := by simp
  rw [e2]
  refine wpAny_bind (wpAny_updateSeq (Heap.get?_push_size _ rfl) rfl ?_ (Nat.zero_le _) (by rw [Array.size_push]; exact Nat.succ_le_succ (Nat.zero_le _)))
  obtain ⟨g1, g2⟩ := push_led (h := s.heap) (l := s.heap.objs.size) (vs := #[]) (n := 0) (v := .str (S T) s.toks) (Heap.get?_push_size _ rfl) (fun b o _ e => Heap.get?_push_of_some _ e)
  have hk : s.heap.StaysIn _ := fun b o e => g2 b o (Nat.ne_of_lt (Heap.lt_size e)) e
  refine wpAny_bind (slice_ok (by omega) (Nat.le_refl _) (by omega) ?_)
  simp only [Nat.sub_self, List.take_zero]
  refine wpAny_bind (wpAny_seqItems g1 rfl ?_)
  simp only [Option.getD_some, Array.isEmpty_push, Bool.false_eq_true, if_false]
  refine wpAny_bind (PyProof.Rows.join_list (x := S []) (ys := [T].map S) ⟨_, g1, rfl, _, rfl⟩ (strs_push (xs := []) .nil) ?_ ?_)
  · simp [S_len]; omega
  · intro t' k'
    rw [S_join]
    simp only [List.flatten_cons, List.flatten_nil, List.append_nil]
    refine wpAny_pure ?_
    exact hQ t' _ k' hk
end
open PySem.Builtin.Str in
theorem replace_none {prog : Program} {w : World} {A : Around} {s : Shared} {Q E : Value → Shared → Prop} {x y z : Str} {t u v : Tok} (h : (occurrences x y 0 x.length (x.length + 1)).isEmpty = true) (hq : Q (.str x t) s) :
    wpAny (model prog w) A (call (.builtin "str.replace") [.str x t, .str y u, .str z v]) Q E s := by
  have hc : ((occurrences x y 0 x.length (x.length + 1)).isEmpty || (y.length == 0 && z.length == 0)) = true := by rw [h]; rfl
  refine call_gives F.slot_str_replace (typeIs_str _ _ _) F.entry_str_replace (F.args_str_replace_3 _ _ _)
    (gives_str_replace x y z t u v fun hn => absurd hn (by rw [hc]; simp)) ?_
  rw [if_pos hc]
  exact hq
theorem miss_a : MissN 100000 (forSearch code3 (List.toArray [33, 13, 10]) 1 0 3 false) := ⟨100, by omega, by kernel_rfl⟩
theorem miss_b : MissN 100000 (forSearch code3 (List.toArray [33, 13, 10, 46]) 1 0 4 false) := ⟨100, by omega, by kernel_rfl⟩
theorem miss_c : MissN 100000 (forSearch code3 (List.toArray [13, 10, 46, 97]) 1 0 4 false) := ⟨100, by omega, by kernel_rfl⟩
end

section
open PySem PySem.W PyProof.Rows PySem.Calls PySem.Builtin
set_option maxHeartbeats 1000000
theorem slot_mget : Slot "method_descriptor" "__get__" "method_descriptor.__get__" :=
  .of (owner := "method_descriptor") (n := "__get__") (by rw [typeLookup_type, builtinLookup_eq_fast]; kernel_rfl) (by decide +kernel) (by decide +kernel) (by decide +kernel)
    (by first | exact .inl (by decide +kernel) | exact .inr (by decide +kernel)) (by rw [isSubtype_type]; kernel_rfl)
theorem entry_mget : entryFor table "method_descriptor.__get__" = some Builtin.«method_descriptor.__get__» := entryFor_of_tree (by kernel_rfl)
theorem args_mget (a b c : Value) : argsOk "method_descriptor.__get__" ⟨[a, b, c], []⟩ := by unfold argsOk; kernel_rfl
theorem entry_list_getattribute : entryFor table "list.__getattribute__" = some Builtin.«object.__getattribute__» :=
  entryFor_alias (id' := "object.__getattribute__") (by kernel_rfl) (by decide +kernel) (by decide +kernel) (by kernel_rfl)
theorem mget_no_set : typeLookup (.type "method_descriptor") "__set__" = pure none := by rw [typeLookup_type, builtinLookup_eq_fast]; kernel_rfl
theorem mget_no_del : typeLookup (.type "method_descriptor") "__delete__" = pure none := by rw [typeLookup_type, builtinLookup_eq_fast]; kernel_rfl
/-- the bound method res.append -/
abbrev appOf (l : Addr) : Obj := { cls := .type "builtin_function_or_method", data := .fields #[.builtin "list.append", .ref l] }
theorem list_is_list : isSubtype (.type "list") (.type "list") = pure true := by rw [isSubtype_type]; kernel_rfl
section
variable {prog : Program} {w : World} {A : Around} {E : Value → Shared → Prop} {s : Shared}
theorem getAppend_raw {l : Addr} {its : Array Value} {n : Nat} {Q : Value → Shared → Prop} (ho : s.heap.get? l = some (W.listOf its n))
    (h : Q (.ref s.heap.objs.size) { s with heap := s.heap.push (appOf l), toks := s.toks + 1 }) : wpAny (model prog w) A (getAttr (.ref l) (Str.ofString "append") true) Q E s := by
  have hT : ∀ k, Shared.TypeIs { s with toks := k } (.ref l) "list" := fun k => ⟨_, ho, rfl⟩
  unfold getAttr
  refine wpAny_bind (wpAny_mkText ?_)
  unfold getAttrBy
  refine wpAny_holding (wpAny_bind (wpAny_typeOf (hT _) (wpAny_bind (wpAny_of_eq PySem.F.slot_list_getattribute.lookup ?_))))
  dsimp only
  rw [if_neg (by decide)]
  unfold getAttrByItsOwn
  refine wpAny_bind (wpAny_of_eq (a := (none : Option Value)) rfl ?_)
  refine wpAny_bind (wpAny_attempt (wpAny_holding ?_))
  show wpAny _ _ (boundAndCalled (.builtin "list.__getattribute__") (.ref l) (.str (Str.ofString "append") s.toks)) _ _ _
  unfold boundAndCalled
  refine wpAny_bind (wpAny_of_eq (PySem.F.slot_list_getattribute.bind _) ?_)
  refine wpAny_call_entry PySem.F.slot_list_getattribute (hT _) entry_list_getattribute ?_ (PySem.F.args_list_getattribute_2 _ _)
  unfold Builtin.«object.__getattribute__»
  refine wpAny_bind (wpAny_of_eq (a := (Value.ref l, [Value.str (Str.ofString "append") s.toks])) rfl ?_)
  refine wpAny_bind (wpAny_of_eq (a := Str.ofString "append") rfl ?_)
  refine wpAny_bind (wpAny_typeOf (hT _) ?_)
  refine wpAny_bind ?_
  unfold ObjectAttr.find
  refine wpAny_bind (wpAny_of_eq PySem.F.slot_list_append.lookup ?_)
  refine wpAny_bind (wpAny_specialOf (T := "method_descriptor") (show Shared.TypeIs _ (.builtin "list.append") "method_descriptor" from PySem.F.type_list_append) slot_mget.lookup ?_)
  have hty : ∀ k, Shared.TypeIs { s with toks := k } (.builtin "list.append") "method_descriptor" := fun k => PySem.F.type_list_append
  refine wpAny_bind ?_
  unfold ObjectAttr.dataDescriptor? ObjectAttr.takesStores
  refine wpAny_bind (wpAny_bind (wpAny_specialOf (hty _) mget_no_set ?_))
  simp only [Option.isSome_none, Bool.false_eq_true, if_false]
  refine wpAny_bind (wpAny_specialOf (hty _) mget_no_del (wpAny_pure ?_))
  simp only [Option.isSome_none, Bool.false_eq_true, if_false]
  refine wpAny_pure ?_
  unfold ObjectAttr.ownThenClass ObjectAttr.inOwnDict ObjectAttr.ownDict loadHead
  refine wpAny_bind (wpAny_bind (wpAny_bind (wpAny_loadPart ho ?_)))
  dsimp only
  unfold instanceDict
  refine wpAny_bind (wpAny_loadPart ho ?_)
  dsimp only
  rw [if_pos (by rfl)]
  refine wpAny_pure ?_
  refine wpAny_pure ?_
  dsimp only
  refine wpAny_bind (wpAny_of_eq (a := ()) (by rfl) ?_)
  unfold ObjectAttr.byTheClass
  refine wpAny_bind (wpAny_rule (wpAny_pure ?_))
  dsimp only
  unfold ObjectAttr.bindTo
  dsimp only
  refine wpAny_bind (wpAny_holding ?_)
  refine wpAny_call_entry slot_mget (hty _) entry_mget ?_ (args_mget _ _ _)
  unfold Builtin.«method_descriptor.__get__»
  refine wpAny_bind (wpAny_of_eq (a := (.builtin "list.append", some (.ref l), some (.type "list"))) (by rfl) ?_)
  dsimp only
  rw [if_neg (by decide +kernel)]
  refine wpAny_bind ?_
  refine wpAny_bind (wpAny_of_eq (a := (Str.ofString "append", .type "list")) (by kernel_rfl) ?_)
  dsimp only
  refine wpAny_bind (wpAny_isInstance (hT _) list_is_list ?_)
  simp only [Bool.not_true, Bool.false_eq_true, if_false]
  refine wpAny_pure ?_
  refine wpAny_bind (wpAny_newObj_type (wpAny_pure ⟨_, rfl, wpAny_pure ⟨_, rfl, ?_⟩⟩))
  exact wpAny_pure h

theorem getAppend {h₀ : Heap} {L : Addr} {m : Str → Option Value} {news : List (Addr × Obj)} {l : Addr} {its : Array Value} {n : Nat} {Q : Value → Shared → Prop} (F : Fr h₀ L s.heap m) (N : News h₀ L s.heap news) (hm : (l, W.listOf its n) ∈ news)
    (h : ∀ u h', Fr h₀ L h' m → News h₀ L h' ((u, appOf l) :: news) → (∀ q ∈ news, q.1 ≠ u) → Q (.ref u) { s with heap := h', toks := s.toks + 1 }) : wpAny (model prog w) A (getAttr (.ref l) (Str.ofString "append") true) Q E s :=
  getAppend_raw (N _ hm).1 (h _ _ (F.push _) (N.push F _) fun q hq e => Nat.lt_irrefl _ (e ▸ Heap.lt_size (N q hq).1))

theorem isi_list_module : isSubtype (.type "list") (.type "module") = pure false := by rw [isSubtype_type]; kernel_rfl
theorem sig_append : Manifest.signature? "list.append" = some ⟨.oneArg, "list.append", "append", .self, [⟨"object", .posOnly, true⟩]⟩ := by
  rw [signature?_of (id := "list.append") (n := ['d', 'n', 'e', 'p', 'p', 'a']) (o := ['t', 's', 'i', 'l']) (by kernel_rfl) PySem.F.owner_list]; kernel_rfl
theorem kind_append : builtinKind "list.append" = some .method := by kernel_rfl
theorem checkArgs_append (l : Addr) (x : Value) : Bind.checkArgs "list.append" ⟨.oneArg, "list.append", "append", .self, [⟨"object", .posOnly, true⟩]⟩ ⟨[.ref l, x], []⟩ = pure () := by kernel_rfl
theorem check_append {l : Addr} {its : Array Value} {n : Nat} {x : Value} {Q : Unit → Shared → Prop} {M : Model} (ho : s.heap.get? l = some (W.listOf its n)) (h : Q () s) : wpAny M A (checkBoundCall "list.append" ⟨[.ref l, x], []⟩) Q E s := by
  have hT : s.TypeIs (.ref l) "list" := ⟨_, ho, rfl⟩
  unfold checkBoundCall
  simp only [sig_append, kind_append]
  rw [if_neg (by decide)]
  refine wpAny_bind (wpAny_isInstance hT isi_list_module ?_)
  rw [if_neg (by decide +kernel)]
  unfold isType loadHead
  refine wpAny_bind (wpAny_bind (wpAny_loadPart ho (wpAny_pure ?_)))
  dsimp only
  simp only [Bool.false_eq_true, if_false]
  refine wpAny_bind (wpAny_typeOf hT ?_)
  dsimp only
  exact wpAny_of_eq (checkArgs_append l x) h
theorem callAppend {h₀ : Heap} {L : Addr} {m : Str → Option Value} {news news' : List (Addr × Obj)} {l u : Addr} {its : Array Value} {n : Nat} {x : Value} {Q : Value → Shared → Prop} (F : Fr h₀ L s.heap m) (N : News h₀ L s.heap news) (hu : (u, appOf l) ∈ news)
    (U : Upd l (W.listOf its n) (W.listOf (its.push x) (n + 1)) news news') (hsz : its.size ≤ 1000000)
    (h : ∀ h', Fr h₀ L h' m → News h₀ L h' news' → Q .none { s with heap := h' }) : wpAny (model prog w) A (call (.ref u) [x] []) Q E s := by
  obtain ⟨pre, post, rfl, rfl, h1, h2⟩ := U.split
  have z := N (l, W.listOf its n) (by simp)
  have hl : s.heap.IsList l its := ⟨_, z.1, rfl, n, rfl⟩
  refine wpAny_call (codeAny_of_tree ?_)
  show wpAny _ _ (callAny (.ref u) ⟨[x], []⟩) _ _ s
  simp only [callAny]
  refine wpAny_bind (wpAny_load (N _ hu).1 ?_)
  dsimp only
  rw [if_pos (by decide)]
  show wpAny _ _ (checkBoundCall "list.append" ⟨[.ref l, x], []⟩ >>= fun _ => again (Code.builtin "list.append" ⟨[.ref l, x], []⟩)) _ _ s
  refine wpAny_bind (check_append z.1 ?_)
  refine wpAny_pure ⟨Code.quiet_builtin _ (by decide +kernel), ?_⟩
  refine codeAny_builtin entry_list_append ?_
  show wpAny _ _ (updateSeq l (·.push x) >>= fun _ => ret .none) _ _ s
  refine wpAny_bind (wpAny_updateSeq z.1 rfl ?_ (le_line hsz) (by rw [Array.size_push]; exact Nat.succ_le_succ (le_line hsz)))
  have fin := news_upd (f := Obj.mapSeq (·.push x)) (o' := W.listOf (its.push x) (n + 1)) F N h1 h2 (by simp [Obj.mapSeq]) rfl
  exact wpAny_pure (h _ fin.1 fin.2)

def AppAt (u l : Addr) (h : Heap) : Prop := h.get? u = some (appOf l)
theorem appAt_of {h₀ h : Heap} {L : Addr} {news : List (Addr × Obj)} {u l : Addr} (N : News h₀ L h news) (hm : (u, appOf l) ∈ news) : AppAt u l h := (N _ hm).1
theorem callWith_app {M : Model} {pos : Pos} {u l : Addr} {first : List Value} {args : List (Bool × Sem Value)} {Q : Value → Shared → Prop} (hplain : args.any (·.1) = false)
    (h : wpAny M A (evalArgs (.ref u) true args []) (fun x s₁ => AppAt u l s₁.heap ∧ wpAny M A (call (.ref u) (first ++ x.pos) x.kw) Q E s₁) E s) : wpAny M A (callWith pos (.ref u) first args []) Q E s := by
  unfold callWith
  refine wpAny_bind (wpAny_holding (wpAny_mono h (fun x s₁ h₁ => wpAny_bind (wpAny_standAt ?_)) fun _ _ x => x))
  obtain ⟨ho, hcall⟩ := h₁
  unfold AppAt at ho
  simp only [hplain, List.any_nil, Bool.or_false]
  refine wpAny_bind (m := keeperOf (.ref u)) ?_
  unfold keeperOf
  refine wpAny_bind (wpAny_load ho ?_)
  simp only [show (Value.type "builtin_function_or_method" != Value.type "method") = true by decide, show (Value.type "builtin_function_or_method" == Value.type "builtin_function_or_method" || Value.type "builtin_function_or_method" == Value.type "method-wrapper") = true by decide, if_true]
  refine wpAny_pure ?_
  exact wpAny_bind (wpAny_mono hcall (fun r s₂ hr => wpAny_bind (wpAny_holding (wpAny_point (wpAny_pure hr)))) fun _ _ x => x)
theorem callWith_app1 {M : Model} {h₀ : Heap} {L : Addr} {news : List (Addr × Obj)} {pos : Pos} {u l : Addr} {env : Env} {e : Expr} {Q : Value → Shared → Prop} (_N : News h₀ L s.heap news) (_hm : (u, appOf l) ∈ news)
    (h : wpAny M A (spliced (backTo pos (starEach [e] env))) (fun vs s₁ => AppAt u l s₁.heap ∧ wpAny M A (call (.ref u) ([] ++ vs)) Q E s₁) E s)
    (he : starEach [e] env = [(false, eval e env)] := by rfl) :
    wpAny M A (callWith pos (.ref u) [] (backTo pos (starEach [e] env)) []) Q E s := by
  rw [he] at h ⊢
  refine callWith_app (l := l) rfl ?_
  exact evalArgs_plain h
end
end

section
open PySem PySem.W PyProof.Rows PySem.Calls PySem.Builtin
set_option maxHeartbeats 1000000
section
variable {prog : Program} {w : World} {A : Around} {E : Value → Shared → Prop} {s : Shared}
theorem sub_list {value slice : Expr} {h₀ : Heap} {L : Addr} {news : List (Addr × Obj)} {l : Addr} {its : Array Value} {n : Nat} {k : Int} {u : Tok} {Q : Value → Shared → Prop} (N : News h₀ L s.heap news) (hm : (l, W.listOf its n) ∈ news)
    (h : wpAny (model prog w) A (getItem (.ref l) (.int k u)) Q E s)
    (hs : subscripted slice false (.ref l) (.int k u) = operate [.ref l, .int k u] (getItem (.ref l) (.int k u)) := by with_unfolding_all rfl) (hg : ∀ r, letTemporaryGo value (.ref l) r = pure () := by intro _; with_unfolding_all rfl) :
    wpAny (model prog w) A (subscriptTail value slice (.ref l) (.int k u)) Q E s :=
  subscriptTail_builtin (isList_led N hm).typeIs slot_list_getitem.lookup h hs hg
theorem sub_list' {value slice : Expr} {l : Addr} {its : Array Value} {k : Int} {u : Tok} {Q : Value → Shared → Prop} (hl : s.heap.IsList l its)
    (h : wpAny (model prog w) A (getItem (.ref l) (.int k u)) Q E s)
    (hs : subscripted slice false (.ref l) (.int k u) = operate [.ref l, .int k u] (getItem (.ref l) (.int k u)) := by with_unfolding_all rfl) (hg : ∀ r, letTemporaryGo value (.ref l) r = pure () := by intro _; with_unfolding_all rfl) :
    wpAny (model prog w) A (subscriptTail value slice (.ref l) (.int k u)) Q E s :=
  subscriptTail_builtin hl.typeIs slot_list_getitem.lookup h hs hg
end
end

section
open PySem PySem.W PyProof.Rows PySem.Calls
set_option maxHeartbeats 1000000
/-- the table of the lambda's code: empty, or with the one entry -/
def LamTab (ps : Array Value) : Prop := ps = #[] ∨ ∃ (k : Addr), ps = #[rawInt 63, rawInt 46, .ref k]
theorem news_drop2 {h₀ h : Heap} {L : Addr} {a b : Addr × Obj} {r : List (Addr × Obj)} (N : News h₀ L h (a :: b :: r)) : News h₀ L h (a :: r) := fun q hq => N q (by
  rcases List.mem_cons.mp hq with rfl | hq
  · exact .head _
  · exact .tail _ (.tail _ hq))
section
variable {M : Model} {A : Around} {E : Value → Shared → Prop} {s : Shared} {h₀ : Heap} {L a : Addr} {m mg mb : Str → Option Value} {cn : Str} {cs : Scope}
  {p : Program} {loose : List Str} {mean : ExcName → Option Value} {params : Arguments} {body : Expr} {scope : Scope} {ps : Array Value} {pos : Pos} {l u : Addr} {ol ou : Obj}
theorem lam_make {Q : Value → Shared → Prop} (F : Fr h₀ L s.heap m) (N : News h₀ L s.heap [(l, ol), (u, ou), (57, tabObj ps)]) (T : Top p loose mean mg mb h₀) (C : CodeHd h₀ 61 57) (hps : LamTab ps) (hl : pos.line = 63) (hc : pos.col = 46)
    (hcl : closureFor scope (envOf cn cs L a (.ref 61)) = pure []) (hdef : defaultsOf params (envOf cn cs L a (.ref 61)) = ([], [])) (hne : @Ne Nat 57 l ∧ @Ne Nat 57 u ∧ @Ne Nat l u)
    (h : ∀ f of ps' h' tk, of.cls = .type "function" → LamTab ps' → (@Ne Nat f l ∧ @Ne Nat f u ∧ @Ne Nat f 57) → Fr h₀ L h' m → News h₀ L h' [(f, of), (l, ol), (u, ou), (57, tabObj ps')] → Q (.ref f) { s with heap := h', toks := tk }) :
    wpAny M A (eval (.Lambda params body scope pos) (envOf cn cs L a (.ref 61))) Q E s := by
  obtain ⟨l1, c1, l2, c2⟩ := pos
  simp only at hl hc
  subst hl hc
  refine kla_eval hdef ?_
  rcases hps with rfl | ⟨k, rfl⟩
  · have U : UpdF 57 (tabObj #[]) [(l, ol), (u, ou), (57, tabObj #[])] (fun o => [(l, ol), (u, ou), (57, o)]) := .tail (Ne.symm hne.1) (.tail (Ne.symm hne.2.1) (.head (by simp)))
    refine kla_nest (cl := []) (clos := []) F N T C rfl U True.intro rfl hcl ?_
    intro f c' oc vs t ctv h' tk F' N' h1 h2 h3 h4
    refine h f _ _ h' tk ?_ (.inr ⟨c', rfl⟩) ⟨?_, ?_, ?_⟩ F' (news_drop2 N')
    · rfl
    · have := h3 (l, ol) (.head _); exact Nat.ne_of_gt (Nat.lt_trans this h4)
    · have := h3 (u, ou) (.tail _ (.head _)); exact Nat.ne_of_gt (Nat.lt_trans this h4)
    · have := h3 (57, tabObj #[]) (.tail _ (.tail _ (.head _))); exact Nat.ne_of_gt (Nat.lt_trans this h4)
  · refine kla_hit (cl := []) (clos := []) (c' := k) F N T C rfl (.tail _ (.tail _ (.head _))) (by simp [TriplesOk, rawInt]) ?_ hcl ?_
    · rfl
    intro f ctv h' tk F' N' h3
    refine h f _ _ h' tk ?_ (.inr ⟨k, rfl⟩) ⟨?_, ?_, ?_⟩ F' N'
    · rfl
    · have := h3 (l, ol) (.head _); exact Nat.ne_of_gt this
    · have := h3 (u, ou) (.tail _ (.head _)); exact Nat.ne_of_gt this
    · have := h3 _ (.tail _ (.tail _ (.head _))); exact Nat.ne_of_gt this
theorem exec_cut {env : Env} {st : Stmt} {Q : Flow → Shared → Prop} (P : Shared → Prop) (h1 : wpAny M A (exec st env) (fun f s' => f = .next ∧ P s') E s) (h2 : ∀ s', P s' → Q .next s') : wpAny M A (exec st env) Q E s :=
  wpAny_mono h1 (fun _ s' x => x.1 ▸ h2 s' x.2) fun _ _ x => x
end
/-- a list that stands in the base -/
structure InpL (h₀ : Heap) (li : Addr) (vs : Array Value) : Prop where
  is : h₀.IsList li vs
theorem InpL.now {h₀ h : Heap} {L li : Addr} {vs : Array Value} {m : Str → Option Value} (I : InpL h₀ li vs) (F : Fr h₀ L h m) : h.IsList li vs := by
  obtain ⟨o, e, r⟩ := I.is
  exact ⟨o, F.keep _ _ e, r⟩
section
variable {prog : Program} {w : World} {A : Around} {E : Value → Shared → Prop} {s : Shared}
theorem sub_inp {value slice : Expr} {h₀ : Heap} {L li : Addr} {vs : Array Value} {m : Str → Option Value} {k : Int} {u : Tok} {Q : Value → Shared → Prop} (F : Fr h₀ L s.heap m) (I : InpL h₀ li vs)
    (h : wpAny (model prog w) A (getItem (.ref li) (.int k u)) Q E s)
    (hs : subscripted slice false (.ref li) (.int k u) = operate [.ref li, .int k u] (getItem (.ref li) (.int k u)) := by with_unfolding_all rfl) (hg : ∀ r, letTemporaryGo value (.ref li) r = pure () := by intro _; with_unfolding_all rfl) :
    wpAny (model prog w) A (subscriptTail value slice (.ref li) (.int k u)) Q E s :=
  subscriptTail_builtin (I.now F).typeIs slot_list_getitem.lookup h hs hg
theorem getItem_inp {h₀ : Heap} {L li : Addr} {vs : Array Value} {m : Str → Option Value} {z : Int} {t : Tok} {x : Value} {Q : Value → Shared → Prop} (F : Fr h₀ L s.heap m) (I : InpL h₀ li vs) (k : Nat) (hz : z = k) (hk : k < 1000000) (hx : vs[k]? = some x)
    (h : Q x s) : wpAny (model prog w) A (getItem (.ref li) (.int z t)) Q E s := by
  subst hz
  exact wpAny_getItem_list (I.now F) (by omega) (by omega) (by simpa using hx) h
end
end

section
open PySem PySem.W PyProof.Rows PySem.Calls
set_option maxHeartbeats 1000000
theorem mro_obj : mroOf (.type "object") = pure [.type "object"] := by kernel_rfl
theorem lookup_obj_new : typeLookup (.type "object") "__new__" = pure (some (.builtin "object.__new__")) := by rw [typeLookup_type, builtinLookup_eq_fast]; kernel_rfl
theorem called_obj : TypeCalled "object" "object.__new__" "object.__init__" :=
  ⟨by decide +kernel, by decide +kernel, ⟨_, _, mro_obj⟩, madeBy_type mro_obj lookup_obj_new (by decide +kernel), by decide +kernel, by rw [isSubtype_type]; kernel_rfl, F.slot_object_init⟩
theorem typeCall_obj : checkTypeCall "object" ⟨[], []⟩ = pure () := by kernel_rfl
theorem newCall_obj : checkBuiltinCall "object.__new__" ⟨[.type "object"], []⟩ = pure () := by kernel_rfl
theorem entry_obj_new : entryFor table "object.__new__" = some Builtin.«object.__new__» := entryFor_of_tree (by kernel_rfl)
theorem plain_obj_new : plainId "object.__new__" = true := by decide +kernel
abbrev objObj : Obj := { cls := .type "object", dict := none, data := .plain }
section
variable {prog : Program} {w : World} {A : Around} {E : Value → Shared → Prop} {s : Shared}
theorem code_obj_new {Q₁ : Value → Shared → Prop} (h : Q₁ (.ref s.heap.objs.size) { s with heap := s.heap.push objObj }) :
    codeAny (model prog w) A (.call (.builtin "object.__new__") ⟨[.type "object"], []⟩) (wants Q₁ E) s := by
  refine codeAny_of_tree ?_
  show wpAny _ A.in1 (do checkBuiltinCall "object.__new__" ⟨[.type "object"], []⟩; again (.builtin "object.__new__" ⟨[.type "object"], []⟩)) _ _ s
  refine wpAny_bind (wpAny_of_eq newCall_obj (wpAny_pure ⟨plainId_quiet plain_obj_new _, codeAny_builtin entry_obj_new ?_⟩))
  rw [Around.under_plainId plain_obj_new _]
  unfold Builtin.«object.__new__»
  show wpAny _ _ (isType (.type "object") >>= _) _ _ _
  refine wpAny_bind (wpAny_of_eq (a := true) rfl ?_)
  simp only [Bool.not_true, Bool.false_eq_true, if_false]
  have e1 : ((Manifest.find? "object").elim false (·.mro.any fun t => (Manifest.find? t).elim false (·.noNew))) = false := by decide +kernel
  rw [if_neg (by rw [e1]; simp)]
  refine wpAny_bind (m := Bind.madeHere "object.__new__" (.type "object")) (wpAny_of_eq (a := ()) (by kernel_rfl) ?_)
  rw [if_neg (by simp)]
  show wpAny _ _ ((if typeHasDict (.type "object") then some <$> alloc { cls := .type "dict", data := .dict #[] } else pure none) >>= _) _ _ _
  rw [if_neg (by decide +kernel)]
  refine wpAny_bind (wpAny_pure ?_)
  show wpAny _ _ (newObj (.type "object") .plain none >>= _) _ _ _
  simp only [newObj]
  refine wpAny_bind (wpAny_bind (wpAny_alloc (wpAny_pure ?_)))
  rw [if_neg (by decide +kernel)]
  exact wpAny_pure h
theorem call_obj {Q : Value → Shared → Prop} (h : Q (.ref s.heap.objs.size) { s with heap := s.heap.push objObj }) : wpAny (model prog w) A (call (.type "object") []) Q E s := by
  refine callType_codes (Q₁ := fun obj s₁ => s₁.TypeIs obj "object" ∧ Q obj s₁) called_obj typeCall_obj F.entry_object_init
    (code_obj_new ⟨⟨_, Heap.get?_push_size _ rfl, rfl⟩, h⟩) fun obj s₁ h₁ => ?_
  refine ⟨h₁.1, F.args_object_init_1 obj, ?_⟩
  unfold Builtin.«object.__init__»
  exact wpAny_pure ⟨rfl, h₁.2⟩
theorem newObject {h₀ : Heap} {L : Addr} {m : Str → Option Value} {news : List (Addr × Obj)} {Q : Value → Shared → Prop} (F : Fr h₀ L s.heap m) (N : News h₀ L s.heap news)
    (h : ∀ x h', Fr h₀ L h' m → News h₀ L h' ((x, objObj) :: news) → (∀ q ∈ news, q.1 ≠ x) → Q (.ref x) { s with heap := h' }) : wpAny (model prog w) A (call (.type "object") []) Q E s :=
  call_obj (h _ _ (F.push _) (N.push F _) fun q hq e => Nat.lt_irrefl _ (e ▸ Heap.lt_size (N q hq).1))
end
end

local macro_rules | `(tactic| walk_at "compareOp IsNot str ref") => `(tactic| refine wpAny_isNot_other (by rfl) (by intro x; cases x) ?_)
local macro_rules | `(tactic| walk_at "compareOp Is str ref") => `(tactic| refine wpAny_is_other (by rfl) (by intro x; cases x) ?_)
local macro_rules | `(tactic| walk_at "subscriptTail") => `(tactic| ((with_reducible show wpAny _ _ (subscriptTail _ _ (Value.ref _) (Value.int _ _)) _ _ _); (refine' sub_list ?aN ?aM ?_); (case aN => with_reducible assumption); (case aM => k_mem)))
local macro_rules | `(tactic| walk_at "subscriptTail") => `(tactic| ((with_reducible show wpAny _ _ (subscriptTail _ _ (Value.ref _) (Value.int _ _)) _ _ _); (refine' sub_inp ?aF ?aI ?_); (case aF => with_reducible assumption); (case aI => with_reducible assumption)))
local macro_rules | `(tactic| walk_at "callWith ref") => `(tactic| ((refine' callWith_app1 ?aN ?aM ?_); (case aN => with_reducible assumption); (case aM => k_mem)))
local macro_rules | `(tactic| walk_at "AppAt") => `(tactic| ((refine' appAt_of ?aN ?aM); (case aN => with_reducible assumption); (case aM => k_mem)))

section
open PySem PySem.W PyProof.Rows PySem.Calls
set_option maxHeartbeats 8000000
local macro_rules | `(tactic| walk_at "stop1") => `(tactic| walk_at "stD")
local macro_rules | `(tactic| walk_at "joinParts") => `(tactic| (k_here; (first | with_reducible refine joinParts_nilE ?_ | skip); (with_reducible refine joinParts_nil (hsz := ?hsz) ?_); (case hsz => first | size_fits | k_dflt kt_le)))
/-- entering a def whose code table stands off the base -/
theorem enterT {prog : Program} {w : World} {A : Around} {s : Shared} {K : Frag} {p : Program} {loose : List Str} {mean : ExcName → Option Value} {mg mb : Str → Option Value} {R : Value → Shared → Prop}
    {name qual : Str} {params : Arguments} {body : List Stmt} {scope : Scope} {dV kV doc pm cdv ct oc : Value} {an od : Option Addr} {osl : Array (Option Value)} {f : Addr} {pos : List Value} {binds : List (Str × Value)} {P : Addr} {ps : Array Value}
    (X : K.In (hideAll s.heap [P])) (T : Top p loose mean mg mb (hideAll s.heap [P])) (hP : s.heap.get? P = some (tabObj ps)) (hroom : A.depth < recursionLimit)
    (ho : K.lookup f = some ⟨oc, od, .func (fnOf name qual params body scope dV kV doc pm an cdv ct), osl⟩) (hcd : codeIn K cdv qual = true)
    (hbind : BindsTo s (fnOf name qual params body scope dV kV doc pm an cdv ct) ⟨pos, []⟩ binds) (hloc : ∀ y ∈ binds, scope.names.lookup y.1 = some .local)
    (h : ∀ L h₁, Fr (hideAll s.heap [P]) L h₁ (fun y => binds.reverse.lookup y) → News (hideAll s.heap [P]) L h₁ [(P, tabObj ps)] →
      wpAny (model prog w) (A.deeper (envOf qual scope L f cdv)) (execs body (envOf qual scope L f cdv))
        (fun fl s' => R (match fl with | .ret v => v | _ => .none) s') (fun _ _ => False)
        { s with heap := h₁, toks := s.toks + binds.length })
    (hco : scope.isCoroutine = false) (hgen : scope.isGenerator = false) (hk : scope.kind = .function)
    (hcell : ∀ x ∈ scope.names, x.2 ≠ .cell) : wpAny (model prog w) A (call (.ref f) pos []) R (fun _ _ => False) s := by
  have up : ∀ b o, (hideAll s.heap [P]).get? b = some o → s.heap.get? b = some o := fun b o e => of_hideAll _ e
  refine wpAny_call ?_
  refine codeAny_call_def (fd := fnOf name qual params body scope dV kV doc pm an cdv ct) (body := body) (binds := binds) hroom (up _ _ (X _ _ ho)) rfl (T.nolimit.keeps up) (codeRec_of (X.keeps up) hcd) rfl hbind hcell hloc (fun h₁ hns hk₁ => ?_) hco hgen hk
  refine wpAny_mono (h s.heap.objs.size h₁ ⟨hns, fun b o e => hk₁ b o (up b o e), Nat.le_of_eq (hideAll_size _ _)⟩ ?_) (fun fl s' x => x) fun _ _ x => x.elim
  intro q hq
  rw [List.mem_singleton] at hq
  subst hq
  exact ⟨hk₁ _ _ hP, Nat.ne_of_lt (Heap.lt_size hP), hideAll_none _ (.head _)⟩
/-- the pieces of a pattern -/
inductive Pt where
  | star | ques | lit (c : Nat) | cls (B : List Nat)
def clsB : List (List Nat) := [[33, 13, 10], [33, 13, 10, 46], [13, 10, 46, 97]]
def Pt.txt : Pt → List Nat
  | .star => [42] | .ques => [63] | .lit c => [c] | .cls B => 91 :: (B ++ [93])
def Pt.Ok : Pt → Prop
  | .star => True | .ques => True | .lit c => c ≠ 42 ∧ c ≠ 63 ∧ c ≠ 91 | .cls B => B ∈ clsB
def Pt.out : Pt → List Nat
  | .star => [] | .ques => [46] | .lit c => escC c | .cls B => 91 :: ((if B.head? = some 33 then 94 :: B.tail else B) ++ [93])
/-- what res holds behind the pieces: none for the star's object -/
def addP (acc : List (Option (List Nat))) : Pt → List (Option (List Nat))
  | .star => if acc.getLast? = some none then acc else acc ++ [none]
  | p => acc ++ [some p.out]
def transL (ps : List Pt) : List (Option (List Nat)) := ps.foldl addP []
inductive OutAre (star : Addr) : List Value → List (Option (List Nat)) → Prop
  | nil : OutAre star [] []
  | star {vs xs} : OutAre star vs xs → OutAre star (.ref star :: vs) (none :: xs)
  | txt {vs xs x t} : OutAre star vs xs → OutAre star (.str (S x) t :: vs) (some x :: xs)
theorem OutAre.length {star : Addr} {vs : List Value} {xs : List (Option (List Nat))} (h : OutAre star vs xs) : vs.length = xs.length := by
  induction h with
  | nil => rfl
  | star _ ih => simp [ih]
  | txt _ ih => simp [ih]
theorem OutAre.snoc_star {star : Addr} {vs : List Value} {xs : List (Option (List Nat))} (h : OutAre star vs xs) : OutAre star (vs ++ [.ref star]) (xs ++ [none]) := by
  induction h with
  | nil => exact .star .nil
  | star _ ih => exact .star ih
  | txt _ ih => exact .txt ih
theorem OutAre.snoc_txt {star : Addr} {vs : List Value} {xs : List (Option (List Nat))} {x : List Nat} {t : Tok} (h : OutAre star vs xs) : OutAre star (vs ++ [.str (S x) t]) (xs ++ [some x]) := by
  induction h with
  | nil => exact .txt .nil
  | star _ ih => exact .star ih
  | txt _ ih => exact .txt ih
theorem OutAre.get {star : Addr} {vs : List Value} {xs : List (Option (List Nat))} (h : OutAre star vs xs) : ∀ k : Nat, match xs[k]? with
    | none => vs[k]? = none
    | some none => vs[k]? = some (.ref star)
    | some (some x) => ∃ t, vs[k]? = some (.str (S x) t) := by
  induction h with
  | nil => intro k; simp
  | star _ ih => intro k; cases k with
    | zero => simp
    | succ k => simpa using ih k
  | txt _ ih => intro k; cases k with
    | zero => simp
    | succ k => simpa using ih k
theorem txt_pos (ps : List Pt) : ps.length ≤ (ps.flatMap Pt.txt).length := by
  induction ps with
  | nil => simp
  | cons p r ih =>
    have h1 : 1 ≤ p.txt.length := by cases p <;> simp [Pt.txt]
    rw [List.flatMap_cons, List.length_append, List.length_cons]; omega
theorem addP_len (acc : List (Option (List Nat))) (p : Pt) : (addP acc p).length ≤ acc.length + 1 := by
  cases p <;> simp [addP]
  split <;> simp
theorem transL_len (ps : List Pt) : (transL ps).length ≤ ps.length := by
  unfold transL
  have : ∀ (ps : List Pt) (acc : List (Option (List Nat))), (ps.foldl addP acc).length ≤ acc.length + ps.length := by
    intro ps
    induction ps with
    | nil => intro acc; simp
    | cons p r ih => intro acc; have h1 := ih (addP acc p); have h2 := addP_len acc p; simp only [List.foldl_cons, List.length_cons]; omega
  simpa using this ps []
theorem transL_snoc (ps : List Pt) (p : Pt) : transL (ps ++ [p]) = addP (transL ps) p := by
  unfold transL; rw [List.foldl_append]; rfl
inductive TrJ (pts : List Pt) (pat : List Nat) (tk₀ tkq : Tok) (star : Addr) (k : Nat) (m : Str → Option Value) (news : List (Addr × Obj)) : Prop
  | mk (l u : Addr) (dn rs : List Pt) (vs : Array Value) (n : Nat) (ps : Array Value) (t1 t2 : Tok) (e1 : pts = dn ++ rs) (e2 : k = rs.length) (e3 : LamTab ps) (e4 : OutAre star vs.toList (transL dn)) (e5 : (@Ne Nat 57 l ∧ @Ne Nat 57 u ∧ @Ne Nat l u)) (e6 : m (Str.ofString "pat") = some (.str (S pat) tk₀)) (e7 : m (Str.ofString "STAR") = some (.ref star)) (e8 : m (Str.ofString "QUESTION_MARK") = some (.str (S [46]) tkq)) (e9 : m (Str.ofString "res") = some (.ref l)) (e10 : m (Str.ofString "add") = some (.ref u)) (e11 : m (Str.ofString "i") = some (.int (dn.flatMap Pt.txt).length t1)) (e12 : m (Str.ofString "n") = some (.int (S pat).length t2)) (e13 : news = [(l, W.listOf vs n), (u, appOf l), (57, tabObj ps)])
theorem news_sub {h₀ h : Heap} {L : Addr} {news news' : List (Addr × Obj)} (N : News h₀ L h news) (hs : ∀ q ∈ news', q ∈ news) : News h₀ L h news' := fun q hq => N q (hs q hq)
theorem arr_cases (vs : Array Value) : vs = #[] ∨ ∃ (ws : Array Value) (v : Value), vs = ws.push v := by
  rcases List.eq_nil_or_concat vs.toList with h | ⟨l, a, h⟩
  · exact .inl (by simpa using h)
  · refine .inr ⟨l.toArray, a, ?_⟩
    apply Array.ext'
    simpa using h
theorem OutAre.last {star : Addr} {vs : List Value} {v : Value} {xs : List (Option (List Nat))} (h : OutAre star (vs ++ [v]) xs) :
    (v = .ref star ∧ xs.getLast? = some none) ∨ (∃ x t, v = .str (S x) t ∧ xs.getLast? = some (some x)) := by
  generalize hz : vs ++ [v] = z at h
  have hl := h.length
  have hk := h.get vs.length
  have hg : xs.getLast? = xs[vs.length]? := by
    rw [List.getLast?_eq_getElem?, ← hl, ← hz]; simp
  have hlt : vs.length < xs.length := by rw [← hl, ← hz]; simp
  have hv : z[vs.length]? = some v := by rw [← hz]; simp
  rw [hg]
  rw [hv] at hk
  rw [List.getElem?_eq_getElem hlt] at hk ⊢
  revert hk
  cases xs[vs.length] with
  | none => intro hk; exact .inl ⟨by simpa using hk, rfl⟩
  | some x => rintro ⟨t, hk⟩; exact .inr ⟨x, t, by simpa using hk, rfl⟩
theorem trTurn {h₀ h' : Heap} {L : Addr} {pts dn rs : List Pt} {q : Pt} {pat : List Nat} {tk₀ tkq : Tok} {star l u : Addr} {Q : Flow → Shared → Prop} {s₁ s₂ : Shared} {tk' : Nat} {m : Str → Option Value} {news : List (Addr × Obj)} {vs : Array Value} {n : Nat} {ps : Array Value} {t1 t2 : Tok} {z : Int}
    (e : s₂ = { s₁ with heap := h', toks := tk' }) (F : Fr h₀ L h' m) (N : News h₀ L h' news) (hsp : pts = dn ++ q :: rs) (hps : LamTab ps) (hne : @Ne Nat 57 l ∧ @Ne Nat 57 u ∧ @Ne Nat l u)
    (hN : (l, W.listOf vs n) ∈ news ∧ (u, appOf l) ∈ news ∧ (57, tabObj ps) ∈ news) (hz : z = ((dn ++ [q]).flatMap Pt.txt).length)
    (h1 : m (Str.ofString "pat") = some (.str (S pat) tk₀)) (h2 : m (Str.ofString "STAR") = some (.ref star)) (h3 : m (Str.ofString "QUESTION_MARK") = some (.str (S [46]) tkq)) (h4 : m (Str.ofString "res") = some (.ref l)) (h5 : m (Str.ofString "add") = some (.ref u))
    (h6 : m (Str.ofString "i") = some (.int z t1)) (h7 : m (Str.ofString "n") = some (.int (S pat).length t2)) (hO : OutAre star vs.toList (addP (transL dn) q)) :
    WhileStep2 h₀ L s₁ (TrJ pts pat tk₀ tkq star) Q (q :: rs).length .next s₂ := by
  subst e hz
  refine ⟨h', tk', m, [(l, W.listOf vs n), (u, appOf l), (57, tabObj ps)], rs.length, rfl, F, ?_, by simp, l, u, dn ++ [q], rs, vs, n, ps, t1, t2, by simp [hsp], rfl, hps, by rw [transL_snoc]; exact hO, hne, h1, h2, h3, h4, h5, h6, h7, rfl⟩
  intro q hq
  simp only [List.mem_cons, List.not_mem_nil, or_false] at hq
  rcases hq with rfl | rfl | rfl
  · exact N _ hN.1
  · exact N _ hN.2.1
  · exact N _ hN.2.2
inductive InJ (pat : List Nat) (tk₀ tkq : Tok) (star l u : Addr) (i e : Nat) (nw : List (Addr × Obj)) (k : Nat) (m : Str → Option Value) (news : List (Addr × Obj)) : Prop
  | mk (z zi : Int) (t1 t2 t4 : Tok) (e1 : m (Str.ofString "pat") = some (.str (S pat) tk₀)) (e2 : m (Str.ofString "STAR") = some (.ref star)) (e3 : m (Str.ofString "QUESTION_MARK") = some (.str (S [46]) tkq)) (e4 : m (Str.ofString "res") = some (.ref l)) (e5 : m (Str.ofString "add") = some (.ref u)) (e6 : m (Str.ofString "i") = some (.int zi t1)) (e7 : m (Str.ofString "n") = some (.int (S pat).length t2)) (e8 : m (Str.ofString "j") = some (.int z t4)) (e9 : zi = (i : Nat)) (e10 : (∃ zn : Nat, z = zn ∧ zn + k = e)) (e11 : k + i ≤ e) (e12 : news = nw)
theorem pat36 {w : World} {h : Heap} (X : (hd.heap_39 w.params).In h) : PatAt1 h 36 code3 := by
  have h1 := X 36 _ (by k_is)
  have h2 := X 35 _ (by k_is)
  exact ⟨_, _, _, _, 35, _, h1, rfl, rfl, rfl, _, 0, h2, by simp⟩
inductive CutJ (s : Shared) (h₀ : Heap) (L : Addr) (pat : List Nat) (tk₀ tkq : Tok) (star l u : Addr) (i : Nat) (nw : List (Addr × Obj)) (s' : Shared) : Prop
  | mk (h : Heap) (tk : Nat) (m : Str → Option Value) (t2 t3 t4 : Tok) (zn : Nat) (e1 : s' = { s with heap := h, toks := tk }) (e2 : (i + 1 ≤ zn ∧ zn ≤ i + 2)) (e3 : Fr h₀ L h (kstB m [(Str.ofString "pat", .str (S pat) tk₀), (Str.ofString "STAR", .ref star), (Str.ofString "QUESTION_MARK", .str (S [46]) tkq), (Str.ofString "res", .ref l), (Str.ofString "add", .ref u), (Str.ofString "i", .int ((i + 1 : Nat) : Int) t3), (Str.ofString "n", .int (S pat).length t2), (Str.ofString "j", .int ((zn : Nat) : Int) t4)])) (e4 : News h₀ L h nw)
theorem cutJ_intro {s s' : Shared} {h₀ h : Heap} {L : Addr} {pat : List Nat} {tk tk₀ tkq t2 t3 t4 : Tok} {star l u : Addr} {i : Nat} {nw : List (Addr × Obj)} {m : Str → Option Value} {zi z : Int} (zn : Nat) (e : s' = { s with heap := h, toks := tk }) (F : Fr h₀ L h m) (N : News h₀ L h nw)
    (h1 : m (Str.ofString "pat") = some (.str (S pat) tk₀)) (h2 : m (Str.ofString "STAR") = some (.ref star)) (h3 : m (Str.ofString "QUESTION_MARK") = some (.str (S [46]) tkq)) (h4 : m (Str.ofString "res") = some (.ref l)) (h5 : m (Str.ofString "add") = some (.ref u))
    (h6 : m (Str.ofString "i") = some (.int zi t3)) (h7 : m (Str.ofString "n") = some (.int (S pat).length t2)) (h8 : m (Str.ofString "j") = some (.int z t4)) (hzi : zi = ((i + 1 : Nat) : Int)) (hz : z = (zn : Nat)) (hb : i + 1 ≤ zn ∧ zn ≤ i + 2) :
    CutJ s h₀ L pat tk₀ tkq star l u i nw s' := by
  subst hzi hz
  exact ⟨h, tk, m, t2, t3, t4, zn, e, hb, frC F _ (by (repeat refine .cons (by assumption) ?_); exact .nil), N⟩
@[elab_as_elim] theorem cls_cases {P : List Nat → Prop} {B : List Nat} (hB : B ∈ clsB) (h1 : P [33, 13, 10]) (h2 : P [33, 13, 10, 46]) (h3 : P [13, 10, 46, 97]) : P B := by
  simp only [clsB, List.mem_cons, List.not_mem_nil, or_false] at hB
  rcases hB with rfl | rfl | rfl
  · exact h1
  · exact h2
  · exact h3
theorem cls_no {B : List Nat} (hB : B ∈ clsB) : ∀ k, k < B.length → B.getD k 0 ≠ 93 := by
  refine cls_cases hB ?_ ?_ ?_ <;> decide
theorem cls_len {B : List Nat} (hB : B ∈ clsB) : 3 ≤ B.length ∧ B.length ≤ 4 := by
  refine cls_cases hB ?_ ?_ ?_ <;> decide
theorem cls_45 {B : List Nat} (hB : B ∈ clsB) : Txt.contains (S B) (Str.ofString "-") = false := by
  rw [show Str.ofString "-" = S [45] by decide +kernel, S_contains]
  refine cls_cases hB ?_ ?_ ?_ <;> decide
theorem cls_any {B : List Nat} (hB : B ∈ clsB) : ([Str.ofString "^", Str.ofString "["].any fun x => x == Txt.item (S B) 0) = false := by
  have h := cls_len hB
  have hs9 := S_item (l := B) (k := 0) (by omega)
  rw [show ((0 : Nat) : Int) = 0 from rfl] at hs9
  rw [hs9]
  refine cls_cases hB ?_ ?_ ?_ <;> decide
theorem cls_val1 {B : List Nat} (hB : B ∈ clsB) (hs1 : (Txt.item (S B) 0 == Str.ofString "!") = true) : Str.empty ++ Str.ofString "[" ++ (Str.ofString "^" ++ Txt.slice (S B) (some 1) none) ++ Str.ofString "]" = S (Pt.cls B).out := by
  have h := cls_len hB
  have hs9 := S_item (l := B) (k := 0) (by omega)
  rw [show ((0 : Nat) : Int) = 0 from rfl] at hs9
  have e5 := S_slice_from (l := B) (i := 1) (by omega)
  rw [show ((1 : Nat) : Int) = 1 from rfl] at e5
  rw [hs9, show Str.ofString "!" = S [33] by decide +kernel, S_beq] at hs1
  rw [e5, show Str.empty = S [] from rfl, show Str.ofString "[" = S [91] by decide +kernel, show Str.ofString "]" = S [93] by decide +kernel, show Str.ofString "^" = S [94] by decide +kernel, S_add, S_add, S_add, S_add]
  simp only [clsB, List.mem_cons, List.not_mem_nil, or_false] at hB
  rcases hB with rfl | rfl | rfl <;> first | rfl | (exact absurd hs1 (by decide))
theorem cls_val2 {B : List Nat} (hB : B ∈ clsB) (hs1 : (Txt.item (S B) 0 == Str.ofString "!") = false) : Str.empty ++ Str.ofString "[" ++ S B ++ Str.ofString "]" = S (Pt.cls B).out := by
  have h := cls_len hB
  have hs9 := S_item (l := B) (k := 0) (by omega)
  rw [show ((0 : Nat) : Int) = 0 from rfl] at hs9
  rw [hs9, show Str.ofString "!" = S [33] by decide +kernel, S_beq] at hs1
  rw [show Str.empty = S [] from rfl, show Str.ofString "[" = S [91] by decide +kernel, show Str.ofString "]" = S [93] by decide +kernel, S_add, S_add, S_add]
  simp only [clsB, List.mem_cons, List.not_mem_nil, or_false] at hB
  rcases hB with rfl | rfl | rfl <;> first | rfl | (exact absurd hs1 (by decide))
theorem pat_at {pat B r : List Nat} {i : Nat} (hdr2 : pat.drop (i + 1) = B ++ 93 :: r) (hl : i + 1 + B.length + 1 ≤ pat.length) (k : Nat) (hk : k < B.length) : Txt.item (S pat) ((i + 1 + k : Nat) : Int) = S [B.getD k 0] := by
  rw [S_item (by omega)]
  have := congrArg (fun z => z[k]?) hdr2
  simp only [List.getElem?_drop, List.getElem?_append_left hk] at this
  simp [List.getD_eq_getElem?_getD, this]
theorem pat_end {pat B r : List Nat} {i : Nat} (hdr2 : pat.drop (i + 1) = B ++ 93 :: r) (hl : i + 1 + B.length + 1 ≤ pat.length) : Txt.item (S pat) ((i + 1 + B.length : Nat) : Int) = S [93] := by
  rw [S_item (by omega)]
  have := congrArg (fun z => z[B.length]?) hdr2
  simp only [List.getElem?_drop, List.getElem?_append_right (Nat.le_refl _), Nat.sub_self, List.getElem?_cons_zero] at this
  simp [List.getD_eq_getElem?_getD, this]
theorem pat_cut {pat B r : List Nat} {i : Nat} (hdr2 : pat.drop (i + 1) = B ++ 93 :: r) (hl : i + 1 + B.length + 1 ≤ pat.length) : Txt.slice (S pat) (some ((i + 1 : Nat) : Int)) (some ((i + 1 + B.length : Nat) : Int)) = S B := by
  rw [S_slice (by omega) (by omega), hdr2, show i + 1 + B.length - (i + 1) = B.length by omega]
  simp
theorem pat_in {pat B r : List Nat} {i : Nat} (hdr2 : pat.drop (i + 1) = B ++ 93 :: r) (hl : i + 1 + B.length + 1 ≤ pat.length) (hB : B ∈ clsB) (zn : Nat) (ha : i + 1 ≤ zn) (hb : zn < i + 1 + B.length) : (Txt.item (S pat) (zn : Int) == S [93]) = false := by
  have e3 := pat_at hdr2 hl (zn - (i + 1)) (by omega)
  rw [show i + 1 + (zn - (i + 1)) = zn by omega] at e3
  rw [e3, S_beq]
  simpa using cls_no hB (zn - (i + 1)) (by omega)
section
variable {prog : Program} {w : World} {A : Around} {s : Shared} {p : Program} {loose : List Str} {mean : ExcName → Option Value} {mg mb : Str → Option Value} {R : Value → Shared → Prop}
theorem trans_spec {pts : List Pt} {pat : List Nat} {tk₀ tkq : Tok} {star : Addr} (X : (hd.heap_39 w.params).In (hideAll s.heap [57])) (T : Top p loose mean mg mb (hideAll s.heap [57])) (hP : s.heap.get? 57 = some (tabObj #[])) (C : CodeHd (hideAll s.heap [57]) 61 57)
    (hd : A.depth < 890) (hh : A.handled = none) (hm : pat.length ≤ 1000) (hpat : pat = pts.flatMap Pt.txt) (hok : ∀ q ∈ pts, q.Ok)
    (hR : ∀ l vs n ps h' tk', LamTab ps → h'.get? 57 = some (tabObj ps) → (hideAll s.heap [57]).StaysIn h' → @Ne Nat 57 l → NewIn (hideAll s.heap [57]) h' [(l, W.listOf vs n)] → OutAre star vs.toList (transL pts) → R (.ref l) { s with heap := h', toks := tk' }) :
    wpAny (model prog w) A (call (.ref 62) [.str (S pat) tk₀, .ref star, .str (S [46]) tkq] []) R (fun _ _ => False) s := by
  obtain ⟨A1, A2, A3, A4, A5⟩ := A
  simp only at hd hh
  subst hh
  have hroom : A2 < recursionLimit := by unfold recursionLimit; omega
  have hmS : (S pat).length ≤ 1000 := by rw [S_len]; exact hm
  refine' enterT (binds := [(Str.ofString "pat", .str (S pat) tk₀), (Str.ofString "STAR", .ref star), (Str.ofString "QUESTION_MARK", .str (S [46]) tkq)]) X T hP hroom ?k6 ?k7 ?k9 ?kB ?_ ?c2 ?c3 ?c4 ?c5
  (( (case k6 => k_is); (case k7 => k_is); (case k9 => exact BindsTo.of_eq rfl); (case c5 => decide); (case kB => exact locs rfl); (case c2 => exact rfl); (case c3 => exact rfl); (case c4 => exact rfl)))
  intro L h₁ F N
  replace F := frC F [(Str.ofString "pat", .str (S pat) tk₀), (Str.ofString "STAR", .ref star), (Str.ofString "QUESTION_MARK", .str (S [46]) tkq)] (by (repeat refine .cons (by rfl) ?_); exact .nil)
  try dsimp only
  try k_fold
  walk_at "go"
  with_reducible rename Fr _ _ _ _ => F1
  with_reducible rename News _ _ _ _ => N1
  rename_i l0 hx l1 hA hB hC
  refine getAppend F1 N1 (.head _) fun u h2 F2 N2 hn2 => ?_
  walk_at "go"
  with_reducible rename Fr _ _ _ _ => F1
  with_reducible rename News _ _ _ _ => N1
  with_reducible rename _ ∧ _ => l2
  refine While_inv2 (n₀ := pts.length) (L := L) (TrJ pts pat tk₀ tkq star) F1 (news := [(l0, W.listOf #[] 0), (u, appOf l0), (57, tabObj #[])]) (news_sub N1 ?_) ?_ ?_
  · intro q hq
    simp only [List.mem_cons, List.not_mem_nil, or_false] at hq ⊢
    rcases hq with rfl | rfl | rfl <;> simp
  · refine ⟨l0, u, [], pts, #[], 0, #[], _, _, rfl, rfl, .inl rfl, .nil, ⟨Nat.ne_of_lt l1, hn2 _ (.tail _ (.head _)), hn2 _ (.head _)⟩, rfl, rfl, rfl, rfl, rfl, rfl, rfl, rfl⟩
  · clear F1 N1 l2
    rintro k m news h tk Fk Nk ⟨l, u, dn, rs, vs, n, ps, t1, t2, hsp, rfl, hps, hO, hne, hm1, hm2, hm3, hm4, hm5, hm6, hm7, rfl⟩
    replace Fk := frC Fk [(Str.ofString "pat", .str (S pat) tk₀), (Str.ofString "STAR", .ref star), (Str.ofString "QUESTION_MARK", .str (S [46]) tkq), (Str.ofString "res", .ref l), (Str.ofString "add", .ref u), (Str.ofString "i", .int (dn.flatMap Pt.txt).length t1), (Str.ofString "n", .int (S pat).length t2)] (by (repeat refine .cons (by assumption) ?_); exact .nil)
    have hlen : pat.length = (dn.flatMap Pt.txt).length + (rs.flatMap Pt.txt).length := by rw [hpat, hsp]; simp
    have hdr : pat.drop (dn.flatMap Pt.txt).length = rs.flatMap Pt.txt := by rw [hpat, hsp]; simp
    generalize hi : (dn.flatMap Pt.txt).length = i at *
    have hvl : vs.size ≤ 1000 := by
      have h6 := hO.length
      have h7 := transL_len dn
      have h8 := txt_pos dn
      simp only [Array.length_toList] at h6
      omega
    cases rs with
    | nil =>
      have hge : ¬ ((i : Int) < (S pat).length) := by rw [S_len]; simp at hlen; omega
      have heq : (i : Int) = (S pat).length := by rw [S_len]; simp at hlen; omega
      walk_at "go"
      refine hR _ _ _ _ _ _ hps (Nk _ (.tail _ (.tail _ (.head _)))).1 Fk.keep hne.1 (.of (news_sub Nk (by intro q hq; rw [List.mem_singleton] at hq; subst hq; exact .head _))) ?_
      rw [hsp, List.append_nil]; exact hO
    | cons q rs =>
      have hqok : q.Ok := hok q (by rw [hsp]; simp)
      have hcI : (i : Int) < (S pat).length := by
        have := txt_pos (q :: rs)
        simp only [List.length_cons] at this
        rw [S_len]; omega
      have hitem : Txt.item (S pat) (i : Int) = S [(q.txt ++ rs.flatMap Pt.txt).headD 0] := by
        rw [S_item (by rw [S_len] at hcI; omega)]
        have := congrArg List.head? hdr
        simp only [List.head?_drop, List.flatMap_cons] at this
        simp [List.getD_eq_getElem?_getD, this]
      cases q with
      | star =>
        have hc : Txt.item (S pat) (i : Int) = S [42] := hitem
        have h1 : (Txt.item (S pat) (i : Int) == Str.ofString "*") = true := by rw [hc]; decide
        have hfin : ((dn ++ [Pt.star]).flatMap Pt.txt).length = i + 1 := by simp [hi, Pt.txt]
        rcases arr_cases vs with rfl | ⟨ws, v, rfl⟩
        · walk_at "go"
          with_reducible rename Fr _ _ _ _ => F9
          with_reducible rename News _ _ _ _ => N9
          try dsimp only
          have hu9 : (u, appOf l) ∈ [(l, W.listOf #[] n), (u, appOf l), (57, tabObj ps)] := by k_mem
          refine callAppend (l := l) (its := #[]) (n := n) F9 N9 hu9 (by k_upd) (by first | omega | simp) fun h' F' N' => ?_
          walk_at "go"
          refine trTurn rfl F' N' hsp hps hne ⟨by k_mem, by k_mem, by k_mem⟩ (by rw [hfin]; rfl) rfl rfl rfl rfl rfl rfl rfl ?_
          have : transL dn = [] := by have h9 := hO.length; simpa using h9.symm
          rw [this]
          exact .star .nil
        · rw [Array.toList_push] at hO
          walk_at "go"
          with_reducible rename Fr _ _ _ _ => F9
          with_reducible rename News _ _ _ _ => N9
          try dsimp only
          refine getItem_last N9 (by k_mem) ?_
          rcases hO.last with ⟨rfl, hl9⟩ | ⟨x9, t9, rfl, hl9⟩
          · walk_at "go"
            refine trTurn rfl F9 N9 hsp hps hne ⟨by k_mem, by k_mem, by k_mem⟩ (by rw [hfin]; rfl) rfl rfl rfl rfl rfl rfl rfl ?_
            rw [Array.toList_push, addP, if_pos hl9]
            exact hO
          · walk_at "go"
            refine callAppend (l := l) (its := ws.push (.str (S x9) t9)) (n := n) F9 N9 (by k_mem) (by k_upd) (by omega) fun h' F' N' => ?_
            walk_at "go"
            refine trTurn rfl F' N' hsp hps hne ⟨by k_mem, by k_mem, by k_mem⟩ (by rw [hfin]; rfl) rfl rfl rfl rfl rfl rfl rfl ?_
            rw [addP, if_neg (by rw [hl9]; simp), Array.toList_push, Array.toList_push]
            exact hO.snoc_star
      | ques =>
        have hc : Txt.item (S pat) (i : Int) = S [63] := hitem
        have h1 : (Txt.item (S pat) (i : Int) == Str.ofString "*") = false := by rw [hc]; decide
        have h2 : (Txt.item (S pat) (i : Int) == Str.ofString "?") = true := by rw [hc]; decide
        have hfin : ((dn ++ [Pt.ques]).flatMap Pt.txt).length = i + 1 := by simp [hi, Pt.txt]
        walk_at "go"
        with_reducible rename Fr _ _ _ _ => F9
        with_reducible rename News _ _ _ _ => N9
        try dsimp only
        have hu9 : (u, appOf l) ∈ [(l, W.listOf vs n), (u, appOf l), (57, tabObj ps)] := by k_mem
        refine callAppend (l := l) (its := vs) (n := n) F9 N9 hu9 (by k_upd) (by first | omega | simp) fun h' F' N' => ?_
        walk_at "go"
        refine trTurn rfl F' N' hsp hps hne ⟨by k_mem, by k_mem, by k_mem⟩ (by rw [hfin]; rfl) rfl rfl rfl rfl rfl rfl rfl ?_
        rw [Array.toList_push]; exact hO.snoc_txt
      | lit c =>
        have hc : Txt.item (S pat) (i : Int) = S [c] := hitem
        have h1 : (Txt.item (S pat) (i : Int) == Str.ofString "*") = false := by rw [hc, show Str.ofString "*" = S [42] by decide +kernel, S_beq]; simpa using hqok.1
        have h2 : (Txt.item (S pat) (i : Int) == Str.ofString "?") = false := by rw [hc, show Str.ofString "?" = S [63] by decide +kernel, S_beq]; simpa using hqok.2.1
        have h3 : (Txt.item (S pat) (i : Int) == Str.ofString "[") = false := by rw [hc, show Str.ofString "[" = S [91] by decide +kernel, S_beq]; simpa using hqok.2.2
        have hfin : ((dn ++ [Pt.lit c]).flatMap Pt.txt).length = i + 1 := by simp [hi, Pt.txt]
        walk_at "go"
        with_reducible rename Fr _ _ _ _ => F9
        with_reducible rename News _ _ _ _ => N9
        rw [hc]
        refine esc_spec (X.keeps F9.keep) (T.keeps F9.keep) (by show A2 + 1 < 900; omega) rfl fun t h' tk' hst => ?_
        replace F9 := fr_stays F9 hst
        replace N9 := news_stays N9 hst
        walk_at "go"
        try dsimp only
        have hu9 : (u, appOf l) ∈ [(l, W.listOf vs n), (u, appOf l), (57, tabObj ps)] := by k_mem
        refine callAppend (l := l) (its := vs) (n := n) F9 N9 hu9 (by k_upd) (by first | omega | simp) fun h' F' N' => ?_
        walk_at "go"
        refine trTurn rfl F' N' hsp hps hne ⟨by k_mem, by k_mem, by k_mem⟩ (by rw [hfin]; rfl) rfl rfl rfl rfl rfl rfl rfl ?_
        rw [Array.toList_push]; exact hO.snoc_txt
      | cls B =>
        have hB : B ∈ clsB := hqok
        have hc : Txt.item (S pat) (i : Int) = S [91] := hitem
        have h1 : (Txt.item (S pat) (i : Int) == Str.ofString "*") = false := by rw [hc]; decide
        have h2 : (Txt.item (S pat) (i : Int) == Str.ofString "?") = false := by rw [hc]; decide
        have h3 : (Txt.item (S pat) (i : Int) == Str.ofString "[") = true := by rw [hc]; decide
        have hfin : ((dn ++ [Pt.cls B]).flatMap Pt.txt).length = i + 1 + B.length + 1 := by simp [hi, Pt.txt]; omega
        have hdr2 : pat.drop (i + 1) = B ++ 93 :: rs.flatMap Pt.txt := by
          rw [← List.drop_drop, hdr]; simp [Pt.txt]
        have hlen2 : i + 1 + B.length + 1 ≤ pat.length := by
          have := congrArg List.length hdr2
          simp at this; omega
        have hend := pat_end hdr2 hlen2
        have hBl := cls_len hB
        have hz1 : (i : Int) + 1 < (S pat).length := by rw [S_len]; omega
        have hz2 : (i : Int) + 1 + 1 < (S pat).length := by rw [S_len]; omega
        have e0 := pat_at hdr2 hlen2 0 (by omega)
        have e1 := pat_at hdr2 hlen2 1 (by omega)
        rw [show ((i + 1 + 0 : Nat) : Int) = (i : Int) + 1 by omega] at e0
        rw [show ((i + 1 + 1 : Nat) : Int) = (i : Int) + 1 + 1 by omega] at e1
        have l93 : Str.ofString "]" = S [93] := by decide +kernel
        have hn0 := cls_no hB 0 (by omega)
        have hn1 := cls_no hB 1 (by omega)
        have l91 : Str.ofString "[" = S [91] := by decide +kernel
        have lbang : Str.ofString "!" = S [33] := by decide +kernel
        have hm45 := cls_45 hB
        have hs0 : (S B == Str.ofString "!") = false := by
          rw [lbang, S_beq]
          simp only [decide_eq_false_iff_not]
          intro e; rw [e] at hBl; simp at hBl
        have hs9 := S_item (l := B) (k := 0) (by omega)
        rw [show ((0 : Nat) : Int) = 0 from rfl] at hs9
        have hs2 : 0 < (S B).length := by rw [S_len]; omega
        have hs3 : (S B).length ≤ 4 := by rw [S_len]; omega
        have hs4 : ((S B).length : Int) ≠ 0 := by omega
        have hs7 := cls_any hB
        have hsl := pat_cut hdr2 hlen2
        have hin := pat_in hdr2 hlen2 hB
        clear hdr hdr2 hitem hok hqok
        (repeat' ((fail_if_success (with_reducible refine sAnd ?_)); walk_at "go1"))
        with_reducible refine exec_cut (CutJ s (hideAll s.heap [57]) L pat tk₀ tkq star l u i [(l, W.listOf vs n), (u, appOf l), (57, tabObj ps)]) ?_ ?_
        · walk_at "go"
          · with_reducible rename Fr _ _ _ _ => F9
            with_reducible rename News _ _ _ _ => N9
            exact cutJ_intro (i + 2) rfl F9 N9 rfl rfl rfl rfl rfl rfl rfl rfl (by omega) (by omega) (by omega)
          · with_reducible rename Fr _ _ _ _ => F9
            with_reducible rename News _ _ _ _ => N9
            exact cutJ_intro (i + 1) rfl F9 N9 rfl rfl rfl rfl rfl rfl rfl rfl (by omega) (by omega) (by omega)
        · rintro s' ⟨h, tk, m, t2, t3, t4, zn, rfl, hzn, Fk, Nk⟩
          have hx2 : (Txt.item (S pat) (zn : Int) == Str.ofString "]") = false := by rw [l93]; exact hin zn (by omega) (by omega)
          have hzl : (zn : Int) < (S pat).length := by rw [S_len]; omega
          walk_at "go"
          with_reducible rename Fr _ _ _ _ => F9
          with_reducible rename News _ _ _ _ => N9
          refine While_inv2 (n₀ := i + 1 + B.length - zn) (L := L) (InJ pat tk₀ tkq star l u (i + 1) (i + 1 + B.length) [(l, W.listOf vs n), (u, appOf l), (57, tabObj ps)]) F9 N9 ?_ ?_
          · exact ⟨_, _, _, _, _, rfl, rfl, rfl, rfl, rfl, rfl, rfl, rfl, by omega, ⟨zn, by omega, by omega⟩, by omega, rfl⟩
          clear F9 N9 hx2 hzl
          rintro k m2 news2 h tk Fk Nk ⟨z, zi, t1, t2, t4, g1, g2, g3, g4, g5, g6, g7, g9, hzi, ⟨zn, hz, hzk⟩, hki, rfl⟩
          subst hzi hz
          replace Fk := frC Fk [(Str.ofString "pat", .str (S pat) tk₀), (Str.ofString "STAR", .ref star), (Str.ofString "QUESTION_MARK", .str (S [46]) tkq), (Str.ofString "res", .ref l), (Str.ofString "add", .ref u), (Str.ofString "i", .int ((i + 1 : Nat) : Int) t1), (Str.ofString "n", .int (S pat).length t2), (Str.ofString "j", .int (zn : Int) t4)] (by (repeat refine .cons (by assumption) ?_); exact .nil)
          have hzl : (zn : Int) < (S pat).length := by rw [S_len]; omega
          cases k with
          | succ k =>
            have hx4 : (Txt.item (S pat) (zn : Int) != Str.ofString "]") = true := by
              rw [l93]
              have := hin zn (by omega) (by omega)
              unfold bne; rw [this]; rfl
            walk_at "go"
            with_reducible rename Fr _ _ _ _ => F9
            with_reducible rename News _ _ _ _ => N9
            exact ⟨_, _, _, _, k, rfl, F9, N9, Nat.lt_succ_self _, _, _, _, _, _, rfl, rfl, rfl, rfl, rfl, rfl, rfl, rfl, rfl, ⟨zn + 1, by omega, by omega⟩, by omega, rfl⟩
          | zero =>
            have hzn : zn = i + 1 + B.length := by omega
            subst hzn
            have hx4 : (Txt.item (S pat) ((i + 1 + B.length : Nat) : Int) != Str.ofString "]") = false := by
              rw [hend, l93, S_bne]; simp
            clear hin hki hzk
            rw [← hsl] at hm45
            walk_at "go"
            rw [hsl]
            refine replace_none ?_ ?_
            · refine cls_cases hB ?_ ?_ ?_ <;> decide +kernel
            walk_at "go"
            have F8 := (by with_reducible assumption : Fr (hideAll s.heap [57]) L _ _)
            refine getSub1 (pat36 (X.keeps F8.keep)) ?_
            walk_at "go"
            have F7 := (by with_reducible assumption : Fr (hideAll s.heap [57]) L _ _)
            have N7 := (by with_reducible assumption : News (hideAll s.heap [57]) L _ [(l, W.listOf vs n), (u, appOf l), (57, tabObj ps)])
            refine lam_make F7 N7 T C hps rfl rfl rfl rfl hne ?_
            clear F7 N7 F8
            intro f of ps' h' tk hfc hps' hne' F7 N7
            walk_at "go"
            try dsimp only
            refine sub_fn (T := B) (code := code3) (by omega) (by omega) (pat36 (X.keeps F7.keep)) (N7 _ (.head _)).1 hfc ?_ fun t h' tk' hst => ?_
            · refine cls_cases hB ?_ ?_ ?_
              · exact miss_a
              · exact miss_b
              · exact miss_c
            replace N7 := news_stays N7 hst
            replace F7 := fr_stays F7 hst
            clear hst hm45 hsl hlen2 hlen hpat hm hmS
            walk_at "go"
            · try dsimp only
              with_reducible rename News _ _ _ _ => N5
              with_reducible rename (_ == _) = true => hs1
              have F5 := (by with_reducible assumption : Fr (hideAll s.heap [57]) L _ _)
              have hval := cls_val1 hB hs1
              refine callAppend (l := l) (its := vs) (n := n) F5 N5 (by k_mem) (by k_upd) (by omega) fun h' F' N' => ?_
              walk_at "go"
              refine trTurn rfl F' N' hsp hps' hne ⟨by k_mem, by k_mem, by k_mem⟩ (by rw [hfin]; omega) rfl rfl rfl rfl rfl rfl rfl ?_
              rw [Array.toList_push, hval]; exact hO.snoc_txt
            · try dsimp only
              with_reducible rename News _ _ _ _ => N5
              with_reducible rename (_ == _) = false => hs1
              have F5 := (by with_reducible assumption : Fr (hideAll s.heap [57]) L _ _)
              have hval := cls_val2 hB hs1
              refine callAppend (l := l) (its := vs) (n := n) F5 N5 (by k_mem) (by k_upd) (by omega) fun h' F' N' => ?_
              walk_at "go"
              refine trTurn rfl F' N' hsp hps' hne ⟨by k_mem, by k_mem, by k_mem⟩ (by rw [hfin]; omega) rfl rfl rfl rfl rfl rfl rfl ?_
              rw [Array.toList_push, hval]; exact hO.snoc_txt
            all_goals exact absurd (by with_reducible assumption : ((S B).length : Int) = 0) hs4
end
end

section
open PySem PySem.W PyProof.Rows PySem.Calls
set_option maxHeartbeats 8000000
local macro_rules | `(tactic| walk_at "stop1") => `(tactic| walk_at "stE")
/-- what _translate gives for a pattern with stars ahead and behind: groups of texts, each behind a star -/
def encG (gs : List (List (List Nat))) : List (Option (List Nat)) := gs.flatMap fun g => none :: g.map some
def grpText (g : List (List Nat)) : List Nat := [40, 63, 62, 46, 42, 63] ++ g.flatten ++ [41]
def joinText (gs : List (List (List Nat))) : List Nat := [40, 63, 115, 58] ++ ((gs.map grpText).flatten ++ [46, 42]) ++ [41, 92, 90]
theorem encG_append (a b : List (List (List Nat))) : encG (a ++ b) = encG a ++ encG b := by simp [encG]
theorem enc_star (dn r : List (List (List Nat))) : (encG (dn ++ r) ++ [none])[(encG dn).length]? = some none := by
  rw [encG_append, List.append_assoc, List.getElem?_append_right (Nat.le_refl _), Nat.sub_self]
  cases r <;> simp [encG]
theorem enc_txt (dn r : List (List (List Nat))) (g : List (List Nat)) (j : Nat) (hj : j < g.length) : (encG (dn ++ g :: r) ++ [none])[(encG dn).length + 1 + j]? = some (some (g.getD j [])) := by
  rw [encG_append, List.append_assoc, List.getElem?_append_right (by omega), show (encG dn).length + 1 + j - (encG dn).length = j + 1 by omega]
  simp [encG, List.getElem?_append_left, hj]
theorem enc_end (dn r : List (List (List Nat))) (g : List (List Nat)) : (encG (dn ++ g :: r) ++ [none])[(encG dn).length + 1 + g.length]? = some none := by
  have := enc_star (dn ++ [g]) r
  simp only [List.append_assoc, List.singleton_append] at this
  rw [show (encG (dn ++ [g])).length = (encG dn).length + 1 + g.length by simp [encG]; omega] at this
  exact this
inductive JnJ (gs : List (List (List Nat))) (li star : Addr) (N₀ : Nat) (k : Nat) (m : Str → Option Value) (news : List (Addr × Obj)) : Prop
  | mk (l u : Addr) (dn rs : List (List (List Nat))) (vs : Array Value) (n : Nat) (z zn : Int) (t1 t2 : Tok) (e1 : gs = dn ++ rs) (e2 : k = rs.length) (e3 : @Ne Nat l u) (e4 : StrsAre vs.toList ((dn.map grpText).map S)) (e5 : m (Str.ofString "inp") = some (.ref li)) (e6 : m (Str.ofString "STAR") = some (.ref star)) (e7 : m (Str.ofString "res") = some (.ref l)) (e8 : m (Str.ofString "add") = some (.ref u)) (e9 : m (Str.ofString "i") = some (.int z t1)) (e10 : m (Str.ofString "n") = some (.int zn t2)) (e11 : z = (encG dn).length) (e12 : zn = N₀) (e13 : news = [(l, W.listOf vs n), (u, appOf l)])
inductive JnJ0 (li star l u : Addr) (N₀ : Nat) (k₀ : Nat) (m : Str → Option Value) (news : List (Addr × Obj)) : Prop
  | mk (t1 t2 : Tok) (e1 : m (Str.ofString "inp") = some (.ref li)) (e2 : m (Str.ofString "STAR") = some (.ref star)) (e3 : m (Str.ofString "res") = some (.ref l)) (e4 : m (Str.ofString "add") = some (.ref u)) (e5 : m (Str.ofString "i") = some (.int 0 t1)) (e6 : m (Str.ofString "n") = some (.int (N₀ : Nat) t2)) (e7 : news = [(l, W.listOf #[] 0), (u, appOf l)])
inductive JnI (li star l u : Addr) (vs : Array Value) (n : Nat) (g : List (List Nat)) (D N₀ : Nat) (k : Nat) (m : Str → Option Value) (news : List (Addr × Obj)) : Prop
  | mk (l2 : Addr) (j : Nat) (vs2 : Array Value) (n2 : Nat) (z : Int) (t1 t2 : Tok) (e1 : j + k = g.length) (e2 : (@Ne Nat l2 l ∧ @Ne Nat l2 u)) (e3 : StrsAre vs2.toList ((g.take j).map S)) (e4 : m (Str.ofString "inp") = some (.ref li)) (e5 : m (Str.ofString "STAR") = some (.ref star)) (e6 : m (Str.ofString "res") = some (.ref l)) (e7 : m (Str.ofString "add") = some (.ref u)) (e8 : m (Str.ofString "fixed") = some (.ref l2)) (e9 : m (Str.ofString "i") = some (.int z t1)) (e10 : m (Str.ofString "n") = some (.int (N₀ : Nat) t2)) (e11 : z = (D + 1 + j : Nat)) (e12 : news = [(l2, W.listOf vs2 n2), (l, W.listOf vs n), (u, appOf l)])
section
variable {prog : Program} {w : World} {A : Around} {s : Shared} {p : Program} {loose : List Str} {mean : ExcName → Option Value} {mg mb : Str → Option Value} {R : Value → Shared → Prop}
theorem join_spec {gs : List (List (List Nat))} {li star : Addr} {xs : Array Value} (X : (hd.heap_39 w.params).In s.heap) (T : Top p loose mean mg mb s.heap)
    (hd : A.depth < 890) (hh : A.handled = none) (I : InpL s.heap li xs) (hO : OutAre star xs.toList (encG gs ++ [none])) (hne : ∀ g ∈ gs, g ≠ []) (hlen : (encG gs).length ≤ 200) (hsz : ((gs.map grpText).map List.length).sum ≤ 1000)
    (hR : ∀ t h' tk', s.heap.StaysIn h' → R (.str (S (joinText gs)) t) { s with heap := h', toks := tk' }) :
    wpAny (model prog w) A (call (.ref 69) [.ref li, .ref star] []) R (fun _ _ => False) s := by
  obtain ⟨A1, A2, A3, A4, A5⟩ := A
  simp only at hd hh
  subst hh
  have hroom : A2 < recursionLimit := by unfold recursionLimit; omega
  have hxs : xs.size = (encG gs).length + 1 := by
    have := hO.length
    simpa using this
  have hstar : ∀ dn r, gs = dn ++ r → xs[(encG dn).length]? = some (.ref star) := by
    intro dn r e
    have h1 := hO.get (encG dn).length
    rw [e, enc_star] at h1
    simpa using h1
  have htxt : ∀ dn g r, gs = dn ++ g :: r → ∀ j, j < g.length → ∃ t, xs[(encG dn).length + 1 + j]? = some (.str (S (g.getD j [])) t) := by
    intro dn g r e j hj
    have h1 := hO.get ((encG dn).length + 1 + j)
    rw [e, enc_txt _ _ _ _ hj] at h1
    simpa using h1
  have hend : ∀ dn g r, gs = dn ++ g :: r → xs[(encG dn).length + 1 + g.length]? = some (.ref star) := by
    intro dn g r e
    have h1 := hO.get ((encG dn).length + 1 + g.length)
    rw [e, enc_end] at h1
    simpa using h1
  refine' enterF (binds := [(Str.ofString "inp", .ref li), (Str.ofString "STAR", .ref star)]) X T hroom ?k6 ?k7 ?k9 ?kB ?_ ?c2 ?c3 ?c4 ?c5
  (( (case k6 => k_is); (case k7 => k_is); (case k9 => exact BindsTo.of_eq rfl); (case c5 => decide); (case kB => exact locs rfl); (case c2 => exact rfl); (case c3 => exact rfl); (case c4 => exact rfl)))
  intro L h₁ F N
  replace F := frC F [(Str.ofString "inp", .ref li), (Str.ofString "STAR", .ref star)] (by (repeat refine .cons (by rfl) ?_); exact .nil)
  try dsimp only
  try k_fold
  walk_at "go"
  with_reducible rename Fr _ _ _ _ => F1
  with_reducible rename News _ _ _ _ => N1
  rename_i l0 hA hB hC Q0 hQ0
  refine getAppend F1 N1 (.head _) fun u h2 F2 N2 hn2 => ?_
  walk_at "go"
  with_reducible rename Fr _ _ _ _ => F3
  refine len_list (I.now F3) (by omega) ?_
  walk_at "go"
  with_reducible rename Fr _ _ _ _ => F1
  with_reducible rename News _ _ _ _ => N1
  refine While_inv2 (n₀ := 0) (L := L) (news := [(l0, W.listOf #[] 0), (u, appOf l0)]) (JnJ0 li star l0 u xs.size) F1 (news_sub N1 ?_) ?_ ?_
  · intro q hq
    simp only [List.mem_cons, List.not_mem_nil, or_false] at hq ⊢
    rcases hq with rfl | rfl <;> simp
  · exact ⟨_, _, rfl, rfl, rfl, rfl, rfl, rfl, rfl⟩
  clear F1 N1
  rintro k m news h tk Fk Nk ⟨t1, t2, hm1, hm2, hm3, hm4, hm5, hm6, rfl⟩
  replace Fk := frC Fk [(Str.ofString "inp", .ref li), (Str.ofString "STAR", .ref star), (Str.ofString "res", .ref l0), (Str.ofString "add", .ref u), (Str.ofString "i", .int 0 t1), (Str.ofString "n", .int (xs.size : Nat) t2)] (by (repeat refine .cons (by assumption) ?_); exact .nil)
  have hlt : (0 : Int) < (xs.size : Nat) := by omega
  have hs0 : xs[0]? = some (.ref star) := by simpa [encG] using hstar [] gs rfl
  have hlu : @Ne Nat l0 u := hn2 _ (.head _)
  walk_at "go"
  refine getItem_inp Fk I 0 rfl (by omega) hs0 ?_
  walk_at "go"
  with_reducible rename Fr _ _ _ _ => F9
  with_reducible rename News _ _ _ _ => N9
  refine While_inv2 (n₀ := gs.length) (L := L) (JnJ gs li star xs.size) F9 N9 ⟨l0, u, [], gs, #[], 0, _, _, _, _, rfl, rfl, hlu, .nil, rfl, rfl, rfl, rfl, rfl, rfl, rfl, rfl, rfl⟩ ?_
  clear F9 N9 hs0 hlu hm1 hm2 hm3 hm4 hm5 hm6 hn2 hlt
  rintro k m news h tk Fk Nk ⟨l, u, dn, rs, vs, n, z, zn, t1, t2, hsp, rfl, hlu, hS, hm1, hm2, hm3, hm4, hm5, hm6, hz, hzn, rfl⟩
  subst hz hzn
  replace Fk := frC Fk [(Str.ofString "inp", .ref li), (Str.ofString "STAR", .ref star), (Str.ofString "res", .ref l), (Str.ofString "add", .ref u), (Str.ofString "i", .int ((encG dn).length : Nat) t1), (Str.ofString "n", .int (xs.size : Nat) t2)] (by (repeat refine .cons (by assumption) ?_); exact .nil)
  have hsD := hstar dn rs hsp
  have hvl : vs.size ≤ 200 := by
    have h6 := hS.length
    simp only [Array.length_toList, List.length_map] at h6
    have h7 : dn.length ≤ (encG dn).length := by
      clear hsp hS h6 hsD Fk hm5
      induction dn with
      | nil => simp
      | cons g r ih => simp [encG] at ih ⊢; omega
    have h8 : (encG dn).length ≤ (encG gs).length := by rw [hsp, encG_append]; simp
    omega
  cases rs with
  | nil =>
    rw [List.append_nil] at hsp
    subst hsp
    have hlt : ((encG gs).length : Int) < (xs.size : Nat) := by omega
    have heq : ((encG gs).length : Int) + 1 = (xs.size : Nat) := by omega
    have hsz2 : (joinText gs).length ≤ 2000 := by
      unfold joinText
      simp only [List.length_append, List.length_flatten, List.length_cons, List.length_nil]
      omega
    walk_at "go"
    refine getItem_inp Fk I _ rfl (by omega) hsD ?_
    walk_at "go"
    try dsimp only
    with_reducible rename Fr _ _ _ _ => F9
    with_reducible rename News _ _ _ _ => N9
    refine callAppend (l := l) (its := vs) (n := n) F9 N9 (by k_mem) (by k_upd) (by omega) fun h' F' N' => ?_
    · walk_at "go"
      try dsimp only [WhileStep2]
      walk_at "go"
      try dsimp only
      have hS2 : ∀ t9, StrsAre (vs.push (.str (Str.ofString ".*") t9)).toList (((gs.map grpText) ++ [[46, 42]]).map S) := by
        intro t9
        rw [show Str.ofString ".*" = S [46, 42] by decide +kernel]; exact strs_push hS
      with_reducible rename News _ _ _ _ => N8
      have hl2 := isList_led (l := l) N8 (.head _)
      refine join_list hl2 (hS2 _) ?_ ?_
      · rw [lit_nil]
        rw [List.map_map]
        simp only [List.map_append, List.sum_append, List.map_map, List.length_append, List.length_map, S_len, List.length_nil, Nat.mul_zero, Nat.add_zero]
        have e3 : (List.map (fun x => (S x).length) (gs.map grpText)) = (gs.map grpText).map List.length := List.map_congr_left fun x _ => S_len x
        simp only [List.map_map] at e3 hsz
        simp [Function.comp_def, S_len] at e3 hsz ⊢
        omega
      intro t' k'
      rw [lit_nil, S_join]
      have hsz3 : (S ((gs.map grpText) ++ [[46, 42]]).flatten).length ≤ 2000 := by
        rw [S_len]
        simp only [List.flatten_append, List.length_append, List.length_flatten, List.flatten_cons, List.flatten_nil, List.append_nil, List.length_cons, List.length_nil]
        omega
      have hval : Str.empty ++ Str.ofString "(?s:" ++ S ((gs.map grpText) ++ [[46, 42]]).flatten ++ Str.ofString ")\\Z" = S (joinText gs) := by
        rw [show Str.empty = S [] from rfl, show Str.ofString "(?s:" = S [40, 63, 115, 58] by decide +kernel, show Str.ofString ")\\Z" = S [41, 92, 90] by decide +kernel, S_add, S_add, S_add]
        simp [joinText]
      walk_at "go"
      try dsimp only
      rw [hval]
      with_reducible rename Fr _ _ _ _ => F8
      exact hR _ _ _ F8.keep
    · exact absurd heq (by with_reducible assumption)
  | cons g r =>
    have hg : g ≠ [] := hne g (by rw [hsp]; simp)
    have hgl : 0 < g.length := List.length_pos_iff.mpr hg
    have hend' := hend dn g r hsp
    have htx := htxt dn g r hsp
    have hL9 : (encG dn).length + 1 + g.length < xs.size := by
      rw [hxs, hsp, encG_append]; simp [encG]; omega
    have hlt : ((encG dn).length : Int) < (xs.size : Nat) := by omega
    have hlt2 : ((encG dn).length : Int) + 1 < (xs.size : Nat) := by omega
    have hne2 : ((encG dn).length : Int) + 1 ≠ (xs.size : Nat) := by omega
    have hgb : g.flatten.length ≤ 1000 := by
      have h1 : g.flatten.length ≤ ((gs.map grpText).map List.length).sum := by
        rw [hsp]
        simp only [List.map_append, List.map_cons, List.sum_append, List.sum_cons, grpText, List.length_append]
        omega
      omega
    walk_at "go"
    refine getItem_inp Fk I _ rfl (by omega) hsD ?_
    walk_at "go"
    · exact absurd (by with_reducible assumption) hne2
    · obtain ⟨t0, h0⟩ := htx 0 hgl
      with_reducible rename Fr _ _ _ _ => F8
      refine getItem_inp F8 I ((encG dn).length + 1 + 0) (by omega) (by omega) h0 ?_
      walk_at "go"
      with_reducible rename Fr _ _ _ _ => F9
      with_reducible rename News _ _ _ _ => N9
      with_reducible rename _ ∧ _ => l9
      refine While_inv2 (n₀ := g.length) (L := L) (JnI li star l u vs n g (encG dn).length xs.size) F9 N9 ⟨_, 0, #[], 0, _, _, _, by omega, ⟨Nat.ne_of_gt l9.1, Nat.ne_of_gt l9.2⟩, .nil, rfl, rfl, rfl, rfl, rfl, rfl, rfl, by omega, rfl⟩ ?_
      clear F9 N9 l9 hlt hlt2 hne2 hsD h0
      rintro k m2 news2 h tk Fk Nk ⟨l2, j, vs2, n2, z, t1, t2, hj, hl2, hS2, g1, g2, g3, g4, g5, g6, g7, hz, rfl⟩
      subst hz
      replace Fk := frC Fk [(Str.ofString "inp", .ref li), (Str.ofString "STAR", .ref star), (Str.ofString "res", .ref l), (Str.ofString "add", .ref u), (Str.ofString "fixed", .ref l2), (Str.ofString "i", .int (((encG dn).length + 1 + j : Nat) : Int) t1), (Str.ofString "n", .int (xs.size : Nat) t2)] (by (repeat refine .cons (by assumption) ?_); exact .nil)
      have hlt : (((encG dn).length + 1 + j : Nat) : Int) < (xs.size : Nat) := by omega
      have hvl2 : vs2.size ≤ 200 := by
        have h6 := hS2.length
        simp only [Array.length_toList, List.length_map, List.length_take] at h6
        omega
      cases k with
      | succ k =>
        obtain ⟨t0, h0⟩ := htx j (by omega)
        walk_at "go"
        refine getItem_inp Fk I _ rfl (by omega) h0 ?_
        walk_at "go"
        refine getItem_inp Fk I _ rfl (by omega) h0 ?_
        walk_at "go"
        refine append_K Fk Nk (by k_upd) (fun h' F' N' => ?_) (le_line (by omega))
        walk_at "go"
        with_reducible rename Fr _ _ _ _ => F9
        with_reducible rename News _ _ _ _ => N9
        refine ⟨_, _, _, _, k, rfl, F9, N9, Nat.lt_succ_self _, l2, j + 1, _, _, _, _, _, by omega, hl2, ?_, rfl, rfl, rfl, rfl, rfl, rfl, rfl, by omega, rfl⟩
        have e9 : g.take (j + 1) = g.take j ++ [g.getD j []] := by
          rw [List.take_add_one]; simp [List.getD_eq_getElem?_getD, List.getElem?_eq_getElem (show j < g.length by omega)]
        rw [e9]
        exact strs_push hS2
      | zero =>
        have hjg : j = g.length := by omega
        subst hjg
        have hne3 : (((encG dn).length + 1 + g.length : Nat) : Int) ≠ (xs.size : Nat) := by omega
        rw [List.take_of_length_le (Nat.le_refl _)] at hS2
        walk_at "go"
        refine getItem_inp Fk I _ rfl (by omega) hend' ?_
        walk_at "go"
        try dsimp only
        with_reducible rename News _ _ _ _ => N8
        have hl9 := isList_led (l := l2) N8 (.head _)
        refine join_list hl9 hS2 ?_ ?_
        · rw [lit_nil]
          have e3 : (List.map (fun x => x.length) (g.map S)) = g.map List.length := by rw [List.map_map]; exact List.map_congr_left fun x _ => S_len x
          rw [e3, S_len]
          have : (g.map List.length).sum = g.flatten.length := by rw [List.length_flatten]
          simp only [List.length_nil, Nat.mul_zero, Nat.add_zero]
          omega
        intro t' k'
        rw [lit_nil, S_join]
        have hsz3 : (S g.flatten).length ≤ 1000 := by rw [S_len]; exact hgb
        have hval : Str.empty ++ Str.ofString "(?>.*?" ++ S g.flatten ++ Str.ofString ")" = S (grpText g) := by
          rw [show Str.empty = S [] from rfl, show Str.ofString "(?>.*?" = S [40, 63, 62, 46, 42, 63] by decide +kernel, show Str.ofString ")" = S [41] by decide +kernel, S_add, S_add, S_add]
          simp [grpText]
        walk_at "go"
        · exact absurd (by with_reducible assumption) hne3
        · try dsimp only
          with_reducible rename Fr _ _ _ _ => F9
          with_reducible rename News _ _ _ _ => N9
          rw [hval]
          refine callAppend (l := l) (its := vs) (n := n) F9 N9 (by k_mem) (by k_upd) (by omega) fun h' F' N' => ?_
          walk_at "go"
          refine ⟨_, _, _, [(l, W.listOf (vs.push (.str (S (grpText g)) _)) (n + 1)), (u, appOf l)], r.length, rfl, F', news_sub N' (fun q hq => .tail _ hq), Nat.lt_succ_self _, l, u, dn ++ [g], r, _, _, _, _, _, _, by simp [hsp], rfl, hlu, ?_, rfl, rfl, rfl, rfl, rfl, rfl, ?_, rfl, rfl⟩
          · rw [List.map_append]; exact strs_push hS
          · rw [encG_append]; simp [encG]; omega
end
end

section
open PySem PySem.W PyProof.Rows PySem.Calls
set_option maxHeartbeats 8000000
local macro_rules | `(tactic| walk_at "stop1") => `(tactic| walk_at "stE")
theorem stay57 {h₀ h : Heap} {P : Addr} (k : ∀ b o, (hideAll h₀ [P]).get? b = some o → h.get? b = some o) : ∀ b o, (hideAll h₀ [P]).get? b = some o → (hideAll h [P]).get? b = some o := by
  intro b o e
  refine hideAll_get _ (k b o e) ?_
  intro hb
  rw [List.mem_singleton] at hb
  subst hb
  rw [hideAll_none _ (.head _)] at e
  cases e
theorem fr57 {h₀ h h' : Heap} {L P : Addr} {m : Str → Option Value} (F : Fr (hideAll h₀ [P]) L h m) (hL : P ≠ L) (k : (hideAll h [P]).StaysIn h') : Fr (hideAll h₀ [P]) L h' m := by
  obtain ⟨oL, es, ep, hLg, r⟩ := F.ns
  exact ⟨⟨oL, es, ep, k _ _ (hideAll_get _ hLg (by simpa using Ne.symm hL)), r⟩, fun b o e => k _ _ (stay57 F.keep b o e), F.above⟩
theorem news57 {h₀ h h' : Heap} {L P l x : Addr} {m : Str → Option Value} {o o' ol ox : Obj} (F : Fr (hideAll h₀ [P]) L h m) (N : News (hideAll h₀ [P]) L h [(x, ox), (P, o)]) (k : (hideAll h [P]).StaysIn h') (hP : h'.get? P = some o') (W : NewIn (hideAll h [P]) h' [(l, ol)]) (hl : @Ne Nat P l) (hx : @Ne Nat P x) :
    News (hideAll h₀ [P]) L h' [(l, ol), (x, ox), (P, o')] := by
  intro q hq
  simp only [List.mem_cons, List.not_mem_nil, or_false] at hq
  rcases hq with rfl | rfl | rfl
  · obtain ⟨h1, h2⟩ := W _ (.head _)
    refine ⟨h1, ?_, ?_⟩
    · obtain ⟨oL, es, ep, hLg, r⟩ := F.ns
      intro e
      have hL : L ≠ P := (N (P, o) (.tail _ (.head _))).2.1.symm
      have := hideAll_get [P] hLg (by simpa using hL)
      simp only at e h2
      rw [e, this] at h2; cases h2
    · cases e : (hideAll h₀ [P]).get? l with
      | none => rfl
      | some o2 =>
        have := stay57 F.keep _ _ e
        simp only at h2
        rw [this] at h2; cases h2
  · have n := N (x, ox) (.head _)
    exact ⟨k _ _ (hideAll_get _ n.1 (by simpa using Ne.symm hx)), n.2⟩
  · have n := N (P, o) (.tail _ (.head _))
    exact ⟨hP, n.2⟩
section
variable {prog : Program} {w : World} {A : Around} {s : Shared} {p : Program} {loose : List Str} {mean : ExcName → Option Value} {mg mb : Str → Option Value} {R : Value → Shared → Prop}
theorem translate_spec {pts : List Pt} {pat : List Nat} {gs : List (List (List Nat))} {tk₀ : Tok} (X : (hd.heap_39 w.params).In (hideAll s.heap [57])) (T : Top p loose mean mg mb (hideAll s.heap [57])) (hP : s.heap.get? 57 = some (tabObj #[])) (C : CodeHd (hideAll s.heap [57]) 61 57)
    (hd : A.depth < 880) (hh : A.handled = none) (hm : pat.length ≤ 1000) (hpat : pat = pts.flatMap Pt.txt) (hok : ∀ q ∈ pts, q.Ok)
    (hgs : transL pts = encG gs ++ [none]) (hne : ∀ g ∈ gs, g ≠ []) (hlen : (encG gs).length ≤ 200) (hsz : ((gs.map grpText).map List.length).sum ≤ 1000)
    (hR : ∀ t ps h' tk', LamTab ps → h'.get? 57 = some (tabObj ps) → (hideAll s.heap [57]).StaysIn h' → R (.str (S (joinText gs)) t) { s with heap := h', toks := tk' }) :
    wpAny (model prog w) A (call (.ref 43) [.str (S pat) tk₀] []) R (fun _ _ => False) s := by
  obtain ⟨A1, A2, A3, A4, A5⟩ := A
  simp only at hd hh
  subst hh
  have hroom : A2 < recursionLimit := by unfold recursionLimit; omega
  have hmS : (S pat).length ≤ 1000 := by rw [S_len]; exact hm
  refine' enterT (binds := [(Str.ofString "pat", .str (S pat) tk₀)]) X T hP hroom ?k6 ?k7 ?k9 ?kB ?_ ?c2 ?c3 ?c4 ?c5
  (( (case k6 => k_is); (case k7 => k_is); (case k9 => exact BindsTo.of_eq rfl); (case c5 => decide); (case kB => exact locs rfl); (case c2 => exact rfl); (case c3 => exact rfl); (case c4 => exact rfl)))
  intro L h₁ F N
  replace F := frC F [(Str.ofString "pat", .str (S pat) tk₀)] (by (repeat refine .cons (by rfl) ?_); exact .nil)
  try dsimp only
  try k_fold
  walk_at "go"
  try dsimp only
  refine newObject F N fun star h2 F2 N2 hns => ?_
  walk_at "go"
  with_reducible rename Fr _ _ _ _ => F3
  with_reducible rename News _ _ _ _ => N3
  rw [show Str.ofString "." = S [46] by decide +kernel]
  have h57 := (N3 (57, tabObj #[]) (.tail _ (.head _)))
  have hL57 : 57 ≠ L := h57.2.1
  refine trans_spec (star := star) (X.keeps (stay57 F3.keep)) (T.keeps (stay57 F3.keep)) h57.1 (C.keeps (stay57 F3.keep)) (by show A2 + 1 < 890; omega) rfl hm hpat hok ?_
  intro l vs n ps h' tk' hps hP' hst h57l hnew hO
  replace N3 := news57 F3 N3 hst hP' hnew h57l (hns _ (.head _))
  replace F3 := fr57 F3 hL57 hst
  walk_at "go"
  with_reducible rename Fr _ _ _ _ => F4
  with_reducible rename News _ _ _ _ => N4
  have hl4 := isList_led (l := l) N4 (.head _)
  refine join_spec (gs := gs) (X.keeps F4.keep) (T.keeps F4.keep) (by show A2 + 1 < 890; omega) rfl ⟨hl4⟩ (by rw [← hgs]; exact hO) hne hlen hsz ?_
  intro t h'' tk'' hst2
  walk_at "go"
  exact hR _ ps _ _ hps (hst2 _ _ (N4 _ (.tail _ (.tail _ (.head _)))).1) fun b o e => hst2 _ _ (F4.keep b o e)
end
end

section
open PySem PySem.W PyProof.Rows PySem.Calls
set_option maxHeartbeats 8000000
local macro_rules | `(tactic| walk_at "stop1") => `(tactic| walk_at "stE")
local macro_rules | `(tactic| omega) => `(tactic| (fail_if_success (fail_if_success omega +splitDisjunctions)); (repeat (with_reducible rename (_ == _) = _ => hz; clear hz)); lia)
theorem S_find3 {l : List Nat} {c i e : Nat} (he : e < l.length) (hie : i ≤ e) (h1 : l.getD e 0 = c) (h2 : ∀ v, i ≤ v → v < e → l.getD v 0 ≠ c) : Txt.find3 (S l) (S [c]) (i : Int) = e := by
  have hfr : fromIndex (S l).length (i : Int) = i := by
    unfold fromIndex
    rw [S_len]
    omega
  have hg : ∀ k, (S l).cps.getD k 0 = l.getD k 0 := by intro k; simp [S, List.getD_eq_getElem?_getD]
  rcases StrLaws.find3_spec (S l) c (i : Int) with ⟨_, hn⟩ | ⟨k, h, hlo, hk, hc, hn⟩
  · rw [hfr] at hn
    exact absurd (by rw [hg]; exact h1) (hn e hie (by rw [S_len]; exact he))
  · rw [hfr] at hlo hn
    show Txt.find3 (S l) ⟨#[c]⟩ (i : Int) = e
    rw [h]
    rw [hg] at hc
    have : k = e := by
      rcases Nat.lt_trichotomy k e with h3 | h3 | h3
      · exact absurd hc (h2 k hlo h3)
      · exact h3
      · exact absurd (by rw [hg]; exact h1) (hn e hie h3)
    rw [this]
/-- a unit of a group: whether the set bars, and its signs -/
def Pt.unit : Pt → Bool × List Nat
  | .star => (false, [])
  | .ques => (true, [])
  | .lit c => (false, [c])
  | .cls B => if B.head? = some 33 then (true, B.tail) else (false, B)
abbrev tupObj (b : Bool) (x : List Nat) (t : Tok) : Obj := { cls := .type "tuple", data := .seq #[.bool b, .str (S x) t] }
inductive UnitsIn (tups : List (Addr × Obj)) : List Value → List (Bool × List Nat) → Prop
  | nil : UnitsIn tups [] []
  | cons {d b x t vs us} : (d, tupObj b x t) ∈ tups → UnitsIn tups vs us → UnitsIn tups (.ref d :: vs) ((b, x) :: us)
theorem UnitsIn.mono {t1 t2 : List (Addr × Obj)} {vs : List Value} {us : List (Bool × List Nat)} (h : UnitsIn t1 vs us) (hs : ∀ q ∈ t1, q ∈ t2) : UnitsIn t2 vs us := by
  induction h with
  | nil => exact .nil
  | cons hm _ ih => exact .cons (hs _ hm) ih
theorem UnitsIn.snoc {tups : List (Addr × Obj)} {vs : List Value} {us : List (Bool × List Nat)} {d : Addr} {b : Bool} {x : List Nat} {t : Tok} (h : UnitsIn tups vs us) (hd : (d, tupObj b x t) ∈ tups) : UnitsIn tups (vs ++ [.ref d]) (us ++ [(b, x)]) := by
  induction h with
  | nil => exact .cons hd .nil
  | cons hm _ ih => exact .cons hm ih
theorem UnitsIn.length {tups : List (Addr × Obj)} {vs : List Value} {us : List (Bool × List Nat)} (h : UnitsIn tups vs us) : vs.length = us.length := by
  induction h with
  | nil => rfl
  | cons _ _ ih => simp [ih]
inductive UnJ (pcs : List Pt) (tk₀ : Tok) (k : Nat) (m : Str → Option Value) (news : List (Addr × Obj)) : Prop
  | mk (l : Addr) (dn rs : List Pt) (vs : Array Value) (n : Nat) (tups : List (Addr × Obj)) (z : Int) (t1 : Tok) (e1 : pcs = dn ++ rs) (e2 : k = rs.length) (e3 : UnitsIn tups vs.toList (dn.map Pt.unit)) (e4 : (∀ q ∈ tups, @Ne Nat q.1 l)) (e5 : m (Str.ofString "group") = some (.str (S (pcs.flatMap Pt.out)) tk₀)) (e6 : m (Str.ofString "units") = some (.ref l)) (e7 : m (Str.ofString "k") = some (.int z t1)) (e8 : z = (dn.flatMap Pt.out).length) (e9 : news = (l, W.listOf vs n) :: tups)
theorem unTurn {h₀ h' : Heap} {L : Addr} {pcs dn rs : List Pt} {q : Pt} {grp x : List Nat} {tk₀ t1 : Tok} {l D : Addr} {Q : Flow → Shared → Prop} {s₁ s₂ : Shared} {tk' : Nat} {m : Str → Option Value} {nw tups : List (Addr × Obj)} {vs : Array Value} {n' : Nat} {b : Bool} {z : Int} {o : Obj}
    (e : s₂ = { s₁ with heap := h', toks := tk' }) (F : Fr h₀ L h' m) (N : News h₀ L h' nw) (hgrp : grp = pcs.flatMap Pt.out) (hsp : pcs = dn ++ q :: rs) (hU : UnitsIn tups vs.toList (dn.map Pt.unit)) (hne : ∀ p ∈ tups, @Ne Nat p.1 l) (hD : @Ne Nat D l)
    (m1 : (D, o) ∈ nw) (m2 : (l, W.listOf (vs.push (.ref D)) n') ∈ nw) (m3 : ∀ p ∈ tups, p ∈ nw) (ho : ∃ t, o = tupObj b x t) (hu : q.unit = (b, x)) (hz : z = ((dn ++ [q]).flatMap Pt.out).length)
    (h1 : m (Str.ofString "group") = some (.str (S grp) tk₀)) (h2 : m (Str.ofString "units") = some (.ref l)) (h3 : m (Str.ofString "k") = some (.int z t1)) :
    WhileStep2 h₀ L s₁ (UnJ pcs tk₀) Q (q :: rs).length .next s₂ := by
  obtain ⟨t, ho⟩ := ho
  subst e hgrp ho
  refine ⟨h', tk', m, (l, W.listOf (vs.push (.ref D)) n') :: (D, tupObj b x t) :: tups, rs.length, rfl, F, ?_, Nat.lt_succ_self _, l, dn ++ [q], rs, vs.push (.ref D), n', (D, tupObj b x t) :: tups, z, t1, by simp [hsp], rfl, ?_, ?_, h1, h2, h3, hz, rfl⟩
  · intro p hp
    rcases List.mem_cons.mp hp with rfl | hp
    · exact N _ m2
    · rcases List.mem_cons.mp hp with rfl | hp
      · exact N _ m1
      · exact N _ (m3 _ hp)
  · rw [Array.toList_push, List.map_append, List.map_cons, List.map_nil, hu]
    exact (hU.mono fun p hp => .tail _ hp).snoc (.head _)
  · intro p hp
    rcases List.mem_cons.mp hp with rfl | hp
    · exact hD
    · exact hne _ hp
theorem cls_out {B : List Nat} (hB : B ∈ clsB) : 5 ≤ (Pt.cls B).out.length ∧ (Pt.cls B).out.length ≤ 6 := by
  refine cls_cases hB ?_ ?_ ?_ <;> decide
theorem cls_last {B : List Nat} (hB : B ∈ clsB) : (Pt.cls B).out.getD ((Pt.cls B).out.length - 1) 0 = 93 := by
  refine cls_cases hB ?_ ?_ ?_ <;> decide
theorem cls_mid {B : List Nat} (hB : B ∈ clsB) : ∀ j, j < (Pt.cls B).out.length - 1 → (Pt.cls B).out.getD j 0 ≠ 93 := by
  refine cls_cases hB ?_ ?_ ?_ <;> decide
abbrev inn (B : List Nat) : List Nat := ((Pt.cls B).out.drop 1).take ((Pt.cls B).out.length - 2)
theorem cls_in {B : List Nat} (hB : B ∈ clsB) : (Txt.item (S (inn B)) 0 == Str.ofString "^") = decide (B.head? = some 33) := by
  refine cls_cases hB ?_ ?_ ?_ <;> decide
theorem cls_tail {B : List Nat} (hB : B ∈ clsB) (hb : B.head? = some 33) : Txt.slice (S (inn B)) (some 1) none = S B.tail := by
  have e7 := S_slice_from (l := inn B) (i := 1) (by revert hB; intro hB; refine cls_cases hB ?_ ?_ ?_ <;> decide)
  rw [show (1 : Int) = ((1 : Nat) : Int) from rfl, e7]
  simp only [clsB, List.mem_cons, List.not_mem_nil, or_false] at hB
  rcases hB with rfl | rfl | rfl <;> first | rfl | (exact absurd hb (by decide))
theorem cls_whole {B : List Nat} (hB : B ∈ clsB) (hb : ¬ B.head? = some 33) : S (inn B) = S B := by
  simp only [clsB, List.mem_cons, List.not_mem_nil, or_false] at hB
  rcases hB with rfl | rfl | rfl <;> first | rfl | (exact absurd rfl hb)
theorem out_at {grp o r : List Nat} {i : Nat} (hdr : grp.drop i = o ++ r) (j : Nat) (hj : j < o.length) : grp.getD (i + j) 0 = o.getD j 0 := by
  have := congrArg (fun z => z[j]?) hdr
  simp only [List.getElem?_drop, List.getElem?_append_left hj] at this
  simp [List.getD_eq_getElem?_getD, this]
theorem cls_find {grp B r : List Nat} {i : Nat} (hB : B ∈ clsB) (hdr : grp.drop i = (Pt.cls B).out ++ r) (hlen : grp.length ≤ 1000) (hgl : i + (Pt.cls B).out.length ≤ grp.length) :
    Txt.find3 (S grp) (Str.ofString "]") (i : Int) = ((i + ((Pt.cls B).out.length - 1) : Nat) : Int) := by
  have hol := cls_out hB
  rw [show Str.ofString "]" = S [93] by decide +kernel]
  refine S_find3 (by omega) (by omega) ?_ ?_
  · rw [out_at hdr _ (by omega)]; exact cls_last hB
  · intro v hv1 hv2
    obtain ⟨j, rfl⟩ : ∃ j, v = i + j := ⟨v - i, by omega⟩
    rw [out_at hdr _ (by omega)]; exact cls_mid hB j (by omega)
theorem cls_slice {grp B r : List Nat} {i : Nat} (hB : B ∈ clsB) (hdr : grp.drop i = (Pt.cls B).out ++ r) (hlen : grp.length ≤ 1000) (hgl : i + (Pt.cls B).out.length ≤ grp.length) :
    Txt.slice (S grp) (some ((i : Int) + 1)) (some ((i : Int) + (Txt.find3 (S grp) (Str.ofString "]") (i : Int) + 1 - (i : Int)) - 1)) = S (inn B) := by
  have hol := cls_out hB
  have hf := cls_find hB hdr hlen hgl
  have e1 : (i : Int) + (Txt.find3 (S grp) (Str.ofString "]") (i : Int) + 1 - (i : Int)) - 1 = ((i + ((Pt.cls B).out.length - 1) : Nat) : Int) := by omega
  have e2 : (i : Int) + 1 = ((i + 1 : Nat) : Int) := by omega
  rw [e1, e2, S_slice (by omega) (by omega), ← List.drop_drop, hdr]
  congr 1
  rw [List.drop_append_of_le_length (by omega), List.take_append_of_le_length (by simp; omega)]
  congr 1
  omega
theorem inn_len {B : List Nat} (hB : B ∈ clsB) : 0 < (S (inn B)).length ∧ (S (inn B)).length ≤ 5 := by
  have hol := cls_out hB
  rw [S_len, List.length_take, List.length_drop]; omega
section
variable {prog : Program} {w : World} {A : Around} {s : Shared} {p : Program} {loose : List Str} {mean : ExcName → Option Value} {mg mb : Str → Option Value} {R : Value → Shared → Prop}
theorem units_spec {pcs : List Pt} {grp : List Nat} {tk₀ : Tok} (X : (hd.heap_39 w.params).In s.heap) (T : Top p loose mean mg mb s.heap) (hd : A.depth < 890) (hh : A.handled = none) (hgrp : grp = pcs.flatMap Pt.out) (hok : ∀ q ∈ pcs, q.Ok ∧ q ≠ .star) (hlen : grp.length ≤ 1000)
    (hR : ∀ l vs n tups h' tk', s.heap.StaysIn h' → NewIn s.heap h' ((l, W.listOf vs n) :: tups) → UnitsIn tups vs.toList (pcs.map Pt.unit) → (∀ q ∈ tups, @Ne Nat q.1 l) → R (.ref l) { s with heap := h', toks := tk' }) :
    wpAny (model prog w) A (call (.ref 126) [.str (S grp) tk₀] []) R (fun _ _ => False) s := by
  obtain ⟨A1, A2, A3, A4, A5⟩ := A
  simp only at hd hh
  subst hh
  have hroom : A2 < recursionLimit := by unfold recursionLimit; omega
  have hmS : (S grp).length ≤ 1000 := by rw [S_len]; exact hlen
  refine' enterF (binds := [(Str.ofString "group", .str (S grp) tk₀)]) X T hroom ?k6 ?k7 ?k9 ?kB ?_ ?c2 ?c3 ?c4 ?c5
  (( (case k6 => k_is); (case k7 => k_is); (case k9 => exact BindsTo.of_eq rfl); (case c5 => decide); (case kB => exact locs rfl); (case c2 => exact rfl); (case c3 => exact rfl); (case c4 => exact rfl)))
  intro L h₁ F N
  replace F := frC F [(Str.ofString "group", .str (S grp) tk₀)] (by (repeat refine .cons (by rfl) ?_); exact .nil)
  try dsimp only
  try k_fold
  walk_at "go"
  with_reducible rename Fr _ _ _ _ => F1
  with_reducible rename News _ _ _ _ => N1
  refine While_inv2 (n₀ := pcs.length) (L := L) (UnJ pcs tk₀) F1 N1 ⟨_, [], pcs, #[], 0, [], _, _, rfl, rfl, .nil, by simp, by rw [← hgrp]; rfl, rfl, rfl, rfl, rfl⟩ ?_
  clear F1 N1
  rintro k m news h tk Fk Nk ⟨l, dn, rs, vs, n, tups, z, t1, hsp, rfl, hU, hne, hm1, hm2, hm3, hz, rfl⟩
  subst hz
  rw [← hgrp] at hm1
  replace Fk := frC Fk [(Str.ofString "group", .str (S grp) tk₀), (Str.ofString "units", .ref l), (Str.ofString "k", .int ((dn.flatMap Pt.out).length : Nat) t1)] (by (repeat refine .cons (by assumption) ?_); exact .nil)
  have hlg : grp.length = (dn.flatMap Pt.out).length + (rs.flatMap Pt.out).length := by rw [hgrp, hsp]; simp
  have hdr : grp.drop (dn.flatMap Pt.out).length = rs.flatMap Pt.out := by rw [hgrp, hsp]; simp
  have hvl : vs.size ≤ 1000 := by
    have h6 := hU.length
    have h7 : ∀ ps : List Pt, (∀ q ∈ ps, q ≠ .star) → ps.length ≤ (ps.flatMap Pt.out).length := by
      intro ps
      induction ps with
      | nil => intro _; simp
      | cons p r ih =>
        intro hs
        have h1 : 1 ≤ p.out.length := by
          have := hs p (.head _)
          cases p with
          | star => exact absurd rfl this
          | ques => simp [Pt.out]
          | lit c => simp only [Pt.out, escC]; split <;> simp
          | cls B => simp [Pt.out]
        have := ih fun q hq => hs q (.tail _ hq)
        rw [List.flatMap_cons, List.length_append, List.length_cons]; omega
    have h8 := h7 dn fun q hq => (hok q (by rw [hsp]; exact List.mem_append_left _ hq)).2
    simp only [Array.length_toList, List.length_map] at h6
    omega
  generalize hi : (dn.flatMap Pt.out).length = i at *
  cases rs with
  | nil =>
    have hge : ¬ ((i : Int) < (S grp).length) := by rw [S_len]; simp at hlg; omega
    walk_at "go"
    rw [List.append_nil] at hsp
    exact hR l vs n tups _ _ Fk.keep (.of Nk) (by rw [hsp]; exact hU) hne
  | cons q rs =>
    obtain ⟨hqok, hqs⟩ := hok q (by rw [hsp]; simp)
    have hop : 1 ≤ q.out.length := by
      cases q with
      | star => exact absurd rfl hqs
      | ques => simp [Pt.out]
      | lit c => simp only [Pt.out, escC]; split <;> simp
      | cls B => simp [Pt.out]
    have hcI : (i : Int) < (S grp).length := by
      simp only [List.flatMap_cons, List.length_append] at hlg
      rw [S_len]; omega
    rw [List.flatMap_cons] at hdr
    have hat : ∀ j, j < q.out.length → Txt.item (S grp) ((i + j : Nat) : Int) = S [q.out.getD j 0] := by
      intro j hj
      simp only [List.flatMap_cons, List.length_append] at hlg
      rw [S_item (by omega)]
      have := congrArg (fun z => z[j]?) hdr
      simp only [List.getElem?_drop, List.getElem?_append_left hj] at this
      simp [List.getD_eq_getElem?_getD, this]
    have hfin : ((dn ++ [q]).flatMap Pt.out).length = i + q.out.length := by simp [hi]
    have l92 : Str.ofString "\\" = S [92] := by decide +kernel
    have l91 : Str.ofString "[" = S [91] := by decide +kernel
    have a0 := hat 0 (by omega)
    rw [show ((i + 0 : Nat) : Int) = (i : Int) by omega] at a0
    cases q with
    | star => exact absurd rfl hqs
    | cls B =>
      have hB : B ∈ clsB := hqok
      have h1 : (Txt.item (S grp) (i : Int) == Str.ofString "\\") = false := by rw [a0, l92, S_beq]; simp [Pt.out]
      have h2 : (Txt.item (S grp) (i : Int) == Str.ofString "[") = true := by rw [a0, l91, S_beq]; simp [Pt.out]
      have l93 : Str.ofString "]" = S [93] := by decide +kernel
      have hol := cls_out hB
      have hgl : i + (Pt.cls B).out.length ≤ grp.length := by
        simp only [List.flatMap_cons, List.length_append] at hlg
        omega
      have hf := cls_find hB hdr hlen hgl
      have hsl := cls_slice hB hdr hlen hgl
      have hgI : (i : Int) + ((Pt.cls B).out.length : Nat) ≤ (S grp).length := by rw [S_len]; omega
      generalize hSL : Txt.slice (S grp) (some ((i : Int) + 1)) (some ((i : Int) + (Txt.find3 (S grp) (Str.ofString "]") (i : Int) + 1 - (i : Int)) - 1)) = SL at *
      have hSl : 0 < SL.length ∧ SL.length ≤ 5 := by rw [hsl]; exact inn_len hB
      have hSI : ((SL.length : Nat) : Int) ≥ 1 := by omega
      subst hSL
      by_cases hb : B.head? = some 33
      · have h5 : (Txt.item (Txt.slice (S grp) (some ((i : Int) + 1)) (some ((i : Int) + (Txt.find3 (S grp) (Str.ofString "]") (i : Int) + 1 - (i : Int)) - 1))) 0 == Str.ofString "^") = true := by
          rw [hsl, cls_in hB]; exact decide_eq_true hb
        have e6 : Txt.slice (Txt.slice (S grp) (some ((i : Int) + 1)) (some ((i : Int) + (Txt.find3 (S grp) (Str.ofString "]") (i : Int) + 1 - (i : Int)) - 1))) (some 1) none = S B.tail := by
          rw [hsl]; exact cls_tail hB hb
        clear hsl
        walk_at "go"
        with_reducible rename Fr _ _ _ _ => F9
        with_reducible rename News _ _ _ _ => N9
        refine append_K F9 N9 (.tail (show @Ne Nat _ l by omega) (.tail (show @Ne Nat _ l by omega) (.head hne))) (fun h' F' N' => ?_) (le_line (by omega))
        walk_at "go"
        with_reducible rename Fr _ _ _ _ => F8
        with_reducible rename News _ _ _ _ => N8
        refine unTurn (l := l) (vs := vs) (b := true) (x := B.tail) rfl F8 N8 hgrp hsp hU hne (show @Ne Nat _ l by omega) (.head _) (.tail _ (.tail _ (.head _))) (fun p hp => .tail _ (.tail _ (.tail _ hp))) ?_ ?_ ?_ rfl rfl rfl
        · rw [h5]
          rw [e6]; exact ⟨_, rfl⟩
        · simp [Pt.unit, hb]
        · rw [hfin]; omega
      · have h5 : (Txt.item (Txt.slice (S grp) (some ((i : Int) + 1)) (some ((i : Int) + (Txt.find3 (S grp) (Str.ofString "]") (i : Int) + 1 - (i : Int)) - 1))) 0 == Str.ofString "^") = false := by
          rw [hsl, cls_in hB]; exact decide_eq_false hb
        have e6 : Txt.slice (S grp) (some ((i : Int) + 1)) (some ((i : Int) + (Txt.find3 (S grp) (Str.ofString "]") (i : Int) + 1 - (i : Int)) - 1)) = S B := by
          rw [hsl]; exact cls_whole hB hb
        clear hsl
        walk_at "go"
        with_reducible rename Fr _ _ _ _ => F9
        with_reducible rename News _ _ _ _ => N9
        refine append_K F9 N9 (.tail (show @Ne Nat _ l by omega) (.tail (show @Ne Nat _ l by omega) (.head hne))) (fun h' F' N' => ?_) (le_line (by omega))
        walk_at "go"
        with_reducible rename Fr _ _ _ _ => F8
        with_reducible rename News _ _ _ _ => N8
        refine unTurn (l := l) (vs := vs) (b := false) (x := B) rfl F8 N8 hgrp hsp hU hne (show @Ne Nat _ l by omega) (.head _) (.tail _ (.tail _ (.head _))) (fun p hp => .tail _ (.tail _ (.tail _ hp))) ?_ ?_ ?_ rfl rfl rfl
        · rw [h5]
          rw [e6]; exact ⟨_, rfl⟩
        · simp [Pt.unit, hb]
        · rw [hfin]; omega
        all_goals exact absurd hcI (by with_reducible assumption)
    | ques =>
      have hol : Pt.ques.out.length = 1 := rfl
      have h1 : (Txt.item (S grp) (i : Int) == Str.ofString "\\") = false := by rw [a0, l92, S_beq]; simp [Pt.out]
      have h2 : (Txt.item (S grp) (i : Int) == Str.ofString "[") = false := by rw [a0, l91, S_beq]; simp [Pt.out]
      have h3 : (Txt.item (S grp) (i : Int) == Str.ofString ".") = true := by rw [a0]; decide
      have h4 : Txt.contains (Str.ofString "^$*+?{|()") (Txt.item (S grp) ((i : Int) + 1 - 1)) = false := by
        rw [show (i : Int) + 1 - 1 = (i : Int) by omega, a0, show Str.ofString "^$*+?{|()" = S [94, 36, 42, 43, 63, 123, 124, 40, 41] by decide +kernel, S_contains]
        decide
      walk_at "go"
      with_reducible rename Fr _ _ _ _ => F9
      with_reducible rename News _ _ _ _ => N9
      refine append_K F9 N9 (.tail (show @Ne Nat _ l by omega) (.tail (show @Ne Nat _ l by omega) (.head hne))) (fun h' F' N' => ?_) (le_line (by omega))
      walk_at "go"
      with_reducible rename Fr _ _ _ _ => F8
      with_reducible rename News _ _ _ _ => N8
      refine unTurn (l := l) (vs := vs) (b := true) (x := []) rfl F8 N8 hgrp hsp hU hne (show @Ne Nat _ l by omega) (.head _) (.tail _ (.tail _ (.head _))) (fun p hp => .tail _ (.tail _ (.tail _ hp))) ?_ rfl ?_ rfl rfl rfl
      · rw [lit_nil]; exact ⟨_, rfl⟩
      · rw [hfin, hol]; rfl
    | lit c =>
      by_cases hcs : c ∈ specials
      · have ho : (Pt.lit c).out = [92, c] := by simp [Pt.out, escC, hcs]
        have hol : (Pt.lit c).out.length = 2 := by rw [ho]; rfl
        have hc2 : c ≠ 46 ∨ True := .inr trivial
        have h1 : (Txt.item (S grp) (i : Int) == Str.ofString "\\") = true := by rw [a0, ho, l92, S_beq]; simp
        have h2 : (Txt.item (S grp) (i : Int) == Str.ofString "[") = false := by rw [a0, ho, l91, S_beq]; simp
        have h3 : (Txt.item (S grp) (i : Int) == Str.ofString ".") = false := by rw [a0, ho, show Str.ofString "." = S [46] by decide +kernel, S_beq]; simp
        have a1 : Txt.item (S grp) ((i : Int) + 2 - 1) = S [c] := by
          have := hat 1 (by rw [hol]; omega)
          rw [show (i : Int) + 2 - 1 = ((i + 1 : Nat) : Int) by omega, this, ho]; rfl
        have h4 : Txt.contains (Str.ofString "abcdefghijklmnopqrstuvwxyzABCDEFGHIJKLMNOPQRSTUVWXYZ0123456789") (Txt.item (S grp) ((i : Int) + 2 - 1)) = false := by
          rw [a1]
          have : specials.all (fun c => !Txt.contains (Str.ofString "abcdefghijklmnopqrstuvwxyzABCDEFGHIJKLMNOPQRSTUVWXYZ0123456789") (S [c])) = true := by decide +kernel
          simpa using List.all_eq_true.mp this c hcs
        have hcJ : (i : Int) + 2 ≤ (S grp).length := by
          simp only [List.flatMap_cons, List.length_append, hol] at hlg
          rw [S_len]; omega
        walk_at "go"
        with_reducible rename Fr _ _ _ _ => F9
        with_reducible rename News _ _ _ _ => N9
        refine append_K F9 N9 (.tail (show @Ne Nat _ l by omega) (.tail (show @Ne Nat _ l by omega) (.head hne))) (fun h' F' N' => ?_) (le_line (by omega))
        walk_at "go"
        with_reducible rename Fr _ _ _ _ => F8
        with_reducible rename News _ _ _ _ => N8
        refine unTurn (l := l) (vs := vs) (b := false) (x := [c]) rfl F8 N8 hgrp hsp hU hne (show @Ne Nat _ l by omega) (.head _) (.tail _ (.tail _ (.head _))) (fun p hp => .tail _ (.tail _ (.tail _ hp))) ?_ rfl ?_ rfl rfl rfl
        · rw [a1]; exact ⟨_, rfl⟩
        · rw [hfin, hol]; rfl
      · have ho : (Pt.lit c).out = [c] := by simp [Pt.out, escC, hcs]
        have hol : (Pt.lit c).out.length = 1 := by rw [ho]; rfl
        have hcn : ∀ d ∈ specials, c ≠ d := fun d hd e => hcs (e ▸ hd)
        have h1 : (Txt.item (S grp) (i : Int) == Str.ofString "\\") = false := by rw [a0, ho, l92, S_beq]; simpa using hcn 92 (by decide)
        have h2 : (Txt.item (S grp) (i : Int) == Str.ofString "[") = false := by rw [a0, ho, l91, S_beq]; simpa using hcn 91 (by decide)
        have h3 : (Txt.item (S grp) (i : Int) == Str.ofString ".") = false := by rw [a0, ho, show Str.ofString "." = S [46] by decide +kernel, S_beq]; simpa using hcn 46 (by decide)
        have a1 : Txt.item (S grp) ((i : Int) + 1 - 1) = S [c] := by rw [show (i : Int) + 1 - 1 = (i : Int) by omega, a0, ho]; rfl
        have h4 : Txt.contains (Str.ofString "^$*+?{|()") (Txt.item (S grp) ((i : Int) + 1 - 1)) = false := by
          rw [a1, show Str.ofString "^$*+?{|()" = S [94, 36, 42, 43, 63, 123, 124, 40, 41] by decide +kernel, S_contains]
          simp only [decide_eq_false_iff_not, List.mem_cons, List.not_mem_nil, or_false, not_or]
          exact ⟨hcn _ (by decide), hcn _ (by decide), hcn _ (by decide), hcn _ (by decide), hcn _ (by decide), hcn _ (by decide), hcn _ (by decide), hcn _ (by decide), hcn _ (by decide)⟩
        walk_at "go"
        with_reducible rename Fr _ _ _ _ => F9
        with_reducible rename News _ _ _ _ => N9
        refine append_K F9 N9 (.tail (show @Ne Nat _ l by omega) (.tail (show @Ne Nat _ l by omega) (.head hne))) (fun h' F' N' => ?_) (le_line (by omega))
        walk_at "go"
        with_reducible rename Fr _ _ _ _ => F8
        with_reducible rename News _ _ _ _ => N8
        refine unTurn (l := l) (vs := vs) (b := false) (x := [c]) rfl F8 N8 hgrp hsp hU hne (show @Ne Nat _ l by omega) (.head _) (.tail _ (.tail _ (.head _))) (fun p hp => .tail _ (.tail _ (.tail _ hp))) ?_ rfl ?_ rfl rfl rfl
        · rw [a1]; exact ⟨_, rfl⟩
        · rw [hfin, hol]; rfl
end
end

section
open PySem PySem.W PyProof.Rows PySem.Calls
theorem enterC {prog : Program} {w : World} {A : Around} {s : Shared} {K : Frag} {p : Program} {loose : List Str} {mean : ExcName → Option Value} {mg mb : Str → Option Value} {R : Value → Shared → Prop}
    {name qual : Str} {params : Arguments} {body : List Stmt} {scope : Scope} {dV kV doc pm cdv ct oc : Value} {an od : Option Addr} {osl : Array (Option Value)} {f : Addr} {pos : List Value} {binds : List (Str × Value)}
    (X : K.In s.heap) (T : Top p loose mean mg mb s.heap) (hroom : A.depth < recursionLimit)
    (ho : K.lookup f = some ⟨oc, od, .func (fnOf name qual params body scope dV kV doc pm an cdv ct), osl⟩) (hcd : codeIn K cdv qual = true)
    (hbind : BindsTo s (fnOf name qual params body scope dV kV doc pm an cdv ct) ⟨pos, []⟩ binds) (hkind : (binds.all fun y => scope.names.lookup y.1 == some .local || scope.names.lookup y.1 == some .cell) = true)
    (hnd : ((cellsFrom 0 scope.names []).map (·.1)).Nodup)
    (h : ∀ L h₁ tk cells, Fr s.heap L h₁ (bindL (envOfC qual scope L f cdv).kindOf binds fun _ => none) → News s.heap L h₁ cells →
      CellsAre (bindC (envOfC qual scope L f cdv).kindOf binds fun _ => none) (cellsFrom (L + 1) scope.names []) cells →
      wpAny (model prog w) (A.deeper (envOfC qual scope L f cdv)) (execs body (envOfC qual scope L f cdv))
        (fun fl s' => R (match fl with | .ret v => v | _ => .none) s') (fun _ _ => False) { s with heap := h₁, toks := tk })
    (hco : scope.isCoroutine = false) (hgen : scope.isGenerator = false) (hk : scope.kind = .function) : wpAny (model prog w) A (call (.ref f) pos []) R (fun _ _ => False) s := by
  refine wpAny_call ?_
  refine codeAny_call_function (fd := fnOf name qual params body scope dV kV doc pm an cdv ct) hroom (X _ _ ho) rfl hco hgen rfl (codeRec_of X hcd) (hbind _ _ _ _ ?_)
  refine wpAny_newFunctionEnv_cells hk (kindsX hkind _) fun env' he s' x => ?_
  subst he
  refine ⟨T.nolimit.keeps x.toInCall.keep, codeAny_func ?_⟩
  obtain ⟨h₁, tk, rfl, _⟩ := x.done
  obtain ⟨cells, NC, Y⟩ := Cl.news (h₀ := s.heap) (Nat.le_refl _) fun n c hm => ⟨x.cell n c (lookup_of_mem_nodup (cellsFrom_names scope.names 0 (s.heap.objs.size + 1) [] [] rfl ▸ hnd) hm), x.above n c hm⟩
  exact wpAny_mono (h s.heap.objs.size h₁ tk cells ⟨x.toInCall.ns, x.toInCall.keep, Nat.le_refl _⟩ NC Y) (fun fl s' hl => hl) fun _ _ y => y.elim
def NoIt (o : Obj) : Prop := o.cls ≠ .type "list_iterator" ∨ ∃ v, o.data = .cell v
theorem NoIt.ne {o : Obj} (h : NoIt o) (l : Addr) (k : Nat) : o ≠ lit l k := by
  rintro rfl
  rcases h with h | ⟨v, h⟩
  · exact h rfl
  · cases h
/-- the end of a turn over a list -/
def TurnA (h₀ : Heap) (L : Addr) (J : (Str → Option Value) → List (Addr × Obj) → Prop) (it : Addr × Obj) (Q : Flow → Shared → Prop) (s₁ : Shared) (f : Flow) (s₂ : Shared) : Prop :=
  match f with
  | .ret v => Q (.ret v) s₂
  | .brk => Q .next s₂
  | _ => ∃ h' tk' m' news', s₂ = { s₁ with heap := h', toks := tk' } ∧ Fr h₀ L h' m' ∧ News h₀ L h' (it :: news') ∧ (∀ q ∈ news', NoIt q.2) ∧ J m' news'
theorem TurnA.next {h₀ h' : Heap} {L : Addr} {J : (Str → Option Value) → List (Addr × Obj) → Prop} {it : Addr × Obj} {Q : Flow → Shared → Prop} {s₁ : Shared} {tk' : Nat} {m' : Str → Option Value} {news' : List (Addr × Obj)}
    (F : Fr h₀ L h' m') (N : News h₀ L h' (it :: news')) (hc : ∀ q ∈ news', NoIt q.2) (hJ : J m' news') : TurnA h₀ L J it Q s₁ .next { s₁ with heap := h', toks := tk' } :=
  ⟨h', tk', m', news', rfl, F, N, hc, hJ⟩
section
variable {prog : Program} {w : World} {A : Around} {s : Shared} {env : Env} {h₀ : Heap} {L : Addr} {Q : Flow → Shared → Prop}
/-- a for over a list that stands still, its target stored by the walk -/
theorem iter_listA {x : Str} {px : Pos} {body : List Stmt} {l : Addr} {items : Array Value} {m₀ : Str → Option Value} {news₀ : List (Addr × Obj)} (J : Nat → (Str → Option Value) → List (Addr × Obj) → Prop)
    (hh : A.handled = none) (hL : env.locals = L)
    (hl : ∀ k m news h, J k m news → Fr h₀ L h m → News h₀ L h news → h.IsList l items)
    (F : Fr h₀ L s.heap m₀) (N : News h₀ L s.heap news₀) (hc₀ : ∀ q ∈ news₀, NoIt q.2) (hJ : J 0 m₀ news₀)
    (turn : ∀ k v m news h tk it, items[k]? = some v → J k m news → (∀ q ∈ news, NoIt q.2) → (∀ q ∈ news, q.1 ≠ it) → Fr h₀ L h m → News h₀ L h ((it, lit l (k + 1)) :: news) →
      wpAny (model prog w) A (assign (.Name x px) env v) (fun _ s₂ => wpAny (model prog w) A (execs body env) (TurnA h₀ L (J (k + 1)) (it, lit l (k + 1)) Q { s with heap := h, toks := tk }) (fun _ _ => False) s₂) (fun _ _ => False) { s with heap := h, toks := tk })
    (done : ∀ m news h tk, J items.size m news → Fr h₀ L h m → News h₀ L h news → Q .next { s with heap := h, toks := tk }) :
    wpAny (model prog w) A (pyIter (.ref l)) (fun it s₂ => codeAny (model prog w) A (.forLoop (.Name x px) it body [] env) (fun r s' => match r with | .ok f => Q f s' | .error e => cameBackBy (model prog w) A env (fun _ _ => False) e s') s₂) (fun _ _ => False) s := by
  subst hL
  refine wpAny_pyIter_list (hl 0 _ _ _ hJ F N) ?_
  have hLlt := F.ns.lt
  have hitL : env.locals ≠ s.heap.objs.size := Nat.ne_of_lt hLlt
  have hit0 : h₀.get? s.heap.objs.size = none := by
    cases hq : h₀.get? s.heap.objs.size with
    | none => rfl
    | some o => exact absurd (Heap.lt_size (F.keep _ _ hq)) (Nat.lt_irrefl _)
  let I : Nat → Shared → Prop := fun j s' => ∃ k h tk m news, j + k = items.size ∧ s' = { s with heap := h, toks := tk } ∧ J k m news ∧ (∀ q ∈ news, NoIt q.2) ∧ Fr h₀ env.locals h m ∧ News h₀ env.locals h ((s.heap.objs.size, lit l k) :: news)
  refine codeAny_forLoop I ?_ items.size ?_ (fun _ => rfl)
  · rintro j s' ⟨k, h, tk, m, news, hjk, rfl, hJk, hcn, Fk, Nk⟩
    have hit : h.get? s.heap.objs.size = some (lit l k) := (Nk _ (.head _)).1
    have hne : ∀ q ∈ news, q.1 ≠ s.heap.objs.size := fun q hq e => by
      have h1 := (Nk q (.tail _ hq)).1
      rw [e, hit] at h1
      exact (hcn q hq).ne _ _ (Option.some.inj h1).symm
    have Nk' : News h₀ env.locals h news := fun q hq => Nk q (.tail _ hq)
    have hlk := hl k m news h hJk Fk Nk'
    by_cases hkn : k < items.size
    · obtain ⟨v, hv⟩ : ∃ v, items[k]? = some v := ⟨items[k], by simp [hkn]⟩
      obtain ⟨ol, hol, hcl, nl, hdl⟩ := id hlk
      unfold pyNext
      have hT : Shared.TypeIs { s with heap := h, toks := tk } (.ref s.heap.objs.size) "list_iterator" := ⟨_, hit, rfl⟩
      refine wpAny_bind (wpAny_attempt (wpAny_callSpecial?_slot (name := Str.ofString "__next__") hT slot_listiter_next
        (wpAny_call_entry slot_listiter_next hT entry_listiter_next ?_ (args_listiter_next _))))
      show wpAny _ _ (field (.ref s.heap.objs.size) 0 >>= _) _ _ _
      refine wpAny_bind (wpAny_field hit rfl (x := .ref l) rfl ?_)
      show wpAny _ _ (if (Value.ref l == Value.none) = true then _ else _) _ _ _
      rw [if_neg (show ¬ ((Value.ref l == Value.none) = true) from Bool.false_ne_true)]
      show wpAny _ _ (field (.ref s.heap.objs.size) 1 >>= _) _ _ _
      refine wpAny_bind (wpAny_field hit rfl (x := .int k 0) rfl ?_)
      show wpAny _ _ (seqItems? (.ref l) >>= _) _ _ _
      refine wpAny_bind (wpAny_seqItems hol hdl ?_)
      simp only [Int.toNat_natCast, hv]
      refine wpAny_bind (wpAny_setField hit rfl (by simp) (wpAny_pure ⟨v, rfl, wpAny_pure ?_⟩))
      have hsb : Heap.SameBut s.heap.objs.size h (h.update s.heap.objs.size (Obj.mapFields fun vs => vs.setIfInBounds 1 (rawInt (k + 1)))) := Heap.SameBut.update ..
      have hit2 : (h.update s.heap.objs.size (Obj.mapFields fun vs => vs.setIfInBounds 1 (rawInt (k + 1)))).get? s.heap.objs.size = some (lit l (k + 1)) := by
        have := Heap.get?_update_self (Obj.mapFields fun vs => vs.setIfInBounds 1 (rawInt (k + 1))) hit (by rfl)
        exact this
      have F' := fr_same Fk hitL hit0 hsb.extBut
      have N' : News h₀ env.locals (h.update s.heap.objs.size (Obj.mapFields fun vs => vs.setIfInBounds 1 (rawInt (k + 1)))) ((s.heap.objs.size, lit l (k + 1)) :: news) := by
        intro q hq
        rcases List.mem_cons.mp hq with rfl | hq
        · exact ⟨hit2, Ne.symm hitL, hit0⟩
        · exact news_same Nk' hne hsb.extBut q hq
      refine wpAny_mono (turn k v m news _ tk s.heap.objs.size hv hJk hcn hne F' N') (fun _ s₂ h₂ => ?_) fun _ _ e => e.elim
      refine wpAny_mono h₂ (fun f s₃ hf => ?_) fun _ _ e => e.elim
      have fin : (∃ h' tk' m' news', s₃ = { s with heap := h', toks := tk' } ∧ Fr h₀ env.locals h' m' ∧ News h₀ env.locals h' ((s.heap.objs.size, lit l (k + 1)) :: news') ∧ (∀ q ∈ news', NoIt q.2) ∧ J (k + 1) m' news') → ∃ m, m < j ∧ I m s₃ := by
        rintro ⟨h', tk', m', news', rfl, F', N', hc', hJ'⟩
        exact ⟨j - 1, by omega, k + 1, h', tk', m', news', by omega, rfl, hJ', hc', F', N'⟩
      cases f with
      | next => exact fin hf
      | cont => exact fin hf
      | brk => exact hf
      | ret v => exact hf
    · have hk' : k = items.size := by omega
      subst hk'
      refine wpAny_pyNext_list_end hh ⟨_, hit, rfl, rfl⟩ hlk (by simp) ?_
      intro h' hsb
      refine wpAny_execs_nil ?_
      exact done m news h' tk hJk (fr_same Fk hitL hit0 hsb) (news_same Nk' hne hsb)
  · refine ⟨0, _, s.toks, m₀, news₀, by omega, rfl, hJ, hc₀, F.push _, ?_⟩
    exact N.push F (lit l 0) rfl
end
/-- the end of a turn over a range -/
def TurnR (h₀ : Heap) (L : Addr) (J : (Str → Option Value) → List (Addr × Obj) → Prop) (it : Addr × Obj) (Q : Flow → Shared → Prop) (s₁ : Shared) (f : Flow) (s₂ : Shared) : Prop :=
  match f with
  | .ret v => Q (.ret v) s₂
  | .brk => Q .next s₂
  | _ => ∃ h' tk' m' news', s₂ = { s₁ with heap := h', toks := tk' } ∧ Fr h₀ L h' m' ∧ News h₀ L h' (it :: news') ∧ (∀ q ∈ news', @Ne Nat q.1 it.1) ∧ J m' news'
theorem sTR {a b c d e f g x} (h : TurnR a b c d e f g x) : TurnR a b c d e f g x := h
theorem sTA {a b c d e f g x} (h : TurnA a b c d e f g x) : TurnA a b c d e f g x := h
theorem TurnR.next {h₀ h' : Heap} {L : Addr} {J : (Str → Option Value) → List (Addr × Obj) → Prop} {it : Addr × Obj} {Q : Flow → Shared → Prop} {s₁ s₂ : Shared} {tk' : Nat} {m' : Str → Option Value} {news' nw : List (Addr × Obj)}
    (e : s₂ = { s₁ with heap := h', toks := tk' }) (F : Fr h₀ L h' m') (N : News h₀ L h' nw) (hs : ∀ q ∈ it :: news', q ∈ nw) (hc : ∀ q ∈ news', @Ne Nat q.1 it.1) (hJ : J m' news') : TurnR h₀ L J it Q s₁ .next s₂ :=
  ⟨h', tk', m', news', e, F, news_sub N hs, hc, hJ⟩
section
variable {prog : Program} {w : World} {A : Around} {s : Shared} {env : Env} {h₀ : Heap} {L : Addr} {Q : Flow → Shared → Prop}
/-- a for over a range that begins anywhere -/
theorem iter_rangeA {x : Str} {px : Pos} {body : List Stmt} {n : Nat} {a b : Int} {r : Addr} {t u v : Tok} {m₀ : Str → Option Value} {news₀ : List (Addr × Obj)} (J : Nat → (Str → Option Value) → List (Addr × Obj) → Prop)
    (hh : A.handled = none) (hk : env.kindOf x = some .local) (hp : (env.scope.kind == .class || (env.scope.kind == .module && env.locals != env.globals)) = false) (hL : env.locals = L)
    (hr : IsRange s.heap r a b 1 t u v) (hb : b = a + n) (hn : n < 1000000) (ha : 0 ≤ a) (ha2 : a < 1000000)
    (F : Fr h₀ L s.heap m₀) (N : News h₀ L s.heap news₀) (hJ : J 0 m₀ news₀)
    (turn : ∀ k m news h tk t it, k < n → J k m news → (∀ q ∈ news, @Ne Nat q.1 it) → Fr h₀ L h (fun y => if y = x then some (.int (a + k) t) else m y) → News h₀ L h ((it, rit (a + k + 1) (n - k - 1)) :: news) →
      wpAny (model prog w) A (execs body env) (TurnR h₀ L (J (k + 1)) (it, rit (a + k + 1) (n - k - 1)) Q { s with heap := h, toks := tk }) (fun _ _ => False) { s with heap := h, toks := tk })
    (done : ∀ m news h tk, J n m news → Fr h₀ L h m → News h₀ L h news → Q .next { s with heap := h, toks := tk }) :
    wpAny (model prog w) A (pyIter (.ref r)) (fun it s₂ => codeAny (model prog w) A (.forLoop (.Name x px) it body [] env) (fun r s' => match r with | .ok f => Q f s' | .error e => cameBackBy (model prog w) A env (fun _ _ => False) e s') s₂) (fun _ _ => False) s := by
  subst hL hb
  have hsz : Builtin.Range.rangeSize a (a + (n : Int)) 1 = n := by
    unfold Builtin.Range.rangeSize
    split <;> (try split) <;> omega
  have hsm : Builtin.Range.small a (a + (n : Int)) 1 = true := by
    unfold Builtin.Range.small
    rw [hsz]
    unfold Builtin.Range.rangeFitsLong
    simp only [Bool.and_eq_true, Bool.or_eq_true, decide_eq_true_eq, beq_iff_eq]
    refine ⟨⟨⟨⟨?_, ?_⟩, ?_⟩, ?_⟩, ?_⟩ <;> (try simp) <;> omega
  refine wpAny_pyIter_range hr hsm ?_
  rw [hsz]
  have hLlt := F.ns.lt
  have hitL : env.locals ≠ s.heap.objs.size := Nat.ne_of_lt hLlt
  have hit0 : h₀.get? s.heap.objs.size = none := by
    cases hq : h₀.get? s.heap.objs.size with
    | none => rfl
    | some o => exact absurd (Heap.lt_size (F.keep _ _ hq)) (Nat.lt_irrefl _)
  let I : Nat → Shared → Prop := fun j s' => ∃ k h tk m news, j + k = n ∧ s' = { s with heap := h, toks := tk } ∧ J k m news ∧ (∀ q ∈ news, @Ne Nat q.1 s.heap.objs.size) ∧ Fr h₀ env.locals h m ∧ News h₀ env.locals h ((s.heap.objs.size, rit (a + k) (n - k)) :: news)
  refine codeAny_forLoop I ?_ n ?_ (fun _ => rfl)
  · rintro j s' ⟨k, h, tk, m, news, hjk, rfl, hJk, hcn, Fk, Nk⟩
    have hit : h.get? s.heap.objs.size = some (rit (a + k) (n - k)) := (Nk _ (.head _)).1
    have hne := hcn
    by_cases hkn : k < n
    · refine wpAny_pyNext_range_item (x := a + (k : Int)) (left := (n : Int) - k) (step := 1) hit (by omega) ?_
      intro h' hit' hsb
      have F' := fr_same Fk hitL hit0 hsb.extBut
      have N' : News h₀ env.locals h' ((s.heap.objs.size, rit (a + k + 1) (n - k - 1)) :: news) := by
        intro q hq
        rcases List.mem_cons.mp hq with rfl | hq
        · exact ⟨hit', Ne.symm hitL, hit0⟩
        · exact news_same (fun q hq => Nk q (.tail _ hq)) hne hsb.extBut q hq
      refine wpAny_assign_Name (wpAny_storeName_local hk F'.ns (fun h₂ hn₂ hs₂ => ?_) hp)
      have F₂ : Fr h₀ env.locals h₂ _ := F'.set hn₂ hs₂
      have N₂ := N'.set hs₂
      refine wpAny_mono (turn k m news h₂ (tk + 1 + 1) tk s.heap.objs.size hkn hJk hne F₂ N₂) (fun f s₃ hf => ?_) fun _ _ e => e.elim
      have fin : (∃ h' tk' m' news', s₃ = { s with heap := h', toks := tk' } ∧ Fr h₀ env.locals h' m' ∧ News h₀ env.locals h' ((s.heap.objs.size, rit (a + k + 1) (n - k - 1)) :: news') ∧ (∀ q ∈ news', @Ne Nat q.1 s.heap.objs.size) ∧ J (k + 1) m' news') → ∃ m, m < j ∧ I m s₃ := by
        rintro ⟨h', tk', m', news', rfl, F', N', hc', hJ'⟩
        refine ⟨j - 1, by omega, k + 1, h', tk', m', news', by omega, rfl, hJ', hc', F', ?_⟩
        have e : rit (a + ((k + 1 : Nat) : Int)) (n - (k + 1 : Nat)) = rit (a + k + 1) (n - k - 1) := by
          have e1 : a + ((k + 1 : Nat) : Int) = a + (k : Int) + 1 := by omega
          have e2 : (n : Int) - (k + 1 : Nat) = n - k - 1 := by omega
          rw [e1, ← e2]
        rw [e]; exact N'
      cases f with
      | next => exact fin hf
      | cont => exact fin hf
      | brk => exact hf
      | ret v => exact hf
    · have hk' : k = n := by omega
      subst hk'
      refine wpAny_pyNext_range_end hh hit (by omega) ?_
      intro h' hsb
      refine wpAny_execs_nil ?_
      exact done m news h' tk hJk (fr_same Fk hitL hit0 hsb) (news_same (fun q hq => Nk q (.tail _ hq)) hne hsb)
  · refine ⟨0, _, s.toks, m₀, news₀, by omega, rfl, hJ, fun q hq => Nat.ne_of_lt (Heap.lt_size (N q hq).1), F.push _, ?_⟩
    have := N.push F (rit a n) rfl
    simpa using this

end
section
open LCg LCt
variable {prog : Program} {w : World} {A : Around} {s : Shared} {h₀ : Heap} {L : Addr} {m : Str → Option Value} {env : Env}
theorem compEnd_mono {I C D : Addr} {s₁ s₂ : Shared} {oI oC oD : Obj} {S : List (Addr × Obj) → Prop} {r r' : Value → List (Addr × Obj) → Prop} {y : Value} (h : LCg.CompEnd h₀ L m s₁ I oI C oC D oD S r y s₂) (hr : ∀ y n, r y n → r' y n) :
    LCg.CompEnd h₀ L m s₁ I oI C oC D oD S r' y s₂ := by
  obtain ⟨h', tk, n, e, F, N, o, hS, hr'⟩ := h
  exact ⟨h', tk, n, e, F, N, o, hS, hr _ _ hr'⟩
/-- the turns of a comprehension with a test, by an invariant -/
theorem restT_ind {ct elt : Expr} {x : Str} {scope : Scope} {cl : List (Str × Addr)} {S : List (Addr × Obj) → Prop} {P : Nat → Value → Prop} {Fin : List Value → List (Addr × Obj) → Prop} {n₀ : Nat} (J : Nat → List Value → List (Addr × Obj) → Prop)
    (step : ∀ i ys news v I oI C oC D m₂ h tk (E' : Value → Shared → Prop), i < n₀ → J i ys news → P i v → LCg.NsObj oC m₂ → m₂ x = some v → Fr h₀ L h m → News h₀ L h ((I, oI) :: (C, oC) :: (D, LCg.lst ys) :: news) → LCg.Off3 I C D news → ((@Ne Nat I C) ∧ (@Ne Nat I D) ∧ (@Ne Nat C D)) →
      wpAny (model prog w) A (isTrue ct (compEnvC scope cl C env) (eval ct (compEnvC scope cl C env))) (fun ok s' => if ok = true then
        wpAny (model prog w) A (eval elt (compEnvC scope cl C env)) (LCg.CompEnd h₀ L m { s with heap := h, toks := tk } I oI C oC D (LCg.lst ys) S (fun y news' => J (i + 1) (ys ++ [y]) news')) E' s'
        else LCg.CompEnd h₀ L m { s with heap := h, toks := tk } I oI C oC D (LCg.lst ys) S (fun _ news' => J (i + 1) ys news') Value.none s') E' { s with heap := h, toks := tk })
    (fin : ∀ ys news, J n₀ ys news → Fin ys news) : ∀ k i ys news, i + k = n₀ → J i ys news → LCt.CompRestT prog w A h₀ L m env ct elt x scope cl s S P Fin k i ys news
  | 0, i, ys, news, e, hJ => LCt.CompRestT.zero (fin ys news (by rw [show i = n₀ by omega] at hJ; exact hJ))
  | k + 1, i, ys, news, e, hJ => by
    refine LCt.CompRestT.succ ?_
    intro v I oI C oC D m₂ h tk E' hP hC hx F N off ne
    refine wpAny_mono (step i ys news v I oI C oC D m₂ h tk E' (by omega) hJ hP hC hx F N off ne) (fun ok s' h' => ?_) fun _ _ e => e
    cases ok with
    | true =>
      simp only [if_true] at h' ⊢
      exact wpAny_mono h' (fun y s'' h'' => compEnd_mono h'' fun y n hr => restT_ind J step fin k (i + 1) _ _ (by omega) hr) fun _ _ e => e
    | false =>
      simp only [Bool.false_eq_true, if_false] at h' ⊢
      exact compEnd_mono h' fun y n hr => restT_ind J step fin k (i + 1) _ _ (by omega) hr
/-- the turns of a comprehension without a test -/
theorem rest_ind {elt : Expr} {x : Str} {scope : Scope} {cl : List (Str × Addr)} {S : List (Addr × Obj) → Prop} {P : Nat → Value → Prop} {Fin : List Value → List (Addr × Obj) → Prop} {n₀ : Nat} (J : Nat → List Value → List (Addr × Obj) → Prop)
    (step : ∀ i ys news v I oI C oC D m₂ h tk (E' : Value → Shared → Prop), i < n₀ → J i ys news → P i v → LCg.NsObj oC m₂ → m₂ x = some v → Fr h₀ L h m → News h₀ L h ((I, oI) :: (C, oC) :: (D, LCg.lst ys) :: news) → LCg.Off3 I C D news → ((@Ne Nat I C) ∧ (@Ne Nat I D) ∧ (@Ne Nat C D)) →
      wpAny (model prog w) A (eval elt (compEnvC scope cl C env)) (LCg.CompEnd h₀ L m { s with heap := h, toks := tk } I oI C oC D (LCg.lst ys) S (fun y news' => J (i + 1) (ys ++ [y]) news')) E' { s with heap := h, toks := tk })
    (fin : ∀ ys news, J n₀ ys news → Fin ys news) : ∀ k i ys news, i + k = n₀ → J i ys news → LCg.CompRest prog w A h₀ L m env elt x scope cl s S P Fin k i ys news
  | 0, i, ys, news, e, hJ => LCg.CompRest.zero (fin ys news (by rw [show i = n₀ by omega] at hJ; exact hJ))
  | k + 1, i, ys, news, e, hJ => by
    refine LCg.CompRest.succ ?_
    intro v I oI C oC D m₂ h tk E' hP hC hx F N off ne
    exact wpAny_mono (step i ys news v I oI C oC D m₂ h tk E' (by omega) hJ hP hC hx F N off ne) (fun y s'' h'' => compEnd_mono h'' fun y n hr => rest_ind J step fin k (i + 1) _ _ (by omega) hr) fun _ _ e => e
end
end

section
open PySem PySem.W PyProof.Rows
/-! the rows of a mail, and the mail with its line ends made even -/
def Fl (rs : List (List Nat)) : List Nat := rs.flatMap (· ++ [13, 10])
theorem Fl_append (a b : List (List Nat)) : Fl (a ++ b) = Fl a ++ Fl b := by simp [Fl]
theorem Fl_cons (r : List Nat) (b : List (List Nat)) : Fl (r :: b) = r ++ [13, 10] ++ Fl b := by simp [Fl]
theorem joinL_Fl : ∀ rs : List (List Nat), rs ≠ [] → joinL [13, 10] rs ++ [13, 10] = Fl rs
  | [], h => absurd rfl h
  | [x], _ => by simp [joinL, Fl]
  | x :: y :: r, _ => by
    rw [joinL, List.append_assoc, joinL_Fl (y :: r) (by simp), Fl_cons x]
def Clean (r : List Nat) : Prop := ∀ c ∈ r, c ≠ 13 ∧ c ≠ 10
theorem rowsAt_succ (mail : List Nat) (k : Nat) : rowsAt mail (k + 1) = if mail.getD k 0 = 13 ∨ mail.getD k 0 = 10 then
      if mail.getD k 0 = 13 ∨ k = 0 ∨ mail.getD (k - 1) 0 ≠ 13 then ((rowsAt mail k).1 ++ [(rowsAt mail k).2], []) else rowsAt mail k
    else ((rowsAt mail k).1, (rowsAt mail k).2 ++ [mail.getD k 0]) := rfl
def prevCR (mail : List Nat) (k : Nat) : Bool := decide (k ≠ 0 ∧ mail.getD (k - 1) 0 = 13)
theorem rows_fix (mail : List Nat) : ∀ k, k ≤ mail.length → Fl (rowsAt mail k).1 ++ (rowsAt mail k).2 ++ fixG (prevCR mail k) (mail.drop k) = fixG false mail
  | 0, _ => by simp [rowsAt, Fl, prevCR]
  | k + 1, h => by
    have ih := rows_fix mail k (by omega)
    rw [drop_cons (show k < mail.length by omega)] at ih
    rw [← ih]
    have hp : prevCR mail (k + 1) = decide (mail.getD k 0 = 13) := by simp [prevCR]
    rw [hp, rowsAt_succ]
    generalize mail.getD k 0 = c
    by_cases h13 : c = 13
    · subst h13
      simp [fixG, Fl_append, Fl]
    · by_cases h10 : c = 10
      · subst h10
        by_cases hk : k = 0 ∨ mail.getD (k - 1) 0 ≠ 13
        · have : prevCR mail k = false := by
            simp only [prevCR, decide_eq_false_iff_not, not_and]
            intro h0; rcases hk with hk | hk
            · exact absurd hk h0
            · exact hk
          rw [this]
          simp only [show (10 : Nat) = 13 ∨ (10 : Nat) = 10 from .inr rfl, if_true, show ¬ ((10 : Nat) = 13) by decide, false_or, if_pos hk, decide_false]
          simp [fixG, Fl_append, Fl]
        · have hk' := not_or.mp hk
          have : prevCR mail k = true := by
            simp only [prevCR, decide_eq_true_eq]
            exact ⟨hk'.1, Decidable.not_not.mp hk'.2⟩
          rw [this]
          simp only [show (10 : Nat) = 13 ∨ (10 : Nat) = 10 from .inr rfl, if_true, show ¬ ((10 : Nat) = 13) by decide, false_or, if_neg hk, decide_false]
          simp [fixG]
      · simp [fixG, h13, h10]
noncomputable def rowsOf (mail : List Nat) : List (List Nat) := (rowsAt mail mail.length).1 ++ [(rowsAt mail mail.length).2]
theorem rows_fixed (mail : List Nat) : fixG false mail ++ [13, 10] = Fl (rowsOf mail) := by
  have := rows_fix mail mail.length (Nat.le_refl _)
  rw [List.drop_of_length_le (Nat.le_refl _)] at this
  rw [← this, rowsOf, Fl_append]
  simp [fixG, Fl]
theorem rows_clean_at (mail : List Nat) : ∀ k, (∀ r ∈ (rowsAt mail k).1, Clean r) ∧ Clean (rowsAt mail k).2
  | 0 => by simp [rowsAt, Clean]
  | k + 1 => by
    obtain ⟨h1, h2⟩ := rows_clean_at mail k
    rw [rowsAt_succ]
    split
    · split
      · refine ⟨fun r hr => ?_, by simp [Clean]⟩
        rcases List.mem_append.mp hr with hr | hr
        · exact h1 r hr
        · rw [List.mem_singleton] at hr; subst hr; exact h2
      · exact ⟨h1, h2⟩
    · rename_i hc
      refine ⟨h1, fun c hm => ?_⟩
      rcases List.mem_append.mp hm with hm | hm
      · exact h2 c hm
      · rw [List.mem_singleton] at hm; subst hm
        exact not_or.mp hc
theorem rows_clean (mail : List Nat) : ∀ r ∈ rowsOf mail, Clean r := by
  intro r hr
  obtain ⟨h1, h2⟩ := rows_clean_at mail mail.length
  rcases List.mem_append.mp hr with hr | hr
  · exact h1 r hr
  · rw [List.mem_singleton] at hr; subst hr; exact h2
theorem rowsOf_ne (mail : List Nat) : rowsOf mail ≠ [] := by simp [rowsOf]
theorem rowsOf_len (mail : List Nat) : (rowsOf mail).length ≤ mail.length + 1 := by
  have := (rowsAt_len mail mail.length).1
  simp [rowsOf]; omega
def quoteRow (r : List Nat) : List Nat := if r.head? = some 46 then 46 :: r else r
theorem quote_clean {r : List Nat} (h : Clean r) : Clean (quoteRow r) := by
  unfold quoteRow
  split
  · intro c hc
    rcases List.mem_cons.mp hc with rfl | hc
    · decide
    · exact h c hc
  · exact h
theorem qd_off : ∀ (r z : List Nat), Clean r → qd false (r ++ 13 :: z) = r ++ qd false (13 :: z)
  | [], z, _ => rfl
  | c :: r, z, h => by
    have hc := h c (.head _)
    rw [List.cons_append]
    show (if false = true ∧ c = 46 then [46, 46] else [c]) ++ qd (decide (c = 10)) (r ++ 13 :: z) = _
    rw [decide_eq_false hc.2, qd_off r z fun d hd => h d (.tail _ hd)]
    simp
theorem qd_crlf (b : Bool) (z : List Nat) : qd b (13 :: 10 :: z) = 13 :: 10 :: qd true z := by
  simp [qd]
theorem qd_row (r z : List Nat) (h : Clean r) : qd true (r ++ [13, 10] ++ z) = quoteRow r ++ [13, 10] ++ qd true z := by
  cases r with
  | nil => simp [quoteRow, qd_crlf]
  | cons c r =>
    have hc := h c (.head _)
    have e := qd_off r (10 :: z) fun d hd => h d (.tail _ hd)
    rw [qd_crlf] at e
    show (if true = true ∧ c = 46 then [46, 46] else [c]) ++ qd (decide (c = 10)) ((r ++ [13, 10]) ++ z) = _
    rw [decide_eq_false hc.2, show (r ++ [13, 10]) ++ z = r ++ 13 :: 10 :: z by simp, e]
    unfold quoteRow
    by_cases h46 : c = 46
    · subst h46; simp
    · simp [h46]
theorem qd_rows : ∀ rs : List (List Nat), (∀ r ∈ rs, Clean r) → qd true (Fl rs) = Fl (rs.map quoteRow)
  | [], _ => rfl
  | r :: rs, h => by
    rw [Fl_cons, qd_row r _ (h r (.head _)), qd_rows rs fun q hq => h q (.tail _ hq), List.map_cons, Fl_cons]
theorem qd_app : ∀ (x z : List Nat) (b : Bool), qd b (x ++ [13, 10] ++ z) = qd b x ++ [13, 10] ++ qd true z
  | [], z, b => by simp [qd]
  | c :: r, z, b => by
    have := qd_app r z (decide (c = 10))
    simp only [List.append_assoc, List.cons_append, List.nil_append] at this
    simp [qd, this]
theorem rows_quoted (mail : List Nat) : qd true (fixG false mail) ++ [13, 10] = Fl ((rowsOf mail).map quoteRow) := by
  have := qd_app (fixG false mail) [] true
  rw [List.append_nil, rows_fixed, qd_rows _ (rows_clean mail)] at this
  rw [this]; simp [qd]
theorem qd_len : ∀ (x : List Nat) (b : Bool), (qd b x).length ≤ 2 * x.length
  | [], _ => by simp [qd]
  | c :: r, b => by
    have := qd_len r (decide (c = 10))
    simp only [qd, List.length_append, List.length_cons]
    split <;> simp <;> omega
theorem fixG_len : ∀ (x : List Nat) (b : Bool), (fixG b x).length ≤ 2 * x.length
  | [], _ => by simp [fixG]
  | c :: r, b => by
    have h1 := fixG_len r true
    have h2 := fixG_len r false
    simp only [fixG]
    split
    · simp; omega
    · split
      · split <;> simp <;> omega
      · simp; omega
/-! a cut of a text at a line end -/
theorem cut : ∀ (rs : List (List Nat)), (∀ r ∈ rs, Clean r) → ∀ A B : List Nat, Fl rs = A ++ [13, 10] ++ B → ∃ i, i < rs.length ∧ A ++ [13, 10] = Fl (rs.take (i + 1)) ∧ B = Fl (rs.drop (i + 1))
  | [], _, A, B, e => by
    have := congrArg List.length e
    simp [Fl] at this
  | r :: rs, h, A, B, e => by
    have hr := h r (.head _)
    rw [Fl_cons] at e
    simp only [List.append_assoc] at e
    rcases Nat.lt_trichotomy A.length r.length with hl | hl | hl
    · exfalso
      have e2 := congrArg (fun z => z[A.length]?) e
      simp only [List.getElem?_append_left hl, List.getElem?_append_right (Nat.le_refl A.length), Nat.sub_self] at e2
      rw [List.getElem?_eq_getElem hl] at e2
      simp at e2
      exact (hr _ (List.getElem_mem hl)).1 e2
    · obtain ⟨e1, e2⟩ := List.append_inj e hl.symm
      subst e1
      have e3 : Fl rs = B := by simpa using e2
      exact ⟨0, by simp, by simp [Fl], by simp [e3]⟩
    · have hlt : r.length + 2 ≤ A.length := by
        rcases Nat.lt_or_ge A.length (r.length + 2) with h3 | h3
        · exfalso
          have h4 : A.length = r.length + 1 := by omega
          have e2 := congrArg (fun z => z[r.length + 1]?) e
          have e3 : (A ++ ([13, 10] ++ B))[r.length + 1]? = some 13 := by
            rw [← h4, List.getElem?_append_right (Nat.le_refl A.length), Nat.sub_self]; rfl
          simp only [e3] at e2
          rw [List.getElem?_append_right (by omega), show r.length + 1 - r.length = 1 by omega] at e2
          simp at e2
        · exact h3
      have e1 : A = r ++ [13, 10] ++ A.drop (r.length + 2) := by
        have e2 := congrArg (fun z => z.take (r.length + 2)) e
        simp only [List.take_append_of_le_length hlt] at e2
        have e3 : (r ++ ([13, 10] ++ Fl rs)).take (r.length + 2) = r ++ [13, 10] := by
          rw [List.take_append, List.take_of_length_le (show r.length ≤ r.length + 2 by omega), show r.length + 2 - r.length = 2 by omega]; rfl
        rw [e3] at e2
        conv => lhs; rw [← List.take_append_drop (r.length + 2) A]
        rw [← e2]
      generalize A.drop (r.length + 2) = A' at e1
      subst e1
      have e4 : Fl rs = A' ++ [13, 10] ++ B := by simpa using e
      obtain ⟨i, hi, h1, h2⟩ := cut rs (fun q hq => h q (.tail _ hq)) A' B e4
      refine ⟨i + 1, by simp; omega, ?_, by simpa using h2⟩
      rw [List.take_succ_cons, Fl_cons, ← h1]; simp
end

section
open PySem PySem.W PyProof.Rows
abbrev Un := Bool × List Nat
abbrev Item := Option Un
/-- a sign fits a unit -/
def uOk (u : Un) (c : Nat) : Bool := decide (c ∈ u.2) != u.1
/-- the items, laid on the text H from a to b -/
noncomputable def Mp (H : List Nat) : List Item → Nat → Nat → Prop
  | [], a, b => a = b
  | none :: r, a, b => ∃ a', a ≤ a' ∧ Mp H r a' b
  | some u :: r, a, b => a < H.length ∧ uOk u (H.getD a 0) = true ∧ Mp H r (a + 1) b
theorem Mp_le {H : List Nat} : ∀ {I : List Item} {a b : Nat}, Mp H I a b → a ≤ b
  | [], a, b, h => Nat.le_of_eq h
  | none :: r, a, b, ⟨a', h1, h2⟩ => Nat.le_trans h1 (Mp_le h2)
  | some u :: r, a, b, ⟨_, _, h⟩ => Nat.le_of_succ_le (Mp_le h)
theorem Mp_append {H : List Nat} : ∀ {X Y : List Item} {a b : Nat}, Mp H (X ++ Y) a b ↔ ∃ c, Mp H X a c ∧ Mp H Y c b
  | [], Y, a, b => by simp [Mp]
  | none :: r, Y, a, b => by
    simp only [List.cons_append, Mp, Mp_append (X := r)]
    constructor
    · rintro ⟨a', h1, c, h2, h3⟩; exact ⟨c, ⟨a', h1, h2⟩, h3⟩
    · rintro ⟨c, ⟨a', h1, h2⟩, h3⟩; exact ⟨a', h1, c, h2, h3⟩
  | some u :: r, Y, a, b => by
    simp only [List.cons_append, Mp, Mp_append (X := r)]
    constructor
    · rintro ⟨h1, h2, c, h3, h4⟩; exact ⟨c, ⟨h1, h2, h3⟩, h4⟩
    · rintro ⟨c, ⟨h1, h2, h3⟩, h4⟩; exact ⟨h1, h2, c, h3, h4⟩
theorem Mp_shift {H : List Nat} {A x B : List Nat} (e : H = A ++ x ++ B) : ∀ {I : List Item} {a b : Nat}, b ≤ x.length → (Mp x I a b ↔ Mp H I (A.length + a) (A.length + b))
  | [], a, b, _ => by simp only [Mp]; omega
  | none :: r, a, b, hb => by
    simp only [Mp]
    constructor
    · rintro ⟨a', h1, h2⟩; exact ⟨A.length + a', by omega, (Mp_shift e hb).mp h2⟩
    · rintro ⟨a', h1, h2⟩
      refine ⟨a' - A.length, by omega, (Mp_shift e hb).mpr ?_⟩
      rw [show A.length + (a' - A.length) = a' by omega]; exact h2
  | some u :: r, a, b, hb => by
    have ih := Mp_shift e (I := r) (a := a + 1) hb
    simp only [Mp]
    rw [ih, ← Nat.add_assoc]
    constructor
    · rintro ⟨h1, h2, h3⟩
      refine ⟨by rw [e]; simp; omega, ?_, h3⟩
      rw [e, List.append_assoc]
      have : (A ++ (x ++ B)).getD (A.length + a) 0 = x.getD a 0 := by
        simp [List.getD_eq_getElem?_getD, List.getElem?_append_right, List.getElem?_append_left h1]
      rw [this]; exact h2
    · rintro ⟨h1, h2, h3⟩
      have h4 := Mp_le h3
      have h5 : a < x.length := by omega
      refine ⟨h5, ?_, h3⟩
      rw [e, List.append_assoc] at h2
      have : (A ++ (x ++ B)).getD (A.length + a) 0 = x.getD a 0 := by
        simp [List.getD_eq_getElem?_getD, List.getElem?_append_right, List.getElem?_append_left h5]
      rw [this] at h2; exact h2
/-! what _law_means reckons -/
def rangeL (a b : Nat) : List Nat := (List.range (b - a)).map (a + ·)
theorem mem_rangeL {a b k : Nat} : k ∈ rangeL a b ↔ a ≤ k ∧ k < b := by
  simp only [rangeL, List.mem_map, List.mem_range]
  constructor
  · rintro ⟨j, h1, rfl⟩; omega
  · rintro ⟨h1, h2⟩; exact ⟨k - a, by omega, by omega⟩
/-- the least of a list, or d -/
def leastL (d : Nat) (l : List Nat) : Nat := l.foldl Nat.min d
theorem leastL_spec : ∀ (l : List Nat) (d : Nat), leastL d l ≤ d ∧ (∀ k ∈ l, leastL d l ≤ k) ∧ (leastL d l = d ∨ leastL d l ∈ l)
  | [], d => ⟨Nat.le_refl _, by simp, .inl rfl⟩
  | x :: l, d => by
    obtain ⟨h1, h2, h3⟩ := leastL_spec l (Nat.min d x)
    have e : leastL d (x :: l) = leastL (Nat.min d x) l := rfl
    rw [e]
    have m1 : Nat.min d x ≤ d := Nat.min_le_left ..
    have m2 : Nat.min d x ≤ x := Nat.min_le_right ..
    refine ⟨Nat.le_trans h1 m1, ?_, ?_⟩
    · intro k hk
      rcases List.mem_cons.mp hk with rfl | hk
      · exact Nat.le_trans h1 m2
      · exact h2 k hk
    · rcases h3 with h3 | h3
      · by_cases hd : d ≤ x
        · left; rw [h3]; exact Nat.min_eq_left hd
        · right; rw [h3, show Nat.min d x = x from Nat.min_eq_right (by omega)]; exact .head _
      · exact .inr (.tail _ h3)
def stepPl (x : List Nat) (pl : List Nat) : Item → List Nat
  | none => rangeL (leastL (x.length + 1) pl) (x.length + 1)
  | some u => (pl.filter fun k => decide (k < x.length) && uOk u (x.getD k 0)).map (· + 1)
def meansB (I : List Item) (x : List Nat) : Bool := decide (x.length ∈ I.foldl (stepPl x) [0])
theorem mem_places (x : List Nat) : ∀ (I : List Item) (pl : List Nat), (∀ k ∈ pl, k ≤ x.length) → ∀ k, k ≤ x.length → (k ∈ I.foldl (stepPl x) pl ↔ ∃ k0 ∈ pl, Mp x I k0 k)
  | [], pl, h, k, hk => by simp [Mp]
  | none :: I, pl, h, k, hk => by
    obtain ⟨m1, m2, m3⟩ := leastL_spec pl (x.length + 1)
    rw [List.foldl_cons, mem_places x I _ (fun j hj => by have := mem_rangeL.mp hj; omega) k hk]
    constructor
    · rintro ⟨k1, h1, h2⟩
      obtain ⟨h3, h4⟩ := mem_rangeL.mp h1
      rcases m3 with m3 | m3
      · omega
      · exact ⟨_, m3, k1, h3, h2⟩
    · rintro ⟨k0, h1, a', h2, h3⟩
      have := Mp_le h3
      have := m2 k0 h1
      exact ⟨a', mem_rangeL.mpr ⟨by omega, by omega⟩, h3⟩
  | some u :: I, pl, h, k, hk => by
    rw [List.foldl_cons, mem_places x I _ (fun j hj => by
      simp only [stepPl, List.mem_map, List.mem_filter, Bool.and_eq_true, decide_eq_true_eq] at hj
      obtain ⟨i, ⟨_, hi, _⟩, rfl⟩ := hj; omega) k hk]
    constructor
    · rintro ⟨k1, h1, h2⟩
      simp only [stepPl, List.mem_map, List.mem_filter, Bool.and_eq_true, decide_eq_true_eq] at h1
      obtain ⟨i, ⟨h3, h4, h5⟩, rfl⟩ := h1
      exact ⟨i, h3, h4, h5, h2⟩
    · rintro ⟨i, h3, h4, h5, h2⟩
      exact ⟨i + 1, by simp only [stepPl, List.mem_map, List.mem_filter, Bool.and_eq_true, decide_eq_true_eq]; exact ⟨i, ⟨h3, h4, h5⟩, rfl⟩, h2⟩
theorem meansB_iff (I : List Item) (x : List Nat) : meansB I x = true ↔ Mp x I 0 x.length := by
  unfold meansB
  rw [decide_eq_true_eq, mem_places x I [0] (by simp) _ (Nat.le_refl _)]
  simp
/-! the held groups, gone through -/
def fits (H : List Nat) (g : List Un) (p : Nat) : Prop := ∀ k, k < g.length → p + k < H.length ∧ uOk (g.getD k (false, [])) (H.getD (p + k) 0) = true
theorem fits_nil (H : List Nat) (p : Nat) : fits H [] p := fun _ h => absurd h (by simp)
theorem fits_snoc {H : List Nat} {g : List Un} {u : Un} {p : Nat} : fits H (g ++ [u]) p ↔ fits H g p ∧ p + g.length < H.length ∧ uOk u (H.getD (p + g.length) 0) = true := by
  constructor
  · intro h
    refine ⟨fun k hk => ?_, ?_⟩
    · have := h k (by simp; omega)
      rw [List.getD_eq_getElem?_getD, List.getElem?_append_left hk, ← List.getD_eq_getElem?_getD] at this
      exact this
    · have := h g.length (by simp)
      simpa using this
  · rintro ⟨h1, h2⟩ k hk
    by_cases hk2 : k < g.length
    · have := h1 k hk2
      rw [List.getD_eq_getElem?_getD, List.getElem?_append_left hk2, ← List.getD_eq_getElem?_getD]
      exact this
    · have : k = g.length := by simp at hk; omega
      subst this
      simpa using h2
noncomputable def Gp (H : List Nat) : List (List Un) → Nat → Nat → Prop
  | [], a, e => a ≤ e
  | g :: r, a, e => ∃ p, a ≤ p ∧ fits H g p ∧ Gp H r (p + g.length) e
theorem Gp_mono {H : List Nat} : ∀ {gs : List (List Un)} {a a' e : Nat}, a' ≤ a → Gp H gs a e → Gp H gs a' e
  | [], _, _, _, h, h2 => Nat.le_trans h h2
  | _ :: _, _, _, _, h, ⟨p, h1, h2⟩ => ⟨p, Nat.le_trans h h1, h2⟩
/-- what _law_found gives -/
inductive FIs (H : List Nat) : List (List Un) → Nat → Int → Prop
  | nil {a : Nat} : FIs H [] a a
  | hit {g : List Un} {r : List (List Un)} {a p : Nat} {z : Int} : a ≤ p → fits H g p → (∀ p', a ≤ p' → p' < p → ¬ fits H g p') → FIs H r (p + g.length) z → FIs H (g :: r) a z
  | miss {g : List Un} {r : List (List Un)} {a : Nat} : (∀ p, a ≤ p → ¬ fits H g p) → FIs H (g :: r) a (-1)
theorem FIs.spec {H : List Nat} {gs : List (List Un)} {a : Nat} {z : Int} (h : FIs H gs a z) : (∃ e : Nat, z = e ∧ Gp H gs a e ∧ ∀ e', Gp H gs a e' → e ≤ e') ∨ (z = -1 ∧ ∀ e', ¬ Gp H gs a e') := by
  induction h with
  | @nil a => exact .inl ⟨a, rfl, Nat.le_refl _, fun _ h => h⟩
  | @hit g r a p z h1 h2 h3 _ ih =>
    have key : ∀ e', Gp H (g :: r) a e' → Gp H r (p + g.length) e' := by
      rintro e' ⟨p', g1, g2, g3⟩
      have : p ≤ p' := by
        rcases Nat.lt_or_ge p' p with h4 | h4
        · exact absurd g2 (h3 p' g1 h4)
        · exact h4
      exact Gp_mono (by omega) g3
    rcases ih with ⟨e, e1, e2, e3⟩ | ⟨e1, e2⟩
    · exact .inl ⟨e, e1, ⟨p, h1, h2, e2⟩, fun e' h => e3 e' (key e' h)⟩
    · exact .inr ⟨e1, fun e' h => e2 e' (key e' h)⟩
  | @miss g r a h => exact .inr ⟨rfl, fun e' ⟨p, h1, h2, _⟩ => h p h1 h2⟩
/-- the items in groups -/
noncomputable def grp (cur : List Un) : List Item → List (List Un)
  | [] => if cur = [] then [] else [cur]
  | none :: r => (if cur = [] then [] else [cur]) ++ grp [] r
  | some u :: r => grp (cur ++ [u]) r
theorem grp_Gp {H : List Nat} : ∀ {I : List Item} {cur : List Un} {a e : Nat}, Gp H (grp cur I) a e ↔ ∃ p, a ≤ p ∧ fits H cur p ∧ ∃ b, b ≤ e ∧ Mp H I (p + cur.length) b
  | [], cur, a, e => by
    by_cases hc : cur = []
    · subst hc
      simp only [grp, if_true, Gp, Mp, List.length_nil, Nat.add_zero]
      constructor
      · intro h; exact ⟨a, Nat.le_refl _, fits_nil _ _, a, h, rfl⟩
      · rintro ⟨p, h1, _, b, h2, rfl⟩; exact Nat.le_trans h1 h2
    · simp only [grp, if_neg hc, Gp, Mp]
      constructor
      · rintro ⟨p, h1, h2, h3⟩; exact ⟨p, h1, h2, _, h3, rfl⟩
      · rintro ⟨p, h1, h2, b, h3, rfl⟩; exact ⟨p, h1, h2, h3⟩
  | none :: r, cur, a, e => by
    by_cases hc : cur = []
    · subst hc
      simp only [grp, if_true, List.nil_append, grp_Gp (I := r), Mp, List.length_nil, Nat.add_zero]
      constructor
      · rintro ⟨p, h1, h2, b, h3, h4⟩; exact ⟨p, h1, h2, b, h3, p, Nat.le_refl _, h4⟩
      · rintro ⟨p, h1, h2, b, h3, a', h4, h5⟩; exact ⟨a', by omega, fits_nil _ _, b, h3, h5⟩
    · simp only [grp, if_neg hc, List.cons_append, List.nil_append, Gp, grp_Gp (I := r), Mp, List.length_nil, Nat.add_zero]
      constructor
      · rintro ⟨p, h1, h2, q, h3, _, b, h4, h5⟩; exact ⟨p, h1, h2, b, h4, q, h3, h5⟩
      · rintro ⟨p, h1, h2, b, h4, q, h3, h5⟩; exact ⟨p, h1, h2, q, h3, fits_nil _ _, b, h4, h5⟩
  | some u :: r, cur, a, e => by
    simp only [grp, grp_Gp (I := r), Mp, List.length_append, List.length_singleton, fits_snoc, Nat.add_assoc]
    constructor
    · rintro ⟨p, h1, ⟨h2, h3, h4⟩, b, h5, h6⟩; exact ⟨p, h1, h2, b, h5, h3, h4, h6⟩
    · rintro ⟨p, h1, h2, b, h5, h3, h4, h6⟩; exact ⟨p, h1, ⟨h2, h3, h4⟩, b, h5, h6⟩
theorem grp_iff {H : List Nat} {I : List Item} {e : Nat} : Gp H (grp [] I) 0 e ↔ ∃ a b, b ≤ e ∧ Mp H I a b := by
  rw [grp_Gp]
  simp only [List.length_nil, Nat.add_zero]
  constructor
  · rintro ⟨p, _, _, b, h1, h2⟩; exact ⟨p, b, h1, h2⟩
  · rintro ⟨p, b, h1, h2⟩; exact ⟨p, Nat.zero_le _, fits_nil _ _, b, h1, h2⟩
/-! between two line ends -/
abbrev crI : List Item := [some (false, [13]), some (false, [10])]
theorem Mp_cr {H : List Nat} {a b : Nat} : Mp H crI a b ↔ b = a + 2 ∧ a + 1 < H.length ∧ H.getD a 0 = 13 ∧ H.getD (a + 1) 0 = 10 := by
  simp only [Mp, uOk]
  simp
  omega
theorem crlf_split {H : List Nat} {a : Nat} (h : a + 1 < H.length) (h1 : H.getD a 0 = 13) (h2 : H.getD (a + 1) 0 = 10) : H = H.take a ++ [13, 10] ++ H.drop (a + 2) := by
  conv => lhs; rw [← List.take_append_drop a H, drop_cons (show a < H.length by omega), drop_cons h, h1, h2]
  simp
theorem getD_app (P Q : List Nat) (k : Nat) : (P ++ Q).getD (P.length + k) 0 = Q.getD k 0 := by
  simp [List.getD_eq_getElem?_getD, List.getElem?_append_right]
def DueIs (I : List Item) (rs : List (List Nat)) (z : Int) : Prop :=
  (∃ i j, i < j ∧ j ≤ rs.length ∧ meansB I (joinL [13, 10] ((rs.drop i).take (j - i))) = true ∧ (∀ j', j' < j → ∀ i', i' < j' → meansB I (joinL [13, 10] ((rs.drop i').take (j' - i'))) = false) ∧ z = ((joinL [13, 10] (rs.take j)).length + 4 : Nat)) ∨
  ((∀ j, j ≤ rs.length → ∀ i, i < j → meansB I (joinL [13, 10] ((rs.drop i).take (j - i))) = false) ∧ z = -1)
theorem Fl_len_mono {rs : List (List Nat)} {j j' : Nat} (h : j ≤ j') : (Fl (rs.take j)).length ≤ (Fl (rs.take j')).length := by
  have : rs.take j' = rs.take j ++ (rs.take j').drop j := by
    conv => lhs; rw [← List.take_append_drop j (rs.take j'), List.take_take, Nat.min_eq_left h]
  rw [this, Fl_append, List.length_append]; omega
/-- the places at which the whole run between two line ends may stand are the rows' ends -/
theorem Mp_runs {rs : List (List Nat)} (hc : ∀ r ∈ rs, Clean r) {I : List Item} {a b : Nat} : 
    Mp ([13, 10] ++ Fl rs) (crI ++ I ++ crI) a b ↔ ∃ i j, i < j ∧ j ≤ rs.length ∧ a = (Fl (rs.take i)).length ∧ b = 2 + (Fl (rs.take j)).length ∧ meansB I (joinL [13, 10] ((rs.drop i).take (j - i))) = true := by
  have hH : [13, 10] ++ Fl rs = Fl ([] :: rs) := by simp [Fl]
  have hc' : ∀ r ∈ [] :: rs, Clean r := by
    intro r hr
    rcases List.mem_cons.mp hr with rfl | hr
    · simp [Clean]
    · exact hc r hr
  rw [List.append_assoc, Mp_append]
  simp only [Mp_append, Mp_cr]
  constructor
  · rintro ⟨_, ⟨rfl, h1, h2, h3⟩, c, h4, rfl, h5, h6, h7⟩
    have s1 := crlf_split h1 h2 h3
    have s2 := crlf_split h5 h6 h7
    have hle := Mp_le h4
    rw [hH] at s1
    obtain ⟨i, hi, i1, i2⟩ := cut _ hc' _ _ s1
    rw [List.take_succ_cons] at i1
    rw [List.drop_succ_cons] at i2
    have s3 : Fl (rs.drop i) = ((Fl ([] :: rs)).drop (a + 2)).take (c - (a + 2)) ++ [13, 10] ++ (Fl ([] :: rs)).drop (c + 2) := by
      rw [← i2]
      rw [hH] at s2
      have := congrArg (fun z => z.drop (a + 2)) s2
      simp only [List.append_assoc] at this
      rw [List.drop_append_of_le_length (by rw [hH] at h5; simp; omega), List.drop_take] at this
      simpa using this
    obtain ⟨k, hk, k1, k2⟩ := cut _ (fun r hr => hc r (List.mem_of_mem_drop hr)) _ _ s3
    simp only [List.length_drop] at hk
    simp only [List.length_cons] at hi
    have hlen : a + 2 ≤ (Fl ([] :: rs)).length ∧ c + 2 ≤ (Fl ([] :: rs)).length := by rw [hH] at h1 h5; omega
    have ea : a = (Fl (rs.take i)).length := by
      have := congrArg List.length i1
      rw [Fl_cons [] (rs.take i)] at this
      simp only [List.length_append, List.length_take, List.length_cons, List.length_nil] at this
      omega
    have hne : (rs.drop i).take (k + 1) ≠ [] := by
      intro e; have := congrArg List.length e; simp only [List.length_take, List.length_drop, List.length_nil] at this; omega
    have ex : ((Fl ([] :: rs)).drop (a + 2)).take (c - (a + 2)) = joinL [13, 10] ((rs.drop i).take (k + 1)) := by
      have := joinL_Fl _ hne
      rw [← k1] at this
      exact (List.append_cancel_right this).symm
    have ej : rs.take (i + k + 1) = rs.take i ++ (rs.drop i).take (k + 1) := by
      rw [Nat.add_assoc, List.take_add]
    have ec : c = (Fl (rs.take (i + k + 1))).length := by
      have h8 := congrArg List.length k1
      rw [ej, Fl_append, List.length_append, ← h8]
      simp only [List.length_append, List.length_take, List.length_drop, List.length_cons, List.length_nil]
      omega
    refine ⟨i, i + k + 1, by omega, by omega, ea, by omega, ?_⟩
    rw [show i + k + 1 - i = k + 1 by omega, meansB_iff, ← ex]
    have hx : ((Fl ([] :: rs)).drop (a + 2)).take (c - (a + 2)) = ((Fl ([] :: rs)).drop (a + 2)).take (c - (a + 2)) := rfl
    have s4 : [13, 10] ++ Fl rs = (Fl ([] :: rs)).take (a + 2) ++ ((Fl ([] :: rs)).drop (a + 2)).take (c - (a + 2)) ++ ((Fl ([] :: rs)).drop (a + 2)).drop (c - (a + 2)) := by
      rw [List.append_assoc, List.take_append_drop, List.take_append_drop, hH]
    rw [Mp_shift s4 (Nat.le_refl _)]
    have l1 : ((Fl ([] :: rs)).take (a + 2)).length = a + 2 := by rw [List.length_take]; omega
    have l2 : (((Fl ([] :: rs)).drop (a + 2)).take (c - (a + 2))).length = c - (a + 2) := by rw [List.length_take, List.length_drop]; omega
    rw [l1, l2, Nat.add_zero, show a + 2 + (c - (a + 2)) = c by omega]
    exact h4
  · rintro ⟨i, j, hij, hj, rfl, rfl, hm⟩
    have hne : (rs.drop i).take (j - i) ≠ [] := by
      intro e; have := congrArg List.length e; simp only [List.length_take, List.length_drop, List.length_nil] at this; omega
    have ej : rs.take j = rs.take i ++ (rs.drop i).take (j - i) := by
      conv => lhs; rw [show j = i + (j - i) by omega, List.take_add]
    have er : rs = rs.take i ++ ((rs.drop i).take (j - i) ++ rs.drop j) := by
      rw [← List.append_assoc, ← ej, List.take_append_drop]
    have eF : Fl ((rs.drop i).take (j - i)) = joinL [13, 10] ((rs.drop i).take (j - i)) ++ [13, 10] := (joinL_Fl _ hne).symm
    rw [meansB_iff] at hm
    generalize hx : joinL [13, 10] ((rs.drop i).take (j - i)) = x at eF hm
    have hlj : (Fl (rs.take j)).length = (Fl (rs.take i)).length + x.length + 2 := by
      rw [ej, Fl_append, eF]; simp; omega
    have eA : [13, 10] ++ Fl (rs.take i) = Fl (rs.take i) ++ [13, 10] ∨ True := .inr trivial
    -- the text, cut
    have e1 : [13, 10] ++ Fl rs = ([13, 10] ++ Fl (rs.take i)) ++ x ++ ([13, 10] ++ Fl (rs.drop j)) := by
      conv => lhs; rw [er, Fl_append, Fl_append, eF]
      simp
    have e2 : ∃ A, [13, 10] ++ Fl (rs.take i) = A ++ [13, 10] ∧ A.length = (Fl (rs.take i)).length := by
      rcases List.eq_nil_or_concat (rs.take i) with h | ⟨l, r, h⟩
      · exact ⟨[], by simp [h, Fl], by simp [h, Fl]⟩
      · rw [h]
        refine ⟨[13, 10] ++ Fl l ++ r, by simp [Fl], by simp [Fl]; omega⟩
    obtain ⟨A, eA, lA⟩ := e2
    rw [eA] at e1
    refine ⟨A.length + 2, ⟨by omega, ?_, ?_, ?_⟩, A.length + 2 + x.length, ?_, by omega, ?_, ?_, ?_⟩
    · rw [e1, ← lA]; simp
    · rw [e1, ← lA]; simp [List.getD_eq_getElem?_getD]
    · rw [e1, ← lA]; simp [List.getD_eq_getElem?_getD, List.getElem?_append_right]
    · have := (Mp_shift (A := A ++ [13, 10]) e1 (I := I) (a := 0) (Nat.le_refl _)).mp hm
      simpa using this
    · rw [e1]; simp; omega
    · have := getD_app (A ++ [13, 10] ++ x) ([13, 10] ++ Fl (rs.drop j)) 0
      rw [← e1] at this
      simp only [List.length_append, List.length_cons, List.length_nil, Nat.add_zero] at this
      rw [show A.length + 2 + x.length = A.length + (0 + 1 + 1) + x.length by omega, this]; rfl
    · have := getD_app (A ++ [13, 10] ++ x) ([13, 10] ++ Fl (rs.drop j)) 1
      rw [← e1] at this
      simp only [List.length_append, List.length_cons, List.length_nil, Nat.add_zero] at this
      rw [show A.length + 2 + x.length + 1 = A.length + (0 + 1 + 1) + x.length + 1 by omega, this]; rfl
/-- what is found is what is due -/
theorem found_due {rs : List (List Nat)} (hc : ∀ r ∈ rs, Clean r) {I : List Item} {z z' : Int} (h1 : FIs ([13, 10] ++ Fl rs) (grp [] (crI ++ I ++ crI)) 0 z) (h2 : DueIs I rs z') : z = z' := by
  have hlen : ∀ j, 0 < j → j ≤ rs.length → (joinL [13, 10] (rs.take j)).length + 4 = 2 + (Fl (rs.take j)).length := by
    intro j h0 hj
    have hne : rs.take j ≠ [] := by
      intro e; have := congrArg List.length e; simp only [List.length_take, List.length_drop, List.length_nil] at this; omega
    have h := congrArg List.length (joinL_Fl _ hne)
    simp only [List.length_append, List.length_cons, List.length_nil] at h
    omega
  rcases h1.spec with ⟨e, rfl, g1, g2⟩ | ⟨rfl, g1⟩ <;> rcases h2 with ⟨i, j, hij, hj, hm, hno, rfl⟩ | ⟨hno, rfl⟩
  · rw [hlen j (by omega) hj]
    have a1 : Gp ([13, 10] ++ Fl rs) (grp [] (crI ++ I ++ crI)) 0 (2 + (Fl (rs.take j)).length) := grp_iff.mpr ⟨_, _, Nat.le_refl _, (Mp_runs hc).mpr ⟨i, j, hij, hj, rfl, rfl, hm⟩⟩
    have a2 := g2 _ a1
    obtain ⟨a, b, hb, hM⟩ := grp_iff.mp g1
    obtain ⟨i', j', hij', hj', _, rfl, hm'⟩ := (Mp_runs hc).mp hM
    have : j ≤ j' := by
      rcases Nat.lt_or_ge j' j with h | h
      · rw [hno j' h i' hij'] at hm'; cases hm'
      · exact h
    have := Fl_len_mono (rs := rs) this
    congr 1
    omega
  · exfalso
    obtain ⟨a, b, hb, hM⟩ := grp_iff.mp g1
    obtain ⟨i', j', hij', hj', _, rfl, hm'⟩ := (Mp_runs hc).mp hM
    rw [hno j' hj' i' hij'] at hm'; cases hm'
  · exfalso
    exact g1 _ (grp_iff.mpr ⟨_, _, Nat.le_refl _, (Mp_runs hc).mpr ⟨i, j, hij, hj, rfl, rfl, hm⟩⟩)
  · rfl
end

section
open PySem PySem.W PyProof.Rows PySem.Builtin PySem.Builtin.Str
/-! the groups of a pattern's pieces -/
def ptItem : Pt → Item
  | .star => none
  | p => some p.unit
noncomputable def pgrp (cur : List Pt) : List Pt → List (List Pt)
  | [] => if cur = [] then [] else [cur]
  | .star :: r => (if cur = [] then [] else [cur]) ++ pgrp [] r
  | p :: r => pgrp (cur ++ [p]) r
theorem pgrp_star (cur : List Pt) (r : List Pt) : pgrp cur (.star :: r) = (if cur = [] then [] else [cur]) ++ pgrp [] r := rfl
theorem pgrp_cons (cur : List Pt) (p : Pt) (r : List Pt) (h : p ≠ .star) : pgrp cur (p :: r) = pgrp (cur ++ [p]) r := by
  cases p <;> first | rfl | exact absurd rfl h
theorem ptItem_ne {p : Pt} (h : p ≠ .star) : ptItem p = some p.unit := by cases p <;> first | rfl | exact absurd rfl h
theorem grp_pgrp : ∀ (Q cur : List Pt), grp (cur.map Pt.unit) (Q.map ptItem) = (pgrp cur Q).map (·.map Pt.unit)
  | [], cur => by
    simp only [List.map_nil, grp, pgrp, List.map_eq_nil_iff]
    split <;> simp
  | p :: r, cur => by
    by_cases h : p = .star
    · subst h
      have := grp_pgrp r []
      rw [List.map_nil] at this
      rw [pgrp_star, List.map_cons, show ptItem Pt.star = none from rfl, grp, this, List.map_append]
      by_cases hc : cur = [] <;> simp [hc]
    · have := grp_pgrp r (cur ++ [p])
      rw [pgrp_cons _ _ _ h, List.map_cons, ptItem_ne h, grp, ← this]
      simp
theorem addP_ne {p : Pt} (h : p ≠ .star) (acc : List (Option (List Nat))) : addP acc p = acc ++ [some p.out] := by cases p <;> first | rfl | exact absurd rfl h
theorem trans_go : ∀ (Q cur : List Pt) (dn : List (List (List Nat))), (Q ++ [Pt.star]).foldl addP (encG dn ++ none :: cur.map fun p : Pt => some p.out) = encG (dn ++ (pgrp cur Q).map (·.map Pt.out)) ++ [none]
  | [], cur, dn => by
    simp only [List.nil_append, List.foldl_cons, List.foldl_nil, addP, pgrp]
    by_cases hc : cur = []
    · subst hc; simp
    · have : (encG dn ++ none :: cur.map fun p : Pt => some p.out).getLast? ≠ some none := by
        rw [List.getLast?_append, List.getLast?_cons, List.getLast?_map]
        cases h : cur.getLast? with
        | none => exact absurd (List.getLast?_eq_none_iff.mp h) hc
        | some q => simp
      rw [if_neg this, if_neg hc, encG_append]
      simp [encG]
  | p :: r, cur, dn => by
    by_cases h : p = .star
    · subst h
      rw [List.cons_append, List.foldl_cons, pgrp_star]
      by_cases hc : cur = []
      · subst hc
        have := trans_go r [] dn
        simp only [List.map_nil] at this
        simp only [addP, List.map_nil, if_true, List.nil_append]
        rw [if_pos (by simp)]
        exact this
      · have hl : (encG dn ++ none :: cur.map fun p : Pt => some p.out).getLast? ≠ some none := by
          rw [List.getLast?_append, List.getLast?_cons, List.getLast?_map]
          cases h : cur.getLast? with
          | none => exact absurd (List.getLast?_eq_none_iff.mp h) hc
          | some q => simp
        have := trans_go r [] (dn ++ [cur.map Pt.out])
        rw [encG_append] at this
        simp only [addP]
        rw [if_neg hl, if_neg hc]
        rw [show encG dn ++ (none :: cur.map fun p : Pt => some p.out) ++ [none] = encG dn ++ encG [cur.map Pt.out] ++ none :: ([] : List Pt).map (fun p => some p.out) by simp [encG], this]
        simp
    · rw [List.cons_append, List.foldl_cons, pgrp_cons _ _ _ h, addP_ne h]
      have := trans_go r (cur ++ [p]) dn
      rw [← this]
      simp
theorem transL_groups (Q : List Pt) : transL (.star :: Q ++ [.star]) = encG ((pgrp [] Q).map (·.map Pt.out)) ++ [none] := by
  have := trans_go Q [] []
  simpa [transL, addP, encG] using this
theorem pgrp_ne : ∀ (Q cur : List Pt), ∀ g ∈ pgrp cur Q, g ≠ []
  | [], cur, g, h => by
    simp only [pgrp] at h
    split at h
    · cases h
    · rw [List.mem_singleton] at h; subst h; assumption
  | p :: r, cur, g, h => by
    by_cases hp : p = .star
    · subst hp
      rw [pgrp_star] at h
      rcases List.mem_append.mp h with h | h
      · split at h
        · cases h
        · rw [List.mem_singleton] at h; subst h; assumption
      · exact pgrp_ne r [] g h
    · rw [pgrp_cons _ _ _ hp] at h
      exact pgrp_ne r _ g h
theorem pgrp_mem : ∀ (Q cur : List Pt), (∀ q ∈ cur, q ≠ .star) → ∀ g ∈ pgrp cur Q, ∀ q ∈ g, q ≠ .star ∧ (q ∈ Q ∨ q ∈ cur)
  | [], cur, hc, g, h, q, hq => by
    simp only [pgrp] at h
    split at h
    · cases h
    · rw [List.mem_singleton] at h; subst h; exact ⟨hc q hq, .inr hq⟩
  | p :: r, cur, hc, g, h, q, hq => by
    by_cases hp : p = .star
    · subst hp
      rw [pgrp_star] at h
      rcases List.mem_append.mp h with h | h
      · split at h
        · cases h
        · rw [List.mem_singleton] at h; subst h; exact ⟨hc q hq, .inr hq⟩
      · have := pgrp_mem r [] (by simp) g h q hq
        exact ⟨this.1, .inl (List.mem_cons_of_mem _ (by simpa using this.2))⟩
    · rw [pgrp_cons _ _ _ hp] at h
      have := pgrp_mem r (cur ++ [p]) (by
        intro q hq
        rcases List.mem_append.mp hq with hq | hq
        · exact hc q hq
        · rw [List.mem_singleton] at hq; subst hq; exact hp) g h q hq
      refine ⟨this.1, ?_⟩
      rcases this.2 with h1 | h1
      · exact .inl (.tail _ h1)
      · rcases List.mem_append.mp h1 with h1 | h1
        · exact .inr h1
        · rw [List.mem_singleton] at h1; subst h1; exact .inl (.head _)
theorem pgrp_len : ∀ (Q cur : List Pt), ((pgrp cur Q).map List.length).sum ≤ cur.length + Q.length
  | [], cur => by simp only [pgrp]; split <;> simp
  | p :: r, cur => by
    by_cases hp : p = .star
    · subst hp
      have := pgrp_len r []
      rw [pgrp_star, List.map_append, List.sum_append]
      split <;> simp at this ⊢ <;> omega
    · have := pgrp_len r (cur ++ [p])
      rw [pgrp_cons _ _ _ hp]
      simp at this ⊢; omega
theorem pgrp_count : ∀ (Q cur : List Pt), (pgrp cur Q).length ≤ ((pgrp cur Q).map List.length).sum := by
  intro Q cur
  have h := pgrp_ne Q cur
  generalize pgrp cur Q = gs at h
  induction gs with
  | nil => simp
  | cons g r ih =>
    have h1 := List.length_pos_iff.mpr (h g (.head _))
    have h2 := ih fun x hx => h x (.tail _ hx)
    simp only [List.length_cons, List.map_cons, List.sum_cons]; omega
theorem pgrp_nonempty (p : Pt) (h : p ≠ .star) : ∀ (Q cur : List Pt), cur ≠ [] → pgrp cur Q ≠ []
  | [], cur, hc => by simp [pgrp, hc]
  | q :: r, cur, hc => by
    by_cases hq : q = .star
    · subst hq; rw [pgrp_star, if_neg hc]; simp
    · rw [pgrp_cons _ _ _ hq]; exact pgrp_nonempty p h r _ (by simp)
/-! a text cut at its seams -/
def sepL : List Nat := [41, 40, 63, 62, 46, 42, 63]
/-- no opening behind a closing bracket -/
noncomputable def np : List Nat → Bool
  | a :: b :: r => !(a == 41 && b == 40) && np (b :: r)
  | _ => true
theorem np_get : ∀ (x : List Nat), np x = true → ∀ k, k + 1 < x.length → x[k]? = some 41 → x[k + 1]? ≠ some 40
  | [], _, k, hk, _ => by simp at hk
  | [a], _, k, hk, _ => by simp at hk
  | a :: b :: r, h, 0, _, h1 => by
    simp only [np, Bool.and_eq_true, Bool.not_eq_true', Bool.and_eq_false_iff, beq_eq_false_iff_ne] at h
    simp only [List.getElem?_cons_zero, Option.some.injEq] at h1
    simp only [Nat.zero_add, List.getElem?_cons_succ, List.getElem?_cons_zero, ne_eq, Option.some.injEq]
    rcases h.1 with h2 | h2
    · exact absurd h1 h2
    · exact h2
  | a :: b :: r, h, k + 1, hk, h1 => by
    simp only [np, Bool.and_eq_true] at h
    have := np_get (b :: r) h.2 k (by simp at hk ⊢; omega) (by simpa using h1)
    simpa using this
theorem np_append : ∀ (x y : List Nat), np x = true → np y = true → y.head? ≠ some 40 → np (x ++ y) = true
  | [], y, _, h, _ => h
  | [a], [], _, _, _ => rfl
  | [a], b :: r, _, h, h2 => by
    have : b ≠ 40 := by simpa using h2
    simp only [List.cons_append, List.nil_append, np, Bool.and_eq_true, Bool.not_eq_true', Bool.and_eq_false_iff, beq_eq_false_iff_ne]
    exact ⟨.inr this, h⟩
  | a :: b :: r, y, h, h1, h2 => by
    simp only [np, Bool.and_eq_true] at h
    have := np_append (b :: r) y h.2 h1 h2
    simp only [List.cons_append, np, Bool.and_eq_true]
    exact ⟨h.1, by simpa using this⟩
theorem out_head {p : Pt} (h : p ≠ .star) (z : List Nat) : (p.out ++ z).head? ≠ some 40 := by
  cases p with
  | star => exact absurd rfl h
  | ques => simp [Pt.out]
  | lit c =>
    simp only [Pt.out, escC]
    split
    · simp
    · rename_i hc
      simp only [List.cons_append, List.nil_append, List.head?_cons, ne_eq, Option.some.injEq]
      intro e; exact hc (by rw [e]; decide)
  | cls B => simp [Pt.out]
theorem out_np {p : Pt} (h : p.Ok) : np p.out = true := by
  cases p with
  | star => rfl
  | ques => rfl
  | lit c =>
    simp only [Pt.out, escC]
    split <;> simp [np]
  | cls B =>
    have hB : B ∈ clsB := h
    simp only [clsB, List.mem_cons, List.not_mem_nil, or_false] at hB
    rcases hB with rfl | rfl | rfl <;> decide
theorem outs_np : ∀ (g : List Pt), (∀ q ∈ g, q.Ok ∧ q ≠ .star) → np (g.flatMap Pt.out) = true
  | [], _ => rfl
  | p :: r, h => by
    rw [List.flatMap_cons]
    have hp := h p (.head _)
    have ih := outs_np r fun q hq => h q (.tail _ hq)
    refine np_append _ _ (out_np hp.1) ih ?_
    cases r with
    | nil => simp
    | cons q r =>
      rw [List.flatMap_cons]
      exact out_head (h q (.tail _ (.head _))).2 _
theorem at_get {T y : List Nat} {k : Nat} (h : StrLaws.At (S T) (S y) (S T).length k) : ∀ j, j < y.length → T[k + j]? = y[j]? := by
  intro j hj
  have h2 := h.2
  rw [StrLaws.subAt_eq] at h2
  have h3 := eq_of_beq h2
  simp only [S_len, S, List.toList_toArray] at h3
  have h4 := congrArg (fun z => z[j]?) h3
  simp only [List.getElem?_take_of_lt hj, List.getElem?_drop] at h4
  exact h4
theorem at_of {A y B : List Nat} : StrLaws.At (S (A ++ y ++ B)) (S y) (S (A ++ y ++ B)).length A.length := by
  refine ⟨by rw [S_len, S_len]; simp, ?_⟩
  rw [StrLaws.subAt_eq, S_len]
  simp [S]
theorem sub_mid (A x B : List Nat) : strSub (S (A ++ x ++ B)) A.length (A.length + x.length) = S x := by
  apply Str.ext'
  apply Array.toList_inj.mp
  rw [StrLaws.strSub_toList]
  simp [S]
theorem parts_go : ∀ (xs : List (List Nat)), xs ≠ [] → (∀ x ∈ xs, np x = true) → ∀ (pre : List Nat) (cuts : List Nat) (f : Nat),
    StrLaws.ChainG (S (pre ++ joinL sepL xs)) (S sepL) (S (pre ++ joinL sepL xs)).length pre.length cuts f → (∀ k, f ≤ k → ¬ StrLaws.At (S (pre ++ joinL sepL xs)) (S sepL) (S (pre ++ joinL sepL xs)).length k) →
    StrLaws.partsFrom (S (pre ++ joinL sepL xs)) 7 pre.length cuts = xs.map S
  | [], h, _, _, _, _, _, _ => absurd rfl h
  | [x], _, hx, pre, cuts, f, hC, hn => by
    cases cuts with
    | nil =>
      have := sub_mid pre x []
      simp only [joinL, List.append_nil] at this ⊢
      simp only [StrLaws.partsFrom, List.map_cons, List.map_nil, S_len, List.length_append]
      rw [this]
    | cons c r =>
      exfalso
      obtain ⟨h1, h2, _⟩ := hC
      have g0 := at_get h2 0 (by decide)
      have g1 := at_get h2 1 (by decide)
      have hb := h2.1
      simp only [joinL, S_len, List.length_append, show sepL.length = 7 from rfl] at hb g0 g1
      rw [List.getElem?_append_right (by omega)] at g0 g1
      have := np_get x (hx x (.head _)) (c - pre.length) (by omega) (by simpa [sepL] using g0)
      rw [show c - pre.length + 1 = c + 1 - pre.length by omega] at this
      exact this g1
  | x :: y :: r, _, hx, pre, cuts, f, hC, hn => by
    have eT : pre ++ joinL sepL (x :: y :: r) = (pre ++ x) ++ sepL ++ joinL sepL (y :: r) := by simp [joinL]
    have eT2 : pre ++ joinL sepL (x :: y :: r) = (pre ++ x ++ sepL) ++ joinL sepL (y :: r) := by simp [joinL]
    have hat : StrLaws.At (S (pre ++ joinL sepL (x :: y :: r))) (S sepL) (S (pre ++ joinL sepL (x :: y :: r))).length (pre ++ x).length := by
      rw [eT]; exact at_of
    rw [List.length_append] at hat
    cases cuts with
    | nil =>
      have : f = pre.length := hC
      exact absurd hat (hn _ (by omega))
    | cons c cs =>
      obtain ⟨h1, h2, h3, h4⟩ := hC
      have hc : c = pre.length + x.length := by
        rcases Nat.lt_trichotomy c (pre.length + x.length) with h | h | h
        · exfalso
          have g0 := at_get h2 0 (by decide)
          have g1 := at_get h2 1 (by decide)
          rw [eT, List.append_assoc, List.append_assoc, List.getElem?_append_right (by omega)] at g0 g1
          rw [List.getElem?_append_left (by omega)] at g0
          by_cases hk : c + 1 - pre.length < x.length
          · rw [List.getElem?_append_left hk] at g1
            have := np_get x (hx x (.head _)) (c - pre.length) (by omega) (by simpa [sepL] using g0)
            rw [show c - pre.length + 1 = c + 1 - pre.length by omega] at this
            exact this g1
          · rw [List.getElem?_append_right (by omega), show c + 1 - pre.length - x.length = 0 by omega] at g1
            simp [sepL] at g1
        · exact h
        · exact absurd hat (h3 _ (by omega) h)
      subst hc
      have ih := parts_go (y :: r) (by simp) (fun z hz => hx z (.tail _ hz)) (pre ++ x ++ sepL) cs f
      rw [← eT2] at ih
      have el : (pre ++ x ++ sepL).length = pre.length + x.length + (S sepL).length := by rw [S_len]; simp only [List.length_append]
      rw [el] at ih
      have := ih h4 hn
      rw [S_len] at this
      simp only [StrLaws.partsFrom, List.map_cons]
      rw [show pre.length + x.length + 7 = pre.length + x.length + sepL.length from rfl, this, List.map_cons]
      congr 1
      have := sub_mid pre x (sepL ++ joinL sepL (y :: r))
      rw [show pre ++ x ++ (sepL ++ joinL sepL (y :: r)) = pre ++ joinL sepL (x :: y :: r) by rw [eT]; simp] at this
      exact this
theorem strKind_pos (x : Str) : 1 ≤ PySem.Builtin.Str.strKind x := by unfold PySem.Builtin.Str.strKind; split <;> (try split) <;> omega
theorem split_join {xs : List (List Nat)} (h : xs ≠ []) (hx : ∀ x ∈ xs, np x = true) : Txt.split (S (joinL sepL xs)) (S sepL) = xs.map S := by
  obtain ⟨f, hC, hn⟩ := StrLaws.occ_tight (S (joinL sepL xs)) (S sepL) (by rw [S_len]; decide)
  have key := parts_go xs h hx [] _ f (by simpa using hC) (by simpa using hn)
  simp only [List.nil_append, List.length_nil] at key
  unfold Txt.split
  have hk : PySem.Builtin.Str.strKind (S sepL) = 1 := by decide +kernel
  split
  · rename_i hc
    rw [hk] at hc
    simp only [Bool.or_eq_true, decide_eq_true_eq, S_len] at hc
    have hs := strKind_pos (S (joinL sepL xs))
    have hl : (joinL sepL xs).length < sepL.length := by rcases hc with hc | hc <;> omega
    match xs, h with
    | [x], _ => simp [joinL]
    | x :: y :: r, _ =>
      exfalso
      simp only [joinL, List.length_append] at hl
      omega
  · split
    · rename_i hc
      rw [List.isEmpty_iff] at hc
      rw [hc] at key
      simp only [StrLaws.partsFrom] at key
      rw [← key]
      congr 1
      have := sub_mid [] (joinL sepL xs) []
      simp only [List.nil_append, List.append_nil, List.length_nil, Nat.zero_add] at this
      rw [S_len, this]
    · rw [StrLaws.partsBetween_eq, S_len]
      exact key
/-! what translate writes, cut open -/
theorem grpTexts : ∀ (gs : List (List (List Nat))), gs ≠ [] → (gs.map grpText).flatten = [40, 63, 62, 46, 42, 63] ++ joinL sepL (gs.map List.flatten) ++ [41]
  | [], h => absurd rfl h
  | [g], _ => by simp [grpText, joinL]
  | g :: g2 :: r, _ => by
    rw [List.map_cons, List.flatten_cons, grpTexts (g2 :: r) (by simp)]
    simp [grpText, joinL, sepL]
theorem joinText_eq {gs : List (List (List Nat))} (h : gs ≠ []) : joinText gs = [40, 63, 115, 58, 40, 63, 62, 46, 42, 63] ++ joinL sepL (gs.map List.flatten) ++ [41, 46, 42, 41, 92, 90] := by
  unfold joinText
  rw [grpTexts gs h]
  simp
theorem text_head {gs : List (List (List Nat))} (h : gs ≠ []) : Txt.slice (S (joinText gs)) none (some 10) = S [40, 63, 115, 58, 40, 63, 62, 46, 42, 63] := by
  rw [joinText_eq h]
  have := S_slice_to (l := [40, 63, 115, 58, 40, 63, 62, 46, 42, 63] ++ joinL sepL (gs.map List.flatten) ++ [41, 46, 42, 41, 92, 90]) (j := 10) (by simp)
  rw [show ((10 : Nat) : Int) = 10 from rfl] at this
  rw [this]
  simp
theorem text_tail {gs : List (List (List Nat))} (h : gs ≠ []) : Txt.slice (S (joinText gs)) (some (-6)) none = S [41, 46, 42, 41, 92, 90] := by
  rw [joinText_eq h]
  have := S_slice_last (l := [40, 63, 115, 58, 40, 63, 62, 46, 42, 63] ++ joinL sepL (gs.map List.flatten) ++ [41, 46, 42, 41, 92, 90]) (i := 6) (by decide) (by simp)
  rw [show -((6 : Nat) : Int) = -6 from rfl] at this
  rw [this, List.drop_append]
  have e : ([40, 63, 115, 58, 40, 63, 62, 46, 42, 63] ++ joinL sepL (gs.map List.flatten) ++ [41, 46, 42, 41, 92, 90]).length - 6 = ([40, 63, 115, 58, 40, 63, 62, 46, 42, 63] ++ joinL sepL (gs.map List.flatten)).length := by simp
  rw [e, List.drop_of_length_le (Nat.le_refl _), Nat.sub_self]; rfl
theorem text_mid {gs : List (List (List Nat))} (h : gs ≠ []) : Txt.slice (S (joinText gs)) (some 10) (some (-6)) = S (joinL sepL (gs.map List.flatten)) := by
  rw [joinText_eq h]
  generalize joinL sepL (gs.map List.flatten) = x
  have hl : ([40, 63, 115, 58, 40, 63, 62, 46, 42, 63] ++ x ++ [41, 46, 42, 41, 92, 90]).length = x.length + 16 := by simp
  have := slice_neg_upper (S ([40, 63, 115, 58, 40, 63, 62, 46, 42, 63] ++ x ++ [41, 46, 42, 41, 92, 90])) (i := 6) (some 10) (by decide) (by rw [S_len, hl]; omega)
  rw [show -((6 : Nat) : Int) = -6 from rfl] at this
  rw [this, S_len, hl, show (10 : Int) = ((10 : Nat) : Int) from rfl, S_slice (by omega) (by rw [hl]; omega)]
  congr 1
  rw [show x.length + 16 - 6 - 10 = x.length by omega, List.append_assoc]
  simp
end

section
open PySem PySem.W PyProof.Rows PySem.Calls
abbrev enumO (it : Addr) (i : Int) (old : Value) : Obj := { cls := .type "enumerate", dict := none, data := .fields #[.none, .bool false, .ref it, rawInt i, .none, old], slots := #[] }
def NoEn (o : Obj) : Prop := o.cls ≠ .type "enumerate" ∧ o.cls ≠ .type "list_iterator"
/-- the end of a turn over an enumeration -/
def TurnE (h₀ : Heap) (L : Addr) (J : (Str → Option Value) → List (Addr × Obj) → Prop) (a b : Addr × Obj) (Q : Flow → Shared → Prop) (s₁ : Shared) (f : Flow) (s₂ : Shared) : Prop :=
  match f with
  | .ret v => Q (.ret v) s₂
  | .brk => Q .next s₂
  | _ => ∃ h' tk' m' news', s₂ = { s₁ with heap := h', toks := tk' } ∧ Fr h₀ L h' m' ∧ News h₀ L h' (a :: b :: news') ∧ (∀ q ∈ news', NoEn q.2) ∧ J m' news'
theorem sTE {a b c d e f g x y} (h : TurnE a b c d e f g x y) : TurnE a b c d e f g x y := h
theorem TurnE.next {h₀ h' : Heap} {L : Addr} {J : (Str → Option Value) → List (Addr × Obj) → Prop} {a b : Addr × Obj} {Q : Flow → Shared → Prop} {s₁ s₂ : Shared} {tk' : Nat} {m' : Str → Option Value} {news' nw : List (Addr × Obj)}
    (e : s₂ = { s₁ with heap := h', toks := tk' }) (F : Fr h₀ L h' m') (N : News h₀ L h' nw) (hs : ∀ q ∈ a :: b :: news', q ∈ nw) (hc : ∀ q ∈ news', NoEn q.2) (hJ : J m' news') : TurnE h₀ L J a b Q s₁ .next s₂ :=
  ⟨h', tk', m', news', e, F, news_sub N hs, hc, hJ⟩
section
variable {prog : Program} {w : World} {A : Around} {s : Shared} {env : Env} {h₀ : Heap} {L : Addr} {Q : Flow → Shared → Prop}
theorem enumCall {E : Value → Shared → Prop} {l : Addr} {items : Array Value} {m : Str → Option Value} {news : List (Addr × Obj)} {R : Value → Shared → Prop} (F : Fr h₀ L s.heap m) (N : News h₀ L s.heap news) (hl : s.heap.IsList l items)
    (h : ∀ e it h', e ≠ it → Fr h₀ L h' m → News h₀ L h' ((e, enumO it 0 .none) :: (it, lit l 0) :: news) → R (.ref e) { s with heap := h' }) : wpAny (model prog w) A (call (.type "enumerate") [.ref l]) R E s := by
  obtain ⟨⟨c, dct, dt, sl⟩, hlg, hc, n, hd⟩ := id hl
  replace hc : c = .type "list" := hc
  replace hd : dt = .seq items n := hd
  subst hc hd
  refine callType_new PySem.F.called_enumerate (by decide) (PySem.F.typeCall_enumerate_1 _) (PySem.F.newCall_enumerate_1 _) (fun obj => PySem.F.args_object_init_2 obj _) PySem.F.entry_enumerate_new
    (meets_enumerate_newL l items n dct sl) ⟨hlg, ?_⟩
  have hz : (s.heap.push (lit l 0)).objs.size = s.heap.objs.size + 1 := Heap.size_push ..
  have N1 : News h₀ L (s.heap.push (lit l 0)) ((s.heap.objs.size, lit l 0) :: news) := N.push F _
  have F1 : Fr h₀ L (s.heap.push (lit l 0)) m := F.push _
  have N2 : News h₀ L ((s.heap.push (lit l 0)).push (enumO s.heap.objs.size 0 .none)) (((s.heap.push (lit l 0)).objs.size, enumO s.heap.objs.size 0 .none) :: (s.heap.objs.size, lit l 0) :: news) := N1.push F1 _
  rw [hz] at N2
  have he := (N2 _ (.head _)).1
  show Shared.TypeIs _ (.ref (s.heap.push _).objs.size) "enumerate" ∧ R (.ref (s.heap.push _).objs.size) _
  rw [Heap.size_push]
  exact ⟨⟨_, he, rfl⟩, h _ _ _ (Nat.succ_ne_self _) (F1.push _) N2⟩
theorem iter_enumA {xi xv : Str} {pi pv pt : Pos} {x1 : Nat} {body : List Stmt} {e it l : Addr} {items : Array Value} {m₀ : Str → Option Value} {news₀ : List (Addr × Obj)} (J : Nat → (Str → Option Value) → List (Addr × Obj) → Prop)
    (hh : A.handled = none) (hxi : env.kindOf xi = some .local) (hxv : env.kindOf xv = some .local) (hp : (env.scope.kind == .class || (env.scope.kind == .module && env.locals != env.globals)) = false) (hL : env.locals = L)
    (hl : ∀ k m news h, J k m news → Fr h₀ L h m → News h₀ L h news → h.IsList l items)
    (F : Fr h₀ L s.heap m₀) (N : News h₀ L s.heap ((e, enumO it 0 .none) :: (it, lit l 0) :: news₀)) (hei : e ≠ it) (hc₀ : ∀ q ∈ news₀, NoEn q.2) (hJ : J 0 m₀ news₀)
    (turn : ∀ k v m news h tk t oi, oi.cls = .type "list_iterator" → items[k]? = some v → J k m news → (∀ q ∈ news, NoEn q.2) → Fr h₀ L h (fun y => if y = xv then some v else if y = xi then some (.int (k : Nat) t) else m y) → News h₀ L h ((e, enumO it ((k : Int) + 1) v) :: (it, oi) :: news) →
      wpAny (model prog w) A (execs body env) (TurnE h₀ L (J (k + 1)) (e, enumO it ((k : Int) + 1) v) (it, oi) Q { s with heap := h, toks := tk }) (fun _ _ => False) { s with heap := h, toks := tk })
    (done : ∀ m news h tk, J items.size m news → Fr h₀ L h m → News h₀ L h news → Q .next { s with heap := h, toks := tk }) :
    wpAny (model prog w) A (pyIter (.ref e)) (fun it' s₂ => codeAny (model prog w) A (.forLoop (.Tuple [.Name xi pi, .Name xv pv] x1 pt) it' body [] env) (fun r s' => match r with | .ok f => Q f s' | .error e => cameBackBy (model prog w) A env (fun _ _ => False) e s') s₂) (fun _ _ => False) s := by
  subst hL
  refine wpAny_pyIter_enum (N _ (.head _)).1 ?_
  let I : Nat → Shared → Prop := fun j s' => ∃ k h tk m news old oi, (oi.cls = .type "list_iterator" ∧ oi.data = .fields #[.ref l, .int k 0]) ∧ j + k = items.size ∧ s' = { s with heap := h, toks := tk } ∧ J k m news ∧ (∀ q ∈ news, NoEn q.2) ∧ Fr h₀ env.locals h m ∧ News h₀ env.locals h ((e, enumO it (k : Int) old) :: (it, oi) :: news)
  refine codeAny_forLoop_any I ?_ items.size ⟨0, s.heap, s.toks, m₀, news₀, .none, _, ⟨rfl, rfl⟩, by omega, rfl, hJ, hc₀, F, N⟩
  rintro j s' ⟨k, h, tk, m, news, old, oi, hoi, hjk, rfl, hJk, hcn, Fk, Nk⟩
  have he : IsEnum h e it (k : Int) old := (Nk _ (.head _)).1
  have hitg : h.get? it = some oi := (Nk _ (.tail _ (.head _))).1
  have hit : h.IsListIter it l k := ⟨_, hitg, hoi.1, hoi.2⟩
  have Nk' : News h₀ env.locals h news := fun q hq => Nk q (.tail _ (.tail _ hq))
  have hlk := hl k m news h hJk Fk Nk'
  have heL := (Nk _ (.head _)).2
  have hiL := (Nk _ (.tail _ (.head _))).2
  have hne : ∀ q ∈ news, q.1 ≠ e ∧ q.1 ≠ it := by
    intro q hq
    have h1 := (Nk' q hq).1
    refine ⟨fun eq => ?_, fun eq => ?_⟩
    · rw [eq] at h1
      have h2 : h.get? e = some _ := he
      rw [h2] at h1
      exact (hcn q hq).1 (by rw [← Option.some.inj h1])
    · rw [eq, hitg] at h1
      exact (hcn q hq).2 (by rw [← Option.some.inj h1]; exact hoi.1)
  cases hv : items[k]? with
  | none =>
    have hsz : k = items.size := by
      have : items.size ≤ k := by simpa using hv
      omega
    refine wpAny_pyNext_enum_end hh he hit hlk hv fun h₁ he₁ => wpAny_execs_nil ?_
    subst hsz
    exact done m news h₁ tk hJk (fr_same Fk (Ne.symm hiL.1) hiL.2 he₁) (news_same Nk' (fun q hq => (hne q hq).2) he₁)
  | some v =>
    have hlt : k < items.size := (Array.getElem?_eq_some_iff.mp hv).1
    refine wpAny_pyNext_enum_item he hit hlk hv hei fun h₁ heo hit₁ ht₁ hz₁ hk₁ => ?_
    refine wpAny_letOwnedTupleGo_enum heo fun h₂ he₂ hs₂ => ?_
    replace hs₂ : Heap.SameBut e h₁ h₂ := hs₂
    have heH : e < h.objs.size := Heap.lt_size he
    have hiH : it < h.objs.size := Heap.lt_size hitg
    have ht₂ : h₂.IsTuple h.objs.size #[.int k tk, v] := ⟨_, (hs₂.2 _ (Nat.ne_of_gt heH)).trans ht₁, rfl, _, rfl⟩
    have hz₂ : h₂.objs.size = h.objs.size + 1 := hs₂.1.trans hz₁
    refine wpAny_assign_Tuple hh ht₂ rfl rfl fun h₃ hx₃ => ?_
    replace hx₃ : Heap.ExtBut h₂.objs.size h₂ h₃ := hx₃
    have old₃ : ∀ b o, b < h.objs.size → h₂.get? b = some o → h₃.get? b = some o := fun b o hb x => hx₃ b o (by rw [hz₂]; exact Nat.ne_of_lt (Nat.lt_succ_of_lt hb)) x
    have up : ∀ b o, b ≠ e → b ≠ it → h.get? b = some o → h₃.get? b = some o := fun b o h1 h2 x => old₃ b o (Heap.lt_size x) (hs₂.extBut b o h1 (hk₁ b o h1 h2 x))
    have hn₃ := Fk.ns.at fun o x => up env.locals o (Ne.symm heL.1) (Ne.symm hiL.1) x
    have F₃ : Fr h₀ env.locals h₃ m := ⟨hn₃, fun b o x => up b o (by rintro rfl; rw [heL.2] at x; cases x) (by rintro rfl; rw [hiL.2] at x; cases x) (Fk.keep b o x), Fk.above⟩
    obtain ⟨oi2, g1, g2, g3⟩ := hit₁
    have hit₃ : h₃.get? it = some oi2 := old₃ _ _ hiH (hs₂.extBut _ _ (Ne.symm hei) g1)
    have he₃ : h₃.get? e = some (enumO it ((k : Int) + 1) v) := old₃ _ _ heH he₂
    have N₃ : News h₀ env.locals h₃ ((e, enumO it ((k : Int) + 1) v) :: (it, oi2) :: news) := by
      intro q hq
      rcases List.mem_cons.mp hq with rfl | hq
      · exact ⟨he₃, heL⟩
      · rcases List.mem_cons.mp hq with rfl | hq
        · exact ⟨hit₃, hiL⟩
        · exact ⟨up _ _ (hne q hq).1 (hne q hq).2 (Nk' q hq).1, (Nk' q hq).2⟩
    show wpAny _ A (do holding [v] (assign (.Name xi pi) env (.int (k : Nat) tk)); do holding [] (assign (.Name xv pv) env v); pure ()) _ _ _
    refine wpAny_bind (wpAny_holding (wpAny_assign_Name (wpAny_storeName_local hxi F₃.ns (fun h₄ hn₄ hs₄ => ?_) hp)))
    have F₄ : Fr h₀ env.locals h₄ _ := F₃.set hn₄ hs₄
    have N₄ := N₃.set hs₄
    refine wpAny_bind (wpAny_holding (wpAny_assign_Name (wpAny_storeName_local hxv F₄.ns (fun h₅ hn₅ hs₅ => wpAny_pure ?_) hp)))
    have F₅ : Fr h₀ env.locals h₅ _ := F₄.set hn₅ hs₅
    have N₅ := N₄.set hs₅
    refine wpAny_mono (turn k v m news h₅ _ tk oi2 g2 hv hJk hcn F₅ N₅) (fun f s₃ hf => ?_) fun _ _ x => x.elim
    have fin : (∃ h' tk' m' news', s₃ = { s with heap := h', toks := tk' } ∧ Fr h₀ env.locals h' m' ∧ News h₀ env.locals h' ((e, enumO it ((k : Int) + 1) v) :: (it, oi2) :: news') ∧ (∀ q ∈ news', NoEn q.2) ∧ J (k + 1) m' news') → ∃ m, m < j ∧ I m s₃ := by
      rintro ⟨h', tk', m', news', rfl, F', N', hc', hJ'⟩
      refine ⟨j - 1, by omega, k + 1, h', tk', m', news', v, oi2, ⟨g2, g3⟩, by omega, rfl, hJ', hc', F', ?_⟩
      have e1 : ((k + 1 : Nat) : Int) = (k : Int) + 1 := by omega
      rw [e1]; exact N'
    cases f with
    | next => exact fin hf
    | cont => exact fin hf
    | brk => exact hf
    | ret v => exact hf
end
end

local macro_rules | `(tactic| walk_at "stF") => `(tactic| (walk_at "stE"; fail_if_success (with_reducible first | refine sTA ?_ | refine sALC ?_ | refine sCE ?_ | refine sCT ?_ | refine sCS ?_ | refine sAdd ?_ | refine sIn ?_ | refine sMin ?_ | refine sList ?_ | refine sLC ?_)))
local macro_rules | `(tactic| walk_at "stG") => `(tactic| (walk_at "stF"; fail_if_success (with_reducible refine sTR ?_)))

section
open PySem PySem.W PyProof.Rows PySem.Calls
set_option maxHeartbeats 8000000
local macro_rules | `(tactic| walk_at "stop1") => `(tactic| walk_at "stF")

theorem tup_at {h₀ h : Heap} {L d : Addr} {m : Str → Option Value} {its : Array Value} {n : Nat} (F : Fr h₀ L h m) (e : h₀.get? d = some { cls := .type "tuple", data := .seq its n }) : IsTup h d its := ⟨_, F.keep _ _ e, rfl, _, rfl⟩
theorem sub_tup {prog : Program} {w : World} {A : Around} {E : Value → Shared → Prop} {s : Shared} {value slice : Expr} {h₀ : Heap} {L d : Addr} {m : Str → Option Value} {its : Array Value} {n : Nat} {k : Int} {u : Tok} {x : Value} {Q : Value → Shared → Prop} (F : Fr h₀ L s.heap m) (e : h₀.get? d = some { cls := .type "tuple", data := .seq its n })
    (h0 : 0 ≤ k) (hk : k < 2 ^ 62) (hx : its[k.toNat]? = some x) (h : Q x s)
    (hs : subscripted slice false (.ref d) (.int k u) = operate [.ref d, .int k u] (getItem (.ref d) (.int k u)) := by with_unfolding_all rfl) (hg : ∀ r, letTemporaryGo value (.ref d) r = pure () := by intro _; with_unfolding_all rfl) :
    wpAny (model prog w) A (subscriptTail value slice (.ref d) (.int k u)) Q E s := by
  have hlt := (Array.getElem?_eq_some_iff.mp hx).1
  exact subscriptTail_builtin (tup_at F e).typeIs slot_tuple_getitem.lookup (PyProof.Rows.getItem_tuple (tup_at F e) (by omega) (by omega) (seqIndex_of h0 (by omega)) hx h) hs hg
theorem sub_t0 {prog : Program} {w : World} {A : Around} {E : Value → Shared → Prop} {s : Shared} {value slice : Expr} {h₀ : Heap} {L d : Addr} {m : Str → Option Value} {b : Bool} {y : List Nat} {t : Tok} {u : Tok} {Q : Value → Shared → Prop} (F : Fr h₀ L s.heap m) (e : h₀.get? d = some (tupObj b y t))
    (h : Q (.bool b) s) (hs : subscripted slice false (.ref d) (.int 0 u) = operate [.ref d, .int 0 u] (getItem (.ref d) (.int 0 u)) := by with_unfolding_all rfl) (hg : ∀ r, letTemporaryGo value (.ref d) r = pure () := by intro _; with_unfolding_all rfl) :
    wpAny (model prog w) A (subscriptTail value slice (.ref d) (.int 0 u)) Q E s := sub_tup F e (by decide) (by decide) rfl h hs hg
theorem sub_t1 {prog : Program} {w : World} {A : Around} {E : Value → Shared → Prop} {s : Shared} {value slice : Expr} {h₀ : Heap} {L d : Addr} {m : Str → Option Value} {b : Bool} {y : List Nat} {t : Tok} {u : Tok} {Q : Value → Shared → Prop} (F : Fr h₀ L s.heap m) (e : h₀.get? d = some (tupObj b y t))
    (h : Q (.str (S y) t) s) (hs : subscripted slice false (.ref d) (.int 1 u) = operate [.ref d, .int 1 u] (getItem (.ref d) (.int 1 u)) := by with_unfolding_all rfl) (hg : ∀ r, letTemporaryGo value (.ref d) r = pure () := by intro _; with_unfolding_all rfl) :
    wpAny (model prog w) A (subscriptTail value slice (.ref d) (.int 1 u)) Q E s := sub_tup F e (by decide) (by decide) rfl h hs hg
local macro_rules | `(tactic| walk_at "subscriptTail") => `(tactic| ((with_reducible show wpAny _ _ (subscriptTail _ _ (Value.ref _) (Value.int _ _)) _ _ _); first
  | ((refine' sub_t0 ?aF ?aI ?_); (case aF => with_reducible assumption); (case aI => with_reducible assumption))
  | ((refine' sub_t1 ?aF ?aI ?_); (case aF => with_reducible assumption); (case aI => with_reducible assumption))))
theorem news_made {h₀ h : Heap} {L D : Addr} {m : Str → Option Value} {news : List (Addr × Obj)} {ys : List Value} (F : Fr h₀ L h m) (N : News h₀ L h news) (P : NewPlain h news D ys.toArray) (h0 : h₀.get? D = none) : ∃ n, News h₀ L h ((D, W.listOf ys.toArray n) :: news) := by
  have hL := P.ne_locals F
  obtain ⟨⟨n, e⟩, _⟩ := P
  refine ⟨n, fun q hq => ?_⟩
  rcases List.mem_cons.mp hq with rfl | hq
  · exact ⟨e, hL, h0⟩
  · exact N q hq
theorem places_len (x : List Nat) : ∀ (I : List Item) (pl : List Nat), pl.length ≤ x.length + 1 → (I.foldl (stepPl x) pl).length ≤ x.length + 1
  | [], _, h => h
  | none :: I, pl, _ => by
    rw [List.foldl_cons]
    exact places_len x I _ (by simp [stepPl, rangeL])
  | some u :: I, pl, h => by
    rw [List.foldl_cons]
    refine places_len x I _ ?_
    simp only [stepPl, List.length_map]
    exact Nat.le_trans (List.length_filter_le _ _) h
theorem least_eq {d : Nat} {pl : List Nat} {M : Int} (h1 : M ∈ pl.map Int.ofNat ++ [(d : Int)]) (h2 : ∀ a ∈ pl.map Int.ofNat ++ [(d : Int)], M ≤ a) : M = (leastL d pl : Nat) := by
  obtain ⟨m1, m2, m3⟩ := leastL_spec pl d
  have a1 : M ≤ (leastL d pl : Nat) := by
    rcases m3 with m3 | m3
    · rw [m3]; exact h2 _ (by simp)
    · exact h2 _ (List.mem_append_left _ (List.mem_map.mpr ⟨_, m3, rfl⟩))
  have a2 : ((leastL d pl : Nat) : Int) ≤ M := by
    rcases List.mem_append.mp h1 with h | h
    · obtain ⟨k, hk, rfl⟩ := List.mem_map.mp h
      have := m2 k hk
      show ((leastL d pl : Nat) : Int) ≤ (k : Int)
      omega
    · rw [List.mem_singleton] at h; omega
  omega
theorem take_fold (x : List Nat) {I : List Item} {k : Nat} {i : Item} (h : I[k]? = some i) : (I.take (k + 1)).foldl (stepPl x) [0] = stepPl x ((I.take k).foldl (stepPl x) [0]) i := by
  rw [List.take_add_one, h]
  simp [List.foldl_append]
theorem rangeInts_rangeL {a b : Nat} : rangeInts (a : Int) 1 (b - a) = (rangeL a b).map Int.ofNat := by
  simp [rangeInts, rangeL]
inductive ItemsAt (h : Heap) : List Value → List Item → Prop
  | nil : ItemsAt h [] []
  | star {vs I} : ItemsAt h vs I → ItemsAt h (.none :: vs) (none :: I)
  | unit {d b x t vs I} : h.get? d = some (tupObj b x t) → ItemsAt h vs I → ItemsAt h (.ref d :: vs) (some (b, x) :: I)
theorem ItemsAt.length {h : Heap} {vs : List Value} {I : List Item} (x : ItemsAt h vs I) : vs.length = I.length := by
  induction x with
  | nil => rfl
  | star _ ih => simp [ih]
  | unit _ _ ih => simp [ih]
theorem ItemsAt.stays {h h' : Heap} {vs : List Value} {I : List Item} (x : ItemsAt h vs I) (k : h.StaysIn h') : ItemsAt h' vs I := by
  induction x with
  | nil => exact .nil
  | star _ ih => exact .star ih
  | unit e _ ih => exact .unit (k _ _ e) ih
theorem ItemsAt.get {h : Heap} {vs : List Value} {I : List Item} (x : ItemsAt h vs I) : ∀ (k : Nat) (v : Value), vs[k]? = some v → (v = .none ∧ I[k]? = some none) ∨ ∃ d b y t, v = .ref d ∧ h.get? d = some (tupObj b y t) ∧ I[k]? = some (some (b, y)) := by
  induction x with
  | nil => intro k v h; simp at h
  | star _ ih =>
    intro k v h
    cases k with
    | zero => left; simpa using h.symm
    | succ k => simpa using ih k v (by simpa using h)
  | @unit d b y t vs I e _ ih =>
    intro k v h
    cases k with
    | zero => right; exact ⟨d, b, y, t, by simpa using h.symm, e, rfl⟩
    | succ k => simpa using ih k v (by simpa using h)
inductive MnJ (I : List Item) (x : List Nat) (li cI cS : Addr) (tk₀ : Tok) (k : Nat) (m : Str → Option Value) (news : List (Addr × Obj)) : Prop
  | mk (lp : Addr) (vs : List Value) (n : Nat) (oI oS : Obj) (vI : Option Value) (e1 : m (Str.ofString "items") = some (.ref li)) (e2 : m (Str.ofString "places") = some (.ref lp)) (e3 : IntsAre vs (((I.take k).foldl (stepPl x) [0]).map Int.ofNat)) (e4 : oI.data = .cell vI) (e5 : oS.data = .cell (some (.str (S x) tk₀))) (e6 : (@Ne Nat lp cI ∧ @Ne Nat lp cS)) (e7 : news = [(lp, W.listOf vs.toArray n), (cI, oI), (cS, oS)])
theorem mnTurn {h₀ h' : Heap} {L li lp cI cS it : Addr} {I : List Item} {x : List Nat} {tk₀ : Tok} {k n : Nat} {Q : Flow → Shared → Prop} {s₁ s₂ : Shared} {tk' : Nat} {m : Str → Option Value} {nw : List (Addr × Obj)} {vs : List Value} {oI oS : Obj} {vI : Option Value} {io : Obj}
    (e : s₂ = { s₁ with heap := h', toks := tk' }) (F : Fr h₀ L h' m) (N : News h₀ L h' nw) (m0 : (it, io) ∈ nw) (m1 : (lp, W.listOf vs.toArray n) ∈ nw) (m2 : (cI, oI) ∈ nw) (m3 : (cS, oS) ∈ nw)
    (d1 : oI.data = .cell vI) (d2 : oS.data = .cell (some (.str (S x) tk₀))) (h1 : m (Str.ofString "items") = some (.ref li)) (h2 : m (Str.ofString "places") = some (.ref lp)) (hP : IntsAre vs (((I.take (k + 1)).foldl (stepPl x) [0]).map Int.ofNat)) :
    TurnA h₀ L (MnJ I x li cI cS tk₀ (k + 1)) (it, io) Q s₁ .next s₂ := by
  subst e
  have ne : ∀ c oc v, (c, oc) ∈ nw → oc.data = .cell v → @Ne Nat lp c := by
    rintro c oc v hc hd rfl
    have a1 := (N _ m1).1
    have a2 := (N _ hc).1
    simp only at a1 a2
    rw [a1] at a2
    rw [← Option.some.inj a2] at hd
    cases hd
  refine TurnA.next F (news' := [(lp, W.listOf vs.toArray n), (cI, oI), (cS, oS)]) (news_sub N ?_) ?_ ⟨lp, vs, n, oI, oS, vI, h1, h2, hP, d1, d2, ⟨ne _ _ _ m2 d1, ne _ _ _ m3 d2⟩, rfl⟩
  · intro q hq
    simp only [List.mem_cons, List.not_mem_nil, or_false] at hq
    rcases hq with rfl | rfl | rfl | rfl <;> assumption
  · intro q hq
    simp only [List.mem_cons, List.not_mem_nil, or_false] at hq
    rcases hq with rfl | rfl | rfl
    · exact .inl (by simp)
    · exact .inr ⟨_, d1⟩
    · exact .inr ⟨_, d2⟩
theorem compEnd_of {h₀ h' : Heap} {L I C D : Addr} {m : Str → Option Value} {s₁ s₂ : Shared} {oI oC oD : Obj} {S : List (Addr × Obj) → Prop} {rest : Value → List (Addr × Obj) → Prop} {y : Value} {tk : Nat} {nw : List (Addr × Obj)} (e : s₂ = { s₁ with heap := h', toks := tk }) (F : Fr h₀ L h' m)
    (N : News h₀ L h' ((I, oI) :: (C, oC) :: (D, oD) :: nw)) (off : LCg.Off3 I C D nw) (hS : S nw) (r : rest y nw) : LCg.CompEnd h₀ L m s₁ I oI C oC D oD S rest y s₂ := ⟨h', tk, nw, e, F, N, off, hS, r⟩
theorem filt_yes {pl : List Nat} {i c : Nat} {f : Nat → Bool} (h : pl.take (i + 1) = pl.take i ++ [c]) (hf : f c = true) : (((pl.take (i + 1)).filter f).map (· + 1)).map Int.ofNat = (((pl.take i).filter f).map (· + 1)).map Int.ofNat ++ [((c : Int) + 1)] := by
  rw [h]; simp [hf]
theorem filt_no {pl : List Nat} {i c : Nat} {f : Nat → Bool} (h : pl.take (i + 1) = pl.take i ++ [c]) (hf : f c = false) : (((pl.take (i + 1)).filter f).map (· + 1)).map Int.ofNat = (((pl.take i).filter f).map (· + 1)).map Int.ofNat := by
  rw [h]; simp [hf]
section
variable {prog : Program} {w : World} {A : Around} {s : Shared} {p : Program} {loose : List Str} {mean : ExcName → Option Value} {mg mb : Str → Option Value} {R : Value → Shared → Prop}
theorem means_spec {I : List Item} {x : List Nat} {li : Addr} {its : Array Value} {tk₀ : Tok} (X : (hd.heap_39 w.params).In s.heap) (T : Top p loose mean mg mb s.heap)
    (hd : A.depth < 890) (hh : A.handled = none) (HI : InpL s.heap li its) (hI : ItemsAt s.heap its.toList I) (hlen : I.length ≤ 200) (hx : x.length ≤ 1000)
    (hR : ∀ h' tk', s.heap.StaysIn h' → R (.bool (meansB I x)) { s with heap := h', toks := tk' }) :
    wpAny (model prog w) A (call (.ref 112) [.ref li, .str (S x) tk₀] []) R (fun _ _ => False) s := by
  obtain ⟨A1, A2, A3, A4, A5⟩ := A
  simp only at hd hh
  subst hh
  have hroom : A2 < recursionLimit := by unfold recursionLimit; omega
  have hxS : (S x).length ≤ 1000 := by rw [S_len]; exact hx
  refine' enterC (binds := [(Str.ofString "items", .ref li), (Str.ofString "signs", .str (S x) tk₀)]) X T hroom ?k6 ?k7 ?k9 ?kB ?kD ?_ ?c2 ?c3 ?c4
  (( (case k6 => k_is); (case k7 => k_is); (case k9 => exact BindsTo.of_eq rfl); (case kB => exact rfl); (case kD => decide +kernel); (case c2 => exact rfl); (case c3 => exact rfl); (case c4 => exact rfl)))
  intro L h₁ tk₁ cells F N Y
  obtain ⟨oI, oS, hE, d1, d2⟩ := CellsAre.two Y
  subst hE
  clear Y
  replace d1 : oI.data = .cell none := d1
  replace d2 : oS.data = .cell (some (.str (S x) tk₀)) := d2
  replace F := frC F [(Str.ofString "items", .ref li)] (by (repeat refine .cons (by rfl) ?_); exact .nil)
  try dsimp only
  try k_fold
  walk_at "go"
  refine wpAny_For ?_
  walk_at "go"
  with_reducible rename Fr _ _ _ _ => F1
  with_reducible rename News _ _ _ _ => N1
  with_reducible rename _ ∧ _ => l1
  refine iter_listA (items := its) (L := L) (MnJ I x li (L + 1 + 1) (L + 1) tk₀) rfl rfl (fun k m news h _ Fk Nk => HI.now Fk) F1 N1 ?_ ?_ ?_ ?_
  · intro q hq
    simp only [List.mem_cons, List.not_mem_nil, or_false] at hq
    rcases hq with rfl | rfl | rfl
    · exact .inl (by simp)
    · exact .inr ⟨_, d1⟩
    · exact .inr ⟨_, d2⟩
  · exact ⟨_, _, _, _, _, _, rfl, rfl, .cons 0 _ .nil, d1, d2, ⟨Nat.ne_of_gt l1.1, Nat.ne_of_gt l1.2⟩, rfl⟩
  · clear F1 N1 l1 d1 d2
    clear oI oS
    rintro k v m news h tk it hv ⟨lp, vs, n, oI, oS, vI, hm1, hm2, hP, d1, d2, hlp, rfl⟩ hc hne Fk Nk
    replace Fk := frC Fk [(Str.ofString "items", .ref li), (Str.ofString "places", .ref lp)] (by (repeat refine .cons (by assumption) ?_); exact .nil)
    have hle := hI.length
    have hk : k < I.length := by
      have := (Array.getElem?_eq_some_iff.mp hv).1
      rw [← hle, Array.length_toList]; exact this
    rcases hI.get k v (by rw [Array.getElem?_toList]; exact hv) with ⟨rfl, hIk⟩ | ⟨d, b, y, t, rfl, hdg, hIk⟩
    · walk_at "go"
      with_reducible rename Fr _ _ _ _ => F2
      with_reducible rename News _ _ _ _ => N2
      simp only [List.cons_append, List.nil_append] at N2
      have hpl := places_len x (I.take k) [0] (by simp)
      have hvl := hP.length
      rw [List.length_map] at hvl
      refine add_arrays F2 N2 (its := vs.toArray) (isList_led N2 (.tail _ (.tail _ (.head _)))) (isList_led N2 (.head _)) (fun h3 F3 N3 => ?_) (le_line (by simp only [List.size_toArray, List.length_cons, List.length_nil]; omega))
      walk_at "go"
      with_reducible rename Fr _ _ _ _ => F4
      with_reducible rename News _ _ _ _ => N4
      refine min_list_N (ns := ((I.take k).foldl (stepPl x) [0]).map Int.ofNat ++ [((x.length + 1 : Nat) : Int)]) rfl F4 N4 (isList_led N4 (.head _)) ?_ (by simp) (fun h5 M t5 tk5 F5 N5 hmem hle => ?_)
      · refine hP.append ?_
        rw [S_len]
        exact .cons _ _ .nil
      have hM := least_eq hmem hle
      subst hM
      walk_at "go"
      obtain ⟨lm1, lm2, lm3⟩ := leastL_spec ((I.take k).foldl (stepPl x) [0]) (x.length + 1)
      have hst0 := take_fold x hIk
      simp only [stepPl] at hst0
      generalize leastL (x.length + 1) ((I.take k).foldl (stepPl x) [0]) = M at *
      with_reducible rename Fr _ _ _ _ => F6
      with_reducible rename News _ _ _ _ => N6
      with_reducible rename IsRange _ _ _ _ _ _ _ _ => hRg
      rw [S_len] at hRg
      have hsz : Builtin.Range.rangeSize (M : Int) ((x.length : Int) + 1) 1 = ((x.length + 1 - M : Nat) : Int) := by
        unfold Builtin.Range.rangeSize
        split <;> (try split) <;> omega
      have hsm : Builtin.Range.small (M : Int) ((x.length : Int) + 1) 1 = true := by
        unfold Builtin.Range.small
        rw [hsz]
        unfold Builtin.Range.rangeFitsLong
        simp only [Bool.and_eq_true, Bool.or_eq_true, decide_eq_true_eq, beq_iff_eq]
        refine ⟨⟨⟨⟨?_, ?_⟩, ?_⟩, ?_⟩, ?_⟩ <;> (try simp) <;> omega
      refine list_rangeD rfl F6 N6 hRg hsm hsz (by omega) (fun h7 tk7 ys F7 N7 hst h0 hl hp hca => ?_)
      obtain ⟨n7, N8⟩ := news_made F7 N7 hp h0
      walk_at "go"
      with_reducible rename Fr _ _ _ _ => F9
      with_reducible rename News _ _ _ _ => N9
      with_reducible rename _ = Data.cell (some Value.none) => d3
      simp only [List.cons_append, List.nil_append] at N9
      have hys := IntsAre.ofCarried hca
      rw [rangeInts_rangeL, ← hst0] at hys
      refine mnTurn rfl F9 N9 ?_ (.head _) ?_ ?_ d3 d2 rfl rfl hys <;> simp
    · walk_at "go"
      with_reducible rename Fr _ _ _ _ => F2
      with_reducible rename News _ _ _ _ => N2
      simp only [List.cons_append, List.nil_append] at N2
      refine LCt.Assign_ListComp_T (F₀ := F2) rfl (by with_unfolding_all rfl) (by with_unfolding_all rfl) (by decide) (by rfl) (by decide) (by rfl) (by rfl) (by rfl) ?_
      walk_at "go"
      with_reducible rename _ = Data.cell (some (Value.ref d)) => d3
      have hpl := places_len x (I.take k) [0] (by simp)
      have hvl := hP.length
      rw [List.length_map] at hvl
      have hst0 := take_fold x hIk
      simp only [stepPl] at hst0
      generalize hPL : (I.take k).foldl (stepPl x) [0] = pl at *
      refine LCt.CompSrcT.ledger rfl F2 N2 (.tail _ (.head _)) (le_line (by simp only [List.size_toArray]; omega)) (fun g => ?_)
      refine restT_ind (n₀ := vs.toArray.size) (fun i ys nw => nw = [(it, lit li (k + 1)), (lp, W.listOf vs.toArray n), (L + 1 + 1, _), (L + 1, oS)] ∧ ys.length ≤ i ∧ IntsAre ys ((((pl.take i).filter fun k => decide (k < x.length) && uOk (b, y) (x.getD k 0)).map (· + 1)).map Int.ofNat)) ?_ ?_ _ 0 [] _ (by omega) ⟨rfl, Nat.le_refl _, .nil⟩
      · rintro i ys news v' I' oI' C' oC' D' m' h' tk' E' hi ⟨rfl, hyl, hy⟩ hv' hC' hx' F' N' off' ne'
        have hil : i < vs.length := by simpa using hi
        have hil2 : i < pl.length := by omega
        have hit : (pl.map Int.ofNat)[i]? = some ((pl.getD i 0 : Nat) : Int) := by
          rw [List.getElem?_map, List.getD_eq_getElem?_getD, List.getElem?_eq_getElem hil2]; rfl
        obtain ⟨t9, hv9⟩ := hP.get _ _ hit
        have hv8 : v' = .int ((pl.getD i 0 : Nat) : Int) t9 := by
          have : vs[i]? = some v' := by simpa using hv'
          rw [hv9] at this; exact (Option.some.inj this).symm
        subst hv8
        have off9 := off'
        simp only [LCg.Off3, and_true] at off'
        have htk : pl.take (i + 1) = pl.take i ++ [pl.getD i 0] := by
          rw [List.take_add_one, List.getD_eq_getElem?_getD, List.getElem?_eq_getElem hil2]; rfl
        generalize pl.getD i 0 = c at *
        have hcn : (c : Int) < (S x).length → Txt.item (S x) (c : Int) = S [x.getD c 0] := fun h9 => S_item (by rw [S_len] at h9; omega)
        walk_at "go"
        · with_reducible rename (_ != _) = true => hq1
          with_reducible rename _ < _ => hq2
          have hcx : c < x.length := by rw [S_len] at hq2; omega
          rw [hcn hq2, S_contains] at hq1
          have hf : (decide (c < x.length) && uOk (b, y) (x.getD c 0)) = true := by rw [decide_eq_true hcx]; exact hq1
          refine compEnd_of rfl F' N' off9 (.inr ⟨_, .tail _ (.head _), rfl, _, rfl⟩) ⟨rfl, by rw [List.length_append]; simp only [List.length_cons, List.length_nil]; omega, ?_⟩
          rw [filt_yes htk hf]
          exact hy.append (.cons _ _ .nil)
        · with_reducible rename (_ != _) = false => hq1
          with_reducible rename _ < _ => hq2
          have hcx : c < x.length := by rw [S_len] at hq2; omega
          rw [hcn hq2, S_contains] at hq1
          have hf : (decide (c < x.length) && uOk (b, y) (x.getD c 0)) = false := by rw [decide_eq_true hcx]; exact hq1
          refine compEnd_of rfl F' N' off9 (.inr ⟨_, .tail _ (.head _), rfl, _, rfl⟩) ⟨rfl, by omega, ?_⟩
          rw [filt_no htk hf]
          exact hy
        · with_reducible rename ¬ (_ < _) => hq2
          have hcx : ¬ c < x.length := by rw [S_len] at hq2; omega
          have hf : (decide (c < x.length) && uOk (b, y) (x.getD c 0)) = false := by rw [decide_eq_false hcx]; rfl
          refine compEnd_of rfl F' N' off9 (.inr ⟨_, .tail _ (.head _), rfl, _, rfl⟩) ⟨rfl, by omega, ?_⟩
          rw [filt_no htk hf]
          exact hy
      · rintro ys news ⟨rfl, hyl, hy⟩ D h' tk' F9 N9 _
        walk_at "go"
        rw [List.take_of_length_le (by simp only [List.size_toArray]; omega), ← hst0] at hy
        refine mnTurn (vs := ys) rfl F9 N9 ?_ (.head _) ?_ ?_ d3 d2 rfl rfl hy <;> simp
  · rintro m news h tk ⟨lp, vs, n, oI, oS, vI, hm1, hm2, hP, d1, d2, hlp, rfl⟩ Fk Nk
    replace Fk := frC Fk [(Str.ofString "items", .ref li), (Str.ofString "places", .ref lp)] (by (repeat refine .cons (by assumption) ?_); exact .nil)
    walk_at "go"
    refine in_list_ints (isList_led Nk (.head _)) hP ?_
    have hsz : its.size = I.length := by rw [← hI.length, Array.length_toList]
    have e : (((I.take its.size).foldl (stepPl x) [0]).map Int.ofNat).any (· == ((S x).length : Int)) = meansB I x := by
      rw [hsz, List.take_of_length_le (Nat.le_refl _), S_len, meansB]
      rw [Bool.eq_iff_iff, List.any_eq_true, decide_eq_true_eq]
      simp only [List.mem_map, beq_iff_eq]
      constructor
      · rintro ⟨_, ⟨j, hj, rfl⟩, e⟩
        have : j = x.length := Int.ofNat.inj e
        exact this ▸ hj
      · intro hj; exact ⟨_, ⟨_, hj, rfl⟩, rfl⟩
    rw [e]
    walk_at "go"
    exact hR _ _ Fk.keep
end
end

section
open PySem PySem.W PyProof.Rows PySem.Calls
set_option maxHeartbeats 8000000
local macro_rules | `(tactic| walk_at "stop1") => `(tactic| walk_at "stG")

def DuO (li2 li : Addr) (I : List Item) (rs : List (List Nat)) (k : Nat) (m : Str → Option Value) (news : List (Addr × Obj)) : Prop :=
  m (Str.ofString "items") = some (.ref li) ∧ m (Str.ofString "rows") = some (.ref li2) ∧ (∀ j, j ≤ k → ∀ i, i < j → meansB I (joinL [13, 10] ((rs.drop i).take (j - i))) = false) ∧ news = []
inductive DuI (li2 li : Addr) (I : List Item) (rs : List (List Nat)) (j : Nat) (it : Addr × Obj) (k : Nat) (m : Str → Option Value) (news : List (Addr × Obj)) : Prop
  | mk (t : Tok) (zj : Int) (e1 : zj = (j : Nat)) (e2 : m (Str.ofString "items") = some (.ref li)) (e3 : m (Str.ofString "rows") = some (.ref li2)) (e4 : m (Str.ofString "j") = some (.int zj t)) (e5 : (∀ i, i < k → meansB I (joinL [13, 10] ((rs.drop i).take (j - i))) = false)) (e6 : news = [it])
theorem strs_run {vs : Array Value} {rs : List (List Nat)} (h : StrsAre vs.toList (rs.map S)) {i j : Nat} (hij : i ≤ j) (hj : j ≤ rs.length) : StrsAre (slicePick vs (some (i : Int)) (some (j : Int)) none).toList (((rs.drop i).take (j - i)).map S) := by
  have hl := h.length
  rw [Array.length_toList, List.length_map] at hl
  rw [slicePick_run vs i j (by omega) hij]
  simpa [List.map_take, List.map_drop] using StrsAre.take' (StrsAre.drop' h i) (j - i)
theorem strs_upto {vs : Array Value} {rs : List (List Nat)} (h : StrsAre vs.toList (rs.map S)) {j : Nat} (hj : j ≤ rs.length) : StrsAre (slicePick vs none (some (j : Int)) none).toList ((rs.take j).map S) := by
  have hl := h.length
  rw [Array.length_toList, List.length_map] at hl
  rw [slicePick_upto vs j (by omega)]
  simpa [List.map_take] using StrsAre.take' h j
theorem strs_len (xs : List (List Nat)) : ((xs.map S).map (·.length)).sum = (xs.map List.length).sum := by
  rw [List.map_map]; congr 1; first | done | exact List.map_congr_left fun x _ => S_len x
theorem Fl_len : ∀ xs : List (List Nat), (Fl xs).length = (xs.map List.length).sum + 2 * xs.length
  | [] => rfl
  | x :: r => by rw [Fl_cons, List.length_append, Fl_len r]; simp; omega
theorem Fl_run_len (rs : List (List Nat)) (i j : Nat) : (Fl ((rs.drop i).take (j - i))).length ≤ (Fl rs).length := by
  have h1 : rs = rs.take i ++ ((rs.drop i).take (j - i) ++ (rs.drop i).drop (j - i)) := by rw [List.take_append_drop, List.take_append_drop]
  conv => rhs; rw [h1, Fl_append, Fl_append]
  simp only [List.length_append]; omega
theorem joinL_len (xs : List (List Nat)) : (joinL [13, 10] xs).length ≤ (Fl xs).length := by
  by_cases h : xs = []
  · subst h; simp [joinL]
  · rw [← joinL_Fl xs h]; simp
section
variable {prog : Program} {w : World} {A : Around} {s : Shared} {p : Program} {loose : List Str} {mean : ExcName → Option Value} {mg mb : Str → Option Value} {R : Value → Shared → Prop}
theorem due_spec {I : List Item} {rs : List (List Nat)} {li li2 : Addr} {its vR : Array Value} (X : (hd.heap_39 w.params).In s.heap) (T : Top p loose mean mg mb s.heap)
    (hd : A.depth < 880) (hh : A.handled = none) (HI : InpL s.heap li its) (hI : ItemsAt s.heap its.toList I) (HR : InpL s.heap li2 vR) (hS : StrsAre vR.toList (rs.map S)) (hlen : I.length ≤ 200) (hrl : rs.length ≤ 200) (hx : (Fl rs).length ≤ 1000)
    (hR : ∀ z t h' tk', s.heap.StaysIn h' → DueIs I rs z → R (.int z t) { s with heap := h', toks := tk' }) :
    wpAny (model prog w) A (call (.ref 119) [.ref li, .ref li2] []) R (fun _ _ => False) s := by
  obtain ⟨A1, A2, A3, A4, A5⟩ := A
  simp only at hd hh
  subst hh
  have hroom : A2 < recursionLimit := by unfold recursionLimit; omega
  have hvR : vR.size = rs.length := by have := hS.length; simpa using this
  refine' enterF (binds := [(Str.ofString "items", .ref li), (Str.ofString "rows", .ref li2)]) X T hroom ?k6 ?k7 ?k9 ?kB ?_ ?c2 ?c3 ?c4 ?c5
  (( (case k6 => k_is); (case k7 => k_is); (case k9 => exact BindsTo.of_eq rfl); (case c5 => decide); (case kB => exact locs rfl); (case c2 => exact rfl); (case c3 => exact rfl); (case c4 => exact rfl)))
  intro L h₁ F N
  replace F := frC F [(Str.ofString "items", .ref li), (Str.ofString "rows", .ref li2)] (by (repeat refine .cons (by rfl) ?_); exact .nil)
  try dsimp only
  try k_fold
  walk_at "go"
  refine wpAny_For ?_
  walk_at "go"
  with_reducible rename Fr _ _ _ _ => F1
  refine len_list (HR.now F1) (by omega) ?_
  walk_at "go"
  with_reducible rename Fr _ _ _ _ => F9
  with_reducible rename News _ _ _ _ => N9
  with_reducible rename IsRange _ _ _ _ _ _ _ _ => hRg
  refine iter_rangeA (n := rs.length) (L := L) (DuO li2 li I rs) rfl rfl rfl rfl hRg (by omega) (by omega) (by omega) (by omega) F9 N9 ⟨rfl, rfl, by intro j hj i hi; omega, rfl⟩ ?_ ?_
  · clear hRg F9 N9
    rintro k m news h tk t it hk ⟨hm1, hm2, hno, rfl⟩ hne Fk Nk
    replace Fk := frC Fk [(Str.ofString "items", .ref li), (Str.ofString "rows", .ref li2), (Str.ofString "j", .int (1 + k) t)] (by (repeat refine .cons (by first | assumption | rfl) ?_); exact .nil)
    walk_at "go"
    refine wpAny_For ?_
    walk_at "go"
    with_reducible rename Fr _ _ _ _ => F9
    with_reducible rename News _ _ _ _ => N9
    with_reducible rename IsRange _ _ _ _ _ _ _ _ => hRg
    refine iter_rangeA (n := k + 1) (L := L) (DuI li2 li I rs (k + 1) (it, rit (1 + k + 1) (rs.length - k - 1))) rfl rfl rfl rfl hRg (by omega) (by omega) (by omega) (by omega) F9 N9 ⟨_, _, by omega, rfl, rfl, rfl, by intro i hi; omega, rfl⟩ ?_ ?_
    · clear hRg F9 N9 hm1 hm2
      rintro i m news h tk t3 it2 hi ⟨tj, zj, hzj, hm1, hm2, hm3, hno2, rfl⟩ hne2 Fk Nk
      replace Fk := frC Fk [(Str.ofString "items", .ref li), (Str.ofString "rows", .ref li2), (Str.ofString "j", .int zj tj), (Str.ofString "i", .int ((i : Nat) : Int) t3)] (by (repeat refine .cons (by first | assumption | rfl | simp) ?_); exact .nil)
      subst hzj
      walk_at "go"
      with_reducible rename Fr _ _ _ _ => F3
      with_reducible rename News _ _ _ _ => N3
      try dsimp only
      refine slice_list (s := ⟨_, _, _, _, _⟩) F3 N3 (HR.now F3) (.int _ _) (.int _ _) (fun h' F4 N4 => ?_) rfl (fun r => rfl) (le_line (by omega))
      walk_at "go"
      have hS3 := strs_run hS (show i ≤ k + 1 by omega) (show k + 1 ≤ rs.length by omega)
      refine join_list (isList_led N4 (.head _)) hS3 ?_ ?_
      · rw [lit_crlf, S_len, strs_len]
        have := Fl_run_len rs i (k + 1)
        rw [List.length_map]
        have e9 := Fl_len ((rs.drop i).take (k + 1 - i))
        simp only [List.length_cons, List.length_nil]
        omega
      intro t' k'
      rw [lit_crlf, S_joinL]
      have hjl : (joinL [13, 10] ((rs.drop i).take (k + 1 - i))).length ≤ 1000 := by
        have := joinL_len ((rs.drop i).take (k + 1 - i))
        have := Fl_run_len rs i (k + 1)
        omega
      walk_at "go"
      try dsimp only
      refine means_spec (I := I) (X.keeps F4.keep) (T.keeps F4.keep) (by show A2 + 1 < 890; omega) rfl ⟨HI.now F4⟩ (hI.stays F4.keep) hlen hjl fun h'' tk'' hst => ?_
      replace F4 := fr_stays F4 hst
      replace N4 := news_stays N4 hst
      cases hmb : meansB I (joinL [13, 10] ((rs.drop i).take (k + 1 - i))) with
      | false =>
        walk_at "go"
        refine TurnR.next rfl F4 N4 (fun q hq => .tail _ hq) hne2 ⟨_, _, rfl, rfl, rfl, rfl, ?_, rfl⟩
        intro i' hi'
        by_cases h9 : i' < i
        · exact hno2 i' h9
        · rw [show i' = i by omega]; exact hmb
      | true =>
        walk_at "go"
        clear F3 N3
        with_reducible rename Fr _ _ _ _ => F3
        with_reducible rename News _ _ _ _ => N3
        try dsimp only
        refine slice_list (s := ⟨_, _, _, _, _⟩) F3 N3 (HR.now F3) .none (.int _ _) (fun h3 F5 N5 => ?_) rfl (fun r => rfl) (le_line (by omega))
        walk_at "go"
        have hS4 := strs_upto hS (show k + 1 ≤ rs.length by omega)
        have hfl : (Fl (rs.take (k + 1))).length ≤ 1000 := by
          have := Fl_run_len rs 0 (k + 1)
          simp only [List.drop_zero, Nat.sub_zero] at this
          omega
        refine join_list (isList_led N5 (.head _)) hS4 ?_ ?_
        · rw [S_len, strs_len]
          rw [List.length_map]
          have e9 := Fl_len (rs.take (k + 1))
          simp only [List.length_cons, List.length_nil]
          omega
        intro t' k'
        rw [S_joinL]
        have hjl2 : (S (joinL [13, 10] (rs.take (k + 1)))).length ≤ 1000 := by
          rw [S_len]
          have := joinL_len (rs.take (k + 1))
          omega
        walk_at "go"
        (repeat ((with_reducible (rename IsQ _ _ => hq8; rename Flow → Shared → Prop => Q8)); refine endR (Q' := Q8) hq8 ?_; clear hq8 Q8))
        refine hR _ _ _ _ F5.keep (.inl ⟨i, k + 1, by omega, by omega, hmb, fun j' hj' => hno j' (by omega), ?_⟩)
        rw [S_len]; rfl
    · rintro m news h tk ⟨tj, zj, hzj, hm1, hm2, hm3, hno2, rfl⟩ Fk Nk
      walk_at "go"
      refine TurnR.next rfl Fk Nk (fun q hq => hq) (fun q hq => nomatch hq) ⟨hm1, hm2, ?_, rfl⟩
      intro j hj i hi
      by_cases hjk : j ≤ k
      · exact hno j hjk i hi
      · rw [show j = k + 1 by omega] at hi ⊢
        exact hno2 i hi
  · rintro m news h tk ⟨hm1, hm2, hno, rfl⟩ Fk Nk
    replace Fk := frC Fk [(Str.ofString "items", .ref li), (Str.ofString "rows", .ref li2)] (by (repeat refine .cons (by assumption) ?_); exact .nil)
    walk_at "go"
    exact hR _ _ _ _ Fk.keep (.inr ⟨hno, rfl⟩)
end
end

section
open PySem PySem.W PyProof.Rows PySem.Calls
set_option maxHeartbeats 8000000
theorem sLdAt {M : Model} {A : Around} {E : Value → Shared → Prop} {s : Shared} {env : Env} {Q : Value → Shared → Prop} (h : wpAny M A (loadName env (Str.ofString "at")) Q E s) : wpAny M A (loadName env (Str.ofString "at")) Q E s := h
local macro_rules | `(tactic| walk_at "stop1") => `(tactic| (walk_at "stG"; fail_if_success (with_reducible first | refine sStAt ?_ | refine sSubUn ?_ | refine sStUn ?_ | refine sSplit ?_ | refine sNe ?_ | refine sW2 ?_ | refine sLdAt ?_)))

inductive FoJ (pg : List (List Pt)) (H : List Nat) (D cU cA cH : Addr) (its : Array Value) (th : Tok) (k : Nat) (m : Str → Option Value) (news : List (Addr × Obj)) : Prop
  | mk (oU oA oH : Obj) (vU : Option Value) (a : Nat) (ta : Tok) (e1 : oU.data = .cell vU) (e2 : oA.data = .cell (some (.int (a : Nat) ta))) (e3 : a ≤ H.length) (e4 : oH.data = .cell (some (.str (S H) th))) (e5 : (∀ z, FIs H ((pg.drop k).map (·.map Pt.unit)) a z → FIs H (pg.map (·.map Pt.unit)) 0 z)) (e6 : news = [(D, W.listOf its 0), (cU, oU), (cA, oA), (cH, oH)])
theorem stc {M : Model} {A : Around} {E : Value → Shared → Prop} {s : Shared} {name : Str} {scope : Scope} {L a : Addr} {cd : Value} {h₀ : Heap} {m : Str → Option Value} {nw : List (Addr × Obj)} {x : Str} {c : Addr} {o : Obj} {v₀ : Option Value} {v : Value} {Q : Unit → Shared → Prop}
    (rest : List (Addr × Obj)) (F : Fr h₀ L s.heap m) (N : News h₀ L s.heap nw) (hm : (c, o) ∈ nw) (hd : o.data = .cell v₀) (hs : ∀ q ∈ rest, q ∈ nw) (hne : ∀ q ∈ rest, @Ne Nat q.1 c) (hc : (cellsFrom (L + 1) scope.names []).lookup x = some c)
    (h : ∀ h' o', Fr h₀ L h' m → News h₀ L h' ((c, o') :: rest) → o'.data = .cell (some v) → Q () { s with heap := h' })
    (hk : scope.kind = .function := by rfl) (hl : (envOfC name scope L a cd).kindOf x = some .cell := by rfl) :
    wpAny M A (storeName (envOfC name scope L a cd) x v) Q E s :=
  stCN (own := []) (rest := rest) F (news_sub N (fun q hq => by
    rcases List.mem_cons.mp hq with rfl | hq
    · exact hm
    · exact hs q hq)) hc hd (fun q hq => nomatch hq) hne h hk hl
theorem new_ne {h₀ h h' : Heap} {L : Addr} {nw q : List (Addr × Obj)} (W : NewIn h h' q) (N : News h₀ L h nw) : ∀ a ∈ q, ∀ b ∈ nw, @Ne Nat a.1 b.1 := by
  intro a ha b hb e
  have h1 := (W a ha).2
  have h2 := (N b hb).1
  rw [e, h2] at h1; cases h1
theorem joinL_mem (sep : List Nat) : ∀ (xs : List (List Nat)) (x : List Nat), x ∈ xs → x.length ≤ (joinL sep xs).length
  | [y], x, h => by rw [List.mem_singleton] at h; subst h; exact Nat.le_refl _
  | y :: z :: r, x, h => by
    rw [joinL]
    rcases List.mem_cons.mp h with rfl | h
    · simp
    · have := joinL_mem sep (z :: r) x h
      simp only [List.length_append]; omega
theorem sub_tL0 {prog : Program} {w : World} {A : Around} {E : Value → Shared → Prop} {s : Shared} {value slice : Expr} {h₀ : Heap} {L d : Addr} {nw tups : List (Addr × Obj)} {b : Bool} {y : List Nat} {t : Tok} {u : Tok} {Q : Value → Shared → Prop} (N : News h₀ L s.heap nw) (hm : (d, tupObj b y t) ∈ tups) (hs' : ∀ q ∈ tups, q ∈ nw)
    (h : Q (.bool b) s) (hs : subscripted slice false (.ref d) (.int 0 u) = operate [.ref d, .int 0 u] (getItem (.ref d) (.int 0 u)) := by with_unfolding_all rfl) (hg : ∀ r, letTemporaryGo value (.ref d) r = pure () := by intro _; with_unfolding_all rfl) :
    wpAny (model prog w) A (subscriptTail value slice (.ref d) (.int 0 u)) Q E s := by
  have ht : IsTup s.heap d #[.bool b, .str (S y) t] := ⟨_, (N _ (hs' _ hm)).1, rfl, _, rfl⟩
  exact subscriptTail_builtin ht.typeIs slot_tuple_getitem.lookup (PyProof.Rows.getItem_tuple ht (by decide) (by decide) (seqIndex_of (by decide) (by simp)) rfl h) hs hg
theorem sub_tL1 {prog : Program} {w : World} {A : Around} {E : Value → Shared → Prop} {s : Shared} {value slice : Expr} {h₀ : Heap} {L d : Addr} {nw tups : List (Addr × Obj)} {b : Bool} {y : List Nat} {t : Tok} {u : Tok} {Q : Value → Shared → Prop} (N : News h₀ L s.heap nw) (hm : (d, tupObj b y t) ∈ tups) (hs' : ∀ q ∈ tups, q ∈ nw)
    (h : Q (.str (S y) t) s) (hs : subscripted slice false (.ref d) (.int 1 u) = operate [.ref d, .int 1 u] (getItem (.ref d) (.int 1 u)) := by with_unfolding_all rfl) (hg : ∀ r, letTemporaryGo value (.ref d) r = pure () := by intro _; with_unfolding_all rfl) :
    wpAny (model prog w) A (subscriptTail value slice (.ref d) (.int 1 u)) Q E s := by
  have ht : IsTup s.heap d #[.bool b, .str (S y) t] := ⟨_, (N _ (hs' _ hm)).1, rfl, _, rfl⟩
  exact subscriptTail_builtin ht.typeIs slot_tuple_getitem.lookup (PyProof.Rows.getItem_tuple ht (by decide) (by decide) (seqIndex_of (by decide) (by simp)) rfl h) hs hg
local macro_rules | `(tactic| walk_at "subscriptTail") => `(tactic| ((with_reducible show wpAny _ _ (subscriptTail _ _ (Value.ref _) (Value.int 0 _)) _ _ _); (refine' sub_tL0 ?aF ?aI ?aS ?_); (case aF => with_reducible assumption); (case aI => with_reducible assumption); (case aS => (intro q hq; repeat (first | exact hq | apply List.mem_cons_of_mem)))))
local macro_rules | `(tactic| walk_at "subscriptTail") => `(tactic| ((with_reducible show wpAny _ _ (subscriptTail _ _ (Value.ref _) (Value.int 1 _)) _ _ _); (refine' sub_tL1 ?aF ?aI ?aS ?_); (case aF => with_reducible assumption); (case aI => with_reducible assumption); (case aS => (intro q hq; repeat (first | exact hq | apply List.mem_cons_of_mem)))))
theorem len_S {prog : Program} {w : World} {A : Around} {E : Value → Shared → Prop} {s : Shared} {l : List Nat} {t : Tok} {Q : Value → Shared → Prop} (hl : l.length ≤ 1000) (h : Q (.int (S l).length (s.toks + 1)) { s with toks := s.toks + 1 + 1 }) : wpAny (model prog w) A (call (.builtin "len") [.str (S l) t]) Q E s :=
  len_str (by rw [S_len]; omega) h
local macro_rules | `(tactic| walk_at "call builtin:len") => `(tactic| ((with_reducible show wpAny _ _ (call (Value.builtin "len") [Value.str (S _) _]) _ _ _); (refine len_S (by with_reducible assumption) ?_)))
inductive WhJ (g : List Un) (H : List Nat) (it : Addr × Obj) (D lU cU cA cH : Addr) (its vs : Array Value) (n : Nat) (tups : List (Addr × Obj)) (th : Tok) (a0 : Nat) (k : Nat) (m : Str → Option Value) (news : List (Addr × Obj)) : Prop
  | mk (oU oA oH : Obj) (a : Nat) (ta : Tok) (e1 : oU.data = .cell (some (.ref lU))) (e2 : oA.data = .cell (some (.int (a : Nat) ta))) (e3 : oH.data = .cell (some (.str (S H) th))) (e4 : a + k = H.length + 1) (e5 : (a0 ≤ a ∧ a ≤ H.length)) (e6 : (∀ p, a0 ≤ p → p < a → ¬ fits H g p)) (e7 : news = (lU, W.listOf vs n) :: it :: (D, W.listOf its 0) :: (cU, oU) :: (cA, oA) :: (cH, oH) :: tups)
def badK (g : List Un) (H : List Nat) (a k : Nat) : Bool := !(decide (a + k < H.length) && uOk (g.getD k (false, [])) (H.getD (a + k) 0))
theorem bad_nil {g : List Un} {H : List Nat} {a : Nat} : ((List.range g.length).filter (badK g H a)).map Int.ofNat = [] ↔ fits H g a := by
  rw [List.map_eq_nil_iff, List.filter_eq_nil_iff]
  constructor
  · intro h k hk
    have := h k (List.mem_range.mpr hk)
    simpa [badK] using this
  · intro h k hk
    have := h k (List.mem_range.mp hk)
    simpa [badK] using this
theorem filt_yes' {i : Nat} {f : Nat → Bool} (hf : f i = true) : ((List.range (i + 1)).filter f).map Int.ofNat = ((List.range i).filter f).map Int.ofNat ++ [(i : Int)] := by
  rw [List.range_succ]; simp [hf]
theorem filt_no' {i : Nat} {f : Nat → Bool} (hf : f i = false) : ((List.range (i + 1)).filter f).map Int.ofNat = ((List.range i).filter f).map Int.ofNat := by
  rw [List.range_succ]; simp [hf]
theorem UnitsIn.get {tups : List (Addr × Obj)} {vs : List Value} {us : List Un} (h : UnitsIn tups vs us) : ∀ (k : Nat), k < us.length → ∃ d b y t, vs[k]? = some (.ref d) ∧ (d, tupObj b y t) ∈ tups ∧ us.getD k (false, []) = (b, y) := by
  induction h with
  | nil => intro k hk; simp at hk
  | @cons d b y t vs us hm _ ih =>
    intro k hk
    cases k with
    | zero => exact ⟨d, b, y, t, rfl, hm, rfl⟩
    | succ k =>
      obtain ⟨d', b', y', t', e1, e2, e3⟩ := ih k (by simpa using hk)
      exact ⟨d', b', y', t', by simpa using e1, e2, by simpa using e3⟩
theorem outs_len : ∀ ps : List Pt, (∀ q ∈ ps, q.Ok ∧ q ≠ .star) → ps.length ≤ (ps.flatMap Pt.out).length
  | [], _ => by simp
  | p :: r, hs => by
    have h1 : 1 ≤ p.out.length := by
      have := (hs p (.head _)).2
      cases p with
      | star => exact absurd rfl this
      | ques => simp [Pt.out]
      | lit c => simp only [Pt.out, escC]; split <;> simp
      | cls B => simp [Pt.out]
    have := outs_len r fun q hq => hs q (.tail _ hq)
    rw [List.flatMap_cons, List.length_append, List.length_cons]; omega
theorem n32 (L : Nat) : L + 1 + 1 + 1 ≠ L + 1 + 1 := by omega
theorem n12 (L : Nat) : L + 1 ≠ L + 1 + 1 := by omega
theorem n13 (L : Nat) : L + 1 ≠ L + 1 + 1 + 1 := by omega
theorem n23 (L : Nat) : L + 1 + 1 ≠ L + 1 + 1 + 1 := by omega
theorem getD_units (g : List Pt) (k : Nat) (h : k < g.length) : ∃ q, g[k]? = some q := ⟨g[k], by simp [h]⟩
theorem noIt_of {o : Obj} {v : Option Value} (h : o.data = .cell v) : NoIt o := .inr ⟨v, h⟩
theorem vals_get {l : List (Str × Tok)} {xs : List Str} (h : StrsAre (strValues l) xs) {k : Nat} {v : Value} (hv : (strValues l).toArray[k]? = some v) : ∃ y t, xs[k]? = some y ∧ v = .str y t := by
  have hl := h.length
  have hk : k < (strValues l).length := by
    have := (Array.getElem?_eq_some_iff.mp hv).1
    simpa using this
  have hx : xs[k]? = some xs[k] := by simp
  obtain ⟨t, ht⟩ := h.get k _ hx
  refine ⟨xs[k], t, hx, ?_⟩
  have : (strValues l)[k]? = some v := by simpa using hv
  rw [ht] at this; exact (Option.some.inj this).symm
theorem ldc {M : Model} {A : Around} {E : Value → Shared → Prop} {s : Shared} {name : Str} {scope : Scope} {L a : Addr} {cd : Value} {h₀ : Heap} {nw : List (Addr × Obj)} {x : Str} {c : Addr} {o : Obj} {v : Value} {Q : Value → Shared → Prop}
    (N : News h₀ L s.heap nw) (hm : (c, o) ∈ nw) (hd : o.data = .cell (some v)) (hc : (cellsFrom (L + 1) scope.names []).lookup x = some c) (h : Q v s)
    (hk : scope.kind = .function := by rfl) (hl : (envOfC name scope L a cd).kindOf x = some .cell := by rfl) : wpAny M A (loadName (envOfC name scope L a cd) x) Q E s :=
  wpAny_loadName_cell hk hl hc ⟨o, (N _ hm).1, hd⟩ h
theorem ne_cell {h₀ h : Heap} {L : Addr} {nw : List (Addr × Obj)} {c d : Addr} {o e : Obj} {v : Option Value} (N : News h₀ L h nw) (hc : (c, o) ∈ nw) (hd : (d, e) ∈ nw) (ho : o.data = .cell v) (he : ∀ v, e.data ≠ .cell v) : @Ne Nat d c := by
  rintro rfl
  have a1 := (N _ hc).1
  have a2 := (N _ hd).1
  simp only at a1 a2
  rw [a1] at a2
  exact he v (Option.some.inj a2 ▸ ho)
section
variable {prog : Program} {w : World} {A : Around} {s : Shared} {p : Program} {loose : List Str} {mean : ExcName → Option Value} {mg mb : Str → Option Value} {R : Value → Shared → Prop}
theorem found_spec {pg : List (List Pt)} {H : List Nat} {tt th : Tok} (X : (hd.heap_39 w.params).In s.heap) (T : Top p loose mean mg mb s.heap)
    (hd : A.depth < 880) (hh : A.handled = none) (hu : A.units < 1000) (hpg : pg ≠ []) (hok : ∀ g ∈ pg, ∀ q ∈ g, q.Ok ∧ q ≠ .star) (hlen : pg.length ≤ 200) (htl : (joinText (pg.map (·.map Pt.out))).length ≤ 1000) (hH : H.length ≤ 1000)
    (hR : ∀ z t h' tk', s.heap.StaysIn h' → FIs H (pg.map (·.map Pt.unit)) 0 z → R (.int z t) { s with heap := h', toks := tk' }) :
    wpAny (model prog w) A (call (.ref 131) [.str (S (joinText (pg.map (·.map Pt.out)))) tt, .str (S H) th] []) R (fun _ _ => False) s := by
  obtain ⟨A1, A2, A3, A4, A5⟩ := A
  simp only at hd hh
  subst hh
  have hroom : A2 < recursionLimit := by unfold recursionLimit; omega
  have hgs : pg.map (·.map Pt.out) ≠ [] := by simpa using hpg
  have hHS : (S H).length ≤ 1000 := by rw [S_len]; exact hH
  have htS : (S (joinText (pg.map (·.map Pt.out)))).length ≤ 1000 := by rw [S_len]; exact htl
  have c1 : (Txt.slice (S (joinText (pg.map (·.map Pt.out)))) none (some 10) != Str.ofString "(?s:(?>.*?") = false := by rw [text_head hgs]; decide +kernel
  have c2 : (Txt.slice (S (joinText (pg.map (·.map Pt.out)))) (some (-6)) none != Str.ofString ").*)\\Z") = false := by rw [text_tail hgs]; decide +kernel
  have hmid := text_mid hgs
  have hsep : Str.ofString ")(?>.*?" = S sepL := by decide +kernel
  refine' enterC (binds := [(Str.ofString "text", .str (S (joinText (pg.map (·.map Pt.out)))) tt), (Str.ofString "heard", .str (S H) th)]) X T hroom ?k6 ?k7 ?k9 ?kB ?kD ?_ ?c2 ?c3 ?c4
  (( (case k6 => k_is); (case k7 => k_is); (case k9 => exact BindsTo.of_eq rfl); (case kB => exact rfl); (case kD => decide +kernel); (case c2 => exact rfl); (case c3 => exact rfl); (case c4 => exact rfl)))
  intro L h₁ tk₁ cells F N Y
  obtain ⟨oU, oA, oH, hE, d1, d2, d3⟩ := CellsAre.three Y
  subst hE
  clear Y
  replace d1 : oU.data = .cell none := d1
  replace d2 : oA.data = .cell none := d2
  replace d3 : oH.data = .cell (some (.str (S H) th)) := d3
  replace F := frC F [(Str.ofString "text", .str (S (joinText (pg.map (·.map Pt.out)))) tt)] (by (repeat refine .cons (by rfl) ?_); exact .nil)
  generalize joinText (pg.map (·.map Pt.out)) = tx at *
  try dsimp only
  try k_fold
  walk_at "go"
  with_reducible rename Fr _ _ _ _ => F1
  with_reducible rename News _ _ _ _ => N1
  refine stc [(L + 1 + 1 + 1, oU), (L + 1, oH)] F1 N1 (.tail _ (.head _)) d2 ?_ ?_ rfl fun h2 oA' F2 N2 d2' => ?_
  · intro q hq
    simp only [List.mem_cons, List.not_mem_nil, or_false] at hq ⊢
    rcases hq with rfl | rfl <;> simp
  · intro q hq
    simp only [List.mem_cons, List.not_mem_nil, or_false] at hq
    rcases hq with rfl | rfl
    · exact n32 L
    · exact n12 L
  walk_at "go"
  refine wpAny_For ?_
  walk_at "go"
  with_reducible rename Fr _ _ _ _ => F3
  with_reducible rename News _ _ _ _ => N3
  rw [hmid, hsep]
  refine KSpl.split1 F3 N3 (by decide +kernel) (fun D l h4 k4 hsp hSa F4 N4 hlt => ?_) (le_line ?_)
  · walk_at "go"
    have hspl : l.map (·.1) = (pg.map fun g => g.flatMap Pt.out).map S := by
      rw [hsp, split_join (by simpa using hpg)]
      · congr 1
        rw [List.map_map]
        exact List.map_congr_left fun g _ => (List.flatMap_def ..).symm
      · intro x hx
        obtain ⟨g', hx, hgx⟩ := List.mem_map.mp hx
        obtain ⟨g, hg, rfl⟩ := List.mem_map.mp hx
        rw [← hgx, ← List.flatMap_def]
        exact outs_np g fun q hq => ⟨(hok g hg q hq).1, (hok g hg q hq).2⟩
    rw [hspl] at hSa
    have hjo : (joinL sepL (pg.map fun g => g.flatMap Pt.out)).length ≤ 1000 := by
      have h9 : (Txt.slice (S tx) (some 10) (some (-6))).length ≤ (S tx).length := by with_reducible assumption
      rw [hmid, S_len, List.map_map] at h9
      have e9 : (pg.map fun g => g.flatMap Pt.out) = pg.map (List.flatten ∘ fun x => x.map Pt.out) := List.map_congr_left fun g _ => List.flatMap_def ..
      rw [e9]; omega
    have hits : (strValues l).toArray.size = pg.length := by
      have := hSa.length
      simpa using this
    refine iter_listA (items := (strValues l).toArray) (L := L) (FoJ pg H D (L + 1 + 1 + 1) (L + 1 + 1) (L + 1) (strValues l).toArray th) rfl rfl (fun k m news h hJ Fk Nk => ?_) F4 (news_sub N4 (news' := [(D, W.listOf (strValues l).toArray 0), (L + 1 + 1 + 1, oU), (L + 1 + 1, oA'), (L + 1, oH)]) ?_) ?_ ?_ ?_ ?_
    · obtain ⟨oU, oA, oH, vU, a, ta, _, _, _, _, _, rfl⟩ := hJ
      exact isList_led Nk (.head _)
    · intro q hq
      simp only [List.mem_cons, List.not_mem_nil, or_false] at hq ⊢
      rcases hq with rfl | rfl | rfl | rfl <;> simp
    · intro q hq
      simp only [List.mem_cons, List.not_mem_nil, or_false] at hq
      rcases hq with rfl | rfl | rfl | rfl
      · exact .inl (by simp)
      · exact noIt_of d1
      · exact noIt_of d2'
      · exact noIt_of d3
    · exact ⟨oU, oA', oH, none, 0, _, d1, d2', Nat.zero_le _, d3, fun z h => by simpa using h, rfl⟩
    · try clear F1
      try clear N1
      try clear F2
      try clear N2
      try clear F3
      try clear N3
      clear F4 N4 d1 d2 d2' d3 hlt hmid hsp c1 c2
      rintro k v m news h tk it hv ⟨oU, oA, oH, vU, a, ta, d1, d2, ha, d3, hF, rfl⟩ hc hne Fk Nk
      have hk : k < pg.length := by
        have := (Array.getElem?_eq_some_iff.mp hv).1
        rw [← hits]; exact this
      obtain ⟨y, tv, hy, rfl⟩ := vals_get hSa hv
      obtain ⟨g, hg⟩ : ∃ g, pg[k]? = some g := ⟨pg[k], by simp [hk]⟩
      have hyg : y = S (g.flatMap Pt.out) := by
        rw [List.getElem?_map, List.getElem?_map, hg] at hy
        exact (Option.some.inj hy).symm
      subst hyg
      have hgm : g ∈ pg := List.mem_of_getElem? hg
      have hdrop : (pg.drop k).map (·.map Pt.unit) = g.map Pt.unit :: (pg.drop (k + 1)).map (·.map Pt.unit) := by
        rw [List.drop_eq_getElem_cons hk]
        have : pg[k] = g := by rw [List.getElem?_eq_getElem hk] at hg; exact Option.some.inj hg
        rw [this]; rfl
      rw [hdrop] at hF
      walk_at "go"
      have hgl : (g.flatMap Pt.out).length ≤ 1000 := by
        have h1 := joinL_mem sepL _ _ (List.mem_map.mpr ⟨g, hgm, rfl⟩ : g.flatMap Pt.out ∈ pg.map fun g => g.flatMap Pt.out)
        omega
      with_reducible rename Fr _ _ _ _ => F1
      with_reducible rename News _ _ _ _ => N1
      refine units_spec (pcs := g) (X.keeps F1.keep) (T.keeps F1.keep) (by show A2 + 1 < 890; omega) rfl rfl (hok g hgm) hgl (fun lU vs n tups h2 tk2 hst hnew hU hneU => ?_)
      have hno := new_ne hnew N1
      have F2 := fr_stays F1 hst
      have N2 := news_add F1 N1 hst hnew
      clear F1 N1
      walk_at "go"
      refine stc ((lU, W.listOf vs n) :: (it, lit D (k + 1)) :: (D, W.listOf (strValues l).toArray 0) :: (L + 1 + 1, oA) :: (L + 1, oH) :: tups) F2 N2 ?_ d1 ?_ ?_ rfl fun h3 oU' F3 N3 d1' => ?_
      · simp
      · intro q hq
        simp only [List.mem_cons, List.mem_append, List.not_mem_nil, or_false] at hq ⊢
        rcases hq with rfl | rfl | rfl | rfl | rfl | hq
        · simp
        · simp
        · simp
        · simp
        · simp
        · exact .inl (.inr hq)
      · intro q hq
        simp only [List.mem_cons] at hq
        rcases hq with rfl | rfl | rfl | rfl | rfl | hq
        · exact hno _ (.head _) _ (.tail _ (.tail _ (.head _)))
        · exact ne_cell N2 (c := L + 1 + 1 + 1) (o := oU) (e := lit D (k + 1)) (by simp) (by simp) d1 (by intro v e; cases e)
        · exact ne_cell N2 (c := L + 1 + 1 + 1) (o := oU) (e := W.listOf (strValues l).toArray 0) (by simp) (by simp) d1 (by intro v e; cases e)
        · exact n23 L
        · exact n13 L
        · exact hno _ (.tail _ hq) _ (.tail _ (.tail _ (.head _)))
      clear F2 N2
      walk_at "go"
      have hvn := hU.length
      rw [List.length_map, Array.length_toList] at hvn
      refine While_inv2 (n₀ := H.length + 1 - a) (L := L) (WhJ (g.map Pt.unit) H (it, lit D (k + 1)) D lU (L + 1 + 1 + 1) (L + 1 + 1) (L + 1) (strValues l).toArray vs n tups th a) F3
        (news_sub N3 (news' := (lU, W.listOf vs n) :: (it, lit D (k + 1)) :: (D, W.listOf (strValues l).toArray 0) :: (L + 1 + 1 + 1, oU') :: (L + 1 + 1, oA) :: (L + 1, oH) :: tups) ?_) ⟨oU', oA, oH, a, ta, d1', d2, d3, by omega, ⟨Nat.le_refl _, ha⟩, fun p h1 h2 => by omega, rfl⟩ ?_
      · intro q hq
        simp only [List.mem_cons] at hq ⊢
        rcases hq with rfl | rfl | rfl | rfl | rfl | rfl | hq
        · simp
        · simp
        · simp
        · simp
        · simp
        · simp
        · simp [hq]
      clear F3 N3 d1 d1' d2 d3 hc hne
      rintro k2 m2 news2 h tk3 Fk Nk ⟨oU2, oA2, oH2, a2, ta2, d1, d2, d3, hk2, ha2, hnf, rfl⟩
      walk_at "go"
      have hgn := outs_len g (hok g hgm)
      refine LCt.ListComp_T (F₀ := Fk) (by with_unfolding_all rfl) (by decide) (by rfl) (by decide) (by rfl) ?_
      walk_at "go"
      refine len_list (isList_led Nk (.head _)) (by omega) ?_
      walk_at "go"
      with_reducible rename IsRange _ _ _ _ _ _ _ _ => hRg
      with_reducible rename Fr _ _ _ _ => F4
      with_reducible rename News _ _ _ _ => N4
      have hsz : Builtin.Range.rangeSize 0 (vs.size : Int) 1 = (vs.size : Int) := by
        unfold Builtin.Range.rangeSize
        split <;> (try split) <;> omega
      have hsm : Builtin.Range.small 0 (vs.size : Int) 1 = true := by
        unfold Builtin.Range.small
        rw [hsz]
        unfold Builtin.Range.rangeFitsLong
        simp only [Bool.and_eq_true, Bool.or_eq_true, decide_eq_true_eq, beq_iff_eq]
        refine ⟨⟨⟨⟨?_, ?_⟩, ?_⟩, ?_⟩, ?_⟩ <;> (try simp) <;> omega
      refine LCt.CompSrcT.range rfl F4 N4 hRg hsm hsz (le_line (by omega)) (fun hp => ?_)
      refine restT_ind (n₀ := vs.size) (fun i ys nw => nw = (lU, W.listOf vs n) :: (it, lit D (k + 1)) :: (D, W.listOf (strValues l).toArray 0) :: (L + 1 + 1 + 1, oU2) :: (L + 1 + 1, oA2) :: (L + 1, oH2) :: tups ∧ ys.length ≤ i ∧ IntsAre ys (((List.range i).filter (badK (g.map Pt.unit) H a2)).map Int.ofNat)) ?_ ?_ _ 0 [] _ (by omega) ⟨rfl, Nat.le_refl _, .nil⟩
      · clear F4 N4 hRg hsz hsm
        rintro i ys news v' I' oI' C' oC' D' m' h' tk' E' hi ⟨rfl, hyl, hy⟩ hv' hC' hx' F' N' off' ne'
        obtain ⟨t9, hv9⟩ := hv'
        rw [Int.zero_add] at hv9
        subst hv9
        have off9 := off'
        obtain ⟨d, b, y, t, e1, e2, e3⟩ := hU.get i (by rw [List.length_map]; omega)
        rw [Array.getElem?_toList] at e1
        clear ne'
        walk_at "go"
        · with_reducible rename _ ≤ (_ : Int) => hq2
          have hf : badK (g.map Pt.unit) H a2 i = true := by
            rw [S_len] at hq2
            simp only [badK, Bool.not_eq_true', Bool.and_eq_false_iff, decide_eq_false_iff_not]
            exact .inl (by omega)
          refine compEnd_of rfl F' N' off9 trivial ⟨rfl, by rw [List.length_append]; simp only [List.length_cons, List.length_nil]; omega, ?_⟩
          rw [filt_yes' hf]
          exact hy.append (.cons _ _ .nil)
        · with_reducible rename ¬ (_ ≤ (_ : Int)) => hq2
          have hcx : a2 + i < H.length := by rw [S_len] at hq2; omega
          have hci : Txt.item (S H) ((a2 : Int) + (i : Int)) = S [H.getD (a2 + i) 0] := by
            rw [show (a2 : Int) + (i : Int) = ((a2 + i : Nat) : Int) from rfl]; exact S_item hcx
          refine sub_list N' (.tail _ (.tail _ (.tail _ (.head _)))) ?_
          refine getItem_led N' (.tail _ (.tail _ (.tail _ (.head _)))) (by omega) (by omega) (by simpa using e1) ?_
          walk_at "go"
          refine sub_list N' (.tail _ (.tail _ (.tail _ (.head _)))) ?_
          refine getItem_led N' (.tail _ (.tail _ (.tail _ (.head _)))) (by omega) (by omega) (by simpa using e1) ?_
          walk_at "go"
          · with_reducible rename (_ == b) = true => hq1
            rw [hci, S_contains] at hq1
            have hf : badK (g.map Pt.unit) H a2 i = true := by
              rw [badK, e3, decide_eq_true hcx, Bool.true_and, uOk]
              unfold bne
              rw [hq1]; rfl
            refine compEnd_of rfl F' N' off9 trivial ⟨rfl, by rw [List.length_append]; simp only [List.length_cons, List.length_nil]; omega, ?_⟩
            rw [filt_yes' hf]
            exact hy.append (.cons _ _ .nil)
          · with_reducible rename (_ == b) = false => hq1
            rw [hci, S_contains] at hq1
            have hf : badK (g.map Pt.unit) H a2 i = false := by
              rw [badK, e3, decide_eq_true hcx, Bool.true_and, uOk]
              unfold bne
              rw [hq1]; rfl
            refine compEnd_of rfl F' N' off9 trivial ⟨rfl, by omega, ?_⟩
            rw [filt_no' hf]
            exact hy
      · rintro ys news ⟨rfl, hyl, hy⟩ Dc h9 tk9 F9 N9 _
        walk_at "go"
        with_reducible rename Fr _ _ _ _ => F5
        with_reducible rename News _ _ _ _ => N5
        have hvm : vs.size = (g.map Pt.unit).length := by rw [hvn, List.length_map]
        refine ne_intsK (vs := ys) (us := []) (isList_led N5 (.tail _ (.head _))) hy (isList_led N5 (.head _)) .nil (by show A5 + 3 + 64 < 9900; have h8 : A5 < 1000 := hu; omega) ?_
        rw [hvm]
        by_cases hfit : fits H (g.map Pt.unit) a2
        · rw [decide_eq_true (bad_nil.mpr hfit), Bool.not_true]
          walk_at "go"
          refine ldc N5 (c := L + 1 + 1) (by simp) d2 rfl ?_
          walk_at "go"
          refine len_list (isList_led N5 (.tail _ (.tail _ (.head _)))) (by omega) ?_
          walk_at "go"
          have hbd : a2 + vs.size ≤ H.length := by
            rcases Nat.eq_zero_or_pos vs.size with h0 | h0
            · have := ha2.2; omega
            · have := (hfit (vs.size - 1) (by omega)).1
              omega
          refine stc [(it, lit D (k + 1)), (D, W.listOf (strValues l).toArray 0), (L + 1 + 1 + 1, oU2), (L + 1, oH2)] F5 N5 (by simp) d2 ?_ ?_ rfl fun h6 oA3 F6 N6 d2' => ?_
          · intro q hq
            simp only [List.mem_cons, List.not_mem_nil, or_false] at hq
            rcases hq with rfl | rfl | rfl | rfl <;> simp
          · intro q hq
            simp only [List.mem_cons, List.not_mem_nil, or_false] at hq
            rcases hq with rfl | rfl | rfl | rfl
            · exact ne_cell N5 (c := L + 1 + 1) (o := oA2) (e := lit D (k + 1)) (by simp) (by simp) d2 (by intro v e; cases e)
            · exact ne_cell N5 (c := L + 1 + 1) (o := oA2) (e := W.listOf (strValues l).toArray 0) (by simp) (by simp) d2 (by intro v e; cases e)
            · exact n32 L
            · exact n12 L
          clear F5 N5
          walk_at "go"
          refine TurnA.next F6 (news_sub N6 (news' := (it, lit D (k + 1)) :: [(D, W.listOf (strValues l).toArray 0), (L + 1 + 1 + 1, oU2), (L + 1 + 1, oA3), (L + 1, oH2)]) ?_) ?_ ⟨oU2, oA3, oH2, _, a2 + vs.size, _, d1, d2', hbd, d3, ?_, rfl⟩
          · intro q hq
            simp only [List.mem_cons, List.not_mem_nil, or_false] at hq
            rcases hq with rfl | rfl | rfl | rfl | rfl <;> simp
          · intro q hq
            simp only [List.mem_cons, List.not_mem_nil, or_false] at hq
            rcases hq with rfl | rfl | rfl | rfl
            · exact .inl (by simp)
            · exact noIt_of d1
            · exact noIt_of d2'
            · exact noIt_of d3
          · intro z hz
            refine hF z (.hit ha2.1 hfit hnf ?_)
            rw [← hvm]; exact hz
        · rw [decide_eq_false (fun e => hfit (bad_nil.mp e)), Bool.not_false]
          walk_at "go"
          refine ldc N5 (c := L + 1 + 1) (by simp) d2 rfl ?_
          walk_at "go"
          refine stc ((lU, W.listOf vs n) :: (it, lit D (k + 1)) :: (D, W.listOf (strValues l).toArray 0) :: (L + 1 + 1 + 1, oU2) :: (L + 1, oH2) :: tups) F5 N5 (by simp) d2 ?_ ?_ rfl fun h6 oA3 F6 N6 d2' => ?_
          · intro q hq
            simp only [List.mem_cons] at hq
            rcases hq with rfl | rfl | rfl | rfl | rfl | hq
            · simp
            · simp
            · simp
            · simp
            · simp
            · simp [hq]
          · intro q hq
            simp only [List.mem_cons] at hq
            rcases hq with rfl | rfl | rfl | rfl | rfl | hq
            · exact hno _ (.head _) _ (.tail _ (.tail _ (.tail _ (.head _))))
            · exact ne_cell N5 (c := L + 1 + 1) (o := oA2) (e := lit D (k + 1)) (by simp) (by simp) d2 (by intro v e; cases e)
            · exact ne_cell N5 (c := L + 1 + 1) (o := oA2) (e := W.listOf (strValues l).toArray 0) (by simp) (by simp) d2 (by intro v e; cases e)
            · exact n32 L
            · exact n12 L
            · exact hno _ (.tail _ hq) _ (.tail _ (.tail _ (.tail _ (.head _))))
          clear F5 N5
          walk_at "go"
          refine len_list (isList_led N6 (.tail _ (.head _))) (by omega) ?_
          have hpos : 0 < vs.size := by
            rcases Nat.eq_zero_or_pos vs.size with h0 | h0
            · exact absurd (fun k hk => by omega) hfit
            · exact h0
          have hnf2 : ∀ p, a ≤ p → p < a2 + 1 → ¬ fits H (g.map Pt.unit) p := by
            intro p h1 h2 h3
            by_cases h4 : p = a2
            · subst h4; exact hfit h3
            · exact hnf p h1 (by omega) h3
          walk_at "go"
          · with_reducible rename (_ : Int) < _ => hq
            have hmiss : ∀ p, a ≤ p → ¬ fits H (g.map Pt.unit) p := by
              intro p h1 h3
              by_cases h4 : p < a2 + 1
              · exact hnf2 p h1 h4 h3
              · have h5 := (h3 (vs.size - 1) (by omega)).1
                rw [S_len] at hq
                omega
            (repeat ((with_reducible (rename IsQ _ _ => hq8; rename Flow → Shared → Prop => Q8)); refine endR (Q' := Q8) hq8 ?_; clear hq8 Q8))
            exact hR _ _ _ _ F6.keep (hF _ (.miss hmiss))
          · with_reducible rename ¬ ((_ : Int) < _) => hq
            rw [S_len] at hq
            refine ⟨_, _, _, (lU, W.listOf vs n) :: (it, lit D (k + 1)) :: (D, W.listOf (strValues l).toArray 0) :: (L + 1 + 1 + 1, oU2) :: (L + 1 + 1, oA3) :: (L + 1, oH2) :: tups, k2 - 1, rfl, F6, news_sub N6 ?_, by omega, oU2, oA3, oH2, a2 + 1, _, d1, d2', d3, by omega, ⟨by omega, by omega⟩, hnf2, rfl⟩
            intro q hq
            simp only [List.mem_cons] at hq ⊢
            rcases hq with rfl | rfl | rfl | rfl | rfl | rfl | hq
            · simp
            · simp
            · simp
            · simp
            · simp
            · simp
            · simp [hq]
    · rintro m news h tk ⟨oU, oA, oH, vU, a, ta, d1, d2, ha, d3, hF, rfl⟩ Fk Nk
      walk_at "go"
      (repeat ((with_reducible (rename IsQ _ _ => hq8; rename Flow → Shared → Prop => Q8)); refine endR (Q' := Q8) hq8 ?_; clear hq8 Q8))
      refine hR _ _ _ _ Fk.keep (hF _ ?_)
      rw [hits, List.drop_of_length_le (Nat.le_refl _)]
      exact .nil
  · have := hmid
    have : (S (joinL sepL (List.map List.flatten (pg.map (·.map Pt.out))))).length ≤ (S tx).length := by
      with_reducible rename (Txt.slice (S tx) (some 10) (some (-6))).length ≤ (S tx).length => h9
      rw [hmid] at h9; exact h9
    omega
end
end

section
open PySem PySem.W PyProof.Rows PySem.Calls
set_option maxHeartbeats 8000000
local macro_rules | `(tactic| walk_at "stop1") => `(tactic| (walk_at "stG"; fail_if_success (with_reducible first | refine sTE ?_ | refine sEnum ?_ | refine sExt ?_ | refine sChr ?_)))
local macro_rules | `(tactic| walk_at "go1") => `(tactic| (walk_at "stop1"; with_reducible (rename IsV _ _ => hq8; rename List Value → Shared → Prop => Q8; show Q8 _ _; refine endV hq8 ?_); clear hq8 Q8; try dsimp only))
local macro_rules | `(tactic| walk_at "eval Tuple") => `(tactic| with_reducible refine TupleN fun Q hQ => ?_)
local macro_rules | `(tactic| walk_at "eval List") => `(tactic| with_reducible refine ListN fun Q hQ => ?_)
local macro_rules | `(tactic| walk_at "cuts") => `(tactic| fail_if_success (with_reducible first | refine sEnd ?_ | refine sSign ?_ | refine sIfSign ?_ | refine sMail ?_ | refine sPieces ?_ | refine sPiece ?_))
local macro_rules | `(tactic| walk_at "go") => `(tactic| repeat' (walk_at "cuts"; walk_at "go1"))
def endL (n : Nat) : List Nat := if n % 3 = 0 then [10] else if n % 3 = 1 then [13] else [13, 10]
def signC (c : Nat) : Nat := if c < 55296 then c else c + 2048
def signD (d : Nat) : Nat := if d ∈ [42, 63, 91, 13, 10] then 97 else d
def signOf (v : Nat) : Nat := signD (signC (v / 80 % 1112064))
def mailPart (v : Nat) : List Nat := [[10], [13], [46], [97], [98], [13, 10], [46, 46], [signOf v]].getD (v % 8) []
def ptR (en : List Nat) (c r : Nat) : List Nat := [[42], [63], en, [46], [97], [91, 33, 10, 93], [91, 33, 13, 46, 93], [91, 13, 46, 97, 93], [], [c]].getD r []
def pieceT (en : List Nat) (v : Nat) : List Nat := ptR en (signOf v) (v / 8 % 10)
def piR (c r : Nat) : List Item := [[none], [some (true, [])], [some (false, [13]), some (false, [10])], [some (false, [46])], [some (false, [97])], [some (true, [13, 10])], [some (true, [13, 10, 46])], [some (false, [13, 10, 46, 97])], [], [some (false, [c])]].getD r []
def pieceI (v : Nat) : List Item := piR (signOf v) (v / 8 % 10)
def valsOf (ns : List Int) : List Nat := ((ns ++ [2, 17, 26, 43]).take 8).map fun x : Int => (x % 100000000).toNat
def mailOf (vs : List Nat) : List Nat := vs.flatMap mailPart
def patOf (en vs : List Nat) : List Nat := (vs.take 4).flatMap (pieceT en)
def itemsOf (vs : List Nat) : List Item := (vs.take 4).flatMap pieceI
inductive ItemsL (tups : List (Addr × Obj)) : List Value → List Item → Prop
  | nil : ItemsL tups [] []
  | star {vs I} : ItemsL tups vs I → ItemsL tups (.none :: vs) (none :: I)
  | unit {d b x t vs I} : (d, tupObj b x t) ∈ tups → ItemsL tups vs I → ItemsL tups (.ref d :: vs) (some (b, x) :: I)
theorem ItemsL.mono {t1 t2 : List (Addr × Obj)} {vs : List Value} {I : List Item} (h : ItemsL t1 vs I) (hs : ∀ q ∈ t1, q ∈ t2) : ItemsL t2 vs I := by
  induction h with
  | nil => exact .nil
  | star _ ih => exact .star ih
  | unit hm _ ih => exact .unit (hs _ hm) ih
theorem ItemsL.append {tups : List (Addr × Obj)} {vs ws : List Value} {I J : List Item} (h : ItemsL tups vs I) (h2 : ItemsL tups ws J) : ItemsL tups (vs ++ ws) (I ++ J) := by
  induction h with
  | nil => exact h2
  | star _ ih => exact .star ih
  | unit hm _ ih => exact .unit hm ih
theorem ItemsL.length {tups : List (Addr × Obj)} {vs : List Value} {I : List Item} (x : ItemsL tups vs I) : vs.length = I.length := by
  induction x with
  | nil => rfl
  | star _ ih => simp [ih]
  | unit _ _ ih => simp [ih]
inductive EndP (s : Shared) (h₀ : Heap) (L : Addr) (lS : Addr) (en : List Nat) (s' : Shared) : Prop
  | mk (h : Heap) (tk : Nat) (t : Tok) (m : Str → Option Value) (e1 : s' = { s with heap := h, toks := tk }) (e2 : Fr h₀ L h (kstB m [(Str.ofString "script", .ref lS), (Str.ofString "end", .str (S en) t)])) (e3 : News h₀ L h [])
theorem endP_intro {s s' : Shared} {h₀ h : Heap} {L lS : Addr} {tk : Nat} {en : List Nat} {m : Str → Option Value} {nw : List (Addr × Obj)} {y : Str} {t : Tok} (e : s' = { s with heap := h, toks := tk }) (F : Fr h₀ L h m) (N : News h₀ L h nw)
    (h1 : m (Str.ofString "script") = some (.ref lS)) (h2 : m (Str.ofString "end") = some (.str y t)) (h3 : y = S en) : EndP s h₀ L lS en s' := by
  subst h3
  exact ⟨h, tk, t, m, e, frC F _ (by (repeat refine .cons (by assumption) ?_); exact .nil), news_sub N fun q hq => nomatch hq⟩
theorem sub_listT {prog : Program} {w : World} {A : Around} {E : Value → Shared → Prop} {s : Shared} {value slice : Expr} {h₀ : Heap} {L : Addr} {news : List (Addr × Obj)} {l : Addr} {its : Array Value} {n : Nat} {k : Int} {u : Tok} {Q : Value → Shared → Prop} (N : News h₀ L s.heap news) (hm : (l, W.listOf its n) ∈ news)
    (h : wpAny (model prog w) A (getItem (.ref l) (.int k u)) Q E s)
    (hs : subscripted slice false (.ref l) (.int k u) = operate [.ref l, .int k u] (getItem (.ref l) (.int k u)) := by with_unfolding_all rfl) : wpAny (model prog w) A (subscriptTail value slice (.ref l) (.int k u)) Q E s :=
  tail_any (isList_led N hm).typeIs slot_list_getitem.lookup h hs
theorem menu8 (V : Nat) (t0 t1 t2 t3 t4 t5 t6 t7 : Tok) : ∃ t, (#[Value.str (Str.ofString "\n") t0, Value.str (Str.ofString "\x0d") t1, Value.str (Str.ofString ".") t2, Value.str (Str.ofString "a") t3, Value.str (Str.ofString "b") t4, Value.str (Str.ofString "\x0d\n") t5, Value.str (Str.ofString "..") t6, Value.str (S [signOf V]) t7] : Array Value)[V % 8]? = some (.str (S (mailPart V)) t) := by
  have h8 : V % 8 < 8 := Nat.mod_lt _ (by decide)
  rw [mailPart, show Str.ofString "\n" = S [10] by decide +kernel, lit_cr, lit_crlf, show Str.ofString "." = S [46] by decide +kernel, show Str.ofString "a" = S [97] by decide +kernel, show Str.ofString "b" = S [98] by decide +kernel, show Str.ofString ".." = S [46, 46] by decide +kernel]
  generalize V % 8 = r at *
  rcases r with _ | _ | _ | _ | _ | _ | _ | _ | r
  · exact ⟨_, rfl⟩
  · exact ⟨_, rfl⟩
  · exact ⟨_, rfl⟩
  · exact ⟨_, rfl⟩
  · exact ⟨_, rfl⟩
  · exact ⟨_, rfl⟩
  · exact ⟨_, rfl⟩
  · exact ⟨_, rfl⟩
  · omega
theorem mailPart_len (V : Nat) : (mailPart V).length ≤ 2 := by
  have h8 : V % 8 < 8 := Nat.mod_lt _ (by decide)
  rw [mailPart]
  generalize V % 8 = r at *
  rcases r with _ | _ | _ | _ | _ | _ | _ | _ | r <;> first | (simp; done) | omega
theorem mailOf_len : ∀ vs : List Nat, (mailOf vs).length ≤ 2 * vs.length
  | [] => by simp [mailOf]
  | v :: vs => by
    have h1 := mailPart_len v
    have h2 := mailOf_len vs
    simp only [mailOf] at h2 ⊢
    rw [List.flatMap_cons, List.length_append, List.length_cons]; omega
theorem extend_any {prog : Program} {w : World} {A : Around} {E : Value → Shared → Prop} {s : Shared} {h₀ : Heap} {L D b : Addr} {m : Str → Option Value} {rest : List (Addr × Obj)} {its its2 : Array Value} {n n2 : Nat} {Q : Value → Shared → Prop} (F : Fr h₀ L s.heap m) (N : News h₀ L s.heap ((D, W.listOf its n) :: rest)) (hb : (b, W.listOf its2 n2) ∈ rest) (hne : ∀ q ∈ rest, @Ne Nat q.1 D)
    (h1 : its.size ≤ 1000) (h2 : its2.size ≤ 1000) (h : ∀ h' n', Fr h₀ L h' m → News h₀ L h' ((D, W.listOf (its ++ its2) n') :: rest) → Q .none { s with heap := h' }) : wpAny (model prog w) A (call (.builtin "list.extend") [.ref D, .ref b]) Q E s := by
  have hd : ¬(!its.isEmpty && Builtin.List.listTooLong (its.size + its2.size)) = true := by
    have : Builtin.List.listTooLong (its.size + its2.size) = false := by
      unfold Builtin.List.listTooLong
      rw [decide_eq_false_iff_not, sizeLine_eq]; omega
    rw [this]; simp
  have hz : its.toList.length ≤ sizeLine := le_line (by rw [Array.length_toList]; omega)
  have hz2 : its.size + its2.size ≤ sizeLine + 1 := Nat.le_succ_of_le (le_line (by omega))
  rcases Nat.eq_zero_or_pos its2.size with h0 | h0
  · have e0 : its2 = #[] := Array.eq_empty_of_size_eq_zero h0
    refine kxn_extend F N (.tail _ hb) (by rw [e0]) (.head hne) hd hz hz2 fun h' F' N' => h h' n F' ?_
    rw [e0]; simpa using N'
  · refine kl_extend F N (.tail _ hb) (l := its.toList ++ its2.toList) rfl (by rw [Array.length_toList]; omega) (.head hne) hd hz hz2 fun h' F' N' => h h' (n + 1) F' ?_
    have e : (its.toList ++ its2.toList).toArray = its ++ its2 := by apply Array.toList_inj.mp; simp
    rw [← e]; exact N'
/-- what stands in pieces at one place -/
inductive PcAt (lI : Addr) (T : List Nat) (I : List Item) (d : Addr) (nw : List (Addr × Obj)) : Prop
  | mk (t : Tok) (lm : Addr) (vsM : Array Value) (nM : Nat) (mt : List (Addr × Obj)) (e1 : (d, ({ cls := .type "tuple", data := .seq #[.str (S T) t, .ref lm] } : Obj)) ∈ nw) (e2 : (lm, W.listOf vsM nM) ∈ nw) (e3 : (∀ q ∈ mt, q ∈ nw ∧ ∃ b x t, q.2 = tupObj b x t)) (e4 : ItemsL mt vsM.toList I) (e5 : vsM.size ≤ 2) (e6 : @Ne Nat lm lI)
def PieceOk (lI : Addr) (en : List Nat) (c r : Nat) (its : Array Value) (nw : List (Addr × Obj)) : Prop := ∃ d, its[r]? = some (.ref d) ∧ PcAt lI (ptR en c r) (piR c r) d nw
abbrev pcO (y : Str) (t : Tok) (l : Addr) : Obj := { cls := .type "tuple", data := .seq #[.str y t, .ref l] }
abbrev inO (b : Bool) (y : Str) (t : Tok) : Obj := { cls := .type "tuple", data := .seq #[.bool b, .str y t] }
theorem pc0 {T : List Nat} {d l : Addr} {t : Tok} {n : Nat} {y : Str} {nw : List (Addr × Obj)} {lI : Addr} (hl : @Ne Nat l lI) (hy : y = S T) (h1 : (d, pcO y t l) ∈ nw) (h2 : (l, W.listOf #[.none] n) ∈ nw) : PcAt lI T [none] d nw := by
  subst hy
  exact ⟨t, l, _, n, [], h1, h2, (fun q hq => nomatch hq), .star .nil, by decide, hl⟩
theorem pcN {T : List Nat} {d l : Addr} {t : Tok} {n : Nat} {y : Str} {nw : List (Addr × Obj)} {lI : Addr} (hl : @Ne Nat l lI) (hy : y = S T) (h1 : (d, pcO y t l) ∈ nw) (h2 : (l, W.listOf #[] n) ∈ nw) : PcAt lI T [] d nw := by
  subst hy
  exact ⟨t, l, _, n, [], h1, h2, (fun q hq => nomatch hq), .nil, by decide, hl⟩
theorem pc1 {T x : List Nat} {b : Bool} {d l a : Addr} {t u : Tok} {n : Nat} {y z : Str} {nw : List (Addr × Obj)} {lI : Addr} (hl : @Ne Nat l lI) (hy : y = S T) (hz : z = S x) (h1 : (d, pcO y t l) ∈ nw) (h2 : (l, W.listOf #[.ref a] n) ∈ nw) (h3 : (a, inO b z u) ∈ nw) : PcAt lI T [some (b, x)] d nw := by
  subst hy hz
  refine ⟨t, l, _, n, [(a, tupObj b x u)], h1, h2, fun q hq => ?_, .unit (.head _) .nil, by simp, hl⟩
  rw [List.mem_singleton] at hq
  subst hq
  exact ⟨h3, _, _, _, rfl⟩
theorem pc2 {T x x2 : List Nat} {b b2 : Bool} {d l a a2 : Addr} {t u u2 : Tok} {n : Nat} {y z z2 : Str} {nw : List (Addr × Obj)} {lI : Addr} (hl : @Ne Nat l lI) (hy : y = S T) (hz : z = S x) (hz2 : z2 = S x2) (h1 : (d, pcO y t l) ∈ nw) (h2 : (l, W.listOf #[.ref a, .ref a2] n) ∈ nw) (h3 : (a, inO b z u) ∈ nw) (h4 : (a2, inO b2 z2 u2) ∈ nw) : PcAt lI T [some (b, x), some (b2, x2)] d nw := by
  subst hy hz hz2
  refine ⟨t, l, _, n, [(a, tupObj b x u), (a2, tupObj b2 x2 u2)], h1, h2, fun q hq => ?_, .unit (.head _) (.unit (.tail _ (.head _)) .nil), by simp, hl⟩
  simp only [List.mem_cons, List.not_mem_nil, or_false] at hq
  rcases hq with rfl | rfl
  · exact ⟨h3, _, _, _, rfl⟩
  · exact ⟨h4, _, _, _, rfl⟩
theorem lit_star : Str.ofString "*" = S [42] := by decide +kernel
theorem lit_ques : Str.ofString "?" = S [63] := by decide +kernel
theorem lit_lf : Str.ofString "\n" = S [10] := by decide +kernel
theorem lit_dot : Str.ofString "." = S [46] := by decide +kernel
theorem lit_a : Str.ofString "a" = S [97] := by decide +kernel
theorem lit_b1 : Str.ofString "[!\n]" = S [91, 33, 10, 93] := by decide +kernel
theorem lit_b2 : Str.ofString "[!\x0d.]" = S [91, 33, 13, 46, 93] := by decide +kernel
theorem lit_b3 : Str.ofString "[\x0d.a]" = S [91, 13, 46, 97, 93] := by decide +kernel
theorem lit_s2 : Str.ofString "\x0d\n." = S [13, 10, 46] := by decide +kernel
theorem lit_s3 : Str.ofString "\x0d\n.a" = S [13, 10, 46, 97] := by decide +kernel
theorem pieces_ok {en : List Nat} {sc r : Nat} (hr : r < 10) {lp e0 e1 e2 e3 e4 e5 e6 e7 e8 e9 l0 l1 l2 l3 l4 l5 l6 l7 l8 l9 a1 a2 b2 a3 a4 a5 a6 a7 a9 : Addr} {t0 t1 t2 t3 t4 t5 t6 t7 t8 t9 u1 u2 v2 u3 u4 u5 u6 u7 u9 : Tok} {tl : List (Addr × Obj)} {lI : Addr} (h0 : @Ne Nat l0 lI) (h1 : @Ne Nat l1 lI) (h2 : @Ne Nat l2 lI) (h3 : @Ne Nat l3 lI) (h4 : @Ne Nat l4 lI) (h5 : @Ne Nat l5 lI) (h6 : @Ne Nat l6 lI) (h7 : @Ne Nat l7 lI) (h8 : @Ne Nat l8 lI) (h9 : @Ne Nat l9 lI) :
    PieceOk lI en sc r #[.ref e0, .ref e1, .ref e2, .ref e3, .ref e4, .ref e5, .ref e6, .ref e7, .ref e8, .ref e9]
      ((lp, W.listOf #[.ref e0, .ref e1, .ref e2, .ref e3, .ref e4, .ref e5, .ref e6, .ref e7, .ref e8, .ref e9] 0) :: (e9, pcO (S [sc]) t9 l9) :: (l9, W.listOf #[.ref a9] 0) :: (a9, inO false (S [sc]) u9) ::
        (e8, pcO (Str.ofString "") t8 l8) :: (l8, W.listOf #[] 0) :: (e7, pcO (Str.ofString "[\x0d.a]") t7 l7) :: (l7, W.listOf #[.ref a7] 0) :: (a7, inO false (Str.ofString "\x0d\n.a") u7) ::
        (e6, pcO (Str.ofString "[!\x0d.]") t6 l6) :: (l6, W.listOf #[.ref a6] 0) :: (a6, inO true (Str.ofString "\x0d\n.") u6) :: (e5, pcO (Str.ofString "[!\n]") t5 l5) :: (l5, W.listOf #[.ref a5] 0) :: (a5, inO true (Str.ofString "\x0d\n") u5) ::
        (e4, pcO (Str.ofString "a") t4 l4) :: (l4, W.listOf #[.ref a4] 0) :: (a4, inO false (Str.ofString "a") u4) :: (e3, pcO (Str.ofString ".") t3 l3) :: (l3, W.listOf #[.ref a3] 0) :: (a3, inO false (Str.ofString ".") u3) ::
        (e2, pcO (S en) t2 l2) :: (l2, W.listOf #[.ref a2, .ref b2] 0) :: (b2, inO false (Str.ofString "\n") v2) :: (a2, inO false (Str.ofString "\x0d") u2) ::
        (e1, pcO (Str.ofString "?") t1 l1) :: (l1, W.listOf #[.ref a1] 0) :: (a1, inO true (Str.ofString "") u1) :: (e0, pcO (Str.ofString "*") t0 l0) :: (l0, W.listOf #[.none] 0) :: tl) := by
  rcases r with _ | _ | _ | _ | _ | _ | _ | _ | _ | _ | r
  · exact ⟨e0, rfl, pc0 h0 (l := l0) (t := t0) (n := 0) lit_star (by (repeat (first | exact List.Mem.head _ | apply List.Mem.tail))) (by (repeat (first | exact List.Mem.head _ | apply List.Mem.tail)))⟩
  · exact ⟨e1, rfl, pc1 h1 (l := l1) (t := t1) (n := 0) (a := a1) (u := u1) lit_ques lit_nil (by (repeat (first | exact List.Mem.head _ | apply List.Mem.tail))) (by (repeat (first | exact List.Mem.head _ | apply List.Mem.tail))) (by (repeat (first | exact List.Mem.head _ | apply List.Mem.tail)))⟩
  · exact ⟨e2, rfl, pc2 h2 (l := l2) (t := t2) (n := 0) (a := a2) (u := u2) (a2 := b2) (u2 := v2) rfl lit_cr lit_lf (by (repeat (first | exact List.Mem.head _ | apply List.Mem.tail))) (by (repeat (first | exact List.Mem.head _ | apply List.Mem.tail))) (by (repeat (first | exact List.Mem.head _ | apply List.Mem.tail))) (by (repeat (first | exact List.Mem.head _ | apply List.Mem.tail)))⟩
  · exact ⟨e3, rfl, pc1 h3 (l := l3) (t := t3) (n := 0) (a := a3) (u := u3) lit_dot lit_dot (by (repeat (first | exact List.Mem.head _ | apply List.Mem.tail))) (by (repeat (first | exact List.Mem.head _ | apply List.Mem.tail))) (by (repeat (first | exact List.Mem.head _ | apply List.Mem.tail)))⟩
  · exact ⟨e4, rfl, pc1 h4 (l := l4) (t := t4) (n := 0) (a := a4) (u := u4) lit_a lit_a (by (repeat (first | exact List.Mem.head _ | apply List.Mem.tail))) (by (repeat (first | exact List.Mem.head _ | apply List.Mem.tail))) (by (repeat (first | exact List.Mem.head _ | apply List.Mem.tail)))⟩
  · exact ⟨e5, rfl, pc1 h5 (l := l5) (t := t5) (n := 0) (a := a5) (u := u5) lit_b1 lit_crlf (by (repeat (first | exact List.Mem.head _ | apply List.Mem.tail))) (by (repeat (first | exact List.Mem.head _ | apply List.Mem.tail))) (by (repeat (first | exact List.Mem.head _ | apply List.Mem.tail)))⟩
  · exact ⟨e6, rfl, pc1 h6 (l := l6) (t := t6) (n := 0) (a := a6) (u := u6) lit_b2 lit_s2 (by (repeat (first | exact List.Mem.head _ | apply List.Mem.tail))) (by (repeat (first | exact List.Mem.head _ | apply List.Mem.tail))) (by (repeat (first | exact List.Mem.head _ | apply List.Mem.tail)))⟩
  · exact ⟨e7, rfl, pc1 h7 (l := l7) (t := t7) (n := 0) (a := a7) (u := u7) lit_b3 lit_s3 (by (repeat (first | exact List.Mem.head _ | apply List.Mem.tail))) (by (repeat (first | exact List.Mem.head _ | apply List.Mem.tail))) (by (repeat (first | exact List.Mem.head _ | apply List.Mem.tail)))⟩
  · exact ⟨e8, rfl, pcN h8 (l := l8) (t := t8) (n := 0) lit_nil (by (repeat (first | exact List.Mem.head _ | apply List.Mem.tail))) (by (repeat (first | exact List.Mem.head _ | apply List.Mem.tail)))⟩
  · exact ⟨e9, rfl, pc1 h9 (l := l9) (t := t9) (n := 0) (a := a9) (u := u9) rfl rfl (by (repeat (first | exact List.Mem.head _ | apply List.Mem.tail))) (by (repeat (first | exact List.Mem.head _ | apply List.Mem.tail))) (by (repeat (first | exact List.Mem.head _ | apply List.Mem.tail)))⟩
  · omega
inductive PcP (s : Shared) (h₀ : Heap) (L : Addr) (en ml pt : List Nat) (lI : Addr) (k v c : Nat) (led : List (Addr × Obj)) (s' : Shared) : Prop
  | mk (h : Heap) (tk : Nat) (m : Str → Option Value) (te t1 t2 t tv : Tok) (lp : Addr) (its : Array Value) (nw : List (Addr × Obj)) (e1 : s' = { s with heap := h, toks := tk }) (e2 : Fr h₀ L h (kstB m [(Str.ofString "end", .str (S en) te), (Str.ofString "mail", .str (S ml) t1), (Str.ofString "pattern", .str (S pt) t2), (Str.ofString "items", .ref lI), (Str.ofString "place", .int (k : Nat) t), (Str.ofString "value", .int (v : Nat) tv), (Str.ofString "pieces", .ref lp)])) (e3 : News h₀ L h ((lp, W.listOf its 0) :: (led ++ nw))) (e4 : PieceOk lI en c (v / 8 % 10) its nw)
theorem pcP_intro {s s' : Shared} {h₀ h : Heap} {L lI lp : Addr} {tk : Nat} {en ml pt : List Nat} {k v c : Nat} {m : Str → Option Value} {led nw : List (Addr × Obj)} {te t1 t2 t tv : Tok} {its : Array Value} {y : Str} (e : s' = { s with heap := h, toks := tk }) (F : Fr h₀ L h m) (N : News h₀ L h nw) (hs : ∀ q ∈ led, q ∈ nw) (hl : (lp, W.listOf its 0) ∈ nw)
    (h1 : m (Str.ofString "end") = some (.str (S en) te)) (h2 : m (Str.ofString "mail") = some (.str y t1)) (h3 : m (Str.ofString "pattern") = some (.str (S pt) t2)) (h4 : m (Str.ofString "items") = some (.ref lI)) (h5 : m (Str.ofString "place") = some (.int (k : Nat) t))
    (h6 : m (Str.ofString "value") = some (.int (v : Nat) tv)) (h7 : m (Str.ofString "pieces") = some (.ref lp)) (hy : y = S ml) (hP : PieceOk lI en c (v / 8 % 10) its nw) : PcP s h₀ L en ml pt lI k v c led s' := by
  subst hy
  refine ⟨h, tk, m, te, t1, t2, t, tv, lp, its, nw, e, frC F _ (by (repeat refine .cons (by assumption) ?_); exact .nil), news_sub N ?_, hP⟩
  intro q hq
  rcases List.mem_cons.mp hq with rfl | hq
  · exact hl
  · rcases List.mem_append.mp hq with hq | hq
    · exact hs _ hq
    · exact hq
theorem endL_len (n : Nat) : (endL n).length ≤ 5 := by unfold endL; split <;> (try split) <;> simp
theorem ptR_len (en : List Nat) (h : en.length ≤ 5) (c r : Nat) : (ptR en c r).length ≤ 5 := by
  unfold ptR
  rcases r with _ | _ | _ | _ | _ | _ | _ | _ | _ | _ | r <;> first | (simp; done) | exact h | (simp [List.getD]; done)
theorem patOf_len (en : List Nat) (h : en.length ≤ 5) : ∀ vs : List Nat, (patOf en vs).length ≤ 5 * (vs.take 4).length := by
  intro vs
  unfold patOf
  generalize vs.take 4 = xs
  induction xs with
  | nil => simp
  | cons v r ih =>
    have := ptR_len en h (signOf v) (v / 8 % 10)
    rw [List.flatMap_cons, List.length_append, List.length_cons]
    unfold pieceT at ih ⊢
    omega
theorem ne_obj {h₀ h : Heap} {L : Addr} {nw : List (Addr × Obj)} {a b : Addr} {o o' : Obj} (N : News h₀ L h nw) (h1 : (a, o) ∈ nw) (h2 : (b, o') ∈ nw) (ho : o.cls ≠ o'.cls) : @Ne Nat a b := by
  rintro rfl
  have a1 := (N _ h1).1
  have a2 := (N _ h2).1
  simp only at a1 a2
  rw [a1] at a2
  exact ho (by rw [Option.some.inj a2])
theorem piR_len (c r : Nat) : (piR c r).length ≤ 2 := by
  unfold piR
  rcases r with _ | _ | _ | _ | _ | _ | _ | _ | _ | _ | r <;> first | (simp; done) | (simp [List.getD]; done)
theorem itemsOf_len : ∀ vs : List Nat, (itemsOf vs).length ≤ 2 * (vs.take 4).length := by
  intro vs
  unfold itemsOf
  generalize vs.take 4 = xs
  induction xs with
  | nil => simp
  | cons v r ih =>
    have := piR_len (signOf v) (v / 8 % 10)
    rw [List.flatMap_cons, List.length_append, List.length_cons]
    unfold pieceI at ih ⊢
    omega
inductive SgP (s : Shared) (h₀ : Heap) (L : Addr) (en ml pt : List Nat) (lI : Addr) (k v c : Nat) (led : List (Addr × Obj)) (s' : Shared) : Prop
  | mk (h : Heap) (tk : Nat) (m : Str → Option Value) (te t1 t2 t tv tg : Tok) (e1 : s' = { s with heap := h, toks := tk }) (e2 : Fr h₀ L h (kstB m [(Str.ofString "end", .str (S en) te), (Str.ofString "mail", .str (S ml) t1), (Str.ofString "pattern", .str (S pt) t2), (Str.ofString "items", .ref lI), (Str.ofString "place", .int (k : Nat) t), (Str.ofString "value", .int (v : Nat) tv), (Str.ofString "sign", .str (S [c]) tg)])) (e3 : News h₀ L h led)
theorem sgP_intro {s s' : Shared} {h₀ h : Heap} {L lI : Addr} {tk : Nat} {en ml pt : List Nat} {k v c : Nat} {m : Str → Option Value} {led nw : List (Addr × Obj)} {te t1 t2 t tv tg : Tok} {y : Str} {z : Int} (e : s' = { s with heap := h, toks := tk }) (F : Fr h₀ L h m) (N : News h₀ L h nw) (hs : ∀ q ∈ led, q ∈ nw)
    (h1 : m (Str.ofString "end") = some (.str (S en) te)) (h2 : m (Str.ofString "mail") = some (.str (S ml) t1)) (h3 : m (Str.ofString "pattern") = some (.str (S pt) t2)) (h4 : m (Str.ofString "items") = some (.ref lI)) (h5 : m (Str.ofString "place") = some (.int (k : Nat) t))
    (h6 : m (Str.ofString "value") = some (.int z tv)) (h7 : m (Str.ofString "sign") = some (.str y tg)) (hz : z = (v : Nat)) (hy : y = S [c]) : SgP s h₀ L en ml pt lI k v c led s' := by
  subst hz hy
  exact ⟨h, tk, m, te, t1, t2, t, tv, tg, e, frC F _ (by (repeat refine .cons (by assumption) ?_); exact .nil), news_sub N hs⟩
inductive PlJ (ns : List Int) (en : List Nat) (l : Addr) (ol : Obj) (k : Nat) (m : Str → Option Value) (news : List (Addr × Obj)) : Prop
  | mk (lI : Addr) (vsI : Array Value) (n : Nat) (tups : List (Addr × Obj)) (te t1 t2 : Tok) (e1 : m (Str.ofString "end") = some (.str (S en) te)) (e2 : m (Str.ofString "mail") = some (.str (S (mailOf ((valsOf ns).take k))) t1)) (e3 : m (Str.ofString "pattern") = some (.str (S (patOf en ((valsOf ns).take k))) t2)) (e4 : m (Str.ofString "items") = some (.ref lI)) (e5 : ItemsL tups vsI.toList (itemsOf ((valsOf ns).take k))) (e6 : (∀ q ∈ tups, NoEn q.2)) (e7 : (∀ q ∈ tups, @Ne Nat q.1 lI)) (e8 : @Ne Nat l lI) (e9 : news = (lI, W.listOf vsI n) :: (l, ol) :: tups)
theorem plTurn {h₀ h' : Heap} {L lI l : Addr} {ns : List Int} {en : List Nat} {ol oE oi : Obj} {e it : Addr} {k n : Nat} {Q : Flow → Shared → Prop} {s₁ s₂ : Shared} {tk' : Nat} {m : Str → Option Value} {nw tups : List (Addr × Obj)} {vsI : Array Value} {te t1 t2 : Tok} {y1 y2 : Str}
    (es : s₂ = { s₁ with heap := h', toks := tk' }) (F : Fr h₀ L h' m) (N : News h₀ L h' nw) (hs : ∀ q ∈ (e, oE) :: (it, oi) :: (lI, W.listOf vsI n) :: (l, ol) :: tups, q ∈ nw) (hol : NoEn ol) (hT : ∀ q ∈ tups, NoEn q.2) (hTne : ∀ q ∈ tups, @Ne Nat q.1 lI) (hlI : @Ne Nat l lI)
    (h1 : m (Str.ofString "end") = some (.str (S en) te)) (h2 : m (Str.ofString "mail") = some (.str y1 t1)) (h3 : m (Str.ofString "pattern") = some (.str y2 t2)) (h4 : m (Str.ofString "items") = some (.ref lI))
    (hy1 : y1 = S (mailOf ((valsOf ns).take (k + 1)))) (hy2 : y2 = S (patOf en ((valsOf ns).take (k + 1)))) (hI : ItemsL tups vsI.toList (itemsOf ((valsOf ns).take (k + 1)))) :
    TurnE h₀ L (PlJ ns en l ol (k + 1)) (e, oE) (it, oi) Q s₁ .next s₂ := by
  subst hy1 hy2
  refine TurnE.next (news' := (lI, W.listOf vsI n) :: (l, ol) :: tups) es F N hs ?_ ⟨lI, vsI, n, tups, te, t1, t2, h1, h2, h3, h4, hI, hT, hTne, hlI, rfl⟩
  intro q hq
  simp only [List.mem_cons] at hq
  rcases hq with rfl | rfl | hq
  · exact ⟨by simp, by simp⟩
  · exact hol
  · exact hT q hq
section
variable {prog : Program} {w : World} {A : Around} {s : Shared} {p : Program} {loose : List Str} {mean : ExcName → Option Value} {mg mb : Str → Option Value} {R : Value → Shared → Prop}
theorem plan_spec {ns : List Int} {lS : Addr} {vs : List Value} (X : (hd.heap_39 w.params).In s.heap) (T : Top p loose mean mg mb s.heap)
    (hd : A.depth < 880) (hh : A.handled = none) (HS : InpL s.heap lS vs.toArray) (hns : IntsAre vs ns) (hlen : ns.length ≤ 63)
    (hR : ∀ d lI vsI n tups t1 t2 h' tk', s.heap.StaysIn h' → NewIn s.heap h' ((d, { cls := .type "tuple", data := .seq #[.str (S (mailOf (valsOf ns))) t1, .str (S (patOf (endL ns.length) (valsOf ns))) t2, .ref lI] }) :: (lI, W.listOf vsI n) :: tups) →
      ItemsL tups vsI.toList (itemsOf (valsOf ns)) → R (.ref d) { s with heap := h', toks := tk' }) :
    wpAny (model prog w) A (call (.ref 100) [.ref lS] []) R (fun _ _ => False) s := by
  obtain ⟨A1, A2, A3, A4, A5⟩ := A
  simp only at hd hh
  subst hh
  have hroom : A2 < recursionLimit := by unfold recursionLimit; omega
  have hvl := hns.length
  refine' enterF (binds := [(Str.ofString "script", .ref lS)]) X T hroom ?k6 ?k7 ?k9 ?kB ?_ ?c2 ?c3 ?c4 ?c5
  (( (case k6 => k_is); (case k7 => k_is); (case k9 => exact BindsTo.of_eq rfl); (case c5 => decide); (case kB => exact locs rfl); (case c2 => exact rfl); (case c3 => exact rfl); (case c4 => exact rfl)))
  intro L h₁ F N
  replace F := frC F [(Str.ofString "script", .ref lS)] (by (repeat refine .cons (by rfl) ?_); exact .nil)
  try dsimp only
  try k_fold
  walk_at "go"
  with_reducible refine exec_cut (EndP s s.heap L lS (endL ns.length)) ?_ ?_
  · walk_at "go1"
    walk_at "go"
    with_reducible rename Fr _ _ _ _ => F1
    refine len_list (HS.now F1) (by simp only [List.size_toArray]; omega) ?_
    have hsz : vs.toArray.size = ns.length := by simp only [List.size_toArray]; exact hvl
    rw [hsz]
    have hfm : ((ns.length : Int)).fmod 3 = ((ns.length % 3 : Nat) : Int) := by
      rw [Int.fmod_eq_emod_of_nonneg _ (by decide)]; rfl
    walk_at "go"
    all_goals (first | exact trivial | exact rfl | skip)
    · with_reducible rename Fr _ _ _ _ => F9
      with_reducible rename News _ _ _ _ => N9
      with_reducible rename Int.fmod _ _ = 0 => kE
      rw [hfm] at kE
      refine endP_intro rfl F9 N9 rfl rfl ?_
      rw [endL, if_pos (by omega)]; decide +kernel
    · with_reducible rename Fr _ _ _ _ => F9
      with_reducible rename News _ _ _ _ => N9
      with_reducible rename Int.fmod _ _ = 1 => kE
      rw [hfm] at kE
      refine endP_intro rfl F9 N9 rfl rfl ?_
      rw [endL, if_neg (by omega), if_pos (by omega)]; decide +kernel
    · with_reducible rename Fr _ _ _ _ => F9
      with_reducible rename News _ _ _ _ => N9
      with_reducible rename Int.fmod _ _ = 2 => kE
      rw [hfm] at kE
      refine endP_intro rfl F9 N9 rfl rfl ?_
      rw [endL, if_neg (by omega), if_neg (by omega)]; decide +kernel
  rintro s' ⟨h, tk, te, m, rfl, F1, N1⟩
  walk_at "go"
  refine wpAny_For ?_
  walk_at "go"
  try clear F1
  with_reducible rename Fr _ _ _ _ => F2
  with_reducible rename News _ _ _ _ => N2

  refine add_arrays F2 N2 (its := vs.toArray) (HS.now F2) (isList_led N2 (.head _)) (fun h3 F3 N3 => ?_) (le_line (by simp only [List.size_toArray, List.length_cons, List.length_nil]; omega))
  walk_at "go"
  with_reducible rename Fr _ _ _ _ => F5
  with_reducible rename News _ _ _ _ => N5
  with_reducible rename IntsAre _ (List.take 8 _) => hW
  rename List Value => ws
  rename Addr => D9
  have hws := hW.length
  have hwl : ws.length = (valsOf ns).length := by rw [hws, valsOf, List.length_map]
  have hw8 : ws.length ≤ 8 := by rw [hws, List.length_take]; omega
  refine enumCall F5 N5 (isList_led N5 (.head _)) fun e it h6 hei F6 N6 => ?_
  walk_at "go"
  refine iter_enumA (L := L) (l := D9) (items := ws.toArray) (news₀ := [(_, W.listOf #[] 0), (D9, W.listOf ws.toArray 0)]) (PlJ ns (endL ns.length) D9 (W.listOf ws.toArray 0)) rfl rfl rfl rfl rfl (fun k m news h hJ Fk Nk => ?_) F6 (news_sub N6 ?_) hei ?_
    ⟨_, #[], 0, [], _, _, _, rfl, rfl, rfl, rfl, .nil, (fun q hq => nomatch hq), (fun q hq => nomatch hq), (by k_ne), rfl⟩ ?_ ?_
  · obtain ⟨lI, vsI, n, tups, te, t1, t2, _, _, _, _, _, _, _, _, rfl⟩ := hJ
    exact isList_led Nk (.tail _ (.head _))
  · intro q hq
    simp only [List.mem_cons, List.not_mem_nil, or_false] at hq ⊢
    rcases hq with rfl | rfl | rfl | rfl <;> simp
  · intro q hq
    simp only [List.mem_cons, List.not_mem_nil, or_false] at hq
    rcases hq with rfl | rfl <;> exact ⟨by simp, by simp⟩
  · try clear F2
    try clear N2
    clear F5 N5 F6 N6
    rintro k v m news h tk t oi hoi hv ⟨lI, vsI, n, tups, te, t1, t2, hm1, hm2, hm3, hm4, hI, hT, hTne, hlI, rfl⟩ hc Fk Nk
    have hk : k < ws.length := by
      have := (Array.getElem?_eq_some_iff.mp hv).1
      simpa using this
    obtain ⟨x, hx⟩ : ∃ x, (List.take 8 (ns ++ [2, 17, 26, 43]))[k]? = some x := ⟨_, List.getElem?_eq_getElem (by rw [← hws]; exact hk)⟩
    obtain ⟨tx, hx2⟩ := hW.get _ _ hx
    have hvx : v = .int x tx := by
      have : ws[k]? = some v := by simpa using hv
      rw [hx2] at this; exact (Option.some.inj this).symm
    subst hvx
    have hval : (valsOf ns)[k]? = some (x % 100000000).toNat := by
      rw [valsOf, List.getElem?_map, hx]; rfl
    have htk : (valsOf ns).take (k + 1) = (valsOf ns).take k ++ [(x % 100000000).toNat] := by rw [List.take_add_one, hval]; rfl
    replace Fk := frC Fk [(Str.ofString "end", .str (S (endL ns.length)) te), (Str.ofString "mail", .str (S (mailOf ((valsOf ns).take k))) t1), (Str.ofString "pattern", .str (S (patOf (endL ns.length) ((valsOf ns).take k))) t2), (Str.ofString "items", .ref lI), (Str.ofString "place", .int (k : Nat) t), (Str.ofString "x", .int x tx)] (by (repeat refine .cons (by first | assumption | rfl) ?_); exact .nil)
    generalize hMl : mailOf ((valsOf ns).take k) = ml at *
    generalize hPt : patOf (endL ns.length) ((valsOf ns).take k) = pt at *
    generalize hEn : endL ns.length = en at *
    walk_at "go"
    have hv8 : x.fmod (10 ^ Int.toNat 8) = (((x % 100000000).toNat : Nat) : Int) := by
      rw [show (10 : Int) ^ Int.toNat 8 = 100000000 by decide, Int.fmod_eq_emod_of_nonneg _ (by decide)]
      have := Int.emod_nonneg x (show (100000000 : Int) ≠ 0 by decide)
      omega
    have hvb : (x % 100000000).toNat < 100000000 := by
      have := Int.emod_lt_of_pos x (show (0 : Int) < 100000000 by decide)
      omega
    generalize hV : (x % 100000000).toNat = V at *
    have hcd : ((x.fmod (10 ^ Int.toNat 8)).fdiv 80).fmod 1112064 = ((V / 80 % 1112064 : Nat) : Int) := by
      rw [hv8, Int.fdiv_eq_ediv_of_nonneg _ (by decide), Int.fmod_eq_emod_of_nonneg _ (by decide)]; rfl
    have hcb : V / 80 % 1112064 < 1112064 := Nat.mod_lt _ (by decide)
    generalize hC : V / 80 % 1112064 = C at *
    have hsg : signOf V = signD (signC C) := by rw [signOf, hC]
    with_reducible refine exec_cut (SgP s s.heap L en ml pt lI k V (signC C) ((e, enumO it ((k : Int) + 1) (.int x tx)) :: (it, oi) :: (lI, W.listOf vsI n) :: (D9, W.listOf ws.toArray 0) :: tups)) ?_ ?_
    · walk_at "go1"
      walk_at "go"
      · with_reducible rename (_ : Int) < 55296 => hq
        refine chr_of_range (by rw [hcd]; omega) (by rw [hcd]; omega) ?_
        walk_at "go"
        all_goals (first | exact trivial | exact rfl | skip)
        with_reducible rename Fr _ _ _ _ => F9
        with_reducible rename News _ _ _ _ => N9
        rw [hcd] at hq
        refine sgP_intro rfl F9 N9 (fun q hq => hq) rfl rfl rfl rfl rfl rfl rfl hv8 ?_
        rw [hcd, signC, if_pos (by omega)]; rfl
      · with_reducible rename ¬ ((_ : Int) < 55296) => hq
        refine chr_of_range (by rw [hcd]; omega) (by rw [hcd]; omega) ?_
        walk_at "go"
        all_goals (first | exact trivial | exact rfl | skip)
        with_reducible rename Fr _ _ _ _ => F9
        with_reducible rename News _ _ _ _ => N9
        rw [hcd] at hq
        refine sgP_intro rfl F9 N9 (fun q hq => hq) rfl rfl rfl rfl rfl rfl rfl hv8 ?_
        rw [hcd, signC, if_neg (by omega)]; rfl
    clear hm1 hm2 hm3 hm4 
    rintro s' ⟨h, tk, m, te, t1, t2, t, tv, tg, rfl, Fs, Ns⟩
    have hct : Txt.contains (Str.ofString "*?[\x0d\n") (S [signC C]) = decide (signC C ∈ [42, 63, 91, 13, 10]) := by
      rw [show Str.ofString "*?[\x0d\n" = S [42, 63, 91, 13, 10] by decide +kernel, S_contains]
    walk_at "go"
    with_reducible refine exec_cut (SgP s s.heap L en ml pt lI k V (signD (signC C)) ((e, enumO it ((k : Int) + 1) (.int x tx)) :: (it, oi) :: (lI, W.listOf vsI n) :: (D9, W.listOf ws.toArray 0) :: tups)) ?_ ?_
    · walk_at "go1"
      walk_at "go"
      all_goals (first | exact trivial | exact rfl | skip)
      · with_reducible rename Fr _ _ _ _ => F9
        with_reducible rename News _ _ _ _ => N9
        with_reducible rename Txt.contains _ _ = true => hq
        rw [hct, decide_eq_true_eq] at hq
        refine sgP_intro rfl F9 N9 (fun q hq => hq) rfl rfl rfl rfl rfl rfl rfl rfl ?_
        rw [signD, if_pos hq]; decide +kernel
      · with_reducible rename Fr _ _ _ _ => F9
        with_reducible rename News _ _ _ _ => N9
        with_reducible rename Txt.contains _ _ = false => hq
        rw [hct, decide_eq_false_iff_not] at hq
        refine sgP_intro rfl F9 N9 (fun q hq => hq) rfl rfl rfl rfl rfl rfl rfl rfl ?_
        rw [signD, if_neg hq]
    clear hct Fs Ns
    rintro s' ⟨h, tk, m, te, t1, t2, t, tv, tg, rfl, Fs, Ns⟩
    rw [← hsg] at Fs
    (repeat' ((fail_if_success (with_reducible first | refine sSubL ?_ | refine sSubP ?_ | refine sPieces ?_)); walk_at "go1"))
    with_reducible rename Fr _ _ _ _ => F9
    with_reducible rename News _ _ _ _ => N9
    refine sub_listT N9 (.head _) ?_
    have hm8 : ((V : Int)).fmod 8 = ((V % 8 : Nat) : Int) := by rw [Int.fmod_eq_emod_of_nonneg _ (by decide)]; rfl
    rw [hm8]
    obtain ⟨tm, hme⟩ := menu8 V _ _ _ _ _ _ _ _
    refine getItem_led N9 (.head _) (by omega) (by omega) (by rw [Int.toNat_natCast]; exact hme) ?_
    have hmlb : (S ml).length ≤ 1000 := by
      rw [S_len, ← hMl]
      have := mailOf_len ((valsOf ns).take k)
      rw [List.length_take] at this
      omega
    have hmpb : (S (mailPart V)).length ≤ 2 := by rw [S_len]; exact mailPart_len V
    have hN2 := news_sub N9 (news' := (e, enumO it ((k : Int) + 1) (.int x tx)) :: (it, oi) :: (lI, W.listOf vsI n) :: (D9, W.listOf ws.toArray 0) :: tups) (fun q hq => .tail _ hq)
    clear N9 hme hm8
    (repeat' ((fail_if_success (with_reducible first | refine sSubL ?_ | refine sSubP ?_ | refine sPieces ?_)); walk_at "go1"))
    · with_reducible rename (k : Int) < 4 => hk4
      with_reducible refine exec_cut (PcP s s.heap L en (ml ++ mailPart V) pt lI k V (signOf V) ((e, enumO it ((k : Int) + 1) (.int x tx)) :: (it, oi) :: (lI, W.listOf vsI n) :: (D9, W.listOf ws.toArray 0) :: tups)) ?_ ?_
      · walk_at "go1"
        walk_at "go"
        all_goals (first | exact trivial | exact rfl | skip)
        try clear F9
        try clear hN2
        with_reducible rename Fr _ _ _ _ => F9
        with_reducible rename News _ _ _ _ => N9
        refine pcP_intro rfl F9 N9 ?_ (.head _) rfl rfl rfl rfl rfl rfl rfl (S_add _ _) ?_
        · intro q hq
          simp only [List.mem_cons] at hq
          rcases hq with rfl | rfl | rfl | rfl | hq
          · (repeat (first | exact List.Mem.head _ | apply List.Mem.tail))
          · (repeat (first | exact List.Mem.head _ | apply List.Mem.tail))
          · (repeat (first | exact List.Mem.head _ | apply List.Mem.tail))
          · (repeat (first | exact List.Mem.head _ | apply List.Mem.tail))
          · repeat (first | exact hq | apply List.Mem.tail)
        · exact pieces_ok (Nat.mod_lt _ (by decide)) (by k_ne) (by k_ne) (by k_ne) (by k_ne) (by k_ne) (by k_ne) (by k_ne) (by k_ne) (by k_ne) (by k_ne)
      · rintro s' ⟨h, tk, m, te, t1, t2, t, tv, lp, its, nw, rfl, Fp, Np, hP⟩
        obtain ⟨d, p1, td, lm, vsM, nM, mt, p2, p3, p4, p5, p6, p7⟩ := hP
        replace Np := news_sub Np (news' := (lp, W.listOf its 0) :: (d, { cls := .type "tuple", data := .seq #[.str (S (ptR en (signOf V) (V / 8 % 10))) td, .ref lm] }) :: (lm, W.listOf vsM nM) :: (e, enumO it ((k : Int) + 1) (.int x tx)) :: (it, oi) :: (lI, W.listOf vsI n) :: (D9, W.listOf ws.toArray 0) :: (tups ++ nw)) (by
          intro q hq
          simp only [List.mem_cons, List.mem_append, List.cons_append] at hq ⊢
          rcases hq with rfl | rfl | rfl | rfl | rfl | rfl | rfl | hq
          · simp
          · simp [p2]
          · simp [p3]
          · simp
          · simp
          · simp
          · simp
          · rcases hq with hq | hq <;> simp [hq])
        have hix : (((V : Int)).fdiv 8).fmod 10 = ((V / 8 % 10 : Nat) : Int) := by
          rw [Int.fdiv_eq_ediv_of_nonneg _ (by decide), Int.fmod_eq_emod_of_nonneg _ (by decide)]; rfl
        have hixb : V / 8 % 10 < 10 := Nat.mod_lt _ (by decide)
        have hptb : (S pt).length ≤ 1000 := by
          rw [S_len, ← hPt]
          have := patOf_len en (by rw [← hEn]; exact endL_len _) ((valsOf ns).take k)
          rw [List.length_take, List.length_take] at this
          omega
        have hpib : (S (ptR en (signOf V) (V / 8 % 10))).length ≤ 5 := by
          rw [S_len]; exact ptR_len en (by rw [← hEn]; exact endL_len _) _ _
        (repeat' ((fail_if_success (with_reducible first | refine sSubL ?_ | refine sSubP ?_ | refine sPieces ?_)); walk_at "go1"))
        (repeat' ((fail_if_success (with_reducible refine sSubP ?_)); walk_at "go1"))
        refine sub_list Np (.head _) ?_
        rw [hix]
        refine getItem_led Np (.head _) (by omega) (by omega) (by rw [Int.toNat_natCast]; exact p1) ?_
        (repeat' walk_at "go1")
        with_reducible rename Fr _ _ _ _ => F9
        with_reducible rename News _ _ _ _ => N9
        have hkk : k < 4 := by omega
        have hvI : vsI.size ≤ 1000 := by
          have h1 := hI.length
          have h2 := itemsOf_len ((valsOf ns).take k)
          rw [List.length_take, List.length_take] at h2
          rw [Array.length_toList] at h1
          omega
        have hp4 : patOf en ((valsOf ns).take (k + 1)) = pt ++ ptR en (signOf V) (V / 8 % 10) := by
          rw [← hPt]; unfold patOf
          rw [List.take_take, List.take_take, Nat.min_eq_right (by omega), Nat.min_eq_right (by omega), htk]; simp [pieceT]
        have hi4 : itemsOf ((valsOf ns).take (k + 1)) = itemsOf ((valsOf ns).take k) ++ piR (signOf V) (V / 8 % 10) := by
          unfold itemsOf
          rw [List.take_take, List.take_take, Nat.min_eq_right (by omega), Nat.min_eq_right (by omega), htk]; simp [pieceI]
        have hm4 : mailOf ((valsOf ns).take (k + 1)) = ml ++ mailPart V := by
          rw [htk, ← hMl]; unfold mailOf; simp
        have N10 := news_sub N9 (news' := (lI, W.listOf vsI n) :: (lm, W.listOf vsM nM) :: (e, enumO it ((k : Int) + 1) (.int x tx)) :: (it, oi) :: (D9, W.listOf ws.toArray 0) :: (mt ++ tups)) (by
          intro q hq
          simp only [List.mem_cons, List.mem_append] at hq ⊢
          rcases hq with rfl | rfl | rfl | rfl | rfl | hq | hq
          · simp
          · simp
          · simp
          · simp
          · simp
          · have := (p4 q hq).1; simp [this]
          · simp [hq])
        have hmt : ∀ q ∈ mt, NoEn q.2 := by
          intro q hq
          obtain ⟨b, x, t, e⟩ := (p4 q hq).2
          rw [e]; exact ⟨by simp, by simp⟩
        have hmn : ∀ q ∈ mt, @Ne Nat q.1 lI := by
          intro q hq
          obtain ⟨b, x, t, e⟩ := (p4 q hq).2
          exact ne_obj N10 (a := q.1) (o := q.2) (b := lI) (o' := W.listOf vsI n) (by simp [hq]) (.head _) (by rw [e]; simp)
        refine extend_any F9 N10 (.head _) ?_ hvI (by omega) fun h7 n7 F7 N7 => ?_
        · intro q hq
          simp only [List.mem_cons, List.mem_append] at hq
          rcases hq with rfl | rfl | rfl | rfl | hq | hq
          · exact p7
          · exact ne_obj N10 (o := enumO it ((k : Int) + 1) (.int x tx)) (b := lI) (o' := W.listOf vsI n) (.tail _ (.tail _ (.head _))) (.head _) (by simp)
          · exact ne_obj N10 (o := oi) (b := lI) (o' := W.listOf vsI n) (.tail _ (.tail _ (.tail _ (.head _)))) (.head _) (by rw [hoi]; simp)
          · exact hlI
          · exact hmn q hq
          · exact hTne q hq
        (repeat' walk_at "go1")
        refine plTurn (n := n7) (vsI := vsI ++ vsM) (tups := mt ++ tups) rfl F7 N7 ?_ ⟨by simp, by simp⟩ ?_ ?_ hlI rfl rfl rfl rfl ?_ ?_ ?_
        · intro q hq
          simp only [List.mem_cons, List.mem_append] at hq ⊢
          rcases hq with rfl | rfl | rfl | rfl | hq
          · simp
          · simp
          · simp
          · simp
          · simp [hq]
        · intro q hq
          rcases List.mem_append.mp hq with hq | hq
          · exact hmt q hq
          · exact hT q hq
        · intro q hq
          rcases List.mem_append.mp hq with hq | hq
          · exact hmn q hq
          · exact hTne q hq
        · rw [hm4]
        · rw [hp4, ← S_add]
        · rw [hi4, Array.toList_append]
          exact (hI.mono fun q hq => List.mem_append_right _ hq).append (p5.mono fun q hq => List.mem_append_left _ hq)
    · with_reducible rename ¬ ((k : Int) < 4) => hk4
      try clear F9
      try clear hN2
      with_reducible rename Fr _ _ _ _ => F9
      with_reducible rename News _ _ _ _ => N9
      have htk4 : (valsOf ns).take (k + 1) = (valsOf ns).take k ++ [V] := htk
      have hp4 : patOf en ((valsOf ns).take (k + 1)) = pt := by
        rw [← hPt]; unfold patOf
        rw [List.take_take, List.take_take, Nat.min_eq_left (by omega), Nat.min_eq_left (by omega)]
      have hi4 : itemsOf ((valsOf ns).take (k + 1)) = itemsOf ((valsOf ns).take k) := by
        unfold itemsOf
        rw [List.take_take, List.take_take, Nat.min_eq_left (by omega), Nat.min_eq_left (by omega)]
      have hm4 : mailOf ((valsOf ns).take (k + 1)) = ml ++ mailPart V := by
        rw [htk, ← hMl]; unfold mailOf; simp
      refine plTurn rfl F9 N9 (fun q hq => hq) ⟨by simp, by simp⟩ hT hTne hlI rfl rfl rfl rfl ?_ ?_ ?_
      · rw [hm4, ← S_add]
      · rw [hp4]
      · rw [hi4]; exact hI
  · rintro m news h tk ⟨lI, vsI, n, tups, te, t1, t2, hm1, hm2, hm3, hm4, hI, hT, hTne, hlI, rfl⟩ Fk Nk
    replace Fk := frC Fk [(Str.ofString "mail", .str (S (mailOf ((valsOf ns).take ws.toArray.size))) t1), (Str.ofString "pattern", .str (S (patOf (endL ns.length) ((valsOf ns).take ws.toArray.size))) t2), (Str.ofString "items", .ref lI)] (by (repeat refine .cons (by assumption) ?_); exact .nil)
    walk_at "go"
    with_reducible rename Fr _ _ _ _ => F9
    with_reducible rename News _ _ _ _ => N9
    have htw : (valsOf ns).take ws.toArray.size = valsOf ns := List.take_of_length_le (by simp only [List.size_toArray]; omega)
    rw [htw] at N9 hI
    refine hR _ lI vsI n tups t1 t2 _ _ F9.keep (.of (news_sub N9 ?_)) hI
    intro q hq
    simp only [List.mem_cons] at hq ⊢
    rcases hq with rfl | rfl | hq
    · simp
    · simp
    · simp [hq]
end
end

section
open PySem PySem.W PyProof.Rows
def ptsR (c r : Nat) : List Pt := [[.star], [.ques], [.lit 13, .lit 10], [.lit 46], [.lit 97], [.cls [33, 13, 10]], [.cls [33, 13, 10, 46]], [.cls [13, 10, 46, 97]], [], [.lit c]].getD r []
def midPts (vs : List Nat) : List Pt := (vs.take 4).flatMap fun v => ptsR (signOf v) (v / 8 % 10)
def inPts (vs : List Nat) : List Pt := [.lit 13, .lit 10] ++ midPts vs ++ [.lit 13, .lit 10]
theorem signD_ne (d : Nat) : signD d ≠ 42 ∧ signD d ≠ 63 ∧ signD d ≠ 91 ∧ signD d ≠ 13 ∧ signD d ≠ 10 := by
  unfold signD
  split
  · decide
  · rename_i h
    simp only [List.mem_cons, List.not_mem_nil, or_false, not_or] at h
    exact ⟨h.1, h.2.1, h.2.2.1, h.2.2.2.1, h.2.2.2.2⟩
theorem signOf_ne (v : Nat) : signOf v ≠ 42 ∧ signOf v ≠ 63 ∧ signOf v ≠ 91 ∧ signOf v ≠ 13 ∧ signOf v ≠ 10 := signD_ne _
theorem r_cases {r : Nat} (h : r < 10) : r = 0 ∨ r = 1 ∨ r = 2 ∨ r = 3 ∨ r = 4 ∨ r = 5 ∨ r = 6 ∨ r = 7 ∨ r = 8 ∨ r = 9 := by omega
def IsEn (en : List Nat) : Prop := en = [10] ∨ en = [13] ∨ en = [13, 10]
theorem endL_is (n : Nat) : IsEn (endL n) := by
  unfold endL IsEn
  split
  · simp
  · split <;> simp
theorem pat_head {en : List Nat} (he : en = [13] ∨ en = [13, 10]) : ∀ vs : List Nat, (vs.flatMap (pieceT en) ++ [13, 42]).head? ≠ some 10
  | [] => by simp
  | v :: vs => by
    have ih := pat_head he vs
    have hs := signOf_ne v
    rw [List.flatMap_cons, List.append_assoc, pieceT]
    generalize signOf v = c at hs
    rcases r_cases (Nat.mod_lt (v / 8) (show 0 < 10 by decide)) with h | h | h | h | h | h | h | h | h | h <;> rw [h]
    · simp [ptR]
    · simp [ptR]
    · rcases he with rfl | rfl <;> simp [ptR]
    · simp [ptR]
    · simp [ptR]
    · simp [ptR]
    · simp [ptR]
    · simp [ptR]
    · simpa [ptR] using ih
    · simpa [ptR] using hs.2.2.2.2
theorem fix_pieces {en : List Nat} (he : IsEn en) : ∀ vs : List Nat, fixG false (vs.flatMap (pieceT en) ++ [13, 42]) = (vs.flatMap fun v => ptsR (signOf v) (v / 8 % 10)).flatMap Pt.txt ++ [13, 10, 42]
  | [] => by simp [fixG]
  | v :: vs => by
    have ih := fix_pieces he vs
    have hs := signOf_ne v
    rw [List.flatMap_cons, List.flatMap_cons, List.append_assoc, List.flatMap_append, pieceT, List.append_assoc, ← ih]
    generalize hrest : vs.flatMap (pieceT en) ++ [13, 42] = rest
    have hh : en = [13] → rest.head? ≠ some 10 := fun e => hrest ▸ pat_head (.inl e) vs
    generalize signOf v = c at hs
    rcases r_cases (Nat.mod_lt (v / 8) (show 0 < 10 by decide)) with h | h | h | h | h | h | h | h | h | h <;> rw [h]
    · simp [ptR, ptsR, fixG, Pt.txt]
    · simp [ptR, ptsR, fixG, Pt.txt]
    · rcases he with rfl | rfl | rfl
      · simp [ptR, ptsR, fixG, Pt.txt]
      · simp [ptR, ptsR, fixG, Pt.txt, fixG_true (hh rfl)]
      · simp [ptR, ptsR, fixG, Pt.txt]
    · simp [ptR, ptsR, fixG, Pt.txt]
    · simp [ptR, ptsR, fixG, Pt.txt]
    · simp [ptR, ptsR, fixG, Pt.txt]
    · simp [ptR, ptsR, fixG, Pt.txt]
    · simp [ptR, ptsR, fixG, Pt.txt]
    · simp [ptR, ptsR]
    · simp [ptR, ptsR, fixG, Pt.txt, hs.2.2.2.1, hs.2.2.2.2]
theorem fix_pat {en : List Nat} (he : IsEn en) (vs : List Nat) : fixG false ([42, 10] ++ patOf en vs ++ [13, 42]) = (Pt.star :: inPts vs ++ [Pt.star]).flatMap Pt.txt := by
  have := fix_pieces he (vs.take 4)
  rw [List.append_assoc]
  show fixG false (42 :: 10 :: (patOf en vs ++ [13, 42])) = _
  simp only [fixG]
  unfold patOf
  rw [this]
  simp [inPts, midPts, Pt.txt]
theorem ptsR_ok {c : Nat} (hc : c ≠ 42 ∧ c ≠ 63 ∧ c ≠ 91) {r : Nat} (h : r < 10) : ∀ q ∈ ptsR c r, q.Ok := by
  rcases r_cases h with rfl | rfl | rfl | rfl | rfl | rfl | rfl | rfl | rfl | rfl <;> intro q hq <;> simp [ptsR] at hq
  · subst hq; trivial
  · subst hq; trivial
  · rcases hq with rfl | rfl <;> simp [Pt.Ok]
  · subst hq; simp [Pt.Ok]
  · subst hq; simp [Pt.Ok]
  · subst hq; simp [Pt.Ok, clsB]
  · subst hq; simp [Pt.Ok, clsB]
  · subst hq; simp [Pt.Ok, clsB]
  · subst hq; exact hc
theorem inPts_ok (vs : List Nat) : ∀ q ∈ inPts vs, q.Ok := by
  intro q hq
  simp only [inPts, List.mem_append, List.mem_cons, List.not_mem_nil, or_false] at hq
  rcases hq with ((rfl | rfl) | hq) | (rfl | rfl)
  · simp [Pt.Ok]
  · simp [Pt.Ok]
  · simp only [midPts, List.mem_flatMap] at hq
    obtain ⟨v, _, hq⟩ := hq
    have := signOf_ne v
    exact ptsR_ok ⟨this.1, this.2.1, this.2.2.1⟩ (Nat.mod_lt _ (by decide)) q hq
  · simp [Pt.Ok]
  · simp [Pt.Ok]
theorem piR_pts (c : Nat) {r : Nat} (h : r < 10) : (ptsR c r).map ptItem = piR c r := by
  rcases r_cases h with rfl | rfl | rfl | rfl | rfl | rfl | rfl | rfl | rfl | rfl <;> rfl
theorem items_pts (vs : List Nat) : (inPts vs).map ptItem = crI ++ itemsOf vs ++ crI := by
  have h : (midPts vs).map ptItem = itemsOf vs := by
    unfold midPts itemsOf
    generalize vs.take 4 = xs
    induction xs with
    | nil => rfl
    | cons v r ih => rw [List.flatMap_cons, List.flatMap_cons, List.map_append, ih, pieceI, piR_pts _ (Nat.mod_lt _ (by decide))]
  rw [inPts, List.map_append, List.map_append, h]
  rfl
theorem ptsR_len (c r : Nat) : (ptsR c r).length ≤ 2 := by
  unfold ptsR
  rcases r with _ | _ | _ | _ | _ | _ | _ | _ | _ | _ | r <;> first | (simp; done) | (simp [List.getD]; done)
theorem inPts_len (vs : List Nat) : (inPts vs).length ≤ 12 := by
  have h : (midPts vs).length ≤ 2 * (vs.take 4).length := by
    unfold midPts
    generalize vs.take 4 = xs
    induction xs with
    | nil => simp
    | cons v r ih =>
      have := ptsR_len (signOf v) (v / 8 % 10)
      rw [List.flatMap_cons, List.length_append, List.length_cons]; omega
  rw [List.length_take] at h
  simp only [inPts, List.length_append, List.length_cons, List.length_nil]
  omega
theorem out_len {q : Pt} (h : q.Ok) : q.out.length ≤ 6 := by
  cases q with
  | star => simp [Pt.out]
  | ques => simp [Pt.out]
  | lit c => simp only [Pt.out, escC]; split <;> simp
  | cls B =>
    have hB : B ∈ clsB := h
    simp only [clsB, List.mem_cons, List.not_mem_nil, or_false] at hB
    rcases hB with rfl | rfl | rfl <;> decide
theorem grps_sum : ∀ (pg : List (List Pt)), (∀ g ∈ pg, ∀ q ∈ g, q.Ok) → (((pg.map (·.map Pt.out)).map grpText).map List.length).sum ≤ 7 * pg.length + 6 * (pg.map List.length).sum
  | [], _ => by simp
  | g :: r, h => by
    have ih := grps_sum r fun x hx => h x (.tail _ hx)
    have h1 : (g.map Pt.out).flatten.length ≤ 6 * g.length := by
      have hg := h g (.head _)
      clear ih h
      induction g with
      | nil => simp
      | cons q t iht =>
        have := out_len (hg q (.head _))
        have := iht fun x hx => hg x (.tail _ hx)
        simp only [List.map_cons, List.flatten_cons, List.length_append, List.length_cons]; omega
    simp only [List.map_cons, List.sum_cons, List.length_cons, grpText, List.length_append, List.length_nil]
    simp only [List.map_map] at ih ⊢
    omega
/-- the groups of a script's pattern -/
noncomputable def pgs (vs : List Nat) : List (List Pt) := pgrp [] (inPts vs)
theorem pgs_ok (vs : List Nat) : ∀ g ∈ pgs vs, ∀ q ∈ g, q.Ok ∧ q ≠ .star := by
  intro g hg q hq
  have := pgrp_mem (inPts vs) [] (by simp) g hg q hq
  exact ⟨inPts_ok vs q (by simpa using this.2), this.1⟩
theorem pgs_ne (vs : List Nat) : pgs vs ≠ [] := by
  unfold pgs inPts
  rw [List.append_assoc]
  show pgrp [] (.lit 13 :: .lit 10 :: (midPts vs ++ [.lit 13, .lit 10])) ≠ []
  rw [pgrp_cons _ _ _ (by simp)]
  exact pgrp_nonempty (.lit 13) (by simp) _ _ (by simp)
theorem pgs_sum (vs : List Nat) : ((pgs vs).map List.length).sum ≤ 12 := by
  have h1 := pgrp_len (inPts vs) []
  have h2 := inPts_len vs
  simp only [List.length_nil] at h1
  unfold pgs; omega
theorem pgs_len (vs : List Nat) : (pgs vs).length ≤ 12 := Nat.le_trans (pgrp_count (inPts vs) []) (pgs_sum vs)
theorem pgs_text (vs : List Nat) : ((((pgs vs).map (·.map Pt.out)).map grpText).map List.length).sum ≤ 200 := by
  have h1 := grps_sum (pgs vs) fun g hg q hq => (pgs_ok vs g hg q hq).1
  have h2 := pgs_sum vs
  have h3 := pgs_len vs
  omega
theorem pgs_join (vs : List Nat) : (joinText ((pgs vs).map (·.map Pt.out))).length ≤ 300 := by
  have := pgs_text vs
  unfold joinText
  simp only [List.length_append, List.length_flatten, List.length_cons, List.length_nil]
  omega
theorem pgs_trans (vs : List Nat) : transL (Pt.star :: inPts vs ++ [Pt.star]) = encG ((pgs vs).map (·.map Pt.out)) ++ [none] := transL_groups _
theorem pgs_enc (vs : List Nat) : (encG ((pgs vs).map (·.map Pt.out))).length ≤ 200 := by
  have h1 := congrArg List.length (pgs_trans vs)
  have h2 := transL_len (Pt.star :: inPts vs ++ [Pt.star])
  have h3 := inPts_len vs
  simp only [List.length_append, List.length_cons, List.length_nil] at h1 h2
  omega
theorem pgs_mem_ne (vs : List Nat) : ∀ g ∈ (pgs vs).map (·.map Pt.out), g ≠ [] := by
  intro g hg
  obtain ⟨g', h, rfl⟩ := List.mem_map.mp hg
  have := pgrp_ne (inPts vs) [] g' h
  simpa using this
theorem pgs_units (vs : List Nat) : (pgs vs).map (·.map Pt.unit) = grp [] (crI ++ itemsOf vs ++ crI) := by
  have := grp_pgrp (inPts vs) []
  rw [List.map_nil, items_pts] at this
  exact this.symm
theorem rows_bound (mail : List Nat) : (Fl (rowsOf mail)).length ≤ 2 * mail.length + 2 := by
  rw [← rows_fixed]
  have := fixG_len mail false
  simp; omega
theorem quoted_bound (mail : List Nat) : (Fl ((rowsOf mail).map quoteRow)).length ≤ 4 * mail.length + 2 := by
  rw [← rows_quoted]
  have h1 := fixG_len mail false
  have h2 := qd_len (fixG false mail) true
  simp; omega
/-- both findings are what is due -/
theorem law_end {vs mail : List Nat} {z1 z2 d1 d2 : Int} (h1 : FIs ([13, 10] ++ fixG false mail ++ [13, 10]) ((pgs vs).map (·.map Pt.unit)) 0 z1) (h2 : FIs ([13, 10] ++ qd true (fixG false mail) ++ [13, 10]) ((pgs vs).map (·.map Pt.unit)) 0 z2)
    (g1 : DueIs (itemsOf vs) (rowsOf mail) d1) (g2 : DueIs (itemsOf vs) ((rowsOf mail).map quoteRow) d2) : z1 = d1 ∧ z2 = d2 := by
  rw [List.append_assoc, rows_fixed, pgs_units] at h1
  rw [List.append_assoc, rows_quoted, pgs_units] at h2
  refine ⟨found_due (rows_clean mail) h1 g1, found_due ?_ h2 g2⟩
  intro r hr
  obtain ⟨r', h, rfl⟩ := List.mem_map.mp hr
  exact quote_clean (rows_clean mail r' h)
end

section
open PySem PySem.W PyProof.Rows PySem.Calls
set_option maxHeartbeats 8000000
local macro_rules | `(tactic| walk_at "stop1") => `(tactic| (walk_at "stG"; fail_if_success (with_reducible first | refine sEq ?_)))

theorem frH {h₀ h h' : Heap} {L P : Addr} {m : Str → Option Value} (F : Fr h₀ L h m) (h0 : h₀.get? P = none) (hL : @Ne Nat P L) (k : (hideAll h [P]).StaysIn h') : Fr h₀ L h' m := by
  obtain ⟨oL, es, ep, hLg, r⟩ := F.ns
  refine ⟨⟨oL, es, ep, k _ _ (hideAll_get _ hLg (by simpa using Ne.symm hL)), r⟩, fun b o e => k _ _ (hideAll_get _ (F.keep b o e) ?_), F.above⟩
  intro hb
  rw [List.mem_singleton] at hb
  subst hb
  rw [h0] at e; cases e
theorem newsH {h₀ h h' : Heap} {L P : Addr} {nw : List (Addr × Obj)} (N : News h₀ L h nw) (hne : ∀ q ∈ nw, @Ne Nat q.1 P) (k : (hideAll h [P]).StaysIn h') : News h₀ L h' nw :=
  fun q hq => ⟨k _ _ (hideAll_get _ (N q hq).1 (by simpa using hne q hq)), (N q hq).2⟩
theorem keepH {h₀ h : Heap} {L P : Addr} {m : Str → Option Value} (F : Fr h₀ L h m) (h0 : h₀.get? P = none) : ∀ b o, h₀.get? b = some o → (hideAll h [P]).get? b = some o := by
  intro b o e
  refine hideAll_get _ (F.keep b o e) ?_
  intro hb
  rw [List.mem_singleton] at hb
  subst hb
  rw [h0] at e; cases e
theorem items_at {h : Heap} {tups : List (Addr × Obj)} {vs : List Value} {I : List Item} (x : ItemsL tups vs I) (hg : ∀ q ∈ tups, h.get? q.1 = some q.2) : ItemsAt h vs I := by
  induction x with
  | nil => exact .nil
  | star _ ih => exact .star ih
  | unit hm _ ih => exact .unit (hg _ hm) ih
theorem mem_Fl_len {rs : List (List Nat)} {r : List Nat} (h : r ∈ rs) : r.length ≤ (Fl rs).length := by
  induction rs with
  | nil => cases h
  | cons x t ih =>
    rw [Fl_cons, List.length_append, List.length_append]
    rcases List.mem_cons.mp h with rfl | h
    · omega
    · have := ih h; omega
theorem row_dot (r : List Nat) : (Txt.slice (S r) none (some 1) == Str.ofString ".") = decide (r.head? = some 46) := by
  cases r with
  | nil => rw [S_slice_nil, show Str.ofString "." = S [46] by decide +kernel, S_beq]; simp
  | cons c r =>
    have := S_slice_to (l := c :: r) (j := 1) (by simp)
    rw [show ((1 : Nat) : Int) = 1 from rfl] at this
    rw [this, show Str.ofString "." = S [46] by decide +kernel, S_beq]; simp
abbrev lst_arr (ys : List Value) : Array Value := ys.toArray
theorem noErr {M : Model} {A : Around} {α : Type} {m : Sem α} {Q : α → Shared → Prop} {E : Value → Shared → Prop} {s : Shared} (h : wpAny M A m Q (fun _ _ => False) s) : wpAny M A m Q E s :=
  wpAny_mono h (fun _ _ h => h) fun _ _ e => e.elim
set_option maxHeartbeats 8000000 in
theorem law_holds : PySem.Challenge.rw_ij0165_01.Holds := hdw hd run_all (by
  k_go0
  all_goals (try k_fold)
  with_reducible rename Frag.In _ _ => X
  with_reducible rename Top _ _ _ _ _ _ => T
  with_reducible rename Fr _ _ _ _ => F0
  with_reducible rename News _ _ _ _ => N0
  with_reducible rename Heap.IsList _ _ _ => hL
  with_reducible rename IntsAre _ _ => hI
  with_reducible rename CodeHd _ _ _ => CH
  with_reducible rename ¬ (_ < _) => hlen
  rename Shared => s₁
  have b57 := (N0 _ (.head _)).2.2
  have L57 := (N0 _ (.head _)).2.1
  rename List Int => ns
  have hvl : (valsOf ns).length ≤ 8 := by rw [valsOf, List.length_map, List.length_take]; omega
  have hml := mailOf_len (valsOf ns)
  have hpl := patOf_len (endL ns.length) (endL_len _) (valsOf ns)
  have hil := itemsOf_len (valsOf ns)
  rw [List.length_take] at hpl hil
  have hen := endL_is ns.length
  walk_at "go"
  refine noErr (plan_spec (X.keeps F0.keep) (T.keeps F0.keep) ?_ rfl ?_ hI (by omega) (fun d lI vsI n tups t1 t2 h1 tk1 hst hnew hIt => ?_))
  · show callerA.depth + 1 < 880; decide
  · exact ⟨hL.at fun o e => F0.keep _ o e⟩
  have hno1 := new_ne hnew N0
  have F1 := fr_stays F0 hst
  have N1 := news_sub (news_add F0 N0 hst hnew) (news' := (57, tabObj #[]) :: (d, { cls := .type "tuple", data := .seq #[.str (S (mailOf (valsOf ns))) t1, .str (S (patOf (endL ns.length) (valsOf ns))) t2, .ref lI] }) :: (lI, W.listOf vsI n) :: tups) (by
    intro q hq
    simp only [List.mem_cons, List.mem_append] at hq ⊢
    rcases hq with rfl | rfl | rfl | hq
    · simp
    · simp
    · simp
    · simp [hq])
  clear F0 N0 hst hI hL
  generalize valsOf ns = vals at *
  generalize hmailE : mailOf vals = mail at *
  walk_at "go"
  with_reducible rename Fr _ _ _ _ => F2
  with_reducible rename News _ _ _ _ => N2
  refine noErr (rows_spec (X.keeps F2.keep) (T.keeps F2.keep) ?_ rfl ?_ (by omega) (fun lR vR nR h2 tk2 hst2 hnew2 hSR => ?_))
  · show callerA.depth + 1 < 900; decide
  · show callerA.units + 3 < 1000; decide
  have hno2 := new_ne hnew2 N2
  have F3 := fr_stays F2 hst2
  have N3 := news_sub (news_add F2 N2 hst2 hnew2) (news' := (57, tabObj #[]) :: (lI, W.listOf vsI n) :: (lR, W.listOf vR nR) :: tups) (by
    intro q hq
    simp only [List.mem_cons, List.mem_append, List.not_mem_nil, or_false] at hq ⊢
    rcases hq with rfl | rfl | rfl | hq
    · simp
    · simp
    · simp
    · simp [hq])
  have hdt : @Ne Nat lI 57 := hno1 _ (.tail _ (.head _)) _ (.head _)
  have hdr : @Ne Nat lR 57 := hno2 _ (.head _) _ (.head _)
  have hdts : ∀ q ∈ tups, @Ne Nat q.1 57 := fun q hq => hno1 _ (.tail _ (.tail _ hq)) _ (.head _)
  clear F2 N2 hst2 hnew2 hno2 hno1
  replace hSR : StrsAre vR.toList ((rowsOf mail).map S) := hSR
  have hvR : vR.size = (rowsOf mail).length := by have := hSR.length; simpa using this
  have hrl := rowsOf_len mail
  have hrb := rows_bound mail
  have hqb := quoted_bound mail
  walk_at "go"
  with_reducible rename Fr _ _ _ _ => F4
  with_reducible rename News _ _ _ _ => N4
  refine LCg.Assign_ListComp_U (F₀ := F4) rfl (by with_unfolding_all rfl) (by with_unfolding_all rfl) (by decide) (by rfl) (by decide) (by rfl) (by rfl) (by rfl) ?_
  walk_at "go"
  refine LCg.CompSrc.ledger rfl F4 N4 (.tail _ (.tail _ (.head _))) (le_line (by omega)) (fun g => ?_)
  refine rest_ind (n₀ := vR.size) (fun i ys nw => nw = (57, tabObj #[]) :: (lI, W.listOf vsI n) :: (lR, W.listOf vR nR) :: tups ∧ ys.length ≤ i ∧ StrsAre ys ((((rowsOf mail).take i).map quoteRow).map S)) ?_ ?_ _ 0 [] _ (by omega) ⟨rfl, Nat.le_refl _, .nil⟩
  · rintro i ys news v' I' oI' C' oC' D' m' h' tk' E' hi ⟨rfl, hyl, hy⟩ hv' hC' hx' F' N' off' ne'
    clear ne'
    have off9 := off'
    have hi2 : i < (rowsOf mail).length := by omega
    have hri : ((rowsOf mail).map S)[i]? = some (S ((rowsOf mail).getD i [])) := by
      rw [List.getElem?_map, List.getD_eq_getElem?_getD, List.getElem?_eq_getElem hi2]; rfl
    obtain ⟨tr, hvr⟩ := hSR.get _ _ hri
    have hv9 : v' = .str (S ((rowsOf mail).getD i [])) tr := by
      rw [Array.getElem?_toList] at hvr
      rw [hvr] at hv'; exact (Option.some.inj hv').symm
    subst hv9
    have htk : (rowsOf mail).take (i + 1) = (rowsOf mail).take i ++ [(rowsOf mail).getD i []] := by
      rw [List.take_add_one, List.getD_eq_getElem?_getD, List.getElem?_eq_getElem hi2]; rfl
    have hrm : (S ((rowsOf mail).getD i [])).length ≤ 1000 := by
      rw [S_len]
      have := mem_Fl_len (rs := rowsOf mail) (r := (rowsOf mail).getD i []) (by rw [List.getD_eq_getElem?_getD, List.getElem?_eq_getElem hi2]; exact List.getElem_mem hi2)
      omega
    have hdot := row_dot ((rowsOf mail).getD i [])
    have hqr : quoteRow ((rowsOf mail).getD i []) = if ((rowsOf mail).getD i []).head? = some 46 then 46 :: (rowsOf mail).getD i [] else (rowsOf mail).getD i [] := rfl
    generalize (rowsOf mail).getD i [] = r at *
    walk_at "go"
    · with_reducible rename Fr _ _ _ _ => F7
      with_reducible rename News _ _ _ _ => N7
      with_reducible rename (_ == _) = true => hq
      rw [hdot, decide_eq_true_eq] at hq
      rw [if_pos hq] at hqr
      refine compEnd_of rfl F7 N7 off9 (.inr ⟨_, .tail _ (.tail _ (.head _)), rfl, _, rfl⟩) ⟨rfl, by rw [List.length_append]; simp only [List.length_cons, List.length_nil]; omega, ?_⟩
      rw [htk, List.map_append, List.map_append]
      refine StrsAre.append' hy ?_
      rw [List.map_cons, List.map_nil, List.map_cons, List.map_nil, hqr, show Str.ofString "." ++ S r = S (46 :: r) by rw [show Str.ofString "." = S [46] by decide +kernel, S_add]; rfl]
      exact .cons _ _ .nil
    · with_reducible rename Fr _ _ _ _ => F7
      with_reducible rename News _ _ _ _ => N7
      with_reducible rename (_ == _) = false => hq
      rw [hdot, decide_eq_false_iff_not] at hq
      rw [if_neg hq] at hqr
      refine compEnd_of rfl F7 N7 off9 (.inr ⟨_, .tail _ (.tail _ (.head _)), rfl, _, rfl⟩) ⟨rfl, by rw [List.length_append]; simp only [List.length_cons, List.length_nil]; omega, ?_⟩
      rw [htk, List.map_append, List.map_append]
      refine StrsAre.append' hy ?_
      rw [List.map_cons, List.map_nil, List.map_cons, List.map_nil, hqr]
      exact .cons _ _ .nil
  · rintro ys news ⟨rfl, hyl, hy⟩ lQ h5 tk5 F5 N5 hoff
    have hdq : @Ne Nat 57 lQ := hoff.1
    rw [List.take_of_length_le (by omega)] at hy
    have hpS : (S (patOf (endL ns.length) vals)).length ≤ 1000 := by rw [S_len]; omega
    walk_at "go"
    have hcat : Str.ofString "*\n" ++ S (patOf (endL ns.length) vals) ++ Str.ofString "\x0d*" = S ([42, 10] ++ patOf (endL ns.length) vals ++ [13, 42]) := by
      rw [show Str.ofString "*\n" = S [42, 10] by decide +kernel, show Str.ofString "\x0d*" = S [13, 42] by decide +kernel, S_add, S_add]
    rw [hcat]
    refine noErr (eols_spec (X.keeps F5.keep) (T.keeps F5.keep) ?_ (by simp only [List.length_append, List.length_cons, List.length_nil]; omega) (fun tE h6 tk6 hst6 => ?_))
    · show callerA.depth + 1 < 900; decide
    rw [fix_pat hen]
    have F6 := fr_stays F5 hst6
    have N6 := news_stays N5 hst6
    have hpt6 : ((Pt.star :: inPts vals ++ [Pt.star]).flatMap Pt.txt).length ≤ 1000 := by
      rw [← fix_pat hen]
      have := fixG_len ([42, 10] ++ patOf (endL ns.length) vals ++ [13, 42]) false
      simp only [List.length_append, List.length_cons, List.length_nil] at this
      omega
    clear F5 N5
    walk_at "go"
    refine noErr (translate_spec (pts := Pt.star :: inPts vals ++ [Pt.star]) (gs := (pgs vals).map (·.map Pt.out)) (X.keeps (keepH F6 b57)) (T.keeps (keepH F6 b57)) (N6 _ (.tail _ (.head _))).1 (CH.keeps (keepH F6 b57)) ?_ rfl hpt6 rfl ?_ (pgs_trans vals) (pgs_mem_ne vals) (pgs_enc vals) (Nat.le_trans (pgs_text vals) (by omega)) (fun tT ps h7 tk7 hps hP7 hst7 => ?_))
    · show callerA.depth + 1 < 880; decide
    · intro q hq
      rcases List.mem_append.mp hq with hq | hq
      · rcases List.mem_cons.mp hq with rfl | hq
        · trivial
        · exact inPts_ok vals q hq
      · rw [List.mem_singleton] at hq; subst hq; trivial
    have F7 := frH F6 b57 L57 hst7
    have N7a := newsH (news_sub N6 (news' := (lQ, LCg.lst ys) :: (lI, W.listOf vsI n) :: (lR, W.listOf vR nR) :: tups) (by
      intro q hq
      simp only [List.mem_cons] at hq ⊢
      rcases hq with rfl | rfl | rfl | hq
      · simp
      · simp
      · simp
      · simp [hq])) (by
      intro q hq
      simp only [List.mem_cons] at hq
      rcases hq with rfl | rfl | rfl | hq
      · exact hdq.symm
      · exact hdt
      · exact hdr
      · exact hdts q hq) hst7
    have N7 : News (ghostOf s₁.heap [(61, 57)]) s₁.heap.objs.size h7 ((lQ, LCg.lst ys) :: (lI, W.listOf vsI n) :: (lR, W.listOf vR nR) :: (57, tabObj ps) :: tups) := by
      intro q hq
      simp only [List.mem_cons] at hq
      rcases hq with rfl | rfl | rfl | rfl | hq
      · exact N7a _ (.head _)
      · exact N7a _ (.tail _ (.head _))
      · exact N7a _ (.tail _ (.tail _ (.head _)))
      · exact ⟨hP7, L57, b57⟩
      · exact N7a _ (.tail _ (.tail _ (.tail _ hq)))
    clear N7a
    clear F6 N6
    have hfl := fixG_len mail false
    have hql := qd_len (fixG false mail) true
    have hfS : (S (fixG false mail)).length ≤ 1000 := by rw [S_len]; omega
    have hqS : (S (qd true (fixG false mail))).length ≤ 1000 := by rw [S_len]; omega
    have hc1 : Str.ofString "\x0d\n" ++ S (fixG false mail) ++ Str.ofString "\x0d\n" = S ([13, 10] ++ fixG false mail ++ [13, 10]) := by rw [lit_crlf, S_add, S_add]
    have hc2 : Str.ofString "\x0d\n" ++ S (qd true (fixG false mail)) ++ Str.ofString "\x0d\n" = S ([13, 10] ++ qd true (fixG false mail) ++ [13, 10]) := by rw [lit_crlf, S_add, S_add]
    walk_at "go"
    with_reducible rename Fr _ _ _ _ => F8
    with_reducible rename News _ _ _ _ => N8
    refine noErr (eols_spec (X.keeps F8.keep) (T.keeps F8.keep) ?_ (by omega) (fun tA h8 tk8 hst8 => ?_))
    · show callerA.depth + 1 < 900; decide
    have F9 := fr_stays F8 hst8
    have N9 := news_stays N8 hst8
    clear F8 N8 hst8
    walk_at "go"
    rw [hc1]
    refine noErr (found_spec (pg := pgs vals) (X.keeps F9.keep) (T.keeps F9.keep) ?_ rfl ?_ (pgs_ne vals) (pgs_ok vals) (by have := pgs_len vals; omega) (by have := pgs_join vals; omega) (by simp only [List.length_append, List.length_cons, List.length_nil]; omega) (fun z1 tz1 h9 tk9 hst9 hz1 => ?_))
    · show callerA.depth + 1 < 880; decide
    · show callerA.units + 3 < 1000; decide
    have F10 := fr_stays F9 hst9
    have N10 := news_stays N9 hst9
    clear F9 N9 hst9
    walk_at "go"
    refine noErr (quote_spec (X.keeps F10.keep) (T.keeps F10.keep) ?_ (by omega) (by omega) (fun tB h10 tk10 hst10 => ?_))
    · show callerA.depth + 1 < 900; decide
    have F11 := fr_stays F10 hst10
    have N11 := news_stays N10 hst10
    clear F10 N10 hst10
    walk_at "go"
    rw [hc2]
    refine noErr (found_spec (pg := pgs vals) (X.keeps F11.keep) (T.keeps F11.keep) ?_ rfl ?_ (pgs_ne vals) (pgs_ok vals) (by have := pgs_len vals; omega) (by have := pgs_join vals; omega) (by simp only [List.length_append, List.length_cons, List.length_nil]; omega) (fun z2 tz2 h11 tk11 hst11 hz2 => ?_))
    · show callerA.depth + 1 < 880; decide
    · show callerA.units + 3 < 1000; decide
    have F12 := fr_stays F11 hst11
    have N12 := news_stays N11 hst11
    clear F11 N11 hst11
    walk_at "go"
    with_reducible rename Fr _ _ _ _ => F13
    with_reducible rename News _ _ _ _ => N13
    have hqs : (lst_arr ys).size = (rowsOf mail).length := by
      have := hy.length
      simpa [lst_arr] using this
    refine noErr (due_spec (I := itemsOf vals) (rs := rowsOf mail) (its := vsI) (vR := vR) (X.keeps F13.keep) (T.keeps F13.keep) ?_ rfl ⟨isList_led N13 (.tail _ (.tail _ (.head _)))⟩ (items_at hIt fun q hq => (N13 _ (.tail _ (.tail _ (.tail _ (.tail _ (.tail _ hq)))))).1) ⟨isList_led N13 (.tail _ (.tail _ (.tail _ (.head _))))⟩ hSR (by omega) (by omega) (by omega) (fun e1 te1 h12 tk12 hst12 hd1 => ?_))
    · show callerA.depth + 1 < 880; decide
    have F14 := fr_stays F13 hst12
    have N14 := news_stays N13 hst12
    clear F13 N13 hst12
    walk_at "go"
    refine noErr (due_spec (I := itemsOf vals) (rs := (rowsOf mail).map quoteRow) (its := vsI) (vR := lst_arr ys) (X.keeps F14.keep) (T.keeps F14.keep) ?_ rfl ⟨isList_led N14 (.tail _ (.tail _ (.head _)))⟩ (items_at hIt fun q hq => (N14 _ (.tail _ (.tail _ (.tail _ (.tail _ (.tail _ hq)))))).1) ⟨isList_led N14 (.tail _ (.head _))⟩ (by simpa [lst_arr] using hy) (by omega) (by rw [List.length_map]; omega) (by omega) (fun e2 te2 h13 tk13 hst13 hd2 => ?_))
    · show callerA.depth + 1 < 880; decide
    have F15 := fr_stays F14 hst13
    have N15 := news_stays N14 hst13
    clear F14 N14 hst13
    obtain ⟨hz1', hz2'⟩ := law_end hz1 hz2 hd1 hd2
    subst hz1' hz2'
    walk_at "go"
    with_reducible rename News _ _ _ _ => N16
    refine eq_intsK (vs := [.int z1 tz1, .int z2 tz2]) (us := [.int z1 te1, .int z2 te2]) (ns := [z1, z2]) (ms := [z1, z2]) (isList_led N16 (.tail _ (.head _))) (.cons _ _ (.cons _ _ .nil)) (isList_led N16 (.head _)) (.cons _ _ (.cons _ _ .nil)) (by show callerA.units + 3 + 64 < cLine; decide) ?_
    rw [decide_eq_true rfl]
    with_reducible rename Fr _ _ _ _ => F16
    have h57 := (N16 (57, tabObj ps) (.tail _ (.tail _ (.tail _ (.tail _ (.tail _ (.head _))))))).1
    have hgens : s₁.gens = #[] := by with_reducible assumption
    (repeat ((with_reducible (rename IsQ _ _ => hq8; rename Flow → Shared → Prop => Q8)); refine endR (Q' := Q8) hq8 ?_; clear hq8 Q8))
    refine ⟨goodW_bool F16 hgens (fun _ => rfl) ?_ rfl, ?_⟩
    · first | exact postW_of (by wrow_shape) (by wtm_val) rfl | wrow_post | kc_post | exact postW_of rfl rfl rfl
    · exact ⟨GrownAt.of N16 (.tail _ (.tail _ (.tail _ (.tail _ (.tail _ (.head _)))))), True.intro⟩)
end

end Mine

theorem PySem.Challenge.cw_ij0165_01_holds : PySem.Challenge.rw_ij0165_01.Holds :=
  Mine.law_holds
