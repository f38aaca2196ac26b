import PyProof.Rows.All
import Wide.All
import OpenK.AllK
import Wide.FinOn
import Lean
import PySem.Challenge.RW_gn5001_02
set_option Elab.async false
set_option rowWalk.seconds 0

namespace Mine.Rx
open PySem PySem.Sre
set_option linter.all false

def code : Array Nat := #[14, 10, 1, 3, 4294967295, 2, 2, 27, 91, 0, 0, 16, 27, 16, 91, 24, 10, 0, 4294967295, 13, 5, 22, 48, 63, 0, 1, 24, 10, 0, 4294967295, 13, 5, 22, 32, 47, 0, 1, 13, 5, 22, 64, 126, 0, 1]
theorem cs : code.size = 44 := rfl
theorem c0 : code.getD 0 0 = 14 := rfl
theorem c1 : code.getD 1 0 = 10 := rfl
theorem c2 : code.getD 2 0 = 1 := rfl
theorem c3 : code.getD 3 0 = 3 := rfl
theorem c4 : code.getD 4 0 = 4294967295 := rfl
theorem c5 : code.getD 5 0 = 2 := rfl
theorem c6 : code.getD 6 0 = 2 := rfl
theorem c7 : code.getD 7 0 = 27 := rfl
theorem c8 : code.getD 8 0 = 91 := rfl
theorem c9 : code.getD 9 0 = 0 := rfl
theorem c10 : code.getD 10 0 = 0 := rfl
theorem c11 : code.getD 11 0 = 16 := rfl
theorem c12 : code.getD 12 0 = 27 := rfl
theorem c13 : code.getD 13 0 = 16 := rfl
theorem c14 : code.getD 14 0 = 91 := rfl
theorem c15 : code.getD 15 0 = 24 := rfl
theorem c16 : code.getD 16 0 = 10 := rfl
theorem c17 : code.getD 17 0 = 0 := rfl
theorem c18 : code.getD 18 0 = 4294967295 := rfl
theorem c19 : code.getD 19 0 = 13 := rfl
theorem c20 : code.getD 20 0 = 5 := rfl
theorem c21 : code.getD 21 0 = 22 := rfl
theorem c22 : code.getD 22 0 = 48 := rfl
theorem c23 : code.getD 23 0 = 63 := rfl
theorem c24 : code.getD 24 0 = 0 := rfl
theorem c25 : code.getD 25 0 = 1 := rfl
theorem c26 : code.getD 26 0 = 24 := rfl
theorem c27 : code.getD 27 0 = 10 := rfl
theorem c28 : code.getD 28 0 = 0 := rfl
theorem c29 : code.getD 29 0 = 4294967295 := rfl
theorem c30 : code.getD 30 0 = 13 := rfl
theorem c31 : code.getD 31 0 = 5 := rfl
theorem c32 : code.getD 32 0 = 22 := rfl
theorem c33 : code.getD 33 0 = 32 := rfl
theorem c34 : code.getD 34 0 = 47 := rfl
theorem c35 : code.getD 35 0 = 0 := rfl
theorem c36 : code.getD 36 0 = 1 := rfl
theorem c37 : code.getD 37 0 = 13 := rfl
theorem c38 : code.getD 38 0 = 5 := rfl
theorem c39 : code.getD 39 0 = 22 := rfl
theorem c40 : code.getD 40 0 = 64 := rfl
theorem c41 : code.getD 41 0 = 126 := rfl
theorem c42 : code.getD 42 0 = 0 := rfl
theorem c43 : code.getD 43 0 = 1 := rfl
theorem o0 : ops[0]? = some .FAILURE := rfl
theorem o1 : ops[1]? = some .SUCCESS := rfl
theorem o13 : ops[13]? = some .IN := rfl
theorem o14 : ops[14]? = some .INFO := rfl
theorem o16 : ops[16]? = some .LITERAL := rfl
theorem o22 : ops[22]? = some .RANGE := rfl
theorem o24 : ops[24]? = some .REPEAT_ONE := rfl
/-- the machine's states on this pattern -/
def mk (x : Array Nat) (lim start last : Nat) (must : Bool) (pc pos handed : Nat) (outer : Bool) (frames : List PySem.Sre.Frame) (weight : Nat) (answer : Option Bool) (seen : Seen) (outcome : Option PySem.Sre.Outcome) : M :=
  { code := code, text := x, lim := lim, start := start, lastStart := last, wholeText := false, mustAdvance := must, pc := pc, pos := pos, handed := handed, outermost := outer,
    marks := #[], lastmark := -1, lastindex := -1, loops := #[], inner := none, frames := frames, weight := weight, answer := answer, seen := seen, outcome := outcome }

def It : Nat → M → M
  | 0, m => m
  | n + 1, m => It n m.step
theorem It_add (a b : Nat) (m : M) : It (a + b) m = It b (It a m) := by
  induction a generalizing m with
  | zero => simp [It]
  | succ a ih => rw [Nat.succ_add]; exact ih m.step

/-- m comes to m' in n steps or fewer -/
def Goes (n : Nat) (m m' : M) : Prop := ∃ k, k ≤ n ∧ It k m = m'
theorem Goes.refl {n : Nat} (m : M) : Goes n m m := ⟨0, Nat.zero_le _, rfl⟩
theorem Goes.trans {a b : Nat} {m m' m'' : M} (h : Goes a m m') (h' : Goes b m' m'') : Goes (a + b) m m'' := by
  obtain ⟨i, hi, rfl⟩ := h
  obtain ⟨j, hj, rfl⟩ := h'
  exact ⟨i + j, by omega, It_add _ _ _⟩
theorem Goes.more {a b : Nat} {m m' : M} (h : Goes a m m') (hab : a ≤ b) : Goes b m m' := by
  obtain ⟨i, hi, e⟩ := h
  exact ⟨i, by omega, e⟩
theorem Goes.one {m m' : M} (h : m.step = m') : Goes 1 m m' := ⟨1, Nat.le_refl _, h⟩
theorem Goes.cons {n : Nat} {m m' : M} (h : Goes n m.step m') : Goes (n + 1) m m' := by
  obtain ⟨i, hi, e⟩ := h
  exact ⟨i + 1, by omega, e⟩

/-- a sign of the text -/
def ch (x : Array Nat) (p : Nat) : Nat := x.getD p 0

def par (c : Nat) : Bool := decide (48 ≤ c) && decide (c ≤ 63)
def mid (c : Nat) : Bool := decide (32 ≤ c) && decide (c ≤ 47)
def fin (c : Nat) : Bool := decide (64 ≤ c) && decide (c ≤ 126)

theorem set_par (c : Nat) (seen : Seen) : ∃ seen', accepts code 19 c seen = .ok (par c, seen') := by
  cases h : par c with
  | true =>
    unfold par at h
    refine ⟨(seen.add 22), ?_⟩
    unfold accepts; simp only [c19, o13, cs, Nat.reduceAdd]; unfold inSet
    simp only [c21, c22, c23, o22, Nat.reduceAdd, Nat.add_zero]
    exact if_pos h
  | false =>
    unfold par at h
    refine ⟨((seen.add 22).add 0), ?_⟩
    unfold accepts; simp only [c19, o13, cs, Nat.reduceAdd]; unfold inSet
    simp only [c21, c22, c23, o22, Nat.reduceAdd, Nat.add_zero]
    unfold inSet
    simp only [c24, o0, Nat.reduceAdd, Nat.add_zero, Bool.not_true]
    exact if_neg (fun e => absurd (h.symm.trans e) Bool.false_ne_true)
theorem set_mid (c : Nat) (seen : Seen) : ∃ seen', accepts code 30 c seen = .ok (mid c, seen') := by
  cases h : mid c with
  | true =>
    unfold mid at h
    refine ⟨(seen.add 22), ?_⟩
    unfold accepts; simp only [c30, o13, cs, Nat.reduceAdd]; unfold inSet
    simp only [c32, c33, c34, o22, Nat.reduceAdd, Nat.add_zero]
    exact if_pos h
  | false =>
    unfold mid at h
    refine ⟨((seen.add 22).add 0), ?_⟩
    unfold accepts; simp only [c30, o13, cs, Nat.reduceAdd]; unfold inSet
    simp only [c32, c33, c34, o22, Nat.reduceAdd, Nat.add_zero]
    unfold inSet
    simp only [c35, o0, Nat.reduceAdd, Nat.add_zero, Bool.not_true]
    exact if_neg (fun e => absurd (h.symm.trans e) Bool.false_ne_true)
theorem set_fin (c : Nat) (seen : Seen) : ∃ seen', accepts code 37 c seen = .ok (fin c, seen') := by
  cases h : fin c with
  | true =>
    unfold fin at h
    refine ⟨(seen.add 22), ?_⟩
    unfold accepts; simp only [c37, o13, cs, Nat.reduceAdd]; unfold inSet
    simp only [c39, c40, c41, o22, Nat.reduceAdd, Nat.add_zero]
    exact if_pos h
  | false =>
    unfold fin at h
    refine ⟨((seen.add 22).add 0), ?_⟩
    unfold accepts; simp only [c37, o13, cs, Nat.reduceAdd]; unfold inSet
    simp only [c39, c40, c41, o22, Nat.reduceAdd, Nat.add_zero]
    unfold inSet
    simp only [c42, o0, Nat.reduceAdd, Nat.add_zero, Bool.not_true]
    exact if_neg (fun e => absurd (h.symm.trans e) Bool.false_ne_true)

/-- how many signs from p on are of the kind f, at most n -/
def runLen (f : Nat → Bool) (x : Array Nat) : (n p : Nat) → Nat
  | 0, _ => 0
  | n + 1, p => if f (ch x p) then runLen f x n (p + 1) + 1 else 0
theorem runLen_le (f : Nat → Bool) (x : Array Nat) : ∀ n p, runLen f x n p ≤ n
  | 0, _ => Nat.le_refl _
  | n + 1, p => by unfold runLen; split <;> have := runLen_le f x n (p + 1) <;> omega
theorem runLen_all (f : Nat → Bool) (x : Array Nat) : ∀ n p k, k < runLen f x n p → f (ch x (p + k)) = true
  | 0, _, _, h => by simp [runLen] at h
  | n + 1, p, k, h => by
    unfold runLen at h
    split at h
    · rename_i e
      cases k with
      | zero => exact e
      | succ k => have := runLen_all f x n (p + 1) k (by omega); rw [show p + (k + 1) = p + 1 + k by omega]; exact this
    · omega
theorem runLen_stop (f : Nat → Bool) (x : Array Nat) : ∀ n p, runLen f x n p < n → f (ch x (p + runLen f x n p)) = false
  | 0, _, h => by omega
  | n + 1, p, h => by
    unfold runLen at h ⊢
    split
    · rename_i e
      rw [if_pos e] at h
      have := runLen_stop f x n (p + 1) (by omega)
      rw [show p + (runLen f x n (p + 1) + 1) = p + 1 + runLen f x n (p + 1) by omega]; exact this
    · rename_i e; simpa using e

theorem run_of {f : Nat → Bool} {i : Nat} (x : Array Nat) (ha : ∀ c seen, ∃ seen', accepts code i c seen = .ok (f c, seen')) : ∀ n p found seen, ∃ seen', Sre.run code x i n p found seen = .ok (found + runLen f x n p, seen')
  | 0, p, found, seen => ⟨seen, rfl⟩
  | n + 1, p, found, seen => by
    obtain ⟨s1, h1⟩ := ha (ch x p) seen
    unfold ch at h1
    unfold Sre.run runLen
    cases hf : f (ch x p) with
    | false =>
      unfold ch at hf
      refine ⟨s1, ?_⟩
      simp only [h1, bind, Except.bind, hf, Bool.false_eq_true, if_false, pure, Except.pure, Nat.add_zero]
    | true =>
      obtain ⟨s2, h2⟩ := run_of x ha n (p + 1) (found + 1) s1
      unfold ch at hf
      refine ⟨s2, ?_⟩
      simp only [h1, bind, Except.bind, hf, if_true, h2]
      congr 2
      omega

section
variable {x : Array Nat} {lim start last : Nat} {must : Bool} {pos handed : Nat} {outer : Bool} {frames : List PySem.Sre.Frame} {weight : Nat} {seen : Seen}

theorem acc_lit (c i v : Nat) (seen : Seen) (h0 : code.getD i 0 = 16) (h1 : code.getD (i + 1) 0 = v) : accepts code i c seen = .ok (c == v, seen) := by
  unfold accepts; simp only [h0, h1, o16]
theorem width_lit (i : Nat) (h0 : code.getD i 0 = 16) : itemWidth code i = 2 := by unfold itemWidth; simp only [h0, o16]
theorem width_in (i : Nat) (h0 : code.getD i 0 = 13) (h1 : code.getD (i + 1) 0 = 5) : itemWidth code i = 6 := by unfold itemWidth; simp only [h0, h1, o13]

theorem lit27 : ∃ seen', (mk x lim start last must 11 pos handed outer frames weight none seen none).step =
    if lim ≤ pos ∨ ch x pos ≠ 27 then mk x lim start last must 11 pos handed outer frames weight (some false) seen' none
    else mk x lim start last must 13 (pos + 1) handed outer frames weight none seen' none := by
  unfold ch
  by_cases h1 : lim ≤ pos
  · exact ⟨_, by simp only [M.step, mk, M.exec, M.word, cs, c11, o16, Nat.add_zero, M.say, h1, ge_iff_le, if_true, true_or, Option.isSome_none, Bool.false_eq_true, if_false, Nat.reduceLT]; rfl⟩
  · cases h2 : (x.getD pos 0 == 27) with
    | true => exact ⟨_, by
        simp only [M.step, mk, M.exec, M.word, cs, c11, c12, o16, Nat.add_zero, h1, ge_iff_le, if_true, Option.isSome_none, Bool.false_eq_true, if_false, Nat.reduceLT, Nat.reduceAdd, acc_lit _ 11 27 _ c11 c12, h2, width_lit 11 c11]
        rw [if_neg (by simpa using h2)]⟩
    | false => exact ⟨_, by
        simp only [M.step, mk, M.exec, M.word, cs, c11, c12, o16, Nat.add_zero, h1, ge_iff_le, if_true, Option.isSome_none, Bool.false_eq_true, if_false, Nat.reduceLT, Nat.reduceAdd, acc_lit _ 11 27 _ c11 c12, h2, width_lit 11 c11, M.say]
        rw [if_pos (by simpa using h2)]⟩
theorem lit91 : ∃ seen', (mk x lim start last must 13 pos handed outer frames weight none seen none).step =
    if lim ≤ pos ∨ ch x pos ≠ 91 then mk x lim start last must 13 pos handed outer frames weight (some false) seen' none
    else mk x lim start last must 15 (pos + 1) handed outer frames weight none seen' none := by
  unfold ch
  by_cases h1 : lim ≤ pos
  · exact ⟨_, by simp only [M.step, mk, M.exec, M.word, cs, c13, o16, Nat.add_zero, M.say, h1, ge_iff_le, if_true, true_or, Option.isSome_none, Bool.false_eq_true, if_false, Nat.reduceLT]; rfl⟩
  · cases h2 : (x.getD pos 0 == 91) with
    | true => exact ⟨_, by
        simp only [M.step, mk, M.exec, M.word, cs, c13, c14, o16, Nat.add_zero, h1, ge_iff_le, if_true, Option.isSome_none, Bool.false_eq_true, if_false, Nat.reduceLT, Nat.reduceAdd, acc_lit _ 13 91 _ c13 c14, h2, width_lit 13 c13]
        rw [if_neg (by simpa using h2)]⟩
    | false => exact ⟨_, by
        simp only [M.step, mk, M.exec, M.word, cs, c13, c14, o16, Nat.add_zero, h1, ge_iff_le, if_true, Option.isSome_none, Bool.false_eq_true, if_false, Nat.reduceLT, Nat.reduceAdd, acc_lit _ 13 91 _ c13 c14, h2, width_lit 13 c13, M.say]
        rw [if_pos (by simpa using h2)]⟩
theorem in37 : ∃ seen', (mk x lim start last must 37 pos handed outer frames weight none seen none).step =
    if lim ≤ pos ∨ fin (ch x pos) = false then mk x lim start last must 37 pos handed outer frames weight (some false) seen' none
    else mk x lim start last must 43 (pos + 1) handed outer frames weight none seen' none := by
  by_cases h1 : lim ≤ pos
  · exact ⟨_, by simp only [M.step, mk, M.exec, M.word, cs, c37, o13, Nat.add_zero, M.say, h1, ge_iff_le, if_true, true_or, Option.isSome_none, Bool.false_eq_true, if_false, Nat.reduceLT]; rfl⟩
  · obtain ⟨s1, hs⟩ := set_fin (ch x pos) (seen.add 13)
    refine ⟨s1, ?_⟩
    unfold ch at hs ⊢
    cases h2 : fin (x.getD pos 0) with
    | true =>
      rw [h2] at hs
      simp only [M.step, mk, M.exec, M.word, cs, c37, o13, Nat.add_zero, h1, ge_iff_le, if_true, Option.isSome_none, Bool.false_eq_true, if_false, Nat.reduceLT, Nat.reduceAdd, hs, width_in 37 c37 c38, Bool.true_eq_false, or_self, or_false]
    | false =>
      rw [h2] at hs
      simp only [M.step, mk, M.exec, M.word, cs, c37, o13, Nat.add_zero, h1, ge_iff_le, if_true, Option.isSome_none, Bool.false_eq_true, if_false, Nat.reduceLT, Nat.reduceAdd, hs, M.say, or_true]
theorem succ43 (hne : must = true → pos ≠ start) : ∃ seen', (mk x lim start last must 43 pos handed outer frames weight none seen none).step =
    mk x lim start last must 43 pos pos outer frames weight (some true) seen' none := by
  refine ⟨seen.add 1, ?_⟩
  have : (must && pos == start) = false := by
    cases must with
    | false => rfl
    | true => simpa using hne rfl
  simp only [M.step, mk, M.exec, M.word, cs, c43, o1, Nat.add_zero, if_true, Option.isSome_none, Bool.false_eq_true, if_false, Nat.reduceLT, Bool.false_and, Bool.false_or, Bool.true_and, Bool.and_false, this, M.say]

/-- the frame that a greedy run leaves -/
def gb (o : Bool) (pc pos : Nat) (count : Nat) : PySem.Sre.Frame := { wait := .giveBack, pc := pc, pos := pos, outermost := o, count := (count : Int), kept := { lastmark := -1, lastindex := -1, whole := false, marks := #[] } }

theorem rep15 (hp : pos ≤ lim) (hl : lim ≤ 4294967295) (hw : weight + 1 ≤ 16777216) : ∃ seen', (mk x lim start last must 15 pos handed outer frames weight none seen none).step =
    mk x lim start last must 26 (pos + runLen par x (lim - pos) pos) (pos + runLen par x (lim - pos) pos) outer (gb outer 15 (pos + runLen par x (lim - pos) pos) (runLen par x (lim - pos) pos) :: frames) (weight + 1) none seen' none := by
  obtain ⟨s1, hr⟩ := run_of x set_par (lim - pos) pos 0 ((seen.add 24).add 13)
  refine ⟨s1, ?_⟩
  have e1 : min 4294967295 ((lim : Int) - pos).toNat = lim - pos := by omega
  have e2 : ¬ (((0 : Nat) : Int) > (lim : Int) - pos) := by omega
  have e3 : ¬ (weight + 1 > 16777216) := by omega
  simp only [M.step, mk, M.exec, M.word, cs, c15, c16, c17, c18, c19, o24, Nat.add_zero, if_true, Option.isSome_none, Bool.false_eq_true, if_false, Nat.reduceLT, Nat.reduceAdd, e1, hr, Nat.zero_add, Nat.not_lt_zero, M.afterRun, M.attempt, M.frame, M.keep, gb, Array.size_empty, e3]
  exact if_neg e2
theorem rep26 (hp : pos ≤ lim) (hl : lim ≤ 4294967295) (hw : weight + 1 ≤ 16777216) : ∃ seen', (mk x lim start last must 26 pos handed outer frames weight none seen none).step =
    mk x lim start last must 37 (pos + runLen mid x (lim - pos) pos) (pos + runLen mid x (lim - pos) pos) outer (gb outer 26 (pos + runLen mid x (lim - pos) pos) (runLen mid x (lim - pos) pos) :: frames) (weight + 1) none seen' none := by
  obtain ⟨s1, hr⟩ := run_of x set_mid (lim - pos) pos 0 ((seen.add 24).add 13)
  refine ⟨s1, ?_⟩
  have e1 : min 4294967295 ((lim : Int) - pos).toNat = lim - pos := by omega
  have e2 : ¬ (((0 : Nat) : Int) > (lim : Int) - pos) := by omega
  have e3 : ¬ (weight + 1 > 16777216) := by omega
  simp only [M.step, mk, M.exec, M.word, cs, c26, c27, c28, c29, c30, o24, Nat.add_zero, if_true, Option.isSome_none, Bool.false_eq_true, if_false, Nat.reduceLT, Nat.reduceAdd, e1, hr, Nat.zero_add, Nat.not_lt_zero, M.afterRun, M.attempt, M.frame, M.keep, gb, Array.size_empty, e3]
  exact if_neg e2

theorem back_yes {o : Bool} {pc p k q h : Nat} : (mk x lim start last must pc q h outer (gb o (if true then pc else 0) p k :: frames) (weight + 1) (some true) seen none).step =
    mk x lim start last must pc p h o frames weight (some true) seen none := by
  simp only [M.step, mk, gb, Option.isSome_none, Bool.false_eq_true, if_false, if_true, M.resume, M.say, Array.size_empty, Nat.add_zero, Nat.add_sub_cancel]
theorem back_yes' {o : Bool} {pc pc' p k q h : Nat} : (mk x lim start last must pc' q h outer (gb o pc p k :: frames) (weight + 1) (some true) seen none).step =
    mk x lim start last must pc p h o frames weight (some true) seen none := by
  simp only [M.step, mk, gb, Option.isSome_none, Bool.false_eq_true, if_false, if_true, M.resume, M.say, Array.size_empty, Nat.add_zero, Nat.add_sub_cancel]
theorem back26_zero {o : Bool} {pc' p q h : Nat} : (mk x lim start last must pc' q h o (gb outer 26 p 0 :: frames) (weight + 1) (some false) seen none).step =
    mk x lim start last must 26 p h outer frames weight (some false) seen none := by
  simp only [M.step, mk, gb, Option.isSome_none, Bool.false_eq_true, if_false, if_true, M.resume, M.say, Array.size_empty, Nat.add_zero, Nat.add_sub_cancel, M.putBack, M.word, Nat.reduceAdd, c28]
  rfl
theorem back15_zero {o : Bool} {pc' p q h : Nat} : (mk x lim start last must pc' q h o (gb outer 15 p 0 :: frames) (weight + 1) (some false) seen none).step =
    mk x lim start last must 15 p h outer frames weight (some false) seen none := by
  simp only [M.step, mk, gb, Option.isSome_none, Bool.false_eq_true, if_false, if_true, M.resume, M.say, Array.size_empty, Nat.add_zero, Nat.add_sub_cancel, M.putBack, M.word, Nat.reduceAdd, c17]
  rfl
theorem back26_succ {o : Bool} {pc' p k q h : Nat} (hw : weight + 1 ≤ 16777216) : (mk x lim start last must pc' q h o (gb outer 26 p (k + 1) :: frames) (weight + 1) (some false) seen none).step =
    mk x lim start last must 37 (p - 1) (p - 1) outer (gb outer 26 (p - 1) k :: frames) (weight + 1) none seen none := by
  have e3 : ¬ (weight + 1 > 16777216) := by omega
  have e4 : ¬ (((k + 1 : Nat) : Int) - 1 < ((0 : Nat) : Int)) := by omega
  have e5 : ((k + 1 : Nat) : Int) - 1 = (k : Int) := by omega
  simp only [M.step, mk, gb, Option.isSome_none, Bool.false_eq_true, if_false, if_true, M.resume, M.say, Array.size_empty, Nat.add_zero, Nat.add_sub_cancel, M.putBack, M.word, Nat.reduceAdd, c27, c28, M.afterRun, M.attempt, M.frame, e3]
  rw [if_neg e4, e5]
theorem back15_succ {o : Bool} {pc' p k q h : Nat} (hw : weight + 1 ≤ 16777216) : (mk x lim start last must pc' q h o (gb outer 15 p (k + 1) :: frames) (weight + 1) (some false) seen none).step =
    mk x lim start last must 26 (p - 1) (p - 1) outer (gb outer 15 (p - 1) k :: frames) (weight + 1) none seen none := by
  have e3 : ¬ (weight + 1 > 16777216) := by omega
  have e4 : ¬ (((k + 1 : Nat) : Int) - 1 < ((0 : Nat) : Int)) := by omega
  have e5 : ((k + 1 : Nat) : Int) - 1 = (k : Int) := by omega
  simp only [M.step, mk, gb, Option.isSome_none, Bool.false_eq_true, if_false, if_true, M.resume, M.say, Array.size_empty, Nat.add_zero, Nat.add_sub_cancel, M.putBack, M.word, Nat.reduceAdd, c16, c17, M.afterRun, M.attempt, M.frame, e3]
  rw [if_neg e4, e5]

theorem not_fin_mid {c : Nat} (h : mid c = true) : fin c = false := by
  simp only [mid, fin, Bool.and_eq_true, decide_eq_true_eq, Bool.and_eq_false_iff, decide_eq_false_iff_not] at *; omega
theorem not_fin_par {c : Nat} (h : par c = true) : fin c = false := by
  simp only [par, fin, Bool.and_eq_true, decide_eq_true_eq, Bool.and_eq_false_iff, decide_eq_false_iff_not] at *; omega
theorem not_mid_par {c : Nat} (h : par c = true) : mid c = false := by
  simp only [par, mid, Bool.and_eq_true, decide_eq_true_eq, Bool.and_eq_false_iff, decide_eq_false_iff_not] at *; omega

theorem fail26 (hw : weight + 1 ≤ 16777216) : ∀ (k p pc' q h : Nat) (o : Bool) (seen : Seen), k ≤ p → (∀ j, j < k → mid (ch x (p - 1 - j)) = true) →
    ∃ pc2 q2 h2 o2 seen2, Goes (2 * k + 1) (mk x lim start last must pc' q h o (gb outer 26 p k :: frames) (weight + 1) (some false) seen none) (mk x lim start last must pc2 q2 h2 o2 frames weight (some false) seen2 none)
  | 0, p, pc', q, h, o, seen, _, _ => ⟨_, _, _, _, _, (Goes.one back26_zero).more (by omega)⟩
  | k + 1, p, pc', q, h, o, seen, hk, ha => by
    obtain ⟨s1, e1⟩ := in37 (x := x) (lim := lim) (start := start) (last := last) (must := must) (pos := p - 1) (handed := p - 1) (outer := outer) (frames := gb outer 26 (p - 1) k :: frames) (weight := weight + 1) (seen := seen)
    rw [if_pos (.inr (not_fin_mid (by simpa using ha 0 (by omega))))] at e1
    obtain ⟨a1, a2, a3, a4, a5, g⟩ := fail26 hw k (p - 1) 37 (p - 1) (p - 1) outer s1 (by omega) fun j hj => by
      have := ha (j + 1) (by omega); rw [show p - 1 - 1 - j = p - 1 - (j + 1) by omega]; exact this
    exact ⟨a1, a2, a3, a4, a5, (((Goes.one (back26_succ hw)).trans (Goes.one e1)).trans g).more (by omega)⟩

theorem fail15 (hw : weight + 2 ≤ 16777216) (hl : lim ≤ 4294967295) : ∀ (k p pc' q h : Nat) (o : Bool) (seen : Seen), k ≤ p → p ≤ lim → (∀ j, j < k → par (ch x (p - 1 - j)) = true) →
    ∃ pc2 q2 h2 o2 seen2, Goes (4 * k + 1) (mk x lim start last must pc' q h o (gb outer 15 p k :: frames) (weight + 1) (some false) seen none) (mk x lim start last must pc2 q2 h2 o2 frames weight (some false) seen2 none)
  | 0, p, pc', q, h, o, seen, _, _, _ => ⟨_, _, _, _, _, (Goes.one back15_zero).more (by omega)⟩
  | k + 1, p, pc', q, h, o, seen, hk, hpl, ha => by
    have hp0 : par (ch x (p - 1)) = true := by simpa using ha 0 (by omega)
    have hz : runLen mid x (lim - (p - 1)) (p - 1) = 0 := by
      cases hn : lim - (p - 1) with
      | zero => rfl
      | succ n => unfold runLen; rw [if_neg]; rw [not_mid_par hp0]; exact Bool.false_ne_true
    obtain ⟨s1, e1⟩ := rep26 (outer := outer) (x := x) (lim := lim) (start := start) (last := last) (must := must) (pos := p - 1) (handed := p - 1) (frames := gb outer 15 (p - 1) k :: frames) (weight := weight + 1) (seen := seen) (by omega) hl (by omega)
    rw [hz, Nat.add_zero] at e1
    obtain ⟨s2, e2⟩ := in37 (x := x) (lim := lim) (start := start) (last := last) (must := must) (pos := p - 1) (handed := p - 1) (outer := outer) (frames := gb outer 26 (p - 1) 0 :: gb outer 15 (p - 1) k :: frames) (weight := weight + 1 + 1) (seen := s1)
    rw [if_pos (.inr (not_fin_par hp0))] at e2
    obtain ⟨a1, a2, a3, a4, a5, g⟩ := fail15 hw hl k (p - 1) 26 (p - 1) (p - 1) outer s2 (by omega) (by omega) fun j hj => by
      have := ha (j + 1) (by omega); rw [show p - 1 - 1 - j = p - 1 - (j + 1) by omega]; exact this
    exact ⟨a1, a2, a3, a4, a5, (((((Goes.one (back15_succ (by omega))).trans (Goes.one e1)).trans (Goes.one e2)).trans (Goes.one back26_zero)).trans g).more (by omega)⟩

/-- where the sequence that begins at s ends -/
def csiEnd (x : Array Nat) (lim s : Nat) : Option Nat :=
  if lim ≤ s ∨ ch x s ≠ 27 then none else
  if lim ≤ s + 1 ∨ ch x (s + 1) ≠ 91 then none else
  let p := s + 2 + runLen par x (lim - (s + 2)) (s + 2)
  let q := p + runLen mid x (lim - p) p
  if lim ≤ q ∨ fin (ch x q) = false then none else some (q + 1)
theorem csiEnd_gt {s e : Nat} (h : csiEnd x lim s = some e) : s + 3 ≤ e ∧ e ≤ lim := by
  unfold csiEnd at h
  split at h
  · cases h
  · split at h
    · cases h
    · dsimp only at h
      split at h
      · cases h
      · rename_i hq
        cases h
        constructor
        · omega
        · omega

theorem tryAt (hl : lim ≤ 4294967295) (hw : weight + 2 ≤ 16777216) (s h : Nat) (hm : must = true → s = start) : ∃ pc2 q2 h2 o2 seen2, Goes (4 * lim + 12) (mk x lim start last must 11 s h outer frames weight none seen none)
    (mk x lim start last must pc2 q2 h2 o2 frames weight (some (csiEnd x lim s).isSome) seen2 none) ∧ ∀ e, csiEnd x lim s = some e → h2 = e := by
  obtain ⟨s1, e1⟩ := lit27 (x := x) (lim := lim) (start := start) (last := last) (must := must) (pos := s) (handed := h) (outer := outer) (frames := frames) (weight := weight) (seen := seen)
  by_cases h1 : lim ≤ s ∨ ch x s ≠ 27
  · rw [if_pos h1] at e1
    have : csiEnd x lim s = none := by unfold csiEnd; rw [if_pos h1]
    rw [this]
    exact ⟨_, _, _, _, _, (Goes.one e1).more (by omega), fun e he => by cases he⟩
  rw [if_neg h1] at e1
  obtain ⟨s2, e2⟩ := lit91 (x := x) (lim := lim) (start := start) (last := last) (must := must) (pos := s + 1) (handed := h) (outer := outer) (frames := frames) (weight := weight) (seen := s1)
  by_cases h2 : lim ≤ s + 1 ∨ ch x (s + 1) ≠ 91
  · rw [if_pos h2] at e2
    have : csiEnd x lim s = none := by unfold csiEnd; rw [if_neg h1, if_pos h2]
    rw [this]
    exact ⟨_, _, _, _, _, ((Goes.one e1).trans (Goes.one e2)).more (by omega), fun e he => by cases he⟩
  rw [if_neg h2] at e2
  obtain ⟨s3, e3⟩ := rep15 (outer := outer) (x := x) (lim := lim) (start := start) (last := last) (must := must) (pos := s + 2) (handed := h) (frames := frames) (weight := weight) (seen := s2) (by omega) hl (by omega)
  have la := runLen_le par x (lim - (s + 2)) (s + 2)
  have aa := runLen_all par x (lim - (s + 2)) (s + 2)
  generalize ha : runLen par x (lim - (s + 2)) (s + 2) = a at *
  obtain ⟨s4, e4⟩ := rep26 (outer := outer) (x := x) (lim := lim) (start := start) (last := last) (must := must) (pos := s + 2 + a) (handed := s + 2 + a) (frames := gb outer 15 (s + 2 + a) a :: frames) (weight := weight + 1) (seen := s3) (by omega) hl (by omega)
  have lb := runLen_le mid x (lim - (s + 2 + a)) (s + 2 + a)
  have ab := runLen_all mid x (lim - (s + 2 + a)) (s + 2 + a)
  generalize hb : runLen mid x (lim - (s + 2 + a)) (s + 2 + a) = b at *
  have g4 := (((Goes.one e1).trans (Goes.one e2)).trans (Goes.one e3)).trans (Goes.one e4)
  obtain ⟨s5, e5⟩ := in37 (x := x) (lim := lim) (start := start) (last := last) (must := must) (pos := s + 2 + a + b) (handed := s + 2 + a + b) (outer := outer) (frames := gb outer 26 (s + 2 + a + b) b :: gb outer 15 (s + 2 + a) a :: frames) (weight := weight + 1 + 1) (seen := s4)
  by_cases h5 : lim ≤ s + 2 + a + b ∨ fin (ch x (s + 2 + a + b)) = false
  · rw [if_pos h5] at e5
    have : csiEnd x lim s = none := by unfold csiEnd; rw [if_neg h1, if_neg h2]; dsimp only; rw [ha, hb, if_pos h5]
    rw [this]
    obtain ⟨b1, b2, b3, b4, b5, g6⟩ := fail26 (outer := outer) (x := x) (lim := lim) (start := start) (last := last) (must := must) (frames := gb outer 15 (s + 2 + a) a :: frames) (weight := weight + 1) (by omega) b (s + 2 + a + b) 37 (s + 2 + a + b) (s + 2 + a + b) outer s5 (by omega) fun j hj => by
      have := ab (b - 1 - j) (by omega); rw [show s + 2 + a + b - 1 - j = s + 2 + a + (b - 1 - j) by omega]; exact this
    obtain ⟨d1, d2, d3, d4, d5, g7⟩ := fail15 (outer := outer) (x := x) (lim := lim) (start := start) (last := last) (must := must) (frames := frames) (weight := weight) (by omega) hl a (s + 2 + a) b1 b2 b3 b4 b5 (by omega) (by omega) fun j hj => by
      have := aa (a - 1 - j) (by omega); rw [show s + 2 + a - 1 - j = s + 2 + (a - 1 - j) by omega]; exact this
    exact ⟨_, _, _, _, _, (((g4.trans (Goes.one e5)).trans g6).trans g7).more (by omega), fun e he => by cases he⟩
  · rw [if_neg h5] at e5
    have hs : csiEnd x lim s = some (s + 2 + a + b + 1) := by unfold csiEnd; rw [if_neg h1, if_neg h2]; dsimp only; rw [ha, hb, if_neg h5]
    rw [hs]
    obtain ⟨s6, e6⟩ := succ43 (outer := outer) (x := x) (lim := lim) (start := start) (last := last) (must := must) (pos := s + 2 + a + b + 1) (handed := s + 2 + a + b) (frames := gb outer 26 (s + 2 + a + b) b :: gb outer 15 (s + 2 + a) a :: frames) (weight := weight + 1 + 1) (seen := s5) (fun hm' => by have := hm hm'; omega)
    exact ⟨_, _, _, _, _, ((((g4.trans (Goes.one e5)).trans (Goes.one e6)).trans (Goes.one back_yes')).trans (Goes.one back_yes')).more (by omega), fun e he => by cases he; rfl⟩

/-- the first sequence that begins at s or behind it -/
def findCsi (x : Array Nat) (lim : Nat) : (fuel s : Nat) → Option (Nat × Nat)
  | 0, _ => none
  | n + 1, s => match csiEnd x lim s with
    | some e => some (s, e)
    | none => findCsi x lim n (s + 1)

def ended (x : Array Nat) (r : Option (Nat × Nat)) (m : M) : Prop :=
  m.marks = #[] ∧ m.lastmark = -1 ∧ m.lastindex = -1 ∧ match r with
    | some (s, e) => m.outcome = some .matched ∧ m.start = s ∧ m.handed = e
    | none => m.outcome = some .failed

theorem end_step {pc q h : Nat} {b : Bool} : (mk x lim start last must pc q h outer [] weight (some b) seen none).step = mk x lim start last must pc q h outer [] weight (some b) seen (some (if b then .matched else .failed)) := by
  simp only [M.step, mk, Option.isSome_none, Bool.false_eq_true, if_false]

def ns (b : Bool) (s : Nat) : PySem.Sre.Frame := { wait := .nextStart, pc := 11, pos := s, outermost := b }
theorem ns_yes {pc q h s : Nat} {o b : Bool} : (mk x lim start last must pc q h o (ns b s :: frames) (weight + 1) (some true) seen none).step = mk x lim start last must 11 s h b frames weight (some true) seen none := by
  simp only [M.step, mk, ns, Option.isSome_none, Bool.false_eq_true, if_false, if_true, M.resume, M.say, Array.size_empty, Nat.add_zero, Nat.add_sub_cancel]
theorem ns_last {pc q h s : Nat} {o b : Bool} (hs : ¬ s < last) : (mk x lim start last must pc q h o (ns b s :: frames) (weight + 1) (some false) seen none).step = mk x lim start last must 11 s h b frames weight (some false) seen none := by
  simp only [M.step, mk, ns, Option.isSome_none, Bool.false_eq_true, if_false, if_true, M.resume, M.say, Array.size_empty, Nat.add_zero, Nat.add_sub_cancel, hs]
theorem noFirst {m : M} (h : m.code = code) : m.hasFirstSet = false := by
  unfold M.hasFirstSet; rw [h]; rfl
theorem ns_more {pc q h s : Nat} {o b : Bool} (hs : s < last) (hw : weight + 1 ≤ 16777216) : (mk x lim start last must pc q h o (ns b s :: frames) (weight + 1) (some false) seen none).step = mk x lim (s + 1) last false 11 (s + 1) (s + 1) false (ns false (s + 1) :: frames) (weight + 1) none seen none := by
  have e3 : ¬ (weight + 1 > 16777216) := by omega
  simp only [M.step, mk, ns, Option.isSome_none, Bool.false_eq_true, if_false, if_true, M.resume, M.say, Array.size_empty, Nat.add_zero, Nat.add_sub_cancel, hs, M.attemptFrom]
  rw [if_pos (by rw [noFirst rfl]; rfl)]
  simp only [M.attemptAt, M.attempt, Array.size_empty, Nat.add_zero, e3, if_false]

theorem searchFrom (hl : lim ≤ 4294967295) : ∀ (n s : Nat) (must : Bool) (h : Nat) (o : Bool) (seen : Seen), s + n = lim + 1 → 0 < n →
    ∃ m', Goes (n * (4 * lim + 16)) (mk x lim s lim must 11 s h o [ns o s] 1 none seen none) m' ∧ ended x (findCsi x lim n s) m'
  | 0, _, _, _, _, _, _, h0 => absurd h0 (Nat.lt_irrefl 0)
  | n + 1, s, must, h, o, seen, hn, _ => by
    obtain ⟨a1, a2, a3, a4, a5, g, he⟩ := tryAt (x := x) (lim := lim) (start := s) (last := lim) (must := must) (outer := o) (frames := [ns o s]) (weight := 1) (seen := seen) hl (by omega) s h (fun _ => rfl)
    unfold findCsi
    cases hc : csiEnd x lim s with
    | some e =>
      rw [hc] at g
      have := he e hc
      subst this
      refine ⟨_, ((g.trans (Goes.one (by exact ns_yes))).trans (Goes.one end_step)).more ?_, rfl, rfl, rfl, rfl, rfl, rfl⟩
      have : 4 * lim + 16 ≤ (n + 1) * (4 * lim + 16) := Nat.le_mul_of_pos_left _ (by omega)
      omega
    | none =>
      rw [hc] at g
      dsimp only
      cases n with
      | zero =>
        rw [show findCsi x lim 0 (s + 1) = none from rfl]
        refine ⟨_, ((g.trans (Goes.one (by exact ns_last (weight := 0) (by omega)))).trans (Goes.one end_step)).more (by omega), rfl, rfl, rfl, rfl⟩
      | succ n =>
        obtain ⟨m', g', hE⟩ := searchFrom hl (n + 1) (s + 1) false (s + 1) false a5 (by omega) (by omega)
        refine ⟨m', ((g.trans (Goes.one (by exact ns_more (weight := 0) (by omega) (by omega)))).trans g').more ?_, hE⟩
        have : (n + 1 + 1) * (4 * lim + 16) = (n + 1) * (4 * lim + 16) + (4 * lim + 16) := Nat.succ_mul _ _
        omega
end

theorem hd_code : header code = (3, 11) := rfl
theorem forMatch_eq (x : Array Nat) (pos lim : Nat) : ∃ seen, Sre.forMatch code x 0 pos lim false false = if pos ≤ lim ∧ lim - pos < 3 then mk x lim pos 0 false 11 pos pos true [] 0 (some false) seen none else mk x lim pos 0 false 11 pos pos true [] 0 none seen none := by
  refine ⟨({} : Seen).add 14, ?_⟩
  by_cases h : pos ≤ lim ∧ lim - pos < 3
  · rw [if_pos h]
    unfold Sre.forMatch
    exact if_pos (by simp [hd_code, h])
  · rw [if_neg h]
    unfold Sre.forMatch
    exact if_neg (by show ¬ (((3 : Nat) != 0 && decide (pos ≤ lim) && decide (lim - pos < 3)) = true); simp only [Bool.and_eq_true, bne_iff_ne, ne_eq, decide_eq_true_eq]; omega)

theorem csi_short {x : Array Nat} {lim s : Nat} (h : lim < s + 3) : csiEnd x lim s = none := by
  cases hc : csiEnd x lim s with
  | none => rfl
  | some e => have := csiEnd_gt hc; omega
theorem find_short {x : Array Nat} {lim : Nat} : ∀ (n s : Nat), lim < s + 3 → findCsi x lim n s = none
  | 0, _, _ => rfl
  | n + 1, s, h => by unfold findCsi; rw [csi_short h]; exact find_short n (s + 1) (by omega)

/-- match, from a place -/
theorem match_ends (x : Array Nat) (pos lim : Nat) (hp : pos ≤ lim) (hl : lim ≤ 4294967295) : ∃ m', Goes (4 * lim + 16) (Sre.forMatch code x 0 pos lim false false) m' ∧ ended x ((csiEnd x lim pos).map fun e => (pos, e)) m' := by
  obtain ⟨seen, e⟩ := forMatch_eq x pos lim
  rw [e]
  by_cases h : pos ≤ lim ∧ lim - pos < 3
  · rw [if_pos h, csi_short (by omega)]
    exact ⟨_, (Goes.one end_step).more (by omega), rfl, rfl, rfl, rfl⟩
  · rw [if_neg h]
    obtain ⟨a1, a2, a3, a4, a5, g, he⟩ := tryAt (x := x) (lim := lim) (start := pos) (last := 0) (must := false) (outer := true) (frames := []) (weight := 0) (seen := seen) hl (by omega) pos pos (fun _ => rfl)
    cases hc : csiEnd x lim pos with
    | some e =>
      rw [hc] at g
      have := he e hc
      subst this
      exact ⟨_, (g.trans (Goes.one end_step)).more (by omega), rfl, rfl, rfl, rfl, rfl, rfl⟩
    | none =>
      rw [hc] at g
      exact ⟨_, (g.trans (Goes.one end_step)).more (by omega), rfl, rfl, rfl, rfl⟩

theorem forSearch_eq (x : Array Nat) (pos lim : Nat) (must : Bool) : ∃ seen, Sre.forSearch code x 0 pos lim must = if lim < pos ∨ lim - pos < 3 then mk x lim pos 0 must 11 pos pos true [] 0 (some false) seen none else mk x lim pos lim must 11 pos pos true [ns true pos] 1 none seen none := by
  refine ⟨({} : Seen).add 14, ?_⟩
  by_cases h : lim < pos ∨ lim - pos < 3
  · rw [if_pos h]
    unfold Sre.forSearch
    exact if_pos (by show (decide (pos > lim) || decide (lim - pos < 3)) = true; simp only [Bool.or_eq_true, decide_eq_true_eq]; omega)
  · rw [if_neg h]
    unfold Sre.forSearch
    refine (if_neg (by show ¬ ((decide (pos > lim) || decide (lim - pos < 3)) = true); simp only [Bool.or_eq_true, decide_eq_true_eq]; omega)).trans ?_
    rfl

/-- search, from a place -/
theorem search_ends (x : Array Nat) (pos lim : Nat) (must : Bool) (hl : lim ≤ 4294967295) : ∃ m', Goes ((lim + 2) * (4 * lim + 16)) (Sre.forSearch code x 0 pos lim must) m' ∧ ended x (findCsi x lim (lim + 1 - pos) pos) m' := by
  obtain ⟨seen, e⟩ := forSearch_eq x pos lim must
  rw [e]
  by_cases h : lim < pos ∨ lim - pos < 3
  · rw [if_pos h, find_short _ _ (by omega)]
    refine ⟨_, (Goes.one end_step).more ?_, rfl, rfl, rfl, rfl⟩
    have : 4 * lim + 16 ≤ (lim + 2) * (4 * lim + 16) := Nat.le_mul_of_pos_left _ (by omega)
    omega
  · rw [if_neg h]
    obtain ⟨m', g, hE⟩ := searchFrom (x := x) (lim := lim) hl (lim + 1 - pos) pos must pos true seen (by omega) (by omega)
    exact ⟨m', g.more (Nat.mul_le_mul_right _ (by omega)), hE⟩

theorem runFor_It : ∀ (n : Nat) (m : M), m.runFor n = It n m
  | 0, m => rfl
  | n + 1, m => by
    unfold M.runFor
    split
    · rename_i h
      have st : ∀ k, It k m = m := by
        intro k
        induction k with
        | zero => rfl
        | succ k ih => show It k m.step = m; rw [show m.step = m from by unfold M.step; rw [if_pos h]]; exact ih
      exact (st _).symm
    · exact runFor_It n m.step
theorem It_ended {m : M} (h : m.outcome.isSome = true) : ∀ k, It k m = m := by
  intro k
  induction k with
  | zero => rfl
  | succ k ih => show It k m.step = m; rw [show m.step = m from by unfold M.step; rw [if_pos h]]; exact ih
end Mine.Rx


example : True := by (w_top off; trivial)

open PySem PySem.W PyProof.Rows PySem.Calls
set_option Elab.async false
namespace Mine
set_option maxRecDepth 100000
open PySem.F
theorem slot_pat_match : Slot "re.Pattern" "match" "re.Pattern.match" :=
  .of (owner := "re.Pattern") (n := "match") (by rw [typeLookup_type, builtinLookup_eq_fast]; kernel_rfl) (by decide +kernel) (by decide +kernel) (by decide +kernel)
    (by first | exact .inl (by decide +kernel) | exact .inr (by decide +kernel)) (by rw [isSubtype_type]; kernel_rfl)
theorem slot_pat_sub : Slot "re.Pattern" "sub" "re.Pattern.sub" :=
  .of (owner := "re.Pattern") (n := "sub") (by rw [typeLookup_type, builtinLookup_eq_fast]; kernel_rfl) (by decide +kernel) (by decide +kernel) (by decide +kernel)
    (by first | exact .inl (by decide +kernel) | exact .inr (by decide +kernel)) (by rw [isSubtype_type]; kernel_rfl)
theorem slot_match_end : Slot "re.Match" "end" "re.Match.end" :=
  .of (owner := "re.Match") (n := "end") (by rw [typeLookup_type, builtinLookup_eq_fast]; kernel_rfl) (by decide +kernel) (by decide +kernel) (by decide +kernel)
    (by first | exact .inl (by decide +kernel) | exact .inr (by decide +kernel)) (by rw [isSubtype_type]; kernel_rfl)
theorem type_pat_match : typeOf (.builtin "re.Pattern.match") = pure (.type "method_descriptor") := by show builtinType _ = _; rw [builtinType_eq_fast]; kernel_rfl
theorem type_pat_sub : typeOf (.builtin "re.Pattern.sub") = pure (.type "method_descriptor") := by show builtinType _ = _; rw [builtinType_eq_fast]; kernel_rfl
theorem type_match_end : typeOf (.builtin "re.Match.end") = pure (.type "method_descriptor") := by show builtinType _ = _; rw [builtinType_eq_fast]; kernel_rfl
theorem entry_pat_match : entryFor table "re.Pattern.match" = some Builtin.«re.Pattern.match» := entryFor_of_tree (by kernel_rfl)
theorem entry_pat_sub : entryFor table "re.Pattern.sub" = some Builtin.«re.Pattern.sub» := entryFor_of_tree (by kernel_rfl)
theorem entry_pat_subloop : entryFor table "re.Pattern.sub.loop" = some Builtin.«re.Pattern.sub.loop» := entryFor_of_tree (by kernel_rfl)
theorem entry_match_end : entryFor table "re.Match.end" = some Builtin.«re.Match.end» := entryFor_of_tree (by kernel_rfl)
end Mine


example : True := by (w_top off; trivial)

open PySem PySem.W PyProof.Rows PySem.Calls
set_option Elab.async false
set_option linter.all false
namespace Mine
set_option maxRecDepth 100000
open PySem.F PySem.Builtin.Re

section
variable {prog : Program} {w : World} {A : Around} {E : Value → Shared → Prop} {s : Shared}

theorem drive_ends {Q : Sre.M → Shared → Prop} {m' : Sre.M} (he : m'.outcome.isSome = true) (hQ : Q m' s) : ∀ (t n : Nat) (m : Sre.M), Rx.Goes n m m' → n ≤ 4 * t → 0 < t → wpAny (model prog w) A (reDrive t m) Q E s
  | 0, _, _, _, _, h0 => absurd h0 (Nat.lt_irrefl 0)
  | t + 1, n, m, g, hn, _ => by
    unfold reDrive
    show wpAny _ _ (if (m.runFor reTurnSteps).outcome.isSome then pure (m.runFor reTurnSteps) else do rule "sre.turn"; reDrive t (m.runFor reTurnSteps)) _ _ _
    rw [Rx.runFor_It]
    obtain ⟨k, hk, e⟩ := g
    by_cases h4 : k ≤ 4
    · have : Rx.It reTurnSteps m = m' := by
        show Rx.It 4 m = m'
        rw [show 4 = k + (4 - k) by omega, Rx.It_add, e, Rx.It_ended he]
      rw [this, if_pos he]
      exact wpAny_pure hQ
    · by_cases hd : (Rx.It reTurnSteps m).outcome.isSome = true
      · have : Rx.It reTurnSteps m = m' := by
          rw [← e, show k = 4 + (k - 4) by omega, Rx.It_add]
          exact (Rx.It_ended hd _).symm
        rw [this] at hd ⊢
        rw [if_pos hd]
        exact wpAny_pure hQ
      · rw [if_neg hd]
        refine wpAny_bind (wpAny_rule ?_)
        refine drive_ends he hQ t (n - 4) _ ⟨k - 4, by omega, ?_⟩ (by omega) (by omega)
        show Rx.It (k - 4) (Rx.It 4 m) = m'
        rw [← Rx.It_add, show 4 + (k - 4) = k by omega, e]

theorem rules_all {c : Nat → Bool} {f : Nat → String} {Q : PUnit → Shared → Prop} (hQ : Q ⟨⟩ s) : ∀ l : List Nat, wpAny (model prog w) A (forIn l PUnit.unit (fun i _ => if c i = true then do rule (f i); pure (ForInStep.yield PUnit.unit) else pure (ForInStep.yield PUnit.unit))) Q E s
  | [] => wpAny_pure hQ
  | i :: r => by
    rw [List.forIn_cons]
    refine wpAny_bind ?_
    by_cases h : c i = true
    · rw [if_pos h]
      exact wpAny_bind (wpAny_rule (wpAny_pure (rules_all hQ r)))
    · rw [if_neg h]
      exact wpAny_pure (rules_all hQ r)

theorem run_ends {n : Nat} {m m' : Sre.M} {r : Option (Nat × Nat)} {Q : Option Sre.M → Shared → Prop} (g : Rx.Goes n m m') (he : Rx.ended x r m') (hn : n ≤ 4 * 2 ^ 64)
    (hQ : Q (r.map fun _ => m') s) : wpAny (model prog w) A (reRunToEnd m) Q E s := by
  obtain ⟨h1, h2, h3, h4⟩ := he
  unfold reRunToEnd
  refine wpAny_bind (drive_ends (by cases r with | none => rw [show m'.outcome = _ from h4]; rfl | some p => rw [h4.1]; rfl) ?_ (2 ^ 64) n m g hn (by decide))
  refine wpAny_bind (rules_all (c := fun i => m'.seen.has i) (f := fun i => Sre.names.getD i "") ?_ _)
  cases r with
  | none => rw [show m'.outcome = _ from h4]; exact wpAny_pure hQ
  | some p => rw [h4.1]; exact wpAny_pure hQ
end

def codeVals : Array Value := Rx.code.map fun (n : Nat) => rawInt (n : Int)
structure PatAt (h : Heap) (P : Addr) : Prop where
  ex : ∃ C n p t1 t2 t3, h.get? P = some { cls := .type "re.Pattern", dict := none, data := .fields #[.str p t1, .int 32 t2, .int 0 t3, .none, .none, .ref C, .int 0 0], slots := #[] } ∧ h.get? C = some { cls := .type "tuple", dict := none, data := .seq codeVals n, slots := #[] }

section
variable {prog : Program} {w : World} {A : Around} {E : Value → Shared → Prop} {s : Shared}
theorem target_two {id f : String} {P : Addr} {x : Str} {t u : Tok} {i : Int} {Q : ReTarget → Shared → Prop} (h : PatAt s.heap P) (h0 : 0 ≤ i) (hi : i ≤ x.cps.size) (hx : x.cps.size ≤ 2 ^ 20)
    (hQ : Q { pattern := .ref P, string := .str x t, code := Rx.code, text := x.cps, kind := 0, groups := 0, pos := i.toNat, lim := x.cps.size } s) :
    wpAny (model prog w) A (reTarget id f ⟨[.ref P, .str x t, .int i u], []⟩) Q E s := by
  obtain ⟨C, n, p, t1, t2, t3, hP, hC⟩ := h
  unfold reTarget
  wp_walk
  refine wpAny_ite_false (by simp only [Bool.or_eq_true, decide_eq_true_eq, decide_eq_false_iff_not]; omega) ?_
  wp_walk
  have e1 : Array.map (fun x : Int => x.toNat) (Array.map reRawOf ((some codeVals).getD #[])) = Rx.code := by decide +kernel
  have e2 : min i.toNat x.cps.size = i.toNat := by omega
  have e3 : min ((2 : Int) ^ 63 - 1).toNat x.cps.size = x.cps.size := by
    have : ((2 : Int) ^ 63 - 1).toNat = 9223372036854775807 := by decide
    omega
  rw [e1]
  show Q { pattern := .ref P, string := .str x t, code := Rx.code, text := x.cps, kind := 0, groups := 0, pos := min i.toNat x.cps.size, lim := min ((2 : Int) ^ 63 - 1).toNat x.cps.size } s
  rw [e2, e3]
  exact hQ
theorem size_steps {n : Nat} (h : n ≤ 2 ^ 20) : (n + 2) * (4 * n + 16) ≤ 4 * 2 ^ 64 := by
  have : (n + 2) * (4 * n + 16) ≤ (2 ^ 20 + 2) * (4 * 2 ^ 20 + 16) := Nat.mul_le_mul (by omega) (by omega)
  omega

abbrev matchObj (x : Str) (t : Tok) (P : Addr) (i : Int) (T : Addr) : Obj := { cls := .type "re.Match", dict := none, data := .fields #[.str x t, .ref P, rawInt i, rawInt x.cps.size, rawInt (-1), .ref T], slots := #[] }
abbrev spanObj (i e : Int) : Obj := { cls := .type "tuple", dict := none, data := .seq #[rawInt i, rawInt e] 0, slots := #[] }

theorem meets_match {P : Addr} {x : Str} {t u : Tok} {i : Int} : Meets (Builtin.«re.Pattern.match» ⟨[.ref P, .str x t, .int i u], []⟩) (fun _ R s => PatAt s.heap P ∧ 0 ≤ i ∧ i ≤ x.cps.size ∧ x.cps.size ≤ 2 ^ 20 ∧
    match Rx.csiEnd x.cps x.cps.size i.toNat with
    | none => R (.ok (.ret .none)) s
    | some e => R (.ok (.ret (.ref (s.heap.objs.size + 1)))) { s with heap := (s.heap.push (spanObj i e)).push (matchObj x t P i s.heap.objs.size) }) :=
  .of_wp fun prog w A R s h => by
    obtain ⟨hP, h0, hi, hx, h⟩ := h
    show wpAny _ _ (reTarget "re.Pattern.match" "match" ⟨[.ref P, .str x t, .int i u], []⟩ >>= fun t => reAnswer t (Sre.forMatch t.code t.text t.groups t.pos t.lim false false)) _ _ _
    refine wpAny_bind (target_two hP h0 hi hx ?_)
    dsimp only
    unfold reAnswer
    obtain ⟨m', g, he⟩ := Rx.match_ends x.cps i.toNat x.cps.size (by omega) (by omega)
    refine wpAny_bind (run_ends g he (by have := size_steps hx; omega) ?_)
    obtain ⟨h1, h2, h3, h4⟩ := he
    cases hc : Rx.csiEnd x.cps x.cps.size i.toNat with
    | none =>
      rw [hc] at h
      exact wpAny_pure ⟨_, rfl, h⟩
    | some e =>
      rw [hc] at h h4
      obtain ⟨h4, h5, h6⟩ := h4
      dsimp only [Option.map]
      have e1 : ((i.toNat : Nat) : Int) = i := by omega
      unfold reNewMatch
      obtain ⟨hp, gg, d, tk, os⟩ := s
      wp_walk
      rw [h5, h6, h3, e1]
      refine ⟨_, rfl, ?_⟩
      rw [Heap.size_push]
      exact h

theorem meets_end {m T : Addr} {x : Str} {t : Tok} {P : Addr} {i e : Int} : Meets (Builtin.«re.Match.end» ⟨[.ref m], []⟩) (fun _ R s => s.heap.get? m = some (matchObj x t P i T) ∧ s.heap.get? T = some (spanObj i e) ∧ R (.ok (.ret (.int e s.toks))) { s with toks := s.toks + 1 }) :=
  .of_wp fun prog w A R s h => by
    obtain ⟨hm, hT, h⟩ := h
    obtain ⟨hp, gg, d, tk, os⟩ := s
    unfold Builtin.«re.Match.end»
    wp_walk
    refine ⟨_, rfl, ?_⟩
    have e1 : (Array.map reRawOf #[rawInt i, rawInt e]).getD 1 (-1) = e := by simp [reRawOf, rawInt]
    show R (.ok (.ret (.int ((Array.map reRawOf #[rawInt i, rawInt e]).getD 1 (-1)) tk))) _
    rw [e1]
    exact h

theorem plain_loop : plainId "re.Pattern.sub.loop" = true := by decide +kernel

/-- what is left when the sequences from p on are taken out -/
def stripN (x : Array Nat) : (fuel p : Nat) → Array Nat
  | 0, p => x.extract p x.size
  | n + 1, p => match Rx.findCsi x x.size (x.size + 1 - p) p with
    | some (a, e) => x.extract p a ++ stripN x n e
    | none => x.extract p x.size

theorem find_some {x : Array Nat} {lim : Nat} : ∀ {n s : Nat} {a e : Nat}, Rx.findCsi x lim n s = some (a, e) → s ≤ a ∧ Rx.csiEnd x lim a = some e
  | 0, _, _, _, h => by cases h
  | n + 1, s, a, e, h => by
    unfold Rx.findCsi at h
    split at h
    · rename_i e' h'
      cases h
      exact ⟨Nat.le_refl _, h'⟩
    · obtain ⟨h1, h2⟩ := find_some h
      exact ⟨by omega, h2⟩

theorem whole_target {P : Addr} {x : Str} {t : Tok} {Q : ReTarget → Shared → Prop} {prog : Program} {w : World} {A : Around} {E : Value → Shared → Prop} {s : Shared} (h : PatAt s.heap P)
    (hQ : Q { pattern := .ref P, string := .str x t, code := Rx.code, text := x.cps, kind := 0, groups := 0, pos := 0, lim := x.cps.size } s) :
    wpAny (model prog w) A (reWholeTarget (.ref P) (.str x t)) Q E s := by
  obtain ⟨C, n, p, t1, t2, t3, hP, hC⟩ := h
  unfold reWholeTarget
  wp_walk
  have e1 : Array.map (fun x : Int => x.toNat) (Array.map reRawOf ((some codeVals).getD #[])) = Rx.code := by decide +kernel
  rw [e1]
  exact hQ

def subArgs (P : Addr) (x : Str) (t : Tok) (t0 : Tok) (n done : Nat) (l : Addr) : Args := ⟨[.ref P, .str x t, .str ⟨#[]⟩ t0, rawInt 0, rawInt 0, rawInt n, rawInt done, rawInt done, .bool false, .ref l, .bool false], []⟩

theorem PatAt.keeps {h h' : Heap} {P : Addr} (x : PatAt h P) (k : ∀ b o, h.get? b = some o → h'.get? b = some o) : PatAt h' P := by
  obtain ⟨C, n, p, t1, t2, t3, hP, hC⟩ := x
  exact ⟨C, n, p, t1, t2, t3, k _ _ hP, k _ _ hC⟩
theorem PatAt.update {h : Heap} {P l : Addr} {o : Obj} {f : Obj → Obj} (x : PatAt h P) (hl : h.get? l = some o) (ho : o.cls = .type "list") : PatAt (h.update l f) P := by
  obtain ⟨C, n, p, t1, t2, t3, hP, hC⟩ := x
  refine ⟨C, n, p, t1, t2, t3, (Heap.get?_update_ne _ _ _ _ ?_).trans hP, (Heap.get?_update_ne _ _ _ _ ?_).trans hC⟩
  · rintro rfl
    rw [hl] at hP; cases hP; exact absurd ho (by simp)
  · rintro rfl
    rw [hl] at hC; cases hC; exact absurd ho (by simp)

theorem slice_str {prog : Program} {w : World} {A : Around} {E : Value → Shared → Prop} {s : Shared} {x : Array Nat} {b e : Nat} {Q : Value → Shared → Prop} (hx : x.size ≤ 2 ^ 20)
    (h : Q (.str ⟨x.extract b e⟩ s.toks) { s with toks := s.toks + 1 }) : wpAny (model prog w) A (reSlice x 0 b e) Q E s := by
  unfold reSlice
  show wpAny _ _ (mkStr ⟨x.extract b e⟩) _ _ _
  refine wpAny_mkStr' h ?_
  show (x.extract b e).size ≤ sizeLine
  rw [Array.size_extract, sizeLine_eq]
  omega

theorem next_found {prog : Program} {w : World} {A : Around} {E : Value → Shared → Prop} {s : Shared} {P : Addr} {x : Str} {t : Tok} {start : Nat} {must : Bool} {Q : Option Sre.M → Shared → Prop} (hx : x.cps.size ≤ 2 ^ 20)
    (h : ∀ m', Rx.ended x.cps (Rx.findCsi x.cps x.cps.size (x.cps.size + 1 - start) start) m' → Q ((Rx.findCsi x.cps x.cps.size (x.cps.size + 1 - start) start).map fun _ => m') s) :
    wpAny (model prog w) A (reNextFound { pattern := .ref P, string := .str x t, code := Rx.code, text := x.cps, kind := 0, groups := 0, pos := 0, lim := x.cps.size } start must) Q E s := by
  unfold reNextFound
  obtain ⟨m', g, he⟩ := Rx.search_ends x.cps start x.cps.size must (by omega)
  exact run_ends g he (size_steps hx) (h m' he)

/-- the pieces' signs -/
def cat : List (Str × Tok) → Array Nat
  | [] => #[]
  | p :: r => p.1.cps ++ cat r
theorem cat_append : ∀ a b : List (Str × Tok), cat (a ++ b) = cat a ++ cat b
  | [], b => by simp [cat]
  | p :: r, b => by simp [cat, cat_append r b]
theorem join_cat (l : List (Str × Tok)) : (Txt.join ⟨#[]⟩ (l.map (·.1))).cps = cat l := by
  show (Builtin.Str.glued ⟨#[]⟩ (l.map (·.1))).cps = cat l
  rw [StrLaws.glued_eq_join]
  induction l with
  | nil => rfl
  | cons p r ih =>
    cases r with
    | nil => simp [cat, Str.join]
    | cons q r =>
      have : Str.join ⟨#[]⟩ ((p :: q :: r).map (·.1)) = p.1 ++ (⟨#[]⟩ : Str) ++ Str.join ⟨#[]⟩ ((q :: r).map (·.1)) := rfl
      rw [this, Str.cps_append, Str.cps_append, ih]
      simp [cat]
theorem sum_cat : ∀ l : List (Str × Tok), ((l.map (·.1)).map (·.length)).sum = (cat l).size
  | [] => rfl
  | p :: r => by
    simp only [List.map_cons, List.sum_cons, cat, Array.size_append]
    rw [← sum_cat r]
    simp only [List.map_map]
    rfl
theorem join_ok {l : List (Str × Tok)} (h : (cat l).size ≤ 2 ^ 20) : JoinOk ⟨#[]⟩ (l.map (·.1)) = true := by
  unfold JoinOk
  rw [StrLaws.joinTotal, sum_cat]
  show (!decide ((cat l).size + (l.map (·.1)).length * 0 > sizeLine)) = true
  rw [sizeLine_eq]
  simp
  omega

abbrev lstObj (items : List (Str × Tok)) (ep : Nat) : Obj := { cls := .type "list", dict := none, data := .seq (strValues items).toArray ep, slots := #[] }
theorem push_get {h : Heap} {l : Addr} {items : List (Str × Tok)} {ep : Nat} {y : Str} {t : Tok} (hl : h.get? l = some (lstObj items ep)) :
    (h.update l (Obj.mapSeq fun x => x.push (.str y t))).get? l = some (lstObj (items ++ [(y, t)]) (ep + 1)) := by
  have := IsL.update (items := (strValues items).toArray) (n := ep) hl (fun x => x.push (.str y t))
  rw [if_neg (by simp)] at this
  refine this.trans ?_
  simp [strValues]
theorem push_keeps {h : Heap} {l : Addr} {f : Obj → Obj} : ∀ b o, b ≠ l → h.get? b = some o → (h.update l f).get? b = some o := fun b o hb e => (Heap.get?_update_ne _ _ _ _ hb).trans e

theorem lower_seq {prog : Program} {w : World} {A : Around} {E : Value → Shared → Prop} {s : Shared} {l : Addr} {items : List (Str × Tok)} {ep : Nat} {y : Str} {t : Tok} {Q : Unit → Shared → Prop} (hl : s.heap.get? l = some (lstObj items ep)) (hsz : items.length ≤ 2 ^ 22)
    (h : Q () { s with heap := s.heap.update l (Obj.mapSeq fun x => x.push (.str y t)) }) : wpAny (model prog w) A (updateSeq l fun x => x.push (.str y t)) Q E s := by
  refine wpAny_updateSeq hl rfl h ?_ ?_
  · simp [strValues, sizeLine_eq]; omega
  · simp [strValues, sizeLine_eq]; omega

theorem sub_loop {prog : Program} {w : World} {P l : Addr} {x : Str} {t t0 : Tok} (hx : x.cps.size ≤ 2 ^ 20) : ∀ (k done n : Nat) (items : List (Str × Tok)) (ep : Nat) (A : Around) (R : Result → Shared → Prop) (s : Shared), x.cps.size < done + k → done ≤ x.cps.size → PatAt s.heap P →
    s.heap.get? l = some (lstObj items ep) → items.length ≤ 2 * done → (cat items).size ≤ done →
    (∀ h' t' tk', (∀ b o, b ≠ l → s.heap.get? b = some o → h'.get? b = some o) → R (.ok (.ret (.str ⟨cat items ++ stripN x.cps k done⟩ t'))) { s with heap := h', toks := tk' }) →
    codeAny (model prog w) A (.builtin "re.Pattern.sub.loop" (subArgs P x t t0 n done l)) R s
  | 0, done, _, _, _, _, _, _, h1, h2, _, _, _, _, _ => absurd h1 (by omega)
  | k + 1, done, n, items, ep, A, R, s, h1, h2, hP, hl, hlen, hcat, hR => by
    refine codeAny_builtin entry_pat_subloop ?_
    rw [Around.under_plainId plain_loop _]
    unfold Builtin.«re.Pattern.sub.loop» subArgs
    obtain ⟨hp, gg, d, tk, os⟩ := s
    wp_walk using whole_target hP, next_found hx
    rw [Int.toNat_natCast]
    intro m' he
    unfold stripN at hR
    cases hc : Rx.findCsi x.cps x.cps.size (x.cps.size + 1 - done) done with
    | some p =>
      obtain ⟨a, e⟩ := p
      rw [hc] at he hR
      obtain ⟨_, _, _, _, hs, hh⟩ := he
      obtain ⟨ha, hce⟩ := find_some hc
      have hge := Rx.csiEnd_gt hce
      dsimp only [Option.map]
      rw [hs, hh]
      have hbe : (e == a) = false := by simp; omega
      rw [hbe]
      have hE : (x.cps.extract done a).size = a - done := by rw [Array.size_extract]; omega
      by_cases hd : done < a
      · rw [if_pos hd]
        refine wpAny_bind (slice_str hx ?_)
        refine wpAny_bind (lower_seq hl (by omega) ?_)
        have l1 := push_get (y := ⟨x.cps.extract done a⟩) (t := tk) hl
        refine wpAny_bind (wpAny_pure ?_)
        refine wpAny_ite_true rfl ?_
        refine wpAny_bind (lower_seq l1 (by simp; omega) ?_)
        have l2 := push_get (y := ⟨#[]⟩) (t := t0) l1
        refine wpAny_pure ⟨plainId_quiet plain_loop _, ?_⟩
        refine sub_loop hx k e (n + 1) _ _ A R _ (by omega) hge.2 ((hP.update hl rfl).update l1 rfl) l2 (by simp; omega) (by rw [cat_append, cat_append]; simp only [cat, Array.size_append, hE, Array.size_empty]; omega) fun h' t' tk' hk => ?_
        have := hR h' t' tk' fun b o hb e' => hk b o hb (push_keeps b o hb (push_keeps b o hb e'))
        rw [cat_append, cat_append]
        simp only [cat, Array.append_assoc, Array.append_empty, Array.empty_append] at this ⊢
        exact this
      · rw [if_neg hd]
        refine wpAny_bind (wpAny_pure ?_)
        refine wpAny_ite_true rfl ?_
        refine wpAny_bind (lower_seq hl (by omega) ?_)
        have l2 := push_get (y := ⟨#[]⟩) (t := t0) hl
        refine wpAny_pure ⟨plainId_quiet plain_loop _, ?_⟩
        refine sub_loop hx k e (n + 1) _ _ A R _ (by omega) hge.2 (hP.update hl rfl) l2 (by simp; omega) (by rw [cat_append]; simp only [cat, Array.size_append, Array.size_empty]; omega) fun h' t' tk' hk => ?_
        have := hR h' t' tk' fun b o hb e' => hk b o hb (push_keeps b o hb e')
        have ez : x.cps.extract done a = #[] := Array.eq_empty_of_size_eq_zero (by omega)
        rw [cat_append]
        dsimp only at this
        rw [ez] at this
        simp only [cat, Array.append_assoc, Array.append_empty, Array.empty_append] at this ⊢
        exact this
    | none =>
      rw [hc] at hR
      dsimp only [Option.map] at hR ⊢
      have fin : ∀ (items : List (Str × Tok)) (ep tk : Nat) (hp : Heap), hp.get? l = some (lstObj items ep) → (cat items).size ≤ 2 ^ 20 → (∀ tk' t', R (.ok (.ret (.str ⟨cat items⟩ t'))) { heap := hp, gens := gg, drawn := d, toks := tk', os := os }) →
          wpAny (model prog w) A.in1 (do
            let joiner ← reSlice x.cps 0 0 0
            let items ← seqItems? (.ref l)
            let text ← if (items.getD #[]).isEmpty = true then pure joiner else call (.builtin "str.join") [joiner, .ref l]
            ret text) (fun fin s' =>
              match fin with
              | Fin.done f => R (Except.ok f) s'
              | Fin.again c' => c'.quiet = true ∧ codeAny (model prog w) A c' R s')
            (fun e s' => R (Except.error e) s') { heap := hp, gens := gg, drawn := d, toks := tk, os := os } := by
        intro items ep tk hp hl hsz h
        refine wpAny_bind (slice_str hx ?_)
        unfold seqItems?
        refine wpAny_bind (wpAny_bind (wpAny_load hl (wpAny_pure ?_)))
        dsimp only [Option.getD]
        have e0 : x.cps.extract 0 0 = #[] := by simp
        rw [e0]
        cases items with
        | nil => exact wpAny_ite_true rfl (wpAny_bind (wpAny_pure (wpAny_pure (h _ _))))
        | cons p r =>
          refine wpAny_ite_false (by simp [strValues]) (wpAny_bind ?_)
          refine SC.join (l := p :: r) ⟨_, hl, rfl, _, rfl⟩ rfl (join_ok hsz) fun t' k' => ?_
          have := h k' t'
          rw [← join_cat] at this
          exact wpAny_pure this
      by_cases hd : done < x.cps.size
      · rw [if_pos hd]
        refine wpAny_bind (slice_str hx ?_)
        refine wpAny_bind (lower_seq hl (by omega) ?_)
        have l1 := push_get (y := ⟨x.cps.extract done x.cps.size⟩) (t := tk) hl
        have hE : (x.cps.extract done x.cps.size).size = x.cps.size - done := by rw [Array.size_extract]; omega
        have := fin _ _ (tk + 1) _ l1 (by rw [cat_append]; simp only [cat, Array.size_append, hE, Array.size_empty]; omega) fun tk' t' => by
          have := hR (hp.update l (Obj.mapSeq fun x_1 => x_1.push (.str ⟨x.cps.extract done⟩ tk))) t' tk' fun b o hb e' => push_keeps b o hb e'
          rw [cat_append]
          simp only [cat, Array.append_empty]
          exact this
        exact this
      · rw [if_neg hd]
        have ez : x.cps.extract done x.cps.size = #[] := Array.eq_empty_of_size_eq_zero (by rw [Array.size_extract]; omega)
        have := fin _ _ tk _ hl (by omega) fun tk' t' => by
          have := hR hp t' tk' fun b o hb e' => e'
          rw [ez] at this
          simpa using this
        exact this
end
end Mine


example : True := by (w_top off; trivial)

open PySem PySem.W PyProof.Rows PySem.Calls
set_option Elab.async false
set_option linter.all false
namespace Mine
set_option maxRecDepth 100000
open PySem.F PySem.Builtin.Re
theorem no_call_str : typeLookup (.type "str") "__call__" = pure none := by rw [typeLookup_type, builtinLookup_eq_fast]; kernel_rfl
theorem quiet_loop (a : Args) : (Code.builtin "re.Pattern.sub.loop" a).quiet = true := plainId_quiet plain_loop _

section
variable {prog : Program} {w : World} {A : Around} {E : Value → Shared → Prop} {s : Shared}
theorem named_sub {id f : String} {a b : Value} {Q : List (Option Value) → Shared → Prop} (hQ : Q [some a, some b, none] s) :
    wpAny (model prog w) A (reNamed id f ["repl", "string", "count"] 2 [a, b] []) Q E s := by
  unfold reNamed
  wp_walk
  exact hQ
end

theorem meets_sub {P : Addr} {x : Str} {t t0 : Tok} : Meets (Builtin.«re.Pattern.sub» ⟨[.ref P, .str ⟨#[]⟩ t0, .str x t], []⟩) (fun _ R s => PatAt s.heap P ∧ x.cps.size ≤ 2 ^ 20 ∧
    ∀ h' t' tk', (∀ b o, s.heap.get? b = some o → h'.get? b = some o) → R (.ok (.ret (.str ⟨stripN x.cps (x.cps.size + 1) 0⟩ t'))) { s with heap := h', toks := tk' }) := by
  intro prog w A R s h
  obtain ⟨hP, hx, h⟩ := h
  obtain ⟨hp, gg, d, tk, os⟩ := s
  unfold Builtin.«re.Pattern.sub» reSubstitute
  refine wpAny_bind (named_sub ?_)
  dsimp only
  refine wpAny_bind (wpAny_pure ?_)
  refine wpAny_bind (wpAny_specialOf (T := "str") rfl no_call_str ?_)
  refine wpAny_ite_false rfl ?_
  show wpAny _ _ (pure (some (⟨#[]⟩ : Str)) >>= _) _ _ _
  refine wpAny_bind (wpAny_pure ?_)
  refine wpAny_bind (wpAny_pure ?_)
  refine wpAny_ite_false rfl ?_
  refine wpAny_ite_true (by simp) ?_
  refine wpAny_bind (wpAny_pure ?_)
  refine wpAny_bind (wpAny_holding (whole_target hP ?_))
  refine wpAny_ite_false rfl ?_
  refine wpAny_bind (wpAny_newObj_type ?_ (Nat.zero_le _))
  refine wpAny_pure ⟨quiet_loop _, ?_⟩
  refine sub_loop hx (x.cps.size + 1) 0 0 [] 0 _ _ _ (by omega) (by omega) (hP.keeps fun b o e => Heap.get?_push_of_some _ e) (Heap.get?_push_size _ rfl) (by simp) (by simp [cat]) fun h' t' tk' hk => ?_
  have := h h' t' tk' fun b o e => hk b o (Nat.ne_of_lt (Heap.lt_size e)) (Heap.get?_push_of_some _ e)
  simp only [cat, Array.empty_append]
  exact this
end Mine


example : True := by (w_top off; trivial)

open PySem PySem.W PyProof.Rows PySem.Calls
set_option Elab.async false
set_option linter.all false
namespace Mine
set_option maxRecDepth 100000
theorem codeVals_eq : codeVals = #[.int 14 0, .int 10 0, .int 1 0, .int 3 0, .int 4294967295 0, .int 2 0, .int 2 0, .int 27 0, .int 91 0, .int 0 0, .int 0 0, .int 16 0, .int 27 0, .int 16 0, .int 91 0, .int 24 0, .int 10 0, .int 0 0, .int 4294967295 0, .int 13 0, .int 5 0, .int 22 0, .int 48 0, .int 63 0, .int 0 0, .int 1 0, .int 24 0, .int 10 0, .int 0 0, .int 4294967295 0, .int 13 0, .int 5 0, .int 22 0, .int 32 0, .int 47 0, .int 0 0, .int 1 0, .int 13 0, .int 5 0, .int 22 0, .int 64 0, .int 126 0, .int 0 0, .int 1 0] := by
  unfold codeVals Rx.code
  simp [rawInt]
theorem plain_pat : PlainAttrs "re.Pattern" :=
  ⟨⟨"object.__getattribute__", by rw [typeLookup_type, builtinLookup_eq_fast]; kernel_rfl, by decide +kernel⟩, by rw [typeLookup_type, builtinLookup_eq_fast]; kernel_rfl⟩
theorem plain_match : PlainAttrs "re.Match" :=
  ⟨⟨"object.__getattribute__", by rw [typeLookup_type, builtinLookup_eq_fast]; kernel_rfl, by decide +kernel⟩, by rw [typeLookup_type, builtinLookup_eq_fast]; kernel_rfl⟩
theorem args_match (a b c : Value) : argsOk "re.Pattern.match" ⟨[a, b, c], []⟩ := by unfold argsOk; kernel_rfl
theorem args_sub (a b c : Value) : argsOk "re.Pattern.sub" ⟨[a, b, c], []⟩ := by unfold argsOk; kernel_rfl
theorem args_end (a : Value) : argsOk "re.Match.end" ⟨[a], []⟩ := by unfold argsOk; kernel_rfl

theorem fr_keep {h₀ h h' : Heap} {L : Addr} {m : Str → Option Value} (F : Fr h₀ L h m) (k : ∀ b o, h.get? b = some o → h'.get? b = some o) : Fr h₀ L h' m := ⟨F.ns.keeps k, fun b o e => k b o (F.keep b o e), F.above⟩
theorem news_keep {h₀ h h' : Heap} {L : Addr} {news : List (Addr × Obj)} (N : News h₀ L h news) (k : ∀ b o, h.get? b = some o → h'.get? b = some o) : News h₀ L h' news := fun p hp => ⟨k _ _ (N p hp).1, (N p hp).2⟩

section
variable {prog : Program} {w : World} {A : Around} {E : Value → Shared → Prop} {s : Shared} {h₀ : Heap} {L P : Addr} {m : Str → Option Value} {news : List (Addr × Obj)} {x : Str} {t u : Tok} {i : Int}
theorem PatAt.type (h : PatAt s.heap P) : s.TypeIs (.ref P) "re.Pattern" := by
  obtain ⟨C, n, p, t1, t2, t3, hP, _⟩ := h
  exact ⟨_, hP, rfl⟩
theorem PatAt.noDict (h : PatAt s.heap P) : ∀ a, Value.ref P = .ref a → ∃ o, s.heap.get? a = some o ∧ o.dict = none := by
  obtain ⟨C, n, p, t1, t2, t3, hP, _⟩ := h
  intro a e
  cases e
  exact ⟨_, hP, rfl⟩
theorem gm_match {pl : Sem Bool} {Q : Value × List Value → Shared → Prop} (h : PatAt s.heap P) (hQ : Q (.builtin "re.Pattern.match", [.ref P]) s) : wpAny (model prog w) A (getMethod (.ref P) "match" pl) Q E s :=
  getMethod_builtin h.type plain_pat slot_pat_match type_pat_match h.noDict hQ
theorem gm_sub {pl : Sem Bool} {Q : Value × List Value → Shared → Prop} (h : PatAt s.heap P) (hQ : Q (.builtin "re.Pattern.sub", [.ref P]) s) : wpAny (model prog w) A (getMethod (.ref P) "sub" pl) Q E s :=
  getMethod_builtin h.type plain_pat slot_pat_sub type_pat_sub h.noDict hQ
theorem gm_end {pl : Sem Bool} {a T : Addr} {Q : Value × List Value → Shared → Prop} (N : News h₀ L s.heap news) (hm : (a, matchObj x t P i T) ∈ news) (hQ : Q (.builtin "re.Match.end", [.ref a]) s) : wpAny (model prog w) A (getMethod (.ref a) "end" pl) Q E s :=
  getMethod_builtin ⟨_, N.get hm, rfl⟩ plain_match slot_match_end type_match_end (fun b e => by cases e; exact ⟨_, N.get hm, rfl⟩) hQ
theorem call_match {Q : Value → Shared → Prop} (F : Fr h₀ L s.heap m) (N : News h₀ L s.heap news) (hP : PatAt s.heap P) (h0 : 0 ≤ i) (hi : i ≤ x.length) (hx : x.length ≤ 1048576)
    (hn : Rx.csiEnd x.cps x.cps.size i.toNat = none → Q .none s)
    (hs : ∀ e a T h', Rx.csiEnd x.cps x.cps.size i.toNat = some e → T < a → (∀ p ∈ news, p.1 < T) → Fr h₀ L h' m → News h₀ L h' ((a, matchObj x t P i T) :: (T, spanObj i e) :: news) → Q (.ref a) { s with heap := h' }) :
    wpAny (model prog w) A (call (.builtin "re.Pattern.match") [.ref P, .str x t, .int i u]) Q E s := by
  refine call_meets slot_pat_match hP.type entry_pat_match (args_match _ _ _) meets_match ⟨hP, h0, hi, hx, ?_⟩
  cases hc : Rx.csiEnd x.cps x.cps.size i.toNat with
  | none => exact hn hc
  | some e =>
    have F1 := F.push (spanObj i e)
    have N1 := N.push F (spanObj i e)
    have F2 := F1.push (matchObj x t P i s.heap.objs.size)
    have N2 := N1.push F1 (matchObj x t P i s.heap.objs.size)
    rw [Heap.size_push] at N2
    exact hs e _ _ _ hc (Nat.lt_succ_self _) (fun p hp => Heap.lt_size (N p hp).1) F2 N2
theorem call_end {Q : Value → Shared → Prop} {a T : Addr} {e : Int} (N : News h₀ L s.heap news) (hm : (a, matchObj x t P i T) ∈ news) (hT : (T, spanObj i e) ∈ news) (hQ : Q (.int e s.toks) { s with toks := s.toks + 1 }) :
    wpAny (model prog w) A (call (.builtin "re.Match.end") [.ref a]) Q E s :=
  call_meets slot_match_end ⟨_, N.get hm, rfl⟩ entry_match_end (args_end _) meets_end ⟨N.get hm, N.get hT, hQ⟩
theorem call_sub {Q : Value → Shared → Prop} {y : Str} (F : Fr h₀ L s.heap m) (N : News h₀ L s.heap news) (hP : PatAt s.heap P) (hy : y = ⟨#[]⟩) (hx : x.length ≤ 1048576)
    (h : ∀ h' t' tk', Fr h₀ L h' m → News h₀ L h' news → Q (.str ⟨stripN x.cps (x.cps.size + 1) 0⟩ t') { s with heap := h', toks := tk' }) :
    wpAny (model prog w) A (call (.builtin "re.Pattern.sub") [.ref P, .str y u, .str x t]) Q E s := by
  subst hy
  exact call_meets slot_pat_sub hP.type entry_pat_sub (args_sub _ _ _) meets_sub ⟨hP, hx, fun h' t' tk' k => h h' t' tk' (fr_keep F k) (news_keep N k)⟩
end
end Mine


example : True := by (w_top off; trivial)

open PySem PySem.W PyProof.Rows
set_option linter.all false
namespace Mine
open PySem.Builtin.Str

theorem clip_idx (i j : Int) (n : Nat) (h0 : 0 ≤ i) (h1 : 0 ≤ j) : strSliceIndices (some i) (some j) 1 n = strSliceIndices (some (min i n)) (some (min j n)) 1 n := by
  unfold strSliceIndices
  have e1 : ¬ i < 0 := by omega
  have e2 : ¬ j < 0 := by omega
  have e3 : ¬ min i (n : Int) < 0 := by omega
  have e4 : ¬ min j (n : Int) < 0 := by omega
  have e5 : min (min i (n : Int)) n = min i n := by omega
  have e6 : min (min j (n : Int)) n = min j n := by omega
  simp only [e1, e2, e3, e4, e5, e6, if_false, show (1 : Int) > 0 from by omega, if_true]
theorem clip_empty (i j : Int) (n : Nat) (h0 : 0 ≤ j) (h1 : j ≤ i) (h2 : i ≤ n) : strSliceIndices (some i) (some j) 1 n = [] := by
  unfold strSliceIndices sliceRange
  have e1 : ¬ i < 0 := by omega
  have e2 : ¬ j < 0 := by omega
  have e5 : max 0 (min i (n : Int)) = i := by omega
  have e6 : max 0 (min j (n : Int)) = j := by omega
  simp only [e1, e2, if_false, show (1 : Int) > 0 from by omega, if_true, e5, e6]
  rw [if_neg (by omega)]
  rfl
theorem extract_clip (a : Array Nat) (i j : Nat) : a.extract i j = ((a.toList.drop i).take (j - i)).toArray := by
  apply Array.toList_inj.mp
  simp [Array.toList_extract, List.extract_eq_take_drop]
theorem slice_cps {x : Str} {i j : Int} (h0 : 0 ≤ i) (h1 : 0 ≤ j) : (Txt.slice x (some i) (some j)).cps = x.cps.extract i.toNat j.toNat := by
  have hl : x.cps.toList.length = x.length := by simp [Str.length]
  have hl' : x.cps.size = x.length := rfl
  by_cases h : min i (x.length : Int) ≤ min j x.length
  · have e : Txt.slice x (some i) (some j) = Txt.slice x (some (min i x.length)) (some (min j x.length)) := by
      unfold Txt.slice
      rw [clip_idx i j x.length h0 h1]
    rw [e, beq_iff_eq.mp (slice_closes ⟨by omega, h, by omega⟩)]
    show ((x.cps.toList.drop (min i ↑x.length).toNat).take (min j ↑x.length - min i ↑x.length).toNat).toArray = _
    rw [extract_clip]
    congr 1
    apply List.ext_getElem?
    intro k
    rw [List.getElem?_take, List.getElem?_take]
    by_cases hk : k < (min j ↑x.length - min i ↑x.length).toNat
    · rw [if_pos hk, if_pos (by omega), List.getElem?_drop, List.getElem?_drop]
      congr 1
      omega
    · rw [if_neg hk]
      by_cases hk2 : k < j.toNat - i.toNat
      · rw [if_pos hk2, List.getElem?_drop, List.getElem?_eq_none (by omega)]
      · rw [if_neg hk2]
  · have hji : j ≤ i := by omega
    have e : strSliceIndices (some i) (some j) 1 x.length = [] := by
      rw [clip_idx i j x.length h0 h1]
      exact clip_empty _ _ _ (by omega) (by omega) (by omega)
    have hr : x.cps.extract i.toNat j.toNat = #[] := Array.eq_empty_of_size_eq_zero (by rw [Array.size_extract]; omega)
    unfold Txt.slice
    rw [e, hr]
    split
    · rename_i hx
      have h9 : 0 = x.length := by simpa using hx
      exact Array.eq_empty_of_size_eq_zero h9.symm
    · rfl

theorem slice_to {x : Str} {j : Int} (h1 : 0 ≤ j) : (Txt.slice x none (some j)).cps = x.cps.extract 0 j.toNat := by
  have : Txt.slice x none (some j) = Txt.slice x (some 0) (some j) := by unfold Txt.slice; rw [StrLaws.sliceIdx_none_lo]
  rw [this, slice_cps (by omega) h1]
  rfl
theorem slice_from {x : Str} {i : Int} (h1 : 0 ≤ i) : (Txt.slice x (some i) none).cps = x.cps.extract i.toNat x.cps.size := by
  have : Txt.slice x (some i) none = Txt.slice x (some i) (some (x.length : Int)) := by unfold Txt.slice; rw [StrLaws.sliceIdx_none_hi]
  rw [this, slice_cps h1 (by omega)]
  rfl
theorem str_ext {a b : Str} (h : a.cps = b.cps) : a = b := Str.ext' h
theorem item_cps {x : Str} {i : Int} (h0 : 0 ≤ i) (h1 : i < x.length) : (Txt.item x i).cps = #[Rx.ch x.cps i.toNat] := by
  obtain ⟨n, hn⟩ := StrLaws.some_at h0 h1
  rw [item_meets h0 hn]
  unfold Rx.ch
  rw [Array.getD_eq_getD_getElem?, hn]
  rfl
theorem one_lt {a b : Nat} : (#[a].toList < #[b].toList) ↔ a < b := by
  simp [List.cons_lt_cons_iff]
def lit (c : Nat) (s : String) : Prop := (Str.ofString s).cps = #[c]
theorem below {x : Str} {i : Int} {c : Nat} {s : Str} (hs : s.cps = #[c]) (h0 : 0 ≤ i) (h1 : i < x.length) : ((Txt.item x i).cps.toList < s.cps.toList) ↔ Rx.ch x.cps i.toNat < c := by
  rw [item_cps h0 h1, hs]; exact one_lt
theorem above {x : Str} {i : Int} {c : Nat} {s : Str} (hs : s.cps = #[c]) (h0 : 0 ≤ i) (h1 : i < x.length) : (s.cps.toList < (Txt.item x i).cps.toList) ↔ c < Rx.ch x.cps i.toNat := by
  rw [item_cps h0 h1, hs]; exact one_lt
theorem l48 : (Str.ofString "0").cps = #[48] := by decide +kernel
theorem l63 : (Str.ofString "?").cps = #[63] := by decide +kernel
theorem l32 : (Str.ofString " ").cps = #[32] := by decide +kernel
theorem l47 : (Str.ofString "/").cps = #[47] := by decide +kernel
theorem l64 : (Str.ofString "@").cps = #[64] := by decide +kernel
theorem l126 : (Str.ofString "~").cps = #[126] := by decide +kernel
theorem lesc : (Str.ofString "\x1b[").cps = #[27, 91] := by decide +kernel
theorem run_zero {f : Nat → Bool} {x : Array Nat} {lim p : Nat} (h : lim ≤ p ∨ f (Rx.ch x p) = false) : Rx.runLen f x (lim - p) p = 0 := by
  cases hn : lim - p with
  | zero => rfl
  | succ n =>
    unfold Rx.runLen
    rw [if_neg]
    rcases h with h | h
    · omega
    · rw [h]; exact Bool.false_ne_true
theorem run_succ {f : Nat → Bool} {x : Array Nat} {lim p : Nat} (h1 : p < lim) (h : f (Rx.ch x p) = true) : Rx.runLen f x (lim - p) p = Rx.runLen f x (lim - (p + 1)) (p + 1) + 1 := by
  rw [show lim - p = (lim - (p + 1)) + 1 by omega]
  conv => lhs; unfold Rx.runLen
  rw [if_pos h]
section
variable {x : Str} {i : Int}
theorem par_yes (h0 : 0 ≤ i) (h1 : i < x.length) (ha : ¬ (Txt.item x i).cps.toList < (Str.ofString "0").cps.toList) (hb : ¬ (Str.ofString "?").cps.toList < (Txt.item x i).cps.toList) : Rx.par (Rx.ch x.cps i.toNat) = true := by
  rw [below l48 h0 h1] at ha; rw [above l63 h0 h1] at hb; simp [Rx.par]; omega
theorem par_no1 (h0 : 0 ≤ i) (h1 : i < x.length) (ha : (Txt.item x i).cps.toList < (Str.ofString "0").cps.toList) : Rx.par (Rx.ch x.cps i.toNat) = false := by
  rw [below l48 h0 h1] at ha; simp [Rx.par]; omega
theorem par_no2 (h0 : 0 ≤ i) (h1 : i < x.length) (hb : (Str.ofString "?").cps.toList < (Txt.item x i).cps.toList) : Rx.par (Rx.ch x.cps i.toNat) = false := by
  rw [above l63 h0 h1] at hb; simp [Rx.par]; omega
theorem mid_yes (h0 : 0 ≤ i) (h1 : i < x.length) (ha : ¬ (Txt.item x i).cps.toList < (Str.ofString " ").cps.toList) (hb : ¬ (Str.ofString "/").cps.toList < (Txt.item x i).cps.toList) : Rx.mid (Rx.ch x.cps i.toNat) = true := by
  rw [below l32 h0 h1] at ha; rw [above l47 h0 h1] at hb; simp [Rx.mid]; omega
theorem mid_no1 (h0 : 0 ≤ i) (h1 : i < x.length) (ha : (Txt.item x i).cps.toList < (Str.ofString " ").cps.toList) : Rx.mid (Rx.ch x.cps i.toNat) = false := by
  rw [below l32 h0 h1] at ha; simp [Rx.mid]; omega
theorem mid_no2 (h0 : 0 ≤ i) (h1 : i < x.length) (hb : (Str.ofString "/").cps.toList < (Txt.item x i).cps.toList) : Rx.mid (Rx.ch x.cps i.toNat) = false := by
  rw [above l47 h0 h1] at hb; simp [Rx.mid]; omega
theorem fin_yes (h0 : 0 ≤ i) (h1 : i < x.length) (ha : ¬ (Txt.item x i).cps.toList < (Str.ofString "@").cps.toList) (hb : ¬ (Str.ofString "~").cps.toList < (Txt.item x i).cps.toList) : Rx.fin (Rx.ch x.cps i.toNat) = true := by
  rw [below l64 h0 h1] at ha; rw [above l126 h0 h1] at hb; simp [Rx.fin]; omega
theorem fin_no1 (h0 : 0 ≤ i) (h1 : i < x.length) (ha : (Txt.item x i).cps.toList < (Str.ofString "@").cps.toList) : Rx.fin (Rx.ch x.cps i.toNat) = false := by
  rw [below l64 h0 h1] at ha; simp [Rx.fin]; omega
theorem fin_no2 (h0 : 0 ≤ i) (h1 : i < x.length) (hb : (Str.ofString "~").cps.toList < (Txt.item x i).cps.toList) : Rx.fin (Rx.ch x.cps i.toNat) = false := by
  rw [above l126 h0 h1] at hb; simp [Rx.fin]; omega
/-- the two signs that open a sequence -/
theorem opens_iff (h0 : 0 ≤ i) : Txt.slice x (some i) (some (i + 2)) = Str.ofString "\x1b[" ↔ (i.toNat + 1 < x.cps.size ∧ Rx.ch x.cps i.toNat = 27 ∧ Rx.ch x.cps (i.toNat + 1) = 91) := by
  have e2 : (i + 2).toNat = i.toNat + 2 := by omega
  have hc := slice_cps (x := x) (i := i) (j := i + 2) h0 (by omega)
  rw [e2] at hc
  constructor
  · intro h
    rw [h, lesc] at hc
    have hs := congrArg Array.size hc
    rw [Array.size_extract] at hs
    have hs' : 2 = min (i.toNat + 2) x.cps.size - i.toNat := hs
    have hlt : i.toNat + 1 < x.cps.size := by omega
    have g0 := congrArg (fun a : Array Nat => a[0]?) hc
    have g1 := congrArg (fun a : Array Nat => a[1]?) hc
    simp only [Array.getElem?_extract] at g0 g1
    refine ⟨hlt, ?_, ?_⟩
    · unfold Rx.ch; rw [Array.getD_eq_getD_getElem?]; simp at g0; rw [← g0.2]; rfl
    · unfold Rx.ch; rw [Array.getD_eq_getD_getElem?]; simp at g1; rw [← g1.2]; rfl
  · rintro ⟨hlt, h27, h91⟩
    apply str_ext
    rw [hc, lesc]
    unfold Rx.ch at h27 h91
    rw [Array.getD_eq_getD_getElem?, Array.getElem?_eq_getElem (by omega)] at h27
    rw [Array.getD_eq_getD_getElem?, Array.getElem?_eq_getElem (by omega)] at h91
    apply Array.ext
    · rw [Array.size_extract]; show min (i.toNat + 2) x.cps.size - i.toNat = 2; omega
    · intro k hk1 hk2
      have hk2' : k < 2 := hk2
      rw [Array.getElem_extract]
      match k, hk2' with
      | 0, _ => simpa using h27
      | 1, _ => simpa using h91
end
end Mine


example : True := by (w_top off; trivial)

open PySem PySem.W PyProof.Rows
set_option linter.all false
namespace Mine
/-- the places of the signs to be seen, from p on -/
def seenN (x : Array Nat) : Nat → Nat → List Nat
  | 0, _ => []
  | n + 1, p => if p < x.size then (match Rx.csiEnd x x.size p with
    | none => p :: seenN x n (p + 1)
    | some e => seenN x n e) else []
theorem seenN_same (x : Array Nat) : ∀ n m p, x.size < p + n → x.size < p + m → seenN x n p = seenN x m p
  | 0, 0, _, _, _ => rfl
  | 0, m + 1, p, h, _ => by unfold seenN; rw [if_neg (by omega)]
  | n + 1, 0, p, _, h => by unfold seenN; rw [if_neg (by omega)]
  | n + 1, m + 1, p, h, h' => by
    unfold seenN
    split
    · cases hc : Rx.csiEnd x x.size p with
      | none => dsimp only; rw [seenN_same x n m (p + 1) (by omega) (by omega)]
      | some e => have := Rx.csiEnd_gt hc; dsimp only; rw [seenN_same x n m e (by omega) (by omega)]
    · rfl
def seenF (x : Array Nat) (p : Nat) : List Nat := seenN x (x.size + 1 - p) p
theorem seenF_end {x : Array Nat} {p : Nat} (h : x.size ≤ p) : seenF x p = [] := by
  unfold seenF
  rw [seenN_same x _ 1 p (by omega) (by omega)]
  unfold seenN
  rw [if_neg (by omega)]
theorem seenF_none {x : Array Nat} {p : Nat} (h : p < x.size) (hc : Rx.csiEnd x x.size p = none) : seenF x p = p :: seenF x (p + 1) := by
  unfold seenF
  rw [show x.size + 1 - p = (x.size + 1 - (p + 1)) + 1 by omega]
  conv => lhs; unfold seenN
  rw [if_pos h, hc]
theorem seenF_some {x : Array Nat} {p e : Nat} (hc : Rx.csiEnd x x.size p = some e) : seenF x p = seenF x e := by
  have := Rx.csiEnd_gt hc
  unfold seenF
  rw [seenN_same x (x.size + 1 - e) (x.size - p) e (by omega) (by omega), show x.size + 1 - p = (x.size - p) + 1 by omega]
  conv => lhs; unfold seenN
  rw [if_pos (by omega), hc]
theorem seenN_mem (x : Array Nat) : ∀ n p k, k ∈ seenN x n p → p ≤ k ∧ k < x.size
  | 0, _, _, h => by cases h
  | n + 1, p, k, h => by
    unfold seenN at h
    split at h
    · cases hc : Rx.csiEnd x x.size p with
      | none =>
        rw [hc] at h
        rcases List.mem_cons.mp h with rfl | h
        · omega
        · have := seenN_mem x n (p + 1) k h; omega
      | some e => rw [hc] at h; have := Rx.csiEnd_gt hc; have := seenN_mem x n e k h; omega
    · cases h
theorem seenF_mem {x : Array Nat} {p k : Nat} (h : k ∈ seenF x p) : p ≤ k ∧ k < x.size := seenN_mem x _ p k h
theorem seenN_len (x : Array Nat) : ∀ n p, (seenN x n p).length ≤ x.size - p
  | 0, _ => Nat.zero_le _
  | n + 1, p => by
    unfold seenN
    split
    · cases hc : Rx.csiEnd x x.size p with
      | none => have := seenN_len x n (p + 1); simp only [List.length_cons]; omega
      | some e => have := Rx.csiEnd_gt hc; have := seenN_len x n e; dsimp only; omega
    · exact Nat.zero_le _
theorem seenF_len {x : Array Nat} {p : Nat} : (seenF x p).length ≤ x.size - p := seenN_len x _ p
/-- the places, as ints -/
def seenI (x : Array Nat) (p : Nat) : List Int := (seenF x p).map fun (n : Nat) => (n : Int)
theorem seenI_end {x : Array Nat} {p : Nat} (h : x.size ≤ p) : seenI x p = [] := by unfold seenI; rw [seenF_end h]; rfl
theorem seenI_none {x : Array Nat} {p : Nat} (h : p < x.size) (hc : Rx.csiEnd x x.size p = none) : seenI x p = (p : Int) :: seenI x (p + 1) := by unfold seenI; rw [seenF_none h hc]; rfl
theorem seenI_some {x : Array Nat} {p e : Nat} (hc : Rx.csiEnd x x.size p = some e) : seenI x p = seenI x e := by unfold seenI; rw [seenF_some hc]
theorem seenI_len {x : Array Nat} {p : Nat} : (seenI x p).length ≤ x.size - p := by unfold seenI; rw [List.length_map]; exact seenF_len

theorem seen_find_some {x : Array Nat} : ∀ (n p : Nat) {a e : Nat}, x.size < p + n → Rx.findCsi x x.size n p = some (a, e) → seenF x p = List.range' p (a - p) ++ seenF x e
  | 0, _, _, _, _, h => by cases h
  | n + 1, p, a, e, hn, h => by
    unfold Rx.findCsi at h
    split at h
    · rename_i e' he
      cases h
      rw [Nat.sub_self, seenF_some he]
      rfl
    · rename_i he
      obtain ⟨ha, hc⟩ := find_some h
      have := Rx.csiEnd_gt hc
      rw [seenF_none (by omega) he, seen_find_some n (p + 1) (by omega) h, show a - p = (a - (p + 1)) + 1 by omega]
      rfl
theorem seen_find_none {x : Array Nat} : ∀ (n p : Nat), x.size + 1 = p + n → Rx.findCsi x x.size n p = none → seenF x p = List.range' p (x.size - p)
  | 0, p, hn, h => by rw [seenF_end (by omega), show x.size - p = 0 by omega]; rfl
  | n + 1, p, hn, h => by
    unfold Rx.findCsi at h
    split at h
    · cases h
    · rename_i he
      by_cases hp : p < x.size
      · rw [seenF_none hp he, seen_find_none n (p + 1) (by omega) h, show x.size - p = (x.size - (p + 1)) + 1 by omega]
        rfl
      · rw [seenF_end (by omega), show x.size - p = 0 by omega]; rfl
theorem range_ch {x : Array Nat} {p a : Nat} (ha : a ≤ x.size) : ((List.range' p (a - p)).map (Rx.ch x)).toArray = x.extract p a := by
  apply Array.ext
  · simp; omega
  · intro k h1 h2
    simp at h1
    simp [Rx.ch]
    rw [Array.getElem?_eq_getElem (by omega)]
    rfl
theorem strip_seen {x : Array Nat} : ∀ (n p : Nat), x.size < p + n → p ≤ x.size → stripN x n p = ((seenF x p).map (Rx.ch x)).toArray
  | 0, p, h, h' => absurd h (by omega)
  | n + 1, p, h, h' => by
    unfold stripN
    cases hf : Rx.findCsi x x.size (x.size + 1 - p) p with
    | none =>
      dsimp only
      rw [seen_find_none _ p (by omega) hf, range_ch (Nat.le_refl _)]
    | some q =>
      obtain ⟨a, e⟩ := q
      obtain ⟨ha, hc⟩ := find_some hf
      have hg := Rx.csiEnd_gt hc
      dsimp only
      rw [seen_find_some _ p (by omega) hf, strip_seen n e (by omega) hg.2, List.map_append, ← range_ch (by omega)]
      simp
theorem strip_seen0 (x : Array Nat) : stripN x (x.size + 1) 0 = ((seenF x 0).map (Rx.ch x)).toArray := strip_seen _ 0 (by omega) (by omega)
/-- what is to be seen -/
def bare (x : Array Nat) : Array Nat := ((seenF x 0).map (Rx.ch x)).toArray
theorem bare_size (x : Array Nat) : (bare x).size = (seenF x 0).length := by simp [bare]

/-- the text up to and with so many signs to be seen -/
def prefA (x : Array Nat) (many : Int) : Array Nat := if many ≤ 0 ∨ seenF x 0 = [] then #[] else x.extract 0 ((seenF x 0).getD (min many.toNat (seenF x 0).length - 1) 0 + 1)
theorem seenI_in {x : Str} : ∀ n ∈ seenI x.cps 0, 0 ≤ n ∧ n ≤ (x.length : Int) := by
  intro n hn
  unfold seenI at hn
  obtain ⟨k, hk, rfl⟩ := List.mem_map.mp hn
  have := seenF_mem hk
  have : x.length = x.cps.size := rfl
  omega
theorem seenI_getD (x : Array Nat) (p k : Nat) : (seenI x p).getD k 0 = (((seenF x p).getD k 0 : Nat) : Int) := by
  unfold seenI
  rw [List.getD_eq_getElem?_getD, List.getD_eq_getElem?_getD, List.getElem?_map]
  cases (seenF x p)[k]? <;> rfl
theorem pref_eq {x : Str} {many : Int} (hm : ¬ many ≤ 0) (he : ¬ seenF x.cps 0 = []) :
    (Txt.slice x none (some ((seenI x.cps 0).getD ((if ((seenI x.cps 0).length : Int) < many then ((seenI x.cps 0).length : Int) else many) - 1).toNat 0 + 1))).cps = prefA x.cps many := by
  have hl : (seenI x.cps 0).length = (seenF x.cps 0).length := by simp [seenI]
  have e1 : ((if ((seenI x.cps 0).length : Int) < many then ((seenI x.cps 0).length : Int) else many) - 1).toNat = min many.toNat (seenF x.cps 0).length - 1 := by
    rw [hl]; split <;> omega
  rw [e1, seenI_getD, slice_to (by omega)]
  unfold prefA
  rw [if_neg (by simp [he]; omega)]
  congr 1
/-- where the text is cut behind so many signs -/
def cutOf (x : Array Nat) (v : Nat) : Nat := if v = 0 then 0 else (seenF x 0).getD (v - 1) 0 + 1
theorem cut_pref {x : Array Nat} {n : Int} (hn : ¬ n ≤ 0) : x.extract 0 (cutOf x (min n.toNat (seenF x 0).length)) = prefA x n := by
  by_cases he : seenF x 0 = []
  · have e1 : prefA x n = #[] := by unfold prefA; rw [if_pos (.inr he)]
    have e2 : cutOf x (min n.toNat (seenF x 0).length) = 0 := by unfold cutOf; rw [he]; simp
    rw [e1, e2]; simp
  · have hl : 0 < (seenF x 0).length := List.length_pos_iff.mpr he
    have e1 : prefA x n = x.extract 0 ((seenF x 0).getD (min n.toNat (seenF x 0).length - 1) 0 + 1) := by
      unfold prefA; rw [if_neg (by intro h; rcases h with h | h; exact hn h; exact he h)]
    have e2 : cutOf x (min n.toNat (seenF x 0).length) = (seenF x 0).getD (min n.toNat (seenF x 0).length - 1) 0 + 1 := by unfold cutOf; rw [if_neg (by omega)]
    rw [e1, e2]
theorem cut_le {x : Array Nat} {v : Nat} (h : v ≤ (seenF x 0).length) : cutOf x v ≤ x.size := by
  unfold cutOf
  split
  · omega
  · have : (seenF x 0).getD (v - 1) 0 ∈ seenF x 0 := by
      rw [List.getD_eq_getElem?_getD, List.getElem?_eq_getElem (by omega)]
      exact List.getElem_mem _
    have := seenF_mem this
    omega
theorem cut_next {x : Array Nat} {v i : Nat} {r : List Nat} (h : (seenF x 0).drop v = i :: r) : v < (seenF x 0).length ∧ cutOf x (v + 1) = i + 1 ∧ (seenF x 0).drop (v + 1) = r := by
  have hlt : v < (seenF x 0).length := by
    apply Classical.byContradiction
    intro hc
    rw [List.drop_of_length_le (by omega)] at h
    cases h
  rw [List.drop_eq_getElem_cons hlt] at h
  have h1 := (List.cons.inj h).1
  have h2 := (List.cons.inj h).2
  refine ⟨hlt, ?_, h2⟩
  unfold cutOf
  rw [if_neg (by omega), Nat.add_sub_cancel, List.getD_eq_getElem?_getD, List.getElem?_eq_getElem hlt, h1]
  rfl
theorem trunc_none {x : Str} {v i n c : Int} (hp0 : 0 ≤ i) (hlt : i < x.length) (hp2 : 0 ≤ v) (hp5 : (seenF x.cps 0).drop v.toNat = seenF x.cps i.toNat) (hc : Rx.csiEnd x.cps x.cps.size i.toNat = none) :
    v + 1 ≤ (seenF x.cps 0).length ∧ (seenF x.cps 0).drop (v + 1).toNat = seenF x.cps (i + 1).toNat ∧ i + 1 = (cutOf x.cps (v + 1).toNat : Nat) := by
  have hxs : x.length = x.cps.size := rfl
  rw [seenF_none (by omega) hc] at hp5
  obtain ⟨h1, h2, h3⟩ := cut_next hp5
  have e1 : (v + 1).toNat = v.toNat + 1 := by omega
  have e2 : (i + 1).toNat = i.toNat + 1 := by omega
  rw [e1, e2, h2, h3]
  exact ⟨by omega, rfl, by omega⟩
theorem trunc_end {x : Str} {v i n c : Int} (hp0 : 0 ≤ i) (hge : ¬ i < x.length) (hp2 : 0 ≤ v) (hp3 : v < n) (hp4 : v ≤ (seenF x.cps 0).length) (hp5 : (seenF x.cps 0).drop v.toNat = seenF x.cps i.toNat) (hp6 : c = (cutOf x.cps v.toNat : Nat)) :
    c = (cutOf x.cps (min n.toNat (seenF x.cps 0).length) : Nat) := by
  have hxs : x.length = x.cps.size := rfl
  rw [seenF_end (p := i.toNat) (by omega)] at hp5
  have := List.drop_eq_nil_iff.mp hp5
  rw [hp6]
  congr 2
  omega
end Mine


example : True := by (w_top off; trivial)

open PySem PySem.W PyProof.Rows PySem.Calls
set_option Elab.async false
set_option linter.all false
namespace Mine
set_option maxRecDepth 100000

/-- what a caller brings -/
structure Cx (K : Frag) (p : Program) (loose : List Str) (mean : ExcName → Option Value) (mg mb : Str → Option Value) (dp un : Nat) (cs : Scope) (A₀ : Around) (base : Heap) (outer : List Env) (h₀ : Heap) (L : Addr) (m : Str → Option Value) (h : Heap) (dd uu : Nat) : Prop where
  B : Below A₀ base outer h₀
  F : Fr h₀ L h m
  X : K.In h₀
  T : Top p loose mean mg mb h₀
  hk : cs.kind = .function
  hd : dp + dd < recursionLimit
  hu : un + uu < cLine

/-- the walk is to stop here -/
def Stop (P : Prop) : Prop := P
theorem Stop.out {P : Prop} (h : Stop P) : P := h
theorem Stop.of {P : Prop} (h : P) : Stop P := h

/-- a while that may end in several ways, its ends joined -/
def WExit {σ : Type} (h₀ : Heap) (L : Addr) (s : Shared) (Led : σ → List (Addr × Obj)) (ps : σ → List (Str × Value)) (stored : List Str) (m₀ : Str → Option Value) (Z : σ → Prop) (s₂ : Shared) : Prop :=
  ∃ (c : σ) (h' : Heap) (tk : Nat) (m' : Str → Option Value) (news' : List (Addr × Obj)), s₂ = { s with heap := h', toks := tk } ∧ Fr h₀ L h' m' ∧ News h₀ L h' news' ∧ (∀ p ∈ Led c, p ∈ news') ∧ (∀ p ∈ ps c, m' p.1 = some p.2) ∧ (∀ z, (∀ p ∈ ps c, z ≠ p.1) → stored.contains z = false → m' z = m₀ z) ∧ Z c
def WPost {σ : Type} (h₀ : Heap) (L : Addr) (s : Shared) (Led : σ → List (Addr × Obj)) (ps : σ → List (Str × Value)) (stored : List Str) (m₀ : Str → Option Value) (Z : σ → Prop) (Q : Flow → Shared → Prop) (f : Flow) (s₂ : Shared) : Prop :=
  match f with
  | .ret v => Q (.ret v) s₂
  | .next => WExit h₀ L s Led ps stored m₀ Z s₂
  | _ => False
theorem wexit {σ : Type} {h₀ : Heap} {L : Addr} {s : Shared} {Led : σ → List (Addr × Obj)} {ps : σ → List (Str × Value)} {stored : List Str} {m₀ m' : Str → Option Value} {Z : σ → Prop} {h' : Heap} {tk : Nat} {news' : List (Addr × Obj)} (c : σ)
    (F : Fr h₀ L h' m') (N : News h₀ L h' news') (hn : ∀ p ∈ Led c, p ∈ news') (hk : ∀ p ∈ ps c, m' p.1 = some p.2) (hr : ∀ z, (∀ p ∈ ps c, z ≠ p.1) → stored.contains z = false → m' z = m₀ z) (hz : Z c) :
    WExit h₀ L s Led ps stored m₀ Z { s with heap := h', toks := tk } := ⟨c, h', tk, m', news', rfl, F, N, hn, hk, hr, hz⟩
theorem my_while {prog : Program} {w : World} {A : Around} {E : Value → Shared → Prop} {Q : Flow → Shared → Prop} {s : Shared} {env : Env} {h₀ : Heap} {L : Addr} {σ : Type} {test : Expr} {body : List Stmt} {pos : Pos} {m₀ : Str → Option Value} (Led : σ → List (Addr × Obj)) (ps : σ → List (Str × Value)) (stored : List Str) (P : σ → Prop) (μ : σ → Nat) (Z : σ → Prop) (c₀ : σ)
    (F : Fr h₀ L s.heap m₀) (N : News h₀ L s.heap (Led c₀)) (hk : ∀ p ∈ ps c₀, m₀ p.1 = some p.2) (hp : P c₀)
    (turn : ∀ (c : σ) (u : Str → Option Value) h tk, P c → Fr h₀ L h (kstB (fun z => if stored.contains z then u z else m₀ z) (ps c)) → News h₀ L h (Led c) →
      wpAny (model prog w) A (isTrue test env (eval test env)) (fun b s₂ =>
        if b = true then wpAny (model prog w) A (execs body env) (KswPost h₀ L s Led ps (fun _ => True) stored m₀ P μ (WPost h₀ L s Led ps stored m₀ Z Q) c) E s₂ else WPost h₀ L s Led ps stored m₀ Z Q .next s₂) E { s with heap := h, toks := tk })
    (done : ∀ (c : σ) (u : Str → Option Value) h tk, Z c → Fr h₀ L h (kstB (fun z => if stored.contains z then u z else m₀ z) (ps c)) → News h₀ L h (Led c) → Q .next { s with heap := h, toks := tk })
    (hE : PassesOwn (model prog w) A env E := by passes_own) :
    wpAny (model prog w) A (exec (.While test body [] pos) env) Q E s := by
  refine wpAny_mono (ksw_while (Q := WPost h₀ L s Led ps stored m₀ Z Q) Led ps (fun _ => True) stored P μ c₀ F N trivial hk hp (fun c u h tk _ => turn c u h tk) hE) (fun f s₂ q => ?_) fun _ _ x => x
  cases f with
  | ret v => exact q
  | brk => exact q.elim
  | cont => exact q.elim
  | next =>
    obtain ⟨c, h', tk, m', news', rfl, F', N', hn, hk', hr, hz⟩ := q
    exact done c m' h' tk hz (ksw_fr hk' hr F') fun p hp => N' p (hn p hp)

/-- apart from an address -/
abbrev Off (l : Addr) (news : List (Addr × Obj)) : Prop := ∀ p ∈ news, p.1 ≠ l

theorem my_pop0 {prog : Program} {w : World} {A : Around} {E : Value → Shared → Prop} {s : Shared} {h₀ : Heap} {L l : Addr} {m : Str → Option Value} {v : Value} {vs : List Value} {n : Nat} {t : Tok} {news news' : List (Addr × Obj)} {Q : Value → Shared → Prop}
    (F : Fr h₀ L s.heap m) (N : News h₀ L s.heap news) (U : Upd l (listOf (v :: vs).toArray n) (listOf vs.toArray (n + 1)) news news') (hsz : vs.length ≤ 1000000)
    (h : ∀ h', Fr h₀ L h' m → News h₀ L h' news' → Q v { s with heap := h' }) : wpAny (model prog w) A (call (.builtin "list.pop") [.ref l, .int 0 t]) Q E s := by
  obtain ⟨pre, post, rfl, rfl, h1, h2⟩ := U.split
  have z := N (l, listOf (v :: vs).toArray n) (List.mem_append.mpr (.inr (.head _)))
  refine call_meets PySem.F.slot_list_pop ⟨_, z.1, rfl⟩ PySem.F.entry_list_pop (PySem.F.args_list_pop_2 _ _) (MeetsSeq.list_pop_at l (v :: vs).toArray n 0 t 0 v rfl (by simp [seqIndex?]) rfl (by rw [sizeLine_eq]; simp; omega)) ⟨z.1, ?_⟩
  obtain ⟨a, b⟩ := news_upd (f := Obj.mapSeq fun xs => xs.eraseIdxIfInBounds 0) (o' := listOf vs.toArray (n + 1)) F N h1 h2 (by
    show (⟨.type "list", none, .seq ((v :: vs).toArray.eraseIdxIfInBounds 0) (if ((v :: vs).toArray.eraseIdxIfInBounds 0).size == (v :: vs).toArray.size then n else n + 1), #[]⟩ : Obj) = _
    have : (v :: vs).toArray.eraseIdxIfInBounds 0 = vs.toArray := by apply Array.toList_inj.mp; simp [Array.toList_eraseIdxIfInBounds]
    rw [this, if_neg (by simp)]) rfl
  exact h _ a b

theorem my_item {prog : Program} {w : World} {A : Around} {E : Value → Shared → Prop} {s : Shared} {h₀ : Heap} {L l : Addr} {n : Nat} {vs : List Value} {ns : List Int} {k M : Int} {u : Tok} {news : List (Addr × Obj)} {value slice : Expr} {Q : Value → Shared → Prop}
    (N : News h₀ L s.heap news) (hm : (l, listOf vs.toArray n) ∈ news) (hi : IntsAre vs ns) (hb : ∀ n ∈ ns, 0 ≤ n ∧ n ≤ M) (h0 : 0 ≤ k) (hk : k < ns.length) (hfit : k < 2 ^ 63) (h : ∀ t v, v = ns.getD k.toNat 0 → 0 ≤ v → v ≤ M → Q (.int v t) s)
    (hs : subscripted slice false (.ref l) (.int k u) = operate [.ref l, .int k u] (getItem (.ref l) (.int k u)) := by with_unfolding_all rfl) :
    wpAny (model prog w) A (subscriptTail value slice (.ref l) (.int k u)) Q E s := by
  have hl : s.heap.IsList l vs.toArray := ⟨_, (N _ hm).1, rfl, n, rfl⟩
  have hlen := IntsAre.length hi
  have hlt : k.toNat < vs.length := by omega
  obtain ⟨t, ht⟩ := IntsAre.int_at hi k.toNat _ (List.getElem?_eq_getElem hlt)
  have hmem : ns.getD k.toNat 0 ∈ ns := by
    rw [List.getD_eq_getElem?_getD, List.getElem?_eq_getElem (by omega)]
    exact List.getElem_mem _
  obtain ⟨b1, b2⟩ := hb _ hmem
  refine tail_any hl.typeIs slot_list_getitem.lookup (wpAny_getItem_list hl h0 hfit (x := .int (ns.getD k.toNat 0) t) ?_ (h t _ rfl b1 b2)) hs
  rw [List.getElem?_toArray, List.getElem?_eq_getElem hlt, ht]

theorem updF_mem {d : Addr} {o : Obj} {l : List (Addr × Obj)} {g : Obj → List (Addr × Obj)} (U : UpdF d o l g) {o' : Obj} : ∀ q ∈ g o', q = (d, o') ∨ (q ∈ l ∧ q.1 ≠ d) := by
  obtain ⟨pre, post, rfl, hg, h1, h2⟩ := U.split
  intro q hq
  rw [hg] at hq
  rcases List.mem_append.mp hq with h | h
  · exact .inr ⟨List.mem_append_left _ h, h1 q h⟩
  · rcases List.mem_cons.mp h with rfl | h
    · exact .inl rfl
    · exact .inr ⟨List.mem_append_right _ (.tail _ h), h2 q h⟩
theorem updF_has {d : Addr} {o : Obj} {l : List (Addr × Obj)} {g : Obj → List (Addr × Obj)} (U : UpdF d o l g) : (d, o) ∈ l ∧ (∀ q ∈ l, q.1 = d → q = (d, o)) ∧ g o = l := by
  obtain ⟨pre, post, rfl, hg, h1, h2⟩ := U.split
  refine ⟨List.mem_append_right _ (.head _), fun q hq e => ?_, hg o⟩
  rcases List.mem_append.mp hq with h | h
  · exact absurd e (h1 q h)
  · rcases List.mem_cons.mp h with rfl | h
    · rfl
    · exact absurd e (h2 q h)
/-- what is neither -/
def others (d b : Addr) (l : List (Addr × Obj)) : List (Addr × Obj) := l.filter fun p => decide (p.1 ≠ d) && decide (p.1 ≠ b)
theorem others_off1 {d b : Addr} {l : List (Addr × Obj)} : Off d (others d b l) := fun p hp => by
  have := (List.mem_filter.mp hp).2
  simp at this
  exact this.1
theorem others_off2 {d b : Addr} {l : List (Addr × Obj)} : Off b (others d b l) := fun p hp => by
  have := (List.mem_filter.mp hp).2
  simp at this
  exact this.2
theorem two_in {h₀ h : Heap} {L d b : Addr} {od ob : Obj} {l : List (Addr × Obj)} {g1 : Obj → List (Addr × Obj)} {g2 : Obj → Obj → List (Addr × Obj)} (N : News h₀ L h l) (U1 : UpdF d od l g1) (U2 : ∀ o, UpdF b ob (g1 o) (g2 o)) :
    News h₀ L h ((d, od) :: (b, ob) :: others d b l) := by
  obtain ⟨h1, _, h3⟩ := updF_has U1
  obtain ⟨h4, _, _⟩ := updF_has (U2 od)
  rw [h3] at h4
  intro p hp
  rcases List.mem_cons.mp hp with rfl | hp
  · exact N _ h1
  · rcases List.mem_cons.mp hp with rfl | hp
    · exact N _ h4
    · exact N _ (List.mem_filter.mp hp).1
theorem two_out {h₀ h : Heap} {L d b : Addr} {od ob od' ob' : Obj} {l : List (Addr × Obj)} {g1 : Obj → List (Addr × Obj)} {g2 : Obj → Obj → List (Addr × Obj)} (U1 : UpdF d od l g1) (U2 : ∀ o, UpdF b ob (g1 o) (g2 o))
    (N : News h₀ L h ((d, od') :: (b, ob') :: others d b l)) : News h₀ L h (g2 od' ob') := by
  intro q hq
  rcases updF_mem (U2 od') q hq with rfl | ⟨hq, hb⟩
  · exact N _ (.tail _ (.head _))
  · rcases updF_mem U1 q hq with rfl | ⟨hq, hd⟩
    · exact N _ (.head _)
    · exact N _ (.tail _ (.tail _ (List.mem_filter.mpr ⟨hq, by simp [hd, hb]⟩)))

theorem popD_len {d : Int} {ns : List Int} {k : Nat} (h : ns.length < k) : (match ns with | [] => (d, []) | x :: r => if d = 0 then (x, r) else (d, x :: r)).2.length < k := by
  cases ns with
  | nil => exact h
  | cons x r => dsimp only; split <;> simp at h ⊢ <;> omega

/-- a comprehension by what holds between its turns -/
theorem comp_inv {prog : Program} {w : World} {A : Around} {h₀ : Heap} {L : Addr} {m : Str → Option Value} {env : Env} {elt : Expr} {x : Str} {scope : Scope} {cl : List (Str × Addr)} {s : Shared} {S : List (Addr × Obj) → Prop} {P : Nat → Value → Prop} {Fin : List Value → List (Addr × Obj) → Prop} (n : Nat)
    (I : Nat → List Value → List (Addr × Obj) → Prop)
    (turn : ∀ i ys news, i < n → I i ys news → ∀ v It oI C oC D m₂ h tk (E' : Value → Shared → Prop), P i v → LCg.NsObj oC m₂ → m₂ x = some v → Fr h₀ L h m → News h₀ L h ((It, oI) :: (C, oC) :: (D, LCg.lst ys) :: news) → LCg.Off3 It C D news → ((@Ne Nat It C) ∧ (@Ne Nat It D) ∧ (@Ne Nat C D)) →
      wpAny (model prog w) A (eval elt (compEnvC scope cl C env)) (LCg.CompEnd h₀ L m { s with heap := h, toks := tk } It oI C oC D (LCg.lst ys) S (fun y news' => I (i + 1) (ys ++ [y]) news')) E' { s with heap := h, toks := tk })
    (fin : ∀ ys news, I n ys news → Fin ys news) : ∀ k i ys news, i + k = n → I i ys news → LCg.CompRest prog w A h₀ L m env elt x scope cl s S P Fin k i ys news
  | 0, i, ys, news, e, h => LCg.CompRest.zero (fin ys news (by rw [← e]; exact h))
  | k + 1, i, ys, news, e, h => LCg.CompRest.succ fun v It oI C oC D m₂ h' tk E' q1 q2 q3 q4 q5 q6 q7 =>
    wpAny_mono (turn i ys news (by omega) h v It oI C oC D m₂ h' tk E' q1 q2 q3 q4 q5 q6 q7)
      (fun y s₂ ⟨h'', tk'', news', a, b, c, d, e', f⟩ => ⟨h'', tk'', news', a, b, c, d, e', comp_inv n I turn fin k (i + 1) _ _ (by omega) f⟩) fun _ _ z => z

theorem my_item_any {prog : Program} {w : World} {A : Around} {E : Value → Shared → Prop} {s : Shared} {h₀ : Heap} {L l : Addr} {n : Nat} {vs : List Value} {k : Int} {u : Tok} {news : List (Addr × Obj)} {value slice : Expr} {Q : Value → Shared → Prop}
    (N : News h₀ L s.heap news) (hm : (l, listOf vs.toArray n) ∈ news) (h0 : 0 ≤ k) (hk : k < vs.length) (hfit : k < 2 ^ 63) (h : ∀ v, v ∈ vs → Q v s)
    (hs : subscripted slice false (.ref l) (.int k u) = operate [.ref l, .int k u] (getItem (.ref l) (.int k u)) := by with_unfolding_all rfl) :
    wpAny (model prog w) A (subscriptTail value slice (.ref l) (.int k u)) Q E s := by
  have hl : s.heap.IsList l vs.toArray := ⟨_, (N _ hm).1, rfl, n, rfl⟩
  have hlt : k.toNat < vs.length := by omega
  refine tail_any hl.typeIs slot_list_getitem.lookup (wpAny_getItem_list hl h0 hfit (x := vs[k.toNat]) ?_ (h _ (List.getElem_mem _))) hs
  rw [List.getElem?_toArray, List.getElem?_eq_getElem hlt]

theorem sum_short {k : Nat} : ∀ {l : List (Str × Tok)}, (∀ p ∈ l, p.1.length ≤ k) → ((l.map (·.1)).map (·.length)).sum ≤ k * l.length
  | [], _ => by simp
  | p :: r, h => by
    have h1 := h p (.head _)
    have h2 := sum_short (l := r) fun q hq => h q (.tail _ hq)
    simp only [List.map_cons, List.sum_cons, List.length_cons, Nat.mul_succ]
    omega
theorem join_short {sep : Str} {l : List (Str × Tok)} {k n : Nat} (hs : sep.length ≤ 4) (h : ∀ p ∈ l, p.1.length ≤ k) (hl : l.length ≤ n) (hk : k * n + 4 * n ≤ 1000000) : JoinOk sep (l.map (·.1)) = true ∧ (Txt.join sep (l.map (·.1))).length ≤ k * n + 4 * n := by
  have h1 := sum_short h
  have h2 : k * l.length ≤ k * n := Nat.mul_le_mul_left _ hl
  have h3 : l.length * sep.length ≤ n * 4 := Nat.mul_le_mul hl hs
  refine ⟨?_, ?_⟩
  · unfold JoinOk
    rw [StrLaws.joinTotal]
    simp only [List.length_map]
    show (!decide (_ > sizeLine)) = true
    rw [sizeLine_eq]
    simp only [Bool.not_eq_true', decide_eq_false_iff_not]
    omega
  · show (Builtin.Str.glued sep (l.map (·.1))).length ≤ _
    rw [size_glued]
    simp only [List.length_map]
    have h4 : (l.length - 1) * sep.length ≤ n * 4 := Nat.mul_le_mul (by omega) hs
    omega
theorem getD_short {k : Nat} {l : List Str} (h : (l.all fun y => decide (y.length ≤ k)) = true) (i : Nat) : (l.getD i Str.empty).length ≤ k := by
  rw [List.getD_eq_getElem?_getD]
  cases e : l[i]? with
  | none => exact Nat.zero_le _
  | some y => exact of_decide_eq_true (List.all_eq_true.mp h y (List.mem_of_getElem? e))
theorem strVal_snoc (l : List (Str × Tok)) (y : Str) (t : Tok) : strValues l ++ [.str y t] = strValues (l ++ [(y, t)]) := by simp [strValues]
theorem off1_mem {D : Addr} : ∀ {l : List (Addr × Obj)}, LCg.Off1 D l → ∀ p ∈ l, p.1 ≠ D
  | [], _, _, h => nomatch h
  | _ :: _, x, p, h => by
    rcases List.mem_cons.mp h with rfl | h
    · exact x.1
    · exact off1_mem x.2 p h
theorem int_four {v : Int} (h : 0 ≤ v) (h' : v < 4) : v = 0 ∨ v = 1 ∨ v = 2 ∨ v = 3 := by omega
/-- the number at hand, and those that are left -/
def popD (d : Int) : List Int → Int × List Int
  | [] => (d, [])
  | x :: r => if d = 0 then (x, r) else (d, x :: r)
end Mine


example : True := by (w_top off; trivial)

open PySem PySem.W PyProof.Rows
set_option Elab.async false
set_option linter.all false
namespace Mine
theorem runLen_min (f : Nat → Bool) (x : Array Nat) : ∀ a b p, a ≤ b → Rx.runLen f x a p = min a (Rx.runLen f x b p)
  | 0, _, _, _ => by simp [Rx.runLen]
  | a + 1, b, p, h => by
    obtain ⟨b, rfl⟩ : ∃ c, b = c + 1 := ⟨b - 1, by omega⟩
    unfold Rx.runLen
    split
    · rw [runLen_min f x a b (p + 1) (by omega)]; omega
    · omega
theorem runLen_ext (f : Nat → Bool) {x y : Array Nat} {m : Nat} (h : ∀ k, k < m → Rx.ch y k = Rx.ch x k) : ∀ n p, p + n ≤ m → Rx.runLen f y n p = Rx.runLen f x n p
  | 0, _, _ => rfl
  | n + 1, p, hp => by
    unfold Rx.runLen
    rw [h p (by omega), runLen_ext f h n (p + 1) (by omega)]
theorem csiEnd_ext {x y : Array Nat} {m p : Nat} (h : ∀ k, k < m → Rx.ch y k = Rx.ch x k) : Rx.csiEnd y m p = Rx.csiEnd x m p := by
  unfold Rx.csiEnd
  by_cases h1 : m ≤ p
  · rw [if_pos (.inl h1), if_pos (.inl h1)]
  · rw [h p (by omega)]
    by_cases h2 : m ≤ p + 1
    · split
      · rfl
      · rw [if_pos (.inl h2), if_pos (.inl h2)]
    · rw [h (p + 1) (by omega)]
      split
      · rfl
      · split
        · rfl
        · dsimp only
          have e1 := runLen_ext Rx.par h (m - (p + 2)) (p + 2) (by omega)
          have l1 := Rx.runLen_le Rx.par x (m - (p + 2)) (p + 2)
          rw [e1]
          have e2 := runLen_ext Rx.mid h (m - (p + 2 + Rx.runLen Rx.par x (m - (p + 2)) (p + 2))) (p + 2 + Rx.runLen Rx.par x (m - (p + 2)) (p + 2)) (by omega)
          rw [e2]
          generalize p + 2 + Rx.runLen Rx.par x (m - (p + 2)) (p + 2) + Rx.runLen Rx.mid x (m - (p + 2 + Rx.runLen Rx.par x (m - (p + 2)) (p + 2))) (p + 2 + Rx.runLen Rx.par x (m - (p + 2)) (p + 2)) = q
          by_cases h3 : m ≤ q
          · rw [if_pos (.inl h3), if_pos (.inl h3)]
          · rw [h q (by omega)]
theorem csiEnd_lim {x : Array Nat} {m n p : Nat} (h : m ≤ n) : Rx.csiEnd x m p = (Rx.csiEnd x n p).filter fun e => decide (e ≤ m) := by
  unfold Rx.csiEnd
  by_cases c1 : Rx.ch x p ≠ 27
  · rw [if_pos (.inr c1), if_pos (.inr c1)]; rfl
  by_cases c2 : Rx.ch x (p + 1) ≠ 91
  · have e1 : (if m ≤ p + 1 ∨ Rx.ch x (p + 1) ≠ 91 then (none : Option Nat) else
        let q1 := p + 2 + Rx.runLen Rx.par x (m - (p + 2)) (p + 2)
        let q := q1 + Rx.runLen Rx.mid x (m - q1) q1
        if m ≤ q ∨ Rx.fin (Rx.ch x q) = false then none else some (q + 1)) = none := if_pos (.inr c2)
    have e2 : (if n ≤ p + 1 ∨ Rx.ch x (p + 1) ≠ 91 then (none : Option Nat) else
        let q1 := p + 2 + Rx.runLen Rx.par x (n - (p + 2)) (p + 2)
        let q := q1 + Rx.runLen Rx.mid x (n - q1) q1
        if n ≤ q ∨ Rx.fin (Rx.ch x q) = false then none else some (q + 1)) = none := if_pos (.inr c2)
    rw [e1, e2]
    split <;> split <;> rfl
  by_cases hn : n ≤ p + 1
  · by_cases hn2 : n ≤ p
    · rw [if_pos (.inl (by omega)), if_pos (.inl hn2)]; rfl
    · rw [if_neg (c := n ≤ p ∨ _) (by intro h; rcases h with h | h; exact hn2 h; exact c1 h), if_pos (c := n ≤ p + 1 ∨ _) (.inl hn), if_pos (c := m ≤ p + 1 ∨ _) (.inl (by omega))]
      split <;> rfl
  rw [if_neg (c := n ≤ p ∨ _) (by intro h; rcases h with h | h; omega; exact c1 h), if_neg (c := n ≤ p + 1 ∨ _) (by intro h; rcases h with h | h; omega; exact c2 h)]
  dsimp only
  have b1 := Rx.runLen_le Rx.par x (n - (p + 2)) (p + 2)
  have b2 := Rx.runLen_le Rx.mid x (n - (p + 2 + Rx.runLen Rx.par x (n - (p + 2)) (p + 2))) (p + 2 + Rx.runLen Rx.par x (n - (p + 2)) (p + 2))
  have m1 := runLen_min Rx.par x (m - (p + 2)) (n - (p + 2)) (p + 2) (by omega)
  generalize hR : Rx.runLen Rx.par x (n - (p + 2)) (p + 2) = R at *
  generalize hS : Rx.runLen Rx.mid x (n - (p + 2 + R)) (p + 2 + R) = S at *
  have big : m ≤ p + 2 + R + S → ((if n ≤ p + 2 + R + S ∨ Rx.fin (Rx.ch x (p + 2 + R + S)) = false then none else some (p + 2 + R + S + 1)) : Option Nat).filter (fun e => decide (e ≤ m)) = none := by
    intro hb
    split
    · rfl
    · simp [Option.filter]; omega
  by_cases hm : m ≤ p + 1
  · rw [big (by omega)]
    by_cases hm2 : m ≤ p
    · rw [if_pos (.inl hm2)]
    · rw [if_neg (c := m ≤ p ∨ _) (by intro h; rcases h with h | h; omega; exact c1 h), if_pos (.inl hm)]
  rw [if_neg (c := m ≤ p ∨ _) (by intro h; rcases h with h | h; omega; exact c1 h), if_neg (c := m ≤ p + 1 ∨ _) (by intro h; rcases h with h | h; omega; exact c2 h), m1]
  by_cases hR2 : p + 2 + R ≤ m
  · have e1 : min (m - (p + 2)) R = R := by omega
    have m2 := runLen_min Rx.mid x (m - (p + 2 + R)) (n - (p + 2 + R)) (p + 2 + R) (by omega)
    rw [hS] at m2
    rw [e1, m2]
    by_cases hS2 : p + 2 + R + S < m
    · have e2 : min (m - (p + 2 + R)) S = S := by omega
      rw [e2]
      by_cases hf : Rx.fin (Rx.ch x (p + 2 + R + S)) = false
      · rw [if_pos (.inr hf), if_pos (.inr hf)]; rfl
      · rw [if_neg (by intro h; rcases h with h | h; omega; exact hf h), if_neg (by intro h; rcases h with h | h; omega; exact hf h)]
        simp [Option.filter]; omega
    · rw [big (by omega), if_pos (.inl (by omega))]
  · have e1 : min (m - (p + 2)) R = m - (p + 2) := by omega
    rw [e1, big (by omega), if_pos (.inl (by omega))]
theorem ch_extract {x : Array Nat} {m k : Nat} (h : k < m) : Rx.ch (x.extract 0 m) k = Rx.ch x k := by
  unfold Rx.ch
  rw [Array.getD_eq_getD_getElem?, Array.getD_eq_getD_getElem?, Array.getElem?_extract]
  by_cases hk : k < x.size
  · rw [if_pos (by omega)]; simp
  · rw [if_neg (by omega), Array.getElem?_eq_none (by omega)]
theorem csiEnd_cut {x : Array Nat} {m p : Nat} (h : m ≤ x.size) : Rx.csiEnd (x.extract 0 m) (x.extract 0 m).size p = (Rx.csiEnd x x.size p).filter fun e => decide (e ≤ m) := by
  have e : (x.extract 0 m).size = m := by rw [Array.size_extract]; omega
  rw [e, csiEnd_ext (x := x) fun k hk => ch_extract hk, csiEnd_lim h]
theorem seen_cut {x : Array Nat} {k : Nat} (hk : k < x.size) : ∀ (n p : Nat) (pre post : List Nat), x.size < p + n → seenF x p = pre ++ k :: post → seenF (x.extract 0 (k + 1)) p = pre ++ [k]
  | 0, p, pre, post, h, hs => by rw [seenF_end (by omega)] at hs; cases pre <;> cases hs
  | n + 1, p, pre, post, h, hs => by
    have hsz : (x.extract 0 (k + 1)).size = k + 1 := by rw [Array.size_extract]; omega
    have hpk : p ≤ k := (seenF_mem (by rw [hs]; simp)).1
    cases hc : Rx.csiEnd x x.size p with
    | none =>
      rw [seenF_none (by omega) hc] at hs
      rw [seenF_none (by omega) (by rw [csiEnd_cut (by omega), hc]; rfl)]
      cases pre with
      | nil =>
        obtain ⟨rfl, _⟩ := List.cons.inj hs
        rw [seenF_end (by omega)]; rfl
      | cons a r =>
        rw [List.cons_append] at hs
        injection hs with h5 h6
        rw [seen_cut hk n (p + 1) r post (by omega) h6, h5]; rfl
    | some e =>
      have hg := Rx.csiEnd_gt hc
      rw [seenF_some hc] at hs
      have hek : e ≤ k := (seenF_mem (k := k) (by rw [hs]; simp)).1
      rw [seenF_some (e := e) (by rw [csiEnd_cut (by omega), hc]; simp [Option.filter]; omega)]
      exact seen_cut hk n e pre post (by omega) hs
/-- so many signs are to be seen in the prefix -/
theorem seen_pref {x : Array Nat} {n : Int} : ((seenF (prefA x n) 0).length : Int) = max (min n ((seenF x 0).length : Int)) 0 := by
  unfold prefA
  by_cases h : n ≤ 0 ∨ seenF x 0 = []
  · rw [if_pos h, seenF_end (by simp)]
    rcases h with h | h
    · simp only [List.length_nil]; omega
    · rw [h]; simp only [List.length_nil]; omega
  · rw [if_neg h]
    have hn : ¬ n ≤ 0 := fun q => h (.inl q)
    have hl : 0 < (seenF x 0).length := List.length_pos_iff.mpr fun q => h (.inr q)
    have hj : min n.toNat (seenF x 0).length - 1 < (seenF x 0).length := by omega
    rw [List.getD_eq_getElem?_getD, List.getElem?_eq_getElem hj, Option.getD_some]
    have hs : seenF x 0 = (seenF x 0).take (min n.toNat (seenF x 0).length - 1) ++ (seenF x 0)[min n.toNat (seenF x 0).length - 1] :: (seenF x 0).drop (min n.toNat (seenF x 0).length - 1 + 1) := by
      rw [List.getElem_cons_drop hj, List.take_append_drop]
    rw [seen_cut (seenF_mem (List.getElem_mem hj)).2 (x.size + 1) 0 _ _ (by omega) hs]
    simp only [List.length_append, List.length_take, List.length_singleton]
    omega

theorem fold_chars : ∀ (l : List (Str × Tok)) (cs : List Nat) (a : Array Nat), (l.map fun p => p.1.cps) = cs.map (fun c => #[c]) → (l.map (·.1)).foldl (fun acc p => acc ++ (Str.ofString "").cps ++ p.cps) a = a ++ cs.toArray
  | [], [], a, _ => by simp
  | [], _ :: _, _, h => by cases h
  | _ :: _, [], _, h => by cases h
  | p :: r, c :: cs, a, h => by
    simp only [List.map_cons, List.cons.injEq] at h
    have e : (Str.ofString "").cps = #[] := rfl
    simp only [List.map_cons, List.foldl_cons]
    rw [fold_chars r cs _ h.2, h.1, e]
    apply Array.toList_inj.mp
    simp
/-- single signs, joined -/
theorem join_chars {l : List (Str × Tok)} {cs : List Nat} (h : (l.map fun p => p.1.cps) = cs.map (fun c => #[c])) : Txt.join (Str.ofString "") (l.map (·.1)) = ⟨cs.toArray⟩ := by
  cases l with
  | nil =>
    cases cs with
    | nil => rfl
    | cons c r => cases h
  | cons p r =>
    cases cs with
    | nil => cases h
    | cons c cs =>
      simp only [List.map_cons, List.cons.injEq] at h
      show (⟨(r.map (·.1)).foldl (fun acc p => acc ++ (Str.ofString "").cps ++ p.cps) p.1.cps⟩ : Str) = _
      rw [fold_chars r cs _ h.2, h.1]
      congr 1
      apply Array.toList_inj.mp
      simp
end Mine


example : True := by (w_top off; trivial)

open PySem PySem.W PyProof.Rows
set_option Elab.async false
set_option linter.all false
namespace Mine
set_option maxRecDepth 100000
section
variable {prog : Program} {w : World} {A : Around} {E : Value → Shared → Prop} {s : Shared} {env : Env} {h₀ : Heap} {x : Str} {body : List Stmt} {Q : Flow → Shared → Prop}
/-- the names that a turn leaves as they were -/
def Kept (stored : List Str) (m₀ m' : Str → Option Value) : Prop := ∀ z, stored.contains z = false → m' z = m₀ z
def mixed (stored : List Str) (u m₀ : Str → Option Value) : Str → Option Value := fun z => if stored.contains z then u z else m₀ z
theorem mixed_eq {stored : List Str} {m' m₀ : Str → Option Value} (h : Kept stored m₀ m') : m' = mixed stored m' m₀ := by
  funext z
  unfold mixed
  cases hz : stored.contains z with
  | true => rw [if_pos rfl]
  | false => rw [if_neg (by simp), h z hz]
/-- a for over a range, whose turns keep nothing but what they store -/
theorem for_range {r : Addr} {a₀ b₀ : Int} {t₀ u₀ v₀ : Tok} {n : Nat} {m₀ : Str → Option Value} {news : List (Addr × Obj)} (stored : List Str)
    (hh : A.handled = none) (hr : IsRange s.heap r a₀ b₀ 1 t₀ u₀ v₀) (hsmall : Builtin.Range.small a₀ b₀ 1 = true) (hn : Builtin.Range.rangeSize a₀ b₀ 1 = (n : Int)) (F : Fr h₀ env.locals s.heap m₀) (N : News h₀ env.locals s.heap news)
    (turn : ∀ k t (u : Str → Option Value) h tk own, a₀ ≤ k → k < a₀ + (n : Int) → OwnOff own (news.map (·.1)) → Fr h₀ env.locals h (fun y => if y = x then some (.int k t) else if stored.contains y then u y else m₀ y) → News h₀ env.locals h (news ++ own) →
      wpAny (model prog w) A (execs body env) (InvPostN h₀ env.locals (fun m' nx => nx = news ∧ Kept stored m₀ m') own (news.map (·.1)) { s with heap := h, toks := tk } Q) E { s with heap := h, toks := tk })
    (done : ∀ (u : Str → Option Value) h tk, Fr h₀ env.locals h (fun z => if stored.contains z then u z else m₀ z) → News h₀ env.locals h news → Q .next { s with heap := h, toks := tk }) :
    wpAny (model prog w) A (pyIter (.ref r)) (fun it s₂ => LoopAtV prog w A h₀ env x body Q E it s₂) E s := by
  refine iter_rangeS (σ := Unit) (fun _ m nx => nx = news ∧ Kept stored m₀ m) (fun _ _ => ()) () hh hr hsmall hn F N ⟨rfl, fun _ _ => rfl⟩ ?_ ?_
  · rintro k t _ m₁ nx h tk own hk hoff ⟨rfl, hm⟩ F₁ N₁
    rw [mixed_eq hm] at F₁
    exact turn k t m₁ h tk own (mem_rangeKs hk).1 (mem_rangeKs hk).2 hoff F₁ N₁
  · rintro m₁ nx h tk ⟨rfl, hm⟩ F₁ N₁
    rw [mixed_eq hm] at F₁
    exact done m₁ h tk F₁ N₁
theorem list_rest {I : Addr} {lp : Addr × Obj} {m₀ : Str → Option Value} {news : List (Addr × Obj)} (stored : List Str) (hm : lp ∈ news) {P : Value → Prop}
    (turn : ∀ v (it : Obj) (u : Str → Option Value) h tk, P v → it.cls = .type "list_iterator" → Fr h₀ env.locals h (fun y => if y = x then some v else if stored.contains y then u y else m₀ y) → News h₀ env.locals h ((I, it) :: news) →
      wpAny (model prog w) A (execs body env) (UnrPost h₀ env.locals { s with heap := h, toks := tk } I it (fun m' n' => n' = news ∧ Kept stored m₀ m') Q) E { s with heap := h, toks := tk })
    (done : ∀ (u : Str → Option Value) h tk, Fr h₀ env.locals h (fun z => if stored.contains z then u z else m₀ z) → News h₀ env.locals h news → Q .next { s with heap := h, toks := tk }) :
    ∀ (vs : List Value) (m : Str → Option Value), (∀ v ∈ vs, P v) → Kept stored m₀ m → ListRest prog w A E h₀ env x body Q s I lp vs m news
  | [], m, _, hk => ListRest.zero fun h tk F N => by rw [mixed_eq hk] at F; exact done m h tk F N
  | v :: r, m, hp, hk => ListRest.succ fun it h tk hc F N => by
    rw [mixed_eq hk] at F
    refine wpAny_mono (turn v it m h tk (hp v (.head _)) hc F N) (fun f s₂ q => ?_) fun _ _ e => e
    have go : UnrEnd h₀ env.locals { s with heap := h, toks := tk } I it (fun m' n' => n' = news ∧ Kept stored m₀ m') s₂ → UnrEnd h₀ env.locals { s with heap := h, toks := tk } I it (fun m' n' => lp ∈ n' ∧ ListRest prog w A E h₀ env x body Q s I lp r m' n') s₂ := by
      rintro ⟨h', tk', m', n', e, F', N', ho, rfl, hk'⟩
      exact ⟨h', tk', m', n', e, F', N', ho, hm, list_rest stored hm turn done r m' (fun v hv => hp v (.tail _ hv)) hk'⟩
    cases f with
    | ret v => exact q
    | brk => exact q
    | next => exact go q
    | cont => exact go q
/-- a for over a list just made -/
theorem for_list {ax : Addr} {lo : Obj} {vs : List Value} {n : Nat} {m₀ : Str → Option Value} {news : List (Addr × Obj)} (stored : List Str) {P : Value → Prop}
    (hh : A.handled = none) (F : Fr h₀ env.locals s.heap m₀) (N : News h₀ env.locals s.heap news) (hm : (ax, lo) ∈ news) (hc : lo.cls = .type "list") (hd : lo.data = .seq vs.toArray n) (hp : ∀ v ∈ vs, P v)
    (turn : ∀ I v (it : Obj) (u : Str → Option Value) h tk, (∀ p ∈ news, p.1 < I) → P v → it.cls = .type "list_iterator" → Fr h₀ env.locals h (fun y => if y = x then some v else if stored.contains y then u y else m₀ y) → News h₀ env.locals h ((I, it) :: news) →
      wpAny (model prog w) A (execs body env) (UnrPost h₀ env.locals { s with heap := h, toks := tk } I it (fun m' n' => n' = news ∧ Kept stored m₀ m') Q) E { s with heap := h, toks := tk })
    (done : ∀ (u : Str → Option Value) h tk, Fr h₀ env.locals h (fun z => if stored.contains z then u z else m₀ z) → News h₀ env.locals h news → Q .next { s with heap := h, toks := tk }) :
    wpAny (model prog w) A (pyIter (.ref ax)) (fun it s₂ => LoopAtV prog w A h₀ env x body Q E it s₂) E s :=
  iter_listUnr hh F N hm hc hd fun I hI => list_rest stored hm (turn I · · · · · hI) done vs m₀ hp fun _ _ => rfl
end
end Mine


example : True := by (w_top off; trivial)

open PySem PySem.W PyProof.Rows
set_option Elab.async false
set_option linter.all false
namespace Mine
set_option maxRecDepth 100000
section
variable {prog : Program} {w : World} {A : Around} {E : Value → Shared → Prop} {s : Shared} {h₀ : Heap} {L : Addr} {news : List (Addr × Obj)} {Q : Value → Shared → Prop}
theorem strs_at {l1 l2 : List (Str × Tok)} (e : l1.map (·.1.cps) = l2.map (·.1.cps)) (j : Nat) (h1 : j < (strValues l1).toArray.size) (h2 : j < (strValues l2).toArray.size) : SeqAt.EqAt A s (strValues l1).toArray[j] (strValues l2).toArray[j] true := by
  have g1 : j < l1.length := by simpa [strValues] using h1
  have g2 : j < l2.length := by simpa [strValues] using h2
  have e1 : (strValues l1).toArray[j] = .str l1[j].1 l1[j].2 := by simp [strValues]
  have e2 : (strValues l2).toArray[j] = .str l2[j].1 l2[j].2 := by simp [strValues]
  have e3 : l1[j].1.cps = l2[j].1.cps := by
    have := congrArg (·[j]?) e
    simpa [g1, g2] using this
  have e4 : l1[j].1 = l2[j].1 := by
    generalize l1[j].1 = u at *
    generalize l2[j].1 = v at *
    obtain ⟨u⟩ := u
    obtain ⟨v⟩ := v
    exact congrArg Str.mk e3
  rw [e1, e2, e4]
  have := SeqAt.EqAt.str_str (A := A) (s := s) l2[j].1 l1[j].2 l2[j].1 l2[j].2
  rwa [beq_self_eq_true] at this
theorem all_true (n : Nat) : ((List.range n).all fun _ => true) = true := by simp
theorem strs_eq {a b : Addr} {l1 l2 : List (Str × Tok)} (ha : s.heap.IsList a (strValues l1).toArray) (hb : s.heap.IsList b (strValues l2).toArray) (e : l1.map (·.1.cps) = l2.map (·.1.cps)) (hu : A.units < cLine) : SeqAt.EqAt A s (.ref a) (.ref b) true := by
  by_cases h : a = b
  · subst h; exact SeqAt.EqAt.same _
  · have hl : l1.length = l2.length := by have := congrArg List.length e; simpa using this
    have := SeqAt.RcAt.lists (e := fun _ => true) ha hb (by simp [strValues, hl]) hu (fun j h1 h2 => strs_at e j h1 h2)
    rw [all_true] at this
    exact SeqAt.EqAt.of_refs h this
/-- two pairs of lists of texts -/
theorem pairs_eq {t1 t2 a1 a2 b1 b2 : Addr} {l1 l2 k1 k2 : List (Str × Tok)} {n1 n2 n3 n4 : Nat} (N : News h₀ L s.heap news)
    (m1 : (t1, ({ cls := .type "tuple", data := .seq #[.ref a1, .ref b1] } : Obj)) ∈ news) (m2 : (t2, ({ cls := .type "tuple", data := .seq #[.ref a2, .ref b2] } : Obj)) ∈ news)
    (m3 : (a1, listOf (strValues l1).toArray n1) ∈ news) (m4 : (a2, listOf (strValues l2).toArray n2) ∈ news) (m5 : (b1, listOf (strValues k1).toArray n3) ∈ news) (m6 : (b2, listOf (strValues k2).toArray n4) ∈ news)
    (e1 : l1.map (·.1.cps) = l2.map (·.1.cps)) (e2 : k1.map (·.1.cps) = k2.map (·.1.cps)) (hu : A.units + 8 < cLine) (h : Q (.bool true) s) :
    wpAny (model prog w) A (compareOp .Eq (.ref t1) (.ref t2)) Q E s := by
  have i1 : s.heap.IsTuple t1 #[.ref a1, .ref b1] := N.isTup m1
  have i2 : s.heap.IsTuple t2 #[.ref a2, .ref b2] := N.isTup m2
  refine SeqAt.eq_tupleAt (e := fun _ => true) i1 i2 (by omega) (fun j h1 h2 => ?_) (by rw [all_true]; exact h)
  have hj : j = 0 ∨ j = 1 := by have : j < 2 := h1; omega
  rcases hj with rfl | rfl
  · exact strs_eq (N.isList m3) (N.isList m4) e1 (by show A.units + 1 < cLine; omega)
  · exact strs_eq (N.isList m5) (N.isList m6) e2 (by show A.units + 1 < cLine; omega)
end
end Mine


example : True := by (w_top off; trivial)

open PySem PySem.W PyProof.Rows
set_option Elab.async false
set_option maxRecDepth 100000 in
set_option maxHeartbeats 8000000 in
open_top hd02 for PySem.Challenge.rw_gn5001_02


example : True := by (w_top off; trivial)

open PySem PySem.W PyProof.Rows PySem.Calls
set_option Elab.async false
set_option linter.all false
namespace Mine
set_option maxRecDepth 100000
example : hd02.heap_39 = hd02.heap_39 ∧ PySem.Challenge.rw_gn5001_02 = PySem.Challenge.rw_gn5001_02 := by
  k_fill
  exact ⟨rfl, rfl⟩
abbrev pr2 : Program := PySem.Challenge.rw_gn5001_02.row.prog
theorem the_pat {P : Params} {h₀ h : Heap} {L : Addr} {m : Str → Option Value} (F : Fr h₀ L h m) (X : (hd02.heap_39 P).In h₀) : PatAt h 43 := by
  refine PatAt.keeps ?_ F.keep
  refine ⟨42, 0, _, _, _, _, X 43 _ (by rfl), ?_⟩
  rw [codeVals_eq]
  exact X 42 _ (by rfl)



example : True := by (w_top off; trivial)

open PySem PySem.W PyProof.Rows PySem.Calls
set_option Elab.async false
set_option linter.all false

set_option maxRecDepth 100000
local macro_rules | `(tactic| k_all) => `(tactic| first | assumption | kst_allNe)
local macro_rules | `(tactic| k_ne) => `(tactic| first | assumption | exact Ne.symm (by assumption))
local macro_rules | `(tactic| tb_rel) => `(tactic| first | exact List.forall_mem_nil _ | (refine' List.forall_mem_cons.mpr ⟨?m1, ?m2⟩; (case m1 => k_memK); (case m2 => tb_rel)) | (intro p9 h9; repeat (first | exact h9 | apply List.Mem.tail)))
local macro_rules | `(tactic| ktr_rel) => `(tactic| first | assumption | (refine' cb_drop ?nN ?nS; (case nN => assumption); (case nS => tb_rel)))
local macro_rules | `(tactic| walk_at "call builtin:list.pop") => `(tactic| (k_here; (with_reducible show wpAny _ _ (call (Value.builtin "list.pop") [Value.ref _, Value.int 0 _]) _ _ _); k_dflt (refine' my_pop0 ?k1 ?k2 ?k3 ?z ?_; (case k1 => k_asm); (case k2 => k_asm); (case k3 => k_upd); (case z => (have h9 := IntsAre.length (by assumption)); omega); k_whole); intro h' F' N'))
local macro_rules | `(tactic| walk_at "exec While") => `(tactic| (k_here; refine Stop.out ?_))
local macro_rules | `(tactic| walk_at "KswEnd") => `(tactic| refine Stop.out ?_)
local macro_rules | `(tactic| walk_at "InvEndN") => `(tactic| refine Stop.out ?_)
local macro_rules | `(tactic| walk_at "WPost") => `(tactic| (dsimp only [WPost]))
local macro_rules | `(tactic| walk_at "WExit") => `(tactic| refine Stop.out ?_)
local macro_rules | `(tactic| tb_start) => `(tactic| first | ksw_same | (intro z9 h2 h3; (simp only [List.forall_mem_cons, List.not_mem_nil, false_implies, implies_true, and_true, ne_eq] at h2); (simp only [List.contains_cons, List.contains_nil, Bool.or_false, Bool.or_eq_false_iff, beq_eq_false_iff_ne, ne_eq] at h3); (simp [kstB, h2, h3]; done)))
local macro_rules | `(tactic| walk_at "getMethod ref") => `(tactic| (k_here; (with_reducible show wpAny _ _ (getMethod (Value.ref 43) _ _) _ _ _); k_dflt (first | (refine' gm_match ?k1 ?_; (case k1 => exact the_pat (by k_asm) (by k_asm)); k_whole) | (refine' gm_sub ?k1 ?_; (case k1 => exact the_pat (by k_asm) (by k_asm)); k_whole))))
local macro_rules | `(tactic| walk_at "getMethod ref") => `(tactic| (k_here; (with_reducible show wpAny _ _ (getMethod (Value.ref _) (PySem.Str.ofString "end") _) _ _ _); k_dflt (refine' gm_end ?k1 ?k2 ?_; (case k1 => k_asm); (case k2 => k_memK); k_whole)))
local macro_rules | `(tactic| walk_at "call builtin:re.Match.end") => `(tactic| (k_here; k_dflt (refine' call_end ?k1 ?k2 ?k3 ?_; (case k1 => k_asm); (case k2 => k_memK); (case k3 => k_memK); k_whole)))
local macro_rules | `(tactic| walk_at "call builtin:re.Pattern.match") => `(tactic| (k_here; k_dflt (refine' call_match ?k1 ?k2 ?k3 ?k4 ?k5 ?k6 ?_ ?_; (case k1 => k_asm); (case k2 => k_asm); (case k3 => exact the_pat (by k_asm) (by k_asm)); (case k4 => omega); (case k5 => omega); (case k6 => omega); (all_goals (intros; (try dsimp only))))))
local macro_rules | `(tactic| walk_at "call builtin:re.Pattern.sub") => `(tactic| (k_here; k_dflt (refine' call_sub ?k1 ?k2 ?k3 ?k4 ?k5 ?_; (case k1 => k_asm); (case k2 => k_asm); (case k3 => exact the_pat (by k_asm) (by k_asm)); (case k4 => rfl); (case k5 => omega); (intros; (try dsimp only)))))
local macro_rules | `(tactic| walk_at "call builtin:len") => `(tactic| (k_here; (with_reducible show wpAny _ _ (call (Value.builtin "len") [Value.ref _]) _ _ _); k_dflt (refine' kst_len ?k1 ?k2 ?k3 ?k4 ?_; (case k1 => k_asm); (case k2 => k_memK); (case k3 => first | exact IntsAre.length (by assumption) | exact PyProof.Rows.StrsAre.length (by assumption)); (case k4 => omega); k_whole)))
local macro_rules | `(tactic| walk_at "subscriptTail") => `(tactic| (k_here; (with_reducible show wpAny _ _ (subscriptTail _ _ (Value.ref _) (Value.int _ _)) _ _ _); k_dflt (refine' my_item ?k1 ?k2 ?k3 ?kb ?k4 ?k5 ?k6 ?_; (case k1 => k_asm); (case k2 => k_memK); (case k3 => assumption); (case kb => assumption); (case k4 => omega); (case k5 => omega); (case k6 => omega); (intros; (try dsimp only)))))
local macro_rules | `(tactic| ktr_unf) => `(tactic| (refine' code_defC ?k1 ?k2 ?k3 ?k4 ?k5 ?kA ?kF ?kK ?k6 ?k7 ?k8 ?k9 ?kB ?kD ?_ ?c2 ?c3 ?c4; (case kA => exact rfl); (case kF => exact rfl); (case kK => first | assumption | exact rfl); (case k1 => k_asm); (case k2 => k_asm); (case k3 => k_asm); (case k4 => k_asm); (case k5 => k_asm); (case k6 => k_is); (case k7 => k_is); (case k8 => ktr_room); (case k9 => first | exact BindsTo.of_eq rfl | exact binds_K (by k_in) rfl (by k_is) rfl rfl rfl | fail "k_enter: no rule for these arguments"); (case kB => exact rfl); (case kD => decide +kernel); (case c2 => exact rfl); (case c3 => exact rfl); (case c4 => exact rfl); k_whole; intro g' L' h' tk' cells' FG' F' N' Y' B' X' T' l1; (try k_lt l1); k_cells Y'; (try simp only [List.cons_append, List.nil_append] at N'); (try dsimp only); (try k_lift B'); (try k_fold)))

theorem csi_open_no {x : Str} {i : Int} (h0 : 0 ≤ i) (h : (Txt.slice x (some i) (some (i + 2)) != Str.ofString "\x1b[") = true) : Rx.csiEnd x.cps x.cps.size i.toNat = none := by
  have : ¬ (i.toNat + 1 < x.cps.size ∧ Rx.ch x.cps i.toNat = 27 ∧ Rx.ch x.cps (i.toNat + 1) = 91) := fun q => by
    rw [← opens_iff h0] at q
    rw [q] at h
    simp at h
  unfold Rx.csiEnd
  split
  · rfl
  · split
    · rfl
    · exact absurd (by omega) this
theorem csi_open {x : Str} {i : Int} (h0 : 0 ≤ i) (h : (Txt.slice x (some i) (some (i + 2)) != Str.ofString "\x1b[") = false) : i.toNat + 1 < x.cps.size ∧ Rx.ch x.cps i.toNat = 27 ∧ Rx.ch x.cps (i.toNat + 1) = 91 := by
  rw [← opens_iff h0]
  simpa using h
theorem while_par_stop {x : Str} {f : Nat → Bool} {c : Int} {T : Nat} (h0 : 0 ≤ c) (h1 : c ≤ x.length) (h2 : c.toNat + Rx.runLen f x.cps (x.cps.size - c.toNat) c.toNat = T) (h : ¬ c < x.length ∨ f (Rx.ch x.cps c.toNat) = false) :
    0 ≤ c ∧ c ≤ x.length ∧ c.toNat = T := by
  have : x.length = x.cps.size := rfl
  rw [run_zero (by rcases h with h | h; exact .inl (by omega); exact .inr h)] at h2
  exact ⟨h0, h1, h2⟩
theorem while_par_go {x : Str} {f : Nat → Bool} {c : Int} {T : Nat} (h0 : 0 ≤ c) (h1 : c < x.length) (h2 : c.toNat + Rx.runLen f x.cps (x.cps.size - c.toNat) c.toNat = T) (h : f (Rx.ch x.cps c.toNat) = true) :
    0 ≤ c + 1 ∧ c + 1 ≤ x.length ∧ (c + 1).toNat + Rx.runLen f x.cps (x.cps.size - (c + 1).toNat) (c + 1).toNat = T := by
  have : x.length = x.cps.size := rfl
  rw [run_succ (by omega) h] at h2
  have e : (c + 1).toNat = c.toNat + 1 := by omega
  refine ⟨by omega, by omega, ?_⟩
  rw [e]; omega
theorem csi_val_no {x : Str} {i : Int} {T q : Nat} (hop : i.toNat + 1 < x.cps.size ∧ Rx.ch x.cps i.toNat = 27 ∧ Rx.ch x.cps (i.toNat + 1) = 91) (hT : i.toNat + 2 + Rx.runLen Rx.par x.cps (x.cps.size - (i.toNat + 2)) (i.toNat + 2) = T)
    (hq : q = T + Rx.runLen Rx.mid x.cps (x.cps.size - T) T) (h : x.cps.size ≤ q ∨ Rx.fin (Rx.ch x.cps q) = false) : Rx.csiEnd x.cps x.cps.size i.toNat = none := by
  unfold Rx.csiEnd
  rw [if_neg (by omega), if_neg (by omega)]
  dsimp only
  rw [hT, ← hq, if_pos h]
theorem csi_val_yes {x : Str} {i : Int} {T q : Nat} (hop : i.toNat + 1 < x.cps.size ∧ Rx.ch x.cps i.toNat = 27 ∧ Rx.ch x.cps (i.toNat + 1) = 91) (hT : i.toNat + 2 + Rx.runLen Rx.par x.cps (x.cps.size - (i.toNat + 2)) (i.toNat + 2) = T)
    (hq : q = T + Rx.runLen Rx.mid x.cps (x.cps.size - T) T) (h : q < x.cps.size) (hf : Rx.fin (Rx.ch x.cps q) = true) : Rx.csiEnd x.cps x.cps.size i.toNat = some (q + 1) := by
  unfold Rx.csiEnd
  rw [if_neg (by omega), if_neg (by omega)]
  dsimp only
  rw [hT, ← hq, if_neg (by rw [hf]; simp; omega)]
section
variable {w : World} {p : Program} {loose : List Str} {mean : ExcName → Option Value} {mg mb : Str → Option Value} {dp un : Nat} {gd : Option (List Code)} {cn : Str} {cs : Scope} {a : Addr} {ccd : Value} {cl : List (Str × Addr)} {outer : List Env} {A₀ : Around} {base h₀ : Heap} {L : Addr} {m : Str → Option Value} {s : Shared} {Q E : Value → Shared → Prop} {rest : List (Addr × Obj)}

set_option maxHeartbeats 4000000 in
theorem end_call {x : Str} {tx : Tok} {i : Int} {ti : Tok} (C : Cx (hd02.heap_39 w.params) p loose mean mg mb dp un cs A₀ base outer h₀ L m s.heap 20 200) (N : News h₀ L s.heap rest) (h0 : 0 ≤ i) (hi : i ≤ x.length) (hx : x.length ≤ 1048576)
    (hn : Rx.csiEnd x.cps x.cps.size i.toNat = none → ∀ h' tk', Fr h₀ L h' m → News h₀ L h' rest → Q .none { s with heap := h', toks := tk' })
    (hs : ∀ e t h' tk', Rx.csiEnd x.cps x.cps.size i.toNat = some e → Fr h₀ L h' m → News h₀ L h' rest → Q (.int e t) { s with heap := h', toks := tk' }) :
    wpAny (model pr2 w) (ktrTop dp un gd cn cs L a ccd cl outer) (call (.ref 168) [.str x tx, .int i ti]) Q E s := by
  obtain ⟨B, F, X, T, hk, hdp, hun⟩ := C
  refine wpAny_call ?_
  k_dflt cell_enter
  k_steps
  · refine hn ?_ _ _ (by k_asm) (by ktr_rel)
    exact csi_open_no h0 (by assumption)
  · have hop := csi_open h0 (by assumption)
    refine Stop.of ?_
    rename Fr _ _ _ _ => F1
    rename News _ _ _ _ => N1
    refine my_while (σ := Int × Tok) (fun _ => rest) (fun c => [(Str.ofString "place", .int c.1 c.2)]) [Str.ofString "place"]
      (fun c => 0 ≤ c.1 ∧ c.1 ≤ x.length ∧ c.1.toNat + Rx.runLen Rx.par x.cps (x.cps.size - c.1.toNat) c.1.toNat = i.toNat + 2 + Rx.runLen Rx.par x.cps (x.cps.size - (i.toNat + 2)) (i.toNat + 2))
      (fun c => x.cps.size - c.1.toNat) (fun c => 0 ≤ c.1 ∧ c.1 ≤ x.length ∧ c.1.toNat = i.toNat + 2 + Rx.runLen Rx.par x.cps (x.cps.size - (i.toNat + 2)) (i.toNat + 2)) (i + 2, _) F1 N1 (by kst_all) ?_ ?_ ?_
    · have hop1 := hop.1
      have e2 : (i + 2).toNat = i.toNat + 2 := by omega
      have : x.length = x.cps.size := rfl
      exact ⟨by omega, by show i + 2 ≤ _; omega, by show (i + 2).toNat + _ = _; rw [e2]⟩
    · clear F1 N1
      intro c u h tk1 hP F2 N2
      obtain ⟨hp0, hp1, hp2⟩ := hP
      k_steps
      all_goals first
        | exact Stop.of (wexit c (by k_asm) N2 (by tb_rel) (by kst_all) (by tb_start) (while_par_stop hp0 hp1 hp2 (by first | exact .inl (by omega) | exact .inr (par_no1 (by omega) (by omega) (by assumption)) | exact .inr (par_no2 (by omega) (by omega) (by assumption)))))
        | exact Stop.of (ksw_end (c.1 + 1, _) (by k_asm) (by ktr_rel) (by tb_rel) trivial (by kst_all) (by tb_start) (while_par_go hp0 (by omega) hp2 (par_yes (by omega) (by omega) (by assumption) (by assumption))) (by show x.cps.size - (c.1 + 1).toNat < x.cps.size - c.1.toNat; have : x.length = x.cps.size := rfl; omega))
    · clear F1 N1
      intro c u h tk1 hP F2 N2
      obtain ⟨hq0, hq1, hq2⟩ := hP
      k_steps
      refine Stop.of ?_
      rename Fr _ _ _ _ => F1
      rename News _ _ _ _ => N1
      generalize hT : i.toNat + 2 + Rx.runLen Rx.par x.cps (x.cps.size - (i.toNat + 2)) (i.toNat + 2) = T at hq2
      refine my_while (σ := Int × Tok) (fun _ => rest) (fun c => [(Str.ofString "place", .int c.1 c.2)]) [Str.ofString "place"]
        (fun c => 0 ≤ c.1 ∧ c.1 ≤ x.length ∧ c.1.toNat + Rx.runLen Rx.mid x.cps (x.cps.size - c.1.toNat) c.1.toNat = T + Rx.runLen Rx.mid x.cps (x.cps.size - T) T)
        (fun c => x.cps.size - c.1.toNat) (fun c => 0 ≤ c.1 ∧ c.1 ≤ x.length ∧ c.1.toNat = T + Rx.runLen Rx.mid x.cps (x.cps.size - T) T) (c.1, _) F1 N1 (by kst_all) ?_ ?_ ?_
      · exact ⟨hq0, hq1, by show c.1.toNat + _ = _; rw [hq2]⟩
      · clear F1 N1
        intro c u h tk1 hP F2 N2
        obtain ⟨hp0, hp1, hp2⟩ := hP
        k_steps
        all_goals first
          | exact Stop.of (wexit c (by k_asm) N2 (by tb_rel) (by kst_all) (by tb_start) (while_par_stop hp0 hp1 hp2 (by first | exact .inl (by omega) | exact .inr (mid_no1 (by omega) (by omega) (by assumption)) | exact .inr (mid_no2 (by omega) (by omega) (by assumption)))))
          | exact Stop.of (ksw_end (c.1 + 1, _) (by k_asm) (by ktr_rel) (by tb_rel) trivial (by kst_all) (by tb_start) (while_par_go hp0 (by omega) hp2 (mid_yes (by omega) (by omega) (by assumption) (by assumption))) (by show x.cps.size - (c.1 + 1).toNat < x.cps.size - c.1.toNat; have : x.length = x.cps.size := rfl; omega))
      · clear F1 N1
        intro c u h tk1 hP F2 N2
        obtain ⟨hp0, hp1, hp2⟩ := hP
        k_steps
        all_goals first
          | exact hn (csi_val_no hop hT hp2 (by first | exact .inl (by have : x.length = x.cps.size := rfl; omega) | exact .inr (fin_no1 (by omega) (by omega) (by assumption)) | exact .inr (fin_no2 (by omega) (by omega) (by assumption)))) _ _ (by k_asm) (by ktr_rel)
          | (have e9 : c.fst + 1 = ((c.1.toNat + 1 : Nat) : Int) := by omega
             rw [e9]
             exact hs _ _ _ _ (csi_val_yes hop hT hp2 (by have : x.length = x.cps.size := rfl; omega) (fin_yes (by omega) (by omega) (by assumption) (by assumption))) (by k_asm) (by ktr_rel))

set_option maxHeartbeats 4000000 in
theorem take_call {d b : Addr} {d0 : Int} {t0 : Tok} {n0 n1 : Nat} {vs : List Value} {ns : List Int} {many : Int} {tm : Tok} (C : Cx (hd02.heap_39 w.params) p loose mean mg mb dp un cs A₀ base outer h₀ L m s.heap 20 200)
    (N : News h₀ L s.heap ((d, listOf #[.int d0 t0, .ref b] n0) :: (b, listOf vs.toArray n1) :: rest)) (hne : d ≠ b) (hd : Off d rest) (hb : Off b rest) (hi : IntsAre vs ns) (hsz : ns.length < 100) (hm : 0 < many) (hmt : many < 1000)
    (hret : ∀ t t0' vs' n1' h' tk', IntsAre vs' (popD d0 ns).2 → Fr h₀ L h' m → News h₀ L h' ((d, listOf #[.int (Int.fdiv (popD d0 ns).1 many) t0', .ref b] n0) :: (b, listOf vs'.toArray n1') :: rest) → Q (.int (Int.fmod (popD d0 ns).1 many) t) { s with heap := h', toks := tk' }) :
    wpAny (model pr2 w) (ktrTop dp un gd cn cs L a ccd cl outer) (call (.ref 161) [.ref d, .int many tm]) Q E s := by
  obtain ⟨B, F, X, T, hk, hdp, hun⟩ := C
  cases hi with
  | nil =>
    refine wpAny_call ?_
    k_dflt cell_enter
    k_steps
    all_goals (simp only [popD] at hret; exact hret _ _ [] _ _ _ .nil (by k_asm) (by ktr_rel))
  | cons x t r =>
    rename_i vs' ns'
    have hlen : ns'.length + 1 < 100 := hsz
    by_cases h0 : d0 = 0
    · subst h0
      simp only [popD, if_true] at hret
      refine wpAny_call ?_
      k_dflt cell_enter
      k_steps
      all_goals (first | exact hret _ _ _ _ _ _ r (by k_asm) (by ktr_rel) | (exfalso; simp_all; done))
    · simp only [popD, h0, if_false] at hret
      refine wpAny_call ?_
      k_dflt cell_enter
      k_steps
      all_goals (first | exact hret _ _ _ _ _ _ (.cons x t r) (by k_asm) (by ktr_rel) | (exfalso; simp_all; done))
end



example : True := by (w_top off; trivial)

open PySem PySem.W PyProof.Rows PySem.Calls
set_option Elab.async false
set_option linter.all false

set_option maxRecDepth 100000
section
variable {w : World} {p : Program} {loose : List Str} {mean : ExcName → Option Value} {mg mb : Str → Option Value} {dp un : Nat} {gd : Option (List Code)} {cn : Str} {cs : Scope} {a : Addr} {ccd : Value} {cl : List (Str × Addr)} {outer : List Env} {A₀ : Around} {base h₀ : Heap} {L : Addr} {m : Str → Option Value} {s : Shared} {Q E : Value → Shared → Prop} {rest : List (Addr × Obj)}

theorem take_any {d b : Addr} {d0 : Int} {t0 : Tok} {n0 n1 : Nat} {vs : List Value} {ns : List Int} {many : Int} {tm : Tok} {g1 : Obj → List (Addr × Obj)} {g2 : Obj → Obj → List (Addr × Obj)} (C : Cx (hd02.heap_39 w.params) p loose mean mg mb dp un cs A₀ base outer h₀ L m s.heap 20 200)
    (N : News h₀ L s.heap rest) (U1 : UpdF d (listOf #[.int d0 t0, .ref b] n0) rest g1) (U2 : ∀ o, UpdF b (listOf vs.toArray n1) (g1 o) (g2 o)) (hne : d ≠ b) (hi : IntsAre vs ns) (hsz : ns.length < 100) (hm : 0 < many) (hmt : many < 1000)
    (hret : ∀ v t d0' t0' vs' ns' n1' h' tk', 0 ≤ v → v < many → IntsAre vs' ns' → ns'.length < 100 → Fr h₀ L h' m → News h₀ L h' (g2 (listOf #[.int d0' t0', .ref b] n0) (listOf vs'.toArray n1')) → Q (.int v t) { s with heap := h', toks := tk' }) :
    wpAny (model pr2 w) (ktrTop dp un gd cn cs L a ccd cl outer) (call (.ref 161) [.ref d, .int many tm]) Q E s := by
  refine take_call C (two_in N U1 U2) hne others_off1 others_off2 hi hsz hm hmt fun t t0' vs' n1' h' tk' hi' F' N' => ?_
  refine hret _ t _ t0' vs' _ n1' h' tk' (Int.fmod_nonneg_of_pos _ hm) (Int.fmod_lt_of_pos _ hm) hi' ?_ F' (two_out U1 U2 N')
  exact popD_len hsz
end



example : True := by (w_top off; trivial)

open PySem PySem.W PyProof.Rows PySem.Calls
set_option Elab.async false
set_option linter.all false

set_option maxRecDepth 100000
local macro_rules | `(tactic| walk_at "call builtin:re.Pattern.match") => `(tactic| (k_here; k_dflt (refine' call_match ?k1 ?k2 ?k3 ?k4 ?k5 ?k6 ?ka ?kb; (case k1 => k_asm); (case k2 => k_asm); (case k3 => exact the_pat (by k_asm) (by k_asm)); (case k4 => omega); (case k5 => omega); (case k6 => omega); (case' ka => (intro hc9; (try dsimp only))); (case' kb => (intro e9 a9 t9 h9 hc9 lt9 hl9 F9 N9; (try dsimp only))))))
local macro_rules | `(tactic| walk_at "call builtin:re.Pattern.sub") => `(tactic| (k_here; k_dflt (refine' call_sub ?k1 ?k2 ?k3 ?k4 ?k5 ?ka; (case k1 => k_asm); (case k2 => k_asm); (case k3 => exact the_pat (by k_asm) (by k_asm)); (case k4 => rfl); (case k5 => omega); (case' ka => (intro h9 t9 tk9 F9 N9; (try dsimp only))))))
local macro_rules | `(tactic| walk_at "call ref") => `(tactic| (k_here; (with_reducible show wpAny _ _ (call (Value.ref 168) _) _ _ _); k_dflt (refine' end_call  ⟨?kB, ?kF, ?kX, ?kT, ?kK, ?kd, ?ku⟩ ?kN ?k0 ?ki ?kx ?kn ?ks; (case kB => k_asm); (case kF => k_asm); (case kX => k_asm); (case kT => k_asm); (case kK => first | exact rfl | assumption); (case kd => ktr_room); (case ku => ktr_units); (case kN => k_asm); (case k0 => omega); (case ki => omega); (case kx => (first | assumption | omega)); (case' kn => (intro hc9 h9 tk9 F9 N9; (try dsimp only))); (case' ks => (intro e9 t9 h9 tk9 hc9 F9 N9; (try dsimp only))))))
section
variable {w : World} {p : Program} {loose : List Str} {mean : ExcName → Option Value} {mg mb : Str → Option Value} {dp un : Nat} {gd : Option (List Code)} {cn : Str} {cs : Scope} {a : Addr} {ccd : Value} {cl : List (Str × Addr)} {outer : List Env} {A₀ : Around} {base h₀ : Heap} {L : Addr} {m : Str → Option Value} {s : Shared} {Q E : Value → Shared → Prop} {rest : List (Addr × Obj)}

set_option maxHeartbeats 4000000 in
theorem seen_call {x : Str} {tx : Tok} (C : Cx (hd02.heap_39 w.params) p loose mean mg mb dp un cs A₀ base outer h₀ L m s.heap 30 300) (N : News h₀ L s.heap rest) (hx : x.length ≤ 1048576)
    (hret : ∀ l vs n h' tk', IntsAre vs (seenI x.cps 0) → (seenI x.cps 0).length ≤ x.length → (∀ p ∈ rest, p.1 < l) → Fr h₀ L h' m → News h₀ L h' ((l, listOf vs.toArray n) :: rest) → Q (.ref l) { s with heap := h', toks := tk' }) :
    wpAny (model pr2 w) (ktrTop dp un gd cn cs L a ccd cl outer) (call (.ref 175) [.str x tx]) Q E s := by
  obtain ⟨B, F, X, T, hk, hdp, hun⟩ := C
  have hxs : x.length = x.cps.size := rfl
  refine wpAny_call ?_
  k_dflt cell_enter
  k_steps
  refine Stop.of ?_
  rename Fr _ _ _ _ => F1
  rename News _ _ _ _ => N1
  refine my_while (σ := List Value × Nat × List Int × Int × Tok) (fun c => (_, listOf c.1.toArray c.2.1) :: rest) (fun c => [(Str.ofString "at", .int c.2.2.2.1 c.2.2.2.2)]) [Str.ofString "at", Str.ofString "end"]
      (fun c => IntsAre c.1 c.2.2.1 ∧ 0 ≤ c.2.2.2.1 ∧ c.2.2.2.1 ≤ x.length ∧ c.2.2.1.length ≤ c.2.2.2.1.toNat ∧ c.2.2.1 ++ seenI x.cps c.2.2.2.1.toNat = seenI x.cps 0)
      (fun c => x.cps.size - c.2.2.2.1.toNat) (fun c => IntsAre c.1 (seenI x.cps 0)) ([], 0, [], 0, _) F1 (by ktr_rel) (by kst_all) ?_ ?_ ?_
  · refine ⟨.nil, ?_, ?_, ?_, ?_⟩ <;> simp
  · clear F1 N1
    rintro ⟨vs, n, acc, at_, tt⟩ u h tk1 ⟨hp0, hp1, hp2, hp3, hp4⟩ F2 N2
    dsimp only at hp0 hp1 hp2 hp3 hp4 F2 N2
    k_steps
    all_goals (rename News _ _ _ _ => N9; (try simp only [List.push_toArray] at N9))
    all_goals first
      | exact Stop.of (wexit (vs, n, acc, at_, tt) (by k_asm) N9 (by tb_rel) (by kst_all) (by tb_start) (by
          show IntsAre vs _
          rw [← hp4, seenI_end (by omega), List.append_nil]; exact hp0))
      | (have hc9 : Rx.csiEnd x.cps x.cps.size at_.toNat = none := by assumption
         have e9 : (at_ + 1).toNat = at_.toNat + 1 := by omega
         refine Stop.of (ksw_end (vs ++ [.int at_ tt], n + 1, acc ++ [at_], at_ + 1, _) (by k_asm) N9 (by tb_rel) trivial (by kst_all) (by tb_start) ⟨IntsAre.append hp0 (.cons _ _ .nil), by show 0 ≤ at_ + 1; omega, by show at_ + 1 ≤ _; omega, by show (acc ++ [at_]).length ≤ (at_ + 1).toNat; simp; omega, ?_⟩ (by show x.cps.size - (at_ + 1).toNat < x.cps.size - at_.toNat; omega))
         show (acc ++ [at_]) ++ seenI x.cps (at_ + 1).toNat = _
         rw [← hp4, seenI_none (by omega) hc9, e9, List.append_assoc]
         rw [show ((at_.toNat : Nat) : Int) = at_ by omega]; rfl)
      | (rename (Rx.csiEnd _ _ _ = some _) => hc9
         have hg9 := Rx.csiEnd_gt hc9
         refine Stop.of (ksw_end (vs, n, acc, ((_ : Nat) : Int), _) (by k_asm) N9 (by tb_rel) trivial (by kst_all) (by tb_start) ⟨hp0, ?_, ?_, ?_, ?_⟩ ?_)
         · dsimp only; omega
         · dsimp only; omega
         · dsimp only; omega
         · dsimp only; rw [← hp4, seenI_some hc9, Int.toNat_natCast]
         · dsimp only; omega)
  · clear F1 N1
    rintro ⟨vs, n, acc, at_, tt⟩ u h tk1 hP F2 N2
    k_steps
    all_goals exact hret _ vs n _ _ hP seenI_len (by assumption) (by k_asm) (by ktr_rel)
end



example : True := by (w_top off; trivial)

open PySem PySem.W PyProof.Rows PySem.Calls
set_option Elab.async false
set_option linter.all false

set_option maxRecDepth 100000
section
variable {w : World} {p : Program} {loose : List Str} {mean : ExcName → Option Value} {mg mb : Str → Option Value} {dp un : Nat} {gd : Option (List Code)} {cn : Str} {cs : Scope} {a : Addr} {ccd : Value} {cl : List (Str × Addr)} {outer : List Env} {A₀ : Around} {base h₀ : Heap} {L : Addr} {m : Str → Option Value} {s : Shared} {Q E : Value → Shared → Prop} {rest : List (Addr × Obj)}

set_option maxHeartbeats 4000000 in
theorem match_call {x : Str} {tx : Tok} {i : Int} {ti : Tok} (C : Cx (hd02.heap_39 w.params) p loose mean mg mb dp un cs A₀ base outer h₀ L m s.heap 20 200) (N : News h₀ L s.heap rest) (h0 : 0 ≤ i) (hi : i ≤ x.length) (hx : x.length ≤ 1048576)
    (hn : Rx.csiEnd x.cps x.cps.size i.toNat = none → ∀ h' tk', Fr h₀ L h' m → News h₀ L h' rest → Q .none { s with heap := h', toks := tk' })
    (hs : ∀ e a T h' tk', Rx.csiEnd x.cps x.cps.size i.toNat = some e → T < a → (∀ p ∈ rest, p.1 < T) → Fr h₀ L h' m → News h₀ L h' ((a, matchObj x tx 43 i T) :: (T, spanObj i e) :: rest) → Q (.ref a) { s with heap := h', toks := tk' }) :
    wpAny (model pr2 w) (ktrTop dp un gd cn cs L a ccd cl outer) (call (.ref 100) [.str x tx, .int i ti]) Q E s := by
  obtain ⟨B, F, X, T, hk, hdp, hun⟩ := C
  refine wpAny_call ?_
  k_dflt cell_enter
  k_steps
  all_goals first
    | exact hn (by assumption) _ _ (by k_asm) (by ktr_rel)
    | exact hs _ _ _ _ _ (by assumption) (by assumption) (by assumption) (by k_asm) (by ktr_rel)

set_option maxHeartbeats 4000000 in
theorem strip_call {x : Str} {tx : Tok} (C : Cx (hd02.heap_39 w.params) p loose mean mg mb dp un cs A₀ base outer h₀ L m s.heap 20 200) (N : News h₀ L s.heap rest) (hx : x.length ≤ 1048576)
    (hret : ∀ t h' tk', Fr h₀ L h' m → News h₀ L h' rest → Q (.str ⟨bare x.cps⟩ t) { s with heap := h', toks := tk' }) :
    wpAny (model pr2 w) (ktrTop dp un gd cn cs L a ccd cl outer) (call (.ref 93) [.str x tx]) Q E s := by
  obtain ⟨B, F, X, T, hk, hdp, hun⟩ := C
  refine wpAny_call ?_
  k_dflt cell_enter
  k_steps
  all_goals first
    | (rw [strip_seen0]; exact hret _ _ _ (by k_asm) (by ktr_rel))
end



example : True := by (w_top off; trivial)

open PySem PySem.W PyProof.Rows PySem.Calls
set_option Elab.async false
set_option linter.all false

set_option maxRecDepth 100000
local macro_rules | `(tactic| walk_at "call ref") => `(tactic| (k_here; (with_reducible show wpAny _ _ (call (Value.ref 93) _) _ _ _); k_dflt (refine' strip_call  ⟨?kB, ?kF, ?kX, ?kT, ?kK, ?kd, ?ku⟩ ?kN ?kx ?kr; (case kB => k_asm); (case kF => k_asm); (case kX => k_asm); (case kT => k_asm); (case kK => first | exact rfl | assumption); (case kd => ktr_room); (case ku => ktr_units); (case kN => k_asm); (case kx => omega); (case' kr => (intro t9 h9 tk9 F9 N9; (try dsimp only))))))
section
variable {w : World} {p : Program} {loose : List Str} {mean : ExcName → Option Value} {mg mb : Str → Option Value} {dp un : Nat} {gd : Option (List Code)} {cn : Str} {cs : Scope} {a : Addr} {ccd : Value} {cl : List (Str × Addr)} {outer : List Env} {A₀ : Around} {base h₀ : Heap} {L : Addr} {m : Str → Option Value} {s : Shared} {Q E : Value → Shared → Prop} {rest : List (Addr × Obj)}

set_option maxHeartbeats 4000000 in
theorem term_call {x : Str} {tx : Tok} (C : Cx (hd02.heap_39 w.params) p loose mean mg mb dp un cs A₀ base outer h₀ L m s.heap 30 300) (N : News h₀ L s.heap rest) (hx : x.length ≤ 1048576)
    (hret : ∀ t h' tk', Fr h₀ L h' m → News h₀ L h' rest → Q (.int ((seenF x.cps 0).length : Int) t) { s with heap := h', toks := tk' }) :
    wpAny (model pr2 w) (ktrTop dp un gd cn cs L a ccd cl outer) (call (.ref 107) [.str x tx]) Q E s := by
  obtain ⟨B, F, X, T, hk, hdp, hun⟩ := C
  have hb : (⟨bare x.cps⟩ : Str).length ≤ 1048576 := by
    show (bare x.cps).size ≤ _
    rw [bare_size]
    have := seenF_len (x := x.cps) (p := 0)
    have : x.length = x.cps.size := rfl
    omega
  refine wpAny_call ?_
  k_dflt cell_enter
  k_steps
  all_goals first
    | (have e9 : (⟨bare x.cps⟩ : Str).length = (seenF x.cps 0).length := bare_size _
       rw [e9]
       exact hret _ _ _ (by k_asm) (by ktr_rel))
end



example : True := by (w_top off; trivial)

open PySem PySem.W PyProof.Rows PySem.Calls
set_option Elab.async false
set_option linter.all false

set_option maxRecDepth 100000
local macro_rules | `(tactic| walk_at "call ref") => `(tactic| (k_here; (with_reducible show wpAny _ _ (call (Value.ref 175) _) _ _ _); k_dflt (refine' seen_call  ⟨?kB, ?kF, ?kX, ?kT, ?kK, ?kd, ?ku⟩ ?kN ?kx ?_; (case kB => k_asm); (case kF => k_asm); (case kX => k_asm); (case kT => k_asm); (case kK => first | exact rfl | assumption); (case kd => ktr_room); (case ku => ktr_units); (case kN => k_asm); (case kx => omega); (all_goals (intros; (try dsimp only))))))
section
variable {w : World} {p : Program} {loose : List Str} {mean : ExcName → Option Value} {mg mb : Str → Option Value} {dp un : Nat} {gd : Option (List Code)} {cn : Str} {cs : Scope} {a : Addr} {ccd : Value} {cl : List (Str × Addr)} {outer : List Env} {A₀ : Around} {base h₀ : Heap} {L : Addr} {m : Str → Option Value} {s : Shared} {Q E : Value → Shared → Prop} {rest : List (Addr × Obj)}

set_option maxHeartbeats 4000000 in
theorem prefix_call {x : Str} {tx : Tok} {many : Int} {tm : Tok} (C : Cx (hd02.heap_39 w.params) p loose mean mg mb dp un cs A₀ base outer h₀ L m s.heap 40 400) (N : News h₀ L s.heap rest) (hx : x.length ≤ 1048576)
    (hret : ∀ y t h' tk', y.cps = prefA x.cps many → Fr h₀ L h' m → News h₀ L h' rest → Q (.str y t) { s with heap := h', toks := tk' }) :
    wpAny (model pr2 w) (ktrTop dp un gd cn cs L a ccd cl outer) (call (.ref 182) [.str x tx, .int many tm]) Q E s := by
  obtain ⟨B, F, X, T, hk, hdp, hun⟩ := C
  have hb : ∀ n ∈ seenI x.cps 0, 0 ≤ n ∧ n ≤ (x.length : Int) := seenI_in
  by_cases he : seenI x.cps 0 = []
  · have hp : prefA x.cps many = #[] := by unfold prefA; rw [if_pos (.inr (by simpa [seenI] using he))]
    refine wpAny_call ?_
    k_dflt cell_enter
    k_steps
    all_goals first
      | exact hret _ _ _ _ (by rw [hp]; rfl) (by k_asm) (by ktr_rel)
      | (exfalso; simp_all; done)
  · have hl : 1 ≤ (seenI x.cps 0).length := by
      cases h : seenI x.cps 0 with
      | nil => exact absurd h he
      | cons _ _ => simp
    have he' : ¬ seenF x.cps 0 = [] := by simpa [seenI] using he
    refine wpAny_call ?_
    k_dflt cell_enter
    k_steps
    all_goals first
      | (have hp : prefA x.cps many = #[] := by (unfold prefA; rw [if_pos (.inl (by omega))])
         exact hret _ _ _ _ (by rw [hp]; rfl) (by k_asm) (by ktr_rel))
      | exact hret _ _ _ _ (pref_eq (by omega) he') (by k_asm) (by ktr_rel)
      | (exfalso; simp_all; done)
end



example : True := by (w_top off; trivial)

open PySem PySem.W PyProof.Rows PySem.Calls
set_option Elab.async false
set_option linter.all false

set_option maxRecDepth 100000
local macro_rules | `(tactic| walk_at "call ref") => `(tactic| (k_here; (with_reducible show wpAny _ _ (call (Value.ref 100) _) _ _ _); k_dflt (refine' match_call  ⟨?kB, ?kF, ?kX, ?kT, ?kK, ?kd, ?ku⟩ ?kN ?k0 ?ki ?kx ?_ ?_; (case kB => k_asm); (case kF => k_asm); (case kX => k_asm); (case kT => k_asm); (case kK => first | exact rfl | assumption); (case kd => ktr_room); (case ku => ktr_units); (case kN => k_asm); (case k0 => omega); (case ki => omega); (case kx => omega); (all_goals (intros; (try dsimp only))))))
section
variable {w : World} {p : Program} {loose : List Str} {mean : ExcName → Option Value} {mg mb : Str → Option Value} {dp un : Nat} {gd : Option (List Code)} {cn : Str} {cs : Scope} {a : Addr} {ccd : Value} {cl : List (Str × Addr)} {outer : List Env} {A₀ : Around} {base h₀ : Heap} {L : Addr} {m : Str → Option Value} {s : Shared} {Q E : Value → Shared → Prop} {rest : List (Addr × Obj)}

set_option maxHeartbeats 4000000 in
theorem trunc_call {x : Str} {tx : Tok} {n : Int} {tn : Tok} (C : Cx (hd02.heap_39 w.params) p loose mean mg mb dp un cs A₀ base outer h₀ L m s.heap 40 400) (N : News h₀ L s.heap rest) (hx : x.length ≤ 1048576)
    (hret : ∀ y t h' tk', y.cps = prefA x.cps n → Fr h₀ L h' m → News h₀ L h' rest → Q (.str y t) { s with heap := h', toks := tk' }) :
    wpAny (model pr2 w) (ktrTop dp un gd cn cs L a ccd cl outer) (call (.ref 114) [.str x tx, .int n tn]) Q E s := by
  obtain ⟨B, F, X, T, hk, hdp, hun⟩ := C
  have hxs : x.length = x.cps.size := rfl
  refine wpAny_call ?_
  k_dflt cell_enter
  k_steps
  · have hp : prefA x.cps n = #[] := by unfold prefA; rw [if_pos (.inl (by omega))]
    exact hret _ _ _ _ (by rw [hp]; rfl) (by k_asm) (by ktr_rel)
  · refine Stop.of ?_
    rename Fr _ _ _ _ => F1
    rename News _ _ _ _ => N1
    refine my_while (σ := (Int × Tok) × (Int × Tok) × (Int × Tok)) (fun _ => rest) (fun c => [(Str.ofString "visible", .int c.1.1 c.1.2), (Str.ofString "i", .int c.2.1.1 c.2.1.2), (Str.ofString "cut", .int c.2.2.1 c.2.2.2)])
      [Str.ofString "visible", Str.ofString "i", Str.ofString "cut", Str.ofString "m"]
      (fun c => 0 ≤ c.2.1.1 ∧ c.2.1.1 ≤ x.length ∧ 0 ≤ c.1.1 ∧ c.1.1 < n ∧ c.1.1 ≤ (seenF x.cps 0).length ∧ (seenF x.cps 0).drop c.1.1.toNat = seenF x.cps c.2.1.1.toNat ∧ c.2.2.1 = (cutOf x.cps c.1.1.toNat : Nat))
      (fun c => x.cps.size - c.2.1.1.toNat) (fun c => c.2.2.1 = (cutOf x.cps (min n.toNat (seenF x.cps 0).length) : Nat)) ((0, _), (0, _), (0, _)) F1 (by ktr_rel) (by kst_all) ?_ ?_ ?_
    · refine ⟨?_, ?_, ?_, ?_, ?_, ?_, ?_⟩ <;> first | (dsimp only; omega) | rfl | simp [cutOf]
    · clear F1 N1
      rintro ⟨⟨v, tv⟩, ⟨i, ti⟩, ⟨c, tc⟩⟩ u h tk1 ⟨hp0, hp1, hp2, hp3, hp4, hp5, hp6⟩ F2 N2
      dsimp only at hp0 hp1 hp2 hp3 hp4 hp5 hp6 F2 N2
      k_steps
      all_goals first
        | exact Stop.of (wexit ((v, tv), (i, ti), (c, tc)) (by k_asm) N2 (by tb_rel) (by kst_all) (by tb_start) (trunc_end hp0 (by omega) hp2 hp3 hp4 hp5 hp6))
        | (have hc9 : Rx.csiEnd x.cps x.cps.size i.toNat = none := by assumption
           obtain ⟨q1, q2, q3⟩ := trunc_none (n := n) (c := c) hp0 (by omega) hp2 hp5 hc9
           first
           | exact Stop.of (wexit ((v + 1, _), (i + 1, _), (i + 1, _)) (by k_asm) (by ktr_rel) (by tb_rel) (by kst_all) (by tb_start) (by show i + 1 = _; rw [q3]; congr 2; omega))
           | exact Stop.of (ksw_end ((v + 1, _), (i + 1, _), (i + 1, _)) (by k_asm) (by ktr_rel) (by tb_rel) trivial (by kst_all) (by tb_start) ⟨by show 0 ≤ i + 1; omega, by show i + 1 ≤ _; omega, by show 0 ≤ v + 1; omega, by show v + 1 < n; omega, q1, q2, q3⟩ (by show x.cps.size - (i + 1).toNat < x.cps.size - i.toNat; omega)))
        | (rename (Rx.csiEnd _ _ _ = some _) => hc9
           have hg9 := Rx.csiEnd_gt hc9
           refine Stop.of (ksw_end ((v, tv), (((_ : Nat) : Int), _), (c, tc)) (by k_asm) (by ktr_rel) (by tb_rel) trivial (by kst_all) (by tb_start) ⟨?_, ?_, hp2, hp3, hp4, ?_, hp6⟩ ?_)
           · dsimp only; omega
           · dsimp only; omega
           · dsimp only; rw [hp5, seenF_some hc9, Int.toNat_natCast]
           · dsimp only; omega)
    · clear F1 N1
      rintro ⟨⟨v, tv⟩, ⟨i, ti⟩, ⟨c, tc⟩⟩ u h tk1 hz F2 N2
      dsimp only at hz F2 N2
      have hle := cut_le (x := x.cps) (v := min n.toNat (seenF x.cps 0).length) (by omega)
      k_steps
      all_goals first
        | exact hret _ _ _ _ (by rw [slice_to (by omega), hz, Int.toNat_natCast, cut_pref (by omega)]) (by k_asm) (by ktr_rel)
end



example : True := by (w_top off; trivial)

open PySem PySem.W PyProof.Rows PySem.Calls
set_option Elab.async false
set_option linter.all false

set_option maxRecDepth 100000
local macro_rules | `(tactic| walk_at "call ref") => `(tactic| (k_here; (with_reducible show wpAny _ _ (call (Value.ref 161) _) _ _ _); k_dflt (refine' take_any ⟨?kB, ?kF, ?kX, ?kT, ?kK, ?kd, ?ku⟩ ?kN ?u1 ?u2 ?u3 ?ki ?kz ?k0 ?k9 ?_; (case kB => k_asm); (case kF => k_asm); (case kX => k_asm); (case kT => k_asm); (case kK => first | exact rfl | assumption); (case kd => ktr_room); (case ku => ktr_units); (case kN => k_asm); (case u1 => k_updF); (case u2 => (intro o9; k_updF)); (case u3 => k_ne); (case ki => assumption); (case kz => assumption); (case k0 => decide); (case k9 => decide); (intros; (try dsimp only)))))
local macro_rules | `(tactic| walk_at "CompSrc") => `(tactic| refine Stop.out ?_)
local macro_rules | `(tactic| walk_at "CompEnd") => `(tactic| refine Stop.out ?_)
section
variable {w : World} {p : Program} {loose : List Str} {mean : ExcName → Option Value} {mg mb : Str → Option Value} {dp un : Nat} {gd : Option (List Code)} {cn : Str} {cs : Scope} {a : Addr} {ccd : Value} {cl : List (Str × Addr)} {outer : List Env} {A₀ : Around} {base h₀ : Heap} {L : Addr} {m : Str → Option Value} {s : Shared} {Q E : Value → Shared → Prop} {rest : List (Addr × Obj)}

set_option maxHeartbeats 4000000 in
theorem text_call {d b : Addr} {d0 : Int} {t0 : Tok} {n0 n1 : Nat} {vs : List Value} {ns : List Int} (C : Cx (hd02.heap_39 w.params) p loose mean mg mb dp un cs A₀ base outer h₀ L m s.heap 40 400)
    (N : News h₀ L s.heap ((d, listOf #[.int d0 t0, .ref b] n0) :: (b, listOf vs.toArray n1) :: rest)) (hne : d ≠ b) (hd : Off d rest) (hb : Off b rest) (hi : IntsAre vs ns) (hsz : ns.length < 100)
    (hret : ∀ y t d0' t0' vs' ns' n1' h' tk', y.length ≤ 200 → IntsAre vs' ns' → ns'.length < 100 → Fr h₀ L h' m → News h₀ L h' ((d, listOf #[.int d0' t0', .ref b] n0) :: (b, listOf vs'.toArray n1') :: rest) → Q (.str y t) { s with heap := h', toks := tk' }) :
    wpAny (model pr2 w) (ktrTop dp un gd cn cs L a ccd cl outer) (call (.ref 187) [.ref d]) Q E s := by
  obtain ⟨B, F, X, T, hk, hdp, hun⟩ := C
  refine wpAny_call ?_
  k_dflt ktr_unf
  rename _ ∧ _ ∧ _ => hl
  have hl1 : ∀ p ∈ rest, p.1 < _ + 1 := fun p hp => Nat.lt_succ_of_lt (kst_ltOf hl.2.2 p hp)
  have hl2 : ∀ p ∈ rest, p.1 < _ + 1 + 1 := fun p hp => Nat.lt_succ_of_lt (hl1 p hp)
  k_steps
  refine Stop.of ?_
  rename IsRange _ _ _ _ _ _ _ _ => rg
  rename Fr _ _ _ _ => F1
  rename News _ _ _ _ => N1
  rename (0 : Int) ≤ _ => hv0
  rename (_ : Int) < 13 => hv1
  rename_i v1 t1 d01 t01 vs1 ns1 n11 h11 tk11 q1 q2 q3 q4 h12 tk12 tt1 uu1 vv1 q5
  rename IntsAre _ _ => hi1
  refine LCg.CompSrc.range (n := (v1 - 0).toNat) rfl F1 N1 rg (by first | exact small_one (by omega) (by omega) (by omega) (by omega)) (by first | exact rangeSize_nat _ _ | rfl) (by rw [sizeLine_eq]; omega) fun g => ?_
  refine comp_inv (v1 - 0).toNat (fun i ys news => ∃ d0 t0 vs ns n1 l, ys = strValues l ∧ l.length = i ∧ (∀ p ∈ l, p.1.length ≤ 8) ∧ IntsAre vs ns ∧ ns.length < 100 ∧ news = (_, _) :: (_, _) :: (_, _) :: (d, listOf #[.int d0 t0, .ref b] n0) :: (b, listOf vs.toArray n1) :: rest) ?_ ?_ (v1 - 0).toNat 0 [] _ (by omega) ⟨_, _, _, _, _, [], rfl, rfl, by simp, hi1, by assumption, rfl⟩
  · rintro i ys news hi ⟨d02, t02, vs2, ns2, n12, l2, rfl, hl2, hs2, hi2, hz2, rfl⟩ v It oI C oC D m₂ h2 tk2 E' _ hC hx F2 N2 off ne
    clear F1 N1
    have off0 := off
    simp only [LCg.Off3] at off
    obtain ⟨⟨a1, a2, a3⟩, ⟨b1, b2, b3⟩, ⟨c1, c2, c3⟩, ⟨e1, e2, e3⟩, ⟨f1, f2, f3⟩, hr⟩ := off
    obtain ⟨n1, n2, n3⟩ := ne
    have r1 : ∀ p ∈ rest, p.1 ≠ It := fun p hp => (LCg.Off3.mem hr p hp).1
    have r2 : ∀ p ∈ rest, p.1 ≠ C := fun p hp => (LCg.Off3.mem hr p hp).2.1
    have r3 : ∀ p ∈ rest, p.1 ≠ D := fun p hp => (LCg.Off3.mem hr p hp).2.2
    k_steps
    rename News _ _ _ _ => N9
    refine Stop.of (LCg.CompEnd.intro (by k_asm) N9 _ (fun p hp => hp) off0 trivial ?_)
    refine ⟨_, _, _, _, _, l2 ++ [(_, _)], strVal_snoc _ _ _, by simp [hl2], ?_, by assumption, by assumption, rfl⟩
    · intro p hp
      rcases List.mem_append.mp hp with hp | hp
      · exact hs2 p hp
      · rw [List.mem_singleton.mp hp]
        exact getD_short (by decide +kernel) _
  · rintro ys news ⟨d02, t02, vs2, ns2, n12, l2, rfl, hl2, hs2, hi2, hz2, rfl⟩
    intro D h2 tk2 F2 N2 off
    clear F1 N1
    have hj := join_short (sep := Str.ofString "") (n := 12) (by decide +kernel) hs2 (by omega) (by omega)
    k_steps
    refine SC.join (l := l2) ⟨_, (N2 _ (.head _)).1, rfl, _, rfl⟩ rfl hj.1 fun t' k' => ?_
    k_steps
    all_goals first
      | exact hret _ _ _ _ _ _ _ _ _ (by have := hj.2; omega) hi2 hz2 (by k_asm) (by ktr_rel)
end



example : True := by (w_top off; trivial)

open PySem PySem.W PyProof.Rows PySem.Calls
set_option Elab.async false
set_option linter.all false

set_option maxRecDepth 100000
section
variable {w : World} {p : Program} {loose : List Str} {mean : ExcName → Option Value} {mg mb : Str → Option Value} {dp un : Nat} {gd : Option (List Code)} {cn : Str} {cs : Scope} {a : Addr} {ccd : Value} {cl : List (Str × Addr)} {outer : List Env} {A₀ : Around} {base h₀ : Heap} {L : Addr} {m : Str → Option Value} {s : Shared} {Q E : Value → Shared → Prop} {rest : List (Addr × Obj)}

theorem text_any {d b : Addr} {d0 : Int} {t0 : Tok} {n0 n1 : Nat} {vs : List Value} {ns : List Int} {g1 : Obj → List (Addr × Obj)} {g2 : Obj → Obj → List (Addr × Obj)} (C : Cx (hd02.heap_39 w.params) p loose mean mg mb dp un cs A₀ base outer h₀ L m s.heap 40 400)
    (N : News h₀ L s.heap rest) (U1 : UpdF d (listOf #[.int d0 t0, .ref b] n0) rest g1) (U2 : ∀ o, UpdF b (listOf vs.toArray n1) (g1 o) (g2 o)) (hne : d ≠ b) (hi : IntsAre vs ns) (hsz : ns.length < 100)
    (hret : ∀ y t d0' t0' vs' ns' n1' h' tk', y.length ≤ 200 → IntsAre vs' ns' → ns'.length < 100 → Fr h₀ L h' m → News h₀ L h' (g2 (listOf #[.int d0' t0', .ref b] n0) (listOf vs'.toArray n1')) → Q (.str y t) { s with heap := h', toks := tk' }) :
    wpAny (model pr2 w) (ktrTop dp un gd cn cs L a ccd cl outer) (call (.ref 187) [.ref d]) Q E s :=
  text_call C (two_in N U1 U2) hne others_off1 others_off2 hi hsz fun y t d0' t0' vs' ns' n1' h' tk' hy hi' hz' F' N' => hret y t d0' t0' vs' ns' n1' h' tk' hy hi' hz' F' (two_out U1 U2 N')
end



example : True := by (w_top off; trivial)

open PySem PySem.W PyProof.Rows PySem.Calls
set_option Elab.async false
set_option linter.all false

set_option maxRecDepth 100000
local macro_rules | `(tactic| walk_at "call ref") => `(tactic| (k_here; (with_reducible show wpAny _ _ (call (Value.ref 187) _) _ _ _); k_dflt (refine' text_any ⟨?kB, ?kF, ?kX, ?kT, ?kK, ?kd, ?ku⟩ ?kN ?u1 ?u2 ?u3 ?ki ?kz ?_; (case kB => k_asm); (case kF => k_asm); (case kX => k_asm); (case kT => k_asm); (case kK => first | exact rfl | assumption); (case kd => ktr_room); (case ku => ktr_units); (case kN => k_asm); (case u1 => k_updF); (case u2 => (intro o9; k_updF)); (case u3 => k_ne); (case ki => assumption); (case kz => first | assumption | omega); (intros; (try dsimp only)))))
local macro_rules | `(tactic| walk_at "eval ListComp") => `(tactic| (k_here; k_dflt (refine LCg.ListComp_U (F₀ := by k_asm) (by with_unfolding_all rfl) (by decide) (by rfl) (by decide) (by rfl) ?_)))
section
variable {w : World} {p : Program} {loose : List Str} {mean : ExcName → Option Value} {mg mb : Str → Option Value} {dp un : Nat} {gd : Option (List Code)} {cn : Str} {cs : Scope} {a : Addr} {ccd : Value} {cl : List (Str × Addr)} {outer : List Env} {A₀ : Around} {base h₀ : Heap} {L : Addr} {m : Str → Option Value} {s : Shared} {Q E : Value → Shared → Prop} {rest : List (Addr × Obj)}

set_option maxHeartbeats 4000000 in
theorem case_call {l : Addr} {vs : List Value} {ns : List Int} (C : Cx (hd02.heap_39 w.params) p loose mean mg mb dp un cs A₀ base outer h₀ L m s.heap 50 500)
    (N : News h₀ L s.heap rest) (hl : base.IsList l vs.toArray) (hi : IntsAre vs ns) (hsz : ns.length ≤ 63)
    (hret : ∀ (T ln : Addr) (x y : Str) (tx ty : Tok) (lw : List (Str × Tok)) (nl : Nat) (us wd ex : Int) (t1 t2 t3 : Tok) (part : Bool) h' tk', x.length ≤ 200 → y.length ≤ 200 → (∀ p ∈ lw, p.1.length ≤ 8) → lw.length ≤ 2 → 0 ≤ us → us < 6 → 1 ≤ wd → wd ≤ 8 → 0 ≤ ex → ex < 5 →
      ln < T → (∀ p ∈ rest, p.1 < ln) → Fr h₀ L h' m → News h₀ L h' ((T, { cls := .type "tuple", data := .seq #[.str x tx, .str y ty, .ref ln, .int us t1, .int wd t2, .bool part, .int ex t3] }) :: (ln, listOf (strValues lw).toArray nl) :: rest) → Q (.ref T) { s with heap := h', toks := tk' }) :
    wpAny (model pr2 w) (ktrTop dp un gd cn cs L a ccd cl outer) (call (.ref 192) [.ref l]) Q E s := by
  obtain ⟨B, F, X, T, hk, hdp, hun⟩ := C
  refine wpAny_call ?_
  k_dflt cell_enter
  k_steps
  refine Stop.of ?_
  rename Fr _ _ _ _ => F1
  rename News _ _ _ _ => N1
  rename IntsAre _ (List.take _ _) => hiT
  rename (List.take _ _).length = _ => hcT
  have hwl := IntsAre.length hiT
  refine LCg.CompSrc.ledger rfl F1 N1 (.head _) (by rw [sizeLine_eq, List.size_toArray]; omega) fun g => ?_
  refine comp_inv _ (fun i ys news => ∃ ms, IntsAre ys ms ∧ ms.length = i ∧ news = (_, _) :: rest) ?_ ?_ _ 0 [] _ (Nat.zero_add _) ⟨[], .nil, rfl, rfl⟩
  · rintro i ys news hi2 ⟨ms, him, hlm, rfl⟩ v It oI C oC D m₂ h2 tk2 E' hv hC hx F2 N2 off ne
    clear F1 N1
    have off0 := off
    simp only [LCg.Off3] at off
    obtain ⟨⟨a1, a2, a3⟩, hr⟩ := off
    obtain ⟨n1, n2, n3⟩ := ne
    obtain ⟨tv, rfl⟩ := IntsAre.int_at hiT i v (by rw [← List.getElem?_toArray]; exact hv)
    k_steps
    rename News _ _ _ _ => N9
    refine Stop.of (LCg.CompEnd.intro (by k_asm) N9 _ (fun p hp => hp) off0 (.inr ⟨_, .head _, rfl, _, rfl⟩) ?_)
    exact ⟨ms ++ [_], IntsAre.append him (.cons _ _ .nil), by simp [hlm], rfl⟩
  · rintro ys news ⟨ms, him, hlm, rfl⟩
    intro D h2 tk2 F2 N2 off
    clear F1 N1
    have hms : ms.length < 100 := by rw [hlm, List.size_toArray]; omega
    have hof : ∀ p ∈ rest, p.1 ≠ D := fun p hp => off1_mem off p (.tail _ hp)
    have N3 := cb_drop (news := (D, listOf ys.toArray ys.length) :: rest) N2 (by tb_rel)
    clear N2 off hwl hcT hiT
    k_steps
    rename (_ : Int) < 4 => hv4
    rename (0 : Int) ≤ _ => hv0
    rcases int_four hv0 hv4 with e9 | e9 | e9 | e9
    · subst e9
      k_steps
      refine' hret _ _ _ _ _ _ [(_, _), (_, _)] _ _ _ _ _ _ _ _ _ _ ?f1a ?f2a ?f3a ?f4a ?f5a ?f6a ?f7a ?f8a ?f9a ?g1a ?g2a ?g3a ?g4a ?g5a
      case g5a => ktr_rel
      case g2a => (show @LT.lt Nat instLTNat _ _; first | omega | exact And.left (by assumption) | exact And.left (And.right (by assumption)) | exact And.left (And.right (And.right (by assumption))) | exact And.left (And.right (And.right (And.right (by assumption)))) | exact And.left (And.right (And.right (And.right (And.right (by assumption))))) | exact And.left (And.right (And.right (And.right (And.right (And.right (by assumption)))))) | exact And.left (And.right (And.right (And.right (And.right (And.right (And.right (by assumption))))))))
      case g4a => k_asm
      case g3a => (intro p9 h9; first | (have h8 := (by assumption : ∀ p ∈ _, p.1 < _) p9 h9; exact h8) | exact kst_ltOf (by assumption) p9 h9 | exact kst_ltOf (And.right (by assumption)) p9 h9 | exact kst_ltOf (And.right (And.right (by assumption))) p9 h9 | exact kst_ltOf (And.right (And.right (And.right (by assumption)))) p9 h9 | exact kst_ltOf (And.right (And.right (And.right (And.right (by assumption))))) p9 h9 | exact kst_ltOf (And.right (And.right (And.right (And.right (And.right (by assumption)))))) p9 h9 | exact kst_ltOf (And.right (And.right (And.right (And.right (And.right (And.right (by assumption))))))) p9 h9 | exact kst_ltOf (And.right (And.right (And.right (And.right (And.right (And.right (And.right (by assumption)))))))) p9 h9 | exact kst_ltOf (And.right (And.right (And.right (And.right (And.right (And.right (And.right (And.right (by assumption))))))))) p9 h9 | exact kst_ltOf (And.right (And.right (And.right (And.right (And.right (And.right (And.right (And.right (And.right (by assumption)))))))))) p9 h9 | exact kst_ltOf (And.right (And.right (And.right (And.right (And.right (And.right (And.right (And.right (And.right (And.right (by assumption))))))))))) p9 h9 | exact kst_ltOf (And.right (And.right (And.right (And.right (And.right (And.right (And.right (And.right (And.right (And.right (And.right (by assumption)))))))))))) p9 h9 | exact kst_ltOf (And.right (And.right (And.right (And.right (And.right (And.right (And.right (And.right (And.right (And.right (And.right (And.right (by assumption))))))))))))) p9 h9 | exact kst_ltOf (And.right (And.right (And.right (And.right (And.right (And.right (And.right (And.right (And.right (And.right (And.right (And.right (And.right (by assumption)))))))))))))) p9 h9)
      case f3a => simp; try decide +kernel
      case f4a => simp
      all_goals first | assumption | omega
    · subst e9
      k_steps
      refine' hret _ _ _ _ _ _ [(_, _)] _ _ _ _ _ _ _ _ _ _ ?f1b ?f2b ?f3b ?f4b ?f5b ?f6b ?f7b ?f8b ?f9b ?g1b ?g2b ?g3b ?g4b ?g5b
      case g5b => ktr_rel
      case g2b => (show @LT.lt Nat instLTNat _ _; first | omega | exact And.left (by assumption) | exact And.left (And.right (by assumption)) | exact And.left (And.right (And.right (by assumption))) | exact And.left (And.right (And.right (And.right (by assumption)))) | exact And.left (And.right (And.right (And.right (And.right (by assumption))))) | exact And.left (And.right (And.right (And.right (And.right (And.right (by assumption)))))) | exact And.left (And.right (And.right (And.right (And.right (And.right (And.right (by assumption))))))))
      case g4b => k_asm
      case g3b => (intro p9 h9; first | (have h8 := (by assumption : ∀ p ∈ _, p.1 < _) p9 h9; exact h8) | exact kst_ltOf (by assumption) p9 h9 | exact kst_ltOf (And.right (by assumption)) p9 h9 | exact kst_ltOf (And.right (And.right (by assumption))) p9 h9 | exact kst_ltOf (And.right (And.right (And.right (by assumption)))) p9 h9 | exact kst_ltOf (And.right (And.right (And.right (And.right (by assumption))))) p9 h9 | exact kst_ltOf (And.right (And.right (And.right (And.right (And.right (by assumption)))))) p9 h9 | exact kst_ltOf (And.right (And.right (And.right (And.right (And.right (And.right (by assumption))))))) p9 h9 | exact kst_ltOf (And.right (And.right (And.right (And.right (And.right (And.right (And.right (by assumption)))))))) p9 h9 | exact kst_ltOf (And.right (And.right (And.right (And.right (And.right (And.right (And.right (And.right (by assumption))))))))) p9 h9 | exact kst_ltOf (And.right (And.right (And.right (And.right (And.right (And.right (And.right (And.right (And.right (by assumption)))))))))) p9 h9 | exact kst_ltOf (And.right (And.right (And.right (And.right (And.right (And.right (And.right (And.right (And.right (And.right (by assumption))))))))))) p9 h9 | exact kst_ltOf (And.right (And.right (And.right (And.right (And.right (And.right (And.right (And.right (And.right (And.right (And.right (by assumption)))))))))))) p9 h9 | exact kst_ltOf (And.right (And.right (And.right (And.right (And.right (And.right (And.right (And.right (And.right (And.right (And.right (And.right (by assumption))))))))))))) p9 h9 | exact kst_ltOf (And.right (And.right (And.right (And.right (And.right (And.right (And.right (And.right (And.right (And.right (And.right (And.right (And.right (by assumption)))))))))))))) p9 h9)
      case f3b => simp; try decide +kernel
      case f4b => simp
      all_goals first | assumption | omega
    · subst e9
      k_steps
      refine' hret _ _ _ _ _ _ [] _ _ _ _ _ _ _ _ _ _ ?f1c ?f2c ?f3c ?f4c ?f5c ?f6c ?f7c ?f8c ?f9c ?g1c ?g2c ?g3c ?g4c ?g5c
      case g5c => ktr_rel
      case g2c => (show @LT.lt Nat instLTNat _ _; first | omega | exact And.left (by assumption) | exact And.left (And.right (by assumption)) | exact And.left (And.right (And.right (by assumption))) | exact And.left (And.right (And.right (And.right (by assumption)))) | exact And.left (And.right (And.right (And.right (And.right (by assumption))))) | exact And.left (And.right (And.right (And.right (And.right (And.right (by assumption)))))) | exact And.left (And.right (And.right (And.right (And.right (And.right (And.right (by assumption))))))))
      case g4c => k_asm
      case g3c => (intro p9 h9; first | (have h8 := (by assumption : ∀ p ∈ _, p.1 < _) p9 h9; exact h8) | exact kst_ltOf (by assumption) p9 h9 | exact kst_ltOf (And.right (by assumption)) p9 h9 | exact kst_ltOf (And.right (And.right (by assumption))) p9 h9 | exact kst_ltOf (And.right (And.right (And.right (by assumption)))) p9 h9 | exact kst_ltOf (And.right (And.right (And.right (And.right (by assumption))))) p9 h9 | exact kst_ltOf (And.right (And.right (And.right (And.right (And.right (by assumption)))))) p9 h9 | exact kst_ltOf (And.right (And.right (And.right (And.right (And.right (And.right (by assumption))))))) p9 h9 | exact kst_ltOf (And.right (And.right (And.right (And.right (And.right (And.right (And.right (by assumption)))))))) p9 h9 | exact kst_ltOf (And.right (And.right (And.right (And.right (And.right (And.right (And.right (And.right (by assumption))))))))) p9 h9 | exact kst_ltOf (And.right (And.right (And.right (And.right (And.right (And.right (And.right (And.right (And.right (by assumption)))))))))) p9 h9 | exact kst_ltOf (And.right (And.right (And.right (And.right (And.right (And.right (And.right (And.right (And.right (And.right (by assumption))))))))))) p9 h9 | exact kst_ltOf (And.right (And.right (And.right (And.right (And.right (And.right (And.right (And.right (And.right (And.right (And.right (by assumption)))))))))))) p9 h9 | exact kst_ltOf (And.right (And.right (And.right (And.right (And.right (And.right (And.right (And.right (And.right (And.right (And.right (And.right (by assumption))))))))))))) p9 h9 | exact kst_ltOf (And.right (And.right (And.right (And.right (And.right (And.right (And.right (And.right (And.right (And.right (And.right (And.right (And.right (by assumption)))))))))))))) p9 h9)
      case f3c => simp; try decide +kernel
      case f4c => simp
      all_goals first | assumption | omega
    · subst e9
      k_steps
      refine' hret _ _ _ _ _ _ [(_, _)] _ _ _ _ _ _ _ _ _ _ ?f1d ?f2d ?f3d ?f4d ?f5d ?f6d ?f7d ?f8d ?f9d ?g1d ?g2d ?g3d ?g4d ?g5d
      case g5d => ktr_rel
      case g2d => (show @LT.lt Nat instLTNat _ _; first | omega | exact And.left (by assumption) | exact And.left (And.right (by assumption)) | exact And.left (And.right (And.right (by assumption))) | exact And.left (And.right (And.right (And.right (by assumption)))) | exact And.left (And.right (And.right (And.right (And.right (by assumption))))) | exact And.left (And.right (And.right (And.right (And.right (And.right (by assumption)))))) | exact And.left (And.right (And.right (And.right (And.right (And.right (And.right (by assumption))))))))
      case g4d => k_asm
      case g3d => (intro p9 h9; first | (have h8 := (by assumption : ∀ p ∈ _, p.1 < _) p9 h9; exact h8) | exact kst_ltOf (by assumption) p9 h9 | exact kst_ltOf (And.right (by assumption)) p9 h9 | exact kst_ltOf (And.right (And.right (by assumption))) p9 h9 | exact kst_ltOf (And.right (And.right (And.right (by assumption)))) p9 h9 | exact kst_ltOf (And.right (And.right (And.right (And.right (by assumption))))) p9 h9 | exact kst_ltOf (And.right (And.right (And.right (And.right (And.right (by assumption)))))) p9 h9 | exact kst_ltOf (And.right (And.right (And.right (And.right (And.right (And.right (by assumption))))))) p9 h9 | exact kst_ltOf (And.right (And.right (And.right (And.right (And.right (And.right (And.right (by assumption)))))))) p9 h9 | exact kst_ltOf (And.right (And.right (And.right (And.right (And.right (And.right (And.right (And.right (by assumption))))))))) p9 h9 | exact kst_ltOf (And.right (And.right (And.right (And.right (And.right (And.right (And.right (And.right (And.right (by assumption)))))))))) p9 h9 | exact kst_ltOf (And.right (And.right (And.right (And.right (And.right (And.right (And.right (And.right (And.right (And.right (by assumption))))))))))) p9 h9 | exact kst_ltOf (And.right (And.right (And.right (And.right (And.right (And.right (And.right (And.right (And.right (And.right (And.right (by assumption)))))))))))) p9 h9 | exact kst_ltOf (And.right (And.right (And.right (And.right (And.right (And.right (And.right (And.right (And.right (And.right (And.right (And.right (by assumption))))))))))))) p9 h9 | exact kst_ltOf (And.right (And.right (And.right (And.right (And.right (And.right (And.right (And.right (And.right (And.right (And.right (And.right (And.right (by assumption)))))))))))))) p9 h9)
      case f3d => simp; try decide +kernel
      case f4d => simp
      all_goals first | assumption | omega
end



example : True := by (w_top off; trivial)

open PySem PySem.W PyProof.Rows PySem.Calls
set_option Elab.async false
set_option linter.all false

set_option maxRecDepth 100000
section
variable {w : World} {p : Program} {loose : List Str} {mean : ExcName → Option Value} {mg mb : Str → Option Value} {dp un : Nat} {gd : Option (List Code)} {cn : Str} {cs : Scope} {a : Addr} {ccd : Value} {cl : List (Str × Addr)} {outer : List Env} {A₀ : Around} {base h₀ : Heap} {L : Addr} {m : Str → Option Value} {s : Shared} {Q E : Value → Shared → Prop} {rest : List (Addr × Obj)}
theorem prefA_le (x : Array Nat) (n : Int) : (prefA x n).size ≤ x.size := by
  unfold prefA
  split
  · simp
  · simp [Array.size_extract]; omega
theorem prefix_callL {x : Str} {tx : Tok} {many : Int} {tm : Tok} (C : Cx (hd02.heap_39 w.params) p loose mean mg mb dp un cs A₀ base outer h₀ L m s.heap 40 400) (N : News h₀ L s.heap rest) (hx : x.length ≤ 1048576)
    (hret : ∀ y t h' tk', y.cps = prefA x.cps many → y.length ≤ x.length → Fr h₀ L h' m → News h₀ L h' rest → Q (.str y t) { s with heap := h', toks := tk' }) :
    wpAny (model pr2 w) (ktrTop dp un gd cn cs L a ccd cl outer) (call (.ref 182) [.str x tx, .int many tm]) Q E s :=
  prefix_call C N hx fun y t h' tk' e => hret y t h' tk' e (by have := prefA_le x.cps many; rw [← e] at this; exact this)
end
local macro_rules | `(tactic| walk_at "call ref") => `(tactic| (k_here; (with_reducible show wpAny _ _ (call (Value.ref 182) _) _ _ _); k_dflt (refine' prefix_callL  ⟨?kB, ?kF, ?kX, ?kT, ?kK, ?kd, ?ku⟩ ?kN ?kx ?_; (case kB => k_asm); (case kF => k_asm); (case kX => k_asm); (case kT => k_asm); (case kK => first | exact rfl | assumption); (case kd => ktr_room); (case ku => ktr_units); (case kN => k_asm); (case kx => omega); (all_goals (intros; (try dsimp only))))))
section
variable {prog : Program} {w : World} {A : Around} {E : Value → Shared → Prop} {s : Shared} {h₀ : Heap} {L a b : Addr} {m : Str → Option Value} {news : List (Addr × Obj)} {Q : Value → Shared → Prop}
theorem my_add_strs {lw : List (Str × Tok)} {v : Value} (F : Fr h₀ L s.heap m) (N : News h₀ L s.heap news) (ha : s.heap.IsList a (strValues lw).toArray) (hb : s.heap.IsList b #[v]) (hz : lw.length ≤ 1000)
    (h : ∀ D h', Fr h₀ L h' m → News h₀ L h' ((D, listOf (strValues lw ++ [v]).toArray 0) :: news) → (∀ p ∈ news, p.1 < D) → Q (.ref D) { s with heap := h' }) :
    wpAny (model prog w) A (binaryOp .Add (.ref a) (.ref b)) Q E s :=
  kmk_add_lit F N ha hb (by simp) h (by simp [strValues, sizeLine_eq]; omega)
theorem my_ne_nil {lw : List (Str × Tok)} (ha : s.heap.IsList a (strValues lw).toArray) (hb : s.heap.IsList b #[]) (hu : A.units < cLine) (h : Q (.bool (!lw.isEmpty)) s) :
    wpAny (model prog w) A (compareOp .NotEq (.ref a) (.ref b)) Q E s := by
  cases lw with
  | nil => exact PySem.SeqAt.RcNeAt.lists (e := fun _ => true) ha hb rfl hu (fun j h1 _ => absurd h1 (Nat.not_lt_zero _)) prog w E Q h
  | cons x r => exact PySem.SeqAt.RcNeAt.lists_lengths ha hb (by simp [strValues]) hu prog w E Q h
end
local macro_rules | `(tactic| walk_at "binaryOp Add ref ref") => `(tactic| (k_here; (with_reducible show wpAny _ _ (binaryOp _ (Value.ref _) (Value.ref _)) _ _ _); k_dflt (refine' my_add_strs ?F ?N ?a ?b ?z ?_; (case F => k_asm); (case N => k_asm); (case a => kmk_list); (case b => kmk_list); (case z => omega)); intro D' h' F' N' l1; (try k_lt l1); (try k_sweep)))
local macro_rules | `(tactic| walk_at "compareOp NotEq ref ref") => `(tactic| (k_here; k_dflt (refine' my_ne_nil (lw := _) ?a ?b ?u ?_; (case a => kmk_list); (case b => kmk_list); (case u => ktr_units))))
section
variable {w : World} {p : Program} {loose : List Str} {mean : ExcName → Option Value} {mg mb : Str → Option Value} {dp un : Nat} {gd : Option (List Code)} {cn : Str} {cs : Scope} {a : Addr} {ccd : Value} {cl : List (Str × Addr)} {outer : List Env} {A₀ : Around} {base h₀ : Heap} {L : Addr} {m : Str → Option Value} {s : Shared} {Q E : Value → Shared → Prop} {rest : List (Addr × Obj)}

/-- the line and the pieces that the law expects -/
def deedLine (y : Array Nat) (lw : List (Str × Tok)) (us wd : Int) (part : Bool) : List (Array Nat) :=
  if part then lw.map (·.1.cps) ++ [prefA y (max (wd - us) 1)] else if lw = [] then [y] else lw.map (·.1.cps)
def deedPieces (y : Array Nat) (lw : List (Str × Tok)) (us wd : Int) (part : Bool) : List (Array Nat) :=
  if part then [(Str.ofString "first").cps, y.extract (prefA y (max (wd - us) 1)).size y.size] else if lw = [] then [(Str.ofString "first").cps] else [(Str.ofString "first").cps, y]

set_option maxHeartbeats 4000000 in
theorem deed_call {y : Str} {ty : Tok} {ln : Addr} {lw : List (Str × Tok)} {nl : Nat} {us wd : Int} {t1 t2 : Tok} {part : Bool} (C : Cx (hd02.heap_39 w.params) p loose mean mg mb dp un cs A₀ base outer h₀ L m s.heap 60 600)
    (N : News h₀ L s.heap ((ln, listOf (strValues lw).toArray nl) :: rest)) (hy : y.length ≤ 200) (hl : lw.length ≤ 2) (hu0 : 0 ≤ us) (hu1 : us < 6) (hw0 : 1 ≤ wd) (hw1 : wd ≤ 8)
    (hret : ∀ (T la pa : Addr) (l1 l2 : List (Str × Tok)) (n1 n2 : Nat) h' tk', l1.map (·.1.cps) = deedLine y.cps lw us wd part → l2.map (·.1.cps) = deedPieces y.cps lw us wd part →
      Fr h₀ L h' m → News h₀ L h' ((T, { cls := .type "tuple", data := .seq #[.ref la, .ref pa] }) :: (la, listOf (strValues l1).toArray n1) :: (pa, listOf (strValues l2).toArray n2) :: (ln, listOf (strValues lw).toArray nl) :: rest) → Q (.ref T) { s with heap := h', toks := tk' }) :
    wpAny (model pr2 w) (ktrTop dp un gd cn cs L a ccd cl outer) (call (.ref 199) [.str y ty, .ref ln, .int us t1, .int wd t2, .bool part]) Q E s := by
  cases part with
  | true =>
    have hT : ∀ (T la pa : Addr) (y' z : Str) (t' tf tz : Tok) h' tk', y'.cps = prefA y.cps (if 1 > wd - us then 1 else wd - us) → z = Txt.slice y (some (y'.length : Int)) none → Fr h₀ L h' m →
        News h₀ L h' ((T, { cls := .type "tuple", data := .seq #[.ref la, .ref pa] }) :: (la, listOf (strValues lw ++ [Value.str y' t']).toArray 0) :: (pa, listOf #[.str (Str.ofString "first") tf, .str z tz] 0) :: (ln, listOf (strValues lw).toArray nl) :: rest) → Q (.ref T) { s with heap := h', toks := tk' } := by
      intro T la pa y' z t' tf tz h' tk' e1 e2 F1 N1
      have e3 : (if 1 > wd - us then 1 else wd - us) = max (wd - us) 1 := by split <;> omega
      rw [e3] at e1
      refine hret T la pa (lw ++ [(y', t')]) [(Str.ofString "first", tf), (z, tz)] 0 0 h' tk' ?_ ?_ F1 ?_
      · simp [deedLine, e1]
      · subst e2
        have e5 := slice_from (x := y) (i := (y'.length : Int)) (by omega)
        simp only [deedPieces, if_true, List.map_cons, List.map_nil]
        rw [e5, ← e1]
        rfl
      · have e4 : strValues (lw ++ [(y', t')]) = strValues lw ++ [Value.str y' t'] := by simp [strValues]
        rw [e4]; exact N1
    clear hret
    obtain ⟨B, F, X, T, hk, hdp, hun⟩ := C
    refine wpAny_call ?_
    k_dflt cell_enter
    k_steps
    refine' hT _ _ _ _ _ _ _ _ _ _ ?e1 ?e2 ?e3 ?e4
    case e4 => ktr_rel
    case e3 => k_asm
    case e2 => rfl
    case e1 => assumption
  | false =>
    obtain ⟨B, F, X, T, hk, hdp, hun⟩ := C
    refine wpAny_call ?_
    k_dflt cell_enter
    k_steps
    all_goals first
      | (rename List.isEmpty lw = true => hw
         have hw' : lw = [] := by simpa using hw
         subst hw'
         refine' hret _ _ _ [(_, _)] [(_, _)] _ _ _ _ ?a1 ?a2 ?a3 ?a4
         case a4 => ktr_rel
         case a3 => k_asm
         case a1 => rfl
         case a2 => rfl)
      | (rename List.isEmpty lw = false => hw
         have hw' : ¬ lw = [] := by simpa using hw
         refine' hret _ _ _ lw [(_, _), (_, _)] _ _ _ _ ?b1 ?b2 ?b3 ?b4
         case b4 => ktr_rel
         case b3 => k_asm
         case b1 => simp [deedLine, hw']
         case b2 => (simp [deedPieces, hw']; rfl))
end



example : True := by (w_top off; trivial)

open PySem PySem.W PyProof.Rows PySem.Calls
set_option Elab.async false
set_option linter.all false

set_option maxRecDepth 100000
section
variable {w : World} {p : Program} {loose : List Str} {mean : ExcName → Option Value} {mg mb : Str → Option Value} {dp un : Nat} {gd : Option (List Code)} {cn : Str} {cs : Scope} {a : Addr} {ccd : Value} {cl : List (Str × Addr)} {outer : List Env} {A₀ : Around} {base h₀ : Heap} {L : Addr} {m : Str → Option Value} {s : Shared} {Q E : Value → Shared → Prop} {rest : List (Addr × Obj)}
theorem prefA_le2 (x : Array Nat) (n : Int) : (prefA x n).size ≤ x.size := by
  unfold prefA
  split
  · simp
  · simp [Array.size_extract]; omega
theorem trunc_callL {x : Str} {tx : Tok} {many : Int} {tm : Tok} (C : Cx (hd02.heap_39 w.params) p loose mean mg mb dp un cs A₀ base outer h₀ L m s.heap 40 400) (N : News h₀ L s.heap rest) (hx : x.length ≤ 1048576)
    (hret : ∀ y t h' tk', y.cps = prefA x.cps many → y.length ≤ x.length → Fr h₀ L h' m → News h₀ L h' rest → Q (.str y t) { s with heap := h', toks := tk' }) :
    wpAny (model pr2 w) (ktrTop dp un gd cn cs L a ccd cl outer) (call (.ref 114) [.str x tx, .int many tm]) Q E s :=
  trunc_call C N hx fun y t h' tk' e => hret y t h' tk' e (by have := prefA_le x.cps many; rw [← e] at this; exact this)
end
local macro_rules | `(tactic| walk_at "call ref") => `(tactic| (k_here; (with_reducible show wpAny _ _ (call (Value.ref 114) _) _ _ _); k_dflt (refine' trunc_callL  ⟨?kB, ?kF, ?kX, ?kT, ?kK, ?kd, ?ku⟩ ?kN ?kx ?_; (case kB => k_asm); (case kF => k_asm); (case kX => k_asm); (case kT => k_asm); (case kK => first | exact rfl | assumption); (case kd => ktr_room); (case ku => ktr_units); (case kN => k_asm); (case kx => omega); (all_goals (intros; (try dsimp only))))))
local macro_rules | `(tactic| walk_at "call builtin:list.append") => `(tactic| (k_here; (with_reducible show wpAny _ _ (call (Value.builtin _) [Value.ref _, _]) _ _ _); k_dflt (refine' append_K ?F ?N ?U ?_ ?z; (case F => k_asm); (case N => k_asm); (case U => k_upd); (case z => (simp only [strValues, List.size_toArray, List.length_map, sizeLine_eq]; omega))); intro h' F' N'; (try k_sweep)))
section
variable {w : World} {p : Program} {loose : List Str} {mean : ExcName → Option Value} {mg mb : Str → Option Value} {dp un : Nat} {gd : Option (List Code)} {cn : Str} {cs : Scope} {a : Addr} {ccd : Value} {cl : List (Str × Addr)} {outer : List Env} {A₀ : Around} {base h₀ : Heap} {L : Addr} {m : Str → Option Value} {s : Shared} {Q E : Value → Shared → Prop} {rest : List (Addr × Obj)}

/-- the record that the wrapper's making leaves -/
abbrev wrapD (w : World) (wd : Int) (part : Bool) (tw k1 k2 k3 k4 k5 k6 k7 k8 ti ts tp : Tok) (nd : Nat) : Obj :=
  dictOf [{ hash := PyData.keyHash w.params (Str.ofString "width"), key := .str (Str.ofString "width") k1, val := .int wd tw },
    { hash := PyData.keyHash w.params (Str.ofString "initial_indent"), key := .str (Str.ofString "initial_indent") k2, val := .str (Str.ofString "") ti },
    { hash := PyData.keyHash w.params (Str.ofString "subsequent_indent"), key := .str (Str.ofString "subsequent_indent") k3, val := .str (Str.ofString "") ts },
    { hash := PyData.keyHash w.params (Str.ofString "replace_whitespace"), key := .str (Str.ofString "replace_whitespace") k4, val := .bool true },
    { hash := PyData.keyHash w.params (Str.ofString "drop_whitespace"), key := .str (Str.ofString "drop_whitespace") k5, val := .bool true },
    { hash := PyData.keyHash w.params (Str.ofString "break_long_words"), key := .str (Str.ofString "break_long_words") k6, val := .bool part },
    { hash := PyData.keyHash w.params (Str.ofString "max_lines"), key := .str (Str.ofString "max_lines") k7, val := .none },
    { hash := PyData.keyHash w.params (Str.ofString "placeholder"), key := .str (Str.ofString "placeholder") k8, val := .str (Str.ofString " [...]") tp }] nd

set_option maxHeartbeats 4000000 in
theorem handle_call {x' d pa ba : Addr} {y : Str} {tf ty : Tok} {lw : List (Str × Tok)} {n1 n2 nd : Nat} {us wd : Int} {tu tw0 tw k1 k2 k3 k4 k5 k6 k7 k8 ti ts tp : Tok} {part : Bool} (C : Cx (hd02.heap_39 w.params) p loose mean mg mb dp un cs A₀ base outer h₀ L m s.heap 60 600)
    (N : News h₀ L s.heap ((ba, listOf (strValues lw).toArray n2) :: (pa, listOf #[.str (Str.ofString "first") tf, .str y ty] n1) :: (x', instObj 152 d) :: (d, wrapD w wd part tw k1 k2 k3 k4 k5 k6 k7 k8 ti ts tp nd) :: rest)) (hne : ba ≠ pa) (hn2 : ba ≠ x') (hn3 : ba ≠ d) (hn4 : pa ≠ x') (hn5 : pa ≠ d)
    (hop : Off pa rest) (hob : Off ba rest) (hy : y.length ≤ 200) (hl : lw.length ≤ 2) (hu0 : 0 ≤ us) (hu1 : us < 6) (hw0 : 1 ≤ wd) (hw1 : wd ≤ 8)
    (hret : ∀ (l1 l2 : List (Str × Tok)) (n1' n2' : Nat) h' tk', l1.map (·.1.cps) = deedLine y.cps lw us wd part → l2.map (·.1.cps) = deedPieces y.cps lw us wd part →
      Fr h₀ L h' m → News h₀ L h' ((ba, listOf (strValues l1).toArray n2') :: (pa, listOf (strValues l2).toArray n1') :: rest) → Q .none { s with heap := h', toks := tk' }) :
    wpAny (model pr2 w) (ktrTop dp un gd cn cs L a ccd cl outer) (call (.ref 128) [.ref x', .ref pa, .ref ba, .int us tu, .int wd tw0]) Q E s := by
  have hn1' := hne.symm
  cases part with
  | true =>
    have hT : ∀ (y' z : Str) (t' tz : Tok) (c1 c2 : Nat) h' tk', y'.cps = prefA y.cps (if 1 > wd - us then 1 else wd - us) → z = Txt.slice y (some (y'.length : Int)) none → Fr h₀ L h' m →
        News h₀ L h' ((ba, listOf ((strValues lw).toArray.push (.str y' t')) c2) :: (pa, listOf #[.str (Str.ofString "first") tf, .str z tz] c1) :: rest) → Q .none { s with heap := h', toks := tk' } := by
      intro y' z t' tz c1 c2 h' tk' e1 e2 F1 N1
      have e3 : (if 1 > wd - us then 1 else wd - us) = max (wd - us) 1 := by split <;> omega
      rw [e3] at e1
      refine hret (lw ++ [(y', t')]) [(Str.ofString "first", tf), (z, tz)] c1 c2 h' tk' ?_ ?_ F1 ?_
      · simp [deedLine, e1]
      · subst e2
        have e5 := slice_from (x := y) (i := (y'.length : Int)) (by omega)
        simp only [deedPieces, if_true, List.map_cons, List.map_nil]
        rw [e5, ← e1]
        rfl
      · have e4 : (strValues (lw ++ [(y', t')])).toArray = (strValues lw).toArray.push (Value.str y' t') := by simp [strValues]
        rw [e4]; exact N1
    clear hret
    obtain ⟨B, F, X, T, hk, hdp, hun⟩ := C
    refine wpAny_call ?_
    k_dflt cell_enter
    k_steps
    refine' hT _ _ _ _ _ _ _ _ ?he1 ?he2 ?he3 ?he4
    case he4 => ktr_rel
    case he3 => k_asm
    case he2 => rfl
    case he1 => assumption
  | false =>
    obtain ⟨B, F, X, T, hk, hdp, hun⟩ := C
    rcases lw with _ | ⟨p1, _ | ⟨p2, _ | ⟨p3, r3⟩⟩⟩
    · simp only [strValues, List.map_nil] at N
      refine wpAny_call ?_
      k_dflt cell_enter
      k_steps
      refine' hret [(_, _)] [(_, _)] _ _ _ _ ?hf1 ?hf2 ?hf3 ?hf4
      case hf4 => ktr_rel
      case hf3 => k_asm
      case hf1 => rfl
      case hf2 => rfl
    · simp only [strValues, List.map_cons, List.map_nil] at N
      refine wpAny_call ?_
      k_dflt cell_enter
      k_steps
      refine' hret [p1] [(_, _), (_, _)] _ _ _ _ ?hg1 ?hg2 ?hg3 ?hg4
      case hg4 => ktr_rel
      case hg3 => k_asm
      case hg1 => rfl
      case hg2 => rfl
    · simp only [strValues, List.map_cons, List.map_nil] at N
      refine wpAny_call ?_
      k_dflt cell_enter
      k_steps
      refine' hret [p1, p2] [(_, _), (_, _)] _ _ _ _ ?hh1 ?hh2 ?hh3 ?hh4
      case hh4 => ktr_rel
      case hh3 => k_asm
      case hh1 => rfl
      case hh2 => rfl
    · simp at hl
end



example : True := by (w_top off; trivial)

open PySem PySem.W PyProof.Rows PySem.Calls
set_option Elab.async false
set_option linter.all false

set_option maxRecDepth 100000
local macro_rules | `(tactic| walk_at "call ref") => `(tactic| (k_here; (with_reducible show wpAny _ _ (call (Value.ref 192) _) _ _ _); k_dflt (refine' case_call  ⟨?kB, ?kF, ?kX, ?kT, ?kK, ?kd, ?ku⟩ ?kN ?kl ?ki ?kz ?_; (case kB => k_asm); (case kF => k_asm); (case kX => k_asm); (case kT => k_asm); (case kK => first | exact rfl | assumption); (case kd => ktr_room); (case ku => ktr_units); (case kN => k_asm); (case kl => assumption); (case ki => assumption); (case kz => first | assumption | omega); (all_goals (intros; (try dsimp only))))))
local macro_rules | `(tactic| walk_at "call ref") => `(tactic| (k_here; (with_reducible show wpAny _ _ (call (Value.ref 93) _) _ _ _); k_dflt (refine' strip_call  ⟨?kB, ?kF, ?kX, ?kT, ?kK, ?kd, ?ku⟩ ?kN ?kx ?_; (case kB => k_asm); (case kF => k_asm); (case kX => k_asm); (case kT => k_asm); (case kK => first | exact rfl | assumption); (case kd => ktr_room); (case ku => ktr_units); (case kN => k_asm); (case kx => omega); (all_goals (intros; (try dsimp only))))))
local macro_rules | `(tactic| walk_at "call ref") => `(tactic| (k_here; (with_reducible show wpAny _ _ (call (Value.ref 107) _) _ _ _); k_dflt (refine' term_call  ⟨?kB, ?kF, ?kX, ?kT, ?kK, ?kd, ?ku⟩ ?kN ?kx ?_; (case kB => k_asm); (case kF => k_asm); (case kX => k_asm); (case kT => k_asm); (case kK => first | exact rfl | assumption); (case kd => ktr_room); (case ku => ktr_units); (case kN => k_asm); (case kx => omega); (all_goals (intros; (try dsimp only))))))
local macro_rules | `(tactic| walk_at "call ref") => `(tactic| (k_here; (with_reducible show wpAny _ _ (call (Value.ref 168) _) _ _ _); k_dflt (refine' end_call  ⟨?kB, ?kF, ?kX, ?kT, ?kK, ?kd, ?ku⟩ ?kN ?k0 ?ki ?kx ?_ ?_; (case kB => k_asm); (case kF => k_asm); (case kX => k_asm); (case kT => k_asm); (case kK => first | exact rfl | assumption); (case kd => ktr_room); (case ku => ktr_units); (case kN => k_asm); (case k0 => omega); (case ki => omega); (case kx => omega); (all_goals (intros; (try dsimp only))))))
theorem news_more {h₀ h : Heap} {L : Addr} {p : Addr × Obj} {l : List (Addr × Obj)} (N : News h₀ L h l) (hm : p ∈ l) : News h₀ L h (p :: l) := fun q hq => by
  rcases List.mem_cons.mp hq with rfl | hq
  · exact N _ hm
  · exact N _ hq
local macro_rules | `(tactic| walk_at "call ref") => `(tactic| (k_here; (with_reducible show wpAny _ _ (call (Value.ref 199) _) _ _ _); k_dflt (refine' deed_call ⟨?kB, ?kF, ?kX, ?kT, ?kK, ?kd, ?ku⟩ ?kN ?ky ?kl ?ka ?kb ?kc ?kd2 ?_; (case kB => k_asm); (case kF => k_asm); (case kX => k_asm); (case kT => k_asm); (case kK => first | exact rfl | assumption); (case kd => ktr_room); (case ku => ktr_units); (case kN => (refine' news_more ?nn ?mm; (case nn => assumption); (case mm => k_memK))); (case ky => omega); (case kl => omega); (case ka => omega); (case kb => omega); (case kc => omega); (case kd2 => omega); (all_goals (intros; (try dsimp only))))))
local macro_rules | `(tactic| walk_at "call ref") => `(tactic| (k_here; (with_reducible show wpAny _ _ (call (Value.ref 128) _) _ _ _); refine Stop.out ?_))
local macro_rules | `(tactic| walk_at "compareOp Eq ref ref") => `(tactic| (k_here; refine Stop.out ?_))
local macro_rules | `(tactic| walk_at "pyIter ref") => `(tactic| ((with_reducible show wpAny _ _ (pyIter (Value.ref _)) (fun it s₂ => LoopAtV _ _ _ _ _ _ _ _ _ it s₂) _ _); refine Stop.out ?_))
local macro_rules | `(tactic| walk_at "UnrEnd") => `(tactic| refine Stop.out ?_)
/-- the signs read so far -/
def SignI {vs : List Value} {x : Str} (_ : IntsAre vs (seenI x.cps 0)) (news0 : List (Addr × Obj)) : Nat → List Value → List (Addr × Obj) → Prop :=
  fun i ys news => ∃ l2 : List (Str × Tok), ys = strValues l2 ∧ (l2.map fun p => p.1.cps) = (((seenF x.cps 0).take i).map (Rx.ch x.cps)).map (fun c => #[c]) ∧ news = news0
theorem sign_at {vs : List Value} {x : Str} (hT : IntsAre vs (seenI x.cps 0)) {i : Nat} (hi : i < vs.toArray.size) : ∃ k : Nat, (seenI x.cps 0).getD i 0 = (k : Int) ∧ k < x.length ∧ (seenF x.cps 0)[i]? = some k := by
  have hl := hT.length
  have hlt : i < (seenF x.cps 0).length := by
    have : (seenI x.cps 0).length = (seenF x.cps 0).length := by simp [seenI]
    rw [List.size_toArray] at hi
    omega
  refine ⟨(seenF x.cps 0)[i], ?_, (seenF_mem (List.getElem_mem hlt)).2, List.getElem?_eq_getElem hlt⟩
  rw [seenI_getD, List.getD_eq_getElem?_getD, List.getElem?_eq_getElem hlt]; rfl
theorem seen_both {vs : List Value} {x : Str} (_ : IntsAre vs (seenI x.cps 0)) : (seenI x.cps 0).length = (seenF x.cps 0).length := by simp [seenI]
theorem two_pref {a b : Str} {z : Array Nat} (h : (a != b) = true) (h1 : a.cps = z) (h2 : b.cps = z) : False := by
  obtain ⟨a⟩ := a
  obtain ⟨b⟩ := b
  simp only at h1 h2
  subst h1 h2
  simp at h
theorem pref_len {a : Str} {x : Array Nat} {n : Int} (h : ((seenF a.cps 0).length : Int) ≠ if (0 : Int) > (if ((seenI x 0).length : Int) < n then ((seenI x 0).length : Int) else n) then 0 else (if ((seenI x 0).length : Int) < n then ((seenI x 0).length : Int) else n))
    (h1 : a.cps = prefA x n) (hl : (seenI x 0).length = (seenF x 0).length) : False := by
  apply h
  rw [h1, seen_pref, hl]
  by_cases q : ((seenF x 0).length : Int) < n
  · rw [if_pos q]
    by_cases q2 : (0 : Int) > ((seenF x 0).length : Int)
    · omega
    · rw [if_neg q2]; omega
  · rw [if_neg q]
    by_cases q2 : (0 : Int) > n
    · rw [if_pos q2]; omega
    · rw [if_neg q2]; omega
section
variable {prog : Program} {w : World} {A : Around} {E : Value → Shared → Prop} {s : Shared} {h₀ : Heap} {L b : Addr} {m : Str → Option Value} {news : List (Addr × Obj)} {Q : Value → Shared → Prop}
theorem my_copy {lw : List (Str × Tok)} {n2 : Nat} (F : Fr h₀ L s.heap m) (N : News h₀ L s.heap news) (hb : (b, listOf (strValues lw).toArray n2) ∈ news) (hz : lw.length ≤ 1000)
    (h : ∀ D c h', Fr h₀ L h' m → News h₀ L h' ((D, listOf (strValues lw).toArray c) :: news) → (∀ q ∈ news, q.1 < D) → Q (.ref D) { s with heap := h' }) :
    wpAny (model prog w) A (call (.type "list") [.ref b]) Q E s :=
  kup_listOf F N hb (by simp) h (by simp [strValues, sizeLine_eq]; omega)
end
local macro_rules | `(tactic| walk_at "call type:list") => `(tactic| (k_here; (with_reducible show wpAny _ _ (call (Value.type _) [Value.ref _]) _ _ _); k_dflt (refine' my_copy ?F ?N ?b ?z ?_; (case F => k_asm); (case N => k_asm); (case b => k_memK); (case z => omega)); intro D' c' h' F' N' l1; (try k_lt l1); (try k_sweep)))
theorem sign_snoc {x : Str} {i k : Nat} {l2 : List (Str × Tok)} {t : Tok} (h : (l2.map fun p => p.1.cps) = (((seenF x.cps 0).take i).map (Rx.ch x.cps)).map (fun c => #[c])) (hk : k < x.length) (he : (seenF x.cps 0)[i]? = some k) :
    ((l2 ++ [(Txt.item x (k : Int), t)]).map fun p => p.1.cps) = (((seenF x.cps 0).take (i + 1)).map (Rx.ch x.cps)).map (fun c => #[c]) := by
  rw [List.map_append, h, List.take_add_one, he]
  simp [item_cps (x := x) (i := (k : Int)) (by omega) (by omega)]
theorem sign_done {vs : List Value} {x : Str} (hT : IntsAre vs (seenI x.cps 0)) {l2 : List (Str × Tok)} (h : (l2.map fun p => p.1.cps) = (((seenF x.cps 0).take vs.toArray.size).map (Rx.ch x.cps)).map (fun c => #[c])) (hx : x.length ≤ 1000) :
    JoinOk (Str.ofString "") (l2.map (·.1)) = true ∧ Txt.join (Str.ofString "") (l2.map (·.1)) = ⟨bare x.cps⟩ := by
  have hl := hT.length
  have hl2 : (seenI x.cps 0).length = (seenF x.cps 0).length := by simp [seenI]
  have hle := seenF_len (x := x.cps) (p := 0)
  have hxs : x.length = x.cps.size := rfl
  rw [List.size_toArray, show vs.length = (seenF x.cps 0).length by omega, List.take_length] at h
  have hlen : l2.length = (seenF x.cps 0).length := by have := congrArg List.length h; simpa using this
  refine ⟨(join_short (k := 1) (n := 1000) (by decide +kernel) (fun p hp => ?_) (by omega) (by omega)).1, join_chars h⟩
  have : p.1.cps ∈ l2.map fun p => p.1.cps := List.mem_map.mpr ⟨p, hp, rfl⟩
  rw [h] at this
  obtain ⟨c, _, hc⟩ := List.mem_map.mp this
  show p.1.cps.size ≤ 1
  rw [← hc]; simp
set_option maxHeartbeats 4000000 in
set_option rowWalk.seconds 0 in
theorem law_02 : PySem.Challenge.rw_gn5001_02.Holds := by
  refine hd02 (by
    k_go0
    k_steps
    rename Spec.Shape.has _ _ = _ => z1; clear z1
    rename PyData.layableAll0 _ = _ => z1; clear z1
    rename PyData.layable0 _ = _ => z1; clear z1
    rename WShape.hasAll _ _ _ = _ => z1; clear z1
    rename WData.layableAll _ = _ => z1; clear z1
    rename ReadsAll _ _ _ _ => z1; clear z1
    rename Well _ _ _ _ => z1; clear z1
    rename Reads _ _ _ _ => z1; clear z1
    rename ReadsAllW _ _ _ _ _ _ => z1; clear z1
    refine Stop.of ?_
    rename Fr _ _ _ _ => F1
    rename News _ _ _ _ => N1
    simp only [List.cons_append, List.nil_append] at N1
    rename IntsAre _ (seenI _ _) => hiT
    have hwl := IntsAre.length hiT
    rename _ = Data.cell (some (Value.str _ _)) => hcell
    refine LCg.CompSrc.ledger rfl F1 N1 (.head _) (by rw [sizeLine_eq, List.size_toArray]; omega) fun g => ?_
    refine comp_inv _ (SignI hiT _) ?_ ?_ _ 0 [] _ (Nat.zero_add _) ⟨[], rfl, rfl, rfl⟩
    · rintro i ys news hi2 ⟨l2, rfl, hl2, rfl⟩ v It oI C oC D m₂ h2 tk2 E' hv hC hx F2 N2 off ne
      clear F1 N1
      have off0 := off
      simp only [LCg.Off3] at off
      obtain ⟨⟨a1, a2, a3⟩, ⟨b1, b2, b3⟩, ⟨c1, c2, c3⟩, ⟨e1, e2, e3⟩, hr⟩ := off
      obtain ⟨n1, n2, n3⟩ := ne
      obtain ⟨tv, rfl⟩ := IntsAre.int_at hiT i v (by rw [← List.getElem?_toArray]; exact hv)
      obtain ⟨k9, hk1, hk2, hk3⟩ := sign_at hiT hi2
      rw [hk1] at hv hx
      k_steps
      rename News _ _ _ _ => N9
      refine Stop.of (LCg.CompEnd.intro (by k_asm) N9 _ (fun p hp => hp) off0 (.inr ⟨_, .head _, rfl, _, rfl⟩) ?_)
      exact ⟨l2 ++ [(_, _)], strVal_snoc _ _ _, sign_snoc hl2 hk2 hk3, rfl⟩
    · rintro ys news ⟨l2, rfl, hl2, rfl⟩
      intro D h2 tk2 F2 N2 off
      clear F1 N1
      have hj := sign_done hiT hl2 (by omega)
      clear hl2
      simp only [LCg.Off1] at off
      k_steps
      refine SC.join (l := l2) ⟨_, (N2 _ (.head _)).1, rfl, _, rfl⟩ rfl hj.1 fun t' k' => ?_
      rw [hj.2]
      clear hj
      have hll := seen_both hiT
      k_steps
      all_goals first
        | (exfalso; omega)
        | skip
      refine Stop.of ?_
      rename Fr _ _ _ _ => F1
      rename News _ _ _ _ => N1
      rename IsRange _ _ _ _ _ _ _ _ => rg
      try simp only [List.cons_append, List.nil_append] at N1
      refine for_range [Str.ofString "at", Str.ofString "found", Str.ofString "end"] rfl rg (by first | exact small_one (by omega) (by omega) (by omega) (by omega)) (by first | exact rangeSize_nat _ _ | rfl) F1 N1 ?_ ?_
      · intro k t u h tk own hlo hhi hoff F3 N3
        clear F1 N1
        try simp only [List.cons_append, List.nil_append] at N3
        k_steps
        all_goals
          rename Fr _ _ _ _ => F9
          rename News _ _ _ _ => N9
          refine Stop.of (InvEndN.intro F9 N9 ⟨rfl, ?_⟩ rfl ?_ ?_)
          · intro z9 h3
            simp only [List.contains_cons, List.contains_nil, Bool.or_false, Bool.or_eq_false_iff, beq_eq_false_iff_ne, ne_eq] at h3
            simp [h3]
          · tb_rel
          · intro p hp
            repeat first
              | exact hp
              | apply List.mem_cons_of_mem
      · intro u h tk F3 N3
        clear F1 N1
        k_steps
        refine Stop.of ?_
        rename Fr _ _ _ _ => F1
        rename News _ _ _ _ => N1
        refine for_list [Str.ofString "many", Str.ofString "told"] (P := fun v => ∃ n t, v = .int n t) rfl F1 N1 (.head _) rfl rfl (by repeat first | exact List.forall_mem_nil _ | refine List.forall_mem_cons.mpr ⟨⟨_, _, rfl⟩, ?_⟩) ?_ ?_
        · rintro I v it u2 h2 tk2 hI ⟨many, tm, rfl⟩ hc F4 N4
          clear F1 N1
          k_steps
          · refine' (two_pref ?tpq ?tpr ?tps).elim
            case tpq => assumption
            case tpr => assumption
            case tps => assumption
          · refine' (pref_len ?plq ?plr ?pls).elim
            case plq => assumption
            case plr => assumption
            case pls => assumption
          · rename Fr _ _ _ _ => F9
            rename News _ _ _ _ => N9
            refine Stop.of (UnrEnd.intro F9 N9 _ ?_ (fun p hp => Nat.ne_of_lt (hI p hp)) ⟨rfl, ?_⟩)
            · tb_rel
            · intro z9 h3
              simp only [List.contains_cons, List.contains_nil, Bool.or_false, Bool.or_eq_false_iff, beq_eq_false_iff_ne, ne_eq] at h3
              simp [h3]
        · intro u2 h2 tk2 F4 N4
          clear F1 N1
          k_steps
          refine Stop.of ?_
          rename Fr _ _ _ _ => F9
          rename News _ _ _ _ => N9
          refine' handle_call ⟨?zB, F9, ?zX, ?zT, ?zK, ?zd, ?zu⟩ (fun p hp => N9 p (.tail _ hp)) ?z1 ?z2 ?z3 ?z4 ?z5 ?z6 ?z7 ?z8 ?z9 ?y1 ?y2 ?y3 ?y4 ?_
          case zB => k_asm
          case zX => k_asm
          case zT => k_asm
          case zK => first | exact rfl | assumption
          case zd => ktr_room
          case zu => ktr_units
          case z6 => repeat first | exact List.forall_mem_nil _ | refine List.forall_mem_cons.mpr ⟨by (show (_ : Nat) ≠ _; omega), ?_⟩
          case z7 => repeat first | exact List.forall_mem_nil _ | refine List.forall_mem_cons.mpr ⟨by (show (_ : Nat) ≠ _; omega), ?_⟩
          case z1 => (show (_ : Nat) ≠ _; omega)
          case z2 => (show (_ : Nat) ≠ _; omega)
          case z3 => (show (_ : Nat) ≠ _; omega)
          case z4 => (show (_ : Nat) ≠ _; omega)
          case z5 => (show (_ : Nat) ≠ _; omega)
          case z8 => omega
          case z9 => omega
          case y1 => omega
          case y2 => omega
          case y3 => omega
          case y4 => omega
          intro l3 l4 c3 c4 h9 tk9 e3 e4 F8 N8
          clear F9 N9
          try dsimp only
          k_steps
          refine Stop.of ?_
          rename News _ _ _ _ => N9
          refine' pairs_eq N9 ?q1 ?q2 ?q3 ?q4 ?q5 ?q6 ?q7 ?q8 ?q9 ?_
          case q1 => k_memK
          case q2 => k_memK
          case q3 => k_memK
          case q4 => k_memK
          case q5 => k_memK
          case q6 => k_memK
          case q7 => exact e3.trans (Eq.symm (by assumption))
          case q8 => exact e4.trans (Eq.symm (by assumption))
          case q9 => first | ktr_units | decide
          k_steps)



end Mine

theorem PySem.Challenge.cw_gn5001_02_holds : PySem.Challenge.rw_gn5001_02.Holds := by
  exact Mine.law_02
