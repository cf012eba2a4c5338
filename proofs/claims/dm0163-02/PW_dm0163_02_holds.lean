import PyProof.Rows.All
import Wide.All
import OpenK.AllK
import Wide.FinOn
import PySem.Challenge.RW_dm0163_02
set_option Elab.async false
set_option maxRecDepth 100000
set_option linter.unusedVariables false
set_option linter.unusedSimpArgs false

-- part Rx1
namespace Mine.Rx
open PySem PySem.Sre

/-- the words of the compiled pattern for white rows, and of the one for headers -/
def cdW : Array Nat := #[14, 4, 0, 0, 4294967295, 6, 0, 24, 9, 0, 4294967295, 13, 4, 8, 12, 0, 1, 6, 5, 1]
def cdH : Array Nat := #[14, 4, 0, 0, 4294967295, 6, 0, 17, 0, 24, 11, 0, 4294967295, 13, 6, 16, 32, 16, 9, 0, 1, 24, 6, 0, 4294967295, 16, 35, 1, 17, 1, 1]

theorem runFor_done {m : M} (h : m.outcome.isSome = true) : ∀ n, m.runFor n = m
  | 0 => rfl
  | n + 1 => by show (if m.outcome.isSome = true then m else _) = m; rw [if_pos h]
theorem runFor_succ {m : M} (h : m.outcome = none) (n : Nat) : m.runFor (n + 1) = m.step.runFor n := by
  show (if m.outcome.isSome = true then m else _) = _; rw [if_neg (by rw [h]; decide)]
theorem runFor_add (m : M) : ∀ a b, m.runFor (a + b) = (m.runFor a).runFor b
  | 0, b => by rw [Nat.zero_add]; rfl
  | a + 1, b => by
    by_cases h : m.outcome.isSome = true
    · rw [runFor_done h, runFor_done h, runFor_done h]
    · have h' : m.outcome = none := by cases e : m.outcome with | none => rfl | some _ => rw [e] at h; exact absurd rfl h
      rw [show a + 1 + b = (a + b) + 1 by omega, runFor_succ h', runFor_succ h', runFor_add m.step a b]
  termination_by a => a

/-- what a set or a letter of the code takes, the words seen left aside -/
theorem run_spec {code text : Array Nat} {i : Nat} {f : Nat → Bool} (hf : ∀ c seen, ∃ seen', accepts code i c seen = .ok (f c, seen')) :
    ∀ (n p found : Nat) (seen : Seen), ∃ k seen', run code text i n p found seen = .ok (found + k, seen') ∧ k ≤ n ∧ (∀ j, j < k → f (text.getD (p + j) 0) = true) ∧ (k < n → f (text.getD (p + k) 0) = false)
  | 0, p, found, seen => ⟨0, seen, rfl, Nat.le_refl _, fun j h => absurd h (Nat.not_lt_zero _), fun h => absurd h (Nat.lt_irrefl _)⟩
  | n + 1, p, found, seen => by
    obtain ⟨seen₁, e⟩ := hf (text.getD p 0) seen
    cases hc : f (text.getD p 0) with
    | false =>
      refine ⟨0, seen₁, ?_, Nat.zero_le _, fun j h => absurd h (Nat.not_lt_zero _), fun _ => hc⟩
      rw [Sre.run, e, hc]; rfl
    | true =>
      obtain ⟨k, seen₂, e2, h1, h2, h3⟩ := run_spec hf n (p + 1) (found + 1) seen₁
      refine ⟨k + 1, seen₂, ?_, by omega, fun j hj => ?_, fun hk => ?_⟩
      · rw [Sre.run, e, hc]
        show Sre.run code text i n (p + 1) (found + 1) seen₁ = _
        rw [e2]; congr 2; omega
      · cases j with
        | zero => exact hc
        | succ j => have := h2 j (by omega); rwa [show p + (j + 1) = p + 1 + j by omega]
      · have := h3 (by omega); rwa [show p + (k + 1) = p + 1 + k by omega]

theorem acc_space (c : Nat) (seen : Seen) : ∃ seen', accepts cdW 11 c seen = .ok (Unicode.isSpace c, seen') := by
  cases h : Unicode.isSpace c with
  | true =>
    refine ⟨?_, ?_⟩
    rotate_left
    · show (do if ← category 12 c then pure (true, (seen.add 8).add (55 + 12)) else inSet cdW c 19 15 true ((seen.add 8).add (55 + 12)) : Except String (Bool × Seen)) = _
      have e : category 12 c = .ok true := by show (Except.ok (Unicode.isSpace c)).map (· != (12 % 2 == 1)) = _; rw [h]; rfl
      rw [e]; rfl
  | false =>
    refine ⟨?_, ?_⟩
    rotate_left
    · show (do if ← category 12 c then pure (true, (seen.add 8).add (55 + 12)) else inSet cdW c 19 15 true ((seen.add 8).add (55 + 12)) : Except String (Bool × Seen)) = _
      have e : category 12 c = .ok false := by show (Except.ok (Unicode.isSpace c)).map (· != (12 % 2 == 1)) = _; rw [h]; rfl
      rw [e]; rfl

/-- the machine at the white pattern -/
def mW (text : Array Nat) (pc pos handed : Nat) (frames : List Sre.Frame) (weight : Nat) (answer : Option Bool) (seen : Seen) : M :=
  { code := cdW, text, lim := text.size, start := 0, pc, pos, handed, marks := #[], frames, weight, answer, seen }
def gbW (pos : Nat) (count : Int) : Sre.Frame := { wait := .giveBack, pc := 7, pos, outermost := true, count, kept := { lastmark := -1, lastindex := -1, whole := false, marks := #[] } }

def repOne (m : M) (least : Nat) (r : Except String (Nat × Seen)) : M := match r with
  | .error why => m.stick why
  | .ok (n, seen) =>
    let m := { m with seen }
    if n < least then m.say false else
    let m := { m with pos := m.pos + n }
    m.afterRun .giveBack n (m.keep m.inner.isSome)
theorem forW (text : Array Nat) : ∃ seen, forMatch cdW text 0 0 text.size false false = mW text 5 0 0 [] 0 none seen := ⟨_, rfl⟩
theorem stepW1 (text : Array Nat) (seen : Seen) : ∃ seen', (mW text 5 0 0 [] 0 none seen).step = mW text 7 0 0 [] 0 none seen' := ⟨_, rfl⟩
theorem stepW2 (text : Array Nat) (hs : text.size < 4294967295) (seen : Seen) : ∃ n seen', (mW text 7 0 0 [] 0 none seen).step = mW text 17 n n [gbW n n] 1 none seen' ∧ n ≤ text.size ∧
    (∀ j, j < n → Unicode.isSpace (text.getD j 0) = true) ∧ (n < text.size → Unicode.isSpace (text.getD n 0) = false) := by
  obtain ⟨k, seen', e, h1, h2, h3⟩ := run_spec (text := text) acc_space text.size 0 0 ((seen.add 24).add 13)
  refine ⟨k, seen', ?_, h1, fun j hj => by have := h2 j hj; rwa [Nat.zero_add] at this, fun hk => by have := h3 hk; rwa [Nat.zero_add] at this⟩
  have hr : min 4294967295 ((text.size : Int) - ((0 : Nat) : Int)).toNat = text.size := by omega
  have e0 : (mW text 7 0 0 [] 0 none seen).step = (if ((0 : Nat) : Int) > ((text.size : Int) - ((0 : Nat) : Int)) then M.say (mW text 7 0 0 [] 0 none (seen.add 24)) false else repOne (mW text 7 0 0 [] 0 none (seen.add 24)) 0 (Sre.run cdW text 11 (min 4294967295 ((text.size : Int) - ((0 : Nat) : Int)).toNat) 0 0 ((seen.add 24).add 13))) := rfl
  rw [e0, if_neg (by omega), hr, e, Nat.zero_add]
  have e1 : repOne (mW text 7 0 0 [] 0 none (seen.add 24)) 0 (.ok (k, seen')) = (if k < 0 then M.say (mW text 7 0 0 [] 0 none seen') false else M.afterRun (mW text 7 (0 + k) 0 [] 0 none seen') .giveBack k { lastmark := -1, lastindex := -1, whole := false, marks := #[] }) := rfl
  rw [e1, if_neg (by omega), Nat.zero_add]
  rfl
/-- the end's look: at the end, or ahead of a last line feed -/
def atEnd (text : Array Nat) (p : Nat) : Bool := p == text.size || (p + 1 == text.size && text.getD p 0 == 10)
theorem stepW3 (text : Array Nat) (p h : Nat) (fs : List Sre.Frame) (wt : Nat) (seen : Seen) : ∃ seen', (mW text 17 p h fs wt none seen).step = if atEnd text p = true then mW text 19 p h fs wt none seen' else mW text 17 p h fs wt (some false) seen' := ⟨_, rfl⟩
theorem stepW4 (text : Array Nat) (p h : Nat) (fs : List Sre.Frame) (wt : Nat) (seen : Seen) : ∃ seen', (mW text 19 p h fs wt none seen).step = mW text 19 p p fs wt (some true) seen' := ⟨_, rfl⟩
theorem stepW5 (text : Array Nat) (pc p h q : Nat) (c : Int) (seen : Seen) : (mW text pc p h [gbW q c] 1 (some true) seen).step = mW text 7 q h [] 0 (some true) seen := rfl
theorem stepW6 (text : Array Nat) (pc p h : Nat) (b : Bool) (seen : Seen) : ((mW text pc p h [] 0 (some b) seen).step).outcome = some (if b then .matched else .failed) := by cases b <;> rfl
theorem stepW7 (text : Array Nat) (pc p h q : Nat) (seen : Seen) : ∃ seen', (mW text pc p h [gbW q 0] 1 (some false) seen).step = mW text 7 q h [] 0 (some false) seen' := ⟨_, rfl⟩
theorem stepW8 (text : Array Nat) (pc p h q : Nat) (c : Nat) (seen : Seen) : ∃ seen', (mW text pc p h [gbW q (c + 1 : Nat)] 1 (some false) seen).step = mW text 17 (q - 1) (q - 1) [gbW (q - 1) c] 1 none seen' := by
  refine ⟨seen, ?_⟩
  have e0 : (mW text pc p h [gbW q (c + 1 : Nat)] 1 (some false) seen).step = (if ((c + 1 : Nat) : Int) - 1 < ((0 : Nat) : Int) then M.say (mW text 7 q h [] 0 none seen) false else M.afterRun (mW text 7 (q - 1) h [] 0 none seen) .giveBack (((c + 1 : Nat) : Int) - 1) { lastmark := -1, lastindex := -1, whole := false, marks := #[] }) := rfl
  rw [e0, if_neg (by omega), show (((c + 1 : Nat) : Int) - 1) = (c : Int) by omega]
  rfl

theorem backW (text : Array Nat) : ∀ (c : Nat) (seen : Seen), (∀ j, j ≤ c → atEnd text j = false) → ((mW text 17 c c [gbW c c] 1 none seen).runFor (2 * c + 4)).outcome = some .failed
  | 0, seen, h => by
    obtain ⟨s1, e1⟩ := stepW3 text 0 0 [gbW 0 (0 : Nat)] 1 seen
    rw [h 0 (Nat.le_refl _), if_neg (by decide)] at e1
    obtain ⟨s2, e2⟩ := stepW7 text 17 0 0 0 s1
    rw [show 2 * 0 + 4 = 3 + 1 from rfl, runFor_succ rfl, e1, show 3 = 2 + 1 from rfl, runFor_succ rfl]
    show ((M.step (mW text 17 0 0 [gbW 0 0] 1 (some false) s1)).runFor 2).outcome = _
    rw [e2, show 2 = 1 + 1 from rfl, runFor_succ rfl, runFor_done (by rw [stepW6]; rfl), stepW6]
    rfl
  | c + 1, seen, h => by
    obtain ⟨s1, e1⟩ := stepW3 text (c + 1) (c + 1) [gbW (c + 1) (c + 1 : Nat)] 1 seen
    rw [h (c + 1) (Nat.le_refl _), if_neg (by decide)] at e1
    obtain ⟨s2, e2⟩ := stepW8 text 17 (c + 1) (c + 1) (c + 1) c s1
    rw [show 2 * (c + 1) + 4 = (2 * c + 4 + 1) + 1 by omega, runFor_succ rfl, e1, runFor_succ rfl, e2, Nat.add_sub_cancel]
    exact backW text c s2 fun j hj => h j (by omega)

def isW (text : Array Nat) : Bool := text.all Unicode.isSpace
theorem getD_of_lt (text : Array Nat) {j : Nat} (h : j < text.size) : text.getD j 0 = text[j] := by
  rw [Array.getD_eq_getD_getElem?, Array.getElem?_eq_getElem h]; rfl

theorem runW (text : Array Nat) (hs : text.size < 4294967295) : ∃ N, N ≤ 2 * text.size + 16 ∧ ((forMatch cdW text 0 0 text.size false false).runFor N).outcome = some (if isW text then .matched else .failed) := by
  obtain ⟨s0, e0⟩ := forW text
  obtain ⟨s1, e1⟩ := stepW1 text s0
  obtain ⟨n, s2, e2, hn, h1, h2⟩ := stepW2 text hs s1
  have key : ∀ k, (forMatch cdW text 0 0 text.size false false).runFor (k + 1 + 1) = (mW text 17 n n [gbW n n] 1 none s2).runFor k := fun k => by
    rw [e0, runFor_succ rfl, e1, runFor_succ rfl, e2]
  by_cases hlt : n < text.size
  · refine ⟨2 * n + 4 + 1 + 1, by omega, ?_⟩
    have hsp := h2 hlt
    have hW : isW text = false := by
      cases hw : isW text with
      | false => rfl
      | true =>
        have := (Array.all_eq_true.mp hw) n hlt
        rw [← getD_of_lt text hlt, hsp] at this
        cases this
    rw [key, hW]
    refine backW text n s2 fun j hj => ?_
    unfold atEnd
    rw [Bool.or_eq_false_iff]
    refine ⟨by simp; omega, ?_⟩
    rw [Bool.and_eq_false_iff]
    by_cases hj1 : j + 1 = text.size
    · right
      have : j = n := by omega
      subst this
      cases hc : (text.getD j 0 == 10) with
      | false => rfl
      | true => rw [beq_iff_eq.mp hc] at hsp; revert hsp; decide
    · left; simpa using hj1
  · have hn' : n = text.size := by omega
    refine ⟨4 + 1 + 1, by omega, ?_⟩
    have hW : isW text = true := Array.all_eq_true.mpr fun i hi => by rw [← getD_of_lt text hi]; exact h1 i (by omega)
    rw [key, hW]
    obtain ⟨s3, e3⟩ := stepW3 text n n [gbW n n] 1 s2
    rw [show atEnd text n = true by unfold atEnd; rw [hn']; simp, if_pos rfl] at e3
    obtain ⟨s4, e4⟩ := stepW4 text n n [gbW n n] 1 s3
    rw [show 4 = 3 + 1 from rfl, runFor_succ rfl, e3, show 3 = 2 + 1 from rfl, runFor_succ rfl, e4, show 2 = 1 + 1 from rfl, runFor_succ rfl, stepW5, show 1 = 0 + 1 from rfl, runFor_succ rfl]
    show ((M.step _)).outcome = _
    rw [stepW6]

/-- the machine at the headers' pattern -/
def mH (text : Array Nat) (pc pos handed : Nat) (marks : Array (Option Nat)) (lastmark lastindex : Int) (frames : List Sre.Frame) (weight : Nat) (answer : Option Bool) (seen : Seen) : M :=
  { code := cdH, text, lim := text.size, start := 0, pc, pos, handed, marks, lastmark, lastindex, frames, weight, answer, seen }
def isBT (c : Nat) : Bool := c == 32 || c == 9
theorem acc_bt (c : Nat) (seen : Seen) : ∃ seen', accepts cdH 13 c seen = .ok (isBT c, seen') := by
  have e0 : accepts cdH 13 c seen = (if (c == 32) = true then .ok (true, seen.add 16) else if (c == 9) = true then .ok (true, (seen.add 16).add 16) else .ok (!true, ((seen.add 16).add 16).add 0)) := rfl
  unfold isBT
  rw [e0]
  cases h1 : c == 32 <;> cases h2 : c == 9 <;> exact ⟨_, rfl⟩
theorem acc_hash (c : Nat) (seen : Seen) : ∃ seen', accepts cdH 25 c seen = .ok (c == 35, seen') := ⟨_, rfl⟩
theorem forH (text : Array Nat) : ∃ seen, forMatch cdH text 1 0 text.size false false = mH text 5 0 0 #[none, none] (-1) (-1) [] 0 none seen := ⟨_, rfl⟩
theorem stepH1 (text : Array Nat) (seen : Seen) : ∃ seen', (mH text 5 0 0 #[none, none] (-1) (-1) [] 0 none seen).step = mH text 7 0 0 #[none, none] (-1) (-1) [] 0 none seen' := ⟨_, rfl⟩
theorem stepH2 (text : Array Nat) (seen : Seen) : ∃ seen', (mH text 7 0 0 #[none, none] (-1) (-1) [] 0 none seen).step = mH text 9 0 0 #[some 0, none] 0 (-1) [] 0 none seen' := ⟨_, rfl⟩
def kH : Sre.Kept := { lastmark := 0, lastindex := -1, whole := false, marks := #[] }
def gbH (pc pos : Nat) (count : Int) : Sre.Frame := { wait := .giveBack, pc, pos, outermost := true, count, kept := kH }
theorem stepH3 (text : Array Nat) (hs : text.size < 4294967295) (seen : Seen) : ∃ n seen', (mH text 9 0 0 #[some 0, none] 0 (-1) [] 0 none seen).step = mH text 21 n n #[some 0, none] 0 (-1) [gbH 9 n n] 1 none seen' ∧ n ≤ text.size ∧
    (∀ j, j < n → isBT (text.getD j 0) = true) ∧ (n < text.size → isBT (text.getD n 0) = false) := by
  obtain ⟨k, seen', e, h1, h2, h3⟩ := run_spec (text := text) acc_bt text.size 0 0 ((seen.add 24).add 13)
  refine ⟨k, seen', ?_, h1, fun j hj => by have := h2 j hj; rwa [Nat.zero_add] at this, fun hk => by have := h3 hk; rwa [Nat.zero_add] at this⟩
  have hr : min 4294967295 ((text.size : Int) - ((0 : Nat) : Int)).toNat = text.size := by omega
  have e0 : (mH text 9 0 0 #[some 0, none] 0 (-1) [] 0 none seen).step = (if ((0 : Nat) : Int) > ((text.size : Int) - ((0 : Nat) : Int)) then M.say (mH text 9 0 0 #[some 0, none] 0 (-1) [] 0 none (seen.add 24)) false else repOne (mH text 9 0 0 #[some 0, none] 0 (-1) [] 0 none (seen.add 24)) 0 (Sre.run cdH text 13 (min 4294967295 ((text.size : Int) - ((0 : Nat) : Int)).toNat) 0 0 ((seen.add 24).add 13))) := rfl
  rw [e0, if_neg (by omega), hr, e, Nat.zero_add]
  have e1 : repOne (mH text 9 0 0 #[some 0, none] 0 (-1) [] 0 none (seen.add 24)) 0 (.ok (k, seen')) = (if k < 0 then M.say (mH text 9 0 0 #[some 0, none] 0 (-1) [] 0 none seen') false else M.afterRun (mH text 9 (0 + k) 0 #[some 0, none] 0 (-1) [] 0 none seen') .giveBack k kH) := rfl
  rw [e1, if_neg (by omega), Nat.zero_add]
  rfl
theorem stepH4 (text : Array Nat) (hs : text.size < 4294967295) (n : Nat) (hn : n ≤ text.size) (fr : Sre.Frame) (hfr : fr.kept = kH) (seen : Seen) : ∃ k seen', (mH text 21 n n #[some 0, none] 0 (-1) [fr] 1 none seen).step = mH text 28 (n + k) (n + k) #[some 0, none] 0 (-1) [gbH 21 (n + k) k, fr] 2 none seen' ∧ n + k ≤ text.size ∧
    (∀ j, j < k → (text.getD (n + j) 0 == 35) = true) ∧ (n + k < text.size → (text.getD (n + k) 0 == 35) = false) := by
  obtain ⟨k, seen', e, h1, h2, h3⟩ := run_spec (text := text) acc_hash (text.size - n) n 0 ((seen.add 24).add 16)
  refine ⟨k, seen', ?_, by omega, h2, fun hk => h3 (by omega)⟩
  have hr : min 4294967295 ((text.size : Int) - (n : Int)).toNat = text.size - n := by omega
  have e0 : (mH text 21 n n #[some 0, none] 0 (-1) [fr] 1 none seen).step = (if ((0 : Nat) : Int) > ((text.size : Int) - (n : Int)) then M.say (mH text 21 n n #[some 0, none] 0 (-1) [fr] 1 none (seen.add 24)) false else repOne (mH text 21 n n #[some 0, none] 0 (-1) [fr] 1 none (seen.add 24)) 0 (Sre.run cdH text 25 (min 4294967295 ((text.size : Int) - (n : Int)).toNat) n 0 ((seen.add 24).add 16))) := rfl
  rw [e0, if_neg (by omega), hr, e, Nat.zero_add]
  have e1 : repOne (mH text 21 n n #[some 0, none] 0 (-1) [fr] 1 none (seen.add 24)) 0 (.ok (k, seen')) = (if k < 0 then M.say (mH text 21 n n #[some 0, none] 0 (-1) [fr] 1 none seen') false else M.afterRun (mH text 21 (n + k) n #[some 0, none] 0 (-1) [fr] 1 none seen') .giveBack k kH) := rfl
  rw [e1, if_neg (by omega)]
  rfl
theorem stepH5 (text : Array Nat) (n : Nat) (fs : List Sre.Frame) (wt : Nat) (seen : Seen) : ∃ li seen', (mH text 28 n n #[some 0, none] 0 (-1) fs wt none seen).step = mH text 30 n n #[some 0, some n] 1 li fs wt none seen' := ⟨_, _, rfl⟩
theorem stepH6 (text : Array Nat) (n : Nat) (li : Int) (fs : List Sre.Frame) (wt : Nat) (seen : Seen) : ∃ seen', (mH text 30 n n #[some 0, some n] 1 li fs wt none seen).step = mH text 30 n n #[some 0, some n] 1 li fs wt (some true) seen' := ⟨_, rfl⟩
theorem stepH7 (text : Array Nat) (pc p h n q pc' wt : Nat) (li c : Int) (fs : List Sre.Frame) (seen : Seen) : (mH text pc p h #[some 0, some n] 1 li (gbH pc' q c :: fs) wt (some true) seen).step = mH text pc' q h #[some 0, some n] 1 li fs (wt - 1) (some true) seen := rfl

/-- how many signs the header has -/
structure HeadLen (text : Array Nat) (n : Nat) : Prop where
  le : n ≤ text.size
  cut : ∃ k, k ≤ n ∧ (∀ j, j < k → isBT (text.getD j 0) = true) ∧ (k < text.size → isBT (text.getD k 0) = false) ∧ (∀ j, k ≤ j → j < n → (text.getD j 0 == 35) = true) ∧ (n < text.size → (text.getD n 0 == 35) = false)

theorem runH (text : Array Nat) (hs : text.size < 4294967295) : ∃ n, HeadLen text n ∧ ((forMatch cdH text 1 0 text.size false false).runFor 9).outcome = some .matched ∧
    ((forMatch cdH text 1 0 text.size false false).runFor 9).marks = #[some 0, some n] ∧ ((forMatch cdH text 1 0 text.size false false).runFor 9).lastmark = 1 := by
  obtain ⟨s0, e0⟩ := forH text
  obtain ⟨s1, e1⟩ := stepH1 text s0
  obtain ⟨s2, e2⟩ := stepH2 text s1
  obtain ⟨n, s3, e3, hn, a1, a2⟩ := stepH3 text hs s2
  obtain ⟨k, s4, e4, hk, b1, b2⟩ := stepH4 text hs n hn (gbH 9 n n) rfl s3
  obtain ⟨li, s5, e5⟩ := stepH5 text (n + k) [gbH 21 (n + k) k, gbH 9 n n] 2 s4
  obtain ⟨s6, e6⟩ := stepH6 text (n + k) li [gbH 21 (n + k) k, gbH 9 n n] 2 s5
  have key : (forMatch cdH text 1 0 text.size false false).runFor 9 = (mH text 9 n (n + k) #[some 0, some (n + k)] 1 li [] 0 (some true) s6).runFor 1 := by
    rw [e0, show 9 = 8 + 1 from rfl, runFor_succ rfl, e1, show 8 = 7 + 1 from rfl, runFor_succ rfl, e2, show 7 = 6 + 1 from rfl, runFor_succ rfl, e3, show 6 = 5 + 1 from rfl, runFor_succ rfl, e4, show 5 = 4 + 1 from rfl, runFor_succ rfl, e5, show 4 = 3 + 1 from rfl, runFor_succ rfl, e6, show 3 = 2 + 1 from rfl, runFor_succ rfl, stepH7, show 2 = 1 + 1 from rfl, runFor_succ rfl, stepH7]
  refine ⟨n + k, ⟨hk, n, by omega, a1, a2, fun j h1 h2 => ?_, b2⟩, ?_, ?_, ?_⟩
  · have := b1 (j - n) (by omega); rwa [show n + (j - n) = j by omega] at this
  · rw [key]; rfl
  · rw [key]; rfl
  · rw [key]; rfl
end Mine.Rx

-- part Rx2
namespace Mine.Rx
open PySem PySem.Calls PySem.Builtin.Re
theorem plainAttrs_pat : PlainAttrs "re.Pattern" :=
  ⟨⟨"object.__getattribute__", by rw [typeLookup_type, builtinLookup_eq_fast]; kernel_rfl, by decide +kernel⟩, by rw [typeLookup_type, builtinLookup_eq_fast]; kernel_rfl⟩
theorem slot_pat_match : Slot "re.Pattern" "match" "re.Pattern.match" :=
  .of (owner := "re.Pattern") (n := "match") (by rw [typeLookup_type, builtinLookup_eq_fast]; kernel_rfl) (by decide +kernel) (by decide +kernel) (by decide +kernel)
    (by first | exact .inl (by decide +kernel) | exact .inr (by decide +kernel)) (by rw [isSubtype_type]; kernel_rfl)
theorem entry_pat_match : entryFor table "re.Pattern.match" = some Builtin.«re.Pattern.match» := entryFor_of_tree (by kernel_rfl)
theorem type_pat_match : typeOf (.builtin "re.Pattern.match") = pure (.type "method_descriptor") := by show builtinType _ = _; rw [builtinType_eq_fast]; kernel_rfl
theorem args_pat_match (a b : Value) : argsOk "re.Pattern.match" ⟨[a, b], []⟩ := by
  unfold argsOk; kernel_rfl
theorem plainAttrs_mat : PlainAttrs "re.Match" :=
  ⟨⟨"object.__getattribute__", by rw [typeLookup_type, builtinLookup_eq_fast]; kernel_rfl, by decide +kernel⟩, by rw [typeLookup_type, builtinLookup_eq_fast]; kernel_rfl⟩
theorem slot_mat_group : Slot "re.Match" "group" "re.Match.group" :=
  .of (owner := "re.Match") (n := "group") (by rw [typeLookup_type, builtinLookup_eq_fast]; kernel_rfl) (by decide +kernel) (by decide +kernel) (by decide +kernel)
    (by first | exact .inl (by decide +kernel) | exact .inr (by decide +kernel)) (by rw [isSubtype_type]; kernel_rfl)
theorem entry_mat_group : entryFor table "re.Match.group" = some Builtin.«re.Match.group» := entryFor_of_tree (by kernel_rfl)
theorem type_mat_group : typeOf (.builtin "re.Match.group") = pure (.type "method_descriptor") := by show builtinType _ = _; rw [builtinType_eq_fast]; kernel_rfl
theorem args_mat_group (a b : Value) : argsOk "re.Match.group" ⟨[a, b], []⟩ := by
  unfold argsOk; kernel_rfl
end Mine.Rx

-- part Rx3
namespace Mine.Rx
open PySem PySem.Calls PySem.Builtin.Re
section
variable {M : Model} {A : Around} {E : Value → Shared → Prop} {s : Shared}

theorem drive_ok {Q : Sre.M → Shared → Prop} : ∀ (turns N : Nat) (m : Sre.M), N ≤ 4 * turns → 0 < turns → (m.runFor N).outcome.isSome = true → Q (m.runFor N) s → wpAny M A (reDrive turns m) Q E s
  | 0, N, m, _, h0, _, _ => absurd h0 (Nat.lt_irrefl _)
  | t + 1, N, m, h1, _, h2, h3 => by
    show wpAny M A (if (m.runFor 4).outcome.isSome = true then pure (m.runFor 4) else (do rule "sre.turn"; reDrive t (m.runFor 4))) Q E s
    by_cases hd : (m.runFor 4).outcome.isSome = true
    · rw [if_pos hd]
      refine wpAny_pure ?_
      have : m.runFor 4 = m.runFor N := by
        rcases Nat.le_total 4 N with h | h
        · obtain ⟨d, rfl⟩ := Nat.exists_eq_add_of_le h
          rw [runFor_add, runFor_done hd]
        · obtain ⟨d, e⟩ := Nat.exists_eq_add_of_le h
          rw [e, runFor_add, runFor_done h2]
      rw [this]; exact h3
    · rw [if_neg hd]
      refine wpAny_bind (wpAny_rule ?_)
      have hN : 4 ≤ N := by
        rcases Nat.le_total 4 N with h | h
        · exact h
        · obtain ⟨d, e⟩ := Nat.exists_eq_add_of_le h
          rw [e, runFor_add, runFor_done h2] at hd
          exact absurd h2 hd
      obtain ⟨d, rfl⟩ := Nat.exists_eq_add_of_le hN
      rw [runFor_add] at h2 h3
      have ht : 0 < t ∨ t = 0 := by omega
      rcases ht with ht | rfl
      · exact drive_ok t d (m.runFor 4) (by omega) ht h2 h3
      · have : d = 0 := by omega
        subst this
        exact absurd h2 hd

theorem tell_ok {Q : PUnit → Shared → Prop} (seen : Sre.Seen) (h : Q ⟨⟩ s) : ∀ (l : List Nat), wpAny M A (forIn l PUnit.unit fun i r => do
    if seen.has i then rule (Sre.names.getD i "")
    pure (ForInStep.yield PUnit.unit)) Q E s
  | [] => wpAny_pure h
  | i :: l => by
    rw [List.forIn_cons]
    refine wpAny_bind ?_
    cases seen.has i with
    | true => exact wpAny_bind (wpAny_rule (wpAny_pure (tell_ok seen h l)))
    | false => exact wpAny_pure (tell_ok seen h l)

theorem runToEnd_ok {Q : Option Sre.M → Shared → Prop} {m : Sre.M} {N : Nat} {o : Sre.Outcome} (hN : N ≤ 2 ^ 60) (ho : (m.runFor N).outcome = some o)
    (h : match o with | .matched => Q (some (m.runFor N)) s | .failed => Q none s | .stuck _ => False) : wpAny M A (reRunToEnd m) Q E s := by
  unfold reRunToEnd
  refine wpAny_bind (drive_ok (2 ^ 64) N m (by omega) (by decide) (by rw [ho]; rfl) ?_)
  refine wpAny_bind (tell_ok _ ?_ _)
  rw [ho]
  cases o with
  | matched => exact wpAny_pure h
  | failed => exact wpAny_pure h
  | stuck _ => exact h.elim

theorem runToEnd_matched {Q : Option Sre.M → Shared → Prop} {m : Sre.M} {N : Nat} (hN : N ≤ 2 ^ 60) (ho : (m.runFor N).outcome = some .matched) (h : Q (some (m.runFor N)) s) : wpAny M A (reRunToEnd m) Q E s := runToEnd_ok hN ho h

def codeObj (cd : Array Value) : Obj := { cls := .type "tuple", data := .seq cd 0 }
def patObj (p0 p1 : Value) (groups : Int) (ca : Addr) : Obj := { cls := .type "re.Pattern", data := .fields #[p0, p1, .int groups 0, .none, .none, .ref ca, .int 0 0] }

theorem named_ok (v : Value) : reNamed "re.Pattern.match" "match" ["string", "pos", "endpos"] 1 [v] [] = pure [some v, none, none] := rfl
theorem target_ok {p0 p1 : Value} {groups : Int} {ca pa : Addr} {cd : Array Value} {x : Str} {t : Tok} {Q : ReTarget → Shared → Prop} (hp : s.heap.get? pa = some (patObj p0 p1 groups ca)) (hc : s.heap.get? ca = some (codeObj cd))
    (h : Q { pattern := .ref pa, string := .str x t, code := (cd.map reRawOf).map (·.toNat), text := x.cps, kind := 0, groups := groups.toNat, pos := 0, lim := min (2 ^ 63 - 1 : Int).toNat x.cps.size } s) :
    wpAny M A (reTarget "re.Pattern.match" "match" ⟨[.ref pa, .str x t], []⟩) Q E s := by
  unfold reTarget
  refine wpAny_bind (wpAny_of_eq (named_ok (.str x t)) ?_)
  refine wpAny_bind (wpAny_pure ?_)
  refine wpAny_bind (wpAny_pure ?_)
  refine wpAny_bind (m := fieldsOf _) (wpAny_bind (wpAny_load hp (wpAny_pure ?_)))
  refine wpAny_bind (m := reTextOf _) (wpAny_bind (m := asStr? _) (wpAny_pure (wpAny_pure ?_)))
  refine wpAny_bind (m := reNoCollectionInside _ _) (wpAny_pure ?_)
  refine wpAny_bind (m := reRawItems _) (wpAny_bind (m := seqItems? _) (wpAny_bind (wpAny_load hc (wpAny_pure (wpAny_pure ?_)))))
  exact wpAny_pure h
end
section
variable {prog : Program} {w : World} {A : Around} {E : Value → Shared → Prop} {s : Shared}
abbrev Ext (h h' : Heap) : Prop := ∀ b o, h.get? b = some o → h'.get? b = some o
theorem clip_ok (n : Nat) (h : n ≤ 2 ^ 24) : min (2 ^ 63 - 1 : Int).toNat n = n := by
  have : (2 ^ 63 - 1 : Int).toNat = 9223372036854775807 := by decide
  omega

def spansOf (groups : Nat) (m : Sre.M) : List Value := (List.range groups).flatMap fun g =>
    match if ((2 * g + 1 : Nat) : Int) ≤ m.lastmark then (m.marks.getD (2 * g) none, m.marks.getD (2 * g + 1) none) else (none, none) with
    | (some b, some e) => [rawInt b, rawInt e]
    | _ => [rawInt (-1), rawInt (-1)]
theorem get_none {h : Heap} {a : Addr} (e : h.objs.size ≤ a) : h.get? a = none := by
  cases q : h.get? a with
  | none => rfl
  | some o => exact absurd (Heap.lt_size q) (Nat.not_lt.mpr e)
theorem push_size (h : Heap) (o : Obj) : (h.push o).objs.size = h.objs.size + 1 := by cases h; simp [Heap.push]
theorem newMatch_ok {pattern string : Value} {groups pos lim : Nat} {m : Sre.M} {Q : Value → Shared → Prop}
    (hno : ((List.range groups).any (fun g => match m.marks.getD (2 * g) none, m.marks.getD (2 * g + 1) none with | some b, some e => ((2 * g + 1 : Nat) : Int) ≤ m.lastmark && e < b | _, _ => false)) = false)
    (hl : (spansOf groups m).length ≤ 8)
    (h : ∀ h' a ta, Ext s.heap h' → s.heap.get? a = none → s.heap.get? ta = none → h'.get? a = some { cls := .type "re.Match", data := .fields #[string, pattern, rawInt pos, rawInt lim, rawInt m.lastindex, .ref ta] } →
      h'.get? ta = some { cls := .type "tuple", data := .seq (rawInt m.start :: rawInt m.handed :: spansOf groups m).toArray } → Q (.ref a) { s with heap := h' }) :
    wpAny (model prog w) A (reNewMatch pattern string groups pos lim m) Q E s := by
  unfold reNewMatch
  dsimp only
  refine wpAny_ite ?_
  split
  · rename_i e; exact absurd (hno.symm.trans e) Bool.false_ne_true
  · refine wpAny_bind (wpAny_newObj_type ?_ ?_)
    · refine wpAny_newObj_type ?_ (by show (6 : Nat) ≤ _; decide)
      refine h _ _ s.heap.objs.size (fun b o e => Heap.get?_push_of_some _ (Heap.get?_push_of_some _ e)) ?_ (get_none (Nat.le_refl _)) (Heap.get?_push_size _ rfl) (Heap.get?_push_of_some _ (Heap.get?_push_size _ rfl))
      exact get_none (by show s.heap.objs.size ≤ (s.heap.push _).objs.size; rw [push_size]; exact Nat.le_succ _)
    · show (rawInt m.start :: rawInt m.handed :: spansOf groups m).toArray.size ≤ sizeLine
      rw [List.size_toArray, List.length_cons, List.length_cons]
      have : sizeLine = 16777216 := rfl
      omega

theorem pat_type {p0 p1 : Value} {groups : Int} {ca pa : Addr} (hp : s.heap.get? pa = some (patObj p0 p1 groups ca)) : s.TypeIs (.ref pa) "re.Pattern" := ⟨_, hp, rfl⟩

theorem match_W {p0 p1 : Value} {ca pa : Addr} {x : Str} {t : Tok} {Q : Value → Shared → Prop} (hp : s.heap.get? pa = some (patObj p0 p1 0 ca)) {cd : Array Value} (hc : s.heap.get? ca = some (codeObj cd)) (hv : (cd.map reRawOf).map (·.toNat) = cdW)
    (hx : x.cps.size ≤ 2 ^ 24) (h1 : isW x.cps = true → ∀ a h', Ext s.heap h' → Q (.ref a) { s with heap := h' }) (h0 : isW x.cps = false → Q .none s) :
    wpAny (model prog w) A (call (.builtin "re.Pattern.match") [.ref pa, .str x t]) Q E s := by
  refine wpAny_call_entry slot_pat_match (pat_type hp) entry_pat_match ?_ (args_pat_match _ _)
  unfold Builtin.«re.Pattern.match»
  refine wpAny_bind (target_ok hp hc ?_)
  dsimp only
  rw [hv, clip_ok _ hx, show (0 : Int).toNat = 0 from rfl]
  unfold reAnswer
  obtain ⟨N, hN, ho⟩ := runW x.cps (by omega)
  generalize Sre.forMatch cdW x.cps 0 0 x.cps.size false false = m at ho ⊢
  cases hw : isW x.cps with
  | false =>
    rw [hw] at ho
    exact wpAny_bind (runToEnd_ok (o := .failed) (N := N) (by omega) ho (wpAny_pure ⟨_, rfl, h0 hw⟩))
  | true =>
    rw [hw] at ho
    refine wpAny_bind (runToEnd_ok (o := .matched) (N := N) (by omega) ho ?_)
    refine wpAny_bind (newMatch_ok (groups := 0) rfl (Nat.zero_le 8) fun h' a ta he _ _ _ _ => wpAny_pure ⟨_, rfl, h1 hw a h' he⟩)

def matObj (x : Str) (t : Tok) (pa ta : Addr) (lim li : Value) : Obj := { cls := .type "re.Match", data := .fields #[.str x t, .ref pa, rawInt 0, lim, li, .ref ta] }
def spanObj (v1 v2 : Value) (n : Nat) : Obj := { cls := .type "tuple", data := .seq #[v1, v2, rawInt 0, rawInt n] }
theorem match_H {p0 p1 : Value} {ca pa : Addr} {x : Str} {t : Tok} {Q : Value → Shared → Prop} (hp : s.heap.get? pa = some (patObj p0 p1 1 ca)) {cd : Array Value} (hc : s.heap.get? ca = some (codeObj cd)) (hv : (cd.map reRawOf).map (·.toNat) = cdH)
    (hx : x.cps.size ≤ 2 ^ 24) (h : ∀ a ta h' lim li v1 v2 n, Ext s.heap h' → s.heap.get? a = none → s.heap.get? ta = none → h'.get? a = some (matObj x t pa ta lim li) → h'.get? ta = some (spanObj v1 v2 n) → HeadLen x.cps n → Q (.ref a) { s with heap := h' }) :
    wpAny (model prog w) A (call (.builtin "re.Pattern.match") [.ref pa, .str x t]) Q E s := by
  refine wpAny_call_entry slot_pat_match (pat_type hp) entry_pat_match ?_ (args_pat_match _ _)
  unfold Builtin.«re.Pattern.match»
  refine wpAny_bind (target_ok hp hc ?_)
  dsimp only
  rw [hv, clip_ok _ hx, show (1 : Int).toNat = 1 from rfl]
  unfold reAnswer
  obtain ⟨n, hn, ho, hm, hl⟩ := runH x.cps (by omega)
  generalize Sre.forMatch cdH x.cps 1 0 x.cps.size false false = m at ho hm hl ⊢
  refine wpAny_bind (runToEnd_matched (N := 9) (by decide) ho ?_)
  dsimp only
  generalize m.runFor 9 = m' at ho hm hl ⊢
  have hs : spansOf 1 m' = [rawInt 0, rawInt n] := by
    have e : spansOf 1 m' = (match if ((2 * 0 + 1 : Nat) : Int) ≤ m'.lastmark then (m'.marks.getD (2 * 0) none, m'.marks.getD (2 * 0 + 1) none) else (none, none) with
      | (some b, some e) => [rawInt b, rawInt e]
      | _ => [rawInt (-1), rawInt (-1)]) ++ [] := rfl
    rw [e, hm, hl, if_pos (by decide)]; rfl
  refine wpAny_bind (newMatch_ok (groups := 1) ?_ (by rw [hs]; exact Nat.le_of_ble_eq_true rfl) fun h' a ta he n1 n2 h1 h2 => wpAny_pure ⟨_, rfl, h a ta h' _ _ _ _ n he n1 n2 h1 (by rw [hs] at h2; exact h2) hn⟩)
  show ((match m'.marks.getD (2 * 0) none, m'.marks.getD (2 * 0 + 1) none with | some b, some e => decide (((2 * 0 + 1 : Nat) : Int) ≤ m'.lastmark) && decide (e < b) | _, _ => false) || false) = false
  rw [hm, hl]
  show ((decide _ && decide (n < 0)) || false) = false
  simp

theorem group_H {a ta pa : Addr} {x : Str} {t u : Tok} {lim li v1 v2 : Value} {n : Nat} {Q : Value → Shared → Prop} (ha : s.heap.get? a = some (matObj x t pa ta lim li)) (ht : s.heap.get? ta = some (spanObj v1 v2 n))
    (hx : x.cps.size ≤ 2 ^ 24) (h : ∀ tk', Q (.str ⟨x.cps.extract 0 n⟩ tk') { s with toks := s.toks + 1 }) :
    wpAny (model prog w) A (call (.builtin "re.Match.group") [.ref a, .int 1 u]) Q E s := by
  refine wpAny_call_entry slot_mat_group ⟨_, ha, rfl⟩ entry_mat_group ?_ (args_mat_group _ _)
  unfold Builtin.«re.Match.group»
  refine wpAny_bind (m := noKeywords _ _) (wpAny_pure ?_)
  refine wpAny_bind (m := reFound _) (wpAny_bind (m := fieldsOf _) (wpAny_bind (wpAny_load ha (wpAny_pure ?_))))
  refine wpAny_bind (m := reRawItems _) (wpAny_bind (m := seqItems? _) (wpAny_bind (wpAny_load ht (wpAny_pure (wpAny_pure (wpAny_pure ?_))))))
  dsimp only
  have hsp : Array.map reRawOf ((some #[v1, v2, rawInt 0, rawInt (n : Int)]).getD #[]) = #[reRawOf v1, reRawOf v2, 0, (n : Int)] := by simp [reRawOf, rawInt]
  rw [hsp]
  refine wpAny_bind (m := reGroupNumber _ _) ?_
  unfold reGroupNumber
  refine wpAny_bind (m := asInt? _) (wpAny_pure ?_)
  refine wpAny_bind (m := asIndex _) (wpAny_bind (m := asInt? _) (wpAny_pure (wpAny_pure ?_)))
  dsimp only
  refine wpAny_ite ?_
  refine PySem.W.ite_neg (show ¬ (decide ((1 : Int) < 0) || decide (2 * (1 : Int) ≥ ((4 : Nat) : Int))) = true by decide) ?_
  refine wpAny_pure ?_
  refine wpAny_bind (m := reGroupText _ _ _) ?_
  unfold reGroupText
  dsimp only
  refine wpAny_ite ?_
  refine PySem.W.ite_neg (show ¬ (decide ((0 : Int) < 0) || decide ((n : Int) < 0)) = true by simp) ?_
  refine wpAny_bind (m := reTextOf _) (wpAny_bind (m := asStr? _) (wpAny_pure (wpAny_pure ?_)))
  refine wpAny_mkStr (wpAny_pure ⟨_, rfl, h _⟩) ?_
  show (x.cps.extract 0 n).size ≤ sizeLine
  have : sizeLine = 16777216 := rfl
  simp
  omega
end
end Mine.Rx

namespace Mine
open PySem PySem.W PyProof.Rows PySem.Calls

-- part Top02
set_option maxHeartbeats 8000000
open_top hd for PySem.Challenge.rw_dm0163_02
set_option maxHeartbeats 200000
/-- the head leaves the walk's switch on: off again -/
theorem topOff : True := by
  w_top off
  exact True.intro

-- part Base01_2
abbrev Ext (h h' : Heap) : Prop := ∀ b o, h.get? b = some o → h'.get? b = some o

abbrev ar (dp un : Nat) (fr : Option (List Env)) (gd : Option (List Code)) : Around := { handled := none, depth := dp, frames := fr, guards := gd, units := un }
theorem ar_deeper {dp un : Nat} {fr : Option (List Env)} {gd : Option (List Code)} (env : Env) : ∃ fr', (ar dp un fr gd).deeper env = ar (dp + 1) (un + 3) fr' gd := ⟨_, rfl⟩

theorem enterP {prog : Program} {w : World} {dp un : Nat} {fr : Option (List Env)} {gd : Option (List Code)} {E : Value → Shared → Prop} {s : Shared} {K : Frag} {Q : Value → Shared → Prop}
    {name qual : Str} {params : Arguments} {body : List Stmt} {scope : Scope} {dV kV doc pm cdv ct oc : Value} {an od : Option Addr} {osl : Array (Option Value)} {f : Addr} {pos : List Value} {binds : List (Str × Value)}
    (X : K.In s.heap) (hlim : s.heap.NoLimit)
    (ho : K.lookup f = some ⟨oc, od, .func (fnOf name qual params body scope dV kV doc pm an cdv ct), osl⟩) (hcd : codeIn K cdv qual = true) (hroom : dp + 1 < recursionLimit)
    (hbind : BindsTo s (fnOf name qual params body scope dV kV doc pm an cdv ct) ⟨pos, []⟩ binds) (hloc : ∀ y ∈ binds, scope.names.lookup y.1 = some .local)
    (hcell : ∀ x ∈ scope.names, x.2 ≠ .cell) (hco : scope.isCoroutine = false) (hgen : scope.isGenerator = false) (hk : scope.kind = .function)
    (h : ∀ L h₁ fr', Fr s.heap L h₁ (fun y => binds.reverse.lookup y) → News s.heap L h₁ [] →
      wpAny (model prog w) (ar (dp + 1) (un + 3) fr' gd) (execs body (envOf qual scope L f cdv))
        (fun fl s' => Q (match fl with | .ret v => v | _ => .none) s') (fun _ _ => False)
        { s with heap := h₁, toks := s.toks + binds.length }) :
    wpAny (model prog w) (ar dp un fr gd) (call (.ref f) pos) Q E s := by
  refine wpAny_call ?_
  refine codeAny_call_def (fd := fnOf name qual params body scope dV kV doc pm an cdv ct) (body := body) (binds := binds) (by show dp < _; omega) (X _ _ ho) rfl hlim (codeRec_of X hcd) rfl hbind hcell hloc (fun h₁ hns hk₁ => ?_) hco hgen hk
  obtain ⟨fr', e⟩ := ar_deeper (dp := dp) (un := un) (fr := fr) (gd := gd) (callEnv (fnOf name qual params body scope dV kV doc pm an cdv ct) s.heap.objs.size f)
  rw [e]
  exact wpAny_mono (h s.heap.objs.size h₁ fr' ⟨hns, hk₁, Nat.le_refl _⟩ News.nil) (fun _ _ x => x) (fun _ _ x => x.elim)
theorem frExt {h₀ h h' : Heap} {L : Addr} {m : Str → Option Value} (F : Fr h₀ L h m) (e : Ext h h') : Fr h₀ L h' m :=
  ⟨F.ns.keeps e, fun b o q => e b o (F.keep b o q), F.above⟩
theorem newsExt {h₀ h h' : Heap} {L : Addr} {news : List (Addr × Obj)} (N : News h₀ L h news) (e : Ext h h') : News h₀ L h' news :=
  fun p hp => ⟨e _ _ (N p hp).1, (N p hp).2⟩
theorem newsAdd {h₀ h h' : Heap} {L a : Addr} {o : Obj} {m : Str → Option Value} {news : List (Addr × Obj)} (F : Fr h₀ L h m) (N : News h₀ L h' news) (hn : h.get? a = none) (ha : h'.get? a = some o) : News h₀ L h' ((a, o) :: news) := by
  intro p hp
  rcases List.mem_cons.mp hp with rfl | hp
  · refine ⟨ha, fun e => ?_, ?_⟩
    · obtain ⟨oL, _, _, hL, _⟩ := F.ns
      have e' : a = L := e
      rw [← e', hn] at hL; cases hL
    · cases q : h₀.get? a with
      | none => rfl
      | some o' => have := F.keep _ _ q; rw [hn] at this; cases this
  · exact N p hp

-- part Fn1_2
theorem fill0 : (PySem.Challenge.rw_dm0163_02, hd.heap_39) = (PySem.Challenge.rw_dm0163_02, hd.heap_39) := by k_fill; rfl
local macro_rules | `(tactic| walk_at "my enter") => `(tactic| (refine' enterP (K := hd.heap_39 _) (by assumption) (Top.nolimit (by assumption)) ?k6 ?k7 (by omega) ?k9 ?kB ?c5 ?c2 ?c3 ?c4 ?_; (case k6 => k_is); (case k7 => k_is); (case k9 => exact BindsTo.of_eq rfl); (case kB => exact locs rfl); (case c5 => decide); (case c2 => rfl); (case c3 => rfl); (case c4 => rfl); intro L h₁ fr' F N; dsimp only; k_fold))

section
variable {prog : Program} {w : World} {A : Around} {E : Value → Shared → Prop} {s : Shared} {K : Frag}
theorem getMethod_pat {p0 p1 : Value} {groups : Int} {ca pa : Addr} {pl : Sem Bool} {Q : Value × List Value → Shared → Prop} (X : K.In s.heap) (hp : K.lookup pa = some (Rx.patObj p0 p1 groups ca)) (h : Q (.builtin "re.Pattern.match", [.ref pa]) s) :
    wpAny (model prog w) A (getMethod (.ref pa) "match" pl) Q E s :=
  getMethod_builtin (Rx.pat_type (X _ _ hp)) Rx.plainAttrs_pat Rx.slot_pat_match Rx.type_pat_match (fun a e => by cases e; exact ⟨_, X _ _ hp, rfl⟩) h
theorem getMethod_mat {x : Str} {t : Tok} {a ta pa : Addr} {lim li : Value} {pl : Sem Bool} {Q : Value × List Value → Shared → Prop} (hp : s.heap.get? a = some (Rx.matObj x t pa ta lim li)) (h : Q (.builtin "re.Match.group", [.ref a]) s) :
    wpAny (model prog w) A (getMethod (.ref a) "group" pl) Q E s :=
  getMethod_builtin (T := "re.Match") ⟨_, hp, rfl⟩ Rx.plainAttrs_mat Rx.slot_mat_group Rx.type_mat_group (fun a e => by cases e; exact ⟨_, hp, rfl⟩) h
theorem call_W {p0 p1 : Value} {ca pa : Addr} {x : Str} {t : Tok} {Q : Value → Shared → Prop} (X : K.In s.heap) (hp : K.lookup pa = some (Rx.patObj p0 p1 0 ca)) {cd : Array Value} (hc : K.lookup ca = some (Rx.codeObj cd)) (hv : (cd.map PySem.Builtin.Re.reRawOf).map (·.toNat) = Rx.cdW)
    (hx : x.length ≤ 2 ^ 24) (h1 : Rx.isW x.cps = true → ∀ a h', Ext s.heap h' → Q (.ref a) { s with heap := h' }) (h0 : Rx.isW x.cps = false → Q .none s) :
    wpAny (model prog w) A (call (.builtin "re.Pattern.match") [.ref pa, .str x t]) Q E s := Rx.match_W (X _ _ hp) (X _ _ hc) hv hx h1 h0
theorem call_H {p0 p1 : Value} {ca pa : Addr} {x : Str} {t : Tok} {Q : Value → Shared → Prop} (X : K.In s.heap) (hp : K.lookup pa = some (Rx.patObj p0 p1 1 ca)) {cd : Array Value} (hc : K.lookup ca = some (Rx.codeObj cd)) (hv : (cd.map PySem.Builtin.Re.reRawOf).map (·.toNat) = Rx.cdH)
    (hx : x.length ≤ 2 ^ 24) (h : ∀ a ta h' lim li v1 v2 n, Ext s.heap h' → s.heap.get? a = none → s.heap.get? ta = none → h'.get? a = some (Rx.matObj x t pa ta lim li) → h'.get? ta = some (Rx.spanObj v1 v2 n) → Rx.HeadLen x.cps n → Q (.ref a) { s with heap := h' }) :
    wpAny (model prog w) A (call (.builtin "re.Pattern.match") [.ref pa, .str x t]) Q E s := Rx.match_H (X _ _ hp) (X _ _ hc) hv hx h
end
local macro_rules | `(tactic| walk_at "getMethod ref") => `(tactic| ((with_reducible show wpAny _ _ (getMethod _ (PySem.Str.ofString "match") _) _ _ _); k_dflt (refine' getMethod_pat (K := hd.heap_39 _) ?k1 ?k2 ?_; (case k1 => k_in); (case k2 => k_is))))
local macro_rules | `(tactic| walk_at "getMethod ref") => `(tactic| ((with_reducible show wpAny _ _ (getMethod _ (PySem.Str.ofString "group") _) _ _ _); k_dflt (refine' getMethod_mat ?k1 ?_; (case k1 => exact News.get (by assumption) (by k_mem)))))
local macro_rules | `(tactic| walk_at "call builtin:re.Pattern.match") => `(tactic| (k_dflt (refine' call_W (K := hd.heap_39 _) ?k1 ?k2 ?k3 ?kv ?k4 ?k5 ?k6; (case k1 => k_in); (case k2 => k_is); (case k3 => k_is); (case kv => decide +kernel); (case k4 => assumption); (case' k5 => (intro hw a' h' he; (have F' := frExt (by assumption) he); (have N' := newsExt (by assumption) he))); (case' k6 => intro hw))))
local macro_rules | `(tactic| walk_at "call builtin:re.Pattern.match") => `(tactic| (k_dflt (refine' call_H (K := hd.heap_39 _) ?k1 ?k2 ?k3 ?kv ?k4 ?k5; (case k1 => k_in); (case k2 => k_is); (case k3 => k_is); (case kv => decide +kernel); (case k4 => assumption)); intro a' ta' h' lim' li' v1' v2' n' he na' nta' ha' hta' hn'; (have F' := frExt (by assumption) he); (have N1 := newsExt (by assumption) he); (have N2 := newsAdd (by assumption) N1 nta' hta'); (have N' := newsAdd (by assumption) N2 na' ha'); clear N1 N2 he na' nta' ha' hta'))
local macro_rules | `(tactic| walk_at "call builtin:re.Match.group") => `(tactic| (k_dflt (refine' Rx.group_H ?k1 ?k2 ?k3 ?k4; (case k1 => exact News.get (by assumption) (by k_mem)); (case k2 => exact News.get (by assumption) (by k_mem)); (case k3 => assumption)); intro tk'))

set_option maxHeartbeats 4000000 in
theorem white_call {prog : Program} {w : World} {dp un : Nat} {fr gd} {s : Shared} {Q : Value → Shared → Prop} {E} {p loose mean mg mb} (X : (hd.heap_39 w.params).In s.heap) (T : Top p loose mean mg mb s.heap) (hr : dp + 20 < recursionLimit) {x : Str} {t : Tok} (hx : x.length ≤ 2^24)
   (h : ∀ h' tk', Ext s.heap h' → Q (.bool (Rx.isW x.cps)) {s with heap := h', toks := tk'}) : wpAny (model prog w) (ar dp un fr gd) (call (.ref 62) [.str x t]) Q E s := by
  walk_at "my enter"
  k_steps
  all_goals (rename Rx.isW _ = _ => hw; rw [hw] at h; exact h _ _ (Fr.keep (by assumption)))
set_option maxHeartbeats 4000000 in
theorem header_call {prog : Program} {w : World} {dp un : Nat} {fr gd} {s : Shared} {Q : Value → Shared → Prop} {E} {p loose mean mg mb} (X : (hd.heap_39 w.params).In s.heap) (T : Top p loose mean mg mb s.heap) (hr : dp + 20 < recursionLimit) {x : Str} {t : Tok} (hx : x.length ≤ 2^24)
   (h : ∀ h' tk' t' n, Ext s.heap h' → Rx.HeadLen x.cps n → Q (.str ⟨x.cps.extract 0 n⟩ t') {s with heap := h', toks := tk'}) : wpAny (model prog w) (ar dp un fr gd) (call (.ref 69) [.str x t]) Q E s := by
  walk_at "my enter"
  k_steps
  exact h _ _ _ _ (Fr.keep (by assumption)) (by assumption)

-- part Tx_2
def dec (n : Int) : Str := Str.ofString (toString n)
def d0 (n : Int) : Str := dec n ++ Str.ofString ".0"
def dE (n : Int) : Str := dec n ++ Str.ofString ".end"
theorem split_d0N : ∀ n : Nat, n < 100 → Txt.split (d0 n) (Str.ofString ".") = [dec n, Str.ofString "0"] := by decide +kernel
theorem split_dEN : ∀ n : Nat, n < 100 → Txt.split (dE n) (Str.ofString ".") = [dec n, Str.ofString "end"] := by decide +kernel
theorem len_d0N : ∀ n : Nat, n < 100 → (d0 n).length ≤ 4 := by decide +kernel
theorem len_dEN : ∀ n : Nat, n < 100 → (dE n).length ≤ 6 := by decide +kernel
theorem natOf {n : Int} (h0 : 0 ≤ n) (h1 : n < 100) : ∃ k : Nat, n = k ∧ k < 100 := ⟨n.toNat, by omega, by omega⟩
theorem split_d0 {n : Int} (h0 : 0 ≤ n) (h1 : n < 100) : Txt.split (d0 n) (Str.ofString ".") = [dec n, Str.ofString "0"] := by
  obtain ⟨k, rfl, hk⟩ := natOf h0 h1; exact split_d0N k hk
theorem split_dE {n : Int} (h0 : 0 ≤ n) (h1 : n < 100) : Txt.split (dE n) (Str.ofString ".") = [dec n, Str.ofString "end"] := by
  obtain ⟨k, rfl, hk⟩ := natOf h0 h1; exact split_dEN k hk
theorem len_d0 {n : Int} (h0 : 0 ≤ n) (h1 : n < 100) : (d0 n).length ≤ 4 := by obtain ⟨k, rfl, hk⟩ := natOf h0 h1; exact len_d0N k hk
theorem len_dE {n : Int} (h0 : 0 ≤ n) (h1 : n < 100) : (dE n).length ≤ 6 := by obtain ⟨k, rfl, hk⟩ := natOf h0 h1; exact len_dEN k hk
section
variable {prog : Program} {w : World} {A : Around} {E : Value → Shared → Prop} {s : Shared} {Q : Value → Shared → Prop} {t u : Tok} {n : Int}
set_option maxHeartbeats 4000000 in
theorem mod_d0 (h0 : 0 ≤ n) (h1 : n < 100) (h : ∀ t' k, Q (.str (d0 n) t') { s with toks := k }) : wpAny (model prog w) A (binaryOp .Mod (.str (Str.ofString "%d.0") t) (.int n u)) Q E s := by
  refine KPc.mod_int (T := fun i => d0 i) (X' := ⟨#[37, 100, 46, 48]⟩) (by decide +kernel) h0 (by omega) ?_ h
  unfold d0 dec
  kpc_run
set_option maxHeartbeats 4000000 in
theorem mod_dE (h0 : 0 ≤ n) (h1 : n < 100) (h : ∀ t' k, Q (.str (dE n) t') { s with toks := k }) : wpAny (model prog w) A (binaryOp .Mod (.str (Str.ofString "%d.end") t) (.int n u)) Q E s := by
  refine KPc.mod_int (T := fun i => dE i) (X' := ⟨#[37, 100, 46, 101, 110, 100]⟩) (by decide +kernel) h0 (by omega) ?_ h
  unfold dE dec
  kpc_run
theorem int_dec (h0 : 0 ≤ n) (h1 : n < 100) (h : Q (.int n s.toks) { s with toks := s.toks + 1 }) : wpAny (model prog w) A (call (.type "int") [.str (dec n) t]) Q E s := KIN.call_num h0 (by omega) h
variable {h₀ : Heap} {L : Addr} {m : PySem.Str → Option Value} {news : List (Addr × Obj)}
theorem split_two {x a b : Str} (hF : Fr h₀ L s.heap m) (hN : News h₀ L s.heap news) (hx : Txt.split x (Str.ofString ".") = [a, b]) (hl : x.length ≤ 100)
    (h : ∀ D t1 t2 h' k, Fr h₀ L h' m → News h₀ L h' ((D, listOf #[.str a t1, .str b t2] 0) :: news) → (∀ p ∈ news, p.1 < D) → Q (.ref D) { s with heap := h', toks := k }) :
    wpAny (model prog w) A (call (.builtin "str.split") [.str x t, .str (Str.ofString ".") u]) Q E s := by
  refine KSpl.split1 hF hN (by decide) ?_ (by rw [show sizeLine = 16777216 from rfl]; omega)
  intro D l h' k e _ F N lt
  rw [hx] at e
  obtain ⟨t1, l1, rfl, e1⟩ := KSpl.cons_of e
  obtain ⟨t2, l2, rfl, e2⟩ := KSpl.cons_of e1
  have e3 := KSpl.nil_of e2
  subst e3
  exact h D t1 t2 h' k F N lt
end

-- part Lc_2
inductive All2 {α β : Type} (R : α → β → Prop) : List α → List β → Prop
  | nil : All2 R [] []
  | cons {a : α} {b : β} {as : List α} {bs : List β} : R a b → All2 R as bs → All2 R (a :: as) (b :: bs)
theorem All2.snoc {α β : Type} {R : α → β → Prop} {a : α} {b : β} : ∀ {as : List α} {bs : List β}, All2 R as bs → R a b → All2 R (as ++ [a]) (bs ++ [b])
  | _, _, .nil, h => .cons h .nil
  | _, _, .cons x r, h => .cons x (r.snoc h)
theorem All2.len {α β : Type} {R : α → β → Prop} : ∀ {as : List α} {bs : List β}, All2 R as bs → bs.length = as.length
  | _, _, .nil => rfl
  | _, _, .cons _ r => by rw [List.length_cons, List.length_cons, r.len]
theorem All2.imp {α β : Type} {R S : α → β → Prop} (f : ∀ a b, R a b → S a b) : ∀ {as : List α} {bs : List β}, All2 R as bs → All2 S as bs
  | _, _, .nil => .nil
  | _, _, .cons x r => .cons (f _ _ x) (r.imp f)
theorem All2.at {α β : Type} {R : α → β → Prop} : ∀ {as : List α} {bs : List β}, All2 R as bs → ∀ (i : Nat) (a : α), as[i]? = some a → ∃ b, bs[i]? = some b ∧ R a b
  | _, _, .nil, i, a, h => by simp at h
  | _, _, .cons x r, 0, a, h => by simp at h; subst h; exact ⟨_, rfl, x⟩
  | _, _, .cons x r, i + 1, a, h => by simp at h; obtain ⟨b, e, q⟩ := r.at i a h; exact ⟨b, by simpa using e, q⟩
/-- a value that is this text -/
def IsS (x : Str) (v : Value) : Prop := ∃ t, v = .str x t
def IsI (n : Int) (v : Value) : Prop := ∃ t, v = .int n t
theorem All2.strs {α : Type} {g : α → Str} : ∀ {as : List α} {vs : List Value}, All2 (fun a v => IsS (g a) v) as vs → StrsAre vs (as.map g)
  | _, _, .nil => .nil
  | _, _, .cons ⟨_, e⟩ r => by subst e; exact .cons _ _ r.strs
theorem All2.ints {α : Type} {g : α → Int} : ∀ {as : List α} {vs : List Value}, All2 (fun a v => IsI (g a) v) as vs → IntsAre vs (as.map g)
  | _, _, .nil => .nil
  | _, _, .cons ⟨_, e⟩ r => by subst e; exact .cons _ _ r.ints
theorem strs_at {vs : List Value} {ys : List Str} (h : StrsAre vs ys) (i : Nat) (v : Value) (e : vs.toArray[i]? = some v) : ∃ y, ys[i]? = some y ∧ IsS y v := by
  obtain ⟨y, t, rfl, hy⟩ := StrsAre.item h i v (by simpa using e)
  exact ⟨y, hy, t, rfl⟩
theorem ints_at {vs : List Value} {ns : List Int} (h : IntsAre vs ns) (i : Nat) (v : Value) (e : vs.toArray[i]? = some v) : ∃ n, ns[i]? = some n ∧ IsI n v := by
  obtain ⟨k, t, rfl, hk⟩ := IntsAre.at h i v (by simpa using e)
  exact ⟨k, hk, t, rfl⟩

section
variable {prog : Program} {w : World} {A : Around} {h₀ : Heap} {L : Addr} {m : Str → Option Value} {env : Env} {elt : Expr} {x : Str} {scope : Scope} {cl : List (Str × Addr)} {s : Shared} {S : List (Addr × Obj) → Prop} {P : Nat → Value → Prop} {Fin : List Value → List (Addr × Obj) → Prop} {news : List (Addr × Obj)}

/-- the end of one turn: everything known stands, the new value is as told -/
def TurnEnd' (h₀ : Heap) (L : Addr) (m : Str → Option Value) (s : Shared) (led : List (Addr × Obj)) (out : Value → Prop) (y : Value) (s₂ : Shared) : Prop :=
  ∃ h' tk', s₂ = { s with heap := h', toks := tk' } ∧ Fr h₀ L h' m ∧ News h₀ L h' led ∧ out y

theorem rest_map {n : Nat} {α : Type} (xs : List α) (rel out : α → Value → Prop) (hlen : xs.length = n) (hP : ∀ i v, i < n → P i v → ∃ a, xs[i]? = some a ∧ rel a v) (hS : S news)
    (turn : ∀ a v I oI C oC D m₂ ys h tk (E' : Value → Shared → Prop), a ∈ xs → rel a v → LCg.NsObj oC m₂ → m₂ x = some v → Fr h₀ L h m → News h₀ L h ((I, oI) :: (C, oC) :: (D, LCg.lst ys) :: news) → LCg.Off3 I C D news → ((@Ne Nat I C) ∧ (@Ne Nat I D) ∧ (@Ne Nat C D)) →
      wpAny (model prog w) A (eval elt (compEnvC scope cl C env)) (TurnEnd' h₀ L m s ((I, oI) :: (C, oC) :: (D, LCg.lst ys) :: news) (out a)) E' { s with heap := h, toks := tk })
    (fin : ∀ ys, All2 out xs ys → Fin ys news) : LCg.CompRest prog w A h₀ L m env elt x scope cl s S P Fin n 0 [] news := by
  have key : ∀ (j i : Nat) (ys : List Value), i + j = n → All2 out (xs.take i) ys → LCg.CompRest prog w A h₀ L m env elt x scope cl s S P Fin j i ys news := by
    intro j
    induction j with
    | zero =>
      intro i ys hi hy
      have e : i = xs.length := by omega
      subst e
      rw [List.take_length] at hy
      exact LCg.CompRest.zero (fin ys hy)
    | succ j ih =>
      intro i ys hi hy
      refine LCg.CompRest.succ ?_
      intro v I oI C oC D m₂ h tk E' hv hC hx F N off ne
      obtain ⟨a, ha, hr⟩ := hP i v (by omega) hv
      refine wpAny_mono (turn a v I oI C oC D m₂ ys h tk E' (List.mem_of_getElem? ha) hr hC hx F N off ne) (fun y s₂ hq => ?_) fun _ _ e => e
      obtain ⟨h', tk', e, F', N', ho⟩ := hq
      refine ⟨h', tk', news, e, F', N', off, hS, ?_⟩
      refine ih (i + 1) _ (by omega) ?_
      rw [List.take_add_one, ha]
      exact hy.snoc ho
  exact key n 0 [] (by omega) (by rw [List.take_zero]; exact .nil)
end

theorem slice_run (items : Array Value) (a b : Nat) : slicePick items (some (a : Int)) (some (b : Int)) none = ((items.toList.take b).drop a).toArray := by
  rw [slicePick_plain]
  simp only [Option.elim, clipAt_nat]
  congr 1
  apply List.ext_getElem?
  intro i
  have hs : items.toList.length = items.size := Array.length_toList
  rw [List.getElem?_take, List.getElem?_drop, List.getElem?_drop, List.getElem?_take]
  by_cases h1 : a + i < items.size
  · rw [show min a items.size + i = a + i by omega]
    by_cases h2 : a + i < b
    · rw [if_pos (by omega), if_pos h2]
    · rw [if_neg (by omega), if_neg h2]
  · rw [List.getElem?_eq_none (l := items.toList) (i := a + i) (by omega)]
    by_cases h3 : i < min b items.size - min a items.size
    · exfalso; omega
    · rw [if_neg h3]; simp
theorem slice_strs {vs : List Value} {ys : List Str} (h : StrsAre vs ys) {a b : Int} (ha : 0 ≤ a) (hb : 0 ≤ b) : StrsAre (slicePick vs.toArray (some a) (some b) none).toList ((ys.take b.toNat).drop a.toNat) := by
  have e := slice_run vs.toArray a.toNat b.toNat
  rw [Int.toNat_of_nonneg ha, Int.toNat_of_nonneg hb] at e
  rw [e]
  simpa using (h.take' b.toNat).drop' a.toNat
theorem strs_at' {its : Array Value} {ys : List Str} (h : StrsAre its.toList ys) (i : Nat) (v : Value) (e : its[i]? = some v) : ∃ y, ys[i]? = some y ∧ IsS y v := by
  obtain ⟨y, t, rfl, hy⟩ := StrsAre.item h i v (by simpa using e)
  exact ⟨y, hy, t, rfl⟩
theorem strs_size' {its : Array Value} {ys : List Str} (h : StrsAre its.toList ys) : ys.length = its.size := by rw [← h.length, Array.length_toList]

theorem sum_le (B : Nat) : ∀ (ys : List Str), (∀ y ∈ ys, y.length ≤ B) → (ys.map (·.length)).sum ≤ B * ys.length
  | [], _ => by simp
  | y :: r, h => by
    have h1 := h y List.mem_cons_self
    have h2 := sum_le B r fun z hz => h z (List.mem_cons_of_mem _ hz)
    rw [List.map_cons, List.sum_cons, List.length_cons, Nat.mul_succ]
    omega

-- part Fn2_2
theorem fill1 : (PySem.Challenge.rw_dm0163_02, hd.heap_39) = (PySem.Challenge.rw_dm0163_02, hd.heap_39) := by k_fill; rfl
local macro_rules | `(tactic| walk_at "binaryOp Mod str int") => `(tactic| (first | (refine mod_d0 (by omega) (by omega) ?_) | (refine mod_dE (by omega) (by omega) ?_); intro t' k'))
local macro_rules | `(tactic| walk_at "call builtin:str.split") => `(tactic| ((first | (refine split_two (by k_asm) (by k_asm) (split_d0 (by omega) (by omega)) (Nat.le_trans (len_d0 (by omega) (by omega)) (by decide)) ?_) | (refine split_two (by k_asm) (by k_asm) (split_dE (by omega) (by omega)) (Nat.le_trans (len_dE (by omega) (by omega)) (by decide)) ?_)); intro D' t1' t2' h' k' F' N' l1; (try k_lt l1); (try k_sweep)))
local macro_rules | `(tactic| walk_at "call type:int") => `(tactic| (refine int_dec (by omega) (by omega) ?_))
local macro_rules | `(tactic| walk_at "my steps") => `(tactic| repeat' (first | ((fail_if_success (with_reducible show LCg.CompSrc _ _ _ _ _ _ _ _ _ _ _ _ _ _)); first | (k_unfold; (try dsimp only)) | (k_end; wrow_close) | walk1 | (dsimp only; walk1) | (leave1; walk_say "STEP leave1"; try dsimp only) | fail "no step")))
local macro_rules | `(tactic| walk_at "eval ListComp") => `(tactic| (k_dflt (refine LCg.ListComp_U (F₀ := by k_asm) (by rfl) (by decide) (by rfl) (by decide) (by rfl) ?_)))
def lineAt (rows : List Str) (a : Int) : Str := if 0 < a ∧ a ≤ (rows.length : Int) then rows.getD (a - 1).toNat Str.empty else Str.empty

set_option maxHeartbeats 4000000 in
theorem get_end {prog : Program} {w : World} {dp un : Nat} {fr gd} {s : Shared} {Q : Value → Shared → Prop} {E} {p loose mean mg mb} (X : (hd.heap_39 w.params).In s.heap) (T : Top p loose mean mg mb s.heap) (hr : dp + 20 < recursionLimit)
   {rows : List Str} {vs : List Value} {l : Addr} (hl : s.heap.IsList l vs.toArray) (hS : StrsAre vs rows) (hn : rows.length ≤ 64) {a : Int} (h0 : 0 ≤ a) (h1 : a < 100) {t u : Tok}
   (h : ∀ h' tk' t', Ext s.heap h' → Q (.str (lineAt rows a) t') {s with heap := h', toks := tk'}) : wpAny (model prog w) (ar dp un fr gd) (call (.ref 103) [.ref l, .str (d0 a) t, .str (dE a) u]) Q E s := by
  walk_at "my enter"
  k_steps
  all_goals (try dsimp only)
  all_goals (try (k_unfold; try dsimp only))
  · have e : lineAt rows a = _ := if_pos ⟨by assumption, by assumption⟩
    rw [e] at h; exact h _ _ _ (Fr.keep (by assumption))
  all_goals (have e : lineAt rows a = Str.ofString "" := if_neg (by omega); rw [e] at h; exact h _ _ _ (Fr.keep (by assumption)))

def nl (x : Str) : Str := x ++ Str.ofString "\n"
def cut (rows : List Str) (a b : Int) : Str := Txt.join (Str.ofString "") (((rows.take (b - 1).toNat).drop (a - 1).toNat).map nl)
set_option maxHeartbeats 4000000 in
theorem get_text {prog : Program} {w : World} {dp un : Nat} {fr gd} {s : Shared} {Q : Value → Shared → Prop} {E} {p loose mean mg mb} (X : (hd.heap_39 w.params).In s.heap) (T : Top p loose mean mg mb s.heap) (hr : dp + 20 < recursionLimit)
   {rows : List Str} {vs : List Value} {l : Addr} (hl : s.heap.IsList l vs.toArray) (hS : StrsAre vs rows) (hn : rows.length ≤ 64) (hL : ∀ r ∈ rows, r.length ≤ 64) {a b : Int} (h0 : 1 ≤ a) (h1 : a ≤ b) (h2 : b < 100) {t u : Tok}
   (h : ∀ h' tk' t', Ext s.heap h' → Q (.str (cut rows a b) t') {s with heap := h', toks := tk'}) : wpAny (model prog w) (ar dp un fr gd) (call (.ref 103) [.ref l, .str (d0 a) t, .str (d0 b) u]) Q E s := by
  walk_at "my enter"
  walk_at "my steps"
  rename News _ _ _ _ => NN
  have hsl := slice_strs hS (a := a - 1) (b := b - 1) (by omega) (by omega)
  have hsz := strs_size' hsl
  have hle : ((rows.take (b - 1).toNat).drop (a - 1).toNat).length ≤ 64 := by rw [List.length_drop, List.length_take]; omega
  have hmem : ∀ y ∈ (rows.take (b - 1).toNat).drop (a - 1).toNat, y.length ≤ 64 := fun y hy => hL y (List.mem_of_mem_take (List.mem_of_mem_drop hy))
  refine LCg.CompSrc.ledger rfl (by assumption) NN (by k_mem) (by rw [← hsz, show sizeLine = 16777216 from rfl]; omega) (fun g => rest_map ((rows.take (b - 1).toNat).drop (a - 1).toNat) (fun y v => IsS y v) (fun y v => IsS (nl y) v) hsz (fun i v _ e => strs_at' hsl i v e) (.inr ⟨_, by k_mem, rfl, _, rfl⟩) ?turn ?fin)
  case turn =>
    intro y v I oI C oC D m₂ ys h tk E' hy hr hC hx F N off ne
    obtain ⟨t, rfl⟩ := hr
    have hyl := hmem y hy
    walk_at "my steps"
    exact ⟨_, _, rfl, by assumption, by assumption, _, rfl⟩
  case fin =>
    intro ys hys
    walk_at "my steps"
    have hst := hys.strs
    refine join_listC (ys := ((rows.take (b - 1).toNat).drop (a - 1).toNat).map nl) (News.isList (by assumption) (by k_mem)) (by simpa using hst) (by decide) ?_ ?_
    · have := sum_le 65 (((rows.take (b - 1).toNat).drop (a - 1).toNat).map nl) (fun z hz => by
        obtain ⟨y, hy, rfl⟩ := List.mem_map.mp hz
        have := hmem y hy
        unfold nl; rw [Str.length_append]; have : (Str.ofString "\n").length = 1 := rfl; omega)
      rw [List.length_map] at this ⊢
      omega
    · intro t' k
      exact h _ _ _ (Fr.keep (by assumption))

-- part Hd_2
/-- how many signs of a text hold f, from the place p on (fuel: how many may be looked at) -/
def runLen (f : Nat → Bool) (text : Array Nat) : (fuel p : Nat) → Nat
  | 0, _ => 0
  | n + 1, p => if f (text.getD p 0) then runLen f text n (p + 1) + 1 else 0
theorem runLen_spec (f : Nat → Bool) (text : Array Nat) : ∀ (n p : Nat), runLen f text n p ≤ n ∧ (∀ j, j < runLen f text n p → f (text.getD (p + j) 0) = true) ∧ (runLen f text n p < n → f (text.getD (p + runLen f text n p) 0) = false)
  | 0, p => ⟨Nat.le_refl _, fun j h => absurd h (Nat.not_lt_zero _), fun h => absurd h (Nat.lt_irrefl _)⟩
  | n + 1, p => by
    unfold runLen
    cases hc : f (text.getD p 0) with
    | false => exact ⟨Nat.zero_le _, fun j h => absurd h (Nat.not_lt_zero _), fun _ => hc⟩
    | true =>
      obtain ⟨h1, h2, h3⟩ := runLen_spec f text n (p + 1)
      refine ⟨by simp only [if_true]; omega, fun j hj => ?_, fun hk => ?_⟩
      · simp only [if_true] at hj
        cases j with
        | zero => exact hc
        | succ j => have := h2 j (by omega); rwa [show p + (j + 1) = p + 1 + j by omega]
      · simp only [if_true] at hk ⊢
        have := h3 (by omega); rwa [show p + (runLen f text n (p + 1) + 1) = p + 1 + runLen f text n (p + 1) by omega]
def btLen (text : Array Nat) : Nat := runLen Rx.isBT text text.size 0
def hlen (text : Array Nat) : Nat := btLen text + runLen (· == 35) text (text.size - btLen text) (btLen text)
theorem hlen_head (text : Array Nat) : Rx.HeadLen text (hlen text) := by
  obtain ⟨a1, a2, a3⟩ := runLen_spec Rx.isBT text text.size 0
  obtain ⟨b1, b2, b3⟩ := runLen_spec (· == 35) text (text.size - btLen text) (btLen text)
  unfold hlen
  refine ⟨?_, btLen text, Nat.le_add_right _ _, fun j hj => ?_, fun hk => ?_, fun j h1 h2 => ?_, fun hn => ?_⟩
  · unfold btLen at *; omega
  · have := a2 j hj; rwa [Nat.zero_add] at this
  · have := a3 hk; rwa [Nat.zero_add] at this
  · have := b2 (j - btLen text) (by omega); rwa [show btLen text + (j - btLen text) = j by omega] at this
  · exact b3 (by omega)
theorem head_uniq {text : Array Nat} {n k : Nat} (h : Rx.HeadLen text n) (h' : Rx.HeadLen text k) : n = k := by
  obtain ⟨l1, a, a1, a2, a3, a4, a5⟩ := h
  obtain ⟨l2, b, b1, b2, b3, b4, b5⟩ := h'
  have hab : a = b := by
    rcases Nat.lt_trichotomy a b with q | q | q
    · have x := a3 (by omega); have y := b2 a q; rw [x] at y; cases y
    · exact q
    · have x := b3 (by omega); have y := a2 b q; rw [x] at y; cases y
  subst hab
  rcases Nat.lt_trichotomy n k with q | q | q
  · have x := a5 (by omega); have y := b4 n a1 q; rw [x] at y; cases y
  · exact q
  · have x := b5 (by omega); have y := a4 k b1 q; rw [x] at y; cases y
/-- the header of a row, and whether a text is white (kept closed: the walk is not to look inside) -/
theorem hdr_ex : ∃ f : Str → Str, f = fun x => ⟨x.cps.extract 0 (hlen x.cps)⟩ := ⟨_, rfl⟩
noncomputable def hdr : Str → Str := Classical.choose hdr_ex
theorem hdr_eq (x : Str) : hdr x = ⟨x.cps.extract 0 (hlen x.cps)⟩ := congrFun (Classical.choose_spec hdr_ex) x
theorem isWs_ex : ∃ f : Str → Bool, f = fun x => Rx.isW x.cps := ⟨_, rfl⟩
noncomputable def isWs : Str → Bool := Classical.choose isWs_ex
theorem isWs_eq (x : Str) : isWs x = Rx.isW x.cps := congrFun (Classical.choose_spec isWs_ex) x
theorem hdr_call {prog : Program} {w : World} {dp un : Nat} {fr gd} {s : Shared} {Q : Value → Shared → Prop} {E} {p loose mean mg mb} (X : (hd.heap_39 w.params).In s.heap) (T : Top p loose mean mg mb s.heap) (hr : dp + 20 < recursionLimit) {x : Str} {t : Tok} (hx : x.length ≤ 2^24)
   (h : ∀ h' tk' t', Ext s.heap h' → Q (.str (hdr x) t') {s with heap := h', toks := tk'}) : wpAny (model prog w) (ar dp un fr gd) (call (.ref 69) [.str x t]) Q E s :=
  header_call X T hr hx fun h' tk' t' n e hn => by
    have := h h' tk' t' e
    rw [hdr_eq] at this
    rwa [head_uniq (hlen_head x.cps) hn] at this
theorem ws_call {prog : Program} {w : World} {dp un : Nat} {fr gd} {s : Shared} {Q : Value → Shared → Prop} {E} {p loose mean mg mb} (X : (hd.heap_39 w.params).In s.heap) (T : Top p loose mean mg mb s.heap) (hr : dp + 20 < recursionLimit) {x : Str} {t : Tok} (hx : x.length ≤ 2^24)
   (h : ∀ h' tk', Ext s.heap h' → Q (.bool (isWs x)) {s with heap := h', toks := tk'}) : wpAny (model prog w) (ar dp un fr gd) (call (.ref 62) [.str x t]) Q E s :=
  white_call X T hr hx fun h' tk' e => by rw [← isWs_eq]; exact h h' tk' e

/-- a page as find_paragraph meets it: what its two functions answer, whatever is made besides -/
structure PageOk (prog : Program) (w : World) (h : Heap) (pg : Addr) (rows : List Str) : Prop where
  get : ∃ fg, FnAt fg h ∧
    (∀ (s : Shared) (A : Around) (Q : Value × List Value → Shared → Prop) (E : Value → Shared → Prop) (pl : Sem Bool), Ext h s.heap → (∀ tk', Q (.ref fg, []) { s with toks := tk' }) → wpAny (model prog w) A (getMethod (.ref pg) (Str.ofString "get") pl) Q E s) ∧
    (∀ (s : Shared) (dp un : Nat) (fr : Option (List Env)) (gd : Option (List Code)) (Q E : Value → Shared → Prop) (a : Int) (t u : Tok), Ext h s.heap → dp + 40 < recursionLimit → 0 ≤ a → a < 100 →
      (∀ h' tk' t', Ext s.heap h' → Q (.str (lineAt rows a) t') { s with heap := h', toks := tk' }) → wpAny (model prog w) (ar dp un fr gd) (call (.ref fg) [.str (d0 a) t, .str (dE a) u]) Q E s) ∧
    (∀ (s : Shared) (dp un : Nat) (fr : Option (List Env)) (gd : Option (List Code)) (Q E : Value → Shared → Prop) (a b : Int) (t u : Tok), Ext h s.heap → dp + 40 < recursionLimit → 1 ≤ a → a ≤ b → b < 100 →
      (∀ h' tk' t', Ext s.heap h' → Q (.str (cut rows a b) t') { s with heap := h', toks := tk' }) → wpAny (model prog w) (ar dp un fr gd) (call (.ref fg) [.str (d0 a) t, .str (d0 b) u]) Q E s)
  cmp : ∃ fc, FnAt fc h ∧
    (∀ (s : Shared) (A : Around) (Q : Value × List Value → Shared → Prop) (E : Value → Shared → Prop) (pl : Sem Bool), Ext h s.heap → (∀ tk', Q (.ref fc, []) { s with toks := tk' }) → wpAny (model prog w) A (getMethod (.ref pg) (Str.ofString "compare") pl) Q E s) ∧
    (∀ (s : Shared) (dp un : Nat) (fr : Option (List Env)) (gd : Option (List Code)) (Q E : Value → Shared → Prop) (a : Int) (t u v : Tok), Ext h s.heap → dp + 40 < recursionLimit → 0 ≤ a → a < 100 →
      (∀ h' tk', Ext s.heap h' → Q (.bool (decide (a ≤ (rows.length : Int)))) { s with heap := h', toks := tk' }) → wpAny (model prog w) (ar dp un fr gd) (call (.ref fc) [.str (d0 a) t, .str (Str.ofString "<") u, .str (Str.ofString "end") v]) Q E s)

-- part Mp_2
namespace Mp
theorem mro_map : mroOf (.type "map") = pure [.type "map", .type "object"] := by rw [mroOf_type]; kernel_rfl
theorem lookup_map_new : typeLookup (.type "map") "__new__" = pure (some (.builtin "map.__new__")) := by rw [typeLookup_type, builtinLookup_eq_fast]; kernel_rfl
theorem slot_map_init : Slot "map" "__init__" "object.__init__" :=
  .of (owner := "object") (n := "__init__") (by rw [typeLookup_type, builtinLookup_eq_fast]; kernel_rfl) (by decide +kernel) (by decide +kernel) (by decide +kernel)
    (by first | exact .inl (by decide +kernel) | exact .inr (by decide +kernel)) (by rw [isSubtype_type]; kernel_rfl)
theorem slot_map_iter : Slot "map" "__iter__" "map.__iter__" :=
  .of (owner := "map") (n := "__iter__") (by rw [typeLookup_type, builtinLookup_eq_fast]; kernel_rfl) (by decide +kernel) (by decide +kernel) (by decide +kernel)
    (by first | exact .inl (by decide +kernel) | exact .inr (by decide +kernel)) (by rw [isSubtype_type]; kernel_rfl)
theorem slot_map_next : Slot "map" "__next__" "map.__next__" :=
  .of (owner := "map") (n := "__next__") (by rw [typeLookup_type, builtinLookup_eq_fast]; kernel_rfl) (by decide +kernel) (by decide +kernel) (by decide +kernel)
    (by first | exact .inl (by decide +kernel) | exact .inr (by decide +kernel)) (by rw [isSubtype_type]; kernel_rfl)
theorem called_map : TypeCalled "map" "map.__new__" "object.__init__" :=
  ⟨by decide +kernel, by decide +kernel, ⟨_, _, mro_map⟩, madeBy_type mro_map lookup_map_new (by decide +kernel), by decide +kernel, by rw [isSubtype_type]; kernel_rfl, slot_map_init⟩
theorem typeCall_map_2 (a b : Value) : checkTypeCall "map" ⟨[a, b], []⟩ = pure () := by kernel_rfl
theorem newCall_map_2 (a b : Value) : checkBuiltinCall "map.__new__" ⟨[.type "map", a, b], []⟩ = pure () := by kernel_rfl
theorem entry_map_new : entryFor table "map.__new__" = some Builtin.«map.__new__» := entryFor_of_tree (by kernel_rfl)
theorem entry_map_next : entryFor table "map.__next__" = some Builtin.«map.__next__» := entryFor_of_tree (by kernel_rfl)
theorem entry_map_iter : entryFor table "map.__iter__" = some Builtin.«dict_keyiterator.__iter__» :=
  entryFor_alias (id' := "dict_keyiterator.__iter__") (by kernel_rfl) (by first | rfl | decide +kernel) (by decide +kernel) (by kernel_rfl)
theorem args_map_iter (a : Value) : argsOk "map.__iter__" ⟨[a], []⟩ := by unfold argsOk; kernel_rfl
theorem args_map_next (a : Value) : argsOk "map.__next__" ⟨[a], []⟩ := by unfold argsOk; kernel_rfl
theorem sub_map : isSubtype (.type "map") (.type "map") = pure true := by rw [isSubtype_type]; kernel_rfl
abbrev H1 (h : Heap) (l : Addr) : Heap := h.push { cls := .type "list_iterator", data := .fields #[.ref l, .int 0 0] }
abbrev H2 (h : Heap) (l : Addr) : Heap := (H1 h l).push { cls := .type "tuple", data := .seq #[.ref h.objs.size] }
abbrev H3 (h : Heap) (l : Addr) (f : Value) : Heap := (H2 h l).push { cls := .type "map", data := .fields #[.ref (H1 h l).objs.size, f] }
theorem meets_map_new (f : Value) (l : Addr) (xs : Array Value) :
    Meets (Builtin.«map.__new__» ⟨[.type "map", f, .ref l], []⟩) (fun _ R s => s.heap.IsList l xs ∧ R (.ok (.ret (.ref (H2 s.heap l).objs.size))) { s with heap := H3 s.heap l f }) :=
  .of_wp fun prog w A R s h => by
    obtain ⟨hp, g, d, tk, os⟩ := s; obtain ⟨hl, h⟩ := h
    have hsub := sub_map
    have hL1 : Heap.IsList (Shared.heap ⟨hp, g, d, tk, os⟩) l xs := hl
    wp_walk using wpAny_pyIter_list hL1
    exact ⟨_, rfl, h⟩

end Mp

-- part Mq_2
namespace Mp

section
variable {prog : Program} {w : World} {A : Around} {E : Value → Shared → Prop} {s : Shared}
abbrev mapObj (TI : Addr) (f : Value) : Obj := { cls := .type "map", data := .fields #[.ref TI, f] }
abbrev oneTup (I : Addr) : Obj := { cls := .type "tuple", data := .seq #[.ref I] }
theorem call_map {f : Value} {l : Addr} {xs : Array Value} {Q : Value → Shared → Prop} (hl : s.heap.IsList l xs)
    (h : ∀ h' z TI I, h'.get? z = some (mapObj TI f) → h'.get? TI = some (oneTup I) → h'.IsListIter I l 0 → s.heap.get? I = none → z ≠ I → TI ≠ I → Ext s.heap h' → Q (.ref z) { s with heap := h' }) :
    wpAny (model prog w) A (call (.type "map") [f, .ref l]) Q E s := by
  refine callType_new called_map (by decide) (typeCall_map_2 _ _) (newCall_map_2 _ _) (fun obj => F.args_object_init_3 obj _ _) entry_map_new (meets_map_new f l xs) ⟨hl, ?_⟩
  have z1 : (H1 s.heap l).objs.size = s.heap.objs.size + 1 := Heap.size_push ..
  have z2 : (H2 s.heap l).objs.size = s.heap.objs.size + 2 := by rw [Heap.size_push, z1]
  have g3 : (H3 s.heap l f).get? (H2 s.heap l).objs.size = some _ := Heap.get?_push_size _ rfl
  have g2 : (H3 s.heap l f).get? (H1 s.heap l).objs.size = some _ := Heap.get?_push_of_some _ (Heap.get?_push_size _ rfl)
  have g1 : (H3 s.heap l f).get? s.heap.objs.size = some _ := Heap.get?_push_of_some _ (Heap.get?_push_of_some _ (Heap.get?_push_size _ rfl))
  show _ ∧ _
  refine ⟨⟨_, g3, rfl⟩, h _ _ _ s.heap.objs.size g3 g2 ⟨_, g1, rfl, rfl⟩ (Heap.get?_none_of_le (Nat.le_refl _)) (by rw [z2]; exact (Nat.ne_of_gt (by omega))) (by rw [z1]; exact (Nat.ne_of_gt (by omega))) fun c o x => Heap.get?_push_of_some _ (Heap.get?_push_of_some _ (Heap.get?_push_of_some _ x))⟩

theorem next_map {z TI I l : Addr} {f : Value} {i : Nat} {xs : Array Value} {x : Value} {Q : Option Value → Shared → Prop} (hz : s.heap.get? z = some (mapObj TI f)) (hT : s.heap.get? TI = some (oneTup I)) (hI : s.heap.IsListIter I l i) (hl : s.heap.IsList l xs) (hx : xs[i]? = some x) (hzI : z ≠ I)
    (h : ∀ h', h'.IsListIter I l (i + 1) → Heap.SameBut I s.heap h' → wpAny (model prog w) A.in1 (call f [x]) (fun v s' => Q (some v) s') (fun _ _ => False) { s with heap := h' }) :
    wpAny (model prog w) A (pyNext (.ref z)) Q E s := by
  have hTy : s.TypeIs (.ref z) "map" := ⟨_, hz, rfl⟩
  unfold pyNext
  refine wpAny_bind (wpAny_attempt (wpAny_callSpecial?_slot (name := Str.ofString "__next__") hTy slot_map_next (wpAny_call_entry slot_map_next hTy entry_map_next ?_ (args_map_next _))))
  show wpAny _ _ (field (.ref z) 0 >>= _) _ _ _
  refine wpAny_bind (wpAny_field hz rfl (x := .ref TI) rfl ?_)
  refine wpAny_bind (wpAny_seqItems hT rfl ?_)
  refine wpAny_bind ?_
  rw [← Array.forIn_toList]
  show wpAny _ _ (forIn [Value.ref I] (#[] : Array Value) _) _ _ _
  rw [List.forIn_cons]
  refine wpAny_bind (wpAny_bind (wpAny_holding (wpAny_nextOf_list_item hI hl hx fun h' hI' hs => wpAny_pure ?_)))
  dsimp only
  rw [List.forIn_nil]
  refine wpAny_pure ?_
  refine wpAny_bind (wpAny_field (hs.extBut _ _ hzI hz) rfl (x := f) rfl ?_)
  refine wpAny_bind (wpAny_holding (wpAny_mono (h h' hI' hs) (fun v s' hq => ?_) fun _ _ e => e.elim))
  exact wpAny_bind (wpAny_letGo (wpAny_pure ⟨_, rfl, wpAny_pure hq⟩))

theorem end_map {z TI I l : Addr} {f : Value} {i : Nat} {xs : Array Value} {Q : Option Value → Shared → Prop} (hh : A.handled = none) (hz : s.heap.get? z = some (mapObj TI f)) (hT : s.heap.get? TI = some (oneTup I)) (hI : s.heap.IsListIter I l i) (hl : s.heap.IsList l xs) (hx : xs[i]? = none)
    (h : ∀ h', Heap.ExtBut I s.heap h' → Q none { s with heap := h' }) :
    wpAny (model prog w) A (pyNext (.ref z)) Q E s := by
  have hTy : s.TypeIs (.ref z) "map" := ⟨_, hz, rfl⟩
  unfold pyNext
  refine wpAny_bind (wpAny_attempt (wpAny_callSpecial?_slot (name := Str.ofString "__next__") hTy slot_map_next (wpAny_call_entry slot_map_next hTy entry_map_next ?_ (args_map_next _))))
  show wpAny _ _ (field (.ref z) 0 >>= _) _ _ _
  refine wpAny_bind (wpAny_field hz rfl (x := .ref TI) rfl ?_)
  refine wpAny_bind (wpAny_seqItems hT rfl ?_)
  refine wpAny_bind ?_
  rw [← Array.forIn_toList]
  show wpAny _ _ (forIn [Value.ref I] (#[] : Array Value) _) _ _ _
  rw [List.forIn_cons]
  refine wpAny_bind (wpAny_bind (wpAny_holding (wpAny_nextOf_list_end (A := A.in1) hh hI hl hx fun h' e he hx' => ?_)))
  obtain ⟨o, ho, hc⟩ := hx'
  refine wpAny_bind (wpAny_isInstance (T := "StopIteration") (b := true) ⟨o, ho, hc⟩ isSubtype_stop ?_)
  exact wpAny_pure (h _ he)

theorem iter_map {z TI : Addr} {f : Value} {Q : Value → Shared → Prop} (hz : s.heap.get? z = some (mapObj TI f)) (h : Q (.ref z) s) : wpAny (model prog w) A (pyIter (.ref z)) Q E s := by
  have hT : s.TypeIs (.ref z) "map" := ⟨_, hz, rfl⟩
  refine wpAny_pyIter_slot hT slot_map_iter (wpAny_call_entry slot_map_iter hT entry_map_iter ?_ (args_map_iter _))
  show wpAny _ _ (ret (.ref z)) _ _ s
  exact wpAny_pure ⟨_, rfl, "map", _, hT, slot_map_next.lookup, h⟩

theorem int_dec' {n : Int} {t : Tok} {Q : Value → Shared → Prop} (h0 : 0 ≤ n) (h1 : n < 100) (h : ∀ tk k, Q (.int n tk) { s with toks := k }) : wpAny (model prog w) A (call (.type "int") [.str (dec n) t]) Q E s := KIN.call_num h0 (by omega) (h _ _)
theorem int_zero {t : Tok} {Q : Value → Shared → Prop} (h : ∀ tk k, Q (.int 0 tk) { s with toks := k }) : wpAny (model prog w) A (call (.type "int") [.str (Str.ofString "0") t]) Q E s :=
  KIN.call_text (n := 0) (by decide +kernel) (by decide +kernel) (h _ _)

theorem assign_map {env : Env} {elts : List Expr} {x1} {pos : Pos} {z TI I l : Addr} {n : Int} {t1 t2 : Tok} {Q : Unit → Shared → Prop} (hh : A.handled = none) (h0 : 0 ≤ n) (h1 : n < 100)
    (hz : s.heap.get? z = some (mapObj TI (.type "int"))) (hT : s.heap.get? TI = some (oneTup I)) (hI : s.heap.IsListIter I l 0) (hl : s.heap.IsList l #[.str (dec n) t1, .str (Str.ofString "0") t2]) (hzI : z ≠ I) (hTI : TI ≠ I) (hlI : l ≠ I)
    (hn : (assignEach elts env).length = 2) (hstar : (assignEach elts env).findIdx? (·.1) = none)
    (h : ∀ h' ta tb k, Heap.ExtBut I s.heap h' → wpAny (model prog w) A (assignInOrder ((assignEach elts env).map (·.2)) [.int n ta, .int 0 tb]) Q E { s with heap := h', toks := k }) :
    wpAny (model prog w) A (assign (.Tuple elts x1 pos) env (.ref z)) Q E s := by
  rw [arm_assign_Tuple]
  refine wpAny_bind (wpAny_standAt ?_)
  unfold unpack
  rw [hn, hstar]
  refine wpAny_bind (wpAny_holding ?_)
  unfold unpackItems
  refine wpAny_bind ?_
  unfold notIterableAtAll
  refine wpAny_bind (wpAny_specialOf (T := "map") ⟨_, hz, rfl⟩ slot_map_iter.lookup ?_)
  refine wpAny_pure ?_
  simp only [Bool.false_eq_true, if_false]
  refine wpAny_bind (wpAny_holding (iter_map hz ?_))
  refine wpAny_bind (wpAny_holding ?_)
  show wpAny _ _ (pyNext (.ref z) >>= _) _ _ _
  refine wpAny_bind (next_map hz hT hI hl (x := .str (dec n) t1) rfl hzI fun h2 hI2 hs2 => int_dec' h0 h1 fun ta k2 => ?_)
  refine wpAny_bind (wpAny_holding ?_)
  show wpAny _ _ (pyNext (.ref z) >>= _) _ _ _
  refine wpAny_bind (next_map (s := { s with heap := h2, toks := k2 }) (hs2.extBut _ _ hzI hz) (hs2.extBut _ _ hTI hT) hI2 (hl.extBut hs2.extBut hlI) (x := .str (Str.ofString "0") t2) rfl hzI fun h3 hI3 hs3 => int_zero fun tb k3 => ?_)
  refine wpAny_bind (wpAny_holding (wpAny_pure (wpAny_pure (wpAny_pure ?_))))
  simp only [List.length_cons, List.length_nil, Nat.lt_irrefl, if_false]
  refine wpAny_bind (wpAny_holding (end_map (s := { s with heap := h3, toks := k3 }) hh (hs3.extBut _ _ hzI (hs2.extBut _ _ hzI hz)) (hs3.extBut _ _ hTI (hs2.extBut _ _ hTI hT)) hI3 ((hl.extBut hs2.extBut hlI).extBut hs3.extBut hlI) rfl fun h4 he4 => ?_))
  simp only [Option.isSome_none, Bool.false_eq_true, if_false]
  exact wpAny_pure (h h4 ta tb k3 fun b o hb e => he4 b o hb (hs3.extBut b o hb (hs2.extBut b o hb e)))

variable {h₀ : Heap} {L : Addr} {m : Str → Option Value} {news : List (Addr × Obj)}
def MapAt (h₀ : Heap) (L : Addr) (h : Heap) (z l : Addr) (news : List (Addr × Obj)) : Prop :=
  ∃ TI I, h.get? z = some (mapObj TI (.type "int")) ∧ h.get? TI = some (oneTup I) ∧ h.IsListIter I l 0 ∧ z ≠ I ∧ TI ≠ I ∧ l ≠ I ∧ L ≠ I ∧ h₀.get? I = none ∧ ∀ p ∈ news, p.1 ≠ I
theorem call_mapK {l : Addr} {xs : Array Value} {Q : Value → Shared → Prop} (F : Fr h₀ L s.heap m) (N : News h₀ L s.heap news) (hl : s.heap.IsList l xs)
    (h : ∀ h' z, Fr h₀ L h' m → News h₀ L h' news → MapAt h₀ L h' z l news → Q (.ref z) { s with heap := h' }) :
    wpAny (model prog w) A (call (.type "map") [.type "int", .ref l]) Q E s := by
  refine call_map hl fun h' z TI I hz hT hI nI zI tI he => h h' z (frExt F he) (newsExt N he) ⟨TI, I, hz, hT, hI, zI, tI, ?_, ?_, ?_, fun p hp q => ?_⟩
  · rintro rfl; obtain ⟨o, ho, _⟩ := hl; rw [nI] at ho; cases ho
  · rintro rfl; obtain ⟨o, _, _, ho, _⟩ := F.ns; rw [nI] at ho; cases ho
  · cases q : h₀.get? I with
    | none => rfl
    | some o => have := F.keep _ _ q; rw [nI] at this; cases this
  · have := (N p hp).1; rw [q, nI] at this; cases this
theorem assign_mapK {env : Env} {elts : List Expr} {x1} {pos : Pos} {z l : Addr} {n : Int} {t1 t2 : Tok} {Q : Unit → Shared → Prop} (F : Fr h₀ L s.heap m) (N : News h₀ L s.heap news) (M : MapAt h₀ L s.heap z l news) (hh : A.handled = none) (h0 : 0 ≤ n) (h1 : n < 100)
    (hl : s.heap.IsList l #[.str (dec n) t1, .str (Str.ofString "0") t2]) (hn : (assignEach elts env).length = 2) (hstar : (assignEach elts env).findIdx? (·.1) = none)
    (h : ∀ h' ta tb k, Fr h₀ L h' m → News h₀ L h' news → wpAny (model prog w) A (assignInOrder ((assignEach elts env).map (·.2)) [.int n ta, .int 0 tb]) Q E { s with heap := h', toks := k }) :
    wpAny (model prog w) A (assign (.Tuple elts x1 pos) env (.ref z)) Q E s := by
  obtain ⟨TI, I, hz, hT, hI, zI, tI, lI, LI, gI, nI⟩ := M
  refine assign_map hh h0 h1 hz hT hI hl zI tI lI hn hstar fun h' ta tb k hx => h h' ta tb k ⟨F.ns.at' fun o e => hx _ o LI e, fun b o e => hx b o ?_ (F.keep b o e), F.above⟩ fun p hp => ⟨hx _ _ (nI p hp) (N p hp).1, (N p hp).2⟩
  rintro rfl; rw [gI] at e; cases e
end
end Mp

-- part Fp_2
theorem fill2 : (PySem.Challenge.rw_dm0163_02, hd.heap_39) = (PySem.Challenge.rw_dm0163_02, hd.heap_39) := by k_fill; rfl
theorem fnExt {q : Addr} {h h' : Heap} (x : FnAt q h) (e : Ext h h') : FnAt q h' := let ⟨oc, od, fd, sl, g⟩ := x; ⟨oc, od, fd, sl, e _ _ g⟩
theorem len_lineAt {rows : List Str} (hL : ∀ r ∈ rows, r.length ≤ 64) (k : Int) : (lineAt rows k).length ≤ 64 := by
  unfold lineAt
  split
  · rw [List.getD_eq_getElem?_getD]
    cases h : rows[(k - 1).toNat]? with
    | none => exact Nat.zero_le _
    | some r => exact hL r (List.mem_of_getElem? h)
  · exact Nat.zero_le _
local macro_rules | `(tactic| walk_at "my steps") => `(tactic| repeat' (first | ((fail_if_success (with_reducible show LCg.CompSrc _ _ _ _ _ _ _ _ _ _ _ _ _ _)); (fail_if_success (with_reducible show wpAny _ _ (exec (Stmt.While _ _ _ _) _) _ _ _)); first | (k_unfold; (try dsimp only)) | (k_end; wrow_close) | walk1 | (dsimp only; walk1) | (leave1; walk_say "STEP leave1"; try dsimp only) | fail "no step")))
set_option hygiene false in
local macro_rules | `(tactic| walk_at "getMethod ref") => `(tactic| (k_dflt (first | refine gm _ _ _ _ _ (Fr.keep (by assumption)) ?_ | refine cm _ _ _ _ _ (Fr.keep (by assumption)) ?_); intro tk'))
set_option hygiene false in
local macro_rules | `(tactic| walk_at "callWith ref") => `(tactic| (k_dflt (first | refine callWith_F (fnExt fgF (Fr.keep (by assumption))) ?_ | refine callWith_F (fnExt fcF (Fr.keep (by assumption))) ?_)))
set_option hygiene false in
local macro_rules | `(tactic| walk_at "And") => `(tactic| ((with_reducible show FnAt _ _ ∧ _); (first | refine ⟨fnExt fgF (Fr.keep (by assumption)), ?_⟩ | refine ⟨fnExt fcF (Fr.keep (by assumption)), ?_⟩); try dsimp only [List.nil_append, List.cons_append]))
set_option hygiene false in
local macro_rules | `(tactic| walk_at "call ref") => `(tactic| (k_dflt (first
  | (refine gE _ _ _ _ _ _ _ _ _ _ (Fr.keep (by assumption)) (by omega) (by omega) (by omega) ?_; intro h' tk' t' he; (have F' := frExt (by assumption) he); (have N' := newsExt (by assumption) he); (try k_sweep))
  | (refine gT _ _ _ _ _ _ _ _ _ _ _ (Fr.keep (by assumption)) (by omega) (by omega) (by omega) (by omega) ?_; intro h' tk' t' he; (have F' := frExt (by assumption) he); (have N' := newsExt (by assumption) he); (try k_sweep))
  | (refine cE _ _ _ _ _ _ _ _ _ _ _ (Fr.keep (by assumption)) (by omega) (by omega) (by omega) ?_; intro h' tk' he; (have F' := frExt (by assumption) he); (have N' := newsExt (by assumption) he); (try k_sweep)))))
local macro_rules | `(tactic| walk_at "call ref") => `(tactic| (k_dflt (first
  | (refine ws_call (by k_in) (Top.keeps (by assumption) (Fr.keep (by assumption))) (by omega) (by walk_at "my len") ?_; intro h' tk' he; (have F' := frExt (by assumption) he); (have N' := newsExt (by assumption) he); (try k_sweep))
  | (refine hdr_call (by k_in) (Top.keeps (by assumption) (Fr.keep (by assumption))) (by omega) (by walk_at "my len") ?_; intro h' tk' t' he; (have F' := frExt (by assumption) he); (have N' := newsExt (by assumption) he); (try k_sweep)))))
local macro_rules | `(tactic| walk_at "my len") => `(tactic| (with_reducible refine Nat.le_trans (len_lineAt ?kl1 _) ?kl2; (case kl1 => with_reducible assumption); (case kl2 => decide)))

local macro_rules | `(tactic| walk_at "call type:map") => `(tactic| (k_dflt (refine Mp.call_mapK (by k_asm) (by k_asm) (News.isList (by k_asm) (by k_mem)) ?_); intro h' z' F' N' M'; (try k_sweep)))
local macro_rules | `(tactic| walk_at "assign Tuple") => `(tactic| (k_dflt (refine Mp.assign_mapK (by k_asm) (by k_asm) (by assumption) rfl (by omega) (by omega) (News.isList (by k_asm) (by k_mem)) rfl rfl ?_); intro h' ta' tb' k' F' N'; (try k_sweep)))
set_option hygiene false in
local macro_rules | `(tactic| walk_at "my enter") => `(tactic| (refine' enterP (K := hd.heap_39 _) (by assumption) (Top.nolimit (by assumption)) ?k6 ?k7 (by omega) ?k9 ?kB ?c5 ?c2 ?c3 ?c4 ?_; (case k6 => k_is); (case k7 => k_is); (case k9 => exact BindsTo.of_eq rfl); (case kB => exact locs rfl); (case c5 => decide); (case c2 => rfl); (case c3 => rfl); (case c4 => rfl); intro L hE frE F N; dsimp only; k_fold))
local macro_rules | `(tactic| walk_at "eval Name") => `(tactic| ((with_reducible show wpAny _ _ (eval (Expr.Name _ _) (envOf _ _ _ _ _)) _ _ _); k_dflt (refine' ld ?k1 ?k2 ?_; (case k1 => k_asm); (case k2 => first | exact rfl | assumption); k_whole)))
theorem len_hdr (x : Str) : (hdr x).length ≤ x.length := by
  rw [hdr_eq]
  show (x.cps.extract 0 (hlen x.cps)).size ≤ x.cps.size
  simp
  omega
theorem len_tx {prog : Program} {w : World} {A : Around} {E Q : Value → Shared → Prop} {s : Shared} {x : Str} {t : Tok} (hx : x.length ≤ 2 ^ 24) (h : ∀ t' k', Q (.int x.length t') { s with toks := k' }) : wpAny (model prog w) A (call (.builtin "len") [.str x t]) Q E s :=
  len_str (by omega) (h _ _)
local macro_rules | `(tactic| walk_at "call builtin:len") => `(tactic| (k_dflt (refine len_tx (by walk_at "my len") ?_); intro t' k'))
local macro_rules | `(tactic| walk_at "my len") => `(tactic| (with_reducible refine Nat.le_trans (len_hdr _) (Nat.le_trans (len_lineAt ?kl1 _) ?kl2); (case kl1 => with_reducible assumption); (case kl2 => decide)))
local macro_rules | `(tactic| walk_at "subscriptTail Name Slice str ref") => `(tactic| ((with_reducible show wpAny _ _ (subscriptTail _ (Expr.Slice (some _) none none _) _ _) _ _ _); k_dflt (refine slice_strN_sn_len (hsz := ?hsz) (s := ⟨_, _, _, _, _⟩) (by k_asm) (by k_asm) ?_; (case hsz => ((show _ ≤ 16777216); walk_at "my len"))); intro h' t' k' F' N' hlen'; (try k_sweep)))
local macro_rules | `(tactic| walk_at "my len") => `(tactic| (with_reducible refine Nat.le_trans (PyProof.Txt.length_slice_le _ _ _) (Nat.le_trans (len_lineAt ?kl1 _) ?kl2); (case kl1 => with_reducible assumption); (case kl2 => decide)))
/-- a loop's end: the frame's map is as told -/
def LoopOut (h₀ : Heap) (L : Addr) (s : Shared) (Inv : (Str → Option Value) → Prop) (fl : Flow) (s' : Shared) : Prop :=
  fl = .next ∧ ∃ h' tk' m', s' = { s with heap := h', toks := tk' } ∧ Fr h₀ L h' m' ∧ Inv m'
/-- the first loop's end: every row before it, from the mark on, is white and in the page (or row 0); it is none of these -/
def Skip (rows : List Str) (mark k : Int) : Prop :=
  mark ≤ k ∧ (∀ j, mark ≤ j → j < k → j ≤ (rows.length : Int) ∧ isWs (lineAt rows j) = true) ∧ ¬ (k ≤ (rows.length : Int) ∧ isWs (lineAt rows k) = true)

/-- a row of this header with something behind it -/
def Good (H x : Str) : Prop := hdr x = H ∧ isWs (Txt.slice x (some (H.length : Int)) none) = false
/-- the second loop's end -/
def Grow (rows : List Str) (H : Str) (k j : Int) : Prop := k ≤ j ∧ (∀ i, k ≤ i → i < j → Good H (lineAt rows i)) ∧ ¬ Good H (lineAt rows j)
/-- the third loop's end -/
def Shrink (rows : List Str) (H : Str) (k i : Int) : Prop := 0 ≤ i ∧ i ≤ k ∧ (∀ x, i < x → x ≤ k → Good H (lineAt rows x)) ∧ ¬ (0 < i ∧ Good H (lineAt rows i))
/-- what find_paragraph tells of a mark -/
def FP (rows : List Str) (mark first last : Int) (H : Str) : Prop :=
  ∃ k, Skip rows mark k ∧ H = hdr (lineAt rows k) ∧ Grow rows H k last ∧ Shrink rows H (k - 1) (first - 1)
def toldObj (rows : List Str) (first last : Int) (H : Str) (t1 t2 t3 t4 : Tok) : Obj := { cls := .type "tuple", data := .seq #[.str (d0 first) t1, .str (d0 last) t2, .str H t3, .str (cut rows first last) t4] }
theorem good_le {rows : List Str} {H : Str} {j : Int} (h : Good H (lineAt rows j)) : 1 ≤ j ∧ j ≤ (rows.length : Int) := by
  by_cases hj : 0 < j ∧ j ≤ (rows.length : Int)
  · omega
  · have e : lineAt rows j = Str.empty := if_neg hj
    rw [e] at h
    obtain ⟨rfl, h2⟩ := h
    rw [isWs_eq, hdr_eq] at h2
    exact absurd h2 (by decide +kernel)
theorem lineAt_zero (rows : List Str) : lineAt rows 0 = Str.empty := if_neg (by omega)
theorem skip_bounds {rows : List Str} {mark k : Int} (h : Skip rows mark k) (h0 : 0 ≤ mark) (h1 : mark < 90) (hn : rows.length ≤ 64) : 1 ≤ k ∧ k < 90 := by
  obtain ⟨a, b, c⟩ := h
  constructor
  · rcases Int.lt_or_eq_of_le (show 0 ≤ k by omega) with q | q
    · omega
    · subst q; exact absurd ⟨by omega, by rw [lineAt_zero, isWs_eq]; decide +kernel⟩ c
  · rcases Int.lt_or_eq_of_le a with q | q
    · have := (b (k - 1) (by omega) (by omega)).1; omega
    · omega
set_option maxHeartbeats 4000000 in
theorem fp_call {prog : Program} {w : World} {dp un : Nat} {fr gd} {s : Shared} {Q : Value → Shared → Prop} {E} {p loose mean mg mb} (X : (hd.heap_39 w.params).In s.heap) (T : Top p loose mean mg mb s.heap) (hr : dp + 60 < recursionLimit)
   {rows : List Str} {pg : Addr} (P : PageOk prog w s.heap pg rows) (hn : rows.length ≤ 64) (hL : ∀ r ∈ rows, r.length ≤ 64) {mark : Int} (h0 : 0 ≤ mark) (h1 : mark < 90) {t : Tok}
   (h : ∀ h' tk' a first last H t1 t2 t3 t4, Ext s.heap h' → s.heap.get? a = none → h'.get? a = some (toldObj rows first last H t1 t2 t3 t4) → FP rows mark first last H → Q (.ref a) {s with heap := h', toks := tk'}) : wpAny (model prog w) (ar dp un fr gd) (call (.ref 55) [.ref pg, .str (d0 mark) t]) Q E s := by
  obtain ⟨fg, fgF, gm, gE, gT⟩ := P.get
  obtain ⟨fc, fcF, cm, cE⟩ := P.cmp
  walk_at "my enter"
  walk_at "my steps"
  refine wpAny_mono (Q := LoopOut s.heap L s (fun m' => ∃ k t1 t2, m' (Str.ofString "line") = some (.str (lineAt rows k) t1) ∧ m' (Str.ofString "lineno") = some (.int k t2) ∧ m' (Str.ofString "text") = some (.ref pg) ∧ Skip rows mark k)) ?loop1 ?rest1 (fun _ _ e => e)
  case loop1 =>
    with_reducible rename Fr _ _ _ _ => F0
    refine While_inv (fun n m₁ _ => ∃ k t1 t2, m₁ (Str.ofString "line") = some (.str (lineAt rows k) t1) ∧ m₁ (Str.ofString "lineno") = some (.int k t2) ∧ m₁ (Str.ofString "text") = some (.ref pg) ∧ mark ≤ k ∧ (∀ j, mark ≤ j → j < k → j ≤ (rows.length : Int) ∧ isWs (lineAt rows j) = true) ∧ k < 91 ∧ n = ((rows.length : Int) + 1 - k).toNat) (n₀ := ((rows.length : Int) + 1 - mark).toNat) F0 News.nil ⟨mark, _, _, rfl, rfl, rfl, Int.le_refl _, fun j h1 h2 => absurd h2 (by omega), by omega, rfl⟩ ?turn
    intro n m₁ news₁ h₁ tk₁ F₁ N₁ hJ
    obtain ⟨k, t1, t2, e1, e2, e3, b1, b2, b3, rfl⟩ := hJ
    walk_at "my steps"
    · with_reducible rename Fr _ _ _ _ => Fn
      refine WhileStep.intro Fn (by assumption) (n' := ((rows.length : Int) + 1 - (k + 1)).toNat) (by omega) ⟨k + 1, _, _, rfl, rfl, e3, by omega, fun j h1 h2 => ?_, by omega, rfl⟩
      rcases Int.lt_or_eq_of_le (show j ≤ k by omega) with q | q
      · exact b2 j h1 q
      · subst q; exact ⟨by assumption, by with_reducible assumption⟩
    · with_reducible rename Fr _ _ _ _ => Fn
      exact ⟨rfl, _, _, _, rfl, Fn, k, t1, t2, e1, e2, e3, b1, b2, fun q => by (with_reducible rename isWs (lineAt rows k) = false => hw); rw [hw] at q; cases q.2⟩
    · with_reducible rename Fr _ _ _ _ => Fn
      exact ⟨rfl, _, _, _, rfl, Fn, k, t1, t2, e1, e2, e3, b1, b2, fun q => by omega⟩
  case rest1 =>
    intro fl s' hq
    obtain ⟨rfl, h2, tk2, m2, rfl, F2, k, t1, t2, e1, e2, e3, hk⟩ := hq
    obtain ⟨k1, k2⟩ := skip_bounds hk h0 h1 hn
    have N2 : News s.heap L h2 [] := News.nil
    walk_at "my steps"
    refine wpAny_mono (Q := LoopOut s.heap L s (fun m' => ∃ j u1 u2 ta tb tc, m' (Str.ofString "line") = some (.str (lineAt rows j) u1) ∧ m' (Str.ofString "lineno") = some (.int j u2) ∧ m' (Str.ofString "text") = some (.ref pg) ∧ m' (Str.ofString "comment_header") = some (.str (hdr (lineAt rows k)) ta) ∧ m' (Str.ofString "comment_header_len") = some (.int (hdr (lineAt rows k)).length tb) ∧ m' (Str.ofString "first_lineno") = some (.int k tc) ∧ Grow rows (hdr (lineAt rows k)) k j)) ?loop2 ?rest2 (fun _ _ e => e)
    case loop2 =>
      with_reducible rename Fr _ _ _ _ => F0
      refine While_inv (fun n m₁ _ => ∃ j u1 u2 ta tb tc, m₁ (Str.ofString "line") = some (.str (lineAt rows j) u1) ∧ m₁ (Str.ofString "lineno") = some (.int j u2) ∧ m₁ (Str.ofString "text") = some (.ref pg) ∧ m₁ (Str.ofString "comment_header") = some (.str (hdr (lineAt rows k)) ta) ∧ m₁ (Str.ofString "comment_header_len") = some (.int (hdr (lineAt rows k)).length tb) ∧ m₁ (Str.ofString "first_lineno") = some (.int k tc) ∧ k ≤ j ∧ (∀ i, k ≤ i → i < j → Good (hdr (lineAt rows k)) (lineAt rows i)) ∧ j < 91 ∧ n = ((rows.length : Int) + 1 - j).toNat) (n₀ := ((rows.length : Int) + 1 - k).toNat) F0 News.nil ⟨k, _, _, _, _, _, e1, e2, e3, rfl, rfl, rfl, Int.le_refl _, fun j h1 h2 => absurd h2 (by omega), by omega, rfl⟩ ?turn2
      intro n m₁ news₁ h₁ tk₁ F₁ N₁ hJ
      obtain ⟨j, u1, u2, ta, tb, tc, c1, c2, c3, c4, c5, c6, b1, b2, b3, rfl⟩ := hJ
      walk_at "my steps"
      · with_reducible rename Fr _ _ _ _ => Fn
        exact ⟨rfl, _, _, _, rfl, Fn, j, u1, u2, ta, tb, tc, c1, c2, c3, c4, c5, c6, b1, b2, fun q => by (with_reducible rename isWs _ = true => hw); have := q.2; rw [hw] at this; cases this⟩
      · with_reducible rename Fr _ _ _ _ => Fn
        with_reducible rename (hdr _ == hdr _) = true => hb
        have g : Good (hdr (lineAt rows k)) (lineAt rows j) := ⟨eq_of_beq hb, by with_reducible assumption⟩
        have gl := good_le g
        refine WhileStep.intro Fn (by assumption) (n' := ((rows.length : Int) + 1 - (j + 1)).toNat) (by omega) ⟨j + 1, _, _, ta, tb, tc, rfl, rfl, c3, c4, c5, c6, by omega, fun i h1 h2 => ?_, by omega, rfl⟩
        rcases Int.lt_or_eq_of_le (show i ≤ j by omega) with q | q
        · exact b2 i h1 q
        · subst q; exact g
      · with_reducible rename Fr _ _ _ _ => Fn
        exact ⟨rfl, _, _, _, rfl, Fn, j, u1, u2, ta, tb, tc, c1, c2, c3, c4, c5, c6, b1, b2, fun q => by (with_reducible rename (hdr _ == hdr _) = false => hb); rw [q.1, beq_self_eq_true] at hb; cases hb⟩
    case rest2 =>
      intro fl s' hq
      obtain ⟨rfl, h3, tk3, m3, rfl, F3, j, u1, u2, ta, tb, tc, c1, c2, c3, c4, c5, c6, hg⟩ := hq
      have hj : j < 91 := by
        rcases Int.lt_or_eq_of_le hg.1 with q | q
        · have := good_le (hg.2.1 (j - 1) (by omega) (by omega)); omega
        · omega
      have hkj := hg.1
      have N3 : News s.heap L h3 [] := News.nil
      walk_at "my steps"
      refine wpAny_mono (Q := LoopOut s.heap L s (fun m' => ∃ i u2 u3 ta, m' (Str.ofString "lineno") = some (.int i u2) ∧ m' (Str.ofString "text") = some (.ref pg) ∧ m' (Str.ofString "comment_header") = some (.str (hdr (lineAt rows k)) ta) ∧ m' (Str.ofString "last") = some (.str (d0 j) u3) ∧ Shrink rows (hdr (lineAt rows k)) (k - 1) i)) ?loop3 ?rest3 (fun _ _ e => e)
      case loop3 =>
        with_reducible rename Fr _ _ _ _ => F0
        refine While_inv (fun n m₁ _ => ∃ i u1 u2 u3 ta tb, m₁ (Str.ofString "line") = some (.str (lineAt rows i) u1) ∧ m₁ (Str.ofString "lineno") = some (.int i u2) ∧ m₁ (Str.ofString "text") = some (.ref pg) ∧ m₁ (Str.ofString "comment_header") = some (.str (hdr (lineAt rows k)) ta) ∧ m₁ (Str.ofString "comment_header_len") = some (.int (hdr (lineAt rows k)).length tb) ∧ m₁ (Str.ofString "last") = some (.str (d0 j) u3) ∧ 0 ≤ i ∧ i ≤ k - 1 ∧ (∀ x, i < x → x ≤ k - 1 → Good (hdr (lineAt rows k)) (lineAt rows x)) ∧ n = i.toNat) (n₀ := (k - 1).toNat) F0 News.nil ⟨k - 1, _, _, _, _, _, rfl, rfl, c3, c4, c5, rfl, by omega, Int.le_refl _, fun x h1 h2 => absurd h2 (by omega), rfl⟩ ?turn3
        intro n m₁ news₁ h₁ tk₁ F₁ N₁ hJ
        obtain ⟨i, u1, u2, u3, ta, tb, d1, d2, d3, d4, d5, d6, b1, b2, b3, rfl⟩ := hJ
        walk_at "my steps"
        · with_reducible rename Fr _ _ _ _ => Fn
          exact ⟨rfl, _, _, _, rfl, Fn, i, u2, u3, ta, d2, d3, d4, d6, b1, b2, b3, fun q => by (with_reducible rename isWs _ = true => hw); have := q.2.2; rw [hw] at this; cases this⟩
        · with_reducible rename Fr _ _ _ _ => Fn
          with_reducible rename (hdr _ == hdr _) = true => hb
          have g : Good (hdr (lineAt rows k)) (lineAt rows i) := ⟨eq_of_beq hb, by with_reducible assumption⟩
          refine WhileStep.intro Fn (by assumption) (n' := (i - 1).toNat) (by omega) ⟨i - 1, _, _, u3, ta, tb, rfl, rfl, d3, d4, d5, d6, by omega, by omega, fun x h1 h2 => ?_, rfl⟩
          rcases Int.lt_or_eq_of_le (show i ≤ x by omega) with q | q
          · exact b3 x q h2
          · subst q; exact g
        · with_reducible rename Fr _ _ _ _ => Fn
          exact ⟨rfl, _, _, _, rfl, Fn, i, u2, u3, ta, d2, d3, d4, d6, b1, b2, b3, fun q => by (with_reducible rename (hdr _ == hdr _) = false => hb); rw [q.2.1, beq_self_eq_true] at hb; cases hb⟩
        · with_reducible rename Fr _ _ _ _ => Fn
          exact ⟨rfl, _, _, _, rfl, Fn, i, u2, u3, ta, d2, d3, d4, d6, b1, b2, b3, fun q => by omega⟩
      case rest3 =>
        intro fl s' hq
        obtain ⟨rfl, h4, tk4, m4, rfl, F4, i, u2, u3, ta, d2, d3, d4, d6, hs⟩ := hq
        have hi0 := hs.1
        have hik := hs.2.1
        have N4 : News s.heap L h4 [] := News.nil
        walk_at "my steps"
        rename News _ _ _ _ => Nn
        with_reducible rename Fr _ _ _ _ => Fn
        exact h _ _ _ (i + 1) j _ _ _ _ _ (Fr.keep Fn) (Nn _ (List.Mem.head _)).2.2 (Nn _ (List.Mem.head _)).1 ⟨k, hk, rfl, hg, by rw [show i + 1 - 1 = i by omega]; exact hs⟩

-- part Pg_2
theorem fill3 : (PySem.Challenge.rw_dm0163_02, hd.heap_39) = (PySem.Challenge.rw_dm0163_02, hd.heap_39) := by k_fill; rfl
section
variable {prog : Program} {w : World} {A : Around} {E : Value → Shared → Prop} {s : Shared} {K : Frag}
theorem getMethod_own {x C : Addr} {ox : Obj} {es : List DictEntry} {n : Nat} {name : Str} {v : Value} {pl : Sem Bool} {Q : Value × List Value → Shared → Prop} (X : K.In s.heap) (I : InstAt s.heap x ox C (some (dictOf es n))) (hg : plainGet K C name = true) (hh : hasDictIn K C = true)
    (ha : findIn K (.ref C) name = some none) (hl : getL name es = some (some v)) (hv : handedIn v = true) (h : ∀ tk', Q (v, []) { s with toks := tk' }) : wpAny (model prog w) A (getMethod (.ref x) name pl) Q E s := by
  have hcan := PySem.F.canon_object_ga
  unfold getMethod specialOf
  refine wpAny_bind (wpAny_bind (I.type.here ((looks_findIn X (plainGet_of hg).1).here ?_)))
  dsimp only
  rw [hcan, if_neg (by decide)]
  refine wpAny_bind (wpAny_bind (I.type.here ((looks_findIn X (plainGet_of hg).2).here ?_)))
  refine wpAny_bind (wpAny_bind (I.type.here ((looks_findIn X ha).here ?_)))
  dsimp only
  exact wpAny_bind (get_value X I (plainGet_of hg).1 (findObj_own hh ha rfl hl) hv (wpAny_pure (h _)))

theorem hideExt {g h : Heap} {P : Addr} (e : Ext g h) (hP : g.get? P = none) : Ext g (h.hide P) := fun b o q => by
  have hb : b ≠ P := by rintro rfl; rw [hP] at q; cases q
  rw [Heap.hide_ne _ hb]; exact e b o q
end
section
variable {prog : Program} {w : World} {dp un : Nat} {fr : Option (List Env)} {gd : Option (List Code)} {E : Value → Shared → Prop} {s : Shared} {K : Frag} {Q : Value → Shared → Prop}
theorem enterC {name qual : Str} {params : Arguments} {body : List Stmt} {scope : Scope} {dV kV doc pm cdv ct oc : Value} {an od : Option Addr} {osl : Array (Option Value)} {f P : Addr} {oP : Obj} {pos : List Value} {binds : List (Str × Value)}
    (X : K.In s.heap) (hlim : s.heap.NoLimit)
    (ho : K.lookup f = some ⟨oc, od, .func (fnOf name qual params body scope dV kV doc pm an cdv ct), osl⟩) (hcd : codeIn K cdv qual = true) (hroom : dp + 1 < recursionLimit)
    (hbind : BindsTo s (fnOf name qual params body scope dV kV doc pm an cdv ct) ⟨pos, []⟩ binds)
    (hkind : (binds.all fun y => scope.names.lookup y.1 == some .local || scope.names.lookup y.1 == some .cell) = true) (hnd : ((cellsFrom 0 scope.names []).map (·.1)).Nodup)
    (hP : s.heap.get? P = some oP) (hco : scope.isCoroutine = false) (hgen : scope.isGenerator = false) (hk : scope.kind = .function)
    (h : ∀ L h₁ tk fr' cells, Fr (s.heap.hide P) L h₁ (bindL (envOfC qual scope L f cdv).kindOf binds fun _ => none) → News (s.heap.hide P) L h₁ (cells ++ [(P, oP)]) →
      CellsAre (bindC (envOfC qual scope L f cdv).kindOf binds fun _ => none) (cellsFrom (L + 1) scope.names []) cells → P < L →
      wpAny (model prog w) (ar (dp + 1) (un + 3) fr' gd) (execs body (envOfC qual scope L f cdv))
        (fun fl s' => Q (match fl with | .ret v => v | _ => .none) s') (fun _ _ => False) { s with heap := h₁, toks := tk }) :
    wpAny (model prog w) (ar dp un fr gd) (call (.ref f) pos) Q E s := by
  refine wpAny_call ?_
  refine codeAny_call_function (fd := fnX name qual params body scope [] dV kV doc pm an cdv ct) (by show dp < _; omega) (X _ _ ho) rfl hco hgen rfl (codeRec_of X hcd) (hbind _ _ _ _ ?_)
  refine wpAny_newFunctionEnv_cells hk (kindsX hkind _) fun env' he s' x => ?_
  subst he
  refine ⟨hlim.keeps x.toInCall.keep, codeAny_func ?_⟩
  obtain ⟨h₁, tk, rfl, _⟩ := x.done
  have hk₁ := x.toInCall.keep
  obtain ⟨cells, NC, Y⟩ := Cl.news (h₀ := s.heap) (Nat.le_refl _) fun n c hm => ⟨x.cell n c (lookup_of_mem_nodup (cellsFrom_names scope.names 0 (s.heap.objs.size + 1) [] [] rfl ▸ hnd) hm), x.above n c hm⟩
  obtain ⟨fr', e⟩ := ar_deeper (dp := dp) (un := un) (fr := fr) (gd := gd) (envOfC qual scope s.heap.objs.size f cdv)
  show wpAny _ ((ar dp un fr gd).deeper (envOfC qual scope s.heap.objs.size f cdv)) _ _ _ _
  rw [e]
  refine wpAny_mono (h s.heap.objs.size h₁ tk fr' cells ⟨x.toInCall.ns, fun b o e => hk₁ b o (Heap.of_hide e), Nat.le_of_eq (Heap.hide_size _ _)⟩ (fun p hp => ?_) Y (Heap.lt_size hP)) (fun _ _ x => x) (fun _ _ x => x.elim)
  rcases List.mem_append.mp hp with hp | hp
  · refine ⟨(NC p hp).1, (NC p hp).2.1, ?_⟩
    cases q : (s.heap.hide P).get? p.1 with
    | none => rfl
    | some o => have := Heap.of_hide q; rw [(NC p hp).2.2] at this; cases this
  · rw [List.mem_singleton.mp hp]
    exact ⟨hk₁ _ _ hP, Nat.ne_of_lt (Heap.lt_size hP), Heap.hide_self _ _⟩
end
section
variable {prog : Program} {w : World} {dp un : Nat} {fr : Option (List Env)} {gd : Option (List Code)} {E : Value → Shared → Prop} {s : Shared} {K : Frag} {Q : Value → Shared → Prop}
/-- a def that works upon one object of the caller's ledger -/
theorem code1 {A : Around} {R : Result → Shared → Prop} {name qual : Str} {params : Arguments} {body : List Stmt} {scope : Scope} {dV kV doc pm cdv ct oc : Value} {an od : Option Addr} {osl : Array (Option Value)} {f D : Addr} {oD : Obj} {args : Args} {binds : List (Str × Value)}
    (X : K.In s.heap) (hlim : s.heap.NoLimit)
    (ho : K.lookup f = some ⟨oc, od, .func (fnOf name qual params body scope dV kV doc pm an cdv ct), osl⟩) (hcd : codeIn K cdv qual = true) (hroom : A.depth < recursionLimit)
    (hbind : BindsTo s (fnOf name qual params body scope dV kV doc pm an cdv ct) args binds) (hloc : ∀ y ∈ binds, scope.names.lookup y.1 = some .local)
    (hcell : ∀ x ∈ scope.names, x.2 ≠ .cell) (hco : scope.isCoroutine = false) (hgen : scope.isGenerator = false) (hk : scope.kind = .function) (hD : s.heap.get? D = some oD)
    (h : ∀ L h₁, Fr (s.heap.hide D) L h₁ (fun y => binds.reverse.lookup y) → News (s.heap.hide D) L h₁ [(D, oD)] →
      wpAny (model prog w) (A.deeper (envOf qual scope L f cdv)) (execs body (envOf qual scope L f cdv))
        (fun fl s' => R (.ok (.ret (match fl with | .ret v => v | _ => .none))) s') (fun _ _ => False)
        { s with heap := h₁, toks := s.toks + binds.length }) :
    codeAny (model prog w) A (.call (.ref f) args) R s := by
  refine codeAny_call_def (fd := fnOf name qual params body scope dV kV doc pm an cdv ct) (body := body) (binds := binds) hroom (X _ _ ho) rfl hlim (codeRec_of X hcd) rfl hbind hcell hloc (fun h₁ hns hk₁ => ?_) hco hgen hk
  refine wpAny_mono (h s.heap.objs.size h₁ ⟨hns, fun b o e => hk₁ b o (Heap.of_hide e), Nat.le_of_eq (Heap.hide_size _ _)⟩ (fun p hp => ?_)) (fun _ _ x => x) (fun _ _ x => x.elim)
  rw [List.mem_singleton.mp hp]
  exact ⟨hk₁ _ _ hD, Nat.ne_of_lt (Heap.lt_size hD), Heap.hide_self _ _⟩

theorem newsInit {h₀ h' h3 : Heap} {L x dx : Addr} {ox od od' : Obj} {news : List (Addr × Obj)} (N' : News h₀ L h' ((x, ox) :: (dx, od) :: news)) (n3 : h3.get? dx = some od') (keep : ∀ b o, b ≠ dx → h'.get? b = some o → h3.get? b = some o) (hxd : x ≠ dx) (hl : ∀ q ∈ news, q.1 ≠ dx) :
    News h₀ L h3 ((x, ox) :: (dx, od') :: news) := fun q hq => by
  rcases List.mem_cons.mp hq with rfl | hq
  · exact ⟨keep _ _ hxd (N' _ (List.Mem.head _)).1, (N' _ (List.Mem.head _)).2⟩
  · rcases List.mem_cons.mp hq with rfl | hq
    · exact ⟨n3, (N' (dx, od) (List.Mem.tail _ (List.Mem.head _))).2⟩
    · exact ⟨keep _ _ (hl q hq) (N' q (List.mem_cons_of_mem _ (List.mem_cons_of_mem _ hq))).1, (N' q (List.mem_cons_of_mem _ (List.mem_cons_of_mem _ hq))).2⟩
set_option maxHeartbeats 4000000 in
theorem rstrip_call {h₀ : Heap} {L : Addr} {m : Str → Option Value} {news : List (Addr × Obj)} {p loose mean mg mb} (F : Fr h₀ L s.heap m) (N : News h₀ L s.heap news) (X₀ : (hd.heap_39 w.params).In h₀) (T : Top p loose mean mg mb h₀) (hr : dp + 20 < recursionLimit)
    (h : ∀ x dx h' tk' t, Fr h₀ L h' m → News h₀ L h' ((x, instObj 94 dx) :: (dx, dictOf [⟨PyData.keyHash w.params (Str.ofString "editwin"), .str (Str.ofString "editwin") t, .none⟩] 1) :: news) → (∀ p ∈ news, p.1 < dx) → dx < x → Q (.ref x) { s with heap := h', toks := tk' }) :
    wpAny (model prog w) (ar dp un fr gd) (call (.ref 94) [.none]) Q E s := by
  refine wpAny_call ?_
  refine' make_K (K := hd.heap_39 w.params) F N (X₀.keeps F.keep) ?hm ?hi ?hf ?_
  case hm => k_is
  case hi => k_is
  case hf => k_is
  intro x dx h' F' N' l1 l2
  have ND := (N' (dx, emptyDict) (by k_mem))
  have NX := (N' (x, instObj 94 dx) (by k_mem))
  refine' code1 (K := hd.heap_39 w.params) (D := dx) (X₀.keeps F'.keep) ((T.keeps F'.keep).nolimit) ?k6 ?k7 ?hr ?k9 ?kB ?c5 ?c2 ?c3 ?c4 ND.1 ?_
  case k6 => k_is
  case k7 => k_is
  case hr => show dp + 1 < _; omega
  case k9 => exact BindsTo.of_eq rfl
  case kB => exact locs rfl
  case c5 => decide
  case c2 => rfl
  case c3 => rfl
  case c4 => rfl
  intro L2 h2 F2 N2
  have X2 : (hd.heap_39 w.params).In (h'.hide dx) := X₀.keeps (hideExt F'.keep ND.2.2)
  k_steps
  have hxd : x ≠ dx := Nat.ne_of_gt l2
  have kx : (h'.hide dx).get? x = some (instObj 94 dx) := by rw [Heap.hide_ne _ hxd]; exact NX.1
  refine' set_dict (K := hd.heap_39 w.params) (es := []) (n := 0) F2 X2 N2 ⟨F2.keep _ _ kx, rfl, rfl, (N2 _ (List.Mem.head _)).1⟩ rfl ?k6 ?k7 ?k8 ?k9 ?k10 ?k11 ?k12 ?k13 ?_
  case k6 => k_is
  case k7 => k_is
  case k8 => k_is
  case k9 => k_is
  case k10 => k_get
  case k11 => k_put
  case k12 => k_upd
  case k13 => exact Nat.le_of_ble_eq_true rfl
  intro h3 F3 N3
  dsimp only
  refine wpAny_execs_nil ?_
  refine ⟨rfl, ?_⟩
  have keep : ∀ b o, b ≠ dx → h'.get? b = some o → h3.get? b = some o := fun b o hb e => F3.keep b o (by rw [Heap.hide_ne _ hb]; exact e)
  have N4 := newsInit N' (N3 _ (List.Mem.head _)).1 keep hxd (fun q hq => Nat.ne_of_lt (l1 q hq))
  exact h x dx h3 _ _ ⟨F'.ns.at' fun o e => keep L o (Ne.symm ND.2.1) e, fun b o e => keep b o (by rintro rfl; rw [ND.2.2] at e; cases e) (F'.keep b o e), F'.above⟩ N4 l1 l2
end

-- part Pg1_2
theorem fill5 : (PySem.Challenge.rw_dm0163_02, hd.heap_39) = (PySem.Challenge.rw_dm0163_02, hd.heap_39) := by k_fill; rfl
section
variable {prog : Program} {w : World} {dp un : Nat} {fr : Option (List Env)} {gd : Option (List Code)} {E : Value → Shared → Prop} {s : Shared} {K : Frag} {Q : Value → Shared → Prop}
theorem enterL {name qual : Str} {params : Arguments} {body : Expr} {scope : Scope} {cl : List (Str × Addr)} {pm ctv : Value} {c' : Addr} {f : Addr} {pos : List Value} {binds : List (Str × Value)}
    (ho : s.heap.get? f = some (kla_obj name qual params body scope cl pm c' ctv)) (hcd : s.heap.CodeRec (.ref c') qual) (hlim : s.heap.NoLimit) (hroom : dp + 1 < recursionLimit)
    (hbind : bindArgs (kla_fn name qual params body scope cl pm (.ref c') ctv) ⟨pos, []⟩ = pure binds) (hloc : ∀ y ∈ binds, scope.names.lookup y.1 = some .local)
    (hcell : ∀ x ∈ scope.names, x.2 ≠ .cell) (hco : scope.isCoroutine = false) (hgen : scope.isGenerator = false) (hk : scope.kind = .function)
    (h : ∀ L h₁ fr', Fr s.heap L h₁ (fun y => binds.reverse.lookup y) → News s.heap L h₁ [] →
      wpAny (model prog w) (ar (dp + 1) (un + 3) fr' gd) (eval body (envX qual scope L f (.ref c') cl)) Q (fun _ _ => False) { s with heap := h₁, toks := s.toks + binds.length }) :
    wpAny (model prog w) (ar dp un fr gd) (call (.ref f) pos) Q E s := by
  refine wpAny_call ?_
  refine kla_callFunE (by show dp < _; omega) ho rfl hco hgen rfl hcd ?_
  rw [hbind]
  refine wpAny_pure (wpAny_newFunctionEnv hcell hloc (fun h₁ hns hsb => ⟨hlim.fresh _ hsb, ?_⟩) hk)
  show codeAny _ _ (.expr body (envX qual scope s.heap.objs.size f (.ref c') cl)) _ _
  have hk₁ : ∀ b o, s.heap.get? b = some o → h₁.get? b = some o := fun b o e => hsb.extBut b o (Nat.ne_of_lt (Heap.lt_size e)) (Heap.get?_push_of_some _ e)
  refine kla_codeExpr ?_
  obtain ⟨fr', e⟩ := ar_deeper (dp := dp) (un := un) (fr := fr) (gd := gd) (envX qual scope s.heap.objs.size f (.ref c') cl)
  rw [e]
  exact wpAny_mono (h s.heap.objs.size h₁ fr' ⟨hns, hk₁, Nat.le_refl _⟩ News.nil) (fun _ _ x => x) (fun _ _ x => x.elim)
end
section
variable {M : Model} {A : Around} {E : Value → Shared → Prop} {s : Shared} {h₀ : Heap} {L a : Addr} {m : Str → Option Value} {cn : Str} {cs : Scope} {ccd : Value} {cl : List (Str × Addr)} {x : Str} {pos : Pos} {v : Value} {Q : Value → Shared → Prop} {c : Addr} {oc : Obj}
theorem nameX_FB (F : Fr h₀ L s.heap m) (hc : cl.lookup x = some c) (hv : h₀.get? c = some oc) (hd : oc.data = .cell (some v)) (h : Q v s)
    (hk : cs.kind = .function := by rfl) (hx : (envX cn cs L a ccd cl).kindOf x = some .free := by rfl) (hb : (x == ("__debug__" : Str)) = false := by decide) (hn : (x == ("__classdict__" : Str)) = false := by decide) :
    wpAny M A (eval (.Name x pos) (envX cn cs L a ccd cl)) Q E s := wpAny_Name (wpAny_loadName_free hk hx hc ⟨_, F.keep _ _ hv, hd⟩ h hn) hb
end
theorem page_mk {prog : Program} {w : World} {H : Heap} {x dx fg fc : Addr} {es : List DictEntry} {n : Nat} {rows : List Str} (X : (hd.heap_39 w.params).In H) (hx : H.get? x = some (instObj 94 dx)) (hdx : H.get? dx = some (dictOf es n))
    (hg : getL (Str.ofString "get") es = some (some (.ref fg))) (hc : getL (Str.ofString "compare") es = some (some (.ref fc))) (fgF : FnAt fg H) (fcF : FnAt fc H)
    (bE : ∀ (s : Shared) (dp un : Nat) (fr : Option (List Env)) (gd : Option (List Code)) (Q E : Value → Shared → Prop) (a : Int) (t u : Tok), Ext H s.heap → dp + 40 < recursionLimit → 0 ≤ a → a < 100 →
      (∀ h' tk' t', Ext s.heap h' → Q (.str (lineAt rows a) t') { s with heap := h', toks := tk' }) → wpAny (model prog w) (ar dp un fr gd) (call (.ref fg) [.str (d0 a) t, .str (dE a) u]) Q E s)
    (bT : ∀ (s : Shared) (dp un : Nat) (fr : Option (List Env)) (gd : Option (List Code)) (Q E : Value → Shared → Prop) (a b : Int) (t u : Tok), Ext H s.heap → dp + 40 < recursionLimit → 1 ≤ a → a ≤ b → b < 100 →
      (∀ h' tk' t', Ext s.heap h' → Q (.str (cut rows a b) t') { s with heap := h', toks := tk' }) → wpAny (model prog w) (ar dp un fr gd) (call (.ref fg) [.str (d0 a) t, .str (d0 b) u]) Q E s)
    (bC : ∀ (s : Shared) (dp un : Nat) (fr : Option (List Env)) (gd : Option (List Code)) (Q E : Value → Shared → Prop) (a : Int) (t u v : Tok), Ext H s.heap → dp + 40 < recursionLimit → 0 ≤ a → a < 100 →
      (∀ h' tk', Ext s.heap h' → Q (.bool (decide (a ≤ (rows.length : Int)))) { s with heap := h', toks := tk' }) → wpAny (model prog w) (ar dp un fr gd) (call (.ref fc) [.str (d0 a) t, .str (Str.ofString "<") u, .str (Str.ofString "end") v]) Q E s) : PageOk prog w H x rows := by
  refine ⟨⟨fg, fgF, ?_, bE, bT⟩, ⟨fc, fcF, ?_, bC⟩⟩
  · intro s A Q E pl e hq
    refine' getMethod_own (K := hd.heap_39 w.params) (X.keeps e) (I := ⟨e _ _ hx, rfl, rfl, e _ _ hdx⟩) ?a ?b ?c hg rfl hq
    case a => k_is
    case b => k_is
    case c => k_is
  · intro s A Q E pl e hq
    refine' getMethod_own (K := hd.heap_39 w.params) (X.keeps e) (I := ⟨e _ _ hx, rfl, rfl, e _ _ hdx⟩) ?a ?b ?c hc rfl hq
    case a => k_is
    case b => k_is
    case c => k_is

-- part Pg3_2
theorem fill4 : (PySem.Challenge.rw_dm0163_02, hd.heap_39) = (PySem.Challenge.rw_dm0163_02, hd.heap_39) := by k_fill; rfl
local macro_rules | `(tactic| walk_at "call ref") => `(tactic| (k_dflt (refine rstrip_call (by k_asm) (by k_asm) (by k_asm) (by k_asm) (by omega) ?_); intro x' dx' h' tk' t' F' N' l1 l2; (try k_lt l1); (try k_lt2 l2); (try k_sweep)))
local macro_rules | `(tactic| walk_at "eval Lambda") => `(tactic| (k_dflt (refine' kla_eval ?d0 ?_; (case d0 => exact rfl)); (first | (k_dflt (refine' kla_nest ?F ?N ?T ?C ?cd ?U ?t ?n ?cl ?_; (case F => k_asm); (case N => k_asm); (case T => k_asm); (case cd => exact rfl); (case C => assumption); (case U => k_updF); (case t => kn_triples); (case n => kn_among); (case cl => exact rfl); k_whole); intro f' c' oc' vs' t' ct' h' tk' F' N' d1' d2' l1 l2; (try dsimp only at N'); (try k_lt l1); (try k_lt2 l2)) | (k_dflt (refine' kla_hit ?F ?N ?T ?C ?cd ?mem ?t ?n ?cl ?_; (case F => k_asm); (case N => k_asm); (case T => k_asm); (case cd => exact rfl); (case C => assumption); (case mem => k_mem); (case t => kn_triples); (case n => kn_hit); (case cl => exact rfl); k_whole); intro f' ct' h' tk' F' N' l1; (try dsimp only at N'); (try k_lt l1)))))
local macro_rules | `(tactic| walk_at "eval Name") => `(tactic| (k_dflt (refine' nameX_FB ?k1 ?k2 ?k3 ?k4 ?_ ?k5 ?k6; (case k5 => rfl); (case k6 => rfl); (case k1 => k_asm); (case k2 => rfl); (case k3 => with_reducible assumption); (case k4 => with_reducible assumption); k_whole)))
def lamQ : Str := (Str.ofString "_law_page" ++ Str.ofString ".<locals>.") ++ Str.ofString "<lambda>"
/-- an object that holds a code of this name -/
def CodeOk (o : Obj) (q : Str) : Prop := ∃ vs t, o.data = .fields vs ∧ vs[1]? = some (.str q t)
def tab2 (c1 c2 : Addr) : Obj := tabObj #[rawInt 50, rawInt 15, .ref c1, rawInt 51, rawInt 19, .ref c2]
theorem CodeOk.rec {h : Heap} {c : Addr} {o : Obj} {q : Str} (x : CodeOk o q) (e : h.get? c = some o) : h.CodeRec (.ref c) q := let ⟨vs, t, a, b⟩ := x; ⟨c, o, vs, t, rfl, e, a, b⟩
set_option hygiene false in
local macro_rules | `(tactic| walk_at "my enterL") => `(tactic| (refine' enterL (e _ _ hfn) (CodeRec_ext e hrc) (Top.nolimit (Top.keeps TH e)) (by omega) ?k9 ?kB ?c5 ?c2 ?c3 ?c4 ?_; (case k9 => rfl); (case kB => exact locs rfl); (case c5 => decide); (case c2 => rfl); (case c3 => rfl); (case c4 => rfl); intro L2 h2 fr2 F2 N2; (have X2 := Frag.In.keeps XH e); (have T2 := Top.keeps TH e); (have hcl2 := e _ _ hcl); dsimp only))
theorem CodeRec_mk {h : Heap} {c : Addr} {oc : Obj} {vs : Array Value} {q : Str} {t : Tok} (e : h.get? c = some oc) (hd : oc.data = .fields vs) (hv : vs[1]? = some (.str q t)) : h.CodeRec (.ref c) q := ⟨c, oc, vs, t, rfl, e, hd, hv⟩
theorem CodeRec_ext {h h' : Heap} {c : Value} {q : Str} (e : Ext h h') (x : h.CodeRec c q) : h'.CodeRec c q := x.keeps e
theorem hideNone {h : Heap} {P b : Addr} (hb : b ≠ P) (e : (h.hide P).get? b = none) : h.get? b = none := by rw [← Heap.hide_ne h hb]; exact e
theorem listExt {h h' : Heap} {l : Addr} {vs : Array Value} (x : h.IsList l vs) (e : Ext h h') : h'.IsList l vs := let ⟨o, ho, r⟩ := x; ⟨o, e _ _ ho, r⟩
local macro_rules | `(tactic| walk_at "call ref") => `(tactic| (k_dflt (first
  | (refine get_end (by k_in) (Top.keeps (by assumption) (Fr.keep (by assumption))) (by omega) (listExt (by assumption) (Fr.keep (by assumption))) (by assumption) (by assumption) (by omega) (by omega) ?_; intro h' tk' t' he; (have F' := frExt (by assumption) he); (have N' := newsExt (by assumption) he); (try k_sweep))
  | (refine get_text (by k_in) (Top.keeps (by assumption) (Fr.keep (by assumption))) (by omega) (listExt (by assumption) (Fr.keep (by assumption))) (by assumption) (by assumption) (by assumption) (by omega) (by omega) (by omega) ?_; intro h' tk' t' he; (have F' := frExt (by assumption) he); (have N' := newsExt (by assumption) he); (try k_sweep)))))
theorem front {h hs : Heap} {L P : Addr} {t : Addr × Obj} : ∀ {l : List (Addr × Obj)}, News (hs.hide P) L h (l ++ [t]) → (∀ p ∈ l, p.1 ≠ P) → ∀ p ∈ l, h.get? p.1 = some p.2 ∧ hs.get? p.1 = none :=
  fun N hne p hp => ⟨(N p (List.mem_append_left _ hp)).1, hideNone (hne p hp) (N p (List.mem_append_left _ hp)).2.2⟩
theorem front7 {h hs : Heap} {L P : Addr} {t a0 a1 a2 a3 a4 a5 a6 : Addr × Obj} (N : News (hs.hide P) L h [a0, a1, a2, a3, a4, a5, a6, t]) (hne : ∀ p ∈ [a0, a1, a2, a3, a4, a5, a6], p.1 ≠ P) : ∀ p ∈ [a0, a1, a2, a3, a4, a5, a6], h.get? p.1 = some p.2 ∧ hs.get? p.1 = none := front (t := t) N hne
theorem front5 {h hs : Heap} {L P : Addr} {t a0 a1 a2 a3 a4 : Addr × Obj} (N : News (hs.hide P) L h [a0, a1, a2, a3, a4, t]) (hne : ∀ p ∈ [a0, a1, a2, a3, a4], p.1 ≠ P) : ∀ p ∈ [a0, a1, a2, a3, a4], h.get? p.1 = some p.2 ∧ hs.get? p.1 = none := front (t := t) N hne
set_option maxHeartbeats 4000000 in
theorem page_call0 {prog : Program} {w : World} {dp un : Nat} {fr gd} {s : Shared} {Q : Value → Shared → Prop} {E} {g : Heap} {p loose mean mg mb} (X : (hd.heap_39 w.params).In g) (T : Top p loose mean mg mb g) (hg : Ext g s.heap) (hgP : g.get? 105 = none) (C : CodeHd g 109 105) (hr : dp + 60 < recursionLimit)
   {rows : List Str} {vs : List Value} {l : Addr} (hl : s.heap.IsList l vs.toArray) (hS : StrsAre vs rows) (hn : rows.length ≤ 64) (hL : ∀ r ∈ rows, r.length ≤ 64)
   (hT : s.heap.get? 105 = some (tabObj #[]))
   (h : ∀ h' tk' pg c1 c2 oc1 oc2 (pobjs : List (Addr × Obj)), (∀ b o, b ≠ 105 → s.heap.get? b = some o → h'.get? b = some o) → h'.get? 105 = some (tab2 c1 c2) → CodeOk oc1 lamQ → CodeOk oc2 lamQ → (c1, oc1) ∈ pobjs → (c2, oc2) ∈ pobjs → (∀ p ∈ pobjs, h'.get? p.1 = some p.2 ∧ s.heap.get? p.1 = none) →
      (∀ H, Ext g H → (∀ p ∈ pobjs, H.get? p.1 = some p.2) → H.IsList l vs.toArray → PageOk prog w H pg rows) → Q (.ref pg) {s with heap := h', toks := tk'}) : wpAny (model prog w) (ar dp un fr gd) (call (.ref 110) [.ref l]) Q E s := by
  refine' enterC (K := hd.heap_39 w.params) (P := 105) (X.keeps hg) ((T.keeps hg).nolimit) ?k6 ?k7 (by omega) ?k9 ?kB ?kD hT ?c2 ?c3 ?c4 ?_
  case k6 => k_is
  case k7 => k_is
  case k9 => exact BindsTo.of_eq rfl
  case kB => exact rfl
  case kD => decide +kernel
  case c2 => rfl
  case c3 => rfl
  case c4 => rfl
  intro L h1 tk1 fr1 cells F N Y lP
  k_lt2 lP
  have e0 := hideExt hg hgP
  have X0 := X.keeps e0
  have T0 := T.keeps e0
  have C0 := C.keeps e0
  k_cells Y
  (try simp only [List.cons_append, List.nil_append] at N)
  refine id ?_
  walk_at "my steps"
  all_goals (try k_data)
  (try dsimp only)
  with_reducible rename Fr _ _ _ _ => Fn
  with_reducible rename News _ _ _ _ => Nn
  rename _ = Data.cell _ => dcell
  change _ = Data.cell (some (Value.ref l)) at dcell
  have keepB : ∀ b o, b ≠ 105 → s.heap.get? b = some o → _ := fun b o hb e => Fn.keep b o (by rw [Heap.hide_ne _ hb]; exact e)
  have hfr := front7 (P := 105) Nn (by k_all)
  refine h _ _ _ _ _ _ _ _ keepB (Nn _ (.tail _ (.tail _ (.tail _ (.tail _ (.tail _ (.tail _ (.tail _ (.head _))))))))).1 ?ok1 ?ok2 (List.Mem.tail _ (List.Mem.tail _ (List.Mem.tail _ (List.Mem.head _)))) (List.Mem.tail _ (List.Mem.head _)) hfr ?page
  case ok1 => exact ⟨_, _, by assumption, by assumption⟩
  case ok2 => exact ⟨_, _, by assumption, by assumption⟩
  case page =>
    intro H eH hO hlH
    have XH := X.keeps eH
    have TH := T.keeps eH
    have hfc := hO _ (List.Mem.head _)
    have hkc := hO _ (.tail _ (.head _))
    have hfg := hO _ (.tail _ (.tail _ (.head _)))
    have hkg := hO _ (.tail _ (.tail _ (.tail _ (.head _))))
    have hxi := hO _ (.tail _ (.tail _ (.tail _ (.tail _ (.head _)))))
    have hdi := hO _ (.tail _ (.tail _ (.tail _ (.tail _ (.tail _ (.head _))))))
    have hcl := hO _ (.tail _ (.tail _ (.tail _ (.tail _ (.tail _ (.tail _ (.head _)))))))
    refine page_mk XH hxi hdi rfl rfl ⟨_, _, _, _, hfg⟩ ⟨_, _, _, _, hfc⟩ ?bE ?bT ?bC
    case bE =>
      intro s2 dp2 un2 fr2 gd2 Q2 E2 a t u e hr2 ha0 ha1 hq
      have hfn := hfg
      have hrc := CodeRec_mk hkg (by assumption) (by assumption)
      have hl2 := listExt hlH e
      walk_at "my enterL"
      walk_at "my steps"
      all_goals (try k_data)
      exact hq _ _ _ (Fr.keep (by assumption))
    case bT =>
      intro s2 dp2 un2 fr2 gd2 Q2 E2 a b t u e hr2 ha0 ha1 ha2 hq
      have hfn := hfg
      have hrc := CodeRec_mk hkg (by assumption) (by assumption)
      have hl2 := listExt hlH e
      walk_at "my enterL"
      walk_at "my steps"
      all_goals (try k_data)
      exact hq _ _ _ (Fr.keep (by assumption))
    case bC =>
      intro s2 dp2 un2 fr2 gd2 Q2 E2 a t u v e hr2 ha0 ha1 hq
      have hfn := hfc
      have hrc := CodeRec_mk hkc (by assumption) (by assumption)
      have hl2 := listExt hlH e
      walk_at "my enterL"
      walk_at "my steps"
      all_goals (try k_data)
      exact hq _ _ (Fr.keep (by assumption))
set_option maxHeartbeats 4000000 in
theorem page_call1 {prog : Program} {w : World} {dp un : Nat} {fr gd} {s : Shared} {Q : Value → Shared → Prop} {E} {g : Heap} {p loose mean mg mb} (X : (hd.heap_39 w.params).In g) (T : Top p loose mean mg mb g) (hg : Ext g s.heap) (hgP : g.get? 105 = none) (C : CodeHd g 109 105) (hr : dp + 60 < recursionLimit)
   {rows : List Str} {vs : List Value} {l : Addr} (hl : s.heap.IsList l vs.toArray) (hS : StrsAre vs rows) (hn : rows.length ≤ 64) (hL : ∀ r ∈ rows, r.length ≤ 64)
   {c1 c2 : Addr} {oc1 oc2 : Obj} (hT : s.heap.get? 105 = some (tab2 c1 c2)) (r1 : CodeOk oc1 lamQ) (r2 : CodeOk oc2 lamQ)
   (h : ∀ h' tk' pg (pobjs : List (Addr × Obj)), Ext s.heap h' → (∀ p ∈ pobjs, h'.get? p.1 = some p.2 ∧ s.heap.get? p.1 = none) →
      (∀ H, Ext g H → (∀ p ∈ pobjs, H.get? p.1 = some p.2) → H.get? c1 = some oc1 → H.get? c2 = some oc2 → H.IsList l vs.toArray → PageOk prog w H pg rows) → Q (.ref pg) {s with heap := h', toks := tk'}) : wpAny (model prog w) (ar dp un fr gd) (call (.ref 110) [.ref l]) Q E s := by
  unfold tab2 at hT
  refine' enterC (K := hd.heap_39 w.params) (P := 105) (X.keeps hg) ((T.keeps hg).nolimit) ?k6 ?k7 (by omega) ?k9 ?kB ?kD hT ?c2 ?c3 ?c4 ?_
  case k6 => k_is
  case k7 => k_is
  case k9 => exact BindsTo.of_eq rfl
  case kB => exact rfl
  case kD => decide +kernel
  case c2 => rfl
  case c3 => rfl
  case c4 => rfl
  intro L h1 tk1 fr1 cells F N Y lP
  k_lt2 lP
  have e0 := hideExt hg hgP
  have X0 := X.keeps e0
  have T0 := T.keeps e0
  have C0 := C.keeps e0
  k_cells Y
  (try simp only [List.cons_append, List.nil_append] at N)
  refine id ?_
  walk_at "my steps"
  all_goals (try k_data)
  (try dsimp only)
  with_reducible rename Fr _ _ _ _ => Fn
  with_reducible rename News _ _ _ _ => Nn
  rename _ = Data.cell _ => dcell
  change _ = Data.cell (some (Value.ref l)) at dcell
  have keepB : ∀ b o, s.heap.get? b = some o → _ := fun b o e => (by
    rcases Nat.decEq b 105 with hb | hb
    · exact Fn.keep b o (by rw [Heap.hide_ne _ hb]; exact e)
    · have hb' : b = 105 := hb
      subst hb'; rw [hT] at e; cases e
      exact (Nn _ (.tail _ (.tail _ (.tail _ (.tail _ (.tail _ (.head _))))))).1)
  have hfr := front5 (P := 105) Nn (by k_all)
  refine h _ _ _ _ keepB hfr ?page
  case page =>
    intro H eH hO hc1 hc2 hlH
    have XH := X.keeps eH
    have TH := T.keeps eH
    have hfc := hO _ (List.Mem.head _)
    have hfg := hO _ (.tail _ (.head _))
    have hxi := hO _ (.tail _ (.tail _ (.head _)))
    have hdi := hO _ (.tail _ (.tail _ (.tail _ (.head _))))
    have hcl := hO _ (.tail _ (.tail _ (.tail _ (.tail _ (.head _)))))
    refine page_mk XH hxi hdi rfl rfl ⟨_, _, _, _, hfg⟩ ⟨_, _, _, _, hfc⟩ ?bE ?bT ?bC
    case bE =>
      intro s2 dp2 un2 fr2 gd2 Q2 E2 a t u e hr2 ha0 ha1 hq
      have hfn := hfg
      have hrc := CodeOk.rec r1 hc1
      have hl2 := listExt hlH e
      walk_at "my enterL"
      walk_at "my steps"
      all_goals (try k_data)
      exact hq _ _ _ (Fr.keep (by assumption))
    case bT =>
      intro s2 dp2 un2 fr2 gd2 Q2 E2 a b t u e hr2 ha0 ha1 ha2 hq
      have hfn := hfg
      have hrc := CodeOk.rec r1 hc1
      have hl2 := listExt hlH e
      walk_at "my enterL"
      walk_at "my steps"
      all_goals (try k_data)
      exact hq _ _ _ (Fr.keep (by assumption))
    case bC =>
      intro s2 dp2 un2 fr2 gd2 Q2 E2 a t u v e hr2 ha0 ha1 hq
      have hfn := hfc
      have hrc := CodeOk.rec r2 hc2
      have hl2 := listExt hlH e
      walk_at "my enterL"
      walk_at "my steps"
      all_goals (try k_data)
      exact hq _ _ (Fr.keep (by assumption))

-- part Pl_2
section
open PySem PySem.W PyProof.Rows PySem.Calls PySem.Builtin PySem.Builtin.Str
/-- has a row something behind its header -/
noncomputable def full (x : PySem.Str) : Bool := !isWs (Txt.slice x (some ((hdr x).length : Int)) none)
theorem good_iff {H x : PySem.Str} : Good H x ↔ hdr x = H ∧ full x = true := by
  unfold Good full
  constructor
  · rintro ⟨rfl, h⟩; exact ⟨rfl, by rw [h]; rfl⟩
  · rintro ⟨rfl, h⟩; exact ⟨rfl, by simpa using h⟩
theorem slice_from (x : PySem.Str) (i : Nat) (h : i ≤ x.length) : Txt.slice x (some (i : Int)) none = ⟨x.cps.extract i x.length⟩ := by
  rw [slice_from_eq (b := (x.length : Int)) (by omega) (by omega) rfl]
  congr 1
  apply Array.ext'
  have : ((x.length : Int) - (i : Int)).toNat = x.length - i := by omega
  rw [this]
  simp
theorem slice_to (x : PySem.Str) (i : Nat) (h : i ≤ x.length) : Txt.slice x none (some (i : Int)) = ⟨x.cps.extract 0 i⟩ := by
  rw [beq_iff_eq.mp (slice_closes_toL (x := x) (j := (i : Int)) (by omega) (by omega))]
  congr 1
  apply Array.ext'
  simp
theorem isW_iff (a : Array Nat) : Rx.isW a = true ↔ ∀ k, k < a.size → Unicode.isSpace (a.getD k 0) = true := by
  unfold Rx.isW
  rw [Array.all_eq_true]
  constructor
  · intro h k hk; rw [Rx.getD_of_lt a hk]; exact h k hk
  · intro h k hk; rw [← Rx.getD_of_lt a hk]; exact h k hk
theorem getD_extract (a : Array Nat) (i j k : Nat) (hj : j ≤ a.size) (hk : i + k < j) : (a.extract i j).getD k 0 = a.getD (i + k) 0 := by
  rw [Array.getD_eq_getD_getElem?, Array.getD_eq_getD_getElem?, Array.getElem?_extract]
  rw [if_pos (by omega)]
theorem hlen_le (x : PySem.Str) : hlen x.cps ≤ x.length := (hlen_head x.cps).le
theorem hdr_len (x : PySem.Str) : (hdr x).length = hlen x.cps := by
  rw [hdr_eq]
  have := hlen_le x
  show (x.cps.extract 0 (hlen x.cps)).size = _
  rw [Array.size_extract]
  unfold PySem.Str.length at this
  omega
theorem full_eq (x : PySem.Str) : full x = !Rx.isW (x.cps.extract (hlen x.cps) x.length) := by
  unfold full
  rw [hdr_len, slice_from x _ (hlen_le x), isWs_eq]
theorem white_not_full {x : PySem.Str} (h : isWs x = true) : full x = false := by
  rw [full_eq]
  rw [isWs_eq, isW_iff] at h
  rw [Bool.not_eq_false']
  rw [isW_iff]
  intro k hk
  rw [Array.size_extract] at hk
  have hs : x.length = x.cps.size := rfl
  rw [getD_extract _ _ _ _ (by omega) (by omega)]
  exact h _ (by omega)
theorem full_not_white {x : PySem.Str} (h : full x = true) : isWs x = false := by
  cases e : isWs x with
  | false => rfl
  | true => rw [white_not_full e] at h; cases h
theorem strip_white (x : PySem.Str) : (Txt.strip x == PySem.Str.ofString "") = isWs x := by
  unfold Txt.strip
  rw [PyProof.Rows.stripBy_eq, isWs_eq]
  obtain ⟨a1, a2, a3⟩ := lo_facts Unicode.isSpace x
  obtain ⟨b1, b2, b3, b4⟩ := hi_facts Unicode.isSpace x _ a1
  generalize stripLo Unicode.isSpace true x = lo at *
  generalize stripHi Unicode.isSpace true x lo = hi at *
  have hs : x.length = x.cps.size := rfl
  cases hw : Rx.isW x.cps with
  | true =>
    rw [isW_iff] at hw
    have : hi = lo := by
      rcases b4 with h | h
      · exact h
      · by_cases q : lo < hi
        · rw [hw (hi - 1) (by omega)] at h; cases h
        · omega
    subst this
    rw [beq_iff_eq]
    show PySem.Str.mk (x.cps.extract hi hi) = PySem.Str.mk #[]
    congr 1
    simp
    omega
  | false =>
    cases q : (strSub x lo hi == PySem.Str.ofString "") with
    | false => rfl
    | true =>
      rw [beq_iff_eq] at q
      have hz : (x.cps.extract lo hi).size = 0 := by
        have : (strSub x lo hi).cps.size = 0 := by rw [q]; rfl
        exact this
      rw [Array.size_extract] at hz
      have : Rx.isW x.cps = true := by
        rw [isW_iff]
        intro k hk
        by_cases hk' : k < lo
        · exact a2 k hk'
        · exact b3 k (by omega) (by omega)
      rw [hw] at this; cases this
def restOf (x : PySem.Str) : PySem.Str := Txt.lstripChars (Txt.lstripChars x (PySem.Str.ofString " \t")) (PySem.Str.ofString "#")
theorem lstripBy (goes : Nat → Bool) (x : PySem.Str) : ∃ a, a ≤ x.length ∧ Txt.stripBy goes true false x = ⟨x.cps.extract a x.length⟩ ∧ (∀ k, k < a → goes (x.cps.getD k 0) = true) ∧ (a < x.length → goes (x.cps.getD a 0) = false) := by
  obtain ⟨a1, a2, a3⟩ := lo_facts goes x
  refine ⟨stripLo goes true x, a1, ?_, a2, fun h => ?_⟩
  · rw [PyProof.Rows.stripBy_eq]; rfl
  · rcases a3 with q | q
    · omega
    · exact q
theorem bt_goes : ∀ c : Nat, (PySem.Str.ofString " \t").cps.contains c = Rx.isBT c := by
  intro c
  show (#[32, 9] : Array Nat).contains c = _
  unfold Rx.isBT
  rw [Bool.eq_iff_iff]
  simp
theorem hash_goes : ∀ c : Nat, (PySem.Str.ofString "#").cps.contains c = (c == 35) := by
  intro c
  show (#[35] : Array Nat).contains c = _
  rw [Bool.eq_iff_iff]
  simp
theorem rest_eq (x : PySem.Str) : restOf x = ⟨x.cps.extract (hlen x.cps) x.length⟩ := by
  unfold restOf Txt.lstripChars
  obtain ⟨a, a1, e1, a2, a3⟩ := lstripBy (PySem.Str.ofString " \t").cps.contains x
  rw [e1]
  obtain ⟨b, b1, e2, b2, b3⟩ := lstripBy (PySem.Str.ofString "#").cps.contains ⟨x.cps.extract a x.length⟩
  rw [e2]
  have hs : x.length = x.cps.size := rfl
  have hl : (PySem.Str.mk (x.cps.extract a x.length)).length = x.length - a := by
    show (x.cps.extract a x.length).size = _
    rw [Array.size_extract]; omega
  rw [hl] at b1 b3 ⊢
  have key : Rx.HeadLen x.cps (a + b) := by
    refine ⟨by omega, a, by omega, fun j hj => ?_, fun hk => ?_, fun j h1 h2 => ?_, fun hn => ?_⟩
    · rw [← bt_goes]; exact a2 j hj
    · rw [← bt_goes]; exact a3 (by omega)
    · have := b2 (j - a) (by omega)
      rw [hash_goes] at this
      dsimp only at this
      rw [getD_extract _ _ _ _ (by omega) (by omega), show a + (j - a) = j by omega] at this
      exact this
    · have := b3 (by omega)
      rw [hash_goes] at this
      dsimp only at this
      rw [getD_extract _ _ _ _ (by omega) (by omega)] at this
      exact this
  rw [head_uniq (hlen_head x.cps) key]
  congr 1
  dsimp only
  apply Array.ext'
  simp
  omega
theorem kind_hdr (x : PySem.Str) : Txt.slice x none (some ((x.length : Int) - ((restOf x).length : Int))) = hdr x := by
  have hs : x.length = x.cps.size := rfl
  have := hlen_le x
  have e : (x.length : Int) - ((restOf x).length : Int) = ((hlen x.cps : Nat) : Int) := by
    rw [rest_eq]
    show (x.length : Int) - ((x.cps.extract (hlen x.cps) x.length).size : Int) = _
    rw [Array.size_extract]; omega
  rw [e, slice_to x _ this, hdr_eq]
theorem kind_full (x : PySem.Str) : (!(Txt.strip (restOf x) == PySem.Str.ofString "")) = full x := by
  rw [strip_white, isWs_eq, rest_eq, full_eq]
end

-- part Pl2_2
theorem skip_uniq {rows : List Str} {mark k k' : Int} (h : Skip rows mark k) (h' : Skip rows mark k') : k = k' := by
  obtain ⟨a, b, c⟩ := h
  obtain ⟨a', b', c'⟩ := h'
  rcases Int.lt_trichotomy k k' with q | q | q
  · exact absurd (b' k a q) c
  · exact q
  · exact absurd (b k' a' q) c'
theorem grow_uniq {rows : List Str} {H : Str} {k j j' : Int} (h : Grow rows H k j) (h' : Grow rows H k j') : j = j' := by
  obtain ⟨a, b, c⟩ := h
  obtain ⟨a', b', c'⟩ := h'
  rcases Int.lt_trichotomy j j' with q | q | q
  · exact absurd (b' j a q) c
  · exact q
  · exact absurd (b j' a' q) c'
theorem shrink_uniq {rows : List Str} {H : Str} {k j j' : Int} (h : Shrink rows H k j) (h' : Shrink rows H k j') : j = j' := by
  obtain ⟨z, a, b, c⟩ := h
  obtain ⟨z', a', b', c'⟩ := h'
  rcases Int.lt_trichotomy j j' with q | q | q
  · exact absurd ⟨by omega, b j' q a'⟩ c'
  · exact q
  · exact absurd ⟨by omega, b' j q a⟩ c
theorem fp_uniq {rows : List Str} {mark f l f' l' : Int} {H H' : Str} (h : FP rows mark f l H) (h' : FP rows mark f' l' H') : f = f' ∧ l = l' ∧ H = H' := by
  obtain ⟨k, s, rfl, g, z⟩ := h
  obtain ⟨k', s', rfl, g', z'⟩ := h'
  obtain rfl := skip_uniq s s'
  have := grow_uniq g g'
  have := shrink_uniq z z'
  exact ⟨by omega, by omega, rfl⟩
theorem good_not_white {H x : Str} (h : Good H x) : isWs x = false := full_not_white (good_iff.mp h).2
theorem white_not_good {H x : Str} (h : isWs x = true) : ¬ Good H x := fun g => by rw [good_not_white g] at h; cases h
/-- a page inside a bigger one, a white row above it and one below it -/
structure Emb (rows big : List Str) (A : Int) : Prop where
  pos : 1 ≤ A
  len : A + rows.length + 1 ≤ big.length
  same : ∀ j, 1 ≤ j → j ≤ (rows.length : Int) → lineAt big (j + A) = lineAt rows j
  up : isWs (lineAt big A) = true
  down : isWs (lineAt big (rows.length + 1 + A)) = true
theorem lineAt_get {rows : List Str} {j : Int} (h1 : 1 ≤ j) (h2 : j ≤ (rows.length : Int)) : ∃ (h : (j - 1).toNat < rows.length), lineAt rows j = rows[(j - 1).toNat] := by
  have h : (j - 1).toNat < rows.length := by omega
  refine ⟨h, ?_⟩
  unfold lineAt
  rw [if_pos (by omega), List.getD_eq_getElem?_getD, List.getElem?_eq_getElem h]; rfl
theorem cut_inside {up rows down : List Str} {f l : Int} (h1 : 1 ≤ f) (h2 : f ≤ l) (h3 : l ≤ rows.length + 1) : cut (up ++ rows ++ down) (f + up.length) (l + up.length) = cut rows f l := by
  unfold cut
  congr 2
  rw [List.append_assoc, List.take_append, List.drop_append]
  rw [show (l + (up.length : Int) - 1).toNat = up.length + (l - 1).toNat by omega, show (f + (up.length : Int) - 1).toNat = up.length + (f - 1).toNat by omega]
  rw [List.take_of_length_le (by omega), List.drop_of_length_le (by omega), List.nil_append]
  rw [show up.length + (l - 1).toNat - up.length = (l - 1).toNat by omega, show up.length + (f - 1).toNat - up.length = (f - 1).toNat by omega]
  rw [List.take_append, show (l - 1).toNat - rows.length = 0 by omega, List.take_zero, List.append_nil]
/-- the rows, counted from 1, with this header and something behind it -/
noncomputable def alikes (rows : List Str) (H : Str) : List Int := ((List.range rows.length).filter (fun j => (hdr (rows.getD j Str.empty) == H) && full (rows.getD j Str.empty))).map (fun (j : Nat) => (j : Int) + 1)

-- part Ls_2
section
variable {prog : Program} {w : World} {dp un : Nat} {fr : Option (List Env)} {gd : Option (List Code)} {E : Value → Shared → Prop} {s : Shared} {K : Frag} {Q : Value → Shared → Prop}
theorem enterCC {R : Result → Shared → Prop} {name qual : Str} {params : Arguments} {body : List Stmt} {scope : Scope} {dV kV doc pm cdv ct oc : Value} {an od : Option Addr} {osl : Array (Option Value)} {f P : Addr} {oP : Obj} {pos : List Value} {binds : List (Str × Value)}
    (X : K.In s.heap) (hlim : s.heap.NoLimit)
    (ho : K.lookup f = some ⟨oc, od, .func (fnOf name qual params body scope dV kV doc pm an cdv ct), osl⟩) (hcd : codeIn K cdv qual = true) (hroom : dp + 1 < recursionLimit)
    (hbind : BindsTo s (fnOf name qual params body scope dV kV doc pm an cdv ct) ⟨pos, []⟩ binds)
    (hkind : (binds.all fun y => scope.names.lookup y.1 == some .local || scope.names.lookup y.1 == some .cell) = true) (hnd : ((cellsFrom 0 scope.names []).map (·.1)).Nodup)
    (hP : s.heap.get? P = some oP) (hco : scope.isCoroutine = false) (hgen : scope.isGenerator = false) (hk : scope.kind = .function)
    (h : ∀ L h₁ tk fr' cells, Fr (s.heap.hide P) L h₁ (bindL (envOfC qual scope L f cdv).kindOf binds fun _ => none) → News (s.heap.hide P) L h₁ (cells ++ [(P, oP)]) →
      CellsAre (bindC (envOfC qual scope L f cdv).kindOf binds fun _ => none) (cellsFrom (L + 1) scope.names []) cells → P < L →
      wpAny (model prog w) (ar (dp + 1) (un + 3) fr' gd) (execs body (envOfC qual scope L f cdv))
        (fun fl s' => R (.ok (.ret (match fl with | .ret v => v | _ => .none))) s') (fun _ _ => False) { s with heap := h₁, toks := tk }) :
    codeAny (model prog w) (ar dp un fr gd) (.call (.ref f) ⟨pos, []⟩) R s := by
  refine codeAny_call_function (fd := fnX name qual params body scope [] dV kV doc pm an cdv ct) (by show dp < _; omega) (X _ _ ho) rfl hco hgen rfl (codeRec_of X hcd) (hbind _ _ _ _ ?_)
  refine wpAny_newFunctionEnv_cells hk (kindsX hkind _) fun env' he s' x => ?_
  subst he
  refine ⟨hlim.keeps x.toInCall.keep, codeAny_func ?_⟩
  obtain ⟨h₁, tk, rfl, _⟩ := x.done
  have hk₁ := x.toInCall.keep
  obtain ⟨cells, NC, Y⟩ := Cl.news (h₀ := s.heap) (Nat.le_refl _) fun n c hm => ⟨x.cell n c (lookup_of_mem_nodup (cellsFrom_names scope.names 0 (s.heap.objs.size + 1) [] [] rfl ▸ hnd) hm), x.above n c hm⟩
  obtain ⟨fr', e⟩ := ar_deeper (dp := dp) (un := un) (fr := fr) (gd := gd) (envOfC qual scope s.heap.objs.size f cdv)
  show wpAny _ ((ar dp un fr gd).deeper (envOfC qual scope s.heap.objs.size f cdv)) _ _ _ _
  rw [e]
  refine wpAny_mono (h s.heap.objs.size h₁ tk fr' cells ⟨x.toInCall.ns, fun b o e => hk₁ b o (Heap.of_hide e), Nat.le_of_eq (Heap.hide_size _ _)⟩ (fun p hp => ?_) Y (Heap.lt_size hP)) (fun _ _ x => x) (fun _ _ x => x.elim)
  rcases List.mem_append.mp hp with hp | hp
  · refine ⟨(NC p hp).1, (NC p hp).2.1, ?_⟩
    cases q : (s.heap.hide P).get? p.1 with
    | none => rfl
    | some o => have := Heap.of_hide q; rw [(NC p hp).2.2] at this; cases this
  · rw [List.mem_singleton.mp hp]
    exact ⟨hk₁ _ _ hP, Nat.ne_of_lt (Heap.lt_size hP), Heap.hide_self _ _⟩

/-- a state behind a statement: the frame's map and the ledger are as told -/
def St (h₀ : Heap) (L : Addr) (s : Shared) (Inv : (Str → Option Value) → List (Addr × Obj) → Prop) (f : Flow) (s' : Shared) : Prop :=
  f = .next ∧ ∃ h' tk' m' news', s' = { s with heap := h', toks := tk' } ∧ Fr h₀ L h' m' ∧ News h₀ L h' news' ∧ Inv m' news'
end

-- part Lo_2
section
variable {prog : Program} {w : World} {A : Around} {h₀ : Heap} {L : Addr} {m : Str → Option Value} {env : Env} {elt : Expr} {x : Str} {scope : Scope} {cl : List (Str × Addr)} {s : Shared} {S : List (Addr × Obj) → Prop} {P : Nat → Value → Prop} {Fin : List Value → List (Addr × Obj) → Prop} {news : List (Addr × Obj)}
/-- the end of a turn that makes one object -/
def TurnObj (h₀ : Heap) (L : Addr) (m : Str → Option Value) (s : Shared) (h : Heap) (led : List (Addr × Obj)) (out : Obj → Prop) (y : Value) (s₂ : Shared) : Prop :=
  ∃ h' tk' ai oi, s₂ = { s with heap := h', toks := tk' } ∧ Fr h₀ L h' m ∧ News h₀ L h' led ∧ h'.get? ai = some oi ∧ h.get? ai = none ∧ y = .ref ai ∧ out oi

end
local macro_rules | `(tactic| walk_at "eval Name") => `(tactic| ((with_reducible show wpAny _ _ (eval (Expr.Name _ _) (envOfC _ _ _ _ _)) _ _ _); k_dflt (first
  | (refine' nameX_L ?F ?v ?_ ?a ?b; (case a => rfl); (case b => rfl); (case F => k_asm); (case v => first | exact rfl | with_reducible assumption); k_whole)
  | (refine' nameX_C ?N ?c ?m ?d ?_ ?a ?b; (case a => rfl); (case b => rfl); (case N => k_asm); (case c => rfl); (case m => k_mem); (case d => k_asm); k_whole))))

-- part Lf_2
section
variable {prog : Program} {w : World} {A : Around} {h₀ : Heap} {L : Addr} {m : Str → Option Value} {env : Env} {ct elt : Expr} {x : Str} {scope : Scope} {cl : List (Str × Addr)} {s : Shared} {S : List (Addr × Obj) → Prop} {P : Nat → Value → Prop} {Fin : List Value → List (Addr × Obj) → Prop} {news : List (Addr × Obj)}
theorem rest_filter {n : Nat} {α : Type} (xs : List α) (rel out : α → Value → Prop) (p : α → Bool) (hlen : xs.length = n) (hP : ∀ i v, i < n → P i v → ∃ a, xs[i]? = some a ∧ rel a v) (hS : S news)
    (test : ∀ a v I oI C oC D m₂ ys h tk (E' : Value → Shared → Prop), a ∈ xs → rel a v → LCg.NsObj oC m₂ → m₂ x = some v → Fr h₀ L h m → News h₀ L h ((I, oI) :: (C, oC) :: (D, LCg.lst ys) :: news) → LCg.Off3 I C D news → ((@Ne Nat I C) ∧ (@Ne Nat I D) ∧ (@Ne Nat C D)) →
      wpAny (model prog w) A (isTrue ct (compEnvC scope cl C env) (eval ct (compEnvC scope cl C env))) (fun ok s' => TurnEnd' h₀ L m s ((I, oI) :: (C, oC) :: (D, LCg.lst ys) :: news) (fun v => v = .bool (p a)) (.bool ok) s') E' { s with heap := h, toks := tk })
    (turn : ∀ a v I oI C oC D m₂ ys h tk (E' : Value → Shared → Prop), a ∈ xs → p a = true → rel a v → LCg.NsObj oC m₂ → m₂ x = some v → Fr h₀ L h m → News h₀ L h ((I, oI) :: (C, oC) :: (D, LCg.lst ys) :: news) → LCg.Off3 I C D news → ((@Ne Nat I C) ∧ (@Ne Nat I D) ∧ (@Ne Nat C D)) →
      wpAny (model prog w) A (eval elt (compEnvC scope cl C env)) (TurnEnd' h₀ L m s ((I, oI) :: (C, oC) :: (D, LCg.lst ys) :: news) (out a)) E' { s with heap := h, toks := tk })
    (fin : ∀ ys, All2 out (xs.filter p) ys → Fin ys news) : LCt.CompRestT prog w A h₀ L m env ct elt x scope cl s S P Fin n 0 [] news := by
  have key : ∀ (j i : Nat) (ys : List Value), i + j = n → All2 out ((xs.take i).filter p) ys → LCt.CompRestT prog w A h₀ L m env ct elt x scope cl s S P Fin j i ys news := by
    intro j
    induction j with
    | zero =>
      intro i ys hi hy
      have e : i = xs.length := by omega
      subst e
      rw [List.take_length] at hy
      exact LCt.CompRestT.zero (fin ys hy)
    | succ j ih =>
      intro i ys hi hy
      refine LCt.CompRestT.succ ?_
      intro v I oI C oC D m₂ h tk E' hv hC hx F N off ne
      obtain ⟨a, ha, hr⟩ := hP i v (by omega) hv
      refine wpAny_mono (test a v I oI C oC D m₂ ys h tk E' (List.mem_of_getElem? ha) hr hC hx F N off ne) (fun ok s₁ hq => ?_) fun _ _ e => e
      obtain ⟨h1, tk1, rfl, F1, N1, ho1⟩ := hq
      injection ho1 with hok
      subst hok
      cases hp : p a with
      | true =>
        simp only [if_true]
        refine wpAny_mono (turn a v I oI C oC D m₂ ys h1 tk1 E' (List.mem_of_getElem? ha) hp hr hC hx F1 N1 off ne) (fun y s₂ hq => ?_) fun _ _ e => e
        obtain ⟨h', tk', e, F', N', ho⟩ := hq
        refine ⟨h', tk', news, e, F', N', off, hS, ?_⟩
        refine ih (i + 1) _ (by omega) ?_
        rw [List.take_add_one, ha, List.filter_append]
        have : List.filter p [a] = [a] := by simp [hp]
        show All2 out (List.filter p (xs.take i) ++ List.filter p [a]) _
        rw [this]
        exact hy.snoc ho
      | false =>
        simp only [Bool.false_eq_true, if_false]
        refine ⟨h1, tk1, news, rfl, F1, N1, off, hS, ?_⟩
        refine ih (i + 1) _ (by omega) ?_
        rw [List.take_add_one, ha, List.filter_append]
        have : List.filter p [a] = [] := by simp [hp]
        show All2 out (List.filter p (xs.take i) ++ List.filter p [a]) _
        rw [this, List.append_nil]
        exact hy
  exact key n 0 [] (by omega) (by rw [List.take_zero]; exact .nil)
end
local macro_rules | `(tactic| walk_at "exec Assign cons ListComp") => `(tactic| (lct_look; k_dflt (refine LCt.Assign_ListComp_T (F₀ := by k_asm) (by rfl) (by with_unfolding_all rfl) (by with_unfolding_all rfl) (by decide) (by rfl) (by decide) (by rfl) (by rfl) (by rfl) ?_)))
local macro_rules | `(tactic| walk_at "eval ListComp") => `(tactic| (lct_look; k_dflt (refine LCt.ListComp_T (F₀ := by k_asm) (by with_unfolding_all rfl) (by decide) (by rfl) (by decide) (by rfl) ?_)))

-- part Lp_2
section
variable {prog : Program} {w : World} {A : Around} {s : Shared} {env : Env} {h₀ : Heap}
/-- behind a turn: on, or left with an answer -/
def Turned (h₀ : Heap) (L : Addr) (s : Shared) (I : Addr) (oI : Obj) (Jn : (Str → Option Value) → List (Addr × Obj) → Prop) (Q : Flow → Shared → Prop) (f : Flow) (s₂ : Shared) : Prop :=
  (f = .next ∧ ∃ h' tk' m' news', s₂ = { s with heap := h', toks := tk' } ∧ Fr h₀ L h' m' ∧ News h₀ L h' ((I, oI) :: news') ∧ (∀ p ∈ news', p.1 ≠ I) ∧ Jn m' news') ∨ ∃ v, f = .ret v ∧ Q (.ret v) s₂
/-- the range is made -/
def RngAt (h₀ : Heap) (L : Addr) (s : Shared) (a b : Int) (J : (Str → Option Value) → List (Addr × Obj) → Prop) (xv : Value) (s₁ : Shared) : Prop :=
  ∃ r t u v m news h tk, xv = .ref r ∧ s₁ = { s with heap := h, toks := tk } ∧ IsRange h r a b 1 t u v ∧ Fr h₀ L h m ∧ News h₀ L h news ∧ J m news
theorem For_rng {Q : Flow → Shared → Prop} {x : Str} {px pos : Pos} {iter : Expr} {body : List Stmt} (hx : env.kindOf x = some .local)
    (hp : (env.scope.kind == .class || (env.scope.kind == .module && env.locals != env.globals)) = false) (hh : A.handled = none) (a : Int) (n : Nat) (b : Int) (hb : b = a + n) (hsm : Builtin.Range.small a b 1 = true)
    (J : Nat → (Str → Option Value) → List (Addr × Obj) → Prop)
    (hit : wpAny (model prog w) A (eval iter env) (RngAt h₀ env.locals s a b (J 0)) (fun _ _ => False) s)
    (step : ∀ (i : Nat) (t : Tok) m₁ news₁ h tk I oI, i < n → J i m₁ news₁ → (∀ p ∈ news₁, p.1 ≠ I) → Fr h₀ env.locals h (fun y => if y = x then some (.int (a + i) t) else m₁ y) → News h₀ env.locals h ((I, oI) :: news₁) →
      wpAny (model prog w) A (execs body env) (Turned h₀ env.locals s I oI (J (i + 1)) Q) (fun _ _ => False) { s with heap := h, toks := tk })
    (fin : ∀ h' tk m' news', Fr h₀ env.locals h' m' → News h₀ env.locals h' news' → J n m' news' → Q .next { s with heap := h', toks := tk })
    (hs : ∀ x, foldedSetIterable iter env x = pure x := by intro _; rfl) :
    wpAny (model prog w) A (exec (.For (.Name x px) iter body [] pos) env) Q (fun _ _ => False) s := by
  refine For_invV h₀ hx hp (wpAny_mono hit (fun xv s₁ h₁ => ?_) fun _ _ e => e) hs
  obtain ⟨r, t, u, v, m, news, h, tk, rfl, rfl, hr, F, N, hJ⟩ := h₁
  refine wpAny_pyIter_range hr hsm ?_
  have up : ∀ c o, h.get? c = some o → (h.push { cls := .type "range_iterator", data := .fields #[rawInt a, rawInt (Builtin.Range.rangeSize a b 1), rawInt 1] }).get? c = some o := fun c o e => Heap.get?_push_of_some _ e
  have hsz : Builtin.Range.rangeSize a b 1 = (n : Int) := by rw [rangeSize_nat]; omega
  have hI0 : h₀.get? h.objs.size = none := next_is_new F
  refine ⟨h.objs.size, [h.objs.size], [h.objs.size], n, _, _, m, news, J, rfl, LCg.range_walks hh a n, ?_, ?_, ?_, ?_, F.keeps up, N.grown up, hJ, ?_, ?_⟩
  · intro q
    exact Nat.ne_of_lt F.ns.lt (List.mem_singleton.mp q)
  · intro c hc
    rw [List.mem_singleton.mp hc]; exact hI0
  · intro p hp q
    exact Nat.ne_of_lt (Heap.lt_size (N p hp).1) (List.mem_singleton.mp q)
  · show IsRangeIter _ _ _ _ _
    rw [hsz]
    simpa using Heap.get?_push_size _ rfl
  · rintro i v m₁ news₁ s₁ own ⟨h1, tk1, rfl⟩ hi ⟨t, rfl⟩ hJi hnw hown1 hown2 hown3 hst F₁ N₁
    obtain ⟨oI, hst'⟩ : ∃ oI, h1.get? h.objs.size = some oI := ⟨_, hst⟩
    have hmem := hown3 h.objs.size (List.mem_singleton.mpr rfl) hI0 _ hst'
    have N2 : News h₀ env.locals h1 ((h.objs.size, oI) :: news₁) := fun p hp => by
      rcases List.mem_cons.mp hp with rfl | hp
      · exact N₁ _ (List.mem_append_left _ hmem)
      · exact N₁ _ (List.mem_append_right _ hp)
    refine wpAny_mono (step i t m₁ news₁ h1 tk1 h.objs.size oI hi hJi (fun p hp q => hnw p hp (List.mem_singleton.mpr q)) F₁ N2) (fun f s₂ hq => ?_) fun _ _ e => e
    · rcases hq with ⟨rfl, h', tk', m', news', rfl, F', N', hne, hJ'⟩ | ⟨v, rfl, hq⟩
      · refine ⟨rfl, h', tk', m', news', rfl, F', fun p hp => ?_, fun p hp q => hne p hp (List.mem_singleton.mp q), hJ'⟩
        rcases List.mem_append.mp hp with hp | hp
        · have e1 := List.mem_singleton.mp (hown1 p hp)
          have e2 := hown2 p hp
          dsimp only at e2
          rw [e1, hst'] at e2
          have e3 : p = (h.objs.size, _) := Prod.ext e1 (Option.some.inj e2).symm
          rw [e3]
          exact N' _ (.head _)
        · exact N' _ (.tail _ hp)
      · exact hq
  · intro h' tk' m' news' F' N' _ hJ'
    exact fin h' tk' m' news' F' N' hJ'
end

-- part Ok_2
/-- every sign of a text is a sign -/
abbrev ok (x : Str) : Prop := PyData.strOk x = true
theorem ok_iff (x : Str) : ok x ↔ ∀ c ∈ x.cps.toList, c < 0x110000 := by
  unfold ok PyData.strOk
  rw [← Array.all_toList, List.all_eq_true]
  simp
theorem ok_app {a b : Str} (ha : ok a) (hb : ok b) : ok (a ++ b) := by
  rw [ok_iff] at *
  intro c hc
  have : (a ++ b).cps.toList = a.cps.toList ++ b.cps.toList := by
    show (a.cps ++ b.cps).toList = _
    simp
  rw [this, List.mem_append] at hc
  rcases hc with h | h
  · exact ha c h
  · exact hb c h
theorem ok_extract {a : Str} (ha : ok a) (i j : Nat) : ok ⟨a.cps.extract i j⟩ := by
  rw [ok_iff] at *
  intro c hc
  refine ha c ?_
  have : (a.cps.extract i j).toList = (a.cps.toList.take j).drop i := by simp [List.drop_take]
  dsimp only at hc
  rw [this] at hc
  exact List.mem_of_mem_take (List.mem_of_mem_drop hc)
theorem ok_hdr {x : Str} (h : ok x) : ok (hdr x) := by rw [hdr_eq]; exact ok_extract h _ _
theorem ok_empty : ok Str.empty := by decide +kernel
theorem ok_line {rows : List Str} (h : ∀ r ∈ rows, ok r) (j : Int) : ok (lineAt rows j) := by
  unfold lineAt
  split
  · rw [List.getD_eq_getElem?_getD]
    cases e : rows[(j - 1).toNat]? with
    | none => exact ok_empty
    | some r => exact h r (List.mem_of_getElem? e)
  · exact ok_empty
theorem ok_strjoin {sep : Str} (hs : ok sep) : ∀ {l : List Str}, (∀ r ∈ l, ok r) → ok (Str.join sep l)
  | [], _ => ok_empty
  | [x], h => h x List.mem_cons_self
  | x :: y :: r, h => ok_app (ok_app (h x List.mem_cons_self) hs) (ok_strjoin hs (l := y :: r) fun z hz => h z (List.mem_cons_of_mem _ hz))
theorem ok_join {sep : Str} (hs : ok sep) {l : List Str} (h : ∀ r ∈ l, ok r) : ok (Txt.join sep l) := by
  unfold Txt.join
  rw [PySem.StrLaws.glued_eq_join]; exact ok_strjoin hs h
theorem ok_cut {rows : List Str} (h : ∀ r ∈ rows, ok r) (a b : Int) : ok (cut rows a b) := by
  refine ok_join (by decide +kernel) fun z hz => ?_
  obtain ⟨y, hy, rfl⟩ := List.mem_map.mp hz
  exact ok_app (h y (List.mem_of_mem_take (List.mem_of_mem_drop hy))) (by decide +kernel)
theorem ok_d0N : ∀ n : Nat, n < 100 → ok (d0 n) := by decide +kernel
theorem ok_d0 {n : Int} (h0 : 0 ≤ n) (h1 : n < 100) : ok (d0 n) := by obtain ⟨k, rfl, hk⟩ := natOf h0 h1; exact ok_d0N k hk
theorem ok_fp {rows : List Str} {mark f l : Int} {H : Str} (h : FP rows mark f l H) (hr : ∀ r ∈ rows, ok r) : ok H := by
  obtain ⟨k, _, rfl, _⟩ := h
  exact ok_hdr (ok_line hr k)
theorem shaped4 {x1 x2 x3 x4 : Str} (h1 : ok x1) (h2 : ok x2) (h3 : ok x3) (h4 : ok x4) : SeqAt.shaped (.tuple [.str x1, .str x2, .str x3, .str x4]) = true := by
  simp only [ok] at h1 h2 h3 h4
  simp [SeqAt.shaped, PyData.canLay0, PyData.canLayAll0, PyData.depth, PyData.depthAll, h1, h2, h3, h4]

-- part Lg_2
theorem fillG : (PySem.Challenge.rw_dm0163_02, hd.heap_39) = (PySem.Challenge.rw_dm0163_02, hd.heap_39) := by k_fill; rfl
section
variable {prog : Program} {w : World} {dp un : Nat} {fr : Option (List Env)} {gd : Option (List Code)} {s : Shared}
/-- cut behind one statement, the shared base kept -/
theorem cutS {M : Model} {A : Around} {env : Env} {st : Stmt} {rest : List Stmt} {Q : Flow → Shared → Prop} {E : Value → Shared → Prop} {h₀ : Heap} {L : Addr} {h : Heap} {tk : Nat} (Inv : (Str → Option Value) → List (Addr × Obj) → Prop)
    (h1 : wpAny M A (exec st env) (St h₀ L s Inv) E { s with heap := h, toks := tk })
    (h2 : ∀ h' tk' m' news', Fr h₀ L h' m' → News h₀ L h' news' → Inv m' news' → wpAny M A (execs rest env) Q E { s with heap := h', toks := tk' }) : wpAny M A (execs (st :: rest) env) Q E { s with heap := h, toks := tk } := by
  refine wpAny_execs_cons (wpAny_mono h1 (fun f s' hs => ?_) fun _ _ e => e)
  obtain ⟨rfl, h', tk', m', news', rfl, F, N, I⟩ := hs
  exact h2 h' tk' m' news' F N I
end
local macro_rules | `(tactic| walk_at "my steps") => `(tactic| repeat' (first | ((fail_if_success (with_reducible show LCg.CompSrc _ _ _ _ _ _ _ _ _ _ _ _ _ _)); (fail_if_success (with_reducible show LCt.CompSrcT _ _ _ _ _ _ _ _ _ _ _ _ _ _ _)); (fail_if_success (with_reducible show wpAny _ _ (exec (Stmt.While _ _ _ _) _) _ _ _)); (fail_if_success (with_reducible show wpAny _ _ (exec (Stmt.For _ _ _ _ _) _) _ _ _)); (fail_if_success (with_reducible show St _ _ _ _ _ _)); first | (k_unfold; (try dsimp only)) | (k_end; wrow_close) | walk1 | (dsimp only; walk1) | (leave1; walk_say "STEP leave1"; try dsimp only) | fail "no step")))
local macro_rules | `(tactic| walk_at "my sub") => `(tactic| first | (refine List.forall_mem_cons.mpr ⟨by k_mem, ?_⟩; walk_at "my sub") | (intro p hp; repeat (first | exact hp | refine List.mem_cons_of_mem _ ?_)))
section
variable {prog : Program} {w : World} {A : Around} {E Q : Value → Shared → Prop} {s : Shared} {h₀ : Heap} {L : Addr} {m : Str → Option Value} {news : List (Addr × Obj)} {value slice : Expr} {l : Addr} {vs : List Value} {ys : List Str} {a b : Int} {t u : Tok}
theorem slice_from_strs {vs : List Value} {ys : List Str} (h : StrsAre vs ys) {a : Int} (ha : 0 ≤ a) : StrsAre (slicePick vs.toArray (some a) none none).toList (ys.drop a.toNat) := by
  have e : slicePick vs.toArray (some a) none none = slicePick vs.toArray (some a) (some (vs.length : Int)) none := by
    rw [slicePick_plain, slicePick_plain]
    simp only [Option.elim, clipAt_nat, List.size_toArray, Nat.min_self]
  rw [e]
  have := slice_strs h ha (b := (vs.length : Int)) (by omega)
  rwa [Int.toNat_natCast, List.take_of_length_le (by rw [h.length]; exact Nat.le_refl _)] at this
theorem slice_own_from (F : Fr h₀ L s.heap m) (N : News h₀ L s.heap news) (hl : s.heap.IsList l vs.toArray) (hS : StrsAre vs ys) (hn : vs.length ≤ 1000) (ha : 0 ≤ a)
    (h : ∀ D zs h', Fr h₀ L h' m → News h₀ L h' ((D, W.listOf zs.toArray 0) :: news) → (∀ p ∈ news, p.1 < D) → StrsAre zs (ys.drop a.toNat) → Q (.ref D) { s with heap := h' })
    (hs : subscripted slice false (.ref l) (.ref s.heap.objs.size) = operate [.ref s.heap.objs.size, .ref l] (getItem (.ref l) (.ref s.heap.objs.size)) := by with_unfolding_all rfl) (ht : ∀ r, letTemporaryGo value (.ref l) r = pure () := by intro _; with_unfolding_all rfl) :
    wpAny (model prog w) A (subscriptTail value slice (.ref l) (.ref s.heap.objs.size)) Q E { s with heap := s.heap.push { cls := .type "slice", data := .fields #[.int a t, .none, .none] } } :=
  kmk_slice_lit F N hl (.int _ _) .none rfl (fun D h' F' N' l1 => h D _ h' F' N' l1 (slice_from_strs hS ha)) hs ht (by rw [List.size_toArray, show sizeLine = 16777216 from rfl]; omega)
end
local macro_rules | `(tactic| walk_at "subscriptTail Name Slice ref ref") => `(tactic| ((with_reducible show wpAny _ _ (subscriptTail _ (Expr.Slice (some _) none none _) (Value.ref _) (Value.ref _)) _ _ _); (try dsimp only); k_dflt (refine slice_own_from (s := ⟨_, _, _, _, _⟩) (by k_asm) (by k_asm) (News.isList (by k_asm) (by k_mem)) (by with_reducible assumption) (by omega) (by omega) ?_); intro D' zs' h' F' N' l1 hS'; (try k_lt l1); (try k_sweep)))
theorem newsSub {h₀ h : Heap} {L : Addr} {news news' : List (Addr × Obj)} (N : News h₀ L h news') (hs : ∀ p ∈ news, p ∈ news') : News h₀ L h news := fun p hp => N p (hs p hp)
theorem stMk {h₀ : Heap} {L : Addr} {s : Shared} {Inv : (Str → Option Value) → List (Addr × Obj) → Prop} {h' : Heap} {tk' : Nat} {m' : Str → Option Value} {all : List (Addr × Obj)} (F : Fr h₀ L h' m') (N : News h₀ L h' all) (news' : List (Addr × Obj)) (hs : ∀ p ∈ news', p ∈ all) (I : Inv m' news') :
    St h₀ L s Inv .next { s with heap := h', toks := tk' } := ⟨rfl, h', tk', m', news', rfl, F, newsSub N hs, I⟩
local macro_rules | `(tactic| walk_at "my all") => `(tactic| first | exact List.forall_mem_nil _ | with_reducible assumption | (refine' List.forall_mem_cons.mpr ⟨?a, ?b⟩; (case a => k_ne); (case b => walk_at "my all")))
local macro_rules | `(tactic| k_updF) => `(tactic| (refine' UpdF.head ?a; (case a => walk_at "my all")))
theorem len_led {prog : Program} {w : World} {A : Around} {E Q : Value → Shared → Prop} {s : Shared} {l : Addr} {vs : List Value} (hl : s.heap.IsList l vs.toArray) (hn : vs.length ≤ 1000) (h : ∀ t' k', Q (.int vs.length t') { s with toks := k' }) : wpAny (model prog w) A (call (.builtin "len") [.ref l]) Q E s :=
  call_len_list hl (by rw [List.size_toArray]; omega) (by rw [List.size_toArray]; exact h _ _)
local macro_rules | `(tactic| walk_at "call builtin:len") => `(tactic| (k_dflt (refine len_led (News.isList (by k_asm) (by k_mem)) (by omega) ?_); intro t' k'))
theorem d0_cutN : ∀ n : Nat, n < 100 → Txt.slice (d0 n) none (some (-2)) = dec n := by decide +kernel
theorem d0_cut {n : Int} (h0 : 0 ≤ n) (h1 : n < 100) : Txt.slice (d0 n) none (some (-2)) = dec n := by obtain ⟨k, rfl, hk⟩ := natOf h0 h1; exact d0_cutN k hk
theorem slice_d0 {prog : Program} {w : World} {A : Around} {E Q : Value → Shared → Prop} {s : Shared} {h₀ : Heap} {L : Addr} {m : Str → Option Value} {news : List (Addr × Obj)} {value slice : Expr} {n : Int} {t uj : Tok} (hF : Fr h₀ L s.heap m) (hN : News h₀ L s.heap news) (h0 : 0 ≤ n) (h1 : n < 100) (h : ∀ h' t' k, Fr h₀ L h' m → News h₀ L h' news → Q (.str (dec n) t') { s with heap := h', toks := k })
    (hs : subscripted slice false (.str (d0 n) t) (.ref s.heap.objs.size) = operate [.ref s.heap.objs.size, .str (d0 n) t] (getItem (.str (d0 n) t) (.ref s.heap.objs.size)) := by with_unfolding_all rfl)
    (ht : ∀ r, letTemporaryGo value (.str (d0 n) t) r = pure () := by intro _; with_unfolding_all rfl) :
    wpAny (model prog w) A (subscriptTail value slice (.str (d0 n) t) (.ref s.heap.objs.size)) Q E { s with heap := s.heap.push { cls := .type "slice", data := .fields #[.none, .int (-2) uj, .none] } } :=
  slice_strN_ns hF hN (fun h' t' k a b => by rw [d0_cut h0 h1]; exact h h' t' k a b) hs ht (Nat.le_trans (len_d0 h0 h1) (by decide))
local macro_rules | `(tactic| walk_at "subscriptTail Name Slice str ref") => `(tactic| ((with_reducible show wpAny _ _ (subscriptTail _ (Expr.Slice none (some _) none _) (Value.str (d0 _) _) _) _ _ _); k_dflt (refine slice_d0 (s := ⟨_, _, _, _, _⟩) (by k_asm) (by k_asm) (by omega) (by omega) ?_); intro h' t' k' F' N'; (try k_sweep)))
theorem fp_bounds {rows : List Str} {mark f l : Int} {H : Str} (h : FP rows mark f l H) (h0 : 0 ≤ mark) : 1 ≤ f ∧ f ≤ l ∧ (l ≤ mark ∨ l ≤ rows.length + 1) := by
  obtain ⟨k, ⟨s1, s2, s3⟩, _, ⟨g1, g2, g3⟩, z1, z2, _⟩ := h
  have e1 : k ≤ mark ∨ k ≤ rows.length + 1 := by
    by_cases e : mark < k
    · have := (s2 (k - 1) (by omega) (by omega)).1; omega
    · omega
  have e2 : l = k ∨ l ≤ rows.length + 1 := by
    by_cases e : k < l
    · have := good_le (g2 (l - 1) (by omega) (by omega)); omega
    · omega
  omega
local macro_rules | `(tactic| walk_at "subscriptTail") => `(tactic| ((with_reducible show wpAny _ _ (subscriptTail _ _ (Value.ref _) (Value.int _ _)) _ _ _); k_dflt (refine' item_listL ?kl (by omega) (by omega) ?kx ?_; (case kl => exact News.isList (by k_asm) (by k_mem)); (case kx => with_reducible assumption))))
section
variable {prog : Program} {w : World} {dp un : Nat} {fr : Option (List Env)} {gd : Option (List Code)} {E Q : Value → Shared → Prop} {s : Shared} {a b : Addr}
theorem ne_told {rows : List Str} {f l : Int} {H : Str} {t1 t2 t3 t4 k1 k2 k3 k4 : Tok} {x1 x2 x3 x4 : Str} (ha : s.heap.get? a = some (toldObj rows f l H t1 t2 t3 t4)) (hb : s.heap.get? b = some { cls := .type "tuple", data := .seq #[.str x1 k1, .str x2 k2, .str x3 k3, .str x4 k4] }) (hu : un + 100 < cLine)
    (o1 : ok (d0 f)) (o2 : ok (d0 l)) (o3 : ok H) (o4 : ok (cut rows f l)) (o5 : ok x1) (o6 : ok x2) (o7 : ok x3) (o8 : ok x4)
    (h : Q (.bool (!(d0 f == x1 && (d0 l == x2 && (H == x3 && cut rows f l == x4))))) s) : wpAny (model prog w) (ar dp un fr gd) (compareOp .NotEq (.ref a) (.ref b)) Q E s := by
  refine ne_dataH (reads_tuple_at ha rfl rfl (.cons (.str _ _) (.cons (.str _ _) (.cons (.str _ _) (.cons (.str _ _) .nil))))) (reads_tuple_at hb rfl rfl (.cons (.str _ _) (.cons (.str _ _) (.cons (.str _ _) (.cons (.str _ _) .nil))))) (shaped4 o1 o2 o3 o4) (shaped4 o5 o6 o7 o8) (by show un + 64 < _; omega) ?_
  simp only [PyData.eqv, PyData.eqvAll, Bool.and_true]
  exact h
end
local macro_rules | `(tactic| walk_at "compareOp NotEq ref ref") => `(tactic| (k_dflt (first
  | refine ne_told (News.get (by k_asm) (by k_mem)) (News.get (by k_asm) (by k_mem)) (by with_reducible assumption) (by with_reducible assumption) (by with_reducible assumption) (by with_reducible assumption) (by with_reducible assumption) (by with_reducible assumption) (by with_reducible assumption) (by with_reducible assumption) (by with_reducible assumption) ?_
  | refine ne_ints (News.isList (by k_asm) (by k_mem)) (News.isList (by k_asm) (by k_mem)) (by with_reducible assumption) (by with_reducible assumption) (by with_reducible assumption) ?_)))
theorem ite_nand {a b : Bool} {P R : Prop} (h1 : (a && b) = true → R) (h2 : (a && b) = false → P) : if (!(a && b)) = true then P else R := by
  cases e : (a && b) with
  | true => rw [if_neg (by decide)]; exact h1 e
  | false => rw [if_pos (by decide)]; exact h2 e
local macro_rules | `(tactic| walk_at "ite") => `(tactic| ((with_reducible refine ite_nand ?_ ?_) <;> intro hb'))
local macro_rules | `(tactic| walk_at "my mem") => `(tactic| (intro p hp; repeat (first | exact hp | refine List.mem_cons_of_mem _ ?_)))
local macro_rules | `(tactic| walk_at "my stay") => `(tactic| ((with_reducible rename Fr _ _ _ _ => Fn); (with_reducible rename News _ _ _ _ => Nn); (refine' stMk Fn Nn _ ?sub ⟨rfl, rfl⟩); (case sub => walk_at "my sub")))

-- part Rw_2
theorem fillR : (PySem.Challenge.rw_dm0163_02, hd.heap_39) = (PySem.Challenge.rw_dm0163_02, hd.heap_39) := by k_fill; rfl
section
variable {prog : Program} {w : World} {dp un : Nat} {fr : Option (List Env)} {gd : Option (List Code)} {E : Value → Shared → Prop} {s : Shared} {K : Frag} {Q : Value → Shared → Prop}
/-- a def with cells, entered; nothing laid aside -/
theorem enterK {name qual : Str} {params : Arguments} {body : List Stmt} {scope : Scope} {dV kV doc pm cdv ct oc : Value} {an od : Option Addr} {osl : Array (Option Value)} {f : Addr} {pos : List Value} {binds : List (Str × Value)}
    (X : K.In s.heap) (hlim : s.heap.NoLimit)
    (ho : K.lookup f = some ⟨oc, od, .func (fnOf name qual params body scope dV kV doc pm an cdv ct), osl⟩) (hcd : codeIn K cdv qual = true) (hroom : dp + 1 < recursionLimit)
    (hbind : BindsTo s (fnOf name qual params body scope dV kV doc pm an cdv ct) ⟨pos, []⟩ binds)
    (hkind : (binds.all fun y => scope.names.lookup y.1 == some .local || scope.names.lookup y.1 == some .cell) = true) (hnd : ((cellsFrom 0 scope.names []).map (·.1)).Nodup)
    (hco : scope.isCoroutine = false) (hgen : scope.isGenerator = false) (hk : scope.kind = .function)
    (h : ∀ L h₁ tk fr' cells, Fr s.heap L h₁ (bindL (envOfC qual scope L f cdv).kindOf binds fun _ => none) → News s.heap L h₁ cells →
      CellsAre (bindC (envOfC qual scope L f cdv).kindOf binds fun _ => none) (cellsFrom (L + 1) scope.names []) cells →
      wpAny (model prog w) (ar (dp + 1) (un + 3) fr' gd) (execs body (envOfC qual scope L f cdv))
        (fun fl s' => Q (match fl with | .ret v => v | _ => .none) s') (fun _ _ => False) { s with heap := h₁, toks := tk }) :
    wpAny (model prog w) (ar dp un fr gd) (call (.ref f) pos) Q E s := by
  refine wpAny_call ?_
  refine codeAny_call_function (fd := fnX name qual params body scope [] dV kV doc pm an cdv ct) (by show dp < _; omega) (X _ _ ho) rfl hco hgen rfl (codeRec_of X hcd) (hbind _ _ _ _ ?_)
  refine wpAny_newFunctionEnv_cells hk (kindsX hkind _) fun env' he s' x => ?_
  subst he
  refine ⟨hlim.keeps x.toInCall.keep, codeAny_func ?_⟩
  obtain ⟨h₁, tk, rfl, _⟩ := x.done
  have hk₁ := x.toInCall.keep
  obtain ⟨cells, NC, Y⟩ := Cl.news (h₀ := s.heap) (Nat.le_refl _) fun n c hm => ⟨x.cell n c (lookup_of_mem_nodup (cellsFrom_names scope.names 0 (s.heap.objs.size + 1) [] [] rfl ▸ hnd) hm), x.above n c hm⟩
  obtain ⟨fr', e⟩ := ar_deeper (dp := dp) (un := un) (fr := fr) (gd := gd) (envOfC qual scope s.heap.objs.size f cdv)
  show wpAny _ ((ar dp un fr gd).deeper (envOfC qual scope s.heap.objs.size f cdv)) _ _ _ _
  rw [e]
  exact wpAny_mono (h s.heap.objs.size h₁ tk fr' cells ⟨x.toInCall.ns, hk₁, Nat.le_refl _⟩ NC Y) (fun _ _ x => x) (fun _ _ x => x.elim)
end
section
variable {prog : Program} {w : World} {A : Around} {Q E : Value → Shared → Prop} {s : Shared} {t u : Tok}
theorem pow6_le : ∀ n : Nat, n < 5 → (1 : Int) ≤ 6 ^ n ∧ (6 : Int) ^ n ≤ 1296 := by decide +kernel
theorem pow6_own {n : Int} (hn : 0 ≤ n) (hn2 : n < 5) (h : ∀ x k', x = (6 : Int) ^ n.toNat ∧ 1 ≤ x ∧ x ≤ 1296 → Q (.int x k') { s with toks := k' + 1 }) :
    wpAny (model prog w) A (binaryOp .Pow (.int 6 t) (.int n u)) Q E s :=
  pow_int_small hn (by omega) (by omega) (h _ _ ⟨rfl, pow6_le _ (by omega)⟩)
theorem fdivP {a b : Int} (h1 : 1 ≤ b) (h2 : b ≤ 1296) (h : ∀ k', Q (.int (a.fdiv b) k') { s with toks := k' + 1 }) :
    wpAny (model prog w) A (binaryOp .FloorDiv (.int a t) (.int b u)) Q E s :=
  floordiv_int (by omega) (h _) (Or.inl (PyProof.noPylong_small (by omega)))
end
local macro_rules | `(tactic| walk_at "binaryOp Pow int int") => `(tactic| ((refine pow6_own (by omega) (by omega) ?_); intro x' k' hx'))
local macro_rules | `(tactic| walk_at "binaryOp FloorDiv int int") => `(tactic| ((refine fdivP (by omega) (by omega) ?_); intro k'))
def abc : Str := Str.ofString "a# \tb\x0c"
def sign (x : Int) (k : Nat) : Str := Txt.item abc (Int.fmod (Int.fdiv (Int.fdiv x 5) (6 ^ k)) 6)
def rowOf (x : Int) : Str := Txt.join (Str.ofString "") ((List.range (Int.fmod x 5).toNat).map (sign x))
def letters : List Str := [Str.ofString "a", Str.ofString "#", Str.ofString " ", Str.ofString "\t", Str.ofString "b", Str.ofString "\x0c"]
theorem item_abc : ∀ i : Nat, i < 6 → Txt.item abc (i : Int) ∈ letters := by decide +kernel
theorem sign_mem (x : Int) (k : Nat) : sign x k ∈ letters := by
  unfold sign
  have h0 := Int.fmod_nonneg_of_pos (Int.fdiv (Int.fdiv x 5) (6 ^ k)) (b := 6) (by decide)
  have h1 := Int.fmod_lt_of_pos (Int.fdiv (Int.fdiv x 5) (6 ^ k)) (b := 6) (by decide)
  obtain ⟨n, hn⟩ : ∃ n : Nat, Int.fmod (Int.fdiv (Int.fdiv x 5) (6 ^ k)) 6 = n := ⟨_, (Int.toNat_of_nonneg h0).symm⟩
  rw [hn] at h1 ⊢
  exact item_abc n (by omega)
theorem sign_len (x : Int) (k : Nat) : (sign x k).length = 1 := (by decide +kernel : ∀ r ∈ letters, r.length = 1) _ (sign_mem x k)
theorem mod5 (x : Int) : 0 ≤ Int.fmod x 5 ∧ Int.fmod x 5 < 5 := ⟨Int.fmod_nonneg_of_pos _ (by decide), Int.fmod_lt_of_pos _ (by decide)⟩
set_option maxHeartbeats 4000000 in
theorem row_call {dp un : Nat} {prog : Program} {w : World} {fr gd} {s : Shared} {Q : Value → Shared → Prop} {E} {p loose mean mg mb} (X : (hd.heap_39 w.params).In s.heap) (T : Top p loose mean mg mb s.heap) (hr : dp + 20 < recursionLimit)
   {x : Int} {t : Tok} (h : ∀ h' tk' t', Ext s.heap h' → Q (.str (rowOf x) t') {s with heap := h', toks := tk'}) : wpAny (model prog w) (ar dp un fr gd) (call (.ref 115) [.int x t]) Q E s := by
  refine' enterK (K := hd.heap_39 w.params) X T.nolimit ?k6 ?k7 (by omega) ?k9 ?kB ?kD ?c2 ?c3 ?c4 ?_
  case k6 => k_is
  case k7 => k_is
  case k9 => exact BindsTo.of_eq rfl
  case kB => exact rfl
  case kD => decide +kernel
  case c2 => rfl
  case c3 => rfl
  case c4 => rfl
  intro L h1 tk1 fr1 cells F N Y
  k_cells Y
  (try simp only [List.cons_append, List.nil_append] at N)
  refine id ?_
  (try dsimp only)
  walk_at "my steps"
  all_goals (try k_data)
  with_reducible rename Fr _ _ _ _ => Fc
  with_reducible rename News _ _ _ _ => NN
  rename IsRange _ _ _ _ _ _ _ _ => hR
  have h5 := mod5 x
  refine LCg.CompSrc.range rfl Fc NN hR (small_one (by omega) (by omega) (by omega) (by omega)) (n := (Int.fmod x 5).toNat) (by rw [rangeSize_nat]; omega) (by rw [show sizeLine = 16777216 from rfl]; omega) (fun g => rest_map (List.range (Int.fmod x 5).toNat) (fun j v => IsI (j : Int) v) (fun j v => IsS (sign x j) v) List.length_range (fun i v hi e => ⟨i, List.getElem?_range hi, by obtain ⟨t, e⟩ := e; rw [Int.zero_add] at e; exact ⟨t, e⟩⟩) True.intro ?turn ?fin)
  case turn =>
    intro j v I oI C oC D m₂ ys h tk E' hj hr hC hx F N off ne
    obtain ⟨t, rfl⟩ := hr
    rw [List.mem_range] at hj
    walk_at "my steps"
    all_goals (try k_data)
    rename _ = (6 : Int) ^ _ ∧ _ => hx6
    obtain ⟨rfl, _⟩ := hx6
    exact ⟨_, _, rfl, F, N, _, rfl⟩
  case fin =>
    intro ys hys
    walk_at "my steps"
    have hst := hys.strs
    refine join_listC (ys := (List.range (Int.fmod x 5).toNat).map (sign x)) (News.isList (by assumption) (by k_mem)) (by simpa using hst) (by decide) ?_ ?_
    · have := sum_le 1 ((List.range (Int.fmod x 5).toNat).map (sign x)) (fun z hz => by
        obtain ⟨y, hy, rfl⟩ := List.mem_map.mp hz
        rw [sign_len]; exact Nat.le_refl _)
      rw [List.length_map, List.length_range] at this ⊢
      omega
    · intro t' k
      walk_at "my steps"
      all_goals (try k_data)
      exact h _ _ _ (Fr.keep (by assumption))
theorem join_len (l : List Str) : (Txt.join (Str.ofString "") l).length ≤ (l.map (·.length)).sum := by
  unfold Txt.join
  rw [PySem.StrLaws.glued_eq_join]
  have := PySem.StrLaws.join_length_le (Str.ofString "") l
  rwa [show (Str.ofString "").length = 0 from rfl, Nat.mul_zero, Nat.add_zero] at this
theorem rowOf_len4 (x : Int) : (rowOf x).length ≤ 4 := by
  have h5 := mod5 x
  have := sum_le 1 ((List.range (Int.fmod x 5).toNat).map (sign x)) (fun z hz => by
    obtain ⟨y, hy, rfl⟩ := List.mem_map.mp hz
    rw [sign_len]; exact Nat.le_refl _)
  rw [List.length_map, List.length_range] at this
  exact Nat.le_trans (join_len _) (by omega)
theorem rowOf_len (x : Int) : (rowOf x).length ≤ 64 := Nat.le_trans (rowOf_len4 x) (by decide)
theorem join_all {P : Nat → Prop} : ∀ {l : List Str}, (∀ r ∈ l, ∀ c ∈ r.cps.toList, P c) → ∀ c ∈ (Str.join (Str.ofString "") l).cps.toList, P c
  | [], _, c, hc => absurd hc (by show ¬ c ∈ ([] : List Nat); exact List.not_mem_nil)
  | [x], h, c, hc => h x List.mem_cons_self c hc
  | x :: y :: r, h, c, hc => by
    have e : (Str.join (Str.ofString "") (x :: y :: r)).cps.toList = x.cps.toList ++ (Str.join (Str.ofString "") (y :: r)).cps.toList := by
      show ((x.cps ++ #[]) ++ (Str.join (Str.ofString "") (y :: r)).cps).toList = _
      simp
    rw [e, List.mem_append] at hc
    rcases hc with hc | hc
    · exact h x List.mem_cons_self c hc
    · exact join_all (fun z hz => h z (List.mem_cons_of_mem _ hz)) c hc
theorem rowOf_all {P : Nat → Prop} (hP : ∀ r ∈ letters, ∀ c ∈ r.cps.toList, P c) (x : Int) : ∀ c ∈ (rowOf x).cps.toList, P c := by
  unfold rowOf Txt.join
  rw [PySem.StrLaws.glued_eq_join]
  refine join_all fun r hr => ?_
  obtain ⟨y, _, rfl⟩ := List.mem_map.mp hr
  exact hP _ (sign_mem x y)
theorem rowOf_ok (x : Int) : ok (rowOf x) := (ok_iff _).mpr (rowOf_all (by decide +kernel) x)
theorem rowOf_nl (x : Int) : ∀ c ∈ (rowOf x).cps.toList, c ≠ 10 := rowOf_all (by decide +kernel) x

-- part Pa_2
section
variable {prog : Program} {w : World} {dp un : Nat} {fr : Option (List Env)} {gd : Option (List Code)} {s : Shared} {Q E : Value → Shared → Prop} {h₀ : Heap} {L : Addr} {m : Str → Option Value} {rest news : List (Addr × Obj)} {p : Program} {loose : List Str} {mean : ExcName → Option Value} {mg mb : Str → Option Value}
theorem newsFresh {pobjs : List (Addr × Obj)} {h' : Heap} (F : Fr h₀ L s.heap m) (hp : ∀ p ∈ pobjs, h'.get? p.1 = some p.2 ∧ s.heap.get? p.1 = none) : News h₀ L h' pobjs := fun p h => by
  refine ⟨(hp p h).1, fun e => ?_, ?_⟩
  · obtain ⟨oL, _, _, hL, _⟩ := F.ns
    have := (hp p h).2
    rw [e, hL] at this; cases this
  · cases q : h₀.get? p.1 with
    | none => rfl
    | some o => have := F.keep _ _ q; rw [(hp p h).2] at this; cases this
theorem page0N (F : Fr h₀ L s.heap m) (N : News h₀ L s.heap ((105, tabObj #[]) :: rest)) (hne : ∀ p ∈ rest, p.1 ≠ 105) (X : (hd.heap_39 w.params).In h₀) (T : Top p loose mean mg mb h₀) (C : CodeHd h₀ 109 105) (hr : dp + 60 < recursionLimit)
    {rows : List Str} {vs : List Value} {l : Addr} (hl : s.heap.IsList l vs.toArray) (hS : StrsAre vs rows) (hn : rows.length ≤ 64) (hL : ∀ r ∈ rows, r.length ≤ 64)
    (h : ∀ h' tk' pg c1 c2 oc1 oc2 (pobjs : List (Addr × Obj)), Fr h₀ L h' m → News h₀ L h' ((105, tab2 c1 c2) :: (rest ++ pobjs)) → CodeOk oc1 lamQ → CodeOk oc2 lamQ → (c1, oc1) ∈ pobjs → (c2, oc2) ∈ pobjs → (∀ p ∈ pobjs, s.heap.get? p.1 = none) →
      (∀ H, Ext h₀ H → (∀ p ∈ pobjs, H.get? p.1 = some p.2) → H.IsList l vs.toArray → PageOk prog w H pg rows) → Q (.ref pg) { s with heap := h', toks := tk' }) :
    wpAny (model prog w) (ar dp un fr gd) (call (.ref 110) [.ref l]) Q E s := by
  have n5 := N _ (.head _)
  refine page_call0 X T F.keep n5.2.2 C hr hl hS hn hL n5.1 ?_
  intro h' tk' pg c1 c2 oc1 oc2 pobjs keep h5 k1 k2 m1 m2 hp page
  refine h h' tk' pg c1 c2 oc1 oc2 pobjs ⟨F.ns.at' fun o e => keep L o (Ne.symm n5.2.1) e, fun b o e => keep b o (by rintro rfl; rw [n5.2.2] at e; cases e) (F.keep b o e), F.above⟩ (fun q hq => ?_) k1 k2 m1 m2 (fun q hq => (hp q hq).2) page
  rcases List.mem_cons.mp hq with rfl | hq
  · exact ⟨h5, n5.2⟩
  · rcases List.mem_append.mp hq with hq | hq
    · exact ⟨keep _ _ (hne q hq) (N q (.tail _ hq)).1, (N q (.tail _ hq)).2⟩
    · exact newsFresh F hp q hq
theorem page1N (F : Fr h₀ L s.heap m) (N : News h₀ L s.heap news) {c1 c2 : Addr} {oc1 oc2 : Obj} (h5 : (105, tab2 c1 c2) ∈ news) (r1 : CodeOk oc1 lamQ) (r2 : CodeOk oc2 lamQ) (X : (hd.heap_39 w.params).In h₀) (T : Top p loose mean mg mb h₀) (C : CodeHd h₀ 109 105) (hr : dp + 60 < recursionLimit)
    {rows : List Str} {vs : List Value} {l : Addr} (hl : s.heap.IsList l vs.toArray) (hS : StrsAre vs rows) (hn : rows.length ≤ 64) (hL : ∀ r ∈ rows, r.length ≤ 64)
    (h : ∀ h' tk' pg (pobjs : List (Addr × Obj)), Fr h₀ L h' m → News h₀ L h' (news ++ pobjs) → (∀ p ∈ pobjs, s.heap.get? p.1 = none) →
      (∀ H, Ext h₀ H → (∀ p ∈ pobjs, H.get? p.1 = some p.2) → H.get? c1 = some oc1 → H.get? c2 = some oc2 → H.IsList l vs.toArray → PageOk prog w H pg rows) → Q (.ref pg) { s with heap := h', toks := tk' }) :
    wpAny (model prog w) (ar dp un fr gd) (call (.ref 110) [.ref l]) Q E s := by
  have n5 := N _ h5
  refine page_call1 X T F.keep n5.2.2 C hr hl hS hn hL n5.1 r1 r2 ?_
  intro h' tk' pg pobjs ext hp page
  refine h h' tk' pg pobjs (frExt F ext) (fun q hq => ?_) (fun q hq => (hp q hq).2) page
  rcases List.mem_append.mp hq with hq | hq
  · exact newsExt N ext q hq
  · exact newsFresh F hp q hq
/-- the table of the lambdas' codes, as a call may meet it -/
def TabG (g : Heap) (o5 : Obj) : Prop := o5 = tabObj #[] ∨ ∃ c1 c2 oc1 oc2, o5 = tab2 c1 c2 ∧ CodeOk oc1 lamQ ∧ CodeOk oc2 lamQ ∧ g.get? c1 = some oc1 ∧ g.get? c2 = some oc2
theorem page_anyN {o5 : Obj} (F : Fr h₀ L s.heap m) (N : News h₀ L s.heap ((105, o5) :: rest)) (hne : ∀ p ∈ rest, p.1 ≠ 105) (hT : TabG h₀ o5) (X : (hd.heap_39 w.params).In h₀) (T : Top p loose mean mg mb h₀) (C : CodeHd h₀ 109 105) (hr : dp + 60 < recursionLimit)
    {rows : List Str} {vs : List Value} {l : Addr} (hl : s.heap.IsList l vs.toArray) (hS : StrsAre vs rows) (hn : rows.length ≤ 64) (hL : ∀ r ∈ rows, r.length ≤ 64)
    (h : ∀ h' tk' pg c1 c2 oc1 oc2 (pobjs : List (Addr × Obj)), Fr h₀ L h' m → News h₀ L h' ((105, tab2 c1 c2) :: (rest ++ pobjs)) → CodeOk oc1 lamQ → CodeOk oc2 lamQ → (((c1, oc1) ∈ pobjs ∧ (c2, oc2) ∈ pobjs) ∨ o5 = tab2 c1 c2) → (∀ p ∈ pobjs, s.heap.get? p.1 = none) →
      (∀ H, Ext h₀ H → (∀ p ∈ pobjs, H.get? p.1 = some p.2) → H.IsList l vs.toArray → PageOk prog w H pg rows) → Q (.ref pg) { s with heap := h', toks := tk' }) :
    wpAny (model prog w) (ar dp un fr gd) (call (.ref 110) [.ref l]) Q E s := by
  rcases hT with rfl | ⟨c1, c2, oc1, oc2, rfl, k1, k2, g1, g2⟩
  · exact page0N F N hne X T C hr hl hS hn hL fun h' tk' pg c1 c2 oc1 oc2 pobjs F' N' k1 k2 m1 m2 fresh page => h h' tk' pg c1 c2 oc1 oc2 pobjs F' N' k1 k2 (.inl ⟨m1, m2⟩) fresh page
  · refine page1N F N (.head _) k1 k2 X T C hr hl hS hn hL fun h' tk' pg pobjs F' N' fresh page => ?_
    exact h h' tk' pg c1 c2 oc1 oc2 pobjs F' N' k1 k2 (.inr rfl) fresh fun H e hp hl => page H e hp (e _ _ g1) (e _ _ g2) hl
end

-- part Pr
/-- a paragraph: its first row, the row behind its last, its header -/
abbrev Par := Int × Int × Str
/-- a row with something behind its header, put ahead of the paragraphs that follow -/
noncomputable def joinRow (p : Int) (r : Str) : List Par → List Par
  | [] => [(p, p + 1, hdr r)]
  | (f, l, H) :: t => if f = p + 1 ∧ H = hdr r then (p, l, H) :: t else (p, p + 1, hdr r) :: (f, l, H) :: t
/-- the paragraphs of a page whose first row is p -/
noncomputable def runs : Int → List Str → List Par
  | _, [] => []
  | p, r :: rs => if full r = true then joinRow p r (runs (p + 1) rs) else runs (p + 1) rs
theorem joinRow_mem {p : Int} {r : Str} {ps : List Par} {x : Par} (h : x ∈ joinRow p r ps) : x.1 = p ∨ x ∈ ps := by
  cases ps with
  | nil => rw [joinRow, List.mem_singleton] at h; subst h; exact .inl rfl
  | cons y t =>
    obtain ⟨f, l, H⟩ := y
    rw [joinRow] at h
    split at h
    · rcases List.mem_cons.mp h with rfl | h
      · exact .inl rfl
      · exact .inr (List.mem_cons_of_mem _ h)
    · rcases List.mem_cons.mp h with rfl | h
      · exact .inl rfl
      · exact .inr h
theorem runs_ge : ∀ (rs : List Str) (p : Int) (x : Par), x ∈ runs p rs → p ≤ x.1
  | [], p, x, h => nomatch h
  | r :: rs, p, x, h => by
    rw [runs] at h
    split at h
    · rcases joinRow_mem h with e | e
      · omega
      · have := runs_ge rs (p + 1) x e; omega
    · have := runs_ge rs (p + 1) x h; omega
theorem runs_head : ∀ {rs : List Str} {p l : Int} {H : Str} {t : List Par}, runs p rs = (p, l, H) :: t → ∃ r rs', rs = r :: rs' ∧ full r = true ∧ hdr r = H
  | [], p, l, H, t, h => nomatch h
  | r :: rs, p, l, H, t, h => by
    rw [runs] at h
    split at h
    · rename_i hf
      refine ⟨r, rs, rfl, hf, ?_⟩
      generalize runs (p + 1) rs = ps at h
      cases ps with
      | nil => rw [joinRow] at h; injection h with h1 h2; injection h1 with h3 h4; injection h4
      | cons y t' =>
        obtain ⟨f', l', H'⟩ := y
        rw [joinRow] at h
        split at h
        · rename_i hc
          injection h with h1 h2; injection h1 with h3 h4; injection h4 with h5 h6
          rw [← h6]; exact hc.2.symm
        · injection h with h1 h2; injection h1 with h3 h4; injection h4
    · have := runs_ge rs (p + 1) (p, l, H) (by rw [h]; exact List.mem_cons_self)
      simp only at this
      omega
/-- the paragraphs from a row on -/
noncomputable def runsFrom (rows : List Str) (p : Int) : List Par := runs p (rows.drop (p - 1).toNat)
theorem drop_line {rows : List Str} {p : Int} (h1 : 1 ≤ p) (h2 : p ≤ (rows.length : Int)) : rows.drop (p - 1).toNat = lineAt rows p :: rows.drop (p + 1 - 1).toNat := by
  obtain ⟨hl, e⟩ := lineAt_get h1 h2
  rw [e, show (p + 1 - 1).toNat = (p - 1).toNat + 1 by omega]
  exact List.drop_eq_getElem_cons hl
theorem runsFrom_end {rows : List Str} {p : Int} (h : (rows.length : Int) < p) : runsFrom rows p = [] := by
  unfold runsFrom
  rw [List.drop_of_length_le (by omega)]; rfl
theorem runsFrom_step {rows : List Str} {p : Int} (h1 : 1 ≤ p) (h2 : p ≤ (rows.length : Int)) : runsFrom rows p = if full (lineAt rows p) = true then joinRow p (lineAt rows p) (runsFrom rows (p + 1)) else runsFrom rows (p + 1) := by
  unfold runsFrom
  rw [drop_line h1 h2, runs]
theorem runsFrom_skip {rows : List Str} : ∀ (n : Nat) {p : Int}, 1 ≤ p → p + n ≤ rows.length + 1 → (∀ j, p ≤ j → j < p + n → full (lineAt rows j) = false) → runsFrom rows p = runsFrom rows (p + n)
  | 0, p, h1, h2, h => by rw [show p + ((0 : Nat) : Int) = p by omega]
  | n + 1, p, h1, h2, h => by
    rw [runsFrom_step h1 (by omega), h p (Int.le_refl _) (by omega), if_neg (by decide)]
    rw [runsFrom_skip n (p := p + 1) (by omega) (by omega) (fun j j1 j2 => h j (by omega) (by omega))]
    congr 1; omega
theorem runsFrom_block {rows : List Str} {H : Str} : ∀ (n : Nat) {p : Int}, 1 ≤ p → (∀ j, p ≤ j → j < p + n + 1 → Good H (lineAt rows j)) → ¬ Good H (lineAt rows (p + n + 1)) → runsFrom rows p = (p, p + n + 1, H) :: runsFrom rows (p + n + 1)
  | 0, p, h1, hg, hn => by
    have g := hg p (Int.le_refl _) (by omega)
    have gl := good_le g
    have g' := good_iff.mp g
    rw [runsFrom_step h1 gl.2, g'.2, if_pos rfl]
    rw [show p + ((0 : Nat) : Int) + 1 = p + 1 by omega] at hn ⊢
    have key : ∀ ps, (∀ l H' t, ps = (p + 1, l, H') :: t → H' ≠ H) → joinRow p (lineAt rows p) ps = (p, p + 1, H) :: ps := by
      intro ps hps
      cases ps with
      | nil => rw [joinRow, g'.1]
      | cons y t =>
        obtain ⟨f, l, H'⟩ := y
        rw [joinRow, if_neg, g'.1]
        rintro ⟨rfl, e⟩
        exact hps l H' t rfl (by rw [e, g'.1])
    refine key _ fun l H' t e eH => ?_
    subst eH
    have : runs (p + 1) (rows.drop (p + 1 - 1).toNat) = (p + 1, l, H') :: t := e
    obtain ⟨r, rs', e1, e2, e3⟩ := runs_head this
    have hlt : p + 1 ≤ (rows.length : Int) := by
      by_cases q : p + 1 ≤ (rows.length : Int)
      · exact q
      · rw [List.drop_of_length_le (by omega)] at e1; cases e1
    rw [drop_line (by omega) hlt] at e1
    injection e1 with e4 e5
    exact hn (good_iff.mpr ⟨by rw [e4, e3], by rw [e4]; exact e2⟩)
  | n + 1, p, h1, hg, hn => by
    have g := hg p (Int.le_refl _) (by omega)
    have gl := good_le g
    have g' := good_iff.mp g
    rw [runsFrom_step h1 gl.2, g'.2, if_pos rfl]
    have e : p + 1 + (n : Int) + 1 = p + ((n + 1 : Nat) : Int) + 1 := by omega
    rw [runsFrom_block n (p := p + 1) (by omega) (fun j j1 j2 => hg j (by omega) (by omega)) (by rw [e]; exact hn), joinRow, if_pos ⟨rfl, g'.1.symm⟩, e]
/-- nothing of the row above goes on at this row -/
def Bd (rows : List Str) (p : Int) : Prop := full (lineAt rows p) = true → ¬ Good (hdr (lineAt rows p)) (lineAt rows (p - 1))
theorem bd_one (rows : List Str) : Bd rows 1 := fun _ g => by
  have := good_le g
  omega
/-- one look of the walk -/
theorem walk_step {rows : List Str} {mark f l : Int} {H : Str} (h : FP rows mark f l H) (h1 : 1 ≤ mark) (h2 : mark ≤ (rows.length : Int)) (hb : Bd rows mark) :
    (f < l ∧ mark < l → runsFrom rows mark = (f, l, H) :: runsFrom rows l ∧ Bd rows l ∧ l ≤ rows.length + 1) ∧ (¬ (f < l ∧ mark < l) → runsFrom rows mark = runsFrom rows (l + 1) ∧ Bd rows (l + 1) ∧ mark ≤ l ∧ l ≤ rows.length + 1) := by
  obtain ⟨k, ⟨s1, s2, s3⟩, eH, ⟨g1, g2, g3⟩, z0, z1, z2, z3⟩ := h
  have kn : k ≤ rows.length + 1 := by
    by_cases q : mark < k
    · have := (s2 (k - 1) (by omega) (by omega)).1; omega
    · omega
  have nf : ∀ j, mark ≤ j → j < k → full (lineAt rows j) = false := fun j a b => white_not_full (s2 j a b).2
  have sk : runsFrom rows mark = runsFrom rows k := by
    have := runsFrom_skip (rows := rows) (k - mark).toNat (p := mark) h1 (by omega) (fun j a b => nf j a (by omega))
    rw [this]; congr 1; omega
  have ln : l ≤ rows.length + 1 := by
    by_cases q : k < l
    · have := good_le (g2 (l - 1) (by omega) (by omega)); omega
    · omega
  -- a white row right above k stops the way up
  have up : mark < k → f = k := fun q => by
    by_cases q2 : f = k
    · exact q2
    · have := z2 (k - 1) (by omega) (by omega)
      have hw := (s2 (k - 1) (by omega) (by omega)).2
      exact absurd this (white_not_good hw)
  by_cases hk : full (lineAt rows k) = true
  · have gk : Good H (lineAt rows k) := good_iff.mpr ⟨eH.symm, hk⟩
    have kl : k < l := by
      rcases Int.lt_or_eq_of_le g1 with q | q
      · exact q
      · subst q; exact absurd gk g3
    have fk : f = k := by
      by_cases q : mark < k
      · exact up q
      · have e : k = mark := by omega
        by_cases q2 : f = k
        · exact q2
        · have gg := z2 (k - 1) (by omega) (by omega)
          rw [e] at hk gg
          rw [eH, e] at gg
          exact absurd gg (hb hk)
    refine ⟨fun _ => ⟨?_, ?_, ln⟩, fun q => absurd ⟨by omega, by omega⟩ q⟩
    · rw [sk, fk]
      have := runsFrom_block (rows := rows) (H := H) (l - k - 1).toNat (p := k) (by omega) (fun j a b => g2 j a (by omega)) (by rw [show k + ((l - k - 1).toNat : Int) + 1 = l by omega]; exact g3)
      rw [show k + ((l - k - 1).toNat : Int) + 1 = l by omega] at this
      exact this
    · intro hl gg
      have g' := (good_iff.mp (g2 (l - 1) (by omega) (by omega))).1
      have := (good_iff.mp gg).1
      exact g3 (good_iff.mpr ⟨by rw [← this]; exact g', hl⟩)
  · have hk' : full (lineAt rows k) = false := by cases q : full (lineAt rows k) with | true => exact absurd q hk | false => rfl
    have lk : l = k := by
      rcases Int.lt_or_eq_of_le g1 with q | q
      · have := (good_iff.mp (g2 k (Int.le_refl _) q)).2
        rw [hk'] at this; cases this
      · exact q.symm
    subst lk
    refine ⟨fun q => ?_, fun _ => ⟨?_, ?_, s1, ln⟩⟩
    · have := up q.2; omega
    · rw [sk]
      by_cases q : l ≤ (rows.length : Int)
      · rw [runsFrom_step (by omega) q, hk', if_neg (by decide)]
      · rw [runsFrom_end (by omega), runsFrom_end (by omega)]
    · intro hl gg
      rw [show l + 1 - 1 = l by omega] at gg
      have := (good_iff.mp gg).2
      rw [hk'] at this; cases this
/-- told again from the last row -/
theorem fp_again {rows : List Str} {mark f l : Int} {H : Str} (h : FP rows mark f l H) (hl : f + 1 < l) : FP rows (l - 1) f l H := by
  obtain ⟨k, s, eH, ⟨g1, g2, g3⟩, z0, z1, z2, z3⟩ := h
  have all : ∀ i, f ≤ i → i < l → Good H (lineAt rows i) := fun i a b => by
    by_cases q : i < k
    · exact z2 i (by omega) (by omega)
    · exact g2 i (by omega) b
  have gl := all (l - 1) (by omega) (by omega)
  have g' := good_iff.mp gl
  refine ⟨l - 1, ⟨Int.le_refl _, fun j a b => absurd b (by omega), fun q => ?_⟩, g'.1.symm, ⟨by omega, fun i a b => all i (by omega) b, g3⟩, by omega, by omega, fun x a b => all x (by omega) (by omega), z3⟩
  have := good_not_white gl
  rw [this] at q; cases q.2
/-- the first row from the mark on that isn't white, or the one below the page -/
theorem fp_solid {rows : List Str} {mark f l : Int} {H : Str} (h : FP rows mark f l H) (h1 : 1 ≤ mark) (h2 : mark ≤ rows.length + 1) : ∃ k, mark ≤ k ∧ k ≤ rows.length + 1 ∧ f ≤ k ∧ k ≤ l ∧ (∀ j, mark ≤ j → j < k → isWs (lineAt rows j) = true) ∧ (k ≤ (rows.length : Int) → isWs (lineAt rows k) = false) := by
  obtain ⟨k, ⟨s1, s2, s3⟩, eH, ⟨g1, g2, g3⟩, z0, z1, z2, z3⟩ := h
  have kn : k ≤ rows.length + 1 := by
    by_cases q : mark < k
    · have := (s2 (k - 1) (by omega) (by omega)).1; omega
    · omega
  refine ⟨k, s1, kn, by omega, g1, fun j a b => (s2 j a b).2, fun q => ?_⟩
  cases e : isWs (lineAt rows k) with
  | false => rfl
  | true => exact absurd ⟨q, e⟩ s3

-- part Wk0_2
theorem fillW0 : (PySem.Challenge.rw_dm0163_02, hd.heap_39) = (PySem.Challenge.rw_dm0163_02, hd.heap_39) := by k_fill; rfl
def fnBody : Option Stmt → List Stmt
  | some (.FunctionDef _ _ body _ _ _ _ _ _ _) => body
  | _ => []
def fnScope : Option Stmt → Scope
  | some (.FunctionDef _ _ _ _ _ _ sc _ _ _) => sc
  | _ => PySem.Challenge.pw_dm0163_02.main.scope
def forBody' : Option Stmt → List Stmt
  | some (.For _ _ b _ _) => b
  | _ => []
def ifBody : Option Stmt → List Stmt
  | some (.If _ b _ _) => b
  | _ => []
def ifTest : Option Stmt → Expr
  | some (.If t _ _ _) => t
  | _ => .Constant .none 0 ⟨0, 0, 0, 0⟩
def pass : Stmt := .Pass ⟨0, 0, 0, 0⟩
def walkFn : Option Stmt := PySem.Challenge.pw_dm0163_02.main.body[13]?
def walkBody : List Stmt := fnBody walkFn
def walkAt (n : Nat) : Stmt := (walkBody[n]?).getD pass
def walkFor : List Stmt := forBody' (walkBody[3]?)
def walkIf : List Stmt := ifBody walkFor.head?
def walkIfAt (n : Nat) : Stmt := (walkIf[n]?).getD pass
def walkEnv (L : Addr) : Env := envOfC (Str.ofString "_law_walk") (fnScope walkFn) L 120 (.ref 119)
theorem walkBody_eq : walkBody = [walkAt 0, walkAt 1, walkAt 2, walkAt 3, walkAt 4] := rfl
theorem walkIf_eq : walkIf = [walkIfAt 0, walkIfAt 1, walkIfAt 2, walkIfAt 3, walkIfAt 4, walkIfAt 5] := rfl
/-- a list of the ledger grows -/
theorem appendU {prog : Program} {w : World} {A : Around} {E Q : Value → Shared → Prop} {s : Shared} {h₀ : Heap} {L D : Addr} {m : Str → Option Value} {news : List (Addr × Obj)} {g : Obj → List (Addr × Obj)} {vs : List Value} {n : Nat} {x : Value} (F : Fr h₀ L s.heap m) (N : News h₀ L s.heap news) (U : UpdF D (W.listOf vs.toArray n) news g) (hn : vs.length ≤ 1000)
    (h : ∀ h', Fr h₀ L h' m → News h₀ L h' (g (W.listOf (vs ++ [x]).toArray (n + 1))) → Q .none { s with heap := h' }) : wpAny (model prog w) A (call (.builtin "list.append") [.ref D, x]) Q E s := by
  obtain ⟨own, rest, rfl, hg, h1, h2⟩ := U.split
  have hmem := N (D, W.listOf vs.toArray n) (List.mem_append_right _ (.head _))
  refine append_at (its := vs.toArray) (n := n) hmem.1 (fun h' hs hD => ?_) (by rw [List.size_toArray, show sizeLine = 16777216 from rfl]; omega)
  refine h h' ⟨F.ns.sameBut hs (Ne.symm hmem.2.1), fun b ob e => (hs.2 b (fun q => ?_)).trans (F.keep b ob e), F.above⟩ ?_
  · rw [q, hmem.2.2] at e; cases e
  · rw [hg]
    refine N.setAt h1 h2 hs ?_
    rw [hD]
    show some (W.listOf (vs.toArray.push x) (n + 1)) = some (W.listOf (vs ++ [x]).toArray (n + 1))
    rw [List.push_toArray]
local macro_rules | `(tactic| walk_at "my upd") => `(tactic| first | (refine' UpdF.head ?a; (case a => walk_at "my all")) | (refine' UpdF.tail ?a ?b; (case a => k_ne); (case b => walk_at "my upd")))
local macro_rules | `(tactic| walk_at "call builtin:list.append") => `(tactic| (k_dflt (refine' appendU ?F ?N ?U ?z ?_; (case F => k_asm); (case N => k_asm); (case U => walk_at "my upd"); (case z => omega)); intro h' F' N'; (try dsimp only at N'); (try k_sweep)))
def paraObj (f l : Int) (H x : Str) (t1 t2 t3 t4 : Tok) : Obj := { cls := .type "tuple", data := .seq #[.int f t1, .int l t2, .str H t3, .str x t4] }
theorem newsNe {h₀ h : Heap} {L a : Addr} {news : List (Addr × Obj)} (N : News h₀ L h news) (ha : h.get? a = none) : ∀ p ∈ news, p.1 ≠ a := fun p hp e => by
  have := (N p hp).1
  rw [e, ha] at this; cases this
/-- what holds through the whole walk -/
structure WalkC (prog : Program) (w : World) (h₀ : Heap) (L : Addr) (rows : List Str) (rl pg : Addr) (rv : List Value) (tl : List (Addr × Obj)) (o1 : Obj) : Prop where
  n64 : rows.length ≤ 64
  Lr : ∀ r ∈ rows, r.length ≤ 64
  kr : ∀ r ∈ rows, ok r
  S : StrsAre rv rows
  hl : h₀.IsList rl rv.toArray
  P : ∀ H, Ext h₀ H → (∀ p ∈ tl, H.get? p.1 = some p.2) → PageOk prog w H pg rows
  d1 : o1.data = .cell (some (.ref rl))
structure WalkN (m : Str → Option Value) (pg fl : Addr) (mark : Int) : Prop where
  page : m (Str.ofString "page") = some (.ref pg)
  found : m (Str.ofString "found") = some (.ref fl)
  mark : ∃ t, m (Str.ofString "mark") = some (.int mark t)
abbrev wled (L : Addr) (o1 : Obj) (fl : Addr) (vs : List Value) (n : Nat) (made tl : List (Addr × Obj)) : List (Addr × Obj) := (L + 1, o1) :: (fl, W.listOf vs.toArray n) :: (made ++ tl)
/-- the first row from the mark on that isn't white, or the one below the page -/
def Solid (rows : List Str) (mark k : Int) : Prop := mark ≤ k ∧ k ≤ rows.length + 1 ∧ (∀ j, mark ≤ j → j < k → isWs (lineAt rows j) = true) ∧ (k ≤ (rows.length : Int) → isWs (lineAt rows k) = false)
theorem solid_uniq {rows : List Str} {mark k k' : Int} (h : Solid rows mark k) (h' : Solid rows mark k') : k = k' := by
  obtain ⟨a, b, c, d⟩ := h
  obtain ⟨a', b', c', d'⟩ := h'
  rcases Int.lt_trichotomy k k' with q | q | q
  · have := c' k a q; rw [d (by omega)] at this; cases this
  · exact q
  · have := c k' a' q; rw [d' (by omega)] at this; cases this
theorem fp_between {rows : List Str} {mark f l k : Int} {H : Str} (h : FP rows mark f l H) (h1 : 1 ≤ mark) (h2 : mark ≤ rows.length + 1) (hk : Solid rows mark k) : f ≤ k ∧ k ≤ l := by
  obtain ⟨k', a, b, c, d, e, g⟩ := fp_solid h h1 h2
  obtain rfl := solid_uniq hk ⟨a, b, e, g⟩
  exact ⟨c, d⟩
theorem solid_head {rows : List Str} : ∀ (n : Nat) {mark : Int}, mark + n = rows.length + 1 → ∃ k rest, (rangeKs mark n).filter (fun k => !isWs (lineAt rows k)) ++ [(rows.length : Int) + 1] = k :: rest ∧ Solid rows mark k
  | 0, mark, h => ⟨rows.length + 1, [], by simp [rangeKs], by omega, Int.le_refl _, fun j a b => absurd b (by omega), fun q => absurd q (by omega)⟩
  | n + 1, mark, h => by
    have e : rangeKs mark (n + 1) = mark :: rangeKs (mark + 1) n := by
      unfold rangeKs
      rw [List.range_succ_eq_map, List.map_cons, List.map_map]
      congr 1
      · simp
      · apply List.map_congr_left
        intro i _
        show mark + ((i + 1 : Nat) : Int) = mark + 1 + (i : Int)
        omega
    rw [e]
    cases hw : isWs (lineAt rows mark) with
    | false =>
      have hs : Solid rows mark mark := ⟨Int.le_refl _, by omega, fun j a b => absurd b (by omega), fun _ => hw⟩
      exact ⟨mark, _, by rw [List.filter_cons_of_pos (by simp [hw])]; rfl, hs⟩
    | true =>
      obtain ⟨k, rest, e1, a, b, c, d⟩ := solid_head (rows := rows) n (mark := mark + 1) (by omega)
      refine ⟨k, rest, by rw [List.filter_cons_of_neg (by simp [hw])]; exact e1, by omega, b, fun j x y => ?_, d⟩
      by_cases q : j = mark
      · subst q; exact hw
      · exact c j (by omega) y
local macro_rules | `(tactic| walk_at "subscriptTail") => `(tactic| ((with_reducible show wpAny _ _ (subscriptTail _ _ (Value.ref _) (Value.int _ _)) _ _ _); k_dflt (refine' item_listL ?kl (by omega) (by omega) ?kx ?_; (case kl => exact Fr.lst (by k_asm) (by k_asm)); (case kx => with_reducible assumption))))
theorem len_base {prog : Program} {w : World} {A : Around} {E Q : Value → Shared → Prop} {s : Shared} {h₀ : Heap} {L : Addr} {m : Str → Option Value} {l : Addr} {vs : List Value} (F : Fr h₀ L s.heap m) (hl : h₀.IsList l vs.toArray) (hn : vs.length ≤ 1000) (h : ∀ t' k', Q (.int vs.length t') { s with toks := k' }) : wpAny (model prog w) A (call (.builtin "len") [.ref l]) Q E s :=
  len_led (Fr.lst F hl) hn h
local macro_rules | `(tactic| walk_at "call builtin:len") => `(tactic| (k_dflt (refine len_base (by k_asm) (by k_asm) (by omega) ?_); intro t' k'))
theorem addL {prog : Program} {w : World} {A : Around} {E Q : Value → Shared → Prop} {s : Shared} {h₀ : Heap} {L : Addr} {m : Str → Option Value} {news : List (Addr × Obj)} {a b : Addr} {vs ws : List Value} (F : Fr h₀ L s.heap m) (N : News h₀ L s.heap news) (ha : s.heap.IsList a vs.toArray) (hb : s.heap.IsList b ws.toArray) (hz : vs.length + ws.length ≤ 1000)
    (h : ∀ D h', Fr h₀ L h' m → News h₀ L h' ((D, W.listOf (vs ++ ws).toArray 0) :: news) → (∀ p ∈ news, p.1 < D) → Q (.ref D) { s with heap := h' }) : wpAny (model prog w) A (binaryOp .Add (.ref a) (.ref b)) Q E s :=
  add_lists F N ha hb (fun h' F' N' => h _ h' F' N' (fun p hp => Heap.lt_size (N p hp).1)) (by rw [show sizeLine = 16777216 from rfl]; omega)
local macro_rules | `(tactic| walk_at "binaryOp Add ref ref") => `(tactic| (k_dflt (refine addL (by k_asm) (by k_asm) (News.isList (by k_asm) (by k_mem)) (News.isList (by k_asm) (by k_mem)) (by (simp only [List.length_cons, List.length_nil, List.length_append]); omega) ?_); intro D' h' F' N' l1; (try k_lt l1); (try k_sweep)))
set_option hygiene false in
local macro_rules | `(tactic| walk_at "my open") => `(tactic| (obtain ⟨hn64, hLr, hKr, hS, hl, hP, d1⟩ := C; (have lrv := hS.length); obtain ⟨q1, q2, ⟨tm, q3⟩⟩ := qn; (try unfold wled at N); (try simp only [List.cons_append, List.nil_append] at N); (dsimp only [walkAt, walkIfAt, walkIf, walkFor, walkBody, walkFn, walkEnv, fnBody, fnScope, forBody', ifBody, PySem.Challenge.pw_dm0163_02, List.getElem?_cons_succ, List.getElem?_cons_zero, List.head?_cons, Option.getD_some]); (refine id ?_); (try dsimp only)))
set_option hygiene false in
local macro_rules | `(tactic| walk_at "call ref") => `(tactic| (k_dflt (refine' fp_call (by k_in) (Top.keeps (by assumption) (Fr.keep (by assumption))) (by omega) ?kP ?kN ?kL (by omega) (by omega) ?_); (case kP => (with_reducible rename Fr _ _ _ _ => Fq); (with_reducible rename News _ _ _ _ => Nq); exact hP _ Fq.keep (fun p hp => (Nq p (by repeat (first | exact hp | refine List.mem_cons_of_mem _ ?_))).1)); (case kN => omega); (case kL => with_reducible assumption); intro h' tk' a' f' l' H' t1' t2' t3' t4' he ha1 ha2 hfp; (have nea := newsNe (by k_asm) ha1); (have nefl := neN (nea (fl, W.listOf vs.toArray n) (by k_mem))); (dsimp only at nefl); (have bd' := fp_bounds hfp (by omega)); (have okf' := ok_d0 (n := f') (by omega) (by omega)); (have okl' := ok_d0 (n := l') (by omega) (by omega)); (have okH' := ok_fp hfp hKr); (have okc' := ok_cut hKr f' l'); (have N' := newsAdd (by k_asm) (newsExt (by k_asm) he) ha1 ha2); (have F' := frExt (by assumption) he); (try k_sweep)))

-- part Wk1_2
theorem fillW1 : (PySem.Challenge.rw_dm0163_02, hd.heap_39) = (PySem.Challenge.rw_dm0163_02, hd.heap_39) := by k_fill; rfl
section
variable {prog : Program} {w : World} {dp un : Nat} {fr : Option (List Env)} {gd : Option (List Code)} {s : Shared} {h₀ : Heap} {p : Program} {loose : List Str} {mean : ExcName → Option Value} {mg mb : Str → Option Value} {L : Addr} {h : Heap} {tk : Nat} {m : Str → Option Value} {rows : List Str} {rl pg fl : Addr} {rv vs : List Value} {tl : List (Addr × Obj)} {o1 : Obj} {n : Nat} {mark : Int}
set_option maxHeartbeats 4000000 in
theorem wi0 (X : (hd.heap_39 w.params).In h₀) (T : Top p loose mean mg mb h₀) (hr : dp + 80 < recursionLimit) (hu : un + 100 < cLine) (C : WalkC prog w h₀ L rows rl pg rv tl o1) (qn : WalkN m pg fl mark) (F : Fr h₀ L h m) (hm1 : 1 ≤ mark) (hm2 : mark ≤ (rows.length : Int)) (N : News h₀ L h (wled L o1 fl vs n [] tl)) : wpAny (model prog w) (ar dp un fr gd) (exec (walkIfAt 0) (walkEnv L)) (St h₀ L s (fun m' news' => WalkN m' pg fl mark ∧ ∃ sl k0 t0 srest, Solid rows mark k0 ∧ sl ≠ fl ∧ m' (Str.ofString "solid") = some (.ref sl) ∧ news' = wled L o1 fl vs n [(sl, W.listOf (Value.int k0 t0 :: srest).toArray 0)] tl)) (fun _ _ => False) { s with heap := h, toks := tk } := by
  walk_at "my open"
  walk_at "my steps"
  all_goals (try k_data)
  with_reducible rename Fr _ _ _ _ => Fc
  with_reducible rename News _ _ _ _ => NN
  rename IsRange _ _ _ _ _ _ _ _ => hR
  have hcnt : mark + (((rows.length : Int) + 1 - mark).toNat : Nat) = rows.length + 1 := by omega
  generalize ((rows.length : Int) + 1 - mark).toNat = cnt at hcnt
  obtain ⟨k0, rest, eS, hsol⟩ := solid_head cnt hcnt
  refine LCt.CompSrcT.range rfl Fc NN hR (small_one (by omega) (by omega) (by omega) (by omega)) (n := cnt) (by rw [rangeSize_nat]; omega) (by rw [show sizeLine = 16777216 from rfl]; omega) (fun g => rest_filter (n := cnt) (rangeKs mark cnt) (fun k v => IsI k v) (fun k v => IsI k v) (fun k => !isWs (lineAt rows k)) (rangeKs_length _ _) (fun i v hi e => ⟨mark + i, by unfold rangeKs; rw [List.getElem?_map, List.getElem?_range hi]; rfl, e⟩) True.intro ?test ?turn ?fin)
  case test =>
    intro j v I oI C oC D m₂ ys h tk E' hj hr hC hx F N off ne
    obtain ⟨t, rfl⟩ := hr
    have hj' := mem_rangeKs hj
    have hrl : (lineAt rows j).length ≤ 16777216 := Nat.le_trans (len_lineAt hLr j) (by decide)
    have hsw := strip_white (lineAt rows j)
    rw [show lineAt rows j = rows.getD (j - 1).toNat Str.empty from if_pos ⟨by omega, by omega⟩] at hrl hsw ⊢
    walk_at "my steps"
    all_goals (try k_data)
    refine ⟨_, _, rfl, by with_reducible assumption, by with_reducible assumption, ?_⟩
    show Value.bool (!(Txt.strip (rows.getD (j - 1).toNat Str.empty) == Str.ofString "")) = _
    rw [hsw]
  case turn =>
    intro j v I oI C oC D m₂ ys h tk E' hj hp hr hC hx F N off ne
    obtain ⟨t, rfl⟩ := hr
    walk_at "my steps"
    all_goals (try k_data)
    exact ⟨_, _, rfl, by assumption, by assumption, _, rfl⟩
  case fin =>
    intro ys hys
    have hst := hys.ints
    rw [List.map_id'] at hst
    have hyl := hst.length
    have hfl := List.length_filter_le (fun k => !isWs (lineAt rows k)) (rangeKs mark cnt)
    rw [rangeKs_length] at hfl
    clear hys
    walk_at "my steps"
    all_goals (try k_data)
    with_reducible rename Fr _ _ _ _ => Fn
    with_reducible rename News _ _ _ _ => Nn
    generalize List.filter (fun k => !isWs (lineAt rows k)) (rangeKs mark cnt) = fs at hst eS hyl hfl
    cases hst with
    | nil =>
      injection eS with e1 e2
      subst e1
      rw [← lrv] at hsol
      refine' stMk Fn Nn _ ?sub ⟨⟨q1, q2, ⟨_, q3⟩⟩, _, _, _, [], hsol, ?ne, rfl, rfl⟩
      case ne => k_ne
      case sub => walk_at "my sub"
    | cons n t r =>
      injection eS with e1 e2
      subst e1
      refine' stMk Fn Nn _ ?sub ⟨⟨q1, q2, ⟨_, q3⟩⟩, _, _, _, _, hsol, ?ne, rfl, rfl⟩
      case ne => k_ne
      case sub => walk_at "my sub"
end

-- part Wk2_2
theorem fillW2 : (PySem.Challenge.rw_dm0163_02, hd.heap_39) = (PySem.Challenge.rw_dm0163_02, hd.heap_39) := by k_fill; rfl
section
variable {prog : Program} {w : World} {dp un : Nat} {fr : Option (List Env)} {gd : Option (List Code)} {s : Shared} {h₀ : Heap} {p : Program} {loose : List Str} {mean : ExcName → Option Value} {mg mb : Str → Option Value} {L : Addr} {h : Heap} {tk : Nat} {m : Str → Option Value} {rows : List Str} {rl pg fl : Addr} {rv vs : List Value} {tl : List (Addr × Obj)} {o1 : Obj} {n : Nat} {mark : Int}
set_option maxHeartbeats 4000000 in
theorem wi1 (X : (hd.heap_39 w.params).In h₀) (T : Top p loose mean mg mb h₀) (hr : dp + 80 < recursionLimit) (hu : un + 100 < cLine) (C : WalkC prog w h₀ L rows rl pg rv tl o1) (qn : WalkN m pg fl mark) (F : Fr h₀ L h m) (hm1 : 1 ≤ mark) (hm2 : mark ≤ (rows.length : Int)) {sl : Addr} {so : Obj} (q4 : m (Str.ofString "solid") = some (.ref sl)) (N : News h₀ L h (wled L o1 fl vs n [(sl, so)] tl)) : wpAny (model prog w) (ar dp un fr gd) (exec (walkIfAt 1) (walkEnv L)) (St h₀ L s (fun m' news' => WalkN m' pg fl mark ∧ m' (Str.ofString "solid") = some (.ref sl) ∧ ∃ a1 f1 l1 H1 t1 t2 t3 t4, m' (Str.ofString "told") = some (.ref a1) ∧ FP rows mark f1 l1 H1 ∧ (∀ p ∈ wled L o1 fl vs n [(sl, so)] tl, p.1 ≠ a1) ∧ news' = wled L o1 fl vs n [(a1, toldObj rows f1 l1 H1 t1 t2 t3 t4), (sl, so)] tl)) (fun _ _ => False) { s with heap := h, toks := tk } := by
  walk_at "my open"
  walk_at "my steps"
  all_goals (try k_data)
  with_reducible rename Fr _ _ _ _ => Fn
  with_reducible rename News _ _ _ _ => Nn
  refine' stMk Fn Nn _ ?sub ⟨⟨q1, q2, ⟨_, q3⟩⟩, q4, _, _, _, _, _, _, _, _, rfl, hfp, nea, rfl⟩
  case sub => walk_at "my sub"
end

-- part Wk3_2
theorem fillW3 : (PySem.Challenge.rw_dm0163_02, hd.heap_39) = (PySem.Challenge.rw_dm0163_02, hd.heap_39) := by k_fill; rfl
section
variable {prog : Program} {w : World} {dp un : Nat} {fr : Option (List Env)} {gd : Option (List Code)} {s : Shared} {h₀ : Heap} {p : Program} {loose : List Str} {mean : ExcName → Option Value} {mg mb : Str → Option Value} {L : Addr} {h : Heap} {tk : Nat} {m : Str → Option Value} {rows : List Str} {rl pg fl : Addr} {rv vs : List Value} {tl : List (Addr × Obj)} {o1 : Obj} {n : Nat} {mark : Int}
set_option maxHeartbeats 4000000 in
theorem wi2 (X : (hd.heap_39 w.params).In h₀) (T : Top p loose mean mg mb h₀) (hr : dp + 80 < recursionLimit) (hu : un + 100 < cLine) (C : WalkC prog w h₀ L rows rl pg rv tl o1) (qn : WalkN m pg fl mark) (F : Fr h₀ L h m) (hm1 : 1 ≤ mark) (hm2 : mark ≤ (rows.length : Int)) {sl : Addr} {so : Obj} (q4 : m (Str.ofString "solid") = some (.ref sl)) {a1 : Addr} {f1 l1 : Int} {H1 : Str} {t1 t2 t3 t4 : Tok} (q5 : m (Str.ofString "told") = some (.ref a1)) (b1 : 1 ≤ f1) (b2 : f1 ≤ l1) (b3 : l1 ≤ rows.length + 1) (N : News h₀ L h (wled L o1 fl vs n [(a1, toldObj rows f1 l1 H1 t1 t2 t3 t4), (sl, so)] tl)) : wpAny (model prog w) (ar dp un fr gd) (exec (walkIfAt 2) (walkEnv L)) (St h₀ L s (fun m' news' => WalkN m' pg fl mark ∧ m' (Str.ofString "solid") = some (.ref sl) ∧ m' (Str.ofString "told") = some (.ref a1) ∧ (∃ t, m' (Str.ofString "first") = some (.int f1 t)) ∧ (∃ t, m' (Str.ofString "last") = some (.int l1 t)) ∧ news' = wled L o1 fl vs n [(a1, toldObj rows f1 l1 H1 t1 t2 t3 t4), (sl, so)] tl)) (fun _ _ => False) { s with heap := h, toks := tk } := by
  walk_at "my open"
  walk_at "my steps"
  all_goals (try k_data)
  with_reducible rename Fr _ _ _ _ => Fn
  with_reducible rename News _ _ _ _ => Nn
  refine' stMk Fn Nn _ ?sub ⟨⟨q1, q2, ⟨_, q3⟩⟩, q4, q5, ⟨_, rfl⟩, ⟨_, rfl⟩, rfl⟩
  case sub => walk_at "my sub"
end

-- part Wk4_2
theorem fillW4 : (PySem.Challenge.rw_dm0163_02, hd.heap_39) = (PySem.Challenge.rw_dm0163_02, hd.heap_39) := by k_fill; rfl
section
variable {prog : Program} {w : World} {dp un : Nat} {fr : Option (List Env)} {gd : Option (List Code)} {s : Shared} {h₀ : Heap} {p : Program} {loose : List Str} {mean : ExcName → Option Value} {mg mb : Str → Option Value} {L : Addr} {h : Heap} {tk : Nat} {m : Str → Option Value} {rows : List Str} {rl pg fl : Addr} {rv vs : List Value} {tl : List (Addr × Obj)} {o1 : Obj} {n : Nat} {mark : Int}
set_option maxHeartbeats 4000000 in
theorem wi3 (X : (hd.heap_39 w.params).In h₀) (T : Top p loose mean mg mb h₀) (hr : dp + 80 < recursionLimit) (hu : un + 100 < cLine) (C : WalkC prog w h₀ L rows rl pg rv tl o1) (qn : WalkN m pg fl mark) (F : Fr h₀ L h m) (hm1 : 1 ≤ mark) (hm2 : mark ≤ (rows.length : Int)) {a1 : Addr} {f1 l1 : Int} {H1 : Str} {t1 t2 t3 t4 v1 v2 : Tok} (q5 : m (Str.ofString "told") = some (.ref a1)) (q6 : m (Str.ofString "first") = some (.int f1 v1)) (q7 : m (Str.ofString "last") = some (.int l1 v2)) (b1 : 1 ≤ f1) (b2 : f1 ≤ l1) (b3 : l1 ≤ rows.length + 1) {sl : Addr} {k0 : Int} {t0 : Tok} {srest : List Value} (q4 : m (Str.ofString "solid") = some (.ref sl)) (hk1 : f1 ≤ k0) (hk2 : k0 ≤ l1) (N : News h₀ L h (wled L o1 fl vs n [(a1, toldObj rows f1 l1 H1 t1 t2 t3 t4), (sl, W.listOf (Value.int k0 t0 :: srest).toArray 0)] tl)) : wpAny (model prog w) (ar dp un fr gd) (exec (walkIfAt 3) (walkEnv L)) (St h₀ L s (fun m' news' => m' = m ∧ news' = wled L o1 fl vs n [(a1, toldObj rows f1 l1 H1 t1 t2 t3 t4), (sl, W.listOf (Value.int k0 t0 :: srest).toArray 0)] tl)) (fun _ _ => False) { s with heap := h, toks := tk } := by
  have hx0 : (Value.int k0 t0 :: srest)[(0 : Int).toNat]? = some (.int k0 t0) := rfl
  walk_at "my open"
  walk_at "my steps"
  all_goals (try k_data)
  walk_at "my stay"
end

-- part Wk5_2
theorem fillW5 : (PySem.Challenge.rw_dm0163_02, hd.heap_39) = (PySem.Challenge.rw_dm0163_02, hd.heap_39) := by k_fill; rfl
section
variable {prog : Program} {w : World} {dp un : Nat} {fr : Option (List Env)} {gd : Option (List Code)} {s : Shared} {h₀ : Heap} {p : Program} {loose : List Str} {mean : ExcName → Option Value} {mg mb : Str → Option Value} {L : Addr} {h : Heap} {tk : Nat} {m : Str → Option Value} {rows : List Str} {rl pg fl : Addr} {rv vs : List Value} {tl : List (Addr × Obj)} {o1 : Obj} {n : Nat} {mark : Int}
set_option maxHeartbeats 4000000 in
theorem wi4t (X : (hd.heap_39 w.params).In h₀) (T : Top p loose mean mg mb h₀) (hr : dp + 80 < recursionLimit) (hu : un + 100 < cLine) (C : WalkC prog w h₀ L rows rl pg rv tl o1) (qn : WalkN m pg fl mark) (F : Fr h₀ L h m) (hm1 : 1 ≤ mark) (hm2 : mark ≤ (rows.length : Int)) {a1 : Addr} {f1 l1 : Int} {H1 : Str} {t1 t2 t3 t4 v1 v2 : Tok} (q5 : m (Str.ofString "told") = some (.ref a1)) (q6 : m (Str.ofString "first") = some (.int f1 v1)) (q7 : m (Str.ofString "last") = some (.int l1 v2)) (b1 : 1 ≤ f1) (b2 : f1 ≤ l1) (b3 : l1 ≤ rows.length + 1) {sl : Addr} {so : Obj} (FP1 : FP rows mark f1 l1 H1) (c1 : f1 < l1) (c2 : mark < l1) (hv : vs.length ≤ 900) (e1 : fl ≠ L + 1) (e2 : a1 ≠ fl) (e3 : sl ≠ fl) (htl : ∀ p ∈ tl, p.1 ≠ fl) (N : News h₀ L h (wled L o1 fl vs n [(a1, toldObj rows f1 l1 H1 t1 t2 t3 t4), (sl, so)] tl)) : wpAny (model prog w) (ar dp un fr gd) (exec (walkIfAt 4) (walkEnv L)) (St h₀ L s (fun m' news' => m' = m ∧ ∃ D k1 k2 k3 k4, D ≠ fl ∧ D ≠ L + 1 ∧ (∀ p ∈ tl, p.1 ≠ D) ∧ news' = wled L o1 fl (vs ++ [.ref D]) (n + 1) [(a1, toldObj rows f1 l1 H1 t1 t2 t3 t4), (sl, so)] ((D, paraObj f1 l1 H1 (cut rows f1 l1) k1 k2 k3 k4) :: tl))) (fun _ _ => False) { s with heap := h, toks := tk } := by
  have e1' := neN e1
  have e2' := neN e2
  have e3' := neN e3
  walk_at "my open"
  have k1 := ok_d0 (n := f1) (by omega) (by omega)
  have k2 := ok_d0 (n := l1) (by omega) (by omega)
  have k3 := ok_cut hKr f1 l1
  have k4 := ok_fp FP1 hKr
  walk_at "my steps"
  all_goals (try k_data)
  · with_reducible rename Fr _ _ _ _ => Fn
    with_reducible rename News _ _ _ _ => Nn
    rename _ ∧ _ ∧ _ ∧ _ ∧ _ ∧ AllLt _ _ => hAl
    refine' stMk Fn Nn _ ?sub ⟨rfl, _, _, _, _, _, ?ne, ?ne2, fun p hp => Nat.ne_of_lt (ktn_ltOf hAl.2.2.2.2.2 p hp), rfl⟩
    case sub => walk_at "my sub"
    case ne => k_ne
    case ne2 => k_ne
  · exfalso
    obtain ⟨u1, u2, u3⟩ := fp_uniq hfp (fp_again FP1 (by omega))
    rename (_ && _) = false => hq
    rw [u1, u2, u3] at hq
    simp at hq
  · with_reducible rename Fr _ _ _ _ => Fn
    with_reducible rename News _ _ _ _ => Nn
    rename _ ∧ _ ∧ _ ∧ _ ∧ AllLt _ _ => hAl
    refine' stMk Fn Nn _ ?sub ⟨rfl, _, _, _, _, _, ?ne, ?ne2, fun p hp => Nat.ne_of_lt (ktn_ltOf hAl.2.2.2.2 p hp), rfl⟩
    case sub => walk_at "my sub"
    case ne => k_ne
    case ne2 => k_ne
end

-- part Wk6_2
theorem fillW6 : (PySem.Challenge.rw_dm0163_02, hd.heap_39) = (PySem.Challenge.rw_dm0163_02, hd.heap_39) := by k_fill; rfl
section
variable {prog : Program} {w : World} {dp un : Nat} {fr : Option (List Env)} {gd : Option (List Code)} {s : Shared} {h₀ : Heap} {p : Program} {loose : List Str} {mean : ExcName → Option Value} {mg mb : Str → Option Value} {L : Addr} {h : Heap} {tk : Nat} {m : Str → Option Value} {rows : List Str} {rl pg fl : Addr} {rv vs : List Value} {tl : List (Addr × Obj)} {o1 : Obj} {n : Nat} {mark : Int}
set_option maxHeartbeats 4000000 in
theorem wi4f (X : (hd.heap_39 w.params).In h₀) (T : Top p loose mean mg mb h₀) (hr : dp + 80 < recursionLimit) (hu : un + 100 < cLine) (C : WalkC prog w h₀ L rows rl pg rv tl o1) (qn : WalkN m pg fl mark) (F : Fr h₀ L h m) (hm1 : 1 ≤ mark) (hm2 : mark ≤ (rows.length : Int)) {a1 : Addr} {f1 l1 : Int} {H1 : Str} {t1 t2 t3 t4 v1 v2 : Tok} (q5 : m (Str.ofString "told") = some (.ref a1)) (q6 : m (Str.ofString "first") = some (.int f1 v1)) (q7 : m (Str.ofString "last") = some (.int l1 v2)) (b1 : 1 ≤ f1) (b2 : f1 ≤ l1) (b3 : l1 ≤ rows.length + 1) {sl : Addr} {so : Obj} (hc : ¬ (f1 < l1 ∧ mark < l1)) (N : News h₀ L h (wled L o1 fl vs n [(a1, toldObj rows f1 l1 H1 t1 t2 t3 t4), (sl, so)] tl)) : wpAny (model prog w) (ar dp un fr gd) (exec (walkIfAt 4) (walkEnv L)) (St h₀ L s (fun m' news' => m' = m ∧ news' = wled L o1 fl vs n [(a1, toldObj rows f1 l1 H1 t1 t2 t3 t4), (sl, so)] tl)) (fun _ _ => False) { s with heap := h, toks := tk } := by
  walk_at "my open"
  by_cases c1 : f1 < l1
  · have c2 : ¬ mark < l1 := fun q => hc ⟨c1, q⟩
    walk_at "my steps"
    all_goals (try k_data)
    walk_at "my stay"
  · walk_at "my steps"
    all_goals (try k_data)
    walk_at "my stay"
set_option maxHeartbeats 4000000 in
theorem wi5t (X : (hd.heap_39 w.params).In h₀) (T : Top p loose mean mg mb h₀) (hr : dp + 80 < recursionLimit) (hu : un + 100 < cLine) (C : WalkC prog w h₀ L rows rl pg rv tl o1) (qn : WalkN m pg fl mark) (F : Fr h₀ L h m) (hm1 : 1 ≤ mark) (hm2 : mark ≤ (rows.length : Int)) {a1 : Addr} {f1 l1 : Int} {H1 : Str} {t1 t2 t3 t4 v1 v2 : Tok} (q5 : m (Str.ofString "told") = some (.ref a1)) (q6 : m (Str.ofString "first") = some (.int f1 v1)) (q7 : m (Str.ofString "last") = some (.int l1 v2)) (b1 : 1 ≤ f1) (b2 : f1 ≤ l1) (b3 : l1 ≤ rows.length + 1) {made : List (Addr × Obj)} (c1 : f1 < l1) (c2 : mark < l1) (N : News h₀ L h (wled L o1 fl vs n [] tl)) : wpAny (model prog w) (ar dp un fr gd) (exec (walkIfAt 5) (walkEnv L)) (St h₀ L s (fun m' news' => WalkN m' pg fl l1 ∧ news' = wled L o1 fl vs n [] tl)) (fun _ _ => False) { s with heap := h, toks := tk } := by
  walk_at "my open"
  walk_at "my steps"
  all_goals (try k_data)
  with_reducible rename Fr _ _ _ _ => Fn
  with_reducible rename News _ _ _ _ => Nn
  exact stMk Fn Nn _ (fun p hp => hp) ⟨⟨q1, q2, ⟨_, rfl⟩⟩, rfl⟩
set_option maxHeartbeats 4000000 in
theorem wi5f (X : (hd.heap_39 w.params).In h₀) (T : Top p loose mean mg mb h₀) (hr : dp + 80 < recursionLimit) (hu : un + 100 < cLine) (C : WalkC prog w h₀ L rows rl pg rv tl o1) (qn : WalkN m pg fl mark) (F : Fr h₀ L h m) (hm1 : 1 ≤ mark) (hm2 : mark ≤ (rows.length : Int)) {a1 : Addr} {f1 l1 : Int} {H1 : Str} {t1 t2 t3 t4 v1 v2 : Tok} (q5 : m (Str.ofString "told") = some (.ref a1)) (q6 : m (Str.ofString "first") = some (.int f1 v1)) (q7 : m (Str.ofString "last") = some (.int l1 v2)) (b1 : 1 ≤ f1) (b2 : f1 ≤ l1) (b3 : l1 ≤ rows.length + 1) (hc : ¬ (f1 < l1 ∧ mark < l1)) (N : News h₀ L h (wled L o1 fl vs n [] tl)) : wpAny (model prog w) (ar dp un fr gd) (exec (walkIfAt 5) (walkEnv L)) (St h₀ L s (fun m' news' => WalkN m' pg fl (l1 + 1) ∧ news' = wled L o1 fl vs n [] tl)) (fun _ _ => False) { s with heap := h, toks := tk } := by
  walk_at "my open"
  by_cases c1 : f1 < l1
  · have c2 : ¬ mark < l1 := fun q => hc ⟨c1, q⟩
    walk_at "my steps"
    all_goals (try k_data)
    with_reducible rename Fr _ _ _ _ => Fn
    with_reducible rename News _ _ _ _ => Nn
    exact stMk Fn Nn _ (fun p hp => hp) ⟨⟨q1, q2, ⟨_, rfl⟩⟩, rfl⟩
  · walk_at "my steps"
    all_goals (try k_data)
    with_reducible rename Fr _ _ _ _ => Fn
    with_reducible rename News _ _ _ _ => Nn
    exact stMk Fn Nn _ (fun p hp => hp) ⟨⟨q1, q2, ⟨_, rfl⟩⟩, rfl⟩
end

-- part Pq
theorem joinRow_bound {p e : Int} {r : Str} {ps : List Par} (hp : p + 1 ≤ e) (h : ∀ x ∈ ps, p + 1 ≤ x.1 ∧ x.1 < x.2.1 ∧ x.2.1 ≤ e) : ∀ x ∈ joinRow p r ps, p ≤ x.1 ∧ x.1 < x.2.1 ∧ x.2.1 ≤ e := by
  intro x hx
  cases ps with
  | nil => rw [joinRow, List.mem_singleton] at hx; subst hx; simp only; omega
  | cons y t =>
    obtain ⟨f, l, H⟩ := y
    have hy := h _ List.mem_cons_self
    simp only at hy
    rw [joinRow] at hx
    split at hx
    · rcases List.mem_cons.mp hx with rfl | hx
      · simp only; omega
      · have := h x (List.mem_cons_of_mem _ hx); omega
    · rcases List.mem_cons.mp hx with rfl | hx
      · simp only; omega
      · have := h x hx; omega
theorem runs_bounds : ∀ (rs : List Str) (p : Int), ∀ x ∈ runs p rs, p ≤ x.1 ∧ x.1 < x.2.1 ∧ x.2.1 ≤ p + rs.length
  | [], p, x, h => nomatch h
  | r :: rs, p, x, h => by
    have ih := runs_bounds rs (p + 1)
    rw [runs] at h
    rw [List.length_cons]
    split at h
    · refine joinRow_bound (by omega) (fun y hy => ?_) x h
      have := ih y hy; omega
    · have := ih x h; omega
/-- later paragraphs begin below -/
theorem runs_tail : ∀ (rs : List Str) (p : Int) (x : Par) (t : List Par), runs p rs = x :: t → ∀ y ∈ t, p < y.1
  | [], p, x, t, h, y, hy => nomatch h
  | r :: rs, p, x, t, h, y, hy => by
    rw [runs] at h
    split at h
    · cases e : runs (p + 1) rs with
      | nil => rw [e, joinRow] at h; injection h with h1 h2; subst h2; exact nomatch hy
      | cons z t' =>
        obtain ⟨f, l, H⟩ := z
        rw [e, joinRow] at h
        split at h
        · injection h with h1 h2
          subst h2
          have := runs_tail rs (p + 1) _ _ e y hy; omega
        · injection h with h1 h2
          subst h2
          have := runs_ge rs (p + 1) y (by rw [e]; exact hy); omega
    · have := runs_ge rs (p + 1) y (by rw [h]; exact List.mem_cons_of_mem _ hy); omega
def shiftP (d : Int) (x : Par) : Par := (x.1 + d, x.2.1 + d, x.2.2)
theorem joinRow_shift (p d : Int) (r : Str) (ps : List Par) : joinRow (p + d) r (ps.map (shiftP d)) = (joinRow p r ps).map (shiftP d) := by
  cases ps with
  | nil => simp only [List.map_nil, joinRow, List.map_cons, shiftP]; congr 2; congr 1; omega
  | cons y t =>
    obtain ⟨f, l, H⟩ := y
    simp only [List.map_cons, joinRow, shiftP]
    by_cases q : f = p + 1 ∧ H = hdr r
    · rw [if_pos q, if_pos ⟨by omega, q.2⟩]; rfl
    · rw [if_neg q, if_neg (fun z => q ⟨by omega, z.2⟩)]
      simp only [List.map_cons, shiftP]
      congr 2; congr 1; omega
theorem runs_shift (d : Int) : ∀ (rs : List Str) (p : Int), runs (p + d) rs = (runs p rs).map (shiftP d)
  | [], p => rfl
  | r :: rs, p => by
    rw [runs, runs, show p + d + 1 = p + 1 + d by omega, runs_shift d rs (p + 1)]
    split
    · exact joinRow_shift p d r _
    · rfl
/-- two pages' paragraphs, one below the other -/
def mergeR (q : Int) (xs : List Par) : List Par → List Par
  | [] => xs
  | (f', l', H') :: t => match xs.getLast? with
    | some (f, l, H) => if f' = q ∧ l = q ∧ H = H' then xs.dropLast ++ (f, l', H') :: t else xs ++ (f', l', H') :: t
    | none => (f', l', H') :: t
theorem mergeR_cons (q : Int) (a x : Par) (xs ys : List Par) : mergeR q (a :: x :: xs) ys = a :: mergeR q (x :: xs) ys := by
  cases ys with
  | nil => rfl
  | cons y t =>
    obtain ⟨f', l', H'⟩ := y
    simp only [mergeR, List.getLast?_cons_cons]
    cases e0 : (x :: xs).getLast? with
    | none => exact absurd (List.getLast?_eq_none_iff.mp e0) (by simp)
    | some z =>
      obtain ⟨f0, l0, H0⟩ := z
      simp only
      split <;> simp only [List.dropLast_cons_cons, List.cons_append]
theorem joinRow_merge {p q : Int} {r : Str} {xs ys : List Par} (hq : p + 1 ≤ q) (hy : ∀ y ∈ ys, q ≤ y.1) : joinRow p r (mergeR q xs ys) = mergeR q (joinRow p r xs) ys := by
  cases ys with
  | nil => rfl
  | cons y t =>
    obtain ⟨f', l', H'⟩ := y
    have hf := hy _ List.mem_cons_self
    simp only at hf
    cases xs with
    | nil =>
      simp only [mergeR, List.getLast?_nil, joinRow, List.getLast?_singleton, List.dropLast_singleton, List.nil_append, List.singleton_append]
      by_cases c : f' = p + 1 ∧ H' = hdr r
      · rw [if_pos c, if_pos ⟨by omega, by omega, c.2.symm⟩]
      · rw [if_neg c, if_neg (fun z => c ⟨by omega, z.2.2.symm⟩)]
    | cons x xs' =>
      obtain ⟨f, l, H⟩ := x
      cases xs' with
      | nil =>
        simp only [mergeR, List.getLast?_singleton, List.dropLast_singleton, List.nil_append, List.singleton_append, joinRow]
        by_cases c : f = p + 1 ∧ H = hdr r
        · rw [if_pos c]
          simp only [List.getLast?_singleton, List.dropLast_singleton, List.nil_append, List.singleton_append]
          by_cases d : f' = q ∧ l = q ∧ H = H'
          · rw [if_pos d, if_pos d]
            simp only [joinRow]
            rw [if_pos ⟨c.1, by rw [← d.2.2]; exact c.2⟩]
          · rw [if_neg d, if_neg d]
            simp only [joinRow]
            rw [if_pos c]
        · rw [if_neg c]
          simp only [List.getLast?_cons_cons, List.getLast?_singleton, List.dropLast_cons_cons, List.dropLast_singleton, List.cons_append, List.nil_append]
          by_cases d : f' = q ∧ l = q ∧ H = H'
          · rw [if_pos d, if_pos d]
            simp only [joinRow]
            rw [if_neg (fun z => c ⟨z.1, by rw [d.2.2]; exact z.2⟩)]
          · rw [if_neg d, if_neg d]
            simp only [joinRow]
            rw [if_neg c]
      | cons x2 xs'' =>
        rw [mergeR_cons]
        simp only [joinRow]
        by_cases c : f = p + 1 ∧ H = hdr r
        · rw [if_pos c, if_pos c, mergeR_cons]
        · rw [if_neg c, if_neg c, mergeR_cons, mergeR_cons]
theorem runs_app (b : List Str) : ∀ (a : List Str) (p : Int), runs p (a ++ b) = mergeR (p + a.length) (runs p a) (runs (p + a.length) b)
  | [], p => by
    rw [List.nil_append, show p + (([] : List Str).length : Int) = p by simp]
    show _ = mergeR p [] (runs p b)
    cases runs p b with
    | nil => rfl
    | cons y t => rfl
  | r :: a, p => by
    have e : p + ((r :: a).length : Int) = p + 1 + a.length := by rw [List.length_cons]; omega
    rw [List.cons_append, runs, runs, runs_app b a (p + 1), e]
    split
    · exact joinRow_merge (by omega) (fun y hy => runs_ge b _ y hy)
    · rfl
/-- a paragraph with its text -/
abbrev Para := Int × Int × Str × Str
noncomputable def withText (rows : List Str) (x : Par) : Para := (x.1, x.2.1, x.2.2, cut rows x.1 x.2.1)
noncomputable def paras (rows : List Str) : List Para := (runs 1 rows).map (withText rows)
/-- one more paragraph of the lower page -/
def addPar (U : Int) (due : List Para) (x : Para) : List Para :=
  match due.getLast? with
  | some z => if x.1 = 1 ∧ z.2.1 = U + 1 ∧ z.2.2.1 = x.2.2.1 then due.dropLast ++ [(z.1, x.2.1 + U, x.2.2.1, z.2.2.2 ++ x.2.2.2)] else due ++ [(x.1 + U, x.2.1 + U, x.2.2.1, x.2.2.2)]
  | none => due ++ [(x.1 + U, x.2.1 + U, x.2.2.1, x.2.2.2)]
theorem addPar_far {U : Int} {due : List Para} {x : Para} (h : x.1 ≠ 1) : addPar U due x = due ++ [(x.1 + U, x.2.1 + U, x.2.2.1, x.2.2.2)] := by
  unfold addPar
  split
  · rw [if_neg (fun z => h z.1)]
  · rfl
theorem addPar_hit {U : Int} {due : List Para} {x z : Para} (e : due.getLast? = some z) (c : x.1 = 1 ∧ z.2.1 = U + 1 ∧ z.2.2.1 = x.2.2.1) : addPar U due x = due.dropLast ++ [(z.1, x.2.1 + U, x.2.2.1, z.2.2.2 ++ x.2.2.2)] := by
  unfold addPar
  rw [e]
  exact if_pos c
theorem addPar_miss {U : Int} {due : List Para} {x z : Para} (e : due.getLast? = some z) (c : ¬ (x.1 = 1 ∧ z.2.1 = U + 1 ∧ z.2.2.1 = x.2.2.1)) : addPar U due x = due ++ [(x.1 + U, x.2.1 + U, x.2.2.1, x.2.2.2)] := by
  unfold addPar
  rw [e]
  exact if_neg c
theorem foldl_far {U : Int} : ∀ (xs : List Para) (due : List Para), (∀ x ∈ xs, x.1 ≠ 1) → xs.foldl (addPar U) due = due ++ xs.map (fun x => (x.1 + U, x.2.1 + U, x.2.2.1, x.2.2.2))
  | [], due, _ => by simp
  | x :: xs, due, h => by
    rw [List.foldl_cons, addPar_far (h x List.mem_cons_self), foldl_far xs _ (fun y hy => h y (List.mem_cons_of_mem _ hy))]
    simp
theorem cut_left {a b : List Str} {f l : Int} (h1 : 1 ≤ f) (h3 : l ≤ a.length + 1) : cut (a ++ b) f l = cut a f l := by
  unfold cut
  congr 2
  rw [List.take_append, show (l - 1).toNat - a.length = 0 by omega, List.take_zero, List.append_nil]
theorem strjoin_app (a b : List Str) : Str.join (Str.ofString "") (a ++ b) = Str.join (Str.ofString "") a ++ Str.join (Str.ofString "") b := by
  have cps : ∀ l : List Str, (Str.join (Str.ofString "") l).cps.toList = l.flatMap (fun x => x.cps.toList) := by
    intro l
    induction l with
    | nil => rfl
    | cons x r ih =>
      cases r with
      | nil => simp [Str.join]
      | cons y r =>
        have : (Str.join (Str.ofString "") (x :: y :: r)).cps = (x.cps ++ #[]) ++ (Str.join (Str.ofString "") (y :: r)).cps := rfl
        rw [this, List.flatMap_cons, ← ih]
        simp
  have ext : ∀ x y : Str, x.cps.toList = y.cps.toList → x = y := fun x y e => by
    obtain ⟨x⟩ := x; obtain ⟨y⟩ := y
    congr 1
    exact Array.ext' e
  apply ext
  have : (Str.join (Str.ofString "") a ++ Str.join (Str.ofString "") b).cps = (Str.join (Str.ofString "") a).cps ++ (Str.join (Str.ofString "") b).cps := rfl
  rw [this, Array.toList_append, cps, cps, cps, List.flatMap_append]
theorem join_app (a b : List Str) : Txt.join (Str.ofString "") (a ++ b) = Txt.join (Str.ofString "") a ++ Txt.join (Str.ofString "") b := by
  unfold Txt.join
  rw [PySem.StrLaws.glued_eq_join, PySem.StrLaws.glued_eq_join, PySem.StrLaws.glued_eq_join]; exact strjoin_app a b
theorem cut_right {a b : List Str} {f l : Int} (h1 : 1 ≤ f) (h2 : f ≤ l) (h3 : l ≤ b.length + 1) : cut (a ++ b) (f + a.length) (l + a.length) = cut b f l := by
  have := cut_inside (up := a) (rows := b) (down := []) h1 h2 h3
  rwa [List.append_nil] at this
theorem cut_mid {a b : List Str} {f l : Int} (h1 : 1 ≤ f) (h2 : f ≤ a.length + 1) (h3 : 1 ≤ l) : cut (a ++ b) f (l + a.length) = cut a f (a.length + 1) ++ cut b 1 l := by
  unfold cut
  rw [← join_app, ← List.map_append]
  congr 2
  rw [List.take_append, List.take_of_length_le (by omega), List.drop_append_of_le_length (by omega), show ((a.length : Int) + 1 - 1).toNat = a.length by omega, List.take_length, show ((1 : Int) - 1).toNat = 0 by omega, List.drop_zero]
  congr 2; omega
theorem foldl_runs {upper lower : List Str} : (paras lower).foldl (addPar upper.length) (paras upper) = paras (upper ++ lower) := by
  have hU : (1 : Int) + upper.length = upper.length + 1 := by omega
  unfold paras
  rw [runs_app lower upper 1]
  have hsh : runs (1 + (upper.length : Int)) lower = (runs 1 lower).map (shiftP upper.length) := runs_shift _ lower 1
  rw [hsh]
  have bU := runs_bounds upper 1
  have bL := runs_bounds lower 1
  have left : ∀ x ∈ runs 1 upper, withText (upper ++ lower) x = withText upper x := fun x hx => by
    have := bU x hx
    unfold withText
    rw [cut_left this.1 (by omega)]
  have right : ∀ x ∈ runs 1 lower, withText (upper ++ lower) (shiftP upper.length x) = (x.1 + (upper.length : Int), x.2.1 + (upper.length : Int), x.2.2, cut lower x.1 x.2.1) := fun x hx => by
    have := bL x hx
    show (x.1 + (upper.length : Int), x.2.1 + (upper.length : Int), x.2.2, cut (upper ++ lower) (x.1 + upper.length) (x.2.1 + upper.length)) = _
    rw [cut_right this.1 (by omega) (by omega)]
  cases eL : runs 1 lower with
  | nil =>
    simp only [List.map_nil, List.foldl_nil, mergeR]
    exact List.map_congr_left fun x hx => (left x hx).symm
  | cons x t =>
    obtain ⟨f, l, H⟩ := x
    have hx := bL (f, l, H) (by rw [eL]; exact List.mem_cons_self)
    simp only at hx
    have ht := runs_tail lower 1 _ t eL
    rw [eL] at right
    have rx : withText (upper ++ lower) (f + (upper.length : Int), l + (upper.length : Int), H) = (f + (upper.length : Int), l + (upper.length : Int), H, cut lower f l) := right (f, l, H) List.mem_cons_self
    rw [List.map_cons, List.foldl_cons, foldl_far]
    rotate_left
    · intro y hy
      obtain ⟨z, hz, rfl⟩ := List.mem_map.mp hy
      have := ht z hz
      show z.1 ≠ 1
      omega
    have tailEq : List.map (fun x : Para => (x.1 + (upper.length : Int), x.2.1 + (upper.length : Int), x.2.2.1, x.2.2.2)) (List.map (withText lower) t) = List.map (withText (upper ++ lower)) (List.map (shiftP upper.length) t) := by
      rw [List.map_map, List.map_map]
      apply List.map_congr_left
      intro z hz
      exact (right z (List.mem_cons_of_mem _ hz)).symm
    rw [tailEq]
    simp only [List.map_cons, mergeR, shiftP]
    cases eU : (runs 1 upper).getLast? with
    | none =>
      have en : runs 1 upper = [] := List.getLast?_eq_none_iff.mp eU
      rw [en]
      simp only [List.map_nil, addPar, List.getLast?_nil, List.nil_append, List.map_cons, List.singleton_append]
      rw [rx]; rfl
    | some z =>
      obtain ⟨f0, l0, H0⟩ := z
      have hz := bU (f0, l0, H0) (List.mem_of_getLast? eU)
      simp only at hz
      have el : ((runs 1 upper).map (withText upper)).getLast? = some (withText upper (f0, l0, H0)) := by rw [List.getLast?_map, eU]; rfl
      by_cases c : f = 1 ∧ l0 = upper.length + 1 ∧ H0 = H
      · obtain ⟨rfl, rfl, rfl⟩ := c
        rw [addPar_hit (x := withText lower (1, l, H0)) el ⟨rfl, rfl, rfl⟩]
        simp only
        rw [if_pos ⟨trivial, by omega, trivial⟩]
        rw [List.map_append, List.map_cons, List.append_assoc, List.singleton_append, ← List.map_dropLast]
        have e1 : (runs 1 upper).dropLast.map (withText upper) = (runs 1 upper).dropLast.map (withText (upper ++ lower)) := List.map_congr_left fun y hy => (left y ((List.dropLast_subset _) hy)).symm
        rw [e1]
        congr 2
        show (f0, l + (upper.length : Int), H0, cut upper f0 (upper.length + 1) ++ cut lower 1 l) = (f0, l + (upper.length : Int), H0, cut (upper ++ lower) f0 (l + upper.length))
        rw [cut_mid hz.1 (by omega) (by omega)]
      · rw [addPar_miss (x := withText lower (f, l, H)) el c]
        simp only
        rw [if_neg (fun q => c ⟨by omega, by omega, q.2.2⟩)]
        rw [List.map_append, List.map_cons, List.append_assoc, List.singleton_append]
        have e1 : (runs 1 upper).map (withText upper) = (runs 1 upper).map (withText (upper ++ lower)) := List.map_congr_left fun y hy => (left y hy).symm
        rw [e1]
        congr 2
        rw [rx]; rfl

-- part Wv_2
theorem fillWv : (PySem.Challenge.rw_dm0163_02, hd.heap_39) = (PySem.Challenge.rw_dm0163_02, hd.heap_39) := by k_fill; rfl
def walkTest : Expr := ifTest walkFor.head?
theorem walkFor_eq : ∃ pos, walkFor = [.If walkTest walkIf [] pos] := ⟨_, rfl⟩
/-- a test's end -/
def TestAt (h₀ : Heap) (L : Addr) (s : Shared) (m : Str → Option Value) (news : List (Addr × Obj)) (b₀ : Bool) (b : Bool) (s' : Shared) : Prop :=
  b = b₀ ∧ ∃ h' tk', s' = { s with heap := h', toks := tk' } ∧ Fr h₀ L h' m ∧ News h₀ L h' news
theorem joinRow_len (p : Int) (r : Str) (ps : List Par) : (joinRow p r ps).length ≤ ps.length + 1 := by
  cases ps with
  | nil => exact Nat.le_refl _
  | cons y t =>
    obtain ⟨f, l, H⟩ := y
    rw [joinRow]
    split
    · simp only [List.length_cons]; omega
    · simp only [List.length_cons]; omega
theorem runs_len : ∀ (rs : List Str) (p : Int), (runs p rs).length ≤ rs.length
  | [], p => Nat.le_refl _
  | r :: rs, p => by
    have ih := runs_len rs (p + 1)
    have := joinRow_len p r (runs (p + 1) rs)
    rw [runs, List.length_cons]
    split <;> omega
/-- an object of the ledger that holds this paragraph -/
def ParaAt (tl : List (Addr × Obj)) (x : Para) (v : Value) : Prop := ∃ a k1 k2 k3 k4, v = .ref a ∧ (a, paraObj x.1 x.2.1 x.2.2.1 x.2.2.2 k1 k2 k3 k4) ∈ tl
structure WInv (rows : List Str) (fl : Addr) (i : Nat) (mark : Int) (F0 : List Par) (vs : List Value) (tl : List (Addr × Obj)) : Prop where
  m1 : 1 ≤ mark
  m2 : mark ≤ rows.length + 2
  go : (i : Int) < mark ∨ (rows.length : Int) < mark
  bd : Bd rows mark
  eq : F0 ++ runsFrom rows mark = runs 1 rows
  K : All2 (ParaAt tl) (F0.map (withText rows)) vs
  ntl : ∀ p ∈ tl, p.1 ≠ fl
theorem WalkC.app {ext : List (Addr × Obj)} (C : WalkC prog w h₀ L rows rl pg rv tl o1) : WalkC prog w h₀ L rows rl pg rv (tl ++ ext) o1 := by
  obtain ⟨c1, c2, c3, c4, c5, c6, c7⟩ := C
  exact ⟨c1, c2, c3, c4, c5, fun H e ht => c6 H e (fun p hp => ht p (List.mem_append_left _ hp)), c7⟩
theorem WalkC.more {o : Addr × Obj} (C : WalkC prog w h₀ L rows rl pg rv tl o1) : WalkC prog w h₀ L rows rl pg rv (o :: tl) o1 := by
  obtain ⟨c1, c2, c3, c4, c5, c6, c7⟩ := C
  exact ⟨c1, c2, c3, c4, c5, fun H e ht => c6 H e (fun p hp => ht p (.tail _ hp)), c7⟩
section
variable {prog : Program} {w : World} {dp un : Nat} {fr : Option (List Env)} {gd : Option (List Code)} {s : Shared} {h₀ : Heap} {p : Program} {loose : List Str} {mean : ExcName → Option Value} {mg mb : Str → Option Value} {L : Addr} {h : Heap} {tk : Nat} {m : Str → Option Value} {rows : List Str} {rl pg fl : Addr} {rv vs : List Value} {tl : List (Addr × Obj)} {o1 : Obj} {n : Nat} {mark : Int}
set_option maxHeartbeats 4000000 in
theorem wtest (C : WalkC prog w h₀ L rows rl pg rv tl o1) (qn : WalkN m pg fl mark) (F : Fr h₀ L h m) (X : (hd.heap_39 w.params).In h₀) (T : Top p loose mean mg mb h₀) (N : News h₀ L h (wled L o1 fl vs n [] tl)) :
    wpAny (model prog w) (ar dp un fr gd) (isTrue walkTest (walkEnv L) (eval walkTest (walkEnv L))) (TestAt h₀ L s m (wled L o1 fl vs n [] tl) (decide (mark ≤ (rows.length : Int)))) (fun _ _ => False) { s with heap := h, toks := tk } := by
  unfold walkTest ifTest
  walk_at "my open"
  walk_at "my steps"
  all_goals (try k_data)
  rw [← lrv]
  with_reducible rename Fr _ _ _ _ => Fn
  with_reducible rename News _ _ _ _ => Nn
  exact ⟨rfl, _, _, rfl, Fn, Nn⟩
def WJ (prog : Program) (w : World) (h₀ : Heap) (L : Addr) (rows : List Str) (rl pg fl : Addr) (rv : List Value) (o1 : Obj) (tl₀ ext : List (Addr × Obj)) (i : Nat) (m' : Str → Option Value) (news' : List (Addr × Obj)) : Prop :=
  ∃ mark F0 vs n tl, WalkN m' pg fl mark ∧ WInv rows fl i mark F0 vs tl ∧ WalkC prog w h₀ L rows rl pg rv tl o1 ∧ (∀ p ∈ tl₀, p ∈ tl) ∧ (∀ p ∈ tl, ∀ q ∈ ext, p.1 ≠ q.1) ∧ news' = wled L o1 fl vs n [] (tl ++ ext)
set_option maxHeartbeats 4000000 in
theorem wturn {i : Nat} {tl₀ ext : List (Addr × Obj)} (X : (hd.heap_39 w.params).In h₀) (T : Top p loose mean mg mb h₀) (hr : dp + 80 < recursionLimit) (hu : un + 100 < cLine) (efl : fl ≠ L + 1) (hext : ∀ p ∈ ext, p.1 ≠ fl) {news : List (Addr × Obj)} (J : WJ prog w h₀ L rows rl pg fl rv o1 tl₀ ext i m news) (F : Fr h₀ L h m) (N : News h₀ L h news) :
    wpAny (model prog w) (ar dp un fr gd) (execs walkFor (walkEnv L)) (St h₀ L s (WJ prog w h₀ L rows rl pg fl rv o1 tl₀ ext (i + 1))) (fun _ _ => False) { s with heap := h, toks := tk } := by
  obtain ⟨mark, F0, vs, n, tl, qn, I, C0, hsub, hapart, rfl⟩ := J
  have C : WalkC prog w h₀ L rows rl pg rv (tl ++ ext) o1 := C0.app
  obtain ⟨pos, e⟩ := walkFor_eq
  rw [e]
  refine wpAny_execs_cons (wpAny_If (wpAny_mono (wtest C qn F X T N) (fun b s' hb => ?_) fun _ _ e => e))
  obtain ⟨rfl, h1, tk1, rfl, F1, N1⟩ := hb
  obtain ⟨i1, i2, i3, i4, i5, i6, i7⟩ := I
  have i7' : ∀ p ∈ tl ++ ext, p.1 ≠ fl := fun p hp => by
    rcases List.mem_append.mp hp with hp | hp
    · exact i7 p hp
    · exact hext p hp
  by_cases hm : mark ≤ (rows.length : Int)
  · rw [decide_eq_true hm]
    simp only [if_true]
    rw [walkIf_eq]
    have hvl : vs.length ≤ 900 := by
      have a := i6.len
      rw [List.length_map] at a
      have b := congrArg List.length i5
      rw [List.length_append] at b
      have c := runs_len rows 1
      have := C.n64
      omega
    refine cutS _ (wi0 X T hr hu C qn F1 i1 hm N1) ?_
    rintro h2 tk2 m2 _ F2 N2 ⟨qn2, sl, k0, t0, srest, hsol, ne2, q4, rfl⟩
    refine cutS _ (wi1 X T hr hu C qn2 F2 i1 hm q4 N2) ?_
    rintro h3 tk3 m3 _ F3 N3 ⟨qn3, q4, a1, f1, l1, H1, t1, t2, t3, t4, q5, FP1, nea, rfl⟩
    have bd := fp_bounds FP1 (by omega)
    have b1 : 1 ≤ f1 := bd.1
    have b2 : f1 ≤ l1 := bd.2.1
    have b3 : l1 ≤ rows.length + 1 := by omega
    refine cutS _ (wi2 X T hr hu C qn3 F3 i1 hm q4 q5 b1 b2 b3 N3) ?_
    rintro h4 tk4 m4 _ F4 N4 ⟨qn4, q4, q5, ⟨v1, q6⟩, ⟨v2, q7⟩, rfl⟩
    have hbt := fp_between FP1 i1 (by omega) hsol
    refine cutS _ (wi3 X T hr hu C qn4 F4 i1 hm q5 q6 q7 b1 b2 b3 q4 hbt.1 hbt.2 N4) ?_
    rintro h5 tk5 m5 _ F5 N5 ⟨rfl, rfl⟩
    obtain ⟨st1, st2⟩ := walk_step FP1 i1 hm i4
    have ne1 : a1 ≠ fl := fun q => nea (fl, W.listOf vs.toArray n) (.tail _ (.head _)) q.symm
    by_cases hc : f1 < l1 ∧ mark < l1
    · obtain ⟨r1, r2, r3⟩ := st1 hc
      refine cutS _ (wi4t X T hr hu C qn4 F5 i1 hm q5 q6 q7 b1 b2 b3 FP1 hc.1 hc.2 hvl efl ne1 ne2 i7' N5) ?_
      rintro h6 tk6 m6 _ F6 N6 ⟨rfl, D, k1, k2, k3, k4, hD, hD2, hD3, rfl⟩
      have N6' : News h₀ L h6 (wled L o1 fl (vs ++ [.ref D]) (n + 1) [] ((D, paraObj f1 l1 H1 (cut rows f1 l1) k1 k2 k3 k4) :: (tl ++ ext))) := by
        refine newsSub N6 ?_
        intro q hq
        simp only [wled, List.cons_append, List.nil_append, List.mem_cons] at hq ⊢
        rcases hq with h | h | h | h <;> simp only [h, true_or, or_true]
      refine cutS _ (wi5t (made := []) (H1 := H1) (t1 := t1) (t2 := t2) (t3 := t3) (t4 := t4) X T hr hu C.more qn4 F6 i1 hm q5 q6 q7 b1 b2 b3 hc.1 hc.2 N6') ?_
      · rintro h7 tk7 m7 _ F7 N7 ⟨qn7, rfl⟩
        refine wpAny_execs_nil (wpAny_execs_nil ?_)
        refine stMk F7 N7 _ (fun p hp => hp) ⟨l1, F0 ++ [(f1, l1, H1)], _, _, (D, paraObj f1 l1 H1 (cut rows f1 l1) k1 k2 k3 k4) :: tl, qn7, ⟨by omega, by omega, by omega, r2, ?_, ?_, ?_⟩, C0.more, fun p hp => .tail _ (hsub p hp), List.forall_mem_cons.mpr ⟨fun q hq e => hD3 q (List.mem_append_right _ hq) e.symm, hapart⟩, rfl⟩
        · rw [List.append_assoc, List.singleton_append, ← r1]; exact i5
        · rw [List.map_append]
          refine (i6.imp fun x v hx => ?_).snoc ⟨D, k1, k2, k3, k4, rfl, .head _⟩
          obtain ⟨a, j1, j2, j3, j4, e1, e2⟩ := hx
          exact ⟨a, j1, j2, j3, j4, e1, .tail _ e2⟩
        · exact List.forall_mem_cons.mpr ⟨hD, i7⟩
    · obtain ⟨r1, r2, r3, r4⟩ := st2 hc
      refine cutS _ (wi4f X T hr hu C qn4 F5 i1 hm q5 q6 q7 b1 b2 b3 hc N5) ?_
      rintro h6 tk6 m6 _ F6 N6 ⟨rfl, rfl⟩
      have N6' : News h₀ L h6 (wled L o1 fl vs n [] (tl ++ ext)) := by
        refine newsSub N6 ?_
        intro q hq
        simp only [wled, List.cons_append, List.nil_append, List.mem_cons] at hq ⊢
        rcases hq with h | h | h <;> simp only [h, true_or, or_true]
      refine cutS _ (wi5f (H1 := H1) (t1 := t1) (t2 := t2) (t3 := t3) (t4 := t4) X T hr hu C qn4 F6 i1 hm q5 q6 q7 b1 b2 b3 hc N6') ?_
      · rintro h7 tk7 m7 _ F7 N7 ⟨qn7, rfl⟩
        refine wpAny_execs_nil (wpAny_execs_nil ?_)
        exact stMk F7 N7 _ (fun p hp => hp) ⟨l1 + 1, F0, _, _, tl, qn7, ⟨by omega, by omega, by omega, r2, by rw [← r1]; exact i5, i6, i7⟩, C0, hsub, hapart, rfl⟩
  · rw [decide_eq_false hm]
    simp only [Bool.false_eq_true, if_false]
    refine wpAny_execs_nil (wpAny_execs_nil ?_)
    exact stMk F1 N1 _ (fun p hp => hp) ⟨mark, F0, vs, n, tl, qn, ⟨i1, i2, by omega, i4, i5, i6, i7⟩, C0, hsub, hapart, rfl⟩
end

-- part Ww_2
theorem fillWw : (PySem.Challenge.rw_dm0163_02, hd.heap_39) = (PySem.Challenge.rw_dm0163_02, hd.heap_39) := by k_fill; rfl
set_option hygiene false in
local macro_rules | `(tactic| walk_at "call ref") => `(tactic| ((with_reducible rename News _ _ _ _ => Nold); k_dflt (refine page_anyN (by k_asm) Nold hne5 hT (by k_asm) (by k_asm) (by k_asm) (by omega) (Fr.lst (by k_asm) (by k_asm)) (by with_reducible assumption) (by omega) (by with_reducible assumption) ?_); intro h' tk' pg c1 c2 oc1 oc2 pobjs F' N' kc1 kc2 mc fresh1 page1; (have nep := fun p hp => newsNe Nold (fresh1 p hp)); simp only [List.cons_append, List.nil_append] at N'; (try k_sweep)))
section
variable {prog : Program} {w : World} {dp un : Nat} {fr : Option (List Env)} {gd : Option (List Code)} {s : Shared} {h₀ : Heap} {p : Program} {loose : List Str} {mean : ExcName → Option Value} {mg mb : Str → Option Value} {L : Addr} {h : Heap} {tk : Nat} {m : Str → Option Value} {rows : List Str} {rl pg fl : Addr} {rv vs : List Value} {tl : List (Addr × Obj)} {o1 o5 : Obj} {n : Nat} {mark : Int}
set_option maxHeartbeats 4000000 in
theorem ws0 (X : (hd.heap_39 w.params).In h₀) (T : Top p loose mean mg mb h₀) (C : CodeHd h₀ 109 105) (hr : dp + 80 < recursionLimit) (F : Fr h₀ L h m) (hT : TabG h₀ o5) (N : News h₀ L h [(105, o5), (L + 1, o1)]) (hne5 : ∀ p ∈ [(L + 1, o1)], p.1 ≠ 105) (d1 : o1.data = .cell (some (.ref rl))) (hl : h₀.IsList rl rv.toArray) (hS : StrsAre rv rows) (hn : rows.length ≤ 64) (hL : ∀ r ∈ rows, r.length ≤ 64) :
    wpAny (model prog w) (ar dp un fr gd) (exec (walkAt 0) (walkEnv L)) (St h₀ L s (fun m' news' => ∃ pg c1 c2 oc1 oc2 pobjs, m' (Str.ofString "page") = some (.ref pg) ∧ news' = (105, tab2 c1 c2) :: (L + 1, o1) :: pobjs ∧ CodeOk oc1 lamQ ∧ CodeOk oc2 lamQ ∧ (((c1, oc1) ∈ pobjs ∧ (c2, oc2) ∈ pobjs) ∨ o5 = tab2 c1 c2) ∧
      (∀ H, Ext h₀ H → (∀ p ∈ pobjs, H.get? p.1 = some p.2) → H.IsList rl rv.toArray → PageOk prog w H pg rows))) (fun _ _ => False) { s with heap := h, toks := tk } := by
  dsimp only [walkAt, walkBody, walkFn, walkEnv, fnBody, fnScope, PySem.Challenge.pw_dm0163_02, List.getElem?_cons_succ, List.getElem?_cons_zero, Option.getD_some]
  refine id ?_
  walk_at "my steps"
  all_goals (try k_data)
  with_reducible rename Fr _ _ _ _ => Fn
  with_reducible rename News _ _ _ _ => Nn
  exact stMk Fn Nn _ (fun p hp => hp) ⟨_, _, _, _, _, _, rfl, rfl, kc1, kc2, mc, page1⟩
set_option maxHeartbeats 4000000 in
theorem ws1 (X : (hd.heap_39 w.params).In h₀) (T : Top p loose mean mg mb h₀) (F : Fr h₀ L h m) (N : News h₀ L h ((105, o5) :: (L + 1, o1) :: tl)) (q1 : m (Str.ofString "page") = some (.ref pg)) :
    wpAny (model prog w) (ar dp un fr gd) (exec (walkAt 1) (walkEnv L)) (St h₀ L s (fun m' news' => ∃ fl, m' (Str.ofString "page") = some (.ref pg) ∧ m' (Str.ofString "found") = some (.ref fl) ∧ fl ≠ L + 1 ∧ (∀ p ∈ (105, o5) :: tl, p.1 ≠ fl) ∧ news' = wled L o1 fl [] 0 [] ((105, o5) :: tl))) (fun _ _ => False) { s with heap := h, toks := tk } := by
  dsimp only [walkAt, walkBody, walkFn, walkEnv, fnBody, fnScope, PySem.Challenge.pw_dm0163_02, List.getElem?_cons_succ, List.getElem?_cons_zero, Option.getD_some]
  refine id ?_
  walk_at "my steps"
  all_goals (try k_data)
  with_reducible rename Fr _ _ _ _ => Fn
  with_reducible rename News _ _ _ _ => Nn
  rename _ ∧ _ ∧ AllLt _ _ => hAl
  refine' stMk Fn Nn _ ?sub ⟨_, q1, rfl, ?ne, List.forall_mem_cons.mpr ⟨?ne2, fun p hp => Nat.ne_of_lt (ktn_ltOf hAl.2.2 p hp)⟩, rfl⟩
  case sub => walk_at "my sub"
  case ne => k_ne
  case ne2 => k_ne
set_option maxHeartbeats 4000000 in
theorem ws2 (X : (hd.heap_39 w.params).In h₀) (T : Top p loose mean mg mb h₀) (F : Fr h₀ L h m) (N : News h₀ L h (wled L o1 fl vs n [] tl)) (q1 : m (Str.ofString "page") = some (.ref pg)) (q2 : m (Str.ofString "found") = some (.ref fl)) :
    wpAny (model prog w) (ar dp un fr gd) (exec (walkAt 2) (walkEnv L)) (St h₀ L s (fun m' news' => WalkN m' pg fl 1 ∧ news' = wled L o1 fl vs n [] tl)) (fun _ _ => False) { s with heap := h, toks := tk } := by
  dsimp only [walkAt, walkBody, walkFn, walkEnv, fnBody, fnScope, PySem.Challenge.pw_dm0163_02, List.getElem?_cons_succ, List.getElem?_cons_zero, Option.getD_some]
  refine id ?_
  walk_at "my steps"
  all_goals (try k_data)
  with_reducible rename Fr _ _ _ _ => Fn
  with_reducible rename News _ _ _ _ => Nn
  exact stMk Fn Nn _ (fun p hp => hp) ⟨⟨q1, q2, ⟨_, rfl⟩⟩, rfl⟩
theorem wstep {i : Nat} {tl₀ : List (Addr × Obj)} (X : (hd.heap_39 w.params).In h₀) (T : Top p loose mean mg mb h₀) (hr : dp + 80 < recursionLimit) (hu : un + 100 < cLine) (efl : fl ≠ L + 1) {Q : Flow → Shared → Prop}
    (t : Tok) (m₁ : Str → Option Value) (news₁ : List (Addr × Obj)) (h : Heap) (tk : Nat) (I : Addr) (oI : Obj) (J : WJ prog w h₀ L rows rl pg fl rv o1 tl₀ [] i m₁ news₁) (hne : ∀ p ∈ news₁, p.1 ≠ I) (F : Fr h₀ L h (fun y => if y = Str.ofString "turn" then some (.int (0 + (i : Int)) t) else m₁ y)) (N : News h₀ L h ((I, oI) :: news₁)) :
    wpAny (model prog w) (ar dp un fr gd) (execs walkFor (walkEnv L)) (Turned h₀ L s I oI (WJ prog w h₀ L rows rl pg fl rv o1 tl₀ [] (i + 1)) Q) (fun _ _ => False) { s with heap := h, toks := tk } := by
  obtain ⟨mark, F0, vs, n, tl, qn, WI, C, hsub, _, rfl⟩ := J
  rw [List.append_nil] at N hne
  have qn' : WalkN (fun y => if y = Str.ofString "turn" then some (.int (0 + (i : Int)) t) else m₁ y) pg fl mark := by
    obtain ⟨a, b, tm, c⟩ := qn
    refine ⟨?_, ?_, tm, ?_⟩
    · show (if _ then _ else _) = _
      rw [if_neg (by decide)]; exact a
    · show (if _ then _ else _) = _
      rw [if_neg (by decide)]; exact b
    · show (if _ then _ else _) = _
      rw [if_neg (by decide)]; exact c
  have hI : fl ≠ I := hne (fl, W.listOf vs.toArray n) (.tail _ (.head _))
  have hI1 : L + 1 ≠ I := hne (L + 1, o1) (.head _)
  refine wpAny_mono (wturn (ext := [(I, oI)]) X T hr hu efl (fun p hp => by rw [List.mem_singleton.mp hp]; exact Ne.symm hI) ⟨mark, F0, vs, n, tl, qn', WI, C, hsub, fun p hp q hq => ?_, rfl⟩ F (newsSub N ?_)) (fun f s₂ hq => ?_) fun _ _ e => e
  · rw [List.mem_singleton.mp hq]
    exact hne p (.tail _ (.tail _ hp))
  · intro q hq
    simp only [wled, List.cons_append, List.nil_append, List.mem_cons, List.mem_append, List.not_mem_nil, or_false] at hq ⊢
    rcases hq with h | h | h | h <;> simp only [h, true_or, or_true]
  · obtain ⟨rfl, h', tk', m', news', rfl, F', N', mark', F0', vs', n', tl', qn2, W', C', hsub', hap', rfl⟩ := hq
    refine .inl ⟨rfl, h', tk', m', wled L o1 fl vs' n' [] (tl' ++ []), rfl, F', newsSub N' ?_, ?_, mark', F0', vs', n', tl', qn2, W', C', hsub', fun _ _ q hq => (nomatch hq), rfl⟩
    · intro q hq
      simp only [wled, List.cons_append, List.nil_append, List.mem_cons, List.mem_append, List.not_mem_nil, or_false] at hq ⊢
      rcases hq with h | h | h | h <;> simp only [h, true_or, or_true]
    · rw [List.append_nil]
      exact List.forall_mem_cons.mpr ⟨hI1, List.forall_mem_cons.mpr ⟨hI, fun p hp => hap' p hp (I, oI) (.head _)⟩⟩
set_option maxHeartbeats 4000000 in
theorem wloop {tl₀ : List (Addr × Obj)} (X : (hd.heap_39 w.params).In h₀) (T : Top p loose mean mg mb h₀) (hr : dp + 80 < recursionLimit) (hu : un + 100 < cLine) (efl : fl ≠ L + 1) (C : WalkC prog w h₀ L rows rl pg rv tl o1) (qn : WalkN m pg fl 1) (F : Fr h₀ L h m) (hW : WInv rows fl 0 1 [] [] tl) (hsub : ∀ p ∈ tl₀, p ∈ tl) (N : News h₀ L h (wled L o1 fl [] 0 [] tl)) :
    wpAny (model prog w) (ar dp un fr gd) (exec (walkAt 3) (walkEnv L)) (St h₀ L s (WJ prog w h₀ L rows rl pg fl rv o1 tl₀ [] rows.length)) (fun _ _ => False) { s with heap := h, toks := tk } := by
  have hst := fun (i : Nat) (t : Tok) m₁ news₁ h tk I oI (_ : i < rows.length) => wstep (prog := prog) (s := { s with heap := h, toks := tk }) (i := i) (tl₀ := tl₀) (Q := St h₀ L s (WJ prog w h₀ L rows rl pg fl rv o1 tl₀ [] rows.length)) (fr := fr) (gd := gd) (pg := pg) (rv := rv) (o1 := o1) (rl := rl) (rows := rows) X T hr hu efl t m₁ news₁ h tk I oI
  have C' := C
  walk_at "my open"
  dsimp only [walkFor, walkBody, walkFn, walkEnv, fnBody, fnScope, forBody', PySem.Challenge.pw_dm0163_02, List.getElem?_cons_succ, List.getElem?_cons_zero, Option.getD_some] at hst
  refine' For_rng (h₀ := h₀) rfl rfl rfl 0 rows.length rows.length (by omega) (small_one (by omega) (by omega) (by omega) (by omega)) (fun i => WJ prog w h₀ L rows rl pg fl rv o1 tl₀ [] i) ?it ?st ?fin
  case it =>
    walk_at "my steps"
    all_goals (try k_data)
    rename IsRange _ _ _ _ _ _ _ _ => hR
    with_reducible rename Fr _ _ _ _ => Fn
    with_reducible rename News _ _ _ _ => Nn
    rw [lrv] at hR
    exact ⟨_, _, _, _, _, _, _, _, rfl, rfl, hR, Fn, Nn, 1, [], [], 0, tl, ⟨q1, q2, ⟨_, q3⟩⟩, hW, C', hsub, fun _ _ q hq => (nomatch hq), by rw [List.append_nil]; rfl⟩
  case st => exact hst
  case fin =>
    intro h' tk' m' news' F' N' hJ
    exact ⟨rfl, h', tk', m', news', rfl, F', N', hJ⟩
end
theorem tab_not_list {g : Heap} {o5 : Obj} (h : TabG g o5) : o5.cls = .none := by
  rcases h with rfl | ⟨c1, c2, _, _, rfl, _⟩ <;> rfl
theorem code_not_tab {c1 c2 : Addr} {q : Str} : ¬ CodeOk (tab2 c1 c2) q := by
  rintro ⟨vs, t, e1, e2⟩
  injection e1 with e1
  subst e1
  injection e2 with e2
  cases e2
theorem tabHide {h : Heap} {o5 : Obj} (h5 : h.get? 105 = some o5) (hT : TabG h o5) : TabG (h.hide 105) o5 := by
  rcases hT with rfl | ⟨c1, c2, oc1, oc2, rfl, k1, k2, g1, g2⟩
  · exact .inl rfl
  · refine .inr ⟨c1, c2, oc1, oc2, rfl, k1, k2, ?_, ?_⟩
    · rw [Heap.hide_ne _ (by rintro rfl; rw [h5] at g1; cases g1; exact code_not_tab k1)]; exact g1
    · rw [Heap.hide_ne _ (by rintro rfl; rw [h5] at g2; cases g2; exact code_not_tab k2)]; exact g2
set_option maxHeartbeats 4000000 in
theorem walk_body {prog : Program} {w : World} {dp un : Nat} {fr gd} {s : Shared} {Q : Flow → Shared → Prop} {p loose mean mg mb} {L : Addr} {h1 : Heap} {tk1 : Nat} {m : Str → Option Value} {o1 : Obj} (X0 : (hd.heap_39 w.params).In (s.heap.hide 105)) (T0 : Top p loose mean mg mb (s.heap.hide 105)) (C0 : CodeHd (s.heap.hide 105) 109 105) (hr : dp + 100 < recursionLimit) (hu : un + 120 < cLine)
   {rows : List Str} {rv : List Value} {rl : Addr} {o5 : Obj} (F : Fr (s.heap.hide 105) L h1 m) (N : News (s.heap.hide 105) L h1 [(L + 1, o1), (105, o5)]) (lP : 105 < L) (d1 : o1.data = .cell (some (.ref rl))) (hl0 : (s.heap.hide 105).IsList rl rv.toArray) (hS : StrsAre rv rows) (hn : rows.length ≤ 64) (hL : ∀ r ∈ rows, r.length ≤ 64) (hok : ∀ r ∈ rows, ok r) (h5 : s.heap.get? 105 = some o5) (hT0 : TabG (s.heap.hide 105) o5)
   (h : ∀ h' tk' D vs nn objs c1 c2 oc1 oc2, (∀ b o, b ≠ 105 → s.heap.get? b = some o → h'.get? b = some o) → h'.get? 105 = some (tab2 c1 c2) → CodeOk oc1 lamQ → CodeOk oc2 lamQ → (((c1, oc1) ∈ objs ∧ (c2, oc2) ∈ objs) ∨ o5 = tab2 c1 c2) → (∀ p ∈ objs, h'.get? p.1 = some p.2 ∧ s.heap.get? p.1 = none) → (D, W.listOf vs.toArray nn) ∈ objs → All2 (ParaAt objs) (paras rows) vs → Q (.ret (.ref D)) {s with heap := h', toks := tk'}) :
   wpAny (model prog w) (ar (dp + 1) (un + 3) fr gd) (execs walkBody (walkEnv L)) Q (fun _ _ => False) { s with heap := h1, toks := tk1 } := by
  rw [walkBody_eq]
  refine cutS (s := s) _ (ws0 X0 T0 C0 (by omega) F hT0 (newsSub N ?sw) ?ne d1 hl0 hS hn hL) ?_
  case sw => exact List.forall_mem_cons.mpr ⟨.tail _ (.head _), List.forall_mem_cons.mpr ⟨.head _, fun _ q => (nomatch q)⟩⟩
  case ne =>
    intro q hq
    rw [List.mem_singleton.mp hq]
    show L + 1 ≠ 105
    exact Nat.ne_of_gt (Nat.lt_succ_of_lt lP)
  rintro h2 tk2 m2 _ F2 N2 ⟨pg, c1, c2, oc1, oc2, pobjs, q1, rfl, kc1, kc2, mc, page⟩
  refine cutS (s := s) _ (ws1 X0 T0 F2 N2 q1) ?_
  rintro h3 tk3 m3 _ F3 N3 ⟨fl, q1, q2, efl, hfl, rfl⟩
  refine cutS (s := s) _ (ws2 X0 T0 F3 N3 q1 q2) ?_
  rintro h4 tk4 m4 _ F4 N4 ⟨qn, rfl⟩
  have CW : WalkC prog w (s.heap.hide 105) L rows rl pg rv ((105, tab2 c1 c2) :: pobjs) o1 := ⟨hn, hL, hok, hS, hl0, fun H e ht => page H e (fun p hp => ht p (.tail _ hp)) (listExt hl0 e), d1⟩
  refine cutS (s := s) _ (wloop (tl₀ := (105, tab2 c1 c2) :: pobjs) X0 T0 (by omega) (by omega) efl CW qn F4 ⟨by omega, by omega, by omega, bd_one rows, rfl, .nil, hfl⟩ (fun p hp => hp) N4) ?_
  rintro h6 tk6 m6 _ F6 N6 ⟨mark, F0, vs, n, tl, qn6, W6, C6, hsub, _, rfl⟩
  rw [List.append_nil] at N6
  have hend : F0 = runs 1 rows := by
    have a := W6.go
    have b := W6.eq
    rw [runsFrom_end (by omega), List.append_nil] at b
    exact b
  have n5 := N6 (105, tab2 c1 c2) (.tail _ (.tail _ (hsub _ (.head _))))
  have apart : ∀ q ∈ tl, (q.2.cls ≠ .none ∨ CodeOk q.2 lamQ) → q.1 ≠ 105 := fun q hq hc e => by
    have a := (N6 q (.tail _ (.tail _ hq))).1
    rw [e, n5.1] at a
    injection a with a
    rcases hc with hc | hc
    · rw [← a] at hc; exact hc rfl
    · rw [← a] at hc; exact code_not_tab hc
  have fl5 : fl ≠ 105 := Ne.symm (hfl _ (.head _))
  have base : ∀ q ∈ wled L o1 fl vs n [] tl, q.1 ≠ 105 → h6.get? q.1 = some q.2 ∧ s.heap.get? q.1 = none := fun q hq hne => by
    have a := N6 q hq
    refine ⟨a.1, ?_⟩
    have := a.2.2
    rwa [Heap.hide_ne _ hne] at this
  have fin := h h6 (tk6) fl vs n (((fl, W.listOf vs.toArray n) :: tl).filter (fun q => decide (q.1 ≠ 105))) c1 c2 oc1 oc2 (fun b o hb e => F6.keep b o (by rw [Heap.hide_ne _ hb]; exact e)) n5.1 kc1 kc2 ?i1 ?i3 ?i4 ?i5
  case i1 =>
    rcases mc with ⟨a, b⟩ | a
    · have hm1 := hsub _ (.tail _ a)
      have hm2 := hsub _ (.tail _ b)
      exact .inl ⟨List.mem_filter.mpr ⟨.tail _ hm1, decide_eq_true (apart _ hm1 (.inr kc1))⟩, List.mem_filter.mpr ⟨.tail _ hm2, decide_eq_true (apart _ hm2 (.inr kc2))⟩⟩
    · exact .inr a
  case i3 =>
    intro q hq
    obtain ⟨a, b⟩ := List.mem_filter.mp hq
    exact base q (.tail _ a) (of_decide_eq_true b)
  case i4 => exact List.mem_filter.mpr ⟨.head _, decide_eq_true fl5⟩
  case i5 =>
    have := W6.K
    rw [hend] at this
    refine this.imp fun x v hx => ?_
    obtain ⟨a, k1, k2, k3, k4, e1, e2⟩ := hx
    exact ⟨a, k1, k2, k3, k4, e1, List.mem_filter.mpr ⟨.tail _ e2, decide_eq_true (apart _ e2 (.inl (by intro q; cases q)))⟩⟩
  obtain ⟨q1, q2, q3⟩ := qn6
  clear base apart page hfl CW C6 W6 N4 N3 N2 F4 F3 F2 qn
  dsimp only [walkAt, walkBody, walkFn, walkEnv, fnBody, fnScope, PySem.Challenge.pw_dm0163_02, List.getElem?_cons_succ, List.getElem?_cons_zero, Option.getD_some]
  refine id ?_
  walk_at "my steps"
  all_goals (try k_data)
  exact fin
set_option maxHeartbeats 4000000 in
theorem walk_call {prog : Program} {w : World} {dp un : Nat} {fr gd} {s : Shared} {Q : Value → Shared → Prop} {E} {g : Heap} {p loose mean mg mb} (X : (hd.heap_39 w.params).In g) (T : Top p loose mean mg mb g) (hg : Ext g s.heap) (hgP : g.get? 105 = none) (C : CodeHd g 109 105) (hr : dp + 100 < recursionLimit) (hu : un + 120 < cLine)
   {rows : List Str} {rv : List Value} {rl : Addr} (hl : s.heap.IsList rl rv.toArray) (hS : StrsAre rv rows) (hn : rows.length ≤ 64) (hL : ∀ r ∈ rows, r.length ≤ 64) (hok : ∀ r ∈ rows, ok r) {o5 : Obj} (h5 : s.heap.get? 105 = some o5) (hT : TabG s.heap o5)
   (h : ∀ h' tk' D vs nn objs c1 c2 oc1 oc2, (∀ b o, b ≠ 105 → s.heap.get? b = some o → h'.get? b = some o) → h'.get? 105 = some (tab2 c1 c2) → CodeOk oc1 lamQ → CodeOk oc2 lamQ → (((c1, oc1) ∈ objs ∧ (c2, oc2) ∈ objs) ∨ o5 = tab2 c1 c2) → (∀ p ∈ objs, h'.get? p.1 = some p.2 ∧ s.heap.get? p.1 = none) → (D, W.listOf vs.toArray nn) ∈ objs → All2 (ParaAt objs) (paras rows) vs → Q (.ref D) {s with heap := h', toks := tk'}) : wpAny (model prog w) (ar dp un fr gd) (call (.ref 120) [.ref rl]) Q E s := by
  refine' enterC (K := hd.heap_39 w.params) (P := 105) (X.keeps hg) ((T.keeps hg).nolimit) ?k6 ?k7 (by omega) ?k9 ?kB ?kD h5 ?c2 ?c3 ?c4 ?_
  case k6 => k_is
  case k7 => k_is
  case k9 => exact BindsTo.of_eq rfl
  case kB => exact rfl
  case kD => decide +kernel
  case c2 => rfl
  case c3 => rfl
  case c4 => rfl
  intro L h1 tk1 fr1 cells F N Y lP
  have e0 := hideExt hg hgP
  have X0 := X.keeps e0
  have T0 := T.keeps e0
  have C0 := C.keeps e0
  have hT0 := tabHide h5 hT
  have hrl : rl ≠ 105 := by
    rintro rfl
    obtain ⟨o, e, ec, _⟩ := hl
    rw [h5] at e; cases e
    rw [tab_not_list hT] at ec; cases ec
  have hl0 : (s.heap.hide 105).IsList rl rv.toArray := by
    obtain ⟨o, e, r⟩ := hl
    exact ⟨o, by rw [Heap.hide_ne _ hrl]; exact e, r⟩
  k_cells Y
  (try simp only [List.cons_append, List.nil_append] at N)
  rename _ = Data.cell _ => d1
  change _ = Data.cell (some (Value.ref rl)) at d1
  refine walk_body (s := s) X0 T0 C0 hr hu F N lP d1 hl0 hS hn hL hok h5 hT0 ?_
  intro h' tk' D vs nn objs c1 c2 oc1 oc2 a1 a2 a3 a4 a5 a6 a7 a8
  exact h h' tk' D vs nn objs c1 c2 oc1 oc2 a1 a2 a3 a4 a5 a6 a7 a8

-- part Lq_2
section
variable {prog : Program} {w : World} {A : Around} {s : Shared} {env : Env} {h₀ : Heap}
/-- the list to go through is there, and stays -/
def LstAt (h₀ : Heap) (L : Addr) (s : Shared) (its : Array Value) (J : Nat → (Str → Option Value) → List (Addr × Obj) → Prop) (xv : Value) (s₁ : Shared) : Prop :=
  ∃ ax m news h tk, xv = .ref ax ∧ s₁ = { s with heap := h, toks := tk } ∧ LCg.SrcAt h₀ ax its news ∧ Fr h₀ L h m ∧ News h₀ L h news ∧ J 0 m news ∧ (∀ i m' news', J i m' news' → LCg.SrcAt h₀ ax its news')
theorem For_lst {Q : Flow → Shared → Prop} {target iter : Expr} {body : List Stmt} {pos : Pos} (hh : A.handled = none) (its : Array Value) (J : Nat → (Str → Option Value) → List (Addr × Obj) → Prop)
    (hit : wpAny (model prog w) A (eval iter env) (LstAt h₀ env.locals s its J) (fun _ _ => False) s)
    (step : ∀ (i : Nat) (v : Value) m₁ news₁ h tk I oI, its[i]? = some v → J i m₁ news₁ → (∀ p ∈ news₁, p.1 ≠ I) → Fr h₀ env.locals h m₁ → News h₀ env.locals h ((I, oI) :: news₁) →
      wpAny (model prog w) A (assign target env v) (fun _ s₂ => wpAny (model prog w) A (execs body env) (Turned h₀ env.locals s I oI (J (i + 1)) Q) (fun _ _ => False) s₂) (fun _ _ => False) { s with heap := h, toks := tk })
    (fin : ∀ h' tk m' news', Fr h₀ env.locals h' m' → News h₀ env.locals h' news' → J its.size m' news' → Q .next { s with heap := h', toks := tk })
    (hs : ∀ x, foldedSetIterable iter env x = pure x := by intro _; rfl) (ht : ∀ it v, letOwnedTupleGo target it v = pure () := by intro _ _; rfl) :
    wpAny (model prog w) A (exec (.For target iter body [] pos) env) Q (fun _ _ => False) s := by
  refine wpAny_For (wpAny_mono hit (fun xv s₁ h₁ => ?_) fun _ _ e => e) hs
  obtain ⟨ax, m, news, h, tk, rfl, rfl, hsrc, F, N, hJ, hstay⟩ := h₁
  have hl := hsrc.list F.keep N
  have hlt : ax < h.objs.size := by obtain ⟨_, e, _⟩ := hl; exact Heap.lt_size e
  refine wpAny_pyIter_list hl ?_
  have up : ∀ b o, h.get? b = some o → (h.push { cls := .type "list_iterator", data := .fields #[.ref ax, .int 0 0] }).get? b = some o := fun b o e => Heap.get?_push_of_some _ e
  have W : Walks prog w A h.objs.size _ [h.objs.size] its.size _ _ := Walks.list hh h.objs.size ax (Nat.ne_of_lt hlt) its
  have hI0 : h₀.get? h.objs.size = none := next_is_new F
  have hIL : env.locals ≠ h.objs.size := Nat.ne_of_lt F.ns.lt
  refine codeAny_forLoop
    (fun k s' => ∃ h' tk m' news' i, s' = { s with heap := h', toks := tk } ∧ (h'.IsListIter h.objs.size ax i ∧ h'.IsList ax its) ∧ Fr h₀ env.locals h' m' ∧ News h₀ env.locals h' news' ∧ (∀ p ∈ news', p.1 ≠ h.objs.size) ∧ J i m' news' ∧ i ≤ its.size ∧ k = its.size + 1 - i) ?_ (its.size + 1)
    ⟨_, _, m, news, 0, rfl, ⟨⟨_, Heap.get?_push_size _ rfl, rfl, rfl⟩, hl.push _⟩, F.keeps up, N.grown up, fun p hp => Nat.ne_of_lt (Heap.lt_size (N p hp).1), hJ, Nat.zero_le _, rfl⟩ (ht _)
  rintro k s' ⟨h', tk', m', news', i, rfl, hst', F', N', hnw', hJ', hi, rfl⟩
  by_cases hlt2 : i < its.size
  · refine W.item i _ _ _ hlt2 hst' fun v h₁ tk₁ hP hst₁ hk₁ => ?_
    have F₁ := LCg.fr_but F' hk₁ hIL hI0
    have N₁ := LCg.news_but N' hk₁ hnw'
    obtain ⟨oI, hoI, hoI2⟩ := hst₁.1
    have N₂ : News h₀ env.locals h₁ ((h.objs.size, oI) :: news') := fun p hp => by
      rcases List.mem_cons.mp hp with rfl | hp
      · exact ⟨hoI, Ne.symm hIL, hI0⟩
      · exact N₁ p hp
    refine wpAny_mono (step i v m' news' h₁ tk₁ h.objs.size oI hP hJ' hnw' F₁ N₂) (fun u s₂ h₂ => wpAny_mono h₂ (fun f s₃ h₃ => ?_) fun _ _ e => e.elim) fun _ _ e => e.elim
    rcases h₃ with ⟨rfl, h₄, tk₄, m₄, news₄, rfl, F₄, N₄, hne₄, hJ₄⟩ | ⟨v', rfl, hq⟩
    · refine ⟨its.size + 1 - (i + 1), by omega, h₄, tk₄, m₄, news₄, i + 1, rfl, ⟨⟨oI, (N₄ _ (.head _)).1, hoI2⟩, ?_⟩, F₄, fun p hp => N₄ p (.tail _ hp), hne₄, hJ₄, hlt2, rfl⟩
      exact (hstay _ _ _ hJ₄).list F₄.keep fun p hp => N₄ p (.tail _ hp)
    · exact hq
  · have hin : i = its.size := by omega
    subst hin
    refine W.done _ _ _ hst' fun h₁ tk₁ hk₁ => wpAny_execs_nil ?_
    exact fin h₁ tk₁ m' news' (LCg.fr_but F' hk₁ hIL hI0) (LCg.news_but N' hk₁ hnw') hJ'
theorem For_lstN {Q : Flow → Shared → Prop} {x : Str} {px : Pos} {iter : Expr} {body : List Stmt} {pos : Pos} (hx : env.kindOf x = some .local) (hp : (env.scope.kind == .class || (env.scope.kind == .module && env.locals != env.globals)) = false) (hh : A.handled = none) (its : Array Value) (J : Nat → (Str → Option Value) → List (Addr × Obj) → Prop)
    (hit : wpAny (model prog w) A (eval iter env) (LstAt h₀ env.locals s its J) (fun _ _ => False) s)
    (step : ∀ (i : Nat) (v : Value) m₁ news₁ h tk I oI, its[i]? = some v → J i m₁ news₁ → (∀ p ∈ news₁, p.1 ≠ I) → Fr h₀ env.locals h (fun y => if y = x then some v else m₁ y) → News h₀ env.locals h ((I, oI) :: news₁) →
      wpAny (model prog w) A (execs body env) (Turned h₀ env.locals s I oI (J (i + 1)) Q) (fun _ _ => False) { s with heap := h, toks := tk })
    (fin : ∀ h' tk m' news', Fr h₀ env.locals h' m' → News h₀ env.locals h' news' → J its.size m' news' → Q .next { s with heap := h', toks := tk })
    (hs : ∀ x, foldedSetIterable iter env x = pure x := by intro _; rfl) :
    wpAny (model prog w) A (exec (.For (.Name x px) iter body [] pos) env) Q (fun _ _ => False) s := by
  refine For_lst hh its J hit (fun i v m₁ news₁ h tk I oI hi hJ hne F N => ?_) fin hs
  refine wpAny_assign_Name (wpAny_storeName_local hx F.ns (fun h₂ hn₂ hs₂ => ?_) hp)
  exact step i v m₁ news₁ h₂ _ I oI hi hJ hne (F.set hn₂ hs₂) (N.set hs₂)
end

-- part Fl_2
theorem fillFl : (PySem.Challenge.rw_dm0163_02, hd.heap_39) = (PySem.Challenge.rw_dm0163_02, hd.heap_39) := by k_fill; rfl
def fullFn : Option Stmt := PySem.Challenge.pw_dm0163_02.main.body[14]?
def fullBody : List Stmt := fnBody fullFn
def fullAt (n : Nat) : Stmt := (fullBody[n]?).getD pass
def fullFor : List Stmt := forBody' (fullBody[1]?)
def fullEnv (L : Addr) : Env := envOf (Str.ofString "_law_full") (fnScope fullFn) L 127 (.ref 126)
theorem fullBody_eq : fullBody = [fullAt 0, fullAt 1, fullAt 2] := rfl
def pairObj (H r : Str) (t1 t2 : Tok) : Obj := { cls := .type "tuple", data := .seq #[.str H t1, .str r t2] }
def PairAt (tl : List (Addr × Obj)) (x : Str × Str) (v : Value) : Prop := ∃ a t1 t2, v = .ref a ∧ (a, pairObj x.1 x.2 t1 t2) ∈ tl
noncomputable def fullRows (rows : List Str) : List (Str × Str) := (rows.filter full).map (fun r => (hdr r, r))
section
variable {prog : Program} {w : World} {dp un : Nat} {fr : Option (List Env)} {gd : Option (List Code)} {s : Shared} {h₀ : Heap} {p : Program} {loose : List Str} {mean : ExcName → Option Value} {mg mb : Str → Option Value} {L : Addr} {h : Heap} {tk : Nat} {m : Str → Option Value} {rows : List Str} {rl fl : Addr} {rv vs : List Value} {tl : List (Addr × Obj)} {n : Nat}
set_option maxHeartbeats 4000000 in
theorem ft (X : (hd.heap_39 w.params).In h₀) (T : Top p loose mean mg mb h₀) (hr : dp + 20 < recursionLimit) (F : Fr h₀ L h m) {row : Str} {t : Tok} (hx : row.length ≤ 64) (q1 : m (Str.ofString "row") = some (.str row t)) (q2 : m (Str.ofString "full") = some (.ref fl)) (hv : vs.length ≤ 900) (htl : ∀ p ∈ tl, p.1 ≠ fl) (N : News h₀ L h ((fl, W.listOf vs.toArray n) :: tl)) :
    wpAny (model prog w) (ar dp un fr gd) (execs fullFor (fullEnv L)) (St h₀ L s (fun m' news' => m' (Str.ofString "full") = some (.ref fl) ∧ ((full row = true ∧ ∃ D t1 t2, D ≠ fl ∧ (∀ p ∈ tl, p.1 ≠ D) ∧ news' = (fl, W.listOf (vs ++ [Value.ref D]).toArray (n + 1)) :: (D, pairObj (hdr row) row t1 t2) :: tl) ∨ (full row = false ∧ news' = (fl, W.listOf vs.toArray n) :: tl)))) (fun _ _ => False) { s with heap := h, toks := tk } := by
  have hk := kind_full row
  have hh := kind_hdr row
  unfold restOf at hk hh
  dsimp only [fullFor, fullBody, fullFn, fullEnv, fnBody, fnScope, forBody', PySem.Challenge.pw_dm0163_02, List.getElem?_cons_succ, List.getElem?_cons_zero, Option.getD_some]
  refine id ?_
  walk_at "my steps"
  all_goals (try k_data)
  · rename (_ != _) = true => hq
    rename _ ∧ AllLt _ _ => hAl
    with_reducible rename Fr _ _ _ _ => Fn
    with_reducible rename News _ _ _ _ => Nn
    rw [hh] at Nn
    refine' stMk Fn Nn _ ?sub ⟨q2, .inl ⟨by rw [← hk]; exact hq, _, _, _, ?ne, fun p hp => Nat.ne_of_lt (ktn_ltOf hAl.2 p hp), rfl⟩⟩
    case sub => walk_at "my sub"
    case ne => k_ne
  · rename (_ != _) = false => hq
    with_reducible rename Fr _ _ _ _ => Fn
    with_reducible rename News _ _ _ _ => Nn
    refine' stMk Fn Nn _ ?sub ⟨q2, .inr ⟨by rw [← hk]; exact hq, rfl⟩⟩
    case sub => walk_at "my sub"
def FJ (rows : List Str) (fl : Addr) (i : Nat) (m' : Str → Option Value) (news' : List (Addr × Obj)) : Prop :=
  ∃ vs n tl, m' (Str.ofString "full") = some (.ref fl) ∧ All2 (PairAt tl) (fullRows (rows.take i)) vs ∧ (∀ p ∈ tl, p.1 ≠ fl) ∧ news' = (fl, W.listOf vs.toArray n) :: tl
theorem fullRows_len (rows : List Str) : (fullRows rows).length ≤ rows.length := by
  unfold fullRows
  rw [List.length_map]
  exact List.length_filter_le _ _
theorem fullRows_snoc (rows : List Str) (r : Str) : fullRows (rows ++ [r]) = fullRows rows ++ (if full r = true then [(hdr r, r)] else []) := by
  unfold fullRows
  rw [List.filter_append, List.map_append]
  congr 1
  split
  · rename_i h; simp [h]
  · rename_i h; simp [h]
theorem fstep (X : (hd.heap_39 w.params).In h₀) (T : Top p loose mean mg mb h₀) (hr : dp + 20 < recursionLimit) (hS : StrsAre rv rows) (hn : rows.length ≤ 64) (hL : ∀ r ∈ rows, r.length ≤ 64) {Q : Flow → Shared → Prop}
    (i : Nat) (v : Value) (m₁ : Str → Option Value) (news₁ : List (Addr × Obj)) (h : Heap) (tk : Nat) (I : Addr) (oI : Obj) (hi : rv.toArray[i]? = some v) (J : FJ rows fl i m₁ news₁) (hne : ∀ p ∈ news₁, p.1 ≠ I) (F : Fr h₀ L h (fun y => if y = Str.ofString "row" then some v else m₁ y)) (N : News h₀ L h ((I, oI) :: news₁)) :
    wpAny (model prog w) (ar dp un fr gd) (execs fullFor (fullEnv L)) (Turned h₀ L s I oI (FJ rows fl (i + 1)) Q) (fun _ _ => False) { s with heap := h, toks := tk } := by
  obtain ⟨vs, n, tl, q2, K, htl, rfl⟩ := J
  obtain ⟨row, hrow, t, rfl⟩ := strs_at hS i v hi
  have hlen := K.len
  have hl2 := fullRows_len (rows.take i)
  have hl3 : (rows.take i).length ≤ rows.length := by rw [List.length_take]; omega
  have hI : fl ≠ I := hne _ (.head _)
  have q2' : (fun y => if y = Str.ofString "row" then some (Value.str row t) else m₁ y) (Str.ofString "full") = some (.ref fl) := by
    show (if _ then _ else _) = _
    rw [if_neg (by decide)]; exact q2
  have et : rows.take (i + 1) = rows.take i ++ [row] := by rw [List.take_add_one, hrow]; rfl
  refine wpAny_mono (ft (tl := (I, oI) :: tl) (n := n) (vs := vs) X T hr F (hL row (List.mem_of_getElem? hrow)) (if_pos rfl) q2' (by omega) (List.forall_mem_cons.mpr ⟨Ne.symm hI, htl⟩) (newsSub N ?_)) (fun f s₂ hq => ?_) fun _ _ e => e
  · intro q hq
    simp only [List.mem_cons] at hq ⊢
    rcases hq with h | h | h <;> simp only [h, true_or, or_true]
  · obtain ⟨rfl, h', tk', m', news', rfl, F', N', q3, ⟨hf, D, t1, t2, hD, hD2, rfl⟩ | ⟨hf, rfl⟩⟩ := hq
    · refine .inl ⟨rfl, h', tk', m', (fl, W.listOf (vs ++ [Value.ref D]).toArray (n + 1)) :: (D, pairObj (hdr row) row t1 t2) :: tl, rfl, F', newsSub N' ?_, ?_, _, _, _, q3, ?_, List.forall_mem_cons.mpr ⟨hD, htl⟩, rfl⟩
      · intro q hq
        simp only [List.mem_cons] at hq ⊢
        rcases hq with h | h | h | h <;> simp only [h, true_or, or_true]
      · exact List.forall_mem_cons.mpr ⟨hI, List.forall_mem_cons.mpr ⟨fun e => hD2 _ (.head _) e.symm, fun p hp => hne p (.tail _ hp)⟩⟩
      · rw [et, fullRows_snoc, hf, if_pos rfl]
        refine (K.imp fun x v hx => ?_).snoc ⟨D, t1, t2, rfl, .head _⟩
        obtain ⟨a, j1, j2, e1, e2⟩ := hx
        exact ⟨a, j1, j2, e1, .tail _ e2⟩
    · refine .inl ⟨rfl, h', tk', m', (fl, W.listOf vs.toArray n) :: tl, rfl, F', newsSub N' ?_, hne, _, _, _, q3, ?_, htl, rfl⟩
      · intro q hq
        simp only [List.mem_cons] at hq ⊢
        rcases hq with h | h | h <;> simp only [h, true_or, or_true]
      · rw [et, fullRows_snoc, hf, if_neg (by decide), List.append_nil]; exact K
set_option maxHeartbeats 4000000 in
theorem fs0 (X : (hd.heap_39 w.params).In h₀) (T : Top p loose mean mg mb h₀) (F : Fr h₀ L h m) (q1 : m (Str.ofString "rows") = some (.ref rl)) (N : News h₀ L h []) :
    wpAny (model prog w) (ar dp un fr gd) (exec (fullAt 0) (fullEnv L)) (St h₀ L s (fun m' news' => m' (Str.ofString "rows") = some (.ref rl) ∧ ∃ fl, FJ rows fl 0 m' news')) (fun _ _ => False) { s with heap := h, toks := tk } := by
  dsimp only [fullAt, fullBody, fullFn, fullEnv, fnBody, fnScope, PySem.Challenge.pw_dm0163_02, List.getElem?_cons_succ, List.getElem?_cons_zero, Option.getD_some]
  refine id ?_
  walk_at "my steps"
  all_goals (try k_data)
  with_reducible rename Fr _ _ _ _ => Fn
  with_reducible rename News _ _ _ _ => Nn
  exact stMk Fn Nn _ (fun p hp => hp) ⟨q1, _, [], 0, [], rfl, .nil, fun _ q => (nomatch q), rfl⟩
set_option maxHeartbeats 4000000 in
theorem floop (X : (hd.heap_39 w.params).In h₀) (T : Top p loose mean mg mb h₀) (hr : dp + 20 < recursionLimit) (hl : h₀.IsList rl rv.toArray) (hS : StrsAre rv rows) (hn : rows.length ≤ 64) (hL : ∀ r ∈ rows, r.length ≤ 64) (F : Fr h₀ L h m) (q1 : m (Str.ofString "rows") = some (.ref rl)) {news : List (Addr × Obj)} (J : FJ rows fl 0 m news) (N : News h₀ L h news) :
    wpAny (model prog w) (ar dp un fr gd) (exec (fullAt 1) (fullEnv L)) (St h₀ L s (FJ rows fl rows.length)) (fun _ _ => False) { s with heap := h, toks := tk } := by
  have hst := fun i v m₁ news₁ h tk I oI => fstep (prog := prog) (un := un) (L := L) (s := { s with heap := h, toks := tk }) (fl := fl) (Q := St h₀ L s (FJ rows fl rows.length)) (fr := fr) (gd := gd) X T hr hS hn hL i v m₁ news₁ h tk I oI
  dsimp only [fullAt, fullFor, fullBody, fullFn, fullEnv, fnBody, fnScope, forBody', PySem.Challenge.pw_dm0163_02, List.getElem?_cons_succ, List.getElem?_cons_zero, Option.getD_some] at hst ⊢
  refine' For_lstN (h₀ := h₀) rfl rfl rfl rv.toArray (FJ rows fl) ?it ?st ?fin
  case it =>
    refine id ?_
    walk_at "my steps"
    all_goals (try k_data)
    exact ⟨rl, m, news, _, _, rfl, rfl, .inl hl, F, N, J, fun _ _ _ _ => .inl hl⟩
  case st => exact hst
  case fin =>
    intro h' tk' m' news' F' N' hJ
    rw [List.size_toArray, hS.length] at hJ
    exact ⟨rfl, h', tk', m', news', rfl, F', N', hJ⟩
set_option maxHeartbeats 4000000 in
theorem full_call {Q E : Value → Shared → Prop} (X : (hd.heap_39 w.params).In s.heap) (T : Top p loose mean mg mb s.heap) (hr : dp + 40 < recursionLimit) (hl : s.heap.IsList rl rv.toArray) (hS : StrsAre rv rows) (hn : rows.length ≤ 64) (hL : ∀ r ∈ rows, r.length ≤ 64)
    (h : ∀ h' tk' D vs nn objs, Ext s.heap h' → (∀ p ∈ objs, h'.get? p.1 = some p.2 ∧ s.heap.get? p.1 = none) → (D, W.listOf vs.toArray nn) ∈ objs → All2 (PairAt objs) (fullRows rows) vs → Q (.ref D) { s with heap := h', toks := tk' }) :
    wpAny (model prog w) (ar dp un fr gd) (call (.ref 127) [.ref rl]) Q E s := by
  walk_at "my enter"
  show wpAny _ _ (execs fullBody (fullEnv L)) _ _ _
  rw [fullBody_eq]
  refine cutS (s := s) _ (fs0 (rows := rows) (rl := rl) X T F rfl N) ?_
  rintro h2 tk2 m2 _ F2 N2 ⟨q1, fl, J⟩
  refine cutS (s := s) _ (floop X T (by omega) hl hS hn hL F2 q1 J N2) ?_
  rintro h3 tk3 m3 _ F3 N3 ⟨vs, n, tl, q2, K, htl, rfl⟩
  rw [List.take_length] at K
  have fin := fun tk' => h h3 tk' fl vs n _ F3.keep (fun p hp => ⟨(N3 p hp).1, (N3 p hp).2.2⟩) (.head _) (K.imp fun x v hx => by
    obtain ⟨a, j1, j2, e1, e2⟩ := hx
    exact ⟨a, j1, j2, e1, .tail _ e2⟩)
  dsimp only [fullAt, fullBody, fullFn, fullEnv, fnBody, fnScope, PySem.Challenge.pw_dm0163_02, List.getElem?_cons_succ, List.getElem?_cons_zero, Option.getD_some]
  refine id ?_
  walk_at "my steps"
  all_goals (try k_data)
  exact fin _
end

-- part Cn_2
section
variable {prog : Program} {w : World} {A : Around} {E : Value → Shared → Prop} {R : Result → Shared → Prop} {s : Shared}
/-- a list comprehension of two clauses without tests -/
abbrev comp2 (elt t1 i1 t2 i2 : Expr) (scope : Scope) (pos : Pos) : Expr := .ListComp elt [⟨t1, i1, [], 0⟩, ⟨t2, i2, [], 0⟩] scope pos
theorem compTurn_out (elt t1 i1 t2 i2 : Expr) (scope : Scope) (pos : Pos) (it acc : Value) (env : Env) :
    compTurn (comp2 elt t1 i1 t2 i2 scope pos) 0 it acc env = (standAt i1.pos >>= fun _ => pyNext it >>= fun r => match r with
      | none => pure (.done .next)
      | some v => letOwnedTupleGo t1 it v >>= fun _ => assign t1 env v >>= fun _ =>
        eval i2 env >>= fun x => standAt i2.pos >>= fun _ => foldedSetIterable i2 env x >>= fun x => holding [x] (pyIter x) >>= fun i => runOwn (.compStart (comp2 elt t1 i1 t2 i2 scope pos) 1 i acc env) env >>= fun _ =>
          again (.compLoop (comp2 elt t1 i1 t2 i2 scope pos) 0 it acc env)) := by rfl
theorem compTurn_in (elt t1 i1 t2 i2 : Expr) (scope : Scope) (pos : Pos) (it acc : Value) (env : Env) :
    compTurn (comp2 elt t1 i1 t2 i2 scope pos) 1 it acc env = (standAt i2.pos >>= fun _ => pyNext it >>= fun r => match r with
      | none => pure (.done .next)
      | some v => letOwnedTupleGo t2 it v >>= fun _ => assign t2 env v >>= fun _ =>
        (eval elt env >>= fun x => call (.builtin "list.append") [acc, x] >>= fun _ => pure ()) >>= fun _ =>
          again (.compLoop (comp2 elt t1 i1 t2 i2 scope pos) 1 it acc env)) := by rfl
variable {elt t1 i1 t2 i2 : Expr} {scope : Scope} {pos : Pos} {it acc : Value} {env : Env}
theorem codeAny_loop_in (I : Nat → Shared → Prop)
    (turn : ∀ n s, I n s → wpAny (model prog w) A (pyNext it) (fun r s₁ => match r with
      | none => R (.ok .next) s₁
      | some v => wpAny (model prog w) A (assign t2 env v) (fun _ s₂ => wpAny (model prog w) A (eval elt env) (fun x s₃ =>
          wpAny (model prog w) A (call (.builtin "list.append") [acc, x]) (fun _ s₄ => ∃ m, m < n ∧ I m s₄) (fun _ _ => False) s₃) (fun _ _ => False) s₂) (fun _ _ => False) s₁) (fun _ _ => False) s)
    (n : Nat) (h : I n s) (ht : ∀ v, letOwnedTupleGo t2 it v = pure () := by intro _; rfl) :
    codeAny (model prog w) A (.compLoop (comp2 elt t1 i1 t2 i2 scope pos) 1 it acc env) R s := by
  refine codeAny_loop rfl I (fun n s hI => ?_) n h
  show wpAny _ A ((compTurn (comp2 elt t1 i1 t2 i2 scope pos) 1 it acc env).onRaise (fun x => do noteFrame x env; theTreesLotGoes x)) _ _ s
  refine wpAny_noted ?_
  rw [compTurn_in]
  refine wpAny_bind (wpAny_standAt (wpAny_bind (wpAny_mono (turn n s hI) (fun r s₁ h₁ => ?_) fun _ _ h' => h'.elim)))
  cases r with
  | none => exact wpAny_pure h₁
  | some v =>
    refine wpAny_bind (wpAny_of_eq (ht v) ?_)
    refine wpAny_bind (wpAny_mono h₁ (fun _ s₂ h₂ => ?_) fun _ _ h' => h'.elim)
    exact wpAny_bind (wpAny_bind (wpAny_mono h₂ (fun x s₃ h₃ => wpAny_bind (wpAny_mono h₃ (fun _ s₄ h₄ => wpAny_pure (wpAny_pure ⟨rfl, h₄⟩)) fun _ _ h' => h'.elim)) fun _ _ h' => h'.elim))
theorem codeAny_start_in
    (h0 : codeAny (model prog w) A (.compLoop (comp2 elt t1 i1 t2 i2 scope pos) 1 it acc env) R s)
    (h : wpAny (model prog w) A (pyIter it) (fun it' s' => codeAny (model prog w) A (.compLoop (comp2 elt t1 i1 t2 i2 scope pos) 1 it' acc env) R s') (fun _ _ => False) s) :
    codeAny (model prog w) A (.compStart (comp2 elt t1 i1 t2 i2 scope pos) 1 it acc env) R s := by
  refine codeAny_of_tree ?_
  show wpAny _ _ ((compStart (comp2 elt t1 i1 t2 i2 scope pos) 1 it acc env).onRaise (fun x => do noteFrame x env; standAt theWindowsPlace)) _ _ s
  refine wpAny_notedAt ?_
  unfold compStart
  show wpAny _ _ (ask >>= _) _ _ s
  refine wpAny_bind (wpAny_askSetting (wpAny_ite ?_))
  split
  · first
      | exact wpAny_bind (wpAny_pure (wpAny_pure (And.intro rfl h0)))
      | exact wpAny_pure (And.intro rfl h0)
  · refine wpAny_bind (wpAny_rule ?_)
    show wpAny _ _ (standAt i2.pos >>= _) _ _ s
    exact wpAny_bind (wpAny_standAt (wpAny_bind (wpAny_mono h (fun it' s' h' => wpAny_pure (And.intro rfl h')) fun _ _ x => x.elim)))
theorem codeAny_loop_out (I : Nat → Shared → Prop) (hh : A.mark none = A)
    (turn : ∀ n s, I n s → wpAny (model prog w) A (pyNext it) (fun r s₁ => match r with
      | none => R (.ok .next) s₁
      | some v => wpAny (model prog w) A (letOwnedTupleGo t1 it v) (fun _ s₁' => wpAny (model prog w) A (assign t1 env v) (fun _ s₂ => wpAny (model prog w) A (eval i2 env) (fun x s₃ => wpAny (model prog w) A (pyIter x) (fun j s₄ =>
          codeAny (model prog w) A (.compStart (comp2 elt t1 i1 t2 i2 scope pos) 1 j acc env) (fun r s₅ => r = .ok .next ∧ ∃ m, m < n ∧ I m s₅) s₄) (fun _ _ => False) s₃) (fun _ _ => False) s₂) (fun _ _ => False) s₁') (fun _ _ => False) s₁) (fun _ _ => False) s)
    (n : Nat) (h : I n s) (hs : ∀ x, foldedSetIterable i2 env x = pure x := by intro _; rfl) :
    codeAny (model prog w) A (.compLoop (comp2 elt t1 i1 t2 i2 scope pos) 0 it acc env) R s := by
  refine codeAny_loop rfl I (fun n s hI => ?_) n h
  show wpAny _ A ((compTurn (comp2 elt t1 i1 t2 i2 scope pos) 0 it acc env).onRaise (fun x => do noteFrame x env; theTreesLotGoes x)) _ _ s
  refine wpAny_noted ?_
  rw [compTurn_out]
  refine wpAny_bind (wpAny_standAt (wpAny_bind (wpAny_mono (turn n s hI) (fun r s₁ h₁ => ?_) fun _ _ h' => h'.elim)))
  cases r with
  | none => exact wpAny_pure h₁
  | some v =>
    refine wpAny_bind (wpAny_mono h₁ (fun _ s₁' h₁' => ?_) fun _ _ h' => h'.elim)
    refine wpAny_bind (wpAny_mono h₁' (fun _ s₂ h₂ => ?_) fun _ _ h' => h'.elim)
    refine wpAny_bind (wpAny_mono h₂ (fun x s₃ h₃ => ?_) fun _ _ h' => h'.elim)
    refine wpAny_bind (wpAny_standAt (wpAny_bind (wpAny_of_eq (hs x) (wpAny_bind (wpAny_holding (wpAny_mono h₃ (fun j s₄ h₄ => ?_) fun _ _ h' => h'.elim))))))
    refine wpAny_bind (wpAny_runOwn ?_)
    rw [hh]
    refine codeAny_mono h₄ fun r s₅ h₅ => ?_
    obtain ⟨rfl, hm⟩ := h₅
    exact wpAny_pure ⟨rfl, hm⟩
end

-- part Cm_2
section
variable {prog : Program} {w : World} {A : Around} {s : Shared} {h₀ : Heap} {L : Addr} {m : Str → Option Value} {env : Env} {elt t1 i1 i2 : Expr} {r : Str} {pr : Pos} {scope : Scope} {cl : List (Str × Addr)} {pos : Pos} {α β : Type}
/-- an inner list is made -/
def SplitEnd (h₀ : Heap) (L : Addr) (m : Str → Option Value) (s : Shared) (h : Heap) (led : List (Addr × Obj)) (rel2 : β → Value → Prop) (bs : List β) (y : Value) (s₂ : Shared) : Prop :=
  ∃ h' tk' b vs nn, s₂ = { s with heap := h', toks := tk' } ∧ Fr h₀ L h' m ∧ News h₀ L h' led ∧ h'.get? b = some (W.listOf vs.toArray nn) ∧ h.get? b = none ∧ y = .ref b ∧ All2 rel2 bs vs
def ObjRel (objs : List (Addr × Obj)) (obj : β → Obj → Prop) (b : β) (y : Value) : Prop := ∃ ai oi, y = .ref ai ∧ (ai, oi) ∈ objs ∧ obj b oi
/-- behind the inner loop -/
def InEnd (h₀ : Heap) (L : Addr) (m : Str → Option Value) (s : Shared) (C D : Addr) (pre : List (Addr × Obj)) (ys : List Value) (rest : List (Addr × Obj)) (obj : β → Obj → Prop) (bs : List β) (s₅ : Shared) : Prop :=
  ∃ h' tk' zs objs m', s₅ = { s with heap := h', toks := tk' } ∧ Fr h₀ L h' m ∧ h'.Ns C m' ∧ News h₀ L h' (pre ++ (D, LCg.lst (ys ++ zs)) :: (objs ++ rest)) ∧ (∀ p ∈ objs, p.1 ≠ D ∧ p.1 ≠ C ∧ ∀ q ∈ pre, p.1 ≠ q.1) ∧ All2 (ObjRel objs obj) bs zs
theorem inner_loop {C D J b : Addr} {n3 : Str} {w3 : Value} {pre rest : List (Addr × Obj)} {ys vs : List Value} {nn : Nat} {bs : List β} {rel2 : β → Value → Prop} {obj : β → Obj → Prop} {h : Heap} {tk : Nat} {m₂ : Str → Option Value}
    (hh : A.handled = none) (hkind : scope.kind = .function) (hr : scope.names.lookup r = some .local) (hn3 : n3 ≠ r)
    (F : Fr h₀ L h m) (NC : h.Ns C m₂) (e3 : m₂ n3 = some w3) (N : News h₀ L h (pre ++ (D, LCg.lst ys) :: rest))
    (C0 : h₀.get? C = none) (CL : C ≠ L) (J0 : h₀.get? J = none) (JL : J ≠ L) (b0 : h₀.get? b = none) (bL : b ≠ L)
    (CD : C ≠ D) (CJ : C ≠ J) (Cb : C ≠ b) (DJ : D ≠ J) (Db : D ≠ b) (Jb : J ≠ b)
    (ap : ∀ p ∈ pre, p.1 ≠ D ∧ p.1 ≠ C ∧ p.1 ≠ J ∧ p.1 ≠ b) (ar' : ∀ p ∈ rest, p.1 ≠ D ∧ p.1 ≠ C ∧ p.1 ≠ J ∧ p.1 ≠ b)
    (hit : h.IsListIter J b 0) (hb : h.get? b = some (W.listOf vs.toArray nn)) (hvs : All2 rel2 bs vs) (hsz : ys.length + vs.length ≤ 100000)
    (hpair : ∀ x vb oC m₃ h tk led, x ∈ bs → rel2 x vb → LCg.NsObj oC m₃ → m₃ n3 = some w3 → m₃ r = some vb → Fr h₀ L h m → News h₀ L h ((C, oC) :: led) →
      wpAny (model prog w) A (eval elt (compEnvC scope cl C env)) (TurnObj h₀ L m s h ((C, oC) :: led) (obj x)) (fun _ _ => False) { s with heap := h, toks := tk }) :
    codeAny (model prog w) A (.compLoop (comp2 elt t1 i1 (.Name r pr) i2 scope pos) 1 (.ref J) (.ref D) (compEnvC scope cl C env)) (fun res s₅ => res = .ok .next ∧ InEnd h₀ L m s C D pre ys rest obj bs s₅) { s with heap := h, toks := tk } := by
  have lenbs := hvs.len
  have WW : Walks prog w A J _ [J] vs.toArray.size _ _ := Walks.list hh J b (Ne.symm Jb) vs.toArray
  refine codeAny_loop_in
    (fun k s' => ∃ h' tk' j zs objs m', s' = { s with heap := h', toks := tk' } ∧ j ≤ vs.length ∧ k = vs.length + 1 - j ∧ (h'.IsListIter J b j ∧ h'.IsList b vs.toArray) ∧ h'.get? b = some (W.listOf vs.toArray nn) ∧ Fr h₀ L h' m ∧ h'.Ns C m' ∧ m' n3 = some w3 ∧
      News h₀ L h' (pre ++ (D, LCg.lst (ys ++ zs)) :: (objs ++ rest)) ∧ (∀ p ∈ objs, p.1 ≠ D ∧ p.1 ≠ C ∧ p.1 ≠ J ∧ p.1 ≠ b ∧ ∀ q ∈ pre, p.1 ≠ q.1) ∧ All2 (ObjRel objs obj) (bs.take j) zs) ?_ (vs.length + 1)
    ⟨h, tk, 0, [], [], m₂, rfl, Nat.zero_le _, rfl, ⟨hit, ⟨_, hb, rfl, _, rfl⟩⟩, hb, F, NC, e3, by rw [List.append_nil]; exact N, fun p hp => (nomatch hp), by rw [List.take_zero]; exact .nil⟩
  rintro k s' ⟨h', tk', j, zs, objs, m', rfl, hj, rfl, hst, hb', F', NC', e3', N', aobj, hz⟩
  have zlen : zs.length = j := by rw [hz.len, List.length_take]; omega
  by_cases hlt : j < vs.length
  · refine WW.item j _ _ _ (by rw [List.size_toArray]; exact hlt) hst fun v h₁ tk₁ hPv hst₁ hk₁ => ?_
    have keep1 : ∀ a o, a ≠ J → h'.get? a = some o → h₁.get? a = some o := fun a o ha e => hk₁ a o (by simpa using ha) e
    have F₁ := LCg.fr_but F' hk₁ (Ne.symm JL) J0
    refine wpAny_assign_Name (wpAny_storeName_local (lookup_relabel_local hr) (NC'.at' fun o e => keep1 C o CJ e) (fun h₂ hn₂ hs₂ => ?_) (by simp [compEnvC, relabel, hkind]))
    have keep2 : ∀ a o, a ≠ J → a ≠ C → h'.get? a = some o → h₂.get? a = some o := fun a o ha hc e => hs₂.extBut a o hc (keep1 a o ha e)
    have F₂ : Fr h₀ L h₂ m := F₁.change hs₂ CL C0
    obtain ⟨oC, heC, hoC⟩ := LCg.ns_obj hn₂
    obtain ⟨oJ, heJ, hoJ⟩ := hst₁.1
    have heJ2 : h₂.get? J = some oJ := hs₂.extBut J oJ (Ne.symm CJ) heJ
    have heb2 : h₂.get? b = some (W.listOf vs.toArray nn) := keep2 b _ (Ne.symm Jb) (Ne.symm Cb) hb'
    have Nrest : ∀ p ∈ pre ++ (D, LCg.lst (ys ++ zs)) :: (objs ++ rest), p.1 ≠ J ∧ p.1 ≠ C ∧ p.1 ≠ b := fun p hp => by
      rcases List.mem_append.mp hp with hp | hp
      · exact ⟨(ap p hp).2.2.1, (ap p hp).2.1, (ap p hp).2.2.2⟩
      · rcases List.mem_cons.mp hp with rfl | hp
        · exact ⟨DJ, Ne.symm CD, Db⟩
        · rcases List.mem_append.mp hp with hp | hp
          · exact ⟨(aobj p hp).2.2.1, (aobj p hp).2.1, (aobj p hp).2.2.2.1⟩
          · exact ⟨(ar' p hp).2.2.1, (ar' p hp).2.1, (ar' p hp).2.2.2⟩
    have N₂ : News h₀ L h₂ ((C, oC) :: (J, oJ) :: (b, W.listOf vs.toArray nn) :: (pre ++ (D, LCg.lst (ys ++ zs)) :: (objs ++ rest))) := fun p hp => by
      rcases List.mem_cons.mp hp with rfl | hp
      · exact ⟨heC, CL, C0⟩
      · rcases List.mem_cons.mp hp with rfl | hp
        · exact ⟨heJ2, JL, J0⟩
        · rcases List.mem_cons.mp hp with rfl | hp
          · exact ⟨heb2, bL, b0⟩
          · exact ⟨keep2 _ _ (Nrest p hp).1 (Nrest p hp).2.1 (N' p hp).1, (N' p hp).2⟩
    have hjb : j < bs.length := by omega
    obtain ⟨vb, hvb, hrel⟩ := hvs.at j bs[j] (List.getElem?_eq_getElem hjb)
    have hv : v = vb := by
      have a : vs.toArray[j]? = some v := hPv
      rw [List.getElem?_toArray, hvb] at a
      injection a with a
      exact a.symm
    subst hv
    refine wpAny_mono (hpair bs[j] v oC _ h₂ _ _ (List.getElem_mem hjb) hrel hoC (by show (if _ then _ else _) = _; rw [if_neg hn3]; exact e3') (if_pos rfl) F₂ N₂) (fun y s₃ h₃ => ?_) fun _ _ e => e
    obtain ⟨h₃, tk₃, ai, oi, rfl, F₃, N₃, hai, hnone, rfl, ho⟩ := h₃
    have zD := (N₃ (D, LCg.lst (ys ++ zs)) (.tail _ (.tail _ (.tail _ (List.mem_append_right _ (.head _)))))).1
    have fresh : ∀ p ∈ (C, oC) :: (J, oJ) :: (b, W.listOf vs.toArray nn) :: (pre ++ (D, LCg.lst (ys ++ zs)) :: (objs ++ rest)), ai ≠ p.1 := fun p hp q => by
      have := (N₂ p hp).1
      rw [← q, hnone] at this; cases this
    have aiD : ai ≠ D := fresh (D, LCg.lst (ys ++ zs)) (.tail _ (.tail _ (.tail _ (List.mem_append_right _ (.head _)))))
    have aiC : ai ≠ C := fresh (C, oC) (.head _)
    have aiJ : ai ≠ J := fresh (J, oJ) (.tail _ (.head _))
    have aib : ai ≠ b := fresh (b, _) (.tail _ (.tail _ (.head _)))
    have D0 := (N₃ (D, LCg.lst (ys ++ zs)) (.tail _ (.tail _ (.tail _ (List.mem_append_right _ (.head _)))))).2
    refine append_at (its := (ys ++ zs).toArray) (n := (ys ++ zs).length) zD (fun h₄ hs₄ hD₄ => ?_) (by rw [List.size_toArray, List.length_append, show sizeLine = 16777216 from rfl]; omega)
    have keep4 : ∀ a o, a ≠ D → h₃.get? a = some o → h₄.get? a = some o := fun a o ha e => hs₄.extBut a o ha e
    have nai := newsAdd F₂ N₃ hnone hai
    refine ⟨vs.length + 1 - (j + 1), by omega, h₄, tk₃, j + 1, zs ++ [.ref ai], (ai, oi) :: objs, _, rfl, hlt, rfl, ⟨⟨oJ, keep4 J oJ (Ne.symm DJ) (N₃ (J, oJ) (.tail _ (.head _))).1, hoJ⟩, ⟨_, keep4 b _ (Ne.symm Db) (N₃ (b, _) (.tail _ (.tail _ (.head _)))).1, rfl, _, rfl⟩⟩, keep4 b _ (Ne.symm Db) (N₃ (b, _) (.tail _ (.tail _ (.head _)))).1, F₃.change hs₄ D0.1 D0.2, (hoC.ns (N₃ (C, oC) (.head _)).1).sameBut hs₄ CD, by show (if _ then _ else _) = _; rw [if_neg hn3]; exact e3', ?_, ?_, ?_⟩
    · intro p hp
      rcases List.mem_append.mp hp with hp | hp
      · have z := N₃ p (.tail _ (.tail _ (.tail _ (List.mem_append_left _ hp))))
        exact ⟨keep4 _ _ (ap p hp).1 z.1, z.2⟩
      · rcases List.mem_cons.mp hp with rfl | hp
        · refine ⟨?_, D0⟩
          rw [← List.append_assoc]
          exact hD₄.trans (congrArg some (LCg.lst_snoc (ys ++ zs) (.ref ai)))
        · rcases List.mem_append.mp hp with hp | hp
          · rcases List.mem_cons.mp hp with rfl | hp
            · have z := nai (ai, oi) (.head _)
              exact ⟨keep4 _ _ aiD z.1, z.2⟩
            · have z := N₃ p (.tail _ (.tail _ (.tail _ (List.mem_append_right _ (.tail _ (List.mem_append_left _ hp))))))
              exact ⟨keep4 _ _ (aobj p hp).1 z.1, z.2⟩
          · have z := N₃ p (.tail _ (.tail _ (.tail _ (List.mem_append_right _ (.tail _ (List.mem_append_right _ hp))))))
            exact ⟨keep4 _ _ (ar' p hp).1 z.1, z.2⟩
    · refine List.forall_mem_cons.mpr ⟨⟨aiD, aiC, aiJ, aib, fun q hq => fresh q (.tail _ (.tail _ (.tail _ (List.mem_append_left _ hq))))⟩, aobj⟩
    · rw [List.take_add_one, List.getElem?_eq_getElem hjb]
      refine (hz.imp fun x y hx => ?_).snoc ⟨ai, oi, rfl, .head _, ho⟩
      obtain ⟨a1, o1, q1, q2, q3⟩ := hx
      exact ⟨a1, o1, q1, .tail _ q2, q3⟩
  · have hin : j = vs.length := by omega
    subst hin
    refine WW.done _ _ _ (by rw [List.size_toArray]; exact hst) fun h₁ tk₁ hk₁ => ?_
    have keep1 : ∀ a o, a ≠ J → h'.get? a = some o → h₁.get? a = some o := fun a o ha e => hk₁ a o (by simpa using ha) e
    refine ⟨rfl, h₁, tk₁, zs, objs, m', rfl, LCg.fr_but F' hk₁ (Ne.symm JL) J0, NC'.at' fun o e => keep1 C o CJ e, LCg.news_but N' hk₁ (fun p hp => ?_), fun p hp => ⟨(aobj p hp).1, (aobj p hp).2.1, (aobj p hp).2.2.2.2⟩, ?_⟩
    · rcases List.mem_append.mp hp with hp | hp
      · exact (ap p hp).2.2.1
      · rcases List.mem_cons.mp hp with rfl | hp
        · exact DJ
        · rcases List.mem_append.mp hp with hp | hp
          · exact (aobj p hp).2.2.1
          · exact (ar' p hp).2.2.1
    · rw [List.take_of_length_le (by omega)] at hz; exact hz
end

-- part Ck_2
theorem All2.app {α β : Type} {R : α → β → Prop} : ∀ {as : List α} {bs : List β} {cs : List α} {ds : List β}, All2 R as bs → All2 R cs ds → All2 R (as ++ cs) (bs ++ ds)
  | _, _, _, _, .nil, h => h
  | _, _, _, _, .cons x r, h => .cons x (r.app h)
theorem All2.mapL {α β γ : Type} {R : γ → β → Prop} {f : α → γ} : ∀ {as : List α} {bs : List β}, All2 (fun a b => R (f a) b) as bs → All2 R (as.map f) bs
  | _, _, .nil => .nil
  | _, _, .cons x r => .cons x r.mapL
section
variable {prog : Program} {w : World} {A : Around} {E : Value → Shared → Prop} {s : Shared} {h₀ : Heap} {L : Addr} {m : Str → Option Value} {env : Env} {elt i1 i2 : Expr} {n1 n2 n3 n4 r : Str} {p1 p2 p3 p4 pr tp : Pos} {kk : Nat} {scope : Scope} {cl : List (Str × Addr)} {pos : Pos} {α β : Type}
/-- a tuple of four of the ledger -/
def TupRel (news : List (Addr × Obj)) (vals : α → Value → Value → Prop) (a : α) (v : Value) : Prop := ∃ t ot w1 w2 w3 w4 nt, v = .ref t ∧ (t, ot) ∈ news ∧ ot.cls = .type "tuple" ∧ ot.data = .seq #[w1, w2, w3, w4] nt ∧ vals a w3 w4
abbrev tgt4 (n1 n2 n3 n4 : Str) (p1 p2 p3 p4 tp : Pos) (kk : Nat) : Expr := .Tuple [.Name n1 p1, .Name n2 p2, .Name n3 p3, .Name n4 p4] kk tp
theorem block2 {vals : α → Value → Value → Prop} {inner : α → List β} {rel2 : β → Value → Prop} {obj : α → β → Obj → Prop} {xs : List α} {s₂ : Shared} {I ax : Addr} {its : List Value} {nn : Nat} {news : List (Addr × Obj)} {RR : Value → Addr → Result → Shared → Prop}
    (hh : A.handled = none) (hm : A.mark none = A) (hIt : s₂.heap.IsListIter I ax 0) (hax : (ax, W.listOf its.toArray nn) ∈ news) (hxs : All2 (TupRel news vals) xs its)
    (hcell : ∀ y ∈ scope.names, y.2 ≠ .cell) (hkind : scope.kind = .function) (l1 : scope.names.lookup n1 = some .local) (l2 : scope.names.lookup n2 = some .local) (l3 : scope.names.lookup n3 = some .local) (l4 : scope.names.lookup n4 = some .local) (lr : scope.names.lookup r = some .local) (d34 : n3 ≠ n4) (d3r : n3 ≠ r)
    (F : Fr h₀ L s₂.heap m) (N : News h₀ L s₂.heap news) (hIL : L ≠ I) (hI₀ : h₀.get? I = none) (off : ∀ p ∈ news, p.1 ≠ I)
    (hsz : (xs.flatMap (fun a => (inner a).map (fun b => (a, b)))).length ≤ 5000) (hin : ∀ a ∈ xs, (inner a).length ≤ 5000)
    (hsplit : ∀ a w3 w4 C oC m₂ h tk led, a ∈ xs → vals a w3 w4 → LCg.NsObj oC m₂ → m₂ n4 = some w4 → Fr h₀ L h m → News h₀ L h ((C, oC) :: led) →
      wpAny (model prog w) A (eval i2 (compEnvC scope cl C env)) (SplitEnd h₀ L m s₂ h ((C, oC) :: led) rel2 (inner a)) (fun _ _ => False) { s₂ with heap := h, toks := tk })
    (hpair : ∀ a w3 w4 x vb C oC m₃ h tk led, a ∈ xs → vals a w3 w4 → x ∈ inner a → rel2 x vb → LCg.NsObj oC m₃ → m₃ n3 = some w3 → m₃ r = some vb → Fr h₀ L h m → News h₀ L h ((C, oC) :: led) →
      wpAny (model prog w) A (eval elt (compEnvC scope cl C env)) (TurnObj h₀ L m s₂ h ((C, oC) :: led) (obj a x)) (fun _ _ => False) { s₂ with heap := h, toks := tk })
    (hsets : ∀ x C, foldedSetIterable i2 (compEnvC scope cl C env) x = pure x)
    (hRR : ∀ D C h tk m' ys objs, Fr h₀ L h m → News h₀ L h ((D, LCg.lst ys) :: (objs ++ news)) → (∀ p ∈ objs ++ news, p.1 ≠ D ∧ p.1 ≠ C) → h.Ns C m' → h₀.get? C = none → h₀.get? D = none → C ≠ L → D ≠ L → C ≠ D → All2 (ObjRel objs (fun ab => obj ab.1 ab.2)) (xs.flatMap (fun a => (inner a).map (fun b => (a, b)))) ys → RR (.ref D) C (.ok .next) { s₂ with heap := h, toks := tk }) :
    wpAny (model prog w) A (newList []) (fun acc s₃ => wpAny (model prog w) A (newFunctionEnv scope env.globals cl [] env.qual none .none (some env)) (fun cenv s₄ =>
      codeAny (model prog w) A (.compStart (comp2 elt (tgt4 n1 n2 n3 n4 p1 p2 p3 p4 tp kk) i1 (.Name r pr) i2 scope pos) 0 (.ref I) acc { cenv with scope := relabel scope env }) (RR acc cenv.locals) s₄) E s₃) E s₂ := by
  refine wpAny_newObj_type (wpAny_newFunctionEnv hcell (by intro y hy; simp at hy) (fun h₁ hns₁ hsb₁ => ?_) hkind)
  dsimp only at hns₁ hsb₁ ⊢
  generalize hH2 : s₂.heap.push { cls := .type "list", dict := none, data := .seq ([] : List Value).toArray } = H2 at hns₁ hsb₁ ⊢
  have hC : H2.objs.size = s₂.heap.objs.size + 1 := by rw [← hH2, Heap.size_push]
  have hDC : s₂.heap.objs.size ≠ H2.objs.size := by rw [hC]; exact Nat.ne_of_lt (Nat.lt_succ_self _)
  have below : ∀ b, b < s₂.heap.objs.size → b ≠ H2.objs.size ∧ b ≠ s₂.heap.objs.size := fun b hb => ⟨by rw [hC]; exact Nat.ne_of_lt (Nat.lt_succ_of_lt hb), Nat.ne_of_lt hb⟩
  have old : ∀ b o, s₂.heap.get? b = some o → h₁.get? b = some o := fun b o e => hsb₁.extBut b o (below b (Heap.lt_size e)).1 (Heap.get?_push_of_some _ (hH2 ▸ Heap.get?_push_of_some _ e))
  have hacc : h₁.get? s₂.heap.objs.size = some (LCg.lst []) := hsb₁.extBut _ _ hDC (Heap.get?_push_of_some _ (hH2 ▸ Heap.get?_push_size _ rfl))
  have fresh : ∀ a, s₂.heap.objs.size ≤ a → s₂.heap.get? a = none := fun a ha => by
    cases e : s₂.heap.get? a with
    | none => rfl
    | some o' => exact absurd (Heap.lt_size e) (Nat.not_lt.mpr ha)
  have fresh₀ : ∀ a, s₂.heap.objs.size ≤ a → h₀.get? a = none := fun a ha => by
    cases e : h₀.get? a with
    | none => rfl
    | some o' => have := F.keep a o' e; rw [fresh a ha] at this; cases this
  have hD₀ : h₀.get? s₂.heap.objs.size = none := fresh₀ _ (Nat.le_refl _)
  have hC₀ : h₀.get? H2.objs.size = none := fresh₀ _ (by rw [hC]; exact Nat.le_succ _)
  have hLlt : L < s₂.heap.objs.size := F.ns.lt
  have hDL : s₂.heap.objs.size ≠ L := Ne.symm (below L hLlt).2
  have hCL : H2.objs.size ≠ L := Ne.symm (below L hLlt).1
  have hIlt : I < s₂.heap.objs.size := by obtain ⟨o, e, _⟩ := hIt; exact Heap.lt_size e
  have hCI : H2.objs.size ≠ I := Ne.symm (below I hIlt).1
  have hDI : s₂.heap.objs.size ≠ I := Ne.symm (below I hIlt).2
  have hIax : I ≠ ax := Ne.symm (off _ hax)
  have offDC : ∀ p ∈ news, p.1 ≠ s₂.heap.objs.size ∧ p.1 ≠ H2.objs.size := fun p hp => ⟨(below _ (Heap.lt_size (N p hp).1)).2, (below _ (Heap.lt_size (N p hp).1)).1⟩
  generalize s₂.heap.objs.size = D at hDC below hacc hD₀ hDL hDI offDC ⊢
  generalize H2.objs.size = C at hDC below hns₁ hC₀ hCL hCI offDC ⊢
  have WW : Walks prog w A I _ [I] its.toArray.size _ _ := Walks.list hh I ax (Ne.symm hIax) its.toArray
  have lenxs := hxs.len
  have hIt1 : h₁.IsListIter I ax 0 := by obtain ⟨o, e, q⟩ := hIt; exact ⟨o, old _ _ e, q⟩
  have N1 : News h₀ L h₁ ((D, LCg.lst []) :: news) := fun p hp => by
    rcases List.mem_cons.mp hp with rfl | hp
    · exact ⟨hacc, hDL, hD₀⟩
    · exact ⟨old _ _ (N p hp).1, (N p hp).2⟩
  have stL : h₁.IsListIter I ax 0 ∧ h₁.IsList ax its.toArray := ⟨hIt1, ⟨_, (N1 _ (.tail _ hax)).1, rfl, _, rfl⟩⟩
  have loop : codeAny (model prog w) A (.compLoop (comp2 elt (tgt4 n1 n2 n3 n4 p1 p2 p3 p4 tp kk) i1 (.Name r pr) i2 scope pos) 0 (.ref I) (.ref D) (compEnvC scope cl C env)) (RR (.ref D) C) { s₂ with heap := h₁, toks := s₂.toks + ([] : List (Str × Value)).length } := by
    refine codeAny_loop_out (fun k s' => ∃ h' tk' i ys objs m', s' = { s₂ with heap := h', toks := tk' } ∧ i ≤ its.length ∧ k = its.length + 1 - i ∧ h'.IsListIter I ax i ∧ Fr h₀ L h' m ∧ h'.Ns C m' ∧ News h₀ L h' ((D, LCg.lst ys) :: (objs ++ news)) ∧ (∀ p ∈ objs ++ news, p.1 ≠ D ∧ p.1 ≠ C ∧ p.1 ≠ I) ∧ All2 (ObjRel objs (fun ab : α × β => obj ab.1 ab.2)) ((xs.take i).flatMap (fun a => (inner a).map (fun b => (a, b)))) ys) hm ?_ (its.length + 1)
      ⟨h₁, _, 0, [], [], _, rfl, Nat.zero_le _, rfl, hIt1, F.keeps old, hns₁, N1, fun p hp => ⟨(offDC p hp).1, (offDC p hp).2, off p hp⟩, by rw [List.take_zero]; exact .nil⟩ (fun x => hsets x C)
    rintro k s' ⟨h', tk', i, ys, objs, m', rfl, hi, rfl, hit', F', NC', N', ap, hz⟩
    have isl : h'.IsList ax its.toArray := ⟨_, (N' _ (.tail _ (List.mem_append_right _ hax))).1, rfl, _, rfl⟩
    by_cases hlt : i < its.length
    · refine WW.item i _ _ _ (by rw [List.size_toArray]; exact hlt) ⟨hit', isl⟩ fun v h2 tk2 hPv hst2 hk2 => ?_
      have hix : i < xs.length := by omega
      obtain ⟨v', hv', t, ot, w1, w2, w3, w4, nt, e1, hmt, hct, hdt, hvals⟩ := hxs.at i xs[i] (List.getElem?_eq_getElem hix)
      have hv : v = v' := by
        have a : its.toArray[i]? = some v := hPv
        rw [List.getElem?_toArray, hv'] at a
        injection a with a
        exact a.symm
      subst hv
      subst e1
      have hmem := List.getElem_mem hix
      generalize hxa : xs[i] = a at hvals hmem
      have off2 : ∀ p ∈ (D, LCg.lst ys) :: (objs ++ news), p.1 ≠ I := fun p hp => by
        rcases List.mem_cons.mp hp with rfl | hp
        · exact hDI
        · exact (ap p hp).2.2
      have F2 := LCg.fr_but F' hk2 hIL hI₀
      have N2 := LCg.news_but N' hk2 off2
      have ht : IsTup h2 t #[w1, w2, w3, w4] := ⟨ot, (N2 _ (.tail _ (List.mem_append_right _ hmt))).1, hct, nt, hdt⟩
      refine wpAny_letOwnedTupleGo_listiter hst2.1 ?_
      refine assign_Tuple_tuple hh ht rfl rfl fun h5 he => ?_
      have he' : ∀ b o, h2.get? b = some o → h5.get? b = some o := fun b o e => he b o (Nat.ne_of_lt (Heap.lt_size e)) e
      have NC2 : h2.Ns C m' := NC'.at' fun o e => hk2 _ o (by simpa using hCI) e
      refine assignInOrder_cons (wpAny_assign_Name (wpAny_storeName_local (lookup_relabel_local l1) (NC2.at' fun o e => he' _ o e) (fun h6 hn6 hs6 => ?_) (by simp [compEnvC, relabel, hkind])))
      refine assignInOrder_cons (wpAny_assign_Name (wpAny_storeName_local (lookup_relabel_local l2) hn6 (fun h7 hn7 hs7 => ?_) (by simp [compEnvC, relabel, hkind])))
      refine assignInOrder_cons (wpAny_assign_Name (wpAny_storeName_local (lookup_relabel_local l3) hn7 (fun h8 hn8 hs8 => ?_) (by simp [compEnvC, relabel, hkind])))
      refine assignInOrder_cons (wpAny_assign_Name (wpAny_storeName_local (lookup_relabel_local l4) hn8 (fun h9 hn9 hs9 => ?_) (by simp [compEnvC, relabel, hkind])))
      refine assignInOrder_nil ?_
      have F9 : Fr h₀ L h9 m := ((((F2.keeps he').change hs6 hCL hC₀).change hs7 hCL hC₀).change hs8 hCL hC₀).change hs9 hCL hC₀
      have keepC : ∀ b o, b ≠ C → h2.get? b = some o → h9.get? b = some o := fun b o hb e => hs9.extBut b o hb (hs8.extBut b o hb (hs7.extBut b o hb (hs6.extBut b o hb (he' b o e))))
      obtain ⟨oC, heC, hoC⟩ := LCg.ns_obj hn9
      obtain ⟨oI, heI, hoI⟩ := hst2.1
      have heI9 := keepC I oI (Ne.symm hCI) heI
      have N9 : News h₀ L h9 ((C, oC) :: (I, oI) :: (D, LCg.lst ys) :: (objs ++ news)) := fun p hp => by
        rcases List.mem_cons.mp hp with rfl | hp
        · exact ⟨heC, hCL, hC₀⟩
        · rcases List.mem_cons.mp hp with rfl | hp
          · exact ⟨heI9, Ne.symm hIL, hI₀⟩
          · refine ⟨keepC _ _ ?_ (N2 p hp).1, (N2 p hp).2⟩
            rcases List.mem_cons.mp hp with rfl | hp
            · exact hDC
            · exact (ap p hp).2.1
      refine wpAny_mono (hsplit a w3 w4 C oC _ h9 _ _ hmem hvals hoC (if_pos rfl) F9 N9) (fun x s3 h3 => ?_) fun _ _ e => e
      obtain ⟨h3, tk3, b, vs, nb, rfl, F3, N3, hb, hbn, rfl, hvs⟩ := h3
      refine wpAny_pyIter_list ⟨_, hb, rfl, _, rfl⟩ ?_
      have up : ∀ c o, h3.get? c = some o → (h3.push { cls := .type "list_iterator", data := .fields #[.ref b, .int 0 0] }).get? c = some o := fun c o e => Heap.get?_push_of_some _ e
      have bne : ∀ p ∈ (C, oC) :: (I, oI) :: (D, LCg.lst ys) :: (objs ++ news), p.1 ≠ b := fun p hp e => by
        have := (N9 p hp).1
        rw [e, hbn] at this; cases this
      have Jne : ∀ p ∈ (C, oC) :: (I, oI) :: (D, LCg.lst ys) :: (objs ++ news), p.1 ≠ h3.objs.size := fun p hp => Nat.ne_of_lt (Heap.lt_size (N3 p hp).1)
      have b0 : h₀.get? b = none := by
        cases e : h₀.get? b with
        | none => rfl
        | some o' => have := F9.keep b o' e; rw [hbn] at this; cases this
      have bL : b ≠ L := fun e => by
        obtain ⟨oL, _, _, hL, _⟩ := F9.ns
        rw [← e, hbn] at hL; cases hL
      have bJ : b ≠ h3.objs.size := Nat.ne_of_lt (Heap.lt_size hb)
      have J0 : h₀.get? h3.objs.size = none := next_is_new F3
      have JL : h3.objs.size ≠ L := Ne.symm (Nat.ne_of_lt F3.ns.lt)
      have hitJ : (h3.push { cls := .type "list_iterator", data := .fields #[.ref b, .int 0 0] }).IsListIter h3.objs.size b 0 := ⟨_, Heap.get?_push_size _ rfl, rfl, rfl⟩
      have ylen : ys.length ≤ 5000 := by
        rw [hz.len]
        refine Nat.le_trans ?_ hsz
        have := congrArg (fun l => (l.flatMap (fun a => (inner a).map (fun b => (a, b)))).length) (List.take_append_drop i xs)
        simp only [List.flatMap_append, List.length_append] at this
        omega
      have vlen : vs.length ≤ 5000 := by rw [hvs.len]; exact hin a hmem
      have inL := inner_loop (prog := prog) (w := w) (A := A) (s := s₂) (elt := elt) (t1 := tgt4 n1 n2 n3 n4 p1 p2 p3 p4 tp kk) (i1 := i1) (i2 := i2) (pr := pr) (pos := pos) (env := env) (cl := cl) (scope := scope) (r := r) (C := C) (D := D) (J := h3.objs.size) (b := b) (n3 := n3) (w3 := w3) (pre := [(I, oI)]) (rest := objs ++ news) (ys := ys) (vs := vs) (nn := nb) (bs := inner a) (rel2 := rel2) (obj := obj a) (tk := tk3) hh hkind lr d3r (F3.keeps up) ((hoC.ns (N3 (C, oC) (.head _)).1).at' fun o e => up _ o e) (by show (if _ then _ else if _ then _ else _) = _; rw [if_neg d34, if_pos rfl]) (fun p hp => ⟨up _ _ (N3 p (.tail _ hp)).1, (N3 p (.tail _ hp)).2⟩)
        hC₀ hCL J0 JL b0 bL (Ne.symm hDC) (Jne (C, oC) (.head _)) (bne (C, oC) (.head _)) (Jne (D, LCg.lst ys) (.tail _ (.tail _ (.head _)))) (bne (D, LCg.lst ys) (.tail _ (.tail _ (.head _)))) (Ne.symm bJ)
        (fun p hp => by rw [List.mem_singleton.mp hp]; exact ⟨Ne.symm hDI, Ne.symm hCI, Jne (I, oI) (.tail _ (.head _)), bne (I, oI) (.tail _ (.head _))⟩) (fun p hp => ⟨(ap p hp).1, (ap p hp).2.1, Jne p (.tail _ (.tail _ (.tail _ hp))), bne p (.tail _ (.tail _ (.tail _ hp)))⟩)
        hitJ (up _ _ hb) hvs (by omega) (fun x vb oC m₃ h tk led hx hrel hns e3 er F N => hpair a w3 w4 x vb C oC m₃ h tk led hmem hvals hx hrel hns e3 er F N)
      have WJ : Walks prog w A h3.objs.size _ [h3.objs.size] vs.toArray.size _ _ := Walks.list hh h3.objs.size b bJ vs.toArray
      refine codeAny_mono (codeAny_start_in inL (WJ.self 0 _ _ _ ⟨hitJ, ⟨_, up _ _ hb, rfl, _, rfl⟩⟩ inL)) fun res s5 h5' => ?_
      obtain ⟨rfl, h6', tk6, zs, objs2, m6, rfl, F6, NC6, N6, ao, hz2⟩ := h5'
      refine ⟨rfl, its.length + 1 - (i + 1), by omega, h6', tk6, i + 1, ys ++ zs, objs2 ++ objs, m6, rfl, hlt, rfl, ⟨oI, (N6 (I, oI) (.head _)).1, hoI⟩, F6, NC6, ?_, ?_, ?_⟩
      · rw [List.append_assoc]
        exact fun p hp => N6 p (.tail _ hp)
      · rw [List.append_assoc]
        intro p hp
        rcases List.mem_append.mp hp with hp | hp
        · exact ⟨(ao p hp).1, (ao p hp).2.1, (ao p hp).2.2 (I, oI) (.head _)⟩
        · exact ap p hp
      · rw [List.take_add_one, List.getElem?_eq_getElem hix, hxa, List.flatMap_append]
        refine (hz.imp fun x y hx => ?_).app ?_
        · obtain ⟨ai, oi, q1, q2, q3⟩ := hx
          exact ⟨ai, oi, q1, List.mem_append_right _ q2, q3⟩
        · have e : ([a] : List α).flatMap (fun a => (inner a).map (fun b => (a, b))) = (inner a).map (fun b => (a, b)) := by simp
          show All2 _ (([a] : List α).flatMap (fun a => (inner a).map (fun b => (a, b)))) zs
          rw [e]
          refine All2.mapL (hz2.imp fun x y hx => ?_)
          obtain ⟨ai, oi, q1, q2, q3⟩ := hx
          exact ⟨ai, oi, q1, List.mem_append_left _ q2, q3⟩
    · have hin' : i = its.length := by omega
      subst hin'
      refine WW.done _ _ _ (by rw [List.size_toArray]; exact ⟨hit', isl⟩) fun h2 tk2 hk2 => ?_
      have off2 : ∀ p ∈ (D, LCg.lst ys) :: (objs ++ news), p.1 ≠ I := fun p hp => by
        rcases List.mem_cons.mp hp with rfl | hp
        · exact hDI
        · exact (ap p hp).2.2
      rw [List.take_of_length_le (by omega)] at hz
      exact hRR D C h2 tk2 m' ys objs (LCg.fr_but F' hk2 hIL hI₀) (LCg.news_but N' hk2 off2) (fun p hp => ⟨(ap p hp).1, (ap p hp).2.1⟩) (NC'.at' fun o e => hk2 _ o (by simpa using hCI) e) hC₀ hD₀ hCL hDL (Ne.symm hDC) hz
  exact codeAny_compStart_list loop (WW.self 0 _ _ _ stL loop)
/-- the outer list is there -/
def Src2 (h₀ : Heap) (L : Addr) (m : Str → Option Value) (s : Shared) (vals : α → Value → Value → Prop) (xs : List α) (news : List (Addr × Obj)) (xv : Value) (s₁ : Shared) : Prop :=
  ∃ ax its nn h tk, xv = .ref ax ∧ s₁ = { s with heap := h, toks := tk } ∧ Fr h₀ L h m ∧ News h₀ L h news ∧ (ax, W.listOf its.toArray nn) ∈ news ∧ All2 (TupRel news vals) xs its
theorem Assign_comp2 {y : Str} {py spos : Pos} {Q : Flow → Shared → Prop} {vals : α → Value → Value → Prop} {inner : α → List β} {rel2 : β → Value → Prop} {obj : α → β → Obj → Prop} {xs : List α} {news : List (Addr × Obj)} (F₀ : Fr h₀ L s.heap m) (hLe : env.locals = L)
    (hsw : swapsWith (comp2 elt (tgt4 n1 n2 n3 n4 p1 p2 p3 p4 tp kk) i1 (.Name r pr) i2 scope pos) (some (.Name y py)) spos.line env = pure true)
    (hh : A.handled = none) (hm : A.mark none = A) (hclos : closureFor scope env = pure cl) (hcell : ∀ z ∈ scope.names, z.2 ≠ .cell) (hkind : scope.kind = .function)
    (hnames : ∀ z ∈ scope.names, z.2 = .local → scope.names.lookup z.1 = some .local) (l1 : scope.names.lookup n1 = some .local) (l2 : scope.names.lookup n2 = some .local) (l3 : scope.names.lookup n3 = some .local) (l4 : scope.names.lookup n4 = some .local) (lr : scope.names.lookup r = some .local) (d34 : n3 ≠ n4) (d3r : n3 ≠ r)
    (hy : env.kindOf y = some .local) (hp : (env.scope.kind == .class || (env.scope.kind == .module && env.locals != env.globals)) = false)
    (hit : wpAny (model prog w) A (eval i1 env) (Src2 h₀ L m s vals xs news) (fun _ _ => False) s)
    (hsz : (xs.flatMap (fun a => (inner a).map (fun b => (a, b)))).length ≤ 5000) (hin : ∀ a ∈ xs, (inner a).length ≤ 5000)
    (hsplit : ∀ a w3 w4 C oC m₂ h tk led, a ∈ xs → vals a w3 w4 → LCg.NsObj oC m₂ → m₂ n4 = some w4 → Fr h₀ L h m → News h₀ L h ((C, oC) :: led) →
      wpAny (model prog w) A (eval i2 (compEnvC scope cl C env)) (SplitEnd h₀ L m s h ((C, oC) :: led) rel2 (inner a)) (fun _ _ => False) { s with heap := h, toks := tk })
    (hpair : ∀ a w3 w4 x vb C oC m₃ h tk led, a ∈ xs → vals a w3 w4 → x ∈ inner a → rel2 x vb → LCg.NsObj oC m₃ → m₃ n3 = some w3 → m₃ r = some vb → Fr h₀ L h m → News h₀ L h ((C, oC) :: led) →
      wpAny (model prog w) A (eval elt (compEnvC scope cl C env)) (TurnObj h₀ L m s h ((C, oC) :: led) (obj a x)) (fun _ _ => False) { s with heap := h, toks := tk })
    (hsets : ∀ x C, foldedSetIterable i2 (compEnvC scope cl C env) x = pure x)
    (fin : ∀ D h tk ys objs, Fr h₀ L h (fun z => if z = y then some (.ref D) else m z) → News h₀ L h ((D, LCg.lst ys) :: (objs ++ news)) → All2 (ObjRel objs (fun ab => obj ab.1 ab.2)) (xs.flatMap (fun a => (inner a).map (fun b => (a, b)))) ys → Q .next { s with heap := h, toks := tk })
    (hs : ∀ x, foldedSetIterable i1 env x = pure x := by intro _; rfl) :
    wpAny (model prog w) A (exec (.Assign [.Name y py] (comp2 elt (tgt4 n1 n2 n3 n4 p1 p2 p3 p4 tp kk) i1 (.Name r pr) i2 scope pos) spos) env) Q (fun _ _ => False) s := by
  subst hLe
  rw [exec_Assign_Name_used _ _ _ _ hsw]
  refine wpAny_bind (wpAny_standAt (wpAny_bind ?_))
  show wpAny _ A (do let _ ← comprehension (comp2 elt (tgt4 n1 n2 n3 n4 p1 p2 p3 p4 tp kk) i1 (.Name r pr) i2 scope pos) scope env _ (newList []) false (eval i1 env) (some (assign (.Name y py) env))) _ _ s
  refine wpAny_bind (wpAny_mono (wpAny_comprehension_free (use := some (assign (.Name y py) env)) (Q := fun _ s' => Q .next s') rfl hs hclos hkind hnames
    (wpAny_mono hit (fun xv s₁ h₁ => ?_) fun _ _ e => e)) (fun _ s' hq => wpAny_pure (wpAny_pure hq)) fun _ _ e => e)
  obtain ⟨ax, its, nn, h, tk, rfl, rfl, F, N, hax, hxs⟩ := h₁
  have hl : h.IsList ax its.toArray := ⟨_, (N _ hax).1, rfl, _, rfl⟩
  have hlt : ax < h.objs.size := by obtain ⟨_, e, _⟩ := hl; exact Heap.lt_size e
  refine wpAny_pyIter_list hl ?_
  have up : ∀ b o, h.get? b = some o → (h.push { cls := .type "list_iterator", data := .fields #[.ref ax, .int 0 0] }).get? b = some o := fun b o e => Heap.get?_push_of_some _ e
  refine block2 (vals := vals) (inner := inner) (rel2 := rel2) (obj := obj) (xs := xs) (I := h.objs.size) (ax := ax) (its := its) (nn := nn) (news := news) hh hm ⟨_, Heap.get?_push_size _ rfl, rfl, rfl⟩ hax hxs hcell hkind l1 l2 l3 l4 lr d34 d3r (F.keeps up) (N.grown up) (Nat.ne_of_lt F.ns.lt) (next_is_new F) (fun p hp => Nat.ne_of_lt (Heap.lt_size (N p hp).1)) hsz hin hsplit hpair hsets ?_
  intro D C h' tk m' ys objs F' N' off hn hC₀ hD₀ hCL hDL hCD hz
  show wpAny _ A (assign (.Name y py) env (.ref D)) _ _ _
  refine wpAny_assign_Name (wpAny_storeName_local hy F'.ns (fun h₂ hn₂ hs₂ => ?_) hp)
  have hL₀ : h₀.get? env.locals = none := Heap.get?_none_of_le F'.above
  have F₂ : Fr h₀ env.locals h₂ (fun z => if z = y then some (.ref D) else m z) := ⟨hn₂, fun b o e => hs₂.extBut b o (fun q => by rw [q, hL₀] at e; cases e) (F'.keep b o e), F'.above⟩
  refine ⟨m', hn.sameBut hs₂ hCL, fun h'' hs'' => fin D h'' _ ys objs (F₂.change hs'' hCL hC₀) (fun p hp => ?_) hz⟩
  have z : h₂.get? p.1 = some p.2 := hs₂.extBut _ _ (N' p hp).2.1 (N' p hp).1
  refine ⟨hs''.extBut _ _ ?_ z, (N' p hp).2⟩
  rcases List.mem_cons.mp hp with rfl | hp
  · exact Ne.symm hCD
  · exact (off p hp).2
end

-- part Lu_2
section
variable {prog : Program} {w : World} {A : Around} {s : Shared} {env : Env} {h₀ : Heap} {n1 n2 n3 n4 : Str} {p1 p2 p3 p4 tp : Pos} {kk : Nat}
def Tup4 (news : List (Addr × Obj)) (v w1 w2 w3 w4 : Value) : Prop := ∃ t ot nt, v = .ref t ∧ (t, ot) ∈ news ∧ ot.cls = .type "tuple" ∧ ot.data = .seq #[w1, w2, w3, w4] nt
def set4 (n1 n2 n3 n4 : Str) (w1 w2 w3 w4 : Value) (m : Str → Option Value) : Str → Option Value := fun y => if y = n4 then some w4 else if y = n3 then some w3 else if y = n2 then some w2 else if y = n1 then some w1 else m y
def For4At (prog : Program) (w : World) (A : Around) (h₀ : Heap) (env : Env) (s : Shared) (n1 n2 n3 n4 : Str) (body : List Stmt) (Q : Flow → Shared → Prop) (xv : Value) (s₁ : Shared) : Prop :=
  ∃ its J, LstAt h₀ env.locals s its J xv s₁ ∧
      (∀ i v m₁ news₁, its[i]? = some v → J i m₁ news₁ → ∃ w1 w2 w3 w4, Tup4 news₁ v w1 w2 w3 w4) ∧
      (∀ (i : Nat) (v w1 w2 w3 w4 : Value) m₁ news₁ h tk I oI, its[i]? = some v → Tup4 news₁ v w1 w2 w3 w4 → J i m₁ news₁ → (∀ p ∈ news₁, p.1 ≠ I) → Fr h₀ env.locals h (set4 n1 n2 n3 n4 w1 w2 w3 w4 m₁) → News h₀ env.locals h ((I, oI) :: news₁) →
        wpAny (model prog w) A (execs body env) (Turned h₀ env.locals s I oI (J (i + 1)) Q) (fun _ _ => False) { s with heap := h, toks := tk }) ∧
      (∀ h' tk m' news', Fr h₀ env.locals h' m' → News h₀ env.locals h' news' → J its.size m' news' → Q .next { s with heap := h', toks := tk })
theorem For_lst4 {Q : Flow → Shared → Prop} {iter : Expr} {body : List Stmt} {pos : Pos} (hh : A.handled = none) (k1 : env.kindOf n1 = some .local) (k2 : env.kindOf n2 = some .local) (k3 : env.kindOf n3 = some .local) (k4 : env.kindOf n4 = some .local) (hp : (env.scope.kind == .class || (env.scope.kind == .module && env.locals != env.globals)) = false)
    (hit : wpAny (model prog w) A (eval iter env) (For4At prog w A h₀ env s n1 n2 n3 n4 body Q) (fun _ _ => False) s)
    (hs : ∀ x, foldedSetIterable iter env x = pure x := by intro _; rfl) :
    wpAny (model prog w) A (exec (.For (tgt4 n1 n2 n3 n4 p1 p2 p3 p4 tp kk) iter body [] pos) env) Q (fun _ _ => False) s := by
  refine wpAny_For (wpAny_mono hit (fun xv s₁ h₁ => ?_) fun _ _ e => e) hs
  obtain ⟨its, J, ⟨ax, m, news, h, tk, rfl, rfl, hsrc, F, N, hJ, hstay⟩, hv, step, fin⟩ := h₁
  have hl := hsrc.list F.keep N
  have hlt : ax < h.objs.size := by obtain ⟨_, e, _⟩ := hl; exact Heap.lt_size e
  refine wpAny_pyIter_list hl ?_
  have up : ∀ b o, h.get? b = some o → (h.push { cls := .type "list_iterator", data := .fields #[.ref ax, .int 0 0] }).get? b = some o := fun b o e => Heap.get?_push_of_some _ e
  have W : Walks prog w A h.objs.size _ [h.objs.size] its.size _ _ := Walks.list hh h.objs.size ax (Nat.ne_of_lt hlt) its
  have hI0 : h₀.get? h.objs.size = none := next_is_new F
  have hIL : env.locals ≠ h.objs.size := Nat.ne_of_lt F.ns.lt
  refine codeAny_forLoop_any
    (fun k s' => ∃ h' tk m' news' i, s' = { s with heap := h', toks := tk } ∧ (h'.IsListIter h.objs.size ax i ∧ h'.IsList ax its) ∧ Fr h₀ env.locals h' m' ∧ News h₀ env.locals h' news' ∧ (∀ p ∈ news', p.1 ≠ h.objs.size) ∧ J i m' news' ∧ i ≤ its.size ∧ k = its.size + 1 - i) ?_ (its.size + 1)
    ⟨_, _, m, news, 0, rfl, ⟨⟨_, Heap.get?_push_size _ rfl, rfl, rfl⟩, hl.push _⟩, F.keeps up, N.grown up, fun p hp => Nat.ne_of_lt (Heap.lt_size (N p hp).1), hJ, Nat.zero_le _, rfl⟩
  rintro k s' ⟨h', tk', m', news', i, rfl, hst', F', N', hnw', hJ', hi, rfl⟩
  by_cases hlt2 : i < its.size
  · refine W.item i _ _ _ hlt2 hst' fun v h₁ tk₁ hP hst₁ hk₁ => ?_
    have F₁ := LCg.fr_but F' hk₁ hIL hI0
    have N₁ := LCg.news_but N' hk₁ hnw'
    obtain ⟨oI, hoI, hoI2⟩ := hst₁.1
    obtain ⟨w1, w2, w3, w4, hT⟩ := hv i v m' news' hP hJ'
    have hT' := hT
    obtain ⟨t, ot, nt, rfl, hmt, hct, hdt⟩ := hT
    have ht : IsTup h₁ t #[w1, w2, w3, w4] := ⟨ot, (N₁ _ hmt).1, hct, nt, hdt⟩
    refine wpAny_letOwnedTupleGo_listiter hst₁.1 ?_
    refine assign_Tuple_tuple hh ht rfl rfl fun h5 he => ?_
    have he' : ∀ b o, h₁.get? b = some o → h5.get? b = some o := fun b o e => he b o (Nat.ne_of_lt (Heap.lt_size e)) e
    have F5 := F₁.keeps he'
    have N5 : News h₀ env.locals h5 ((h.objs.size, oI) :: news') := fun p hp => by
      rcases List.mem_cons.mp hp with rfl | hp
      · exact ⟨he' _ _ hoI, Ne.symm hIL, hI0⟩
      · exact ⟨he' _ _ (N₁ p hp).1, (N₁ p hp).2⟩
    refine assignInOrder_cons (wpAny_assign_Name (wpAny_storeName_local k1 F5.ns (fun h6 hn6 hs6 => ?_) hp))
    have F6 := F5.set hn6 hs6
    refine assignInOrder_cons (wpAny_assign_Name (wpAny_storeName_local k2 F6.ns (fun h7 hn7 hs7 => ?_) hp))
    have F7 := F6.set hn7 hs7
    refine assignInOrder_cons (wpAny_assign_Name (wpAny_storeName_local k3 F7.ns (fun h8 hn8 hs8 => ?_) hp))
    have F8 := F7.set hn8 hs8
    refine assignInOrder_cons (wpAny_assign_Name (wpAny_storeName_local k4 F8.ns (fun h9 hn9 hs9 => ?_) hp))
    have F9 := F8.set hn9 hs9
    refine assignInOrder_nil ?_
    refine wpAny_mono (step i _ w1 w2 w3 w4 m' news' h9 _ h.objs.size oI hP hT' hJ' hnw' F9 ((((N5.set hs6).set hs7).set hs8).set hs9)) (fun f s₃ h₃ => ?_) fun _ _ e => e.elim
    rcases h₃ with ⟨rfl, h₄, tk₄, m₄, news₄, rfl, F₄, N₄, hne₄, hJ₄⟩ | ⟨v', rfl, hq⟩
    · refine ⟨its.size + 1 - (i + 1), by omega, h₄, tk₄, m₄, news₄, i + 1, rfl, ⟨⟨oI, (N₄ _ (.head _)).1, hoI2⟩, ?_⟩, F₄, fun p hp => N₄ p (.tail _ hp), hne₄, hJ₄, hlt2, rfl⟩
      exact (hstay _ _ _ hJ₄).list F₄.keep fun p hp => N₄ p (.tail _ hp)
    · exact hq
  · have hin : i = its.size := by omega
    subst hin
    refine W.done _ _ _ hst' fun h₁ tk₁ hk₁ => wpAny_execs_nil ?_
    exact fin h₁ tk₁ m' news' (LCg.fr_but F' hk₁ hIL hI0) (LCg.news_but N' hk₁ hnw') hJ'
end

-- part Pw
theorem str_ext {x y : Str} (e : x.cps.toList = y.cps.toList) : x = y := by
  obtain ⟨x⟩ := x; obtain ⟨y⟩ := y
  congr 1
  exact Array.ext' e
theorem app_inj {c : Nat} : ∀ {x y A B : List Nat}, c ∉ x → c ∉ y → x ++ c :: A = y ++ c :: B → x = y ∧ A = B
  | [], [], A, B, _, _, e => by injection e with _ e; exact ⟨rfl, e⟩
  | [], b :: y, A, B, _, hy, e => by injection e with e1 _; exact absurd (by rw [e1]; exact List.mem_cons_self) hy
  | a :: x, [], A, B, hx, _, e => by injection e with e1 _; exact absurd (by rw [← e1]; exact List.mem_cons_self) hx
  | a :: x, b :: y, A, B, hx, hy, e => by
    injection e with e1 e2
    obtain ⟨h1, h2⟩ := app_inj (fun h => hx (List.mem_cons_of_mem _ h)) (fun h => hy (List.mem_cons_of_mem _ h)) e2
    exact ⟨by rw [e1, h1], h2⟩
theorem jn_cons (c : Nat) (x y : Str) (r : List Str) : (Str.join ⟨#[c]⟩ (x :: y :: r)).cps.toList = x.cps.toList ++ c :: (Str.join ⟨#[c]⟩ (y :: r)).cps.toList := by
  show ((x.cps ++ #[c]) ++ (Str.join ⟨#[c]⟩ (y :: r)).cps).toList = _
  simp
theorem join_inj (c : Nat) : ∀ (a b : List Str), a ≠ [] → b ≠ [] → (∀ x ∈ a, c ∉ x.cps.toList) → (∀ x ∈ b, c ∉ x.cps.toList) → Str.join ⟨#[c]⟩ a = Str.join ⟨#[c]⟩ b → a = b
  | [], _, h, _, _, _, _ => absurd rfl h
  | _ :: _, [], _, h, _, _, _ => absurd rfl h
  | [x], [y], _, _, _, _, e => by
    have : x = y := e
    rw [this]
  | [x], y :: z :: r, _, _, ha, _, e => by
    have e' : x.cps.toList = _ := congrArg (fun s => s.cps.toList) e
    rw [jn_cons] at e'
    exact absurd (by rw [e']; exact List.mem_append_right _ List.mem_cons_self) (ha x List.mem_cons_self)
  | x :: z :: r, [y], _, _, _, hb, e => by
    have e' : _ = y.cps.toList := congrArg (fun s => s.cps.toList) e
    rw [jn_cons] at e'
    exact absurd (by rw [← e']; exact List.mem_append_right _ List.mem_cons_self) (hb y List.mem_cons_self)
  | x :: x2 :: r, y :: y2 :: t, _, _, ha, hb, e => by
    have e' := congrArg (fun s => s.cps.toList) e
    simp only [jn_cons] at e'
    obtain ⟨h1, h2⟩ := app_inj (ha x List.mem_cons_self) (hb y List.mem_cons_self) e'
    rw [str_ext h1, join_inj c (x2 :: r) (y2 :: t) (by simp) (by simp) (fun z hz => ha z (List.mem_cons_of_mem _ hz)) (fun z hz => hb z (List.mem_cons_of_mem _ hz)) (str_ext h2)]
theorem lines_join : ∀ (xs : List Str), Str.join (Str.ofString "") (xs.map nl) = Str.join ⟨#[10]⟩ (xs ++ [Str.empty])
  | [] => rfl
  | [x] => by
    apply str_ext
    show ((x.cps ++ #[10])).toList = ((x.cps ++ #[10]) ++ #[]).toList
    simp
  | x :: y :: r => by
    apply str_ext
    have e1 : (Str.join (Str.ofString "") ((x :: y :: r).map nl)).cps.toList = (x.cps ++ #[10]).toList ++ (Str.join (Str.ofString "") ((y :: r).map nl)).cps.toList := by
      show (((x.cps ++ #[10]) ++ #[]) ++ (Str.join (Str.ofString "") ((y :: r).map nl)).cps).toList = _
      simp
    have e2 : (Str.join ⟨#[10]⟩ ((x :: y :: r) ++ [Str.empty])).cps.toList = x.cps.toList ++ 10 :: (Str.join ⟨#[10]⟩ ((y :: r) ++ [Str.empty])).cps.toList := jn_cons 10 x y (r ++ [Str.empty])
    rw [e1, e2, lines_join (y :: r)]
    simp
theorem split_nl {xs : List Str} (h : ∀ x ∈ xs, ∀ c ∈ x.cps.toList, c ≠ 10) : Txt.split (Txt.join (Str.ofString "") (xs.map nl)) (Str.ofString "\n") = xs ++ [Str.empty] := by
  have e0 : Str.ofString "\n" = ⟨#[10]⟩ := by decide +kernel
  rw [e0]
  refine join_inj 10 _ _ ?_ (by simp) (PySem.StrLaws.split_free _ 10) ?_ ?_
  · intro q
    have := PyProof.Rows.split_pos (Txt.join (Str.ofString "") (xs.map nl)) ⟨#[10]⟩
    rw [q] at this
    exact absurd this (by decide)
  · intro x hx
    rcases List.mem_append.mp hx with hx | hx
    · exact fun q => h x hx 10 q rfl
    · rw [List.mem_singleton.mp hx]; exact List.not_mem_nil
  · rw [PySem.StrLaws.join_split]
    unfold Txt.join
    rw [PySem.StrLaws.glued_eq_join]
    exact lines_join xs
/-- the rows of a paragraph -/
def seg (p : Int) (rs : List Str) (f l : Int) : List Str := (rs.take (l - p).toNat).drop (f - p).toNat
theorem seg_cons {p f l : Int} {r : Str} {rs : List Str} (h1 : p + 1 ≤ f) (h2 : f ≤ l) : seg p (r :: rs) f l = seg (p + 1) rs f l := by
  unfold seg
  rw [show (l - p).toNat = (l - (p + 1)).toNat + 1 by omega, show (f - p).toNat = (f - (p + 1)).toNat + 1 by omega, List.take_succ_cons, List.drop_succ_cons]
theorem flat_runs : ∀ (rs : List Str) (p : Int), (runs p rs).flatMap (fun x => (seg p rs x.1 x.2.1).map (fun r => (x.2.2, r))) = (rs.filter full).map (fun r => (hdr r, r))
  | [], p => rfl
  | r :: rs, p => by
    have ih := flat_runs rs (p + 1)
    have bd := runs_bounds rs (p + 1)
    have same : ∀ ps : List Par, (∀ x ∈ ps, p + 1 ≤ x.1 ∧ x.1 < x.2.1) → ps.flatMap (fun x => (seg p (r :: rs) x.1 x.2.1).map (fun r => (x.2.2, r))) = ps.flatMap (fun x => (seg (p + 1) rs x.1 x.2.1).map (fun r => (x.2.2, r))) := by
      intro ps hps
      induction ps with
      | nil => rfl
      | cons x t ihh =>
        have hx := hps x List.mem_cons_self
        rw [List.flatMap_cons, List.flatMap_cons, ihh (fun y hy => hps y (List.mem_cons_of_mem _ hy)), seg_cons hx.1 (by omega)]
    have one : seg p (r :: rs) p (p + 1) = [r] := by
      unfold seg
      rw [show (p + 1 - p).toNat = 1 by omega, show (p - p).toNat = 0 by omega]; rfl
    rw [runs]
    by_cases hf : full r = true
    · rw [if_pos hf, List.filter_cons_of_pos hf, List.map_cons, ← ih]
      cases e : runs (p + 1) rs with
      | nil =>
        rw [joinRow, List.flatMap_cons, one]; rfl
      | cons y t =>
        obtain ⟨f, l, H⟩ := y
        rw [e] at bd
        have hy := bd (f, l, H) List.mem_cons_self
        simp only at hy
        rw [joinRow]
        by_cases c : f = p + 1 ∧ H = hdr r
        · obtain ⟨rfl, rfl⟩ := c
          rw [if_pos ⟨rfl, rfl⟩, List.flatMap_cons, List.flatMap_cons, same t (fun x hx => ⟨(bd x (List.mem_cons_of_mem _ hx)).1, (bd x (List.mem_cons_of_mem _ hx)).2.1⟩)]
          have e2 : seg p (r :: rs) p l = r :: seg (p + 1) rs (p + 1) l := by
            unfold seg
            rw [show (l - p).toNat = (l - (p + 1)).toNat + 1 by omega, show (p - p).toNat = 0 by omega, show (p + 1 - (p + 1)).toNat = 0 by omega]; rfl
          simp only [e2, List.map_cons, List.cons_append]
        · rw [if_neg c, List.flatMap_cons, one, same ((f, l, H) :: t) (fun x hx => ⟨(bd x hx).1, (bd x hx).2.1⟩)]; rfl
    · rw [if_neg hf, List.filter_cons_of_neg hf, ← ih]
      exact same _ (fun x hx => ⟨(bd x hx).1, (bd x hx).2.1⟩)

-- part Lb0_2
theorem fillLb0 : (PySem.Challenge.rw_dm0163_02, hd.heap_39) = (PySem.Challenge.rw_dm0163_02, hd.heap_39) := by k_fill; rfl
def lawFn : Option Stmt := PySem.Challenge.pw_dm0163_02.main.body[15]?
def lawBody : List Stmt := fnBody lawFn
def lawAt (n : Nat) : Stmt := (lawBody[n]?).getD pass
def lawFor : List Stmt := forBody' (lawBody[4]?)
def lawForAt (n : Nat) : Stmt := (lawFor[n]?).getD pass
def lawEnv (L : Addr) : Env := envOfC (Str.ofString "law") (fnScope lawFn) L 132 (.ref 131)
theorem lawBody_eq : lawBody = [lawAt 0, lawAt 1, lawAt 2, lawAt 3, lawAt 4, lawAt 5, lawAt 6, lawAt 7] := rfl
theorem lawFor_eq : lawFor = [lawForAt 0, lawForAt 1, lawForAt 2] := rfl
/-- the table, as the law's frame knows it -/
def TabL (rest : List (Addr × Obj)) (o5 : Obj) : Prop := o5 = tabObj #[] ∨ ∃ c1 c2 oc1 oc2, o5 = tab2 c1 c2 ∧ CodeOk oc1 lamQ ∧ CodeOk oc2 lamQ ∧ (c1, oc1) ∈ rest ∧ (c2, oc2) ∈ rest
section
variable {prog : Program} {w : World} {dp un : Nat} {fr : Option (List Env)} {gd : Option (List Code)} {s : Shared} {Q E : Value → Shared → Prop} {h₀ : Heap} {L : Addr} {m : Str → Option Value} {rest news : List (Addr × Obj)} {p : Program} {loose : List Str} {mean : ExcName → Option Value} {mg mb : Str → Option Value}
theorem walkN {o5 : Obj} (F : Fr h₀ L s.heap m) (N : News h₀ L s.heap ((105, o5) :: rest)) (hne : ∀ p ∈ rest, p.1 ≠ 105) (hT : TabL rest o5) (X : (hd.heap_39 w.params).In h₀) (T : Top p loose mean mg mb h₀) (C : CodeHd h₀ 109 105) (hr : dp + 100 < recursionLimit) (hu : un + 120 < cLine)
    {rows : List Str} {vs : List Value} {l : Addr} (hl : s.heap.IsList l vs.toArray) (hS : StrsAre vs rows) (hn : rows.length ≤ 64) (hL : ∀ r ∈ rows, r.length ≤ 64) (hok : ∀ r ∈ rows, ok r)
    (h : ∀ h' tk' D ws nn objs o5', Fr h₀ L h' m → News h₀ L h' ((105, o5') :: (rest ++ objs)) → (∀ p ∈ objs, s.heap.get? p.1 = none) → TabL (rest ++ objs) o5' → (D, W.listOf ws.toArray nn) ∈ objs → All2 (ParaAt objs) (paras rows) ws → Q (.ref D) { s with heap := h', toks := tk' }) :
    wpAny (model prog w) (ar dp un fr gd) (call (.ref 120) [.ref l]) Q E s := by
  have n5 := N _ (.head _)
  have hTg : TabG s.heap o5 := by
    rcases hT with rfl | ⟨c1, c2, oc1, oc2, rfl, k1, k2, g1, g2⟩
    · exact .inl rfl
    · exact .inr ⟨c1, c2, oc1, oc2, rfl, k1, k2, (N _ (.tail _ g1)).1, (N _ (.tail _ g2)).1⟩
  refine walk_call X T F.keep n5.2.2 C hr hu hl hS hn hL hok n5.1 hTg ?_
  intro h' tk' D ws nn objs c1 c2 oc1 oc2 keep h5 k1 k2 mc hobj hD hall
  refine h h' tk' D ws nn objs (tab2 c1 c2) ⟨F.ns.at' fun o e => keep L o (Ne.symm n5.2.1) e, fun b o e => keep b o (by rintro rfl; rw [n5.2.2] at e; cases e) (F.keep b o e), F.above⟩ (fun q hq => ?_) (fun q hq => (hobj q hq).2) ?_ hD hall
  · rcases List.mem_cons.mp hq with rfl | hq
    · exact ⟨h5, n5.2⟩
    · rcases List.mem_append.mp hq with hq | hq
      · exact ⟨keep _ _ (hne q hq) (N q (.tail _ hq)).1, (N q (.tail _ hq)).2⟩
      · exact newsFresh F hobj q hq
  · rcases mc with ⟨a, b⟩ | a
    · exact .inr ⟨c1, c2, oc1, oc2, rfl, k1, k2, List.mem_append_right _ a, List.mem_append_right _ b⟩
    · rcases hT with rfl | ⟨d1, d2, od1, od2, rfl, j1, j2, g1, g2⟩
      · exact absurd a (by intro q; have := congrArg Obj.data q; injection this with this; have e0 : (0 : Nat) = 6 := congrArg Array.size this; exact absurd e0 (by decide))
      · exact .inr ⟨d1, d2, od1, od2, a.symm, j1, j2, List.mem_append_left _ g1, List.mem_append_left _ g2⟩
theorem slice_to_strs {vs : List Value} {ys : List Str} (h : StrsAre vs ys) {b : Int} (hb : 0 ≤ b) : StrsAre (slicePick vs.toArray none (some b) none).toList (ys.take b.toNat) := by
  have e : slicePick vs.toArray none (some b) none = slicePick vs.toArray (some 0) (some b) none := by
    rw [slicePick_plain, slicePick_plain]
    have : clipAt vs.toArray.size 0 = 0 := by rw [show (0 : Int) = ((0 : Nat) : Int) from rfl, clipAt_nat]; exact Nat.zero_min _
    simp only [Option.elim, this]
  rw [e]
  have := slice_strs h (a := 0) (b := b) (by omega) hb
  rwa [show ((0 : Int)).toNat = 0 from rfl, List.drop_zero] at this
theorem slice_own_to {value slice : Expr} {l : Addr} {vs : List Value} {ys : List Str} {b : Int} {u : Tok} {A : Around} (F : Fr h₀ L s.heap m) (N : News h₀ L s.heap news) (hl : s.heap.IsList l vs.toArray) (hS : StrsAre vs ys) (hn : vs.length ≤ 1000) (hb : 0 ≤ b)
    (h : ∀ D zs h', Fr h₀ L h' m → News h₀ L h' ((D, W.listOf zs.toArray 0) :: news) → (∀ p ∈ news, p.1 < D) → StrsAre zs (ys.take b.toNat) → Q (.ref D) { s with heap := h' })
    (hs : subscripted slice false (.ref l) (.ref s.heap.objs.size) = operate [.ref s.heap.objs.size, .ref l] (getItem (.ref l) (.ref s.heap.objs.size)) := by with_unfolding_all rfl) (ht : ∀ r, letTemporaryGo value (.ref l) r = pure () := by intro _; with_unfolding_all rfl) :
    wpAny (model prog w) A (subscriptTail value slice (.ref l) (.ref s.heap.objs.size)) Q E { s with heap := s.heap.push { cls := .type "slice", data := .fields #[.none, .int b u, .none] } } :=
  kmk_slice_lit F N hl .none (.int _ _) rfl (fun D h' F' N' l1 => h D _ h' F' N' l1 (slice_to_strs hS hb)) hs ht (by rw [List.size_toArray, show sizeLine = 16777216 from rfl]; omega)
end
local macro_rules | `(tactic| walk_at "subscriptTail Name Slice ref ref") => `(tactic| ((with_reducible show wpAny _ _ (subscriptTail _ (Expr.Slice none (some _) none _) (Value.ref _) (Value.ref _)) _ _ _); (try dsimp only); k_dflt (refine slice_own_to (s := ⟨_, _, _, _, _⟩) (by k_asm) (by k_asm) (News.isList (by k_asm) (by k_mem)) (by with_reducible assumption) (by omega) (by omega) ?_); intro D' zs' h' F' N' l1 hS'; (try k_lt l1); (try k_sweep)))
local macro_rules | `(tactic| walk_at "exec Assign cons ListComp") => `(tactic| (k_dflt (refine LCg.Assign_ListComp_U (F₀ := by k_asm) (by rfl) (by with_unfolding_all rfl) (by rfl) (by decide) (by rfl) (by decide) (by rfl) (by rfl) (by rfl) ?_)))
set_option hygiene false in
local macro_rules | `(tactic| walk_at "call ref") => `(tactic| (k_dflt (refine row_call (by k_in) (Top.keeps (by assumption) (Fr.keep (by assumption))) (by omega) ?_); intro h' tk' t' he; (have F' := frExt (by assumption) he); (have N' := newsExt (by assumption) he); (try k_sweep)))
theorem truthyL {prog : Program} {w : World} {A : Around} {E : Value → Shared → Prop} {s : Shared} {l : Addr} {vs : List Value} {Q : Bool → Shared → Prop} (hl : s.heap.IsList l vs.toArray) (hn : vs.length ≤ 1000) (h : ∀ k', (vs ≠ [] → Q true { s with toks := k' }) ∧ (vs = [] → Q false { s with toks := k' })) : wpAny (model prog w) A (truthy (.ref l)) Q E s := by
  refine wpAny_truthy_list hl (by rw [List.size_toArray]; omega) ?_
  cases vs with
  | nil => exact (h _).2 rfl
  | cons v r => exact (h _).1 (by simp)
local macro_rules | `(tactic| walk_at "truthy ref") => `(tactic| (k_dflt (refine truthyL (News.isList (by k_asm) (by k_mem)) (by omega) ?_); intro k'; refine ⟨?_, ?_⟩ <;> intro hq))
def rowsOf (sc : List Int) : List Str := (sc.take 12).map rowOf
def orA (l : List Str) : List Str := if l = [] then [Str.ofString "a"] else l
def upperOf (rows : List Str) : List Str := orA (rows.take ((rows.length + 1) / 2))
def lowerOf (rows : List Str) : List Str := orA (rows.drop ((rows.length + 1) / 2))
section
variable {prog : Program} {w : World} {dp un : Nat} {fr : Option (List Env)} {gd : Option (List Code)} {s : Shared} {h₀ : Heap} {p : Program} {loose : List Str} {mean : ExcName → Option Value} {mg mb : Str → Option Value} {L : Addr} {h : Heap} {tk : Nat} {m : Str → Option Value} {tl : List (Addr × Obj)} {sc : List Int} {vs : List Value} {sl : Addr}
end
set_option hygiene false in
local macro_rules | `(tactic| walk_at "law open") => `(tactic| ((dsimp only [lawAt, lawForAt, lawFor, lawBody, lawFn, lawEnv, fnBody, fnScope, forBody', PySem.Challenge.pw_dm0163_02, List.getElem?_cons_succ, List.getElem?_cons_zero, Option.getD_some]); (refine id ?_); (try dsimp only)))
section
variable {prog : Program} {w : World} {dp un : Nat} {fr : Option (List Env)} {gd : Option (List Code)} {s : Shared} {h₀ : Heap} {p : Program} {loose : List Str} {mean : ExcName → Option Value} {mg mb : Str → Option Value} {L : Addr} {h : Heap} {tk : Nat} {m : Str → Option Value} {tl : List (Addr × Obj)} {sc : List Int} {vs : List Value} {sl : Addr}
set_option maxHeartbeats 4000000 in
theorem lb0 (X : (hd.heap_39 w.params).In h₀) (T : Top p loose mean mg mb h₀) (hr : dp + 80 < recursionLimit) (hl : h₀.IsList sl vs.toArray) (hI : IntsAre vs sc) (hn : sc.length ≤ 63) (F : Fr h₀ L h m) (q1 : m (Str.ofString "script") = some (.ref sl)) (N : News h₀ L h ((105, tabObj #[]) :: tl)) :
    wpAny (model prog w) (ar dp un fr gd) (exec (lawAt 0) (lawEnv L)) (St h₀ L s (fun m' news' => ∃ rl rv, m' (Str.ofString "rows") = some (.ref rl) ∧ rl ≠ 105 ∧ StrsAre rv (rowsOf sc) ∧ news' = (105, tabObj #[]) :: (rl, LCg.lst rv) :: tl)) (fun _ _ => False) { s with heap := h, toks := tk } := by
  walk_at "law open"
  walk_at "my steps"
  all_goals (try k_data)
  with_reducible rename Fr _ _ _ _ => Fc
  with_reducible rename News _ _ _ _ => NN
  rename IntsAre _ (List.take _ _) => hI2
  rename _ ∧ AllLt _ _ => hAl
  have hsz : (sc.take 12).length = _ := hI2.length.symm
  have hle : (sc.take 12).length ≤ 12 := by rw [List.length_take]; omega
  refine LCg.CompSrc.ledger rfl Fc NN (by k_mem) (by rw [List.size_toArray, ← hsz, show sizeLine = 16777216 from rfl]; omega) (fun g => rest_map (sc.take 12) (fun y v => IsI y v) (fun y v => IsS (rowOf y) v) (by rw [List.size_toArray]; exact hsz) (fun i v _ e => ints_at hI2 i v e) (.inr ⟨_, by k_mem, rfl, _, rfl⟩) ?turn ?fin)
  case turn =>
    intro y v I oI C oC D m₂ ys h tk E' hy hr hC hx F N off ne
    obtain ⟨t, rfl⟩ := hr
    walk_at "my steps"
    all_goals (try k_data)
    exact ⟨_, _, rfl, by assumption, by assumption, _, rfl⟩
  case fin =>
    intro ys hys
    walk_at "my steps"
    all_goals (try k_data)
    with_reducible rename Fr _ _ _ _ => Fn
    with_reducible rename News _ _ _ _ => Nn
    refine' stMk Fn Nn _ ?sub ⟨_, _, rfl, ?ne, hys.strs, rfl⟩
    case sub => walk_at "my sub"
    case ne => k_ne
theorem fdiv2 (n : Nat) : Int.fdiv ((n : Int) + 1) 2 = (((n + 1) / 2 : Nat) : Int) := by
  rw [Int.fdiv_eq_ediv_of_nonneg _ (by decide)]
  omega
set_option maxHeartbeats 4000000 in
theorem lb1 {rows : List Str} {rl : Addr} {rv : List Value} {o5 : Obj} (X : (hd.heap_39 w.params).In h₀) (T : Top p loose mean mg mb h₀) (hr : dp + 80 < recursionLimit) (hS : StrsAre rv rows) (hn : rows.length ≤ 12) (F : Fr h₀ L h m) (q1 : m (Str.ofString "rows") = some (.ref rl)) (N : News h₀ L h ((105, o5) :: (rl, LCg.lst rv) :: tl)) :
    wpAny (model prog w) (ar dp un fr gd) (exec (lawAt 1) (lawEnv L)) (St h₀ L s (fun m' news' => m' (Str.ofString "rows") = some (.ref rl) ∧ ∃ ul uv, m' (Str.ofString "upper") = some (.ref ul) ∧ ul ≠ 105 ∧ StrsAre uv (upperOf rows) ∧ news' = (105, o5) :: (ul, W.listOf uv.toArray 0) :: (rl, LCg.lst rv) :: tl)) (fun _ _ => False) { s with heap := h, toks := tk } := by
  have lrv := hS.length
  have hfd := fdiv2 rv.length
  walk_at "law open"
  walk_at "my steps"
  all_goals (try k_data)
  rename StrsAre _ (List.take _ _) => hst
  rw [hfd, Int.toNat_natCast, lrv] at hst
  have hlz := hst.length
  have hlt := List.length_take (l := rows) (i := (rows.length + 1) / 2)
  refine truthyL (News.isList (by k_asm) (by k_mem)) (by omega) ?_
  intro k'
  refine ⟨?_, ?_⟩
  · intro hq
    have he : upperOf rows = rows.take ((rows.length + 1) / 2) := if_neg (fun q => hq (List.eq_nil_of_length_eq_zero (by rw [hlz, q]; rfl)))
    walk_at "my steps"
    all_goals (try k_data)
    with_reducible rename Fr _ _ _ _ => Fn
    with_reducible rename News _ _ _ _ => Nn
    refine' stMk Fn Nn _ ?sub ⟨q1, _, _, rfl, ?ne, by rw [he]; exact hst, rfl⟩
    case sub => walk_at "my sub"
    case ne => k_ne
  · intro hq
    have he : upperOf rows = [Str.ofString "a"] := if_pos (List.eq_nil_of_length_eq_zero (by rw [← hlz, hq]; rfl))
    walk_at "my steps"
    all_goals (try k_data)
    with_reducible rename Fr _ _ _ _ => Fn
    with_reducible rename News _ _ _ _ => Nn
    refine' stMk Fn Nn _ ?sub ⟨q1, _, [.str (Str.ofString "a") k'], rfl, ?ne, by rw [he]; exact .cons _ _ .nil, rfl⟩
    case sub => walk_at "my sub"
    case ne => k_ne
set_option maxHeartbeats 4000000 in
theorem lb2 {rows : List Str} {rl ul : Addr} {rv : List Value} {o5 uo : Obj} (X : (hd.heap_39 w.params).In h₀) (T : Top p loose mean mg mb h₀) (hr : dp + 80 < recursionLimit) (hS : StrsAre rv rows) (hn : rows.length ≤ 12) (F : Fr h₀ L h m) (q1 : m (Str.ofString "rows") = some (.ref rl)) (q2 : m (Str.ofString "upper") = some (.ref ul)) (N : News h₀ L h ((105, o5) :: (ul, uo) :: (rl, LCg.lst rv) :: tl)) :
    wpAny (model prog w) (ar dp un fr gd) (exec (lawAt 2) (lawEnv L)) (St h₀ L s (fun m' news' => m' (Str.ofString "upper") = some (.ref ul) ∧ ∃ ll lv, m' (Str.ofString "lower") = some (.ref ll) ∧ ll ≠ 105 ∧ StrsAre lv (lowerOf rows) ∧ news' = (105, o5) :: (ul, uo) :: (ll, W.listOf lv.toArray 0) :: tl)) (fun _ _ => False) { s with heap := h, toks := tk } := by
  have lrv := hS.length
  have hfd := fdiv2 rv.length
  walk_at "law open"
  walk_at "my steps"
  all_goals (try k_data)
  rename StrsAre _ (List.drop _ _) => hst
  rw [hfd, Int.toNat_natCast, lrv] at hst
  have hlz := hst.length
  have hlt := List.length_drop (l := rows) (i := (rows.length + 1) / 2)
  refine truthyL (News.isList (by k_asm) (by k_mem)) (by omega) ?_
  intro k'
  refine ⟨?_, ?_⟩
  · intro hq
    have he : lowerOf rows = rows.drop ((rows.length + 1) / 2) := if_neg (fun q => hq (List.eq_nil_of_length_eq_zero (by rw [hlz, q]; rfl)))
    walk_at "my steps"
    all_goals (try k_data)
    with_reducible rename Fr _ _ _ _ => Fn
    with_reducible rename News _ _ _ _ => Nn
    refine' stMk Fn Nn _ ?sub ⟨q2, _, _, rfl, ?ne, by rw [he]; exact hst, rfl⟩
    case sub => walk_at "my sub"
    case ne => k_ne
  · intro hq
    have he : lowerOf rows = [Str.ofString "a"] := if_pos (List.eq_nil_of_length_eq_zero (by rw [← hlz, hq]; rfl))
    walk_at "my steps"
    all_goals (try k_data)
    with_reducible rename Fr _ _ _ _ => Fn
    with_reducible rename News _ _ _ _ => Nn
    refine' stMk Fn Nn _ ?sub ⟨q2, _, [.str (Str.ofString "a") k'], rfl, ?ne, by rw [he]; exact .cons _ _ .nil, rfl⟩
    case sub => walk_at "my sub"
    case ne => k_ne
end

-- part Lb1_2
theorem fillLb1 : (PySem.Challenge.rw_dm0163_02, hd.heap_39) = (PySem.Challenge.rw_dm0163_02, hd.heap_39) := by k_fill; rfl
set_option hygiene false in
local macro_rules | `(tactic| walk_at "call ref") => `(tactic| ((with_reducible rename News _ _ _ _ => Nold); k_dflt (refine walkN (by k_asm) Nold hne5 hT (by k_asm) (by k_asm) (by k_asm) (by omega) (by omega) (News.isList Nold (by k_mem)) (by with_reducible assumption) (by omega) (by with_reducible assumption) (by with_reducible assumption) ?_); intro h' tk' D ws nn objs o5' F' N' fresh hT' hD hall; (have nep := fun p hp => newsNe Nold (fresh p hp)); simp only [List.cons_append, List.nil_append] at N'; clear fresh Nold; (try k_sweep)))
/-- a paragraph as data -/
def pdata (x : Para) : PyData := .tuple [.int x.1, .int x.2.1, .str x.2.2.1, .str x.2.2.2]
theorem readsPara {h₀ h : Heap} {L : Addr} {news tl : List (Addr × Obj)} (N : News h₀ L h news) (hs : ∀ p ∈ tl, p ∈ news) : ∀ {ps : List Para} {vs : List Value}, All2 (ParaAt tl) ps vs → ∃ as, ReadsAll h vs (ps.map pdata) as
  | _, _, .nil => ⟨_, .nil⟩
  | _, _, .cons x r => by
    obtain ⟨as, ih⟩ := readsPara N hs r
    obtain ⟨a, k1, k2, k3, k4, rfl, hm⟩ := x
    exact ⟨_, .cons (reads_tuple_at (N _ (hs _ hm)).1 rfl rfl (.cons (.int _ _) (.cons (.int _ _) (.cons (.str _ _) (.cons (.str _ _) .nil))))) ih⟩
def okPara (x : Para) : Prop := ok x.2.2.1 ∧ ok x.2.2.2
theorem canLay_paras : ∀ {ps : List Para}, (∀ x ∈ ps, okPara x) → PyData.canLayAll0 (ps.map pdata) = true
  | [], _ => by simp [PyData.canLayAll0]
  | x :: r, h => by
    have hx := h x List.mem_cons_self
    have h1 : PyData.strOk x.2.2.1 = true := hx.1
    have h2 : PyData.strOk x.2.2.2 = true := hx.2
    simp [PyData.canLayAll0, PyData.canLay0, pdata, h1, h2, canLay_paras (fun y hy => h y (List.mem_cons_of_mem _ hy))]
theorem depth_paras : ∀ (ps : List Para), PyData.depthAll (ps.map pdata) ≤ 1
  | [] => by simp [PyData.depthAll]
  | x :: r => by
    have := depth_paras r
    simp [PyData.depthAll, PyData.depth, pdata]
    omega
theorem shaped_paras {ps : List Para} (h : ∀ x ∈ ps, okPara x) : SeqAt.shaped (.list (ps.map pdata)) = true := by
  have a := canLay_paras h
  have b := depth_paras ps
  simp only [SeqAt.shaped, PyData.canLay0, PyData.depth, a, Bool.true_and]
  exact decide_eq_true (by omega)
theorem eqv_paras : ∀ (ps : List Para), PyData.eqvAll (ps.map pdata) (ps.map pdata) = true
  | [] => by simp [PyData.eqvAll]
  | x :: r => by simp [PyData.eqvAll, PyData.eqv, pdata, eqv_paras r]
section
variable {prog : Program} {w : World} {dp un : Nat} {fr : Option (List Env)} {gd : Option (List Code)} {s : Shared} {h₀ : Heap} {p : Program} {loose : List Str} {mean : ExcName → Option Value} {mg mb : Str → Option Value} {L : Addr} {h : Heap} {tk : Nat} {m : Str → Option Value} {tl : List (Addr × Obj)} {o5 : Obj} {ul ll : Addr} {uv lv : List Value} {up lo : List Str}
set_option maxHeartbeats 4000000 in
theorem lb3 (X : (hd.heap_39 w.params).In h₀) (T : Top p loose mean mg mb h₀) (C : CodeHd h₀ 109 105) (hr : dp + 120 < recursionLimit) (hu : un + 140 < cLine) (hU : StrsAre uv up) (nU : up.length ≤ 64) (LU : ∀ r ∈ up, r.length ≤ 64) (kU : ∀ r ∈ up, ok r) (F : Fr h₀ L h m) (q1 : m (Str.ofString "upper") = some (.ref ul)) (q2 : m (Str.ofString "lower") = some (.ref ll)) (N : News h₀ L h ((105, o5) :: (ul, W.listOf uv.toArray 0) :: (ll, W.listOf lv.toArray 0) :: tl)) (hne5 : ∀ p ∈ (ul, W.listOf uv.toArray 0) :: (ll, W.listOf lv.toArray 0) :: tl, p.1 ≠ 105) (hT : TabL ((ul, W.listOf uv.toArray 0) :: (ll, W.listOf lv.toArray 0) :: tl) o5) :
    wpAny (model prog w) (ar dp un fr gd) (exec (lawAt 3) (lawEnv L)) (St h₀ L s (fun m' news' => m' (Str.ofString "upper") = some (.ref ul) ∧ m' (Str.ofString "lower") = some (.ref ll) ∧ ∃ dl dv dn objs o5', m' (Str.ofString "due") = some (.ref dl) ∧ (∀ p ∈ objs, p.1 ≠ 105) ∧ TabL ((ul, W.listOf uv.toArray 0) :: (ll, W.listOf lv.toArray 0) :: (tl ++ objs)) o5' ∧ (dl, W.listOf dv.toArray dn) ∈ objs ∧ All2 (ParaAt objs) (paras up) dv ∧ news' = (105, o5') :: (ul, W.listOf uv.toArray 0) :: (ll, W.listOf lv.toArray 0) :: (tl ++ objs))) (fun _ _ => False) { s with heap := h, toks := tk } := by
  walk_at "law open"
  walk_at "my steps"
  all_goals (try k_data)
  with_reducible rename Fr _ _ _ _ => Fn
  with_reducible rename News _ _ _ _ => Nn
  exact stMk Fn Nn _ (fun p hp => hp) ⟨q1, q2, _, _, _, _, _, rfl, fun p hp => Ne.symm (nep p hp _ (.head _)), hT', hD, hall, rfl⟩
end

-- part Ts_2
section
variable {prog : Program} {w : World} {A : Around} {E : Value → Shared → Prop} {s : Shared} {h₀ : Heap} {L : Addr} {m : Str → Option Value} {news : List (Addr × Obj)} {Q : Value → Shared → Prop}
theorem sliceApplied_13 {sl : Addr} {u v : Tok} {Q : Int × Int × Nat → Shared → Prop} (hs : s.heap.IsSliceOf sl (.int 1 u) (.int 3 v) .none) (h : Q ((1 : Int), 1, 2) s) :
    wpAny (model prog w) A (Builtin.Slice.sliceApplied (.ref sl) (pure (4 : Int))) Q E s := by
  obtain ⟨os, hos, hcs, hds⟩ := id hs
  unfold Builtin.Slice.sliceApplied Builtin.Slice.sliceFields
  refine wpAny_bind (wpAny_bind (wpAny_field hos hds (x := .int 1 u) rfl (wpAny_bind (wpAny_field hos hds (x := .int 3 v) rfl (wpAny_bind (wpAny_field hos hds (x := .none) rfl (wpAny_pure ?_)))))))
  refine wpAny_bind (slicePart_none ?_)
  show wpAny _ _ (if ((1 : Int) == 0) = true then _ else _) _ _ s
  rw [if_neg (by decide)]
  refine wpAny_bind (slicePart_int (wpAny_bind (slicePart_int (wpAny_bind (wpAny_pure ?_)))))
  exact wpAny_pure h
theorem getItem_13 {t sl : Addr} {v1 v2 v3 v4 : Value} {u v : Tok} (ht : IsTup s.heap t #[v1, v2, v3, v4]) (hs : s.heap.IsSliceOf sl (.int 1 u) (.int 3 v) .none)
    (h : Q (.ref s.heap.objs.size) { s with heap := s.heap.push { cls := .type "tuple", data := .seq #[v2, v3] } }) : wpAny (model prog w) A (getItem (.ref t) (.ref sl)) Q E s := by
  have hdrop : sizeOk (.seq #[v2, v3]) := by show (2 : Nat) ≤ sizeLine; decide
  obtain ⟨os, hos, hcs, hds⟩ := id hs
  have hTs : s.TypeIs (.ref sl) "slice" := ⟨os, hos, hcs⟩
  unfold getItem
  try with_reducible refine wpAny_holding ?_
  first | refine wpAny_bind (wpAny_pure ?_) | skip
  refine wpAny_bind (wpAny_sequenceKey ht.typeIs (by decide) ?_)
  refine wpAny_bind (wpAny_callSpecial?_slot (name := Str.ofString "__getitem__") ht.typeIs slot_tuple_getitem
    (wpAny_call_entry slot_tuple_getitem ht.typeIs entry_tuple_getitem ?_ (args_tuple_getitem _ _)))
  show wpAny _ _ (Builtin.Tuple.tupleItemsOf (.ref t) >>= _) _ _ s
  refine wpAny_bind (tupleItemsOf_ ht ?_)
  refine wpAny_bind (wpAny_typeOf hTs ?_)
  rw [if_pos (by decide)]
  refine wpAny_bind (sliceApplied_13 hs ?_)
  first
    | exact wpAny_bind (m := Builtin.Tuple.tupleExact _) (wpAny_newObj_type (wpAny_pure ⟨_, rfl, wpAny_pure h⟩) hdrop)
    | exact wpAny_bind (m := Builtin.Tuple.tupleExact _) (wpAny_newObj_type (wpAny_bind (wpAny_pure (wpAny_pure ⟨_, rfl, wpAny_pure h⟩))) hdrop)
    | exact wpAny_bind (wpAny_bind (m := Builtin.Tuple.tupleExact _) (wpAny_newObj_type (wpAny_pure (wpAny_pure ⟨_, rfl, wpAny_pure h⟩)) hdrop))
    | exact wpAny_bind (wpAny_bind (m := Builtin.Tuple.tupleExact _) (wpAny_newObj_type (wpAny_pure ⟨_, rfl, wpAny_pure h⟩) hdrop))
theorem slice_13 {value slice : Expr} {t : Addr} {v1 v2 v3 v4 : Value} {u v : Tok} (F : Fr h₀ L s.heap m) (N : News h₀ L s.heap news) (ht : IsTup s.heap t #[v1, v2, v3, v4])
    (h : ∀ D h', Fr h₀ L h' m → News h₀ L h' ((D, { cls := .type "tuple", data := .seq #[v2, v3] }) :: news) → (∀ p ∈ news, p.1 < D) → Q (.ref D) { s with heap := h' })
    (hs : subscripted slice false (.ref t) (.ref s.heap.objs.size) = operate [.ref s.heap.objs.size, .ref t] (getItem (.ref t) (.ref s.heap.objs.size)) := by with_unfolding_all rfl)
    (hg : ∀ r, letTemporaryGo value (.ref t) r = pure () := by intro _; with_unfolding_all rfl) :
    wpAny (model prog w) A (subscriptTail value slice (.ref t) (.ref s.heap.objs.size)) Q E { s with heap := s.heap.push { cls := .type "slice", data := .fields #[.int 1 u, .int 3 v, .none] } } := by
  have ht' : IsTup (s.heap.push { cls := .type "slice", data := .fields #[.int 1 u, .int 3 v, .none] }) t #[v1, v2, v3, v4] := ht.keeps fun _ _ e => Heap.get?_push_of_some _ e
  refine subscriptTail_ops (s := { s with heap := s.heap.push { cls := .type "slice", data := .fields #[.int 1 u, .int 3 v, .none] } }) ht'.typeIs slot_tuple_getitem.lookup
    (getItem_13 ht' (Heap.IsSliceOf.new ..) ?_) hs hg
  have N1 := News.push (F.push { cls := .type "slice", data := .fields #[.int 1 u, .int 3 v, .none] }) (N.grown fun _ _ e => Heap.get?_push_of_some _ e) { cls := .type "tuple", data := .seq #[v2, v3] }
  refine h _ _ ((F.push _).push _) N1 fun p hp => ?_
  rw [Heap.size_push]
  exact Nat.lt_succ_of_lt (Heap.lt_size (N p hp).1)
/-- the last item of a list -/
theorem item_last {value slice : Expr} {l : Addr} {vs : List Value} {x : Value} {u : Tok} (hl : s.heap.IsList l (vs ++ [x]).toArray) (hn : vs.length ≤ 1000) (h : Q x s)
    (hs : subscripted slice false (.ref l) (.int (-1) u) = operate [.ref l, .int (-1) u] (getItem (.ref l) (.int (-1) u)) := by with_unfolding_all rfl) (hg : ∀ r, letTemporaryGo value (.ref l) r = pure () := by intro _; with_unfolding_all rfl) :
    wpAny (model prog w) A (subscriptTail value slice (.ref l) (.int (-1) u)) Q E s := by
  have hsz : (vs ++ [x]).toArray.size = vs.length + 1 := by simp
  refine subscriptTail_builtin hl.typeIs slot_list_getitem.lookup (wpAny_getItem_list_neg hl (by decide) (by rw [hsz]; omega) (by decide) (x := x) ?_ h) hs hg
  rw [hsz, show ((-1 : Int) + ((vs.length + 1 : Nat) : Int)).toNat = vs.length by omega]
  simp
end

-- part Lb2_2
theorem fillLb2 : (PySem.Challenge.rw_dm0163_02, hd.heap_39) = (PySem.Challenge.rw_dm0163_02, hd.heap_39) := by k_fill; rfl
section
variable {prog : Program} {w : World} {dp un : Nat} {fr : Option (List Env)} {gd : Option (List Code)} {E Q : Value → Shared → Prop} {s : Shared} {h₀ : Heap} {L : Addr} {m : Str → Option Value} {news tl : List (Addr × Obj)}
/-- a list of paragraphs against the empty list -/
theorem ne_nil {a b : Addr} {dv : List Value} {dn : Nat} {ps : List Para} (N : News h₀ L s.heap news) (ha : s.heap.get? a = some (W.listOf dv.toArray dn)) (hb : s.heap.IsList b #[]) (hs : ∀ p ∈ tl, p ∈ news) (hp : All2 (ParaAt tl) ps dv) (hok : ∀ x ∈ ps, okPara x) (hu : un + 100 < cLine)
    (h : Q (.bool (!ps.isEmpty)) s) : wpAny (model prog w) (ar dp un fr gd) (compareOp .NotEq (.ref a) (.ref b)) Q E s := by
  obtain ⟨as, hr⟩ := readsPara N hs hp
  obtain ⟨ob, hob, hcb, nb, hdb⟩ := hb
  refine ne_dataH (reads_list_at ha rfl rfl hr) (reads_list_at hob hcb hdb .nil) (shaped_paras hok) (by decide) (by show un + 64 < _; omega) ?_
  have e : PyData.eqv (.list (ps.map pdata)) (.list []) = ps.isEmpty := by
    cases ps with
    | nil => simp [PyData.eqv, PyData.eqvAll]
    | cons x r => simp [PyData.eqv, PyData.eqvAll]
  rw [e]; exact h
theorem ne_nilT {a b : Addr} {dv : List Value} {dn : Nat} {ps : List Para} (hne : ps ≠ []) (N : News h₀ L s.heap news) (ha : s.heap.get? a = some (W.listOf dv.toArray dn)) (hb : s.heap.IsList b #[]) (hs : ∀ p ∈ tl, p ∈ news) (hp : All2 (ParaAt tl) ps dv) (hok : ∀ x ∈ ps, okPara x) (hu : un + 100 < cLine)
    (h : Q (.bool true) s) : wpAny (model prog w) (ar dp un fr gd) (compareOp .NotEq (.ref a) (.ref b)) Q E s := by
  refine ne_nil N ha hb hs hp hok hu ?_
  cases ps with
  | nil => exact absurd rfl hne
  | cons x r => exact h
theorem drop_last {vs : List Value} {x : Value} : (slicePick (vs ++ [x]).toArray none (some (-1)) none).toList = vs := by
  rw [slicePick_plain]
  have : clipAt (vs ++ [x]).toArray.size (-1) = vs.length := by
    rw [show (-1 : Int) = -((1 : Nat) : Int) from rfl, clipAt_neg _ _ (Nat.le_refl 1)]; simp
  simp only [Option.elim, this]
  simp
theorem slice_init {value slice : Expr} {l : Addr} {vs : List Value} {x : Value} {u : Tok} {A : Around} (F : Fr h₀ L s.heap m) (N : News h₀ L s.heap news) (hl : s.heap.IsList l (vs ++ [x]).toArray) (hn : vs.length ≤ 1000)
    (h : ∀ D h', Fr h₀ L h' m → News h₀ L h' ((D, W.listOf vs.toArray 0) :: news) → (∀ p ∈ news, p.1 < D) → Q (.ref D) { s with heap := h' })
    (hs : subscripted slice false (.ref l) (.ref s.heap.objs.size) = operate [.ref s.heap.objs.size, .ref l] (getItem (.ref l) (.ref s.heap.objs.size)) := by with_unfolding_all rfl) (ht : ∀ r, letTemporaryGo value (.ref l) r = pure () := by intro _; with_unfolding_all rfl) :
    wpAny (model prog w) A (subscriptTail value slice (.ref l) (.ref s.heap.objs.size)) Q E { s with heap := s.heap.push { cls := .type "slice", data := .fields #[.none, .int (-1) u, .none] } } :=
  kmk_slice_lit F N hl .none (.int _ _) drop_last h hs ht (by rw [List.size_toArray, show sizeLine = 16777216 from rfl, List.length_append, List.length_singleton]; omega)
theorem eq_two {a b : Addr} {i j : Int} {x y : Str} {t1 t2 t3 t4 : Tok} (ha : s.heap.get? a = some { cls := .type "tuple", data := .seq #[.int i t1, .str x t2] }) (hb : s.heap.get? b = some { cls := .type "tuple", data := .seq #[.int j t3, .str y t4] }) (hx : ok x) (hy : ok y) (hu : un + 100 < cLine)
    (h : Q (.bool (decide (i = j) && (x == y))) s) : wpAny (model prog w) (ar dp un fr gd) (compareOp .Eq (.ref a) (.ref b)) Q E s := by
  have h1 : PyData.strOk x = true := hx
  have h2 : PyData.strOk y = true := hy
  refine eq_dataH (reads_tuple_at ha rfl rfl (.cons (.int _ _) (.cons (.str _ _) .nil))) (reads_tuple_at hb rfl rfl (.cons (.int _ _) (.cons (.str _ _) .nil))) (by simp [SeqAt.shaped, PyData.canLay0, PyData.canLayAll0, PyData.depth, PyData.depthAll, h1]) (by simp [SeqAt.shaped, PyData.canLay0, PyData.canLayAll0, PyData.depth, PyData.depthAll, h2]) (by show un + 64 < _; omega) ?_
  have e : PyData.eqv (.tuple [.int i, .str x]) (.tuple [.int j, .str y]) = (decide (i = j) && (x == y)) := by
    simp only [PyData.eqv, PyData.eqvAll, Bool.and_true]
    congr 1
  rw [e]; exact h
end
local macro_rules | `(tactic| walk_at "compareOp Eq ref ref") => `(tactic| (k_dflt (refine eq_two (News.get (by k_asm) (by k_mem)) (News.get (by k_asm) (by k_mem)) (by with_reducible assumption) (by with_reducible assumption) (by with_reducible assumption) ?_)))
local macro_rules | `(tactic| walk_at "compareOp NotEq ref ref") => `(tactic| (k_dflt (refine' ne_nil ?kN ?ka ?kb ?ks ?kp ?ko ?ku ?_; (case kN => k_asm); (case ka => exact News.get (by k_asm) (by k_mem)); (case kb => exact News.isList (by k_asm) (by k_mem)); (case kp => with_reducible assumption); (case ko => with_reducible assumption); (case ku => with_reducible assumption); (case ks => walk_at "my mem"))))
local macro_rules | `(tactic| walk_at "subscriptTail") => `(tactic| ((with_reducible show wpAny _ _ (subscriptTail _ _ (Value.ref _) (Value.int (-1) _)) _ _ _); k_dflt (refine item_last (News.isList (by k_asm) (by k_mem)) (by omega) ?_)))
local macro_rules | `(tactic| walk_at "subscriptTail") => `(tactic| ((with_reducible show wpAny _ _ (subscriptTail _ (Expr.Slice (some _) (some _) none _) (Value.ref _) (Value.ref _)) _ _ _); (try dsimp only); k_dflt (refine slice_13 (s := ⟨_, _, _, _, _⟩) (by k_asm) (by k_asm) (News.isTup (by k_asm) (by k_mem)) ?_); intro D' h' F' N' l1; (try k_lt l1); (try k_sweep)))
local macro_rules | `(tactic| walk_at "compareOp NotEq ref ref") => `(tactic| (k_dflt (refine' ne_nilT ?kne ?kN ?ka ?kb ?ks ?kp ?ko ?ku ?_; (case kN => k_asm); (case ka => exact News.get (by k_asm) (by k_mem)); (case kb => exact News.isList (by k_asm) (by k_mem)); (case kp => with_reducible assumption); (case kne => with_reducible assumption); (case ko => with_reducible assumption); (case ku => with_reducible assumption); (case ks => walk_at "my mem"))))
local macro_rules | `(tactic| walk_at "subscriptTail Name Slice ref ref") => `(tactic| ((with_reducible show wpAny _ _ (subscriptTail _ (Expr.Slice none (some _) none _) (Value.ref _) (Value.ref _)) _ _ _); (try dsimp only); k_dflt (refine slice_init (s := ⟨_, _, _, _, _⟩) (by k_asm) (by k_asm) (News.isList (by k_asm) (by k_mem)) (by omega) ?_); intro D' h' F' N' l1; (try k_lt l1); (try k_sweep)))
local macro_rules | `(tactic| walk_at "binaryOp Add str str") => `(tactic| ((with_reducible show wpAny _ _ (binaryOp Operator.Add (Value.str _ _) (Value.str _ _)) _ _ _); (refine KOpn.add (by omega) ?_); intro _ _ _))
local macro_rules | `(tactic| walk_at "eval Name") => `(tactic| ((with_reducible show wpAny _ _ (eval (Expr.Name _ _) (envOfC _ _ _ _ _)) _ _ _); k_dflt (refine' nameX_L ?F ?v ?_ ?a ?b; (case a => rfl); (case b => rfl); (case F => k_asm); (case v => exact (if_neg (by decide)).trans (by with_reducible assumption)); k_whole)))
section
variable {prog : Program} {w : World} {dp un : Nat} {fr : Option (List Env)} {gd : Option (List Code)} {s : Shared} {h₀ : Heap} {p : Program} {loose : List Str} {mean : ExcName → Option Value} {mg mb : Str → Option Value} {L : Addr} {h : Heap} {tk : Nat} {m : Str → Option Value} {tl : List (Addr × Obj)} {o5 uo lo' oI : Obj} {I : Addr} {ul ll dl : Addr} {uv lv dv : List Value} {dn : Nat} {up lo : List Str}
set_option maxHeartbeats 4000000 in
theorem lt0 (X : (hd.heap_39 w.params).In h₀) (T : Top p loose mean mg mb h₀) (hr : dp + 80 < recursionLimit) (hu : un + 100 < cLine) (hU : StrsAre uv up) (nU : up.length ≤ 64) (F : Fr h₀ L h m) (q1 : m (Str.ofString "upper") = some (.ref ul)) (q2 : m (Str.ofString "due") = some (.ref dl)) {f l : Int} {H x : Str} {t1 t2 t3 t4 : Tok} (q3 : m (Str.ofString "first") = some (.int f t1)) (q4 : m (Str.ofString "last") = some (.int l t2)) (q5 : m (Str.ofString "header") = some (.str H t3)) (q6 : m (Str.ofString "text") = some (.str x t4)) (N : News h₀ L h ((105, o5) :: (dl, W.listOf dv.toArray dn) :: (ul, W.listOf uv.toArray 0) :: (I, oI) :: tl)) : wpAny (model prog w) (ar dp un fr gd) (exec (lawForAt 0) (lawEnv L)) (St h₀ L s (fun m' news' => ∃ pa k1 k2, pa ≠ 105 ∧ pa ≠ I ∧ m' = (fun z => if z = Str.ofString "paragraph" then some (.ref pa) else m z) ∧ news' = (105, o5) :: (dl, W.listOf dv.toArray dn) :: (ul, W.listOf uv.toArray 0) :: (I, oI) :: (pa, paraObj (f + up.length) (l + up.length) H x k1 k2 t3 t4) :: tl)) (fun _ _ => False) { s with heap := h, toks := tk } := by
  have luv := hU.length
  walk_at "law open"
  walk_at "my steps"
  all_goals (try k_data)
  with_reducible rename Fr _ _ _ _ => Fn
  with_reducible rename News _ _ _ _ => Nn
  rw [luv] at Nn
  refine' stMk Fn Nn _ ?sub ⟨_, _, _, ?n1, ?n2, rfl, rfl⟩
  case sub => walk_at "my sub"
  case n1 => k_ne
  case n2 => k_ne
set_option maxHeartbeats 4000000 in
theorem lt1a (X : (hd.heap_39 w.params).In h₀) (T : Top p loose mean mg mb h₀) (hr : dp + 80 < recursionLimit) (hu : un + 100 < cLine) (hU : StrsAre uv up) (nU : up.length ≤ 64) (F : Fr h₀ L h m) (q1 : m (Str.ofString "upper") = some (.ref ul)) (q2 : m (Str.ofString "due") = some (.ref dl)) {f l : Int} {H x : Str} {t1 t2 t3 t4 : Tok} (q3 : m (Str.ofString "first") = some (.int f t1)) (q4 : m (Str.ofString "last") = some (.int l t2)) (q5 : m (Str.ofString "header") = some (.str H t3)) (q6 : m (Str.ofString "text") = some (.str x t4)) {pa : Addr} (q7 : m (Str.ofString "paragraph") = some (.ref pa)) (hf : f ≠ 1) (N : News h₀ L h ((105, o5) :: (dl, W.listOf dv.toArray dn) :: (ul, W.listOf uv.toArray 0) :: (I, oI) :: tl)) : wpAny (model prog w) (ar dp un fr gd) (exec (lawForAt 1) (lawEnv L)) (St h₀ L s (fun m' news' => m' = m ∧ news' = (105, o5) :: (dl, W.listOf dv.toArray dn) :: (ul, W.listOf uv.toArray 0) :: (I, oI) :: tl)) (fun _ _ => False) { s with heap := h, toks := tk } := by
  walk_at "law open"
  walk_at "my steps"
  all_goals (try k_data)
  · exact absurd ‹f = 1› hf
  · walk_at "my stay"
set_option maxHeartbeats 4000000 in
theorem lt1b (X : (hd.heap_39 w.params).In h₀) (T : Top p loose mean mg mb h₀) (hr : dp + 80 < recursionLimit) (hu : un + 100 < cLine) (hU : StrsAre uv up) (nU : up.length ≤ 64) (F : Fr h₀ L h m) (q1 : m (Str.ofString "upper") = some (.ref ul)) (q2 : m (Str.ofString "due") = some (.ref dl)) {f l : Int} {H x : Str} {t1 t2 t3 t4 : Tok} (q3 : m (Str.ofString "first") = some (.int f t1)) (q4 : m (Str.ofString "last") = some (.int l t2)) (q5 : m (Str.ofString "header") = some (.str H t3)) (q6 : m (Str.ofString "text") = some (.str x t4)) {pa : Addr} (q7 : m (Str.ofString "paragraph") = some (.ref pa)) {ps : List Para} (hp : All2 (ParaAt tl) ps dv) (hok : ∀ x ∈ ps, okPara x) (hf : f = 1) (hps : ps = []) (N : News h₀ L h ((105, o5) :: (dl, W.listOf dv.toArray dn) :: (ul, W.listOf uv.toArray 0) :: (I, oI) :: tl)) : wpAny (model prog w) (ar dp un fr gd) (exec (lawForAt 1) (lawEnv L)) (St h₀ L s (fun m' news' => m' = m ∧ news' = (105, o5) :: (dl, W.listOf dv.toArray dn) :: (ul, W.listOf uv.toArray 0) :: (I, oI) :: tl)) (fun _ _ => False) { s with heap := h, toks := tk } := by
  subst hf
  subst hps
  walk_at "law open"
  walk_at "my steps"
  all_goals (try k_data)
  walk_at "my stay"
set_option maxHeartbeats 4000000 in
theorem lt1c (X : (hd.heap_39 w.params).In h₀) (T : Top p loose mean mg mb h₀) (hr : dp + 80 < recursionLimit) (hu : un + 100 < cLine) (hU : StrsAre uv up) (nU : up.length ≤ 64) (F : Fr h₀ L h m) (q1 : m (Str.ofString "upper") = some (.ref ul)) (q2 : m (Str.ofString "due") = some (.ref dl)) {f l : Int} {H x : Str} {t1 t2 t3 t4 : Tok} (q3 : m (Str.ofString "first") = some (.int f t1)) (q4 : m (Str.ofString "last") = some (.int l t2)) (q5 : m (Str.ofString "header") = some (.str H t3)) (q6 : m (Str.ofString "text") = some (.str x t4)) {pa : Addr} (q7 : m (Str.ofString "paragraph") = some (.ref pa)) {ps : List Para} {iv : List Value} {a : Addr} {f' l' : Int} {H' x' : Str} {k1 k2 k3 k4 : Tok} (hv : iv.length ≤ 900) (hp : All2 (ParaAt tl) ps (iv ++ [Value.ref a])) (hne : ps ≠ []) (hok : ∀ x ∈ ps, okPara x) (kH : ok H) (kH' : ok H') (hf : f = 1) (hm : ¬ (l' = up.length + 1 ∧ H' = H)) (N : News h₀ L h ((105, o5) :: (dl, W.listOf (iv ++ [Value.ref a]).toArray dn) :: (ul, W.listOf uv.toArray 0) :: (I, oI) :: (a, paraObj f' l' H' x' k1 k2 k3 k4) :: tl)) : wpAny (model prog w) (ar dp un fr gd) (exec (lawForAt 1) (lawEnv L)) (St h₀ L s (fun m' news' => m' = m ∧ news' = (105, o5) :: (dl, W.listOf (iv ++ [Value.ref a]).toArray dn) :: (ul, W.listOf uv.toArray 0) :: (I, oI) :: (a, paraObj f' l' H' x' k1 k2 k3 k4) :: tl)) (fun _ _ => False) { s with heap := h, toks := tk } := by
  subst hf
  have luv := hU.length
  walk_at "law open"
  walk_at "my steps"
  all_goals (try k_data)
  · have q := ‹(decide (l' = uv.length + 1) && H' == H) = true›
    simp only [Bool.and_eq_true, decide_eq_true_eq, beq_iff_eq, luv] at q
    exact absurd q hm
  · walk_at "my stay"
set_option maxHeartbeats 4000000 in
theorem lt1d (X : (hd.heap_39 w.params).In h₀) (T : Top p loose mean mg mb h₀) (hr : dp + 80 < recursionLimit) (hu : un + 100 < cLine) (hU : StrsAre uv up) (nU : up.length ≤ 64) (F : Fr h₀ L h m) (q1 : m (Str.ofString "upper") = some (.ref ul)) (q2 : m (Str.ofString "due") = some (.ref dl)) {f l : Int} {H x : Str} {t1 t2 t3 t4 : Tok} (q3 : m (Str.ofString "first") = some (.int f t1)) (q4 : m (Str.ofString "last") = some (.int l t2)) (q5 : m (Str.ofString "header") = some (.str H t3)) (q6 : m (Str.ofString "text") = some (.str x t4)) {pa : Addr} (q7 : m (Str.ofString "paragraph") = some (.ref pa)) {ps : List Para} {iv : List Value} {a : Addr} {f' l' : Int} {H' x' : Str} {k1 k2 k3 k4 : Tok} (hv : iv.length ≤ 900) (hp : All2 (ParaAt tl) ps (iv ++ [Value.ref a])) (hne : ps ≠ []) (hok : ∀ x ∈ ps, okPara x) (kH : ok H) (kH' : ok H') (nx : x.length ≤ 5000) (nx' : x'.length ≤ 400000) (hf : f = 1) (hm : l' = up.length + 1 ∧ H' = H) (N : News h₀ L h ((105, o5) :: (dl, W.listOf (iv ++ [Value.ref a]).toArray dn) :: (ul, W.listOf uv.toArray 0) :: (I, oI) :: (a, paraObj f' l' H' x' k1 k2 k3 k4) :: tl)) : wpAny (model prog w) (ar dp un fr gd) (exec (lawForAt 1) (lawEnv L)) (St h₀ L s (fun m' news' => ∃ pa2 dl2 j1 j2 j3 j4, pa2 ≠ 105 ∧ pa2 ≠ I ∧ dl2 ≠ 105 ∧ dl2 ≠ I ∧ m' = (fun z => if z = Str.ofString "due" then some (.ref dl2) else if z = Str.ofString "paragraph" then some (.ref pa2) else m z) ∧ news' = (105, o5) :: (dl2, W.listOf iv.toArray 0) :: (ul, W.listOf uv.toArray 0) :: (I, oI) :: (pa2, paraObj f' (l + up.length) H (x' ++ x) j1 j2 j3 j4) :: tl)) (fun _ _ => False) { s with heap := h, toks := tk } := by
  subst hf
  have luv := hU.length
  walk_at "law open"
  walk_at "my steps"
  all_goals (try k_data)
  · with_reducible rename Fr _ _ _ _ => Fn
    with_reducible rename News _ _ _ _ => Nn
    rw [luv] at Nn
    refine' stMk Fn Nn _ ?sub ⟨_, _, _, _, _, _, ?n1, ?n2, ?n3, ?n4, rfl, rfl⟩
    case sub => walk_at "my sub"
    case n1 => k_ne
    case n2 => k_ne
    case n3 => k_ne
    case n4 => k_ne
  · have q := ‹(decide (l' = uv.length + 1) && H' == H) = false›
    simp [luv, hm] at q
set_option maxHeartbeats 4000000 in
theorem lt2 (X : (hd.heap_39 w.params).In h₀) (T : Top p loose mean mg mb h₀) (hr : dp + 80 < recursionLimit) (hu : un + 100 < cLine) (hU : StrsAre uv up) (nU : up.length ≤ 64) (F : Fr h₀ L h m) (q1 : m (Str.ofString "upper") = some (.ref ul)) (q2 : m (Str.ofString "due") = some (.ref dl)) {f l : Int} {H x : Str} {t1 t2 t3 t4 : Tok} (q3 : m (Str.ofString "first") = some (.int f t1)) (q4 : m (Str.ofString "last") = some (.int l t2)) (q5 : m (Str.ofString "header") = some (.str H t3)) (q6 : m (Str.ofString "text") = some (.str x t4)) {pa : Addr} (q7 : m (Str.ofString "paragraph") = some (.ref pa)) (hv : dv.length ≤ 900) (N : News h₀ L h ((105, o5) :: (dl, W.listOf dv.toArray dn) :: (ul, W.listOf uv.toArray 0) :: (I, oI) :: tl)) : wpAny (model prog w) (ar dp un fr gd) (exec (lawForAt 2) (lawEnv L)) (St h₀ L s (fun m' news' => ∃ dl2, dl2 ≠ 105 ∧ dl2 ≠ I ∧ m' = (fun z => if z = Str.ofString "due" then some (.ref dl2) else m z) ∧ news' = (105, o5) :: (dl2, W.listOf (dv ++ [Value.ref pa]).toArray 0) :: (ul, W.listOf uv.toArray 0) :: (I, oI) :: tl)) (fun _ _ => False) { s with heap := h, toks := tk } := by
  walk_at "law open"
  walk_at "my steps"
  all_goals (try k_data)
  with_reducible rename Fr _ _ _ _ => Fn
  with_reducible rename News _ _ _ _ => Nn
  refine' stMk Fn Nn _ ?sub ⟨_, ?n1, ?n2, rfl, rfl⟩
  case sub => walk_at "my sub"
  case n1 => k_ne
  case n2 => k_ne
end

-- part Pv_2
theorem All2.snoc_inv {α β : Type} {R : α → β → Prop} {a : α} : ∀ {as : List α} {vs : List β}, All2 R (as ++ [a]) vs → ∃ bs b, vs = bs ++ [b] ∧ All2 R as bs ∧ R a b
  | [], _, .cons x .nil => ⟨[], _, rfl, .nil, x⟩
  | _ :: as, _, .cons x r => by
    obtain ⟨bs, b, rfl, h1, h2⟩ := All2.snoc_inv (as := as) r
    exact ⟨_ :: bs, b, rfl, .cons x h1, h2⟩
theorem joinRow_ok {p : Int} {r : Str} {ps : List Par} (hr : ok r) (h : ∀ x ∈ ps, ok x.2.2) : ∀ x ∈ joinRow p r ps, ok x.2.2 := by
  intro x hx
  cases ps with
  | nil => rw [joinRow, List.mem_singleton] at hx; subst hx; exact ok_hdr hr
  | cons y t =>
    obtain ⟨f, l, H⟩ := y
    rw [joinRow] at hx
    split at hx
    · rcases List.mem_cons.mp hx with rfl | hx
      · exact (h (f, l, H) List.mem_cons_self : ok H)
      · exact h x (List.mem_cons_of_mem _ hx)
    · rcases List.mem_cons.mp hx with rfl | hx
      · exact ok_hdr hr
      · exact h x hx
theorem runs_ok : ∀ (rs : List Str) (p : Int), (∀ r ∈ rs, ok r) → ∀ x ∈ runs p rs, ok x.2.2
  | [], p, _, x, h => nomatch h
  | r :: rs, p, hr, x, h => by
    have ih := runs_ok rs (p + 1) (fun y hy => hr y (List.mem_cons_of_mem _ hy))
    rw [runs] at h
    split at h
    · exact joinRow_ok (hr r List.mem_cons_self) ih x h
    · exact ih x h
theorem sum_leP {k : Nat} : ∀ (l : List Nat), (∀ x ∈ l, x ≤ k) → l.sum ≤ l.length * k
  | [], _ => by simp
  | a :: r, h => by
    have := sum_leP r (fun x hx => h x (List.mem_cons_of_mem _ hx))
    have ha := h a List.mem_cons_self
    rw [List.sum_cons, List.length_cons, Nat.add_mul]
    omega
theorem nl_len (r : Str) : (nl r).length = r.length + 1 := by
  unfold nl
  rw [PySem.Str.length_append]; rfl
theorem cut_len {rows : List Str} (hn : rows.length ≤ 64) (hL : ∀ r ∈ rows, r.length ≤ 64) (a b : Int) : (cut rows a b).length ≤ 5000 := by
  unfold cut
  refine Nat.le_trans (join_len _) (Nat.le_trans (sum_leP (k := 65) _ ?_) ?_)
  · intro x hx
    obtain ⟨y, hy, rfl⟩ := List.mem_map.mp hx
    obtain ⟨z, hz, rfl⟩ := List.mem_map.mp hy
    have := hL z (List.mem_of_mem_take (List.mem_of_mem_drop hz))
    rw [nl_len]; omega
  · simp only [List.length_map, List.length_drop, List.length_take]
    have : min (b - 1).toNat rows.length - (a - 1).toNat ≤ 64 := by omega
    omega
def goodPara (k : Nat) (x : Para) : Prop := okPara x ∧ x.2.2.2.length ≤ 5000 * k
theorem paras_good {rows : List Str} (hn : rows.length ≤ 64) (hL : ∀ r ∈ rows, r.length ≤ 64) (hk : ∀ r ∈ rows, ok r) : ∀ x ∈ paras rows, goodPara 1 x := by
  intro x hx
  obtain ⟨y, hy, rfl⟩ := List.mem_map.mp hx
  exact ⟨⟨runs_ok rows 1 hk y hy, ok_cut hk _ _⟩, cut_len hn hL _ _⟩
theorem paras_len (rows : List Str) : (paras rows).length ≤ rows.length := by
  unfold paras
  rw [List.length_map]; exact runs_len rows 1
theorem addPar_good {U : Int} {k : Nat} {due : List Para} {x : Para} (hx : goodPara 1 x) (hd : ∀ y ∈ due, goodPara k y) (hk : 1 ≤ k) : (∀ y ∈ addPar U due x, goodPara (k + 1) y) ∧ (addPar U due x).length ≤ due.length + 1 := by
  have up : ∀ y ∈ due, goodPara (k + 1) y := fun y hy => ⟨(hd y hy).1, Nat.le_trans (hd y hy).2 (by omega)⟩
  have one : goodPara (k + 1) (x.1 + U, x.2.1 + U, x.2.2.1, x.2.2.2) := ⟨hx.1, by have := hx.2; simp only; omega⟩
  have plain : (∀ y ∈ due ++ [(x.1 + U, x.2.1 + U, x.2.2.1, x.2.2.2)], goodPara (k + 1) y) ∧ (due ++ [(x.1 + U, x.2.1 + U, x.2.2.1, x.2.2.2)]).length ≤ due.length + 1 := by
    refine ⟨fun y hy => ?_, by simp⟩
    rcases List.mem_append.mp hy with hy | hy
    · exact up y hy
    · rw [List.mem_singleton.mp hy]; exact one
  unfold addPar
  split
  · rename_i z e
    split
    · refine ⟨fun y hy => ?_, by simp⟩
      rcases List.mem_append.mp hy with hy | hy
      · exact up y (List.dropLast_subset _ hy)
      · rw [List.mem_singleton.mp hy]
        have hz := hd z (List.mem_of_getLast? e)
        refine ⟨⟨hx.1.1, ok_app hz.1.2 hx.1.2⟩, ?_⟩
        simp only [PySem.Str.length_append]
        have h1 := hz.2
        have h2 := hx.2
        omega
    · exact plain
  · exact plain
theorem foldl_good {U : Int} : ∀ (xs : List Para) {k : Nat} {due : List Para}, (∀ x ∈ xs, goodPara 1 x) → (∀ y ∈ due, goodPara k y) → 1 ≤ k → (∀ y ∈ xs.foldl (addPar U) due, goodPara (k + xs.length) y) ∧ (xs.foldl (addPar U) due).length ≤ due.length + xs.length
  | [], k, due, _, hd, _ => ⟨hd, Nat.le_refl _⟩
  | x :: xs, k, due, hx, hd, hk => by
    have a := addPar_good (U := U) (hx x List.mem_cons_self) hd hk
    have b := foldl_good (U := U) xs (fun y hy => hx y (List.mem_cons_of_mem _ hy)) a.1 (by omega)
    rw [List.foldl_cons, List.length_cons]
    refine ⟨fun y hy => ?_, by have := b.2; omega⟩
    have := b.1 y hy
    rwa [show k + 1 + xs.length = k + (xs.length + 1) by omega] at this
/-- due after i paragraphs of the lower page -/
noncomputable def dueAt (up lo : List Str) (i : Nat) : List Para := ((paras lo).take i).foldl (addPar up.length) (paras up)
theorem due_succ {up lo : List Str} {i : Nat} {x : Para} (h : (paras lo)[i]? = some x) : dueAt up lo (i + 1) = addPar up.length (dueAt up lo i) x := by
  unfold dueAt
  rw [List.take_add_one, h, Option.toList_some, List.foldl_append]; rfl
theorem due_end (up lo : List Str) : dueAt up lo (paras lo).length = paras (up ++ lo) := by
  unfold dueAt
  rw [List.take_length]; exact foldl_runs
theorem due_good {up lo : List Str} {i : Nat} (nU : up.length ≤ 64) (LU : ∀ r ∈ up, r.length ≤ 64) (kU : ∀ r ∈ up, ok r) (nL : lo.length ≤ 64) (LL : ∀ r ∈ lo, r.length ≤ 64) (kL : ∀ r ∈ lo, ok r) : (∀ x ∈ dueAt up lo i, okPara x ∧ x.2.2.2.length ≤ 400000) ∧ (dueAt up lo i).length ≤ 128 := by
  have h1 := paras_len up
  have h2 := paras_len lo
  have h3 : ((paras lo).take i).length ≤ 64 := by rw [List.length_take]; omega
  have a := foldl_good (U := up.length) ((paras lo).take i) (fun x hx => paras_good nL LL kL x (List.mem_of_mem_take hx)) (paras_good nU LU kU) (Nat.le_refl 1)
  refine ⟨fun x hx => ⟨(a.1 x hx).1, ?_⟩, ?_⟩
  · have := (a.1 x hx).2; omega
  · have := a.2
    unfold dueAt
    omega

-- part Lb3_2
theorem fillLb3 : (PySem.Challenge.rw_dm0163_02, hd.heap_39) = (PySem.Challenge.rw_dm0163_02, hd.heap_39) := by k_fill; rfl
section
variable {prog : Program} {w : World} {dp un : Nat} {fr : Option (List Env)} {gd : Option (List Code)} {s : Shared} {h₀ : Heap} {p : Program} {loose : List Str} {mean : ExcName → Option Value} {mg mb : Str → Option Value} {L : Addr} {h : Heap} {tk : Nat} {m : Str → Option Value} {tl : List (Addr × Obj)} {o5 oI : Obj} {I ul ll dl : Addr} {uv lv dv : List Value} {dn : Nat} {up lo : List Str}
theorem ParaAt.mono {tl tl' : List (Addr × Obj)} (hs : ∀ p ∈ tl, p ∈ tl') {x : Para} {v : Value} (h : ParaAt tl x v) : ParaAt tl' x v := by
  obtain ⟨a, k1, k2, k3, k4, e1, e2⟩ := h
  exact ⟨a, k1, k2, k3, k4, e1, hs _ e2⟩
/-- what the second statement of the turn leaves -/
def Mid (L : Addr) (m : Str → Option Value) (o5 oI : Obj) (I ul : Addr) (uv : List Value) (tl : List (Addr × Obj)) (goal : List Para) (m' : Str → Option Value) (news' : List (Addr × Obj)) : Prop :=
  ∃ dl dv dn pa par k1 k2 k3 k4 base tl', (∀ z, z ≠ Str.ofString "due" → z ≠ Str.ofString "paragraph" → m' z = m z) ∧ m' (Str.ofString "due") = some (.ref dl) ∧ m' (Str.ofString "paragraph") = some (.ref pa) ∧ base ++ [par] = goal ∧ All2 (ParaAt tl') base dv ∧
    (pa, paraObj par.1 par.2.1 par.2.2.1 par.2.2.2 k1 k2 k3 k4) ∈ tl' ∧ (∀ p ∈ tl, p ∈ tl') ∧ (∀ p ∈ tl', p.1 ≠ 105 ∧ p.1 ≠ I) ∧ dl ≠ 105 ∧ dl ≠ I ∧ news' = (105, o5) :: (dl, W.listOf dv.toArray dn) :: (ul, W.listOf uv.toArray 0) :: (I, oI) :: tl'
theorem lmid (X : (hd.heap_39 w.params).In h₀) (T : Top p loose mean mg mb h₀) (hr : dp + 80 < recursionLimit) (hu : un + 100 < cLine) (hU : StrsAre uv up) (nU : up.length ≤ 64) (F : Fr h₀ L h m) (q1 : m (Str.ofString "upper") = some (.ref ul)) (q2 : m (Str.ofString "due") = some (.ref dl)) {x : Para} {t1 t2 t3 t4 : Tok} (q3 : m (Str.ofString "first") = some (.int x.1 t1)) (q4 : m (Str.ofString "last") = some (.int x.2.1 t2)) (q5 : m (Str.ofString "header") = some (.str x.2.2.1 t3)) (q6 : m (Str.ofString "text") = some (.str x.2.2.2 t4)) {pa : Addr} {k1 k2 k3 k4 : Tok} (q7 : m (Str.ofString "paragraph") = some (.ref pa))
    {ps : List Para} (hp : All2 (ParaAt tl) ps dv) (hok : ∀ x ∈ ps, okPara x ∧ x.2.2.2.length ≤ 400000) (nps : ps.length ≤ 128) (kx : goodPara 1 x) (ne : ∀ p ∈ (pa, paraObj (x.1 + up.length) (x.2.1 + up.length) x.2.2.1 x.2.2.2 k1 k2 k3 k4) :: tl, p.1 ≠ 105 ∧ p.1 ≠ I) (nd5 : dl ≠ 105) (ndI : dl ≠ I)
    (N : News h₀ L h ((105, o5) :: (dl, W.listOf dv.toArray dn) :: (ul, W.listOf uv.toArray 0) :: (I, oI) :: (pa, paraObj (x.1 + up.length) (x.2.1 + up.length) x.2.2.1 x.2.2.2 k1 k2 k3 k4) :: tl)) :
    wpAny (model prog w) (ar dp un fr gd) (exec (lawForAt 1) (lawEnv L)) (St h₀ L s (Mid L m o5 oI I ul uv tl (addPar up.length ps x))) (fun _ _ => False) { s with heap := h, toks := tk } := by
  have hok1 : ∀ x ∈ ps, okPara x := fun y hy => (hok y hy).1
  have ldv := hp.len
  have hp' : All2 (ParaAt ((pa, paraObj (x.1 + up.length) (x.2.1 + up.length) x.2.2.1 x.2.2.2 k1 k2 k3 k4) :: tl)) ps dv := hp.imp fun a b hab => hab.mono fun p hp => .tail _ hp
  have stay : ∀ f s₂, addPar up.length ps x = ps ++ [(x.1 + up.length, x.2.1 + up.length, x.2.2.1, x.2.2.2)] → St h₀ L s (fun m' news' => m' = m ∧ ∀ p ∈ (105, o5) :: (dl, W.listOf dv.toArray dn) :: (ul, W.listOf uv.toArray 0) :: (I, oI) :: (pa, paraObj (x.1 + up.length) (x.2.1 + up.length) x.2.2.1 x.2.2.2 k1 k2 k3 k4) :: tl, p ∈ news') f s₂ → St h₀ L s (Mid L m o5 oI I ul uv tl (addPar up.length ps x)) f s₂ := by
    rintro f s₂ e ⟨rfl, h', tk', m', news', rfl, F', N', rfl, hs⟩
    exact ⟨rfl, h', tk', m', _, rfl, F', newsSub N' hs, dl, dv, dn, pa, _, k1, k2, k3, k4, ps, _, fun _ _ _ => rfl, q2, q7, e.symm, hp', .head _, fun p hp => .tail _ hp, ne, nd5, ndI, rfl⟩
  by_cases hf : x.1 = 1
  · cases eps : ps.reverse with
    | nil =>
      have e0 : ps = [] := by simpa using eps
      refine wpAny_mono (lt1b X T hr hu hU nU F q1 q2 q3 q4 q5 q6 q7 hp' hok1 hf e0 N) (fun f s₂ hq => stay f s₂ (by rw [e0]; rfl) ?_) fun _ _ e => e
      obtain ⟨r1, h', tk', m', news', r2, F', N', r3, r4⟩ := hq
      exact ⟨r1, h', tk', m', news', r2, F', N', r3, by rw [r4]; exact fun p hp => hp⟩
    | cons z rp =>
      have e0 : ps = rp.reverse ++ [z] := by rw [← List.reverse_reverse ps, eps]; simp
      have hgl : ps.getLast? = some z := by rw [e0]; simp
      have hz := hok z (by rw [e0]; simp)
      have hp2 := hp
      rw [e0] at hp2
      obtain ⟨iv, v, rfl, hiv, a, j1, j2, j3, j4, rfl, ha⟩ := hp2.snoc_inv
      have hne : ps ≠ [] := by rw [e0]; simp
      have N2 : News h₀ L h ((105, o5) :: (dl, W.listOf (iv ++ [Value.ref a]).toArray dn) :: (ul, W.listOf uv.toArray 0) :: (I, oI) :: (a, paraObj z.1 z.2.1 z.2.2.1 z.2.2.2 j1 j2 j3 j4) :: (pa, paraObj (x.1 + up.length) (x.2.1 + up.length) x.2.2.1 x.2.2.2 k1 k2 k3 k4) :: tl) := by
        refine newsSub N fun q hq => ?_
        simp only [List.mem_cons] at hq ⊢
        rcases hq with hq | hq | hq | hq | hq | hq | hq
        · exact .inl hq
        · exact .inr (.inl hq)
        · exact .inr (.inr (.inl hq))
        · exact .inr (.inr (.inr (.inl hq)))
        · rw [hq]; exact .inr (.inr (.inr (.inr (.inr ha))))
        · exact .inr (.inr (.inr (.inr (.inl hq))))
        · exact .inr (.inr (.inr (.inr (.inr hq))))
      have nv : iv.length ≤ 900 := by rw [List.length_append, List.length_singleton] at ldv; omega
      by_cases hm : z.2.1 = up.length + 1 ∧ z.2.2.1 = x.2.2.1
      · refine wpAny_mono (lt1d X T hr hu hU nU F q1 q2 q3 q4 q5 q6 q7 nv hp' hne hok1 kx.1.1 hz.1.1 kx.2 hz.2 hf hm N2) (fun f s₂ hq => ?_) fun _ _ e => e
        obtain ⟨rfl, h', tk', m', news', rfl, F', N', pa2, dl2, i1, i2, i3, i4, n1, n2, n3, n4, rfl, rfl⟩ := hq
        refine ⟨rfl, h', tk', _, _, rfl, F', N', dl2, iv, 0, pa2, (z.1, x.2.1 + up.length, x.2.2.1, z.2.2.2 ++ x.2.2.2), i1, i2, i3, i4, rp.reverse, _, ?_, rfl, rfl, ?_, ?_, .head _, fun p hp => .tail _ (.tail _ hp), ?_, n3, n4, rfl⟩
        · intro y h1 h2
          show (if _ then _ else if _ then _ else _) = _
          rw [if_neg h1, if_neg h2]
        · rw [addPar_hit hgl ⟨hf, hm⟩, e0, List.dropLast_concat]
        · exact hiv.imp fun _ _ hab => hab.mono fun p hp => .tail _ (.tail _ hp)
        · exact List.forall_mem_cons.mpr ⟨⟨n1, n2⟩, ne⟩
      · refine wpAny_mono (lt1c X T hr hu hU nU F q1 q2 q3 q4 q5 q6 q7 nv hp' hne hok1 kx.1.1 hz.1.1 hf hm N2) (fun f s₂ hq => stay f s₂ (addPar_miss hgl (fun q => hm q.2)) ?_) fun _ _ e => e
        obtain ⟨r1, h', tk', m', news', r2, F', N', r3, r4⟩ := hq
        refine ⟨r1, h', tk', m', news', r2, F', N', r3, ?_⟩
        rw [r4]
        intro q hq
        simp only [List.mem_cons] at hq ⊢
        rcases hq with hq | hq | hq | hq | hq | hq
        · exact .inl hq
        · exact .inr (.inl hq)
        · exact .inr (.inr (.inl hq))
        · exact .inr (.inr (.inr (.inl hq)))
        · exact .inr (.inr (.inr (.inr (.inr (.inl hq)))))
        · exact .inr (.inr (.inr (.inr (.inr (.inr hq)))))
  · refine wpAny_mono (lt1a X T hr hu hU nU F q1 q2 q3 q4 q5 q6 q7 hf N) (fun f s₂ hq => stay f s₂ (addPar_far hf) ?_) fun _ _ e => e
    obtain ⟨r1, h', tk', m', news', r2, F', N', r3, r4⟩ := hq
    exact ⟨r1, h', tk', m', news', r2, F', N', r3, by rw [r4]; exact fun p hp => hp⟩
/-- the loop's invariant -/
def LJ (up lo : List Str) (ul ll : Addr) (uv : List Value) (o5 : Obj) (tl₀ : List (Addr × Obj)) (i : Nat) (m : Str → Option Value) (news : List (Addr × Obj)) : Prop :=
  ∃ dl dv dn tl, m (Str.ofString "upper") = some (.ref ul) ∧ m (Str.ofString "lower") = some (.ref ll) ∧ m (Str.ofString "due") = some (.ref dl) ∧ All2 (ParaAt tl) (dueAt up lo i) dv ∧ (∀ p ∈ tl₀, p ∈ tl) ∧ dl ≠ 105 ∧ (∀ p ∈ tl, p.1 ≠ 105) ∧ news = (105, o5) :: (dl, W.listOf dv.toArray dn) :: (ul, W.listOf uv.toArray 0) :: tl
theorem lturn {i : Nat} {x : Para} {tl₀ : List (Addr × Obj)} {Q : Flow → Shared → Prop} (X : (hd.heap_39 w.params).In h₀) (T : Top p loose mean mg mb h₀) (hr : dp + 80 < recursionLimit) (hu : un + 100 < cLine) (hU : StrsAre uv up) (nU : up.length ≤ 64) (LU : ∀ r ∈ up, r.length ≤ 64) (kU : ∀ r ∈ up, ok r) (nL : lo.length ≤ 64) (LL : ∀ r ∈ lo, r.length ≤ 64) (kL : ∀ r ∈ lo, ok r)
    (hx : (paras lo)[i]? = some x) {t1 t2 t3 t4 : Tok} {m₁ : Str → Option Value} {news₁ : List (Addr × Obj)} (J : LJ up lo ul ll uv o5 tl₀ i m₁ news₁) (hne : ∀ p ∈ news₁, p.1 ≠ I) (F : Fr h₀ L h (set4 (Str.ofString "first") (Str.ofString "last") (Str.ofString "header") (Str.ofString "text") (.int x.1 t1) (.int x.2.1 t2) (.str x.2.2.1 t3) (.str x.2.2.2 t4) m₁)) (N : News h₀ L h ((I, oI) :: news₁)) :
    wpAny (model prog w) (ar dp un fr gd) (execs lawFor (lawEnv L)) (Turned h₀ L s I oI (LJ up lo ul ll uv o5 tl₀ (i + 1)) Q) (fun _ _ => False) { s with heap := h, toks := tk } := by
  obtain ⟨dl, dv, dn, tl, j1, j2, j3, hall, hsub, nd5, n5, rfl⟩ := J
  have hx1 : goodPara 1 x := paras_good nL LL kL x (List.mem_of_getElem? hx)
  have hD := due_good (i := i) nU LU kU nL LL kL
  have ndI : dl ≠ I := hne (dl, W.listOf dv.toArray dn) (.tail _ (.head _))
  have nuI : ul ≠ I := hne (ul, W.listOf uv.toArray 0) (.tail _ (.tail _ (.head _)))
  have n5I : 105 ≠ I := hne (105, o5) (.head _)
  have ntI : ∀ p ∈ tl, p.1 ≠ I := fun p hp => hne p (.tail _ (.tail _ (.tail _ hp)))
  have rd : ∀ z, z ≠ Str.ofString "first" → z ≠ Str.ofString "last" → z ≠ Str.ofString "header" → z ≠ Str.ofString "text" → set4 (Str.ofString "first") (Str.ofString "last") (Str.ofString "header") (Str.ofString "text") (.int x.1 t1) (.int x.2.1 t2) (.str x.2.2.1 t3) (.str x.2.2.2 t4) m₁ z = m₁ z := fun z a b c d => by
    unfold set4
    rw [if_neg d, if_neg c, if_neg b, if_neg a]
  have q1 := (rd (Str.ofString "upper") (by decide) (by decide) (by decide) (by decide)).trans j1
  have q2 := (rd (Str.ofString "due") (by decide) (by decide) (by decide) (by decide)).trans j3
  have q0 := (rd (Str.ofString "lower") (by decide) (by decide) (by decide) (by decide)).trans j2
  have q3 : set4 (Str.ofString "first") (Str.ofString "last") (Str.ofString "header") (Str.ofString "text") (.int x.1 t1) (.int x.2.1 t2) (.str x.2.2.1 t3) (.str x.2.2.2 t4) m₁ (Str.ofString "first") = some (.int x.1 t1) := rfl
  have q4 : set4 (Str.ofString "first") (Str.ofString "last") (Str.ofString "header") (Str.ofString "text") (.int x.1 t1) (.int x.2.1 t2) (.str x.2.2.1 t3) (.str x.2.2.2 t4) m₁ (Str.ofString "last") = some (.int x.2.1 t2) := rfl
  have q5 : set4 (Str.ofString "first") (Str.ofString "last") (Str.ofString "header") (Str.ofString "text") (.int x.1 t1) (.int x.2.1 t2) (.str x.2.2.1 t3) (.str x.2.2.2 t4) m₁ (Str.ofString "header") = some (.str x.2.2.1 t3) := rfl
  have q6 : set4 (Str.ofString "first") (Str.ofString "last") (Str.ofString "header") (Str.ofString "text") (.int x.1 t1) (.int x.2.1 t2) (.str x.2.2.1 t3) (.str x.2.2.2 t4) m₁ (Str.ofString "text") = some (.str x.2.2.2 t4) := rfl
  generalize set4 (Str.ofString "first") (Str.ofString "last") (Str.ofString "header") (Str.ofString "text") (.int x.1 t1) (.int x.2.1 t2) (.str x.2.2.1 t3) (.str x.2.2.2 t4) m₁ = m at F q0 q1 q2 q3 q4 q5 q6
  clear rd j1 j2 j3
  rw [lawFor_eq]
  refine cutS (s := s) _ (lt0 (I := I) (oI := oI) (o5 := o5) (dv := dv) (dn := dn) (tl := tl) X T hr hu hU nU F q1 q2 q3 q4 q5 q6 (newsSub N ?sw)) ?_
  case sw =>
    intro q hq
    simp only [List.mem_cons] at hq ⊢
    rcases hq with hq | hq | hq | hq | hq
    · exact .inr (.inl hq)
    · exact .inr (.inr (.inl hq))
    · exact .inr (.inr (.inr (.inl hq)))
    · exact .inl hq
    · exact .inr (.inr (.inr (.inr hq)))
  rintro h2 tk2 _ _ F2 N2 ⟨pa, k1, k2, np5, npI, rfl, rfl⟩
  have g : ∀ z, z ≠ Str.ofString "paragraph" → (fun z => if z = Str.ofString "paragraph" then some (Value.ref pa) else m z) z = m z := fun z hz => if_neg hz
  refine cutS (s := s) _ (lmid X T hr hu hU nU F2 ((g _ (by decide)).trans q1) ((g _ (by decide)).trans q2) ((g _ (by decide)).trans q3) ((g _ (by decide)).trans q4) ((g _ (by decide)).trans q5) ((g _ (by decide)).trans q6) (if_pos rfl) hall hD.1 hD.2 hx1 (List.forall_mem_cons.mpr ⟨⟨np5, npI⟩, fun p hp => ⟨n5 p hp, ntI p hp⟩⟩) nd5 ndI N2) ?_
  rintro h3 tk3 m3 _ F3 N3 ⟨dl3, dv3, dn3, pa3, par, i1, i2, i3, i4, base, tl3, rd3, e1, e2, e3, hall3, hpa, hs3, ne3, nd35, nd3I, rfl⟩
  have r1 := (rd3 (Str.ofString "upper") (by decide) (by decide)).trans ((g _ (by decide)).trans q1)
  have r0 := (rd3 (Str.ofString "lower") (by decide) (by decide)).trans ((g _ (by decide)).trans q0)
  have r3 := (rd3 (Str.ofString "first") (by decide) (by decide)).trans ((g _ (by decide)).trans q3)
  have r4 := (rd3 (Str.ofString "last") (by decide) (by decide)).trans ((g _ (by decide)).trans q4)
  have r5 := (rd3 (Str.ofString "header") (by decide) (by decide)).trans ((g _ (by decide)).trans q5)
  have r6 := (rd3 (Str.ofString "text") (by decide) (by decide)).trans ((g _ (by decide)).trans q6)
  have hlen : dv3.length ≤ 900 := by
    have a := hall3.len
    have b := (due_good (up := up) (lo := lo) (i := i + 1) nU LU kU nL LL kL).2
    rw [due_succ hx, ← e3, List.length_append] at b
    omega
  refine cutS (s := s) _ (lt2 X T hr hu hU nU F3 r1 e1 r3 r4 r5 r6 e2 hlen N3) ?_
  rintro h4 tk4 _ _ F4 N4 ⟨dl4, n45, n4I, rfl, rfl⟩
  refine wpAny_execs_nil ?_
  have g4 : ∀ z, z ≠ Str.ofString "due" → (fun z => if z = Str.ofString "due" then some (Value.ref dl4) else m3 z) z = m3 z := fun z hz => if_neg hz
  refine .inl ⟨rfl, h4, tk4, _, (105, o5) :: (dl4, W.listOf (dv3 ++ [Value.ref pa3]).toArray 0) :: (ul, W.listOf uv.toArray 0) :: tl3, rfl, F4, newsSub N4 ?_, ?_, dl4, _, 0, tl3, (g4 _ (by decide)).trans r1, (g4 _ (by decide)).trans r0, if_pos rfl, ?_, fun p hp => hs3 p (hsub p hp), n45, fun p hp => (ne3 p hp).1, rfl⟩
  · intro q hq
    simp only [List.mem_cons] at hq ⊢
    rcases hq with hq | hq | hq | hq | hq
    · exact .inr (.inr (.inr (.inl hq)))
    · exact .inl hq
    · exact .inr (.inl hq)
    · exact .inr (.inr (.inl hq))
    · exact .inr (.inr (.inr (.inr hq)))
  · exact List.forall_mem_cons.mpr ⟨n5I, List.forall_mem_cons.mpr ⟨n4I, List.forall_mem_cons.mpr ⟨nuI, fun p hp => (ne3 p hp).2⟩⟩⟩
  · rw [due_succ hx, ← e3]
    exact hall3.snoc ⟨pa3, i1, i2, i3, i4, rfl, hpa⟩
end

-- part Lb4_2
theorem fillLb4 : (PySem.Challenge.rw_dm0163_02, hd.heap_39) = (PySem.Challenge.rw_dm0163_02, hd.heap_39) := by k_fill; rfl
section
variable {prog : Program} {w : World} {dp un : Nat} {fr : Option (List Env)} {gd : Option (List Code)} {s : Shared} {h₀ : Heap} {p : Program} {loose : List Str} {mean : ExcName → Option Value} {mg mb : Str → Option Value} {L : Addr} {h : Heap} {tk : Nat} {m : Str → Option Value} {tl : List (Addr × Obj)} {o5 : Obj} {ul ll dl : Addr} {uv lv dv : List Value} {dn : Nat} {up lo : List Str}
theorem TabL.mono {a b : List (Addr × Obj)} {o : Obj} (h : TabL a o) (hs : ∀ p ∈ a, p ∈ b) : TabL b o := by
  rcases h with h | ⟨c1, c2, oc1, oc2, e, k1, k2, m1, m2⟩
  · exact .inl h
  · exact .inr ⟨c1, c2, oc1, oc2, e, k1, k2, hs _ m1, hs _ m2⟩
/-- the state behind the loop -/
def After4 (up lo : List Str) (ul ll : Addr) (uv lv : List Value) (m' : Str → Option Value) (news' : List (Addr × Obj)) : Prop :=
  ∃ o5 dl dv dn tl, m' (Str.ofString "upper") = some (.ref ul) ∧ m' (Str.ofString "lower") = some (.ref ll) ∧ m' (Str.ofString "due") = some (.ref dl) ∧ All2 (ParaAt tl) (paras (up ++ lo)) dv ∧ TabL ((dl, W.listOf dv.toArray dn) :: (ul, W.listOf uv.toArray 0) :: (ll, W.listOf lv.toArray 0) :: tl) o5 ∧ (∀ p ∈ (dl, W.listOf dv.toArray dn) :: (ul, W.listOf uv.toArray 0) :: (ll, W.listOf lv.toArray 0) :: tl, p.1 ≠ 105) ∧ news' = (105, o5) :: (dl, W.listOf dv.toArray dn) :: (ul, W.listOf uv.toArray 0) :: (ll, W.listOf lv.toArray 0) :: tl
set_option maxHeartbeats 4000000 in
theorem lb4 (X : (hd.heap_39 w.params).In h₀) (T : Top p loose mean mg mb h₀) (C : CodeHd h₀ 109 105) (hr : dp + 120 < recursionLimit) (hu : un + 140 < cLine) (hU : StrsAre uv up) (nU : up.length ≤ 64) (LU : ∀ r ∈ up, r.length ≤ 64) (kU : ∀ r ∈ up, ok r) (hL : StrsAre lv lo) (nL : lo.length ≤ 64) (LL : ∀ r ∈ lo, r.length ≤ 64) (kL : ∀ r ∈ lo, ok r) (F : Fr h₀ L h m) (q1 : m (Str.ofString "upper") = some (.ref ul)) (q2 : m (Str.ofString "lower") = some (.ref ll)) (q3 : m (Str.ofString "due") = some (.ref dl)) (hall0 : All2 (ParaAt tl) (paras up) dv) (N : News h₀ L h ((105, o5) :: (dl, W.listOf dv.toArray dn) :: (ul, W.listOf uv.toArray 0) :: (ll, W.listOf lv.toArray 0) :: tl)) (hne5 : ∀ p ∈ (dl, W.listOf dv.toArray dn) :: (ul, W.listOf uv.toArray 0) :: (ll, W.listOf lv.toArray 0) :: tl, p.1 ≠ 105) (hT : TabL ((dl, W.listOf dv.toArray dn) :: (ul, W.listOf uv.toArray 0) :: (ll, W.listOf lv.toArray 0) :: tl) o5) :
    wpAny (model prog w) (ar dp un fr gd) (exec (lawAt 4) (lawEnv L)) (St h₀ L s (After4 up lo ul ll uv lv)) (fun _ _ => False) { s with heap := h, toks := tk } := by
  have hst := fun (i : Nat) (x : Para) (o5' : Obj) (tl₀ : List (Addr × Obj)) (t1 t2 t3 t4 : Tok) m₁ news₁ h' tk' I oI => lturn (prog := prog) (w := w) (dp := dp) (un := un) (fr := fr) (gd := gd) (h₀ := h₀) (L := L) (ul := ul) (ll := ll) (uv := uv) (o5 := o5') (oI := oI) (I := I) (h := h') (tk := tk') (s := { s with heap := h, toks := tk }) (i := i) (x := x) (tl₀ := tl₀) (Q := St h₀ L s (After4 up lo ul ll uv lv)) (lo := lo) (t1 := t1) (t2 := t2) (t3 := t3) (t4 := t4) (m₁ := m₁) (news₁ := news₁) X T (by omega) (by omega) hU nU LU kU nL LL kL
  walk_at "law open"
  dsimp only [lawFor, lawBody, lawFn, lawEnv, fnBody, fnScope, forBody', PySem.Challenge.pw_dm0163_02, List.getElem?_cons_succ, List.getElem?_cons_zero, Option.getD_some] at hst
  refine' For_lst4 (h₀ := h₀) rfl rfl rfl rfl rfl rfl ?it
  case it =>
    walk_at "my steps"
    all_goals (try k_data)
    have hlen := hall.len
    have ne2 : ∀ p ∈ objs, p.1 ≠ 105 := fun p hp => Ne.symm (nep p hp (105, o5) (.head _))
    have n5 : ∀ p ∈ tl ++ objs, p.1 ≠ 105 := fun p hp => by
      rcases List.mem_append.mp hp with hp | hp
      · exact hne5 p (.tail _ (.tail _ (.tail _ hp)))
      · exact ne2 p hp
    have ndl : dl ≠ 105 := hne5 (dl, W.listOf dv.toArray dn) (.head _)
    have nul : ul ≠ 105 := hne5 (ul, W.listOf uv.toArray 0) (.tail _ (.head _))
    have nll : ll ≠ 105 := hne5 (ll, W.listOf lv.toArray 0) (.tail _ (.tail _ (.head _)))
    have src : ∀ {news : List (Addr × Obj)}, (∀ p ∈ objs, p ∈ news) → LCg.SrcAt h₀ D ws.toArray news := fun hs => .inr ⟨_, hs _ hD, rfl, nn, rfl⟩
    let tl₀ : List (Addr × Obj) := (dl, W.listOf dv.toArray dn) :: (ll, W.listOf lv.toArray 0) :: (tl ++ objs)
    have inJ : ∀ {i m' news'}, LJ up lo ul ll uv o5' tl₀ i m' news' → ∀ p ∈ objs, p ∈ news' := by
      rintro i m' news' ⟨dl', dv', dn', tl', _, _, _, _, hsub, _, _, rfl⟩ p hp
      exact .tail _ (.tail _ (.tail _ (hsub p (.tail _ (.tail _ (List.mem_append_right _ hp))))))
    have item : ∀ {i : Nat} {v : Value}, ws.toArray[i]? = some v → ∃ x, (paras lo)[i]? = some x ∧ ParaAt objs x v := by
      intro i v e
      rw [List.getElem?_toArray] at e
      have hi : i < (paras lo).length := by rw [← hlen]; exact (List.getElem?_eq_some_iff.mp e).1
      obtain ⟨b, e2, hb⟩ := hall.at i _ (List.getElem?_eq_getElem hi)
      rw [e] at e2
      injection e2 with e2
      exact ⟨_, List.getElem?_eq_getElem hi, by rw [e2]; exact hb⟩
    refine ⟨ws.toArray, LJ up lo ul ll uv o5' tl₀, ⟨D, m, _, h', _, rfl, rfl, src (news := (105, o5') :: (dl, W.listOf dv.toArray dn) :: (ul, W.listOf uv.toArray 0) :: tl₀) (fun p hp => .tail _ (.tail _ (.tail _ (.tail _ (.tail _ (List.mem_append_right _ hp)))))), F', newsSub N' ?n1, ⟨dl, dv, dn, tl₀, q1, q2, q3, ?n2, fun p hp => hp, ndl, ?n3, rfl⟩, fun i m' news' hJ => src (inJ hJ)⟩, ?n4, ?n5, ?n6⟩
    case n1 =>
      intro q hq
      simp only [tl₀, List.mem_cons] at hq ⊢
      rcases hq with hq | hq | hq | hq | hq | hq
      · exact .inl hq
      · exact .inr (.inl hq)
      · exact .inr (.inr (.inl hq))
      · exact .inr (.inl hq)
      · exact .inr (.inr (.inr (.inl hq)))
      · exact .inr (.inr (.inr (.inr hq)))
    case n2 => exact hall0.imp fun _ _ hab => hab.mono fun p hp => .tail _ (.tail _ (List.mem_append_left _ hp))
    case n3 => exact List.forall_mem_cons.mpr ⟨ndl, List.forall_mem_cons.mpr ⟨nll, n5⟩⟩
    case n4 =>
      intro i v m₁ news₁ e hJ
      obtain ⟨x, _, a, k1, k2, k3, k4, rfl, hm⟩ := item e
      exact ⟨_, _, _, _, a, _, _, rfl, inJ hJ _ hm, rfl, rfl⟩
    case n5 =>
      intro i v w1 w2 w3 w4 m₁ news₁ hh tkk I oI e hTup hJ hne Fh Nh
      obtain ⟨x, hx, a, k1, k2, k3, k4, rfl, hm⟩ := item e
      obtain ⟨t, ot, nt, e1, e2, e3, e4⟩ := hTup
      injection e1 with e1
      subst e1
      have g1 := (Nh _ (.tail _ (inJ hJ _ hm))).1
      have g2 := (Nh _ (.tail _ e2)).1
      rw [g1] at g2
      injection g2 with g2
      subst g2
      injection e4 with e4
      have z1 := congrArg (fun z => z[0]?) e4
      have z2 := congrArg (fun z => z[1]?) e4
      have z3 := congrArg (fun z => z[2]?) e4
      have z4 := congrArg (fun z => z[3]?) e4
      simp at z1 z2 z3 z4
      subst z1 z2 z3 z4
      exact hst i x o5' tl₀ k1 k2 k3 k4 m₁ news₁ hh tkk I oI hx hJ hne Fh Nh
    case n6 =>
      rintro h6 tk6 m6 _ F6 N6 ⟨dl6, dv6, dn6, tl6, g1, g2, g3, hall6, hsub6, nd6, n56, rfl⟩
      rw [List.size_toArray, hlen, due_end] at hall6
      refine ⟨rfl, h6, tk6, m6, _, rfl, F6, newsSub N6 ?s1, o5', dl6, dv6, dn6, tl6, g1, g2, g3, hall6, hT'.mono ?s2, ?s3, rfl⟩
      case s1 =>
        intro q hq
        simp only [List.mem_cons] at hq ⊢
        rcases hq with hq | hq | hq | hq | hq
        · exact .inl hq
        · exact .inr (.inl hq)
        · exact .inr (.inr (.inl hq))
        · rw [hq]; exact .inr (.inr (.inr (hsub6 _ (.tail _ (.head _)))))
        · exact .inr (.inr (.inr hq))
      case s2 =>
        intro q hq
        simp only [List.cons_append, List.mem_cons] at hq ⊢
        rcases hq with hq | hq | hq | hq
        · rw [hq]; exact .inr (.inr (.inr (hsub6 _ (.head _))))
        · exact .inr (.inl hq)
        · exact .inr (.inr (.inl hq))
        · exact .inr (.inr (.inr (hsub6 _ (.tail _ (.tail _ hq)))))
      case s3 => exact List.forall_mem_cons.mpr ⟨nd6, List.forall_mem_cons.mpr ⟨nul, List.forall_mem_cons.mpr ⟨nll, n56⟩⟩⟩
end

-- part Lb5_2
theorem fillLb5 : (PySem.Challenge.rw_dm0163_02, hd.heap_39) = (PySem.Challenge.rw_dm0163_02, hd.heap_39) := by k_fill; rfl
local macro_rules | `(tactic| walk_at "binaryOp Add ref ref") => `(tactic| (k_dflt (refine addL (by k_asm) (by k_asm) (News.isList (by k_asm) (by k_mem)) (News.isList (by k_asm) (by k_mem)) (by omega) ?_); intro D' h' F' N' l1; (try k_lt l1); (try k_sweep)))
section
variable {prog : Program} {w : World} {dp un : Nat} {fr : Option (List Env)} {gd : Option (List Code)} {s : Shared} {h₀ : Heap} {p : Program} {loose : List Str} {mean : ExcName → Option Value} {mg mb : Str → Option Value} {L : Addr} {h : Heap} {tk : Nat} {m : Str → Option Value} {tl : List (Addr × Obj)} {o5 : Obj} {ul ll dl : Addr} {uv lv dv : List Value} {dn : Nat} {up lo : List Str}
theorem newsSwap {h₀ h : Heap} {L : Addr} {a b : Addr × Obj} {r : List (Addr × Obj)} (N : News h₀ L h (a :: b :: r)) : News h₀ L h (b :: a :: r) := newsSub N (List.forall_mem_cons.mpr ⟨.tail _ (.head _), List.forall_mem_cons.mpr ⟨.head _, fun p hp => .tail _ (.tail _ hp)⟩⟩)
/-- the state behind `both` -/
def After5 (up lo : List Str) (ul ll : Addr) (uv lv : List Value) (m' : Str → Option Value) (news' : List (Addr × Obj)) : Prop :=
  ∃ dl dv dn bl bv bn tl, m' (Str.ofString "upper") = some (.ref ul) ∧ m' (Str.ofString "lower") = some (.ref ll) ∧ m' (Str.ofString "due") = some (.ref dl) ∧ m' (Str.ofString "both") = some (.ref bl) ∧ All2 (ParaAt tl) (paras (up ++ lo)) dv ∧ All2 (ParaAt tl) (paras (up ++ lo)) bv ∧ (∃ ps, (105, tabObj ps) ∈ tl) ∧ news' = (dl, W.listOf dv.toArray dn) :: (ul, W.listOf uv.toArray 0) :: (ll, W.listOf lv.toArray 0) :: (bl, W.listOf bv.toArray bn) :: tl
set_option maxHeartbeats 4000000 in
theorem lb5 (X : (hd.heap_39 w.params).In h₀) (T : Top p loose mean mg mb h₀) (C : CodeHd h₀ 109 105) (hr : dp + 120 < recursionLimit) (hu : un + 140 < cLine) (hU : StrsAre uv up) (LU : ∀ r ∈ up, r.length ≤ 64) (kU : ∀ r ∈ up, ok r) (hL : StrsAre lv lo) (nL : up.length + lo.length ≤ 64) (LL : ∀ r ∈ lo, r.length ≤ 64) (kL : ∀ r ∈ lo, ok r) (F : Fr h₀ L h m) (q1 : m (Str.ofString "upper") = some (.ref ul)) (q2 : m (Str.ofString "lower") = some (.ref ll)) (q3 : m (Str.ofString "due") = some (.ref dl)) (hall0 : All2 (ParaAt tl) (paras (up ++ lo)) dv) (N : News h₀ L h ((105, o5) :: (dl, W.listOf dv.toArray dn) :: (ul, W.listOf uv.toArray 0) :: (ll, W.listOf lv.toArray 0) :: tl)) (hne : ∀ p ∈ (dl, W.listOf dv.toArray dn) :: (ul, W.listOf uv.toArray 0) :: (ll, W.listOf lv.toArray 0) :: tl, p.1 ≠ 105) (hTab : TabL ((dl, W.listOf dv.toArray dn) :: (ul, W.listOf uv.toArray 0) :: (ll, W.listOf lv.toArray 0) :: tl) o5) :
    wpAny (model prog w) (ar dp un fr gd) (exec (lawAt 5) (lawEnv L)) (St h₀ L s (After5 up lo ul ll uv lv)) (fun _ _ => False) { s with heap := h, toks := tk } := by
  have luv := hU.length
  have llv := hL.length
  walk_at "law open"
  walk_at "my steps"
  all_goals (try k_data)
  with_reducible rename Fr _ _ _ _ => Fn
  with_reducible rename News _ _ _ _ => Nn
  rename _ ∧ _ ∧ _ ∧ _ ∧ AllLt _ _ => hAl
  refine walkN (o5 := o5) (rest := (_, W.listOf (uv ++ lv).toArray 0) :: (dl, W.listOf dv.toArray dn) :: (ul, W.listOf uv.toArray 0) :: (ll, W.listOf lv.toArray 0) :: tl) (rows := up ++ lo) (vs := uv ++ lv) Fn (newsSwap Nn) ?ne (hTab.mono fun p hp => .tail _ hp) X T C (by omega) (by omega) (News.isList Nn (by k_mem)) (StrsAre.append' hU hL) (by rw [List.length_append]; exact nL) ?g1 ?g2 ?_
  case ne => exact List.forall_mem_cons.mpr ⟨Nat.ne_of_gt hAl.1, hne⟩
  case g1 =>
    intro r hr
    rcases List.mem_append.mp hr with hr | hr
    · exact LU r hr
    · exact LL r hr
  case g2 =>
    intro r hr
    rcases List.mem_append.mp hr with hr | hr
    · exact kU r hr
    · exact kL r hr
  intro h' tk' D ws nn objs o5' F' N' fresh hT' hD hall
  clear Fn Nn
  simp only [List.cons_append] at N'
  walk_at "my steps"
  all_goals (try k_data)
  with_reducible rename Fr _ _ _ _ => Fm
  with_reducible rename News _ _ _ _ => Nm
  refine stMk Fm Nm _ ?sub ⟨dl, dv, dn, D, ws, nn, (105, o5') :: (tl ++ objs), q1, q2, q3, rfl, hall0.imp fun _ _ hab => hab.mono fun p hp => .tail _ (List.mem_append_left _ hp), hall.imp fun _ _ hab => hab.mono fun p hp => .tail _ (List.mem_append_right _ hp), ?tab, rfl⟩
  case tab =>
    rcases hT' with rfl | ⟨c1, c2, oc1, oc2, rfl, _⟩
    · exact ⟨_, .head _⟩
    · exact ⟨_, .head _⟩
  case sub =>
    refine List.forall_mem_cons.mpr ⟨by k_mem, List.forall_mem_cons.mpr ⟨by k_mem, List.forall_mem_cons.mpr ⟨by k_mem, List.forall_mem_cons.mpr ⟨.tail _ (.tail _ (.tail _ (.tail _ (.tail _ (List.mem_append_right _ hD))))), List.forall_mem_cons.mpr ⟨.head _, fun p hp => .tail _ (.tail _ (.tail _ (.tail _ (.tail _ hp))))⟩⟩⟩⟩⟩
end

-- part Lb6_2
theorem fillLb6 : (PySem.Challenge.rw_dm0163_02, hd.heap_39) = (PySem.Challenge.rw_dm0163_02, hd.heap_39) := by k_fill; rfl
theorem strs_snoc {vs : List Value} {ys : List Str} {y : Str} (h : StrsAre vs (ys ++ [y])) : ∃ iv v, vs = iv ++ [v] ∧ StrsAre iv ys := by
  induction ys generalizing vs with
  | nil =>
    cases h with
    | cons y t r => cases r; exact ⟨[], _, rfl, .nil⟩
  | cons a r ih =>
    cases h with
    | cons y t r =>
      obtain ⟨iv, v, rfl, h2⟩ := ih r
      exact ⟨_ :: iv, v, rfl, .cons _ _ h2⟩
theorem all2_of_strs {vs : List Value} {ys : List Str} (h : StrsAre vs ys) : All2 (fun (x : Str) v => IsS x v) ys vs := by
  induction h with
  | nil => exact .nil
  | cons y t r ih => exact .cons ⟨_, rfl⟩ ih
/-- a paragraph's rows -/
noncomputable def rowsIn (rows : List Str) (x : Para) : List Str := seg 1 rows x.1 x.2.1
theorem para_text {rows : List Str} {x : Para} (hx : x ∈ paras rows) : x.2.2.2 = Txt.join (Str.ofString "") ((rowsIn rows x).map nl) := by
  obtain ⟨y, hy, rfl⟩ := List.mem_map.mp hx
  rfl
theorem rowsIn_sub {rows : List Str} {x : Para} : ∀ r ∈ rowsIn rows x, r ∈ rows := fun _ h => List.mem_of_mem_take (List.mem_of_mem_drop h)
theorem flat_paras (rows : List Str) : ((paras rows).flatMap (fun a => (rowsIn rows a).map (fun b => (a, b)))).map (fun ab => (ab.1.2.2.1, ab.2)) = fullRows rows := by
  unfold paras fullRows
  rw [← flat_runs rows 1, List.map_flatMap, List.flatMap_map]
  congr 1
  funext x
  rw [List.map_map]
  rfl
theorem full_len (rows : List Str) : (fullRows rows).length ≤ rows.length := by
  unfold fullRows
  rw [List.length_map]; exact List.length_filter_le _ _
section
variable {prog : Program} {w : World} {dp un : Nat} {fr : Option (List Env)} {gd : Option (List Code)} {s : Shared} {h₀ : Heap} {p : Program} {loose : List Str} {mean : ExcName → Option Value} {mg mb : Str → Option Value} {L : Addr} {h : Heap} {tk : Nat} {m : Str → Option Value} {tl : List (Addr × Obj)} {ul ll dl bl : Addr} {uv lv dv bv : List Value} {dn bn : Nat} {rows : List Str}
theorem split_rows {A : Around} {E Q : Value → Shared → Prop} {t u : Tok} {x : Str} {ys : List Str} {news : List (Addr × Obj)} (hF : Fr h₀ L s.heap m) (hN : News h₀ L s.heap news) (hx : x = Txt.join (Str.ofString "") (ys.map nl)) (hnl : ∀ y ∈ ys, ∀ c ∈ y.cps.toList, c ≠ 10) (hl : x.length ≤ 400000)
    (h : ∀ D iv v h' k, StrsAre iv ys → Fr h₀ L h' m → News h₀ L h' ((D, W.listOf (iv ++ [v]).toArray 0) :: news) → (∀ p ∈ news, p.1 < D) → (∀ b, D ≤ b → s.heap.get? b = none) → Q (.ref D) { s with heap := h', toks := k }) :
    wpAny (model prog w) A (call (.builtin "str.split") [.str x t, .str (Str.ofString "\n") u]) Q E s := by
  refine splitN1 hF hN (by decide) ?_ (by rw [show sizeLine = 16777216 from rfl]; omega)
  intro l h' k e F N
  have a := strsAre_of_values l
  rw [hx, split_nl hnl] at e
  rw [e] at a
  obtain ⟨iv, v, e1, e2⟩ := strs_snoc a
  rw [e1] at N
  exact h _ iv v h' k e2 F N (fun p hp => Heap.lt_size (hN p hp).1) fun b hb => Heap.get?_none_of_le hb
theorem newTupF {A : Around} {E Q : Value → Shared → Prop} {vs : List Value} {news : List (Addr × Obj)} (F : Fr h₀ L s.heap m) (N : News h₀ L s.heap news) (hz : vs.length ≤ 1000)
    (h : ∀ D h', Fr h₀ L h' m → News h₀ L h' ((D, { cls := .type "tuple", data := .seq vs.toArray }) :: news) → (∀ b, D ≤ b → s.heap.get? b = none) → Q (.ref D) { s with heap := h' }) :
    wpAny (model prog w) A (newTuple vs) Q E s := newTuple_N F N (fun h' F' N' => h _ h' F' N' fun b hb => Heap.get?_none_of_le hb) (by rw [show sizeLine = 16777216 from rfl]; omega)
end
set_option hygiene false in
local macro_rules | `(tactic| walk_at "call builtin:str.split") => `(tactic| (k_dflt (refine split_rows (by k_asm) (by k_asm) (by with_reducible assumption) (by with_reducible assumption) (by omega) ?_); intro D' iv' v' h' k' hS' F' N' l1 hfree; (try k_lt l1); (have hSl := hS'.length); (try k_sweep)))
section
variable {prog : Program} {w : World} {dp un : Nat} {fr : Option (List Env)} {gd : Option (List Code)} {s : Shared} {h₀ : Heap} {p : Program} {loose : List Str} {mean : ExcName → Option Value} {mg mb : Str → Option Value} {L : Addr} {h : Heap} {tk : Nat} {m : Str → Option Value} {tl : List (Addr × Obj)} {ul ll dl bl : Addr} {uv lv dv bv : List Value} {dn bn : Nat} {rows : List Str}
end
set_option hygiene false in
local macro_rules | `(tactic| walk_at "newTuple") => `(tactic| (k_dflt (refine newTupF (by k_asm) (by k_asm) (by (simp only [List.length_cons, List.length_nil]); omega) ?_); intro D' h' F' N' hfree; (try k_sweep)))
section
variable {prog : Program} {w : World} {dp un : Nat} {fr : Option (List Env)} {gd : Option (List Code)} {s : Shared} {h₀ : Heap} {p : Program} {loose : List Str} {mean : ExcName → Option Value} {mg mb : Str → Option Value} {L : Addr} {h : Heap} {tk : Nat} {m : Str → Option Value} {tl : List (Addr × Obj)} {ul ll dl bl : Addr} {uv lv dv bv : List Value} {dn bn : Nat} {rows : List Str}
end
local macro_rules | `(tactic| walk_at "subscriptTail") => `(tactic| ((with_reducible show wpAny _ _ (subscriptTail _ (Expr.Slice none (some _) none _) (Value.ref _) (Value.ref _)) _ _ _); (try dsimp only); k_dflt (refine slice_init (s := ⟨_, _, _, _, _⟩) (by k_asm) (by k_asm) (News.isList (by k_asm) (by k_mem)) (by omega) ?_); intro D' h' F' N' l1; (try k_lt l1); (try k_sweep)))
section
variable {prog : Program} {w : World} {dp un : Nat} {fr : Option (List Env)} {gd : Option (List Code)} {s : Shared} {h₀ : Heap} {p : Program} {loose : List Str} {mean : ExcName → Option Value} {mg mb : Str → Option Value} {L : Addr} {h : Heap} {tk : Nat} {m : Str → Option Value} {tl : List (Addr × Obj)} {ul ll dl bl : Addr} {uv lv dv bv : List Value} {dn bn : Nat} {rows : List Str}
def After6 (rows : List Str) (dl bl ul ll : Addr) (uv lv : List Value) (m' : Str → Option Value) (news' : List (Addr × Obj)) : Prop :=
  ∃ dv dn bv bn cl cv tl, m' (Str.ofString "upper") = some (.ref ul) ∧ m' (Str.ofString "lower") = some (.ref ll) ∧ m' (Str.ofString "due") = some (.ref dl) ∧ m' (Str.ofString "both") = some (.ref bl) ∧ m' (Str.ofString "listed") = some (.ref cl) ∧ All2 (ParaAt tl) (paras rows) dv ∧ All2 (ParaAt tl) (paras rows) bv ∧ All2 (PairAt tl) (fullRows rows) cv ∧ (∃ ps, (105, tabObj ps) ∈ tl) ∧ news' = (cl, LCg.lst cv) :: (dl, W.listOf dv.toArray dn) :: (ul, W.listOf uv.toArray 0) :: (ll, W.listOf lv.toArray 0) :: (bl, W.listOf bv.toArray bn) :: tl
set_option maxHeartbeats 4000000 in
theorem lb6 (X : (hd.heap_39 w.params).In h₀) (T : Top p loose mean mg mb h₀) (hr : dp + 120 < recursionLimit) (hu : un + 140 < cLine) (nR : rows.length ≤ 64) (LR : ∀ r ∈ rows, r.length ≤ 64) (nlR : ∀ r ∈ rows, ∀ c ∈ r.cps.toList, c ≠ 10) (F : Fr h₀ L h m) (q1 : m (Str.ofString "upper") = some (.ref ul)) (q2 : m (Str.ofString "lower") = some (.ref ll)) (q3 : m (Str.ofString "due") = some (.ref dl)) (q4 : m (Str.ofString "both") = some (.ref bl)) (hd0 : All2 (ParaAt tl) (paras rows) dv) (hb0 : All2 (ParaAt tl) (paras rows) bv) (h5 : ∃ ps, (105, tabObj ps) ∈ tl) (N : News h₀ L h ((dl, W.listOf dv.toArray dn) :: (ul, W.listOf uv.toArray 0) :: (ll, W.listOf lv.toArray 0) :: (bl, W.listOf bv.toArray bn) :: tl)) :
    wpAny (model prog w) (ar dp un fr gd) (exec (lawAt 6) (lawEnv L)) (St h₀ L s (After6 rows dl bl ul ll uv lv)) (fun _ _ => False) { s with heap := h, toks := tk } := by
  have hflat := flat_paras rows
  have hfl := full_len rows
  walk_at "law open"
  refine' Assign_comp2 (s := { s with heap := h, toks := tk }) (xs := paras rows) (inner := rowsIn rows) (vals := fun a w3 w4 => ∃ t3 t4, w3 = .str a.2.2.1 t3 ∧ w4 = .str a.2.2.2 t4) (rel2 := fun (x : Str) v => IsS x v) (obj := fun a x o => ∃ t1 t2, o = pairObj a.2.2.1 x t1 t2) (news := (dl, W.listOf dv.toArray dn) :: (ul, W.listOf uv.toArray 0) :: (ll, W.listOf lv.toArray 0) :: (bl, W.listOf bv.toArray bn) :: tl) F rfl ?sw rfl rfl rfl ?hc rfl ?hn rfl rfl rfl rfl rfl ?d1 ?d2 rfl rfl ?it ?sz ?hin ?split ?pair ?sets ?fin ?hs
  case sw => with_unfolding_all rfl
  case hc => decide
  case hn => decide
  case d1 => decide
  case d2 => decide
  case hs => intro _; rfl
  case sets => intro _ _; rfl
  case sz => rw [← List.length_map (f := fun ab : Para × Str => (ab.1.2.2.1, ab.2)), hflat]; omega
  case hin =>
    intro a ha
    unfold rowsIn seg
    rw [List.length_drop, List.length_take]; omega
  case it =>
    walk_at "my steps"
    all_goals (try k_data)
    refine ⟨bl, bv, bn, h, _, rfl, rfl, F, N, .tail _ (.tail _ (.tail _ (.head _))), hb0.imp fun a v hav => ?_⟩
    obtain ⟨t, k1, k2, k3, k4, e1, e2⟩ := hav
    exact ⟨t, _, _, _, _, _, _, e1, .tail _ (.tail _ (.tail _ (.tail _ e2))), rfl, rfl, k3, k4, rfl, rfl⟩
  case split =>
    rintro a w3 w4 C oC m₂ h' tk' led ha ⟨t3, t4, rfl, rfl⟩ hC hx F N
    have htext := para_text ha
    have hnl : ∀ y ∈ rowsIn rows a, ∀ c ∈ y.cps.toList, c ≠ 10 := fun y hy => nlR y (rowsIn_sub y hy)
    have hlen : a.2.2.2.length ≤ 400000 := by
      obtain ⟨y, hy, rfl⟩ := List.mem_map.mp ha
      exact Nat.le_trans (cut_len nR LR _ _) (by omega)
    have hrl : (rowsIn rows a).length ≤ 64 := by
      unfold rowsIn seg
      rw [List.length_drop, List.length_take]; omega
    walk_at "my steps"
    all_goals (try k_data)
    with_reducible rename Fr _ _ _ _ => Fn
    with_reducible rename News _ _ _ _ => Nn
    rename D' < _ ∧ _ ∧ AllLt _ _ => hlt
    exact ⟨_, _, _, _, _, rfl, Fn, fun p hp => Nn p (.tail _ (.tail _ hp)), (Nn _ (.head _)).1, hfree _ (Nat.le_of_lt hlt.1), rfl, all2_of_strs hS'⟩
  case pair =>
    rintro a w3 w4 x vb C oC m₃ h' tk' led ha ⟨t3, t4, rfl, rfl⟩ hxin ⟨t5, rfl⟩ hC hx hxr F N
    walk_at "my steps"
    all_goals (try k_data)
    with_reducible rename Fr _ _ _ _ => Fn
    with_reducible rename News _ _ _ _ => Nn
    exact ⟨_, _, _, _, rfl, Fn, fun p hp => Nn p (.tail _ hp), (Nn _ (.head _)).1, hfree _ (Nat.le_refl _), rfl, _, _, rfl⟩
  case fin =>
    intro D h' tk' ys objs F' N' hz
    refine ⟨rfl, h', tk', _, _, rfl, F', newsSub N' ?sub, dv, dn, bv, bn, D, ys, objs ++ tl, q1, q2, q3, q4, rfl, hd0.imp fun _ _ hab => hab.mono fun p hp => List.mem_append_right _ hp, hb0.imp fun _ _ hab => hab.mono fun p hp => List.mem_append_right _ hp, ?hz, h5.imp fun _ h => List.mem_append_right _ h, rfl⟩
    case sub =>
      intro q hq
      simp only [List.mem_cons, List.mem_append] at hq ⊢
      rcases hq with hq | hq | hq | hq | hq | hq | hq
      · exact .inl hq
      · exact .inr (.inr (.inl hq))
      · exact .inr (.inr (.inr (.inl hq)))
      · exact .inr (.inr (.inr (.inr (.inl hq))))
      · exact .inr (.inr (.inr (.inr (.inr (.inl hq)))))
      · exact .inr (.inl hq)
      · exact .inr (.inr (.inr (.inr (.inr (.inr hq)))))
    case hz =>
      rw [← hflat]
      refine All2.mapL (hz.imp fun ab v hab => ?_)
      obtain ⟨ai, oi, e1, e2, t1, t2, e3⟩ := hab
      exact ⟨ai, t1, t2, e1, List.mem_append_left _ (by rw [← e3]; exact e2)⟩
end

-- part Lb7_2
theorem fillLb7 : (PySem.Challenge.rw_dm0163_02, hd.heap_39) = (PySem.Challenge.rw_dm0163_02, hd.heap_39) := by k_fill; rfl
def ppdata (x : Str × Str) : PyData := .tuple [.str x.1, .str x.2]
def okPair (x : Str × Str) : Prop := ok x.1 ∧ ok x.2
theorem readsPair {h₀ h : Heap} {L : Addr} {news tl : List (Addr × Obj)} (N : News h₀ L h news) (hs : ∀ p ∈ tl, p ∈ news) : ∀ {ps : List (Str × Str)} {vs : List Value}, All2 (PairAt tl) ps vs → ∃ as, ReadsAll h vs (ps.map ppdata) as
  | _, _, .nil => ⟨_, .nil⟩
  | _, _, .cons x r => by
    obtain ⟨as, ih⟩ := readsPair N hs r
    obtain ⟨a, k1, k2, rfl, hm⟩ := x
    exact ⟨_, .cons (reads_tuple_at (N _ (hs _ hm)).1 rfl rfl (.cons (.str _ _) (.cons (.str _ _) .nil))) ih⟩
theorem canLay_pairs : ∀ {ps : List (Str × Str)}, (∀ x ∈ ps, okPair x) → PyData.canLayAll0 (ps.map ppdata) = true
  | [], _ => by simp [PyData.canLayAll0]
  | x :: r, h => by
    have hx := h x List.mem_cons_self
    have h1 : PyData.strOk x.1 = true := hx.1
    have h2 : PyData.strOk x.2 = true := hx.2
    simp [PyData.canLayAll0, PyData.canLay0, ppdata, h1, h2, canLay_pairs (fun y hy => h y (List.mem_cons_of_mem _ hy))]
theorem depth_pairs : ∀ (ps : List (Str × Str)), PyData.depthAll (ps.map ppdata) ≤ 1
  | [] => by simp [PyData.depthAll]
  | x :: r => by
    have := depth_pairs r
    simp [PyData.depthAll, PyData.depth, ppdata]
    omega
theorem shaped_pairs {ps : List (Str × Str)} (h : ∀ x ∈ ps, okPair x) : SeqAt.shaped (.list (ps.map ppdata)) = true := by
  have a := canLay_pairs h
  have b := depth_pairs ps
  simp only [SeqAt.shaped, PyData.canLay0, PyData.depth, a, Bool.true_and]
  exact decide_eq_true (by omega)
theorem eqv_pairs : ∀ (ps : List (Str × Str)), PyData.eqvAll (ps.map ppdata) (ps.map ppdata) = true
  | [] => by simp [PyData.eqvAll]
  | x :: r => by simp [PyData.eqvAll, PyData.eqv, ppdata, eqv_pairs r]
theorem full_okp {rows : List Str} (h : ∀ r ∈ rows, ok r) : ∀ x ∈ fullRows rows, okPair x := by
  intro x hx
  obtain ⟨r, hr, rfl⟩ := List.mem_map.mp hx
  exact ⟨ok_hdr (h r (List.mem_filter.mp hr).1), h r (List.mem_filter.mp hr).1⟩
section
variable {prog : Program} {w : World} {dp un : Nat} {fr : Option (List Env)} {gd : Option (List Code)} {s : Shared} {Q E : Value → Shared → Prop} {h₀ : Heap} {p : Program} {loose : List Str} {mean : ExcName → Option Value} {mg mb : Str → Option Value} {L : Addr} {h : Heap} {tk : Nat} {m : Str → Option Value} {rest news tl tl2 : List (Addr × Obj)} {ul ll dl bl cl : Addr} {uv lv dv bv cv : List Value} {dn bn : Nat} {rows up lo : List Str}
theorem eq_paras {a b : Addr} {ps : List Para} (N : News h₀ L s.heap news) (ha : s.heap.get? a = some (W.listOf bv.toArray bn)) (hb : s.heap.get? b = some (W.listOf dv.toArray dn)) (hs : ∀ p ∈ tl, p ∈ news) (hp : All2 (ParaAt tl) ps bv) (hq : All2 (ParaAt tl) ps dv) (hok : ∀ x ∈ ps, okPara x) (hu : un + 100 < cLine)
    (h : Q (.bool true) s) : wpAny (model prog w) (ar dp un fr gd) (compareOp .Eq (.ref a) (.ref b)) Q E s := by
  obtain ⟨as, hr⟩ := readsPara N hs hp
  obtain ⟨bs, hr2⟩ := readsPara N hs hq
  refine eq_dataH (reads_list_at ha rfl rfl hr) (reads_list_at hb rfl rfl hr2) (shaped_paras hok) (shaped_paras hok) (by show un + 64 < _; omega) ?_
  have e : PyData.eqv (.list (ps.map pdata)) (.list (ps.map pdata)) = true := by simp only [PyData.eqv, eqv_paras]
  rw [e]; exact h
theorem eq_pairs {a b : Addr} {nn : Nat} {ps : List (Str × Str)} (N : News h₀ L s.heap news) (ha : s.heap.get? a = some (LCg.lst cv)) (hb : s.heap.get? b = some (W.listOf bv.toArray nn)) (hs : ∀ p ∈ tl, p ∈ news) (hs2 : ∀ p ∈ tl2, p ∈ news) (hp : All2 (PairAt tl) ps cv) (hq : All2 (PairAt tl2) ps bv) (hok : ∀ x ∈ ps, okPair x) (hu : un + 100 < cLine)
    (h : Q (.bool true) s) : wpAny (model prog w) (ar dp un fr gd) (compareOp .Eq (.ref a) (.ref b)) Q E s := by
  obtain ⟨as, hr⟩ := readsPair N hs hp
  obtain ⟨bs, hr2⟩ := readsPair N hs2 hq
  refine eq_dataH (reads_list_at ha rfl rfl hr) (reads_list_at hb rfl rfl hr2) (shaped_pairs hok) (shaped_pairs hok) (by show un + 64 < _; omega) ?_
  have e : PyData.eqv (.list (ps.map ppdata)) (.list (ps.map ppdata)) = true := by simp only [PyData.eqv, eqv_pairs]
  rw [e]; exact h
theorem fullN {rl : Addr} {rv : List Value} (F : Fr h₀ L s.heap m) (N : News h₀ L s.heap rest) (X : (hd.heap_39 w.params).In h₀) (T : Top p loose mean mg mb h₀) (hr : dp + 40 < recursionLimit) (hl : s.heap.IsList rl rv.toArray) (hS : StrsAre rv rows) (hn : rows.length ≤ 64) (hL : ∀ r ∈ rows, r.length ≤ 64)
    (h : ∀ h' tk' D vs nn objs, Fr h₀ L h' m → News h₀ L h' (rest ++ objs) → (D, W.listOf vs.toArray nn) ∈ objs → All2 (PairAt objs) (fullRows rows) vs → Q (.ref D) { s with heap := h', toks := tk' }) :
    wpAny (model prog w) (ar dp un fr gd) (call (.ref 127) [.ref rl]) Q E s := by
  refine full_call (X.keeps F.keep) (T.keeps F.keep) hr hl hS hn hL ?_
  intro h' tk' D vs nn objs he hobj hD hall
  refine h h' tk' D vs nn objs (frExt F he) (fun q hq => ?_) hD hall
  rcases List.mem_append.mp hq with hq | hq
  · exact newsExt N he q hq
  · exact newsFresh F hobj q hq
/-- the law's answer -/
def Told (h₀ : Heap) (s : Shared) (f : Flow) (s' : Shared) : Prop := f = .ret (.bool true) ∧ ∃ h' tk', s' = { s with heap := h', toks := tk' } ∧ Ext h₀ h' ∧ ∃ ps, h'.get? 105 = some (tabObj ps)
end
set_option hygiene false in
local macro_rules | `(tactic| walk_at "compareOp Eq ref ref") => `(tactic| (k_dflt (refine' eq_paras (tl := tl) ?kN ?ka ?kb ?ks hb0 hd0 hokp ?ku ?_; (case kN => k_asm); (case ka => exact News.get (by k_asm) (by k_mem)); (case kb => exact News.get (by k_asm) (by k_mem)); (case ku => omega); (case ks => walk_at "my mem"))))
section
variable {prog : Program} {w : World} {dp un : Nat} {fr : Option (List Env)} {gd : Option (List Code)} {s : Shared} {Q E : Value → Shared → Prop} {h₀ : Heap} {p : Program} {loose : List Str} {mean : ExcName → Option Value} {mg mb : Str → Option Value} {L : Addr} {h : Heap} {tk : Nat} {m : Str → Option Value} {rest news tl tl2 : List (Addr × Obj)} {ul ll dl bl cl : Addr} {uv lv dv bv cv : List Value} {dn bn : Nat} {rows up lo : List Str}
set_option maxHeartbeats 4000000 in
theorem lb7 (X : (hd.heap_39 w.params).In h₀) (T : Top p loose mean mg mb h₀) (hr : dp + 120 < recursionLimit) (hu : un + 140 < cLine) (hU : StrsAre uv up) (hL : StrsAre lv lo) (nR : (up ++ lo).length ≤ 64) (LR : ∀ r ∈ up ++ lo, r.length ≤ 64) (kR : ∀ r ∈ up ++ lo, ok r) (F : Fr h₀ L h m) (q1 : m (Str.ofString "upper") = some (.ref ul)) (q2 : m (Str.ofString "lower") = some (.ref ll)) (q3 : m (Str.ofString "due") = some (.ref dl)) (q4 : m (Str.ofString "both") = some (.ref bl)) (q5 : m (Str.ofString "listed") = some (.ref cl)) (hd0 : All2 (ParaAt tl) (paras (up ++ lo)) dv) (hb0 : All2 (ParaAt tl) (paras (up ++ lo)) bv) (hc0 : All2 (PairAt tl) (fullRows (up ++ lo)) cv) (h5 : ∃ ps, (105, tabObj ps) ∈ tl) (N : News h₀ L h ((cl, LCg.lst cv) :: (dl, W.listOf dv.toArray dn) :: (ul, W.listOf uv.toArray 0) :: (ll, W.listOf lv.toArray 0) :: (bl, W.listOf bv.toArray bn) :: tl)) :
    wpAny (model prog w) (ar dp un fr gd) (execs [lawAt 7] (lawEnv L)) (Told h₀ s) (fun _ _ => False) { s with heap := h, toks := tk } := by
  have luv := hU.length
  have llv := hL.length
  have nR' := nR
  rw [List.length_append] at nR'
  have hokp : ∀ x ∈ paras (up ++ lo), okPara x := fun x hx => (paras_good nR LR kR x hx).1
  walk_at "law open"
  walk_at "my steps"
  all_goals (try k_data)
  with_reducible rename Fr _ _ _ _ => Fn
  with_reducible rename News _ _ _ _ => Nn
  refine fullN (rows := up ++ lo) (rv := uv ++ lv) Fn Nn X T (by omega) (News.isList Nn (by k_mem)) (StrsAre.append' hU hL) nR LR ?_
  intro h' tk' D vs nn objs F' N' hD hall
  refine eq_pairs (tl := tl) (tl2 := objs) N' (N' _ (List.mem_append_left _ (.tail _ (.head _)))).1 (N' _ (List.mem_append_right _ hD)).1 (fun p hp => List.mem_append_left _ (.tail _ (.tail _ (.tail _ (.tail _ (.tail _ (.tail _ hp))))))) (fun p hp => List.mem_append_right _ hp) hc0 hall (full_okp kR) (by omega) ?_
  obtain ⟨ps, h5⟩ := h5
  exact ⟨rfl, h', tk', rfl, F'.keep, ps, (N' _ (List.mem_append_left _ (.tail _ (.tail _ (.tail _ (.tail _ (.tail _ (.tail _ h5)))))))).1⟩
end

-- part Le_2
theorem fillLe : (PySem.Challenge.rw_dm0163_02, hd.heap_39) = (PySem.Challenge.rw_dm0163_02, hd.heap_39) := by k_fill; rfl
def goodRow (r : Str) : Prop := r.length ≤ 64 ∧ ok r ∧ ∀ c ∈ r.cps.toList, c ≠ 10
theorem good_a : goodRow (Str.ofString "a") := ⟨by decide +kernel, by decide +kernel, by decide +kernel⟩
theorem good_rows (sc : List Int) : ∀ r ∈ rowsOf sc, goodRow r := by
  intro r hr
  obtain ⟨x, _, rfl⟩ := List.mem_map.mp hr
  exact ⟨rowOf_len x, rowOf_ok x, rowOf_nl x⟩
theorem good_orA {l : List Str} (h : ∀ r ∈ l, goodRow r) : ∀ r ∈ orA l, goodRow r := by
  intro r hr
  unfold orA at hr
  split at hr
  · rw [List.mem_singleton.mp hr]; exact good_a
  · exact h r hr
theorem orA_len {l : List Str} (h : l.length ≤ 12) : (orA l).length ≤ 12 := by
  unfold orA
  split
  · exact (by decide : (1 : Nat) ≤ 12)
  · exact h
theorem rows_len2 (sc : List Int) : (rowsOf sc).length ≤ 12 := by
  unfold rowsOf
  rw [List.length_map, List.length_take]; omega
theorem good_up (sc : List Int) : (∀ r ∈ upperOf (rowsOf sc), goodRow r) ∧ (upperOf (rowsOf sc)).length ≤ 12 :=
  ⟨good_orA fun r hr => good_rows sc r (List.mem_of_mem_take hr), orA_len (by have := rows_len2 sc; rw [List.length_take]; omega)⟩
theorem good_lo (sc : List Int) : (∀ r ∈ lowerOf (rowsOf sc), goodRow r) ∧ (lowerOf (rowsOf sc)).length ≤ 12 :=
  ⟨good_orA fun r hr => good_rows sc r (List.mem_of_mem_drop hr), orA_len (by have := rows_len2 sc; rw [List.length_drop]; omega)⟩
theorem cells_none {cm : Str → Option Value} {cells : List (Addr × Obj)} (x : CellsAre cm [] cells) : cells = [] := by cases x; rfl
set_option maxHeartbeats 4000000 in
theorem law_code {prog : Program} {w : World} {dp un : Nat} {fr gd} {s : Shared} {R : Result → Shared → Prop} {g : Heap} {p loose mean mg mb} (X : (hd.heap_39 w.params).In g) (T : Top p loose mean mg mb g) (hg : Ext g s.heap) (hgP : g.get? 105 = none) (C : CodeHd g 109 105) (hr : dp + 150 < recursionLimit) (hu : un + 170 < cLine)
   (hT : s.heap.get? 105 = some (tabObj #[])) {sc : List Int} {vs : List Value} {sl : Addr} (hl : g.IsList sl vs.toArray) (hI : IntsAre vs sc) (hn : sc.length ≤ 63)
   (h : ∀ h' tk', (∀ b o, b ≠ 105 → s.heap.get? b = some o → h'.get? b = some o) → (∃ ps, h'.get? 105 = some (tabObj ps)) → R (.ok (.ret (.bool true))) {s with heap := h', toks := tk'}) :
   codeAny (model prog w) (ar dp un fr gd) (.call (.ref 132) ⟨[.ref sl], []⟩) R s := by
  refine' enterCC (K := hd.heap_39 w.params) (P := 105) (X.keeps hg) ((T.keeps hg).nolimit) ?k6 ?k7 (by omega) ?k9 ?kB ?kD hT ?c2 ?c3 ?c4 ?_
  case k6 => k_is
  case k7 => k_is
  case k9 => exact BindsTo.of_eq rfl
  case kB => exact rfl
  case kD => decide +kernel
  case c2 => rfl
  case c3 => rfl
  case c4 => rfl
  intro L h1 tk1 fr1 cells F N Y lP
  have e0 := hideExt hg hgP
  have X0 := X.keeps e0
  have T0 := T.keeps e0
  have C0 := C.keeps e0
  have hl0 := listExt hl e0
  obtain ⟨gU, nU⟩ := good_up sc
  obtain ⟨gL, nL⟩ := good_lo sc
  have nR := rows_len2 sc
  generalize hup : upperOf (rowsOf sc) = up at gU nU
  generalize hlo : lowerOf (rowsOf sc) = lo at gL nL
  generalize hrows : rowsOf sc = rows at nR hup hlo
  have hE := cells_none Y
  subst hE
  clear Y
  (try simp only [List.cons_append, List.nil_append] at N)
  show wpAny _ _ (execs lawBody (lawEnv L)) _ _ _
  rw [lawBody_eq]
  refine cutS (s := s) _ (lb0 (sc := sc) (vs := vs) (sl := sl) (tl := []) X0 T0 (by omega) hl0 hI hn F rfl N) ?_
  rintro h2 tk2 m2 _ F2 N2 ⟨rl, rv, q1, nrl, hS, rfl⟩
  rw [hrows] at hS
  refine cutS (s := s) _ (lb1 X0 T0 (by omega) hS nR F2 q1 N2) ?_
  rintro h3 tk3 m3 _ F3 N3 ⟨q1, ul, uv, q2, nul, hU, rfl⟩
  rw [hup] at hU
  refine cutS (s := s) _ (lb2 X0 T0 (by omega) hS nR F3 q1 q2 N3) ?_
  rintro h4 tk4 m4 _ F4 N4 ⟨q2, ll, lv, q3, nll, hLo, rfl⟩
  rw [hlo] at hLo
  refine cutS (s := s) _ (lb3 X0 T0 C0 (by omega) (by omega) hU (by omega) (fun r h => (gU r h).1) (fun r h => (gU r h).2.1) F4 q2 q3 N4 (List.forall_mem_cons.mpr ⟨nul, List.forall_mem_cons.mpr ⟨nll, fun _ h => (nomatch h)⟩⟩) (.inl rfl)) ?_
  rintro h5 tk5 m5 _ F5 N5 ⟨q2, q3, dl, dv, dn, objs, o5, q4, ne5, hT5, hD5, hall5, rfl⟩
  rw [List.nil_append] at N5 hT5
  have N5' : News (s.heap.hide 105) L h5 ((105, o5) :: (dl, W.listOf dv.toArray dn) :: (ul, W.listOf uv.toArray 0) :: (ll, W.listOf lv.toArray 0) :: objs) := by
    refine newsSub N5 ?_
    exact List.forall_mem_cons.mpr ⟨.head _, List.forall_mem_cons.mpr ⟨.tail _ (.tail _ (.tail _ hD5)), fun p hp => .tail _ hp⟩⟩
  refine cutS (s := s) _ (lb4 X0 T0 C0 (by omega) (by omega) hU (by omega) (fun r h => (gU r h).1) (fun r h => (gU r h).2.1) hLo (by omega) (fun r h => (gL r h).1) (fun r h => (gL r h).2.1) F5 q2 q3 q4 hall5 N5' (List.forall_mem_cons.mpr ⟨ne5 _ hD5, List.forall_mem_cons.mpr ⟨nul, List.forall_mem_cons.mpr ⟨nll, ne5⟩⟩⟩) (hT5.mono fun p hp => .tail _ hp)) ?_
  rintro h6 tk6 m6 _ F6 N6 ⟨o56, dl6, dv6, dn6, tl6, q2, q3, q4, hall6, hT6, ne6, rfl⟩
  refine cutS (s := s) _ (lb5 X0 T0 C0 (by omega) (by omega) hU (fun r h => (gU r h).1) (fun r h => (gU r h).2.1) hLo (by omega) (fun r h => (gL r h).1) (fun r h => (gL r h).2.1) F6 q2 q3 q4 hall6 N6 ne6 hT6) ?_
  rintro h7 tk7 m7 _ F7 N7 ⟨dl7, dv7, dn7, bl, bv, bn, tl7, q2, q3, q4, q5, hd7, hb7, h57, rfl⟩
  have gR : ∀ r ∈ up ++ lo, goodRow r := fun r hr => by
    rcases List.mem_append.mp hr with hr | hr
    · exact gU r hr
    · exact gL r hr
  have nUL : (up ++ lo).length ≤ 64 := by rw [List.length_append]; omega
  refine cutS (s := s) _ (lb6 X0 T0 (by omega) (by omega) nUL (fun r h => (gR r h).1) (fun r h => (gR r h).2.2) F7 q2 q3 q4 q5 hd7 hb7 h57 N7) ?_
  rintro h8 tk8 m8 _ F8 N8 ⟨dv8, dn8, bv8, bn8, cl, cv, tl8, q2, q3, q4, q5, q6, hd8, hb8, hc8, h58, rfl⟩
  refine wpAny_mono (lb7 (s := s) X0 T0 (by omega) (by omega) hU hLo nUL (fun r h => (gR r h).1) (fun r h => (gR r h).2.1) F8 q2 q3 q4 q5 q6 hd8 hb8 hc8 h58 N8) (fun f s' hf => ?_) fun _ _ e => e.elim
  obtain ⟨rfl, h', tk', rfl, keep, h9⟩ := hf
  exact h h' tk' (fun b o hb q => keep b o (by rw [Heap.hide_ne _ hb]; exact q)) h9

-- part Tp_2
set_option maxHeartbeats 4000000 in
theorem top02 : PySem.Challenge.rw_dm0163_02.Holds := by
  refine Mine.hd ?_
  k_fill
  intro w s₀ s₁ mg mb G Y fa o pm cd doc dV kV ho hd hcd hD hmg hg args vals as hpre hlay hrd hwl hlo
  have KX := km_in_of Y
  km_tabs Y
  have X := (Ground.X G).1
  have V := (Ground.X G).2
  refine Ground.open G ?_
  intro T B D TE TW
  try (refine guard_noD D (by decide +kernel) ?_; clear D)
  km_lay T hmg ho hd cd
  have efa : fa = 132 := by
    have e1 := mg_of KX (Top.g T) (n := Str.ofString "law") (v := .ref 132) (by kernel_rfl)
    have e2 : some (Value.ref fa) = some (Value.ref 132) := hmg.symm.trans e1
    injection e2 with e3
    injection e3
  subst efa
  clear hmg
  wrow_args hpre hlay hrd hwl hlo
  all_goals (first | refine callC_kw (enter_call ?_) | refine enter_call ?_)
  w_top on
  kn_posts
  rename IntsAre _ _ => hI
  rename Heap.IsList _ _ _ => hL
  rename ¬ _ < _ => hlen
  refine law_code (g := ghostOf s₁.heap [(109, 105)]) (dp := 301) (un := 4) (fr := some []) (gd := some []) (ghost_K hT9 KX (by kernel_rfl)) (ghost_top hT9 T) (fun b o e => of_hideAll _ e) (hideAll_none _ (by decide)) (ghost_code hT9).1 (by decide) (by decide) (hT8 105 (by k_mem)) (ghost_list hT9 hL) hI (by omega) ?_
  intro h' tk' keep grown
  refine ⟨?good, grown, True.intro⟩
  refine ⟨.inl ⟨_, .bool true, [], rfl, fun _ => rfl, .bool _, ?post, fun _ => ⟨List.nodup_nil, fun a ha => nomatch ha⟩⟩, fun b o e => ?_, rfl, hg⟩
  case post =>
    wrow_post
  have hb : b ≠ 105 := by
    rintro rfl
    have := hideAll_none (h := s₁.heap) [105] (b := 105) (by decide)
    exact absurd (this.symm.trans e) (by nofun)
  exact keep b o hb (of_hideAll _ e)

end Mine
open PySem PySem.W PyProof.Rows
theorem PySem.Challenge.cw_dm0163_02_holds : PySem.Challenge.rw_dm0163_02.Holds := by
  exact Mine.top02
