import PyProof.Rows.All
import Wide.All
import OpenK.AllK
import Wide.FinOn
import PySem.Challenge.RW_dm0163_03
set_option Elab.async false
set_option maxRecDepth 100000
set_option linter.unusedVariables false
set_option linter.unusedSimpArgs false

-- part Rx1
namespace Mine.Rx
open PySem PySem.Sre

/-- the words of the compiled pattern for white rows, and of the one for headers -/
def cdW : Array Nat := #[14, 4, 0, 0, 4294967295, 6, 0, 24, 9, 0, 4294967295, 13, 4, 8, 12, 0, 1, 6, 5, 1]
def cdH : Array Nat := #[14, 4, 0, 0, 4294967295, 6, 0, 17, 0, 24, 11, 0, 4294967295, 13, 6, 16, 32, 16, 9, 0, 1, 24, 6, 0, 4294967295, 16, 35, 1, 17, 1, 1]

theorem runFor_done {m : M} (h : m.outcome.isSome = true) : ∀ n, m.runFor n = m
  | 0 => rfl
  | n + 1 => by show (if m.outcome.isSome = true then m else _) = m; rw [if_pos h]
theorem runFor_succ {m : M} (h : m.outcome = none) (n : Nat) : m.runFor (n + 1) = m.step.runFor n := by
  show (if m.outcome.isSome = true then m else _) = _; rw [if_neg (by rw [h]; decide)]
theorem runFor_add (m : M) : ∀ a b, m.runFor (a + b) = (m.runFor a).runFor b
  | 0, b => by rw [Nat.zero_add]; rfl
  | a + 1, b => by
    by_cases h : m.outcome.isSome = true
    · rw [runFor_done h, runFor_done h, runFor_done h]
    · have h' : m.outcome = none := by cases e : m.outcome with | none => rfl | some _ => rw [e] at h; exact absurd rfl h
      rw [show a + 1 + b = (a + b) + 1 by omega, runFor_succ h', runFor_succ h', runFor_add m.step a b]
  termination_by a => a

/-- what a set or a letter of the code takes, the words seen left aside -/
theorem run_spec {code text : Array Nat} {i : Nat} {f : Nat → Bool} (hf : ∀ c seen, ∃ seen', accepts code i c seen = .ok (f c, seen')) :
    ∀ (n p found : Nat) (seen : Seen), ∃ k seen', run code text i n p found seen = .ok (found + k, seen') ∧ k ≤ n ∧ (∀ j, j < k → f (text.getD (p + j) 0) = true) ∧ (k < n → f (text.getD (p + k) 0) = false)
  | 0, p, found, seen => ⟨0, seen, rfl, Nat.le_refl _, fun j h => absurd h (Nat.not_lt_zero _), fun h => absurd h (Nat.lt_irrefl _)⟩
  | n + 1, p, found, seen => by
    obtain ⟨seen₁, e⟩ := hf (text.getD p 0) seen
    cases hc : f (text.getD p 0) with
    | false =>
      refine ⟨0, seen₁, ?_, Nat.zero_le _, fun j h => absurd h (Nat.not_lt_zero _), fun _ => hc⟩
      rw [Sre.run, e, hc]; rfl
    | true =>
      obtain ⟨k, seen₂, e2, h1, h2, h3⟩ := run_spec hf n (p + 1) (found + 1) seen₁
      refine ⟨k + 1, seen₂, ?_, by omega, fun j hj => ?_, fun hk => ?_⟩
      · rw [Sre.run, e, hc]
        show Sre.run code text i n (p + 1) (found + 1) seen₁ = _
        rw [e2]; congr 2; omega
      · cases j with
        | zero => exact hc
        | succ j => have := h2 j (by omega); rwa [show p + (j + 1) = p + 1 + j by omega]
      · have := h3 (by omega); rwa [show p + (k + 1) = p + 1 + k by omega]

theorem acc_space (c : Nat) (seen : Seen) : ∃ seen', accepts cdW 11 c seen = .ok (Unicode.isSpace c, seen') := by
  cases h : Unicode.isSpace c with
  | true =>
    refine ⟨?_, ?_⟩
    rotate_left
    · show (do if ← category 12 c then pure (true, (seen.add 8).add (55 + 12)) else inSet cdW c 19 15 true ((seen.add 8).add (55 + 12)) : Except String (Bool × Seen)) = _
      have e : category 12 c = .ok true := by show (Except.ok (Unicode.isSpace c)).map (· != (12 % 2 == 1)) = _; rw [h]; rfl
      rw [e]; rfl
  | false =>
    refine ⟨?_, ?_⟩
    rotate_left
    · show (do if ← category 12 c then pure (true, (seen.add 8).add (55 + 12)) else inSet cdW c 19 15 true ((seen.add 8).add (55 + 12)) : Except String (Bool × Seen)) = _
      have e : category 12 c = .ok false := by show (Except.ok (Unicode.isSpace c)).map (· != (12 % 2 == 1)) = _; rw [h]; rfl
      rw [e]; rfl

/-- the machine at the white pattern -/
def mW (text : Array Nat) (pc pos handed : Nat) (frames : List Sre.Frame) (weight : Nat) (answer : Option Bool) (seen : Seen) : M :=
  { code := cdW, text, lim := text.size, start := 0, pc, pos, handed, marks := #[], frames, weight, answer, seen }
def gbW (pos : Nat) (count : Int) : Sre.Frame := { wait := .giveBack, pc := 7, pos, outermost := true, count, kept := { lastmark := -1, lastindex := -1, whole := false, marks := #[] } }

def repOne (m : M) (least : Nat) (r : Except String (Nat × Seen)) : M := match r with
  | .error why => m.stick why
  | .ok (n, seen) =>
    let m := { m with seen }
    if n < least then m.say false else
    let m := { m with pos := m.pos + n }
    m.afterRun .giveBack n (m.keep m.inner.isSome)
theorem forW (text : Array Nat) : ∃ seen, forMatch cdW text 0 0 text.size false false = mW text 5 0 0 [] 0 none seen := ⟨_, rfl⟩
theorem stepW1 (text : Array Nat) (seen : Seen) : ∃ seen', (mW text 5 0 0 [] 0 none seen).step = mW text 7 0 0 [] 0 none seen' := ⟨_, rfl⟩
theorem stepW2 (text : Array Nat) (hs : text.size < 4294967295) (seen : Seen) : ∃ n seen', (mW text 7 0 0 [] 0 none seen).step = mW text 17 n n [gbW n n] 1 none seen' ∧ n ≤ text.size ∧
    (∀ j, j < n → Unicode.isSpace (text.getD j 0) = true) ∧ (n < text.size → Unicode.isSpace (text.getD n 0) = false) := by
  obtain ⟨k, seen', e, h1, h2, h3⟩ := run_spec (text := text) acc_space text.size 0 0 ((seen.add 24).add 13)
  refine ⟨k, seen', ?_, h1, fun j hj => by have := h2 j hj; rwa [Nat.zero_add] at this, fun hk => by have := h3 hk; rwa [Nat.zero_add] at this⟩
  have hr : min 4294967295 ((text.size : Int) - ((0 : Nat) : Int)).toNat = text.size := by omega
  have e0 : (mW text 7 0 0 [] 0 none seen).step = (if ((0 : Nat) : Int) > ((text.size : Int) - ((0 : Nat) : Int)) then M.say (mW text 7 0 0 [] 0 none (seen.add 24)) false else repOne (mW text 7 0 0 [] 0 none (seen.add 24)) 0 (Sre.run cdW text 11 (min 4294967295 ((text.size : Int) - ((0 : Nat) : Int)).toNat) 0 0 ((seen.add 24).add 13))) := rfl
  rw [e0, if_neg (by omega), hr, e, Nat.zero_add]
  have e1 : repOne (mW text 7 0 0 [] 0 none (seen.add 24)) 0 (.ok (k, seen')) = (if k < 0 then M.say (mW text 7 0 0 [] 0 none seen') false else M.afterRun (mW text 7 (0 + k) 0 [] 0 none seen') .giveBack k { lastmark := -1, lastindex := -1, whole := false, marks := #[] }) := rfl
  rw [e1, if_neg (by omega), Nat.zero_add]
  rfl
/-- the end's look: at the end, or ahead of a last line feed -/
def atEnd (text : Array Nat) (p : Nat) : Bool := p == text.size || (p + 1 == text.size && text.getD p 0 == 10)
theorem stepW3 (text : Array Nat) (p h : Nat) (fs : List Sre.Frame) (wt : Nat) (seen : Seen) : ∃ seen', (mW text 17 p h fs wt none seen).step = if atEnd text p = true then mW text 19 p h fs wt none seen' else mW text 17 p h fs wt (some false) seen' := ⟨_, rfl⟩
theorem stepW4 (text : Array Nat) (p h : Nat) (fs : List Sre.Frame) (wt : Nat) (seen : Seen) : ∃ seen', (mW text 19 p h fs wt none seen).step = mW text 19 p p fs wt (some true) seen' := ⟨_, rfl⟩
theorem stepW5 (text : Array Nat) (pc p h q : Nat) (c : Int) (seen : Seen) : (mW text pc p h [gbW q c] 1 (some true) seen).step = mW text 7 q h [] 0 (some true) seen := rfl
theorem stepW6 (text : Array Nat) (pc p h : Nat) (b : Bool) (seen : Seen) : ((mW text pc p h [] 0 (some b) seen).step).outcome = some (if b then .matched else .failed) := by cases b <;> rfl
theorem stepW7 (text : Array Nat) (pc p h q : Nat) (seen : Seen) : ∃ seen', (mW text pc p h [gbW q 0] 1 (some false) seen).step = mW text 7 q h [] 0 (some false) seen' := ⟨_, rfl⟩
theorem stepW8 (text : Array Nat) (pc p h q : Nat) (c : Nat) (seen : Seen) : ∃ seen', (mW text pc p h [gbW q (c + 1 : Nat)] 1 (some false) seen).step = mW text 17 (q - 1) (q - 1) [gbW (q - 1) c] 1 none seen' := by
  refine ⟨seen, ?_⟩
  have e0 : (mW text pc p h [gbW q (c + 1 : Nat)] 1 (some false) seen).step = (if ((c + 1 : Nat) : Int) - 1 < ((0 : Nat) : Int) then M.say (mW text 7 q h [] 0 none seen) false else M.afterRun (mW text 7 (q - 1) h [] 0 none seen) .giveBack (((c + 1 : Nat) : Int) - 1) { lastmark := -1, lastindex := -1, whole := false, marks := #[] }) := rfl
  rw [e0, if_neg (by omega), show (((c + 1 : Nat) : Int) - 1) = (c : Int) by omega]
  rfl

theorem backW (text : Array Nat) : ∀ (c : Nat) (seen : Seen), (∀ j, j ≤ c → atEnd text j = false) → ((mW text 17 c c [gbW c c] 1 none seen).runFor (2 * c + 4)).outcome = some .failed
  | 0, seen, h => by
    obtain ⟨s1, e1⟩ := stepW3 text 0 0 [gbW 0 (0 : Nat)] 1 seen
    rw [h 0 (Nat.le_refl _), if_neg (by decide)] at e1
    obtain ⟨s2, e2⟩ := stepW7 text 17 0 0 0 s1
    rw [show 2 * 0 + 4 = 3 + 1 from rfl, runFor_succ rfl, e1, show 3 = 2 + 1 from rfl, runFor_succ rfl]
    show ((M.step (mW text 17 0 0 [gbW 0 0] 1 (some false) s1)).runFor 2).outcome = _
    rw [e2, show 2 = 1 + 1 from rfl, runFor_succ rfl, runFor_done (by rw [stepW6]; rfl), stepW6]
    rfl
  | c + 1, seen, h => by
    obtain ⟨s1, e1⟩ := stepW3 text (c + 1) (c + 1) [gbW (c + 1) (c + 1 : Nat)] 1 seen
    rw [h (c + 1) (Nat.le_refl _), if_neg (by decide)] at e1
    obtain ⟨s2, e2⟩ := stepW8 text 17 (c + 1) (c + 1) (c + 1) c s1
    rw [show 2 * (c + 1) + 4 = (2 * c + 4 + 1) + 1 by omega, runFor_succ rfl, e1, runFor_succ rfl, e2, Nat.add_sub_cancel]
    exact backW text c s2 fun j hj => h j (by omega)

def isW (text : Array Nat) : Bool := text.all Unicode.isSpace
theorem getD_of_lt (text : Array Nat) {j : Nat} (h : j < text.size) : text.getD j 0 = text[j] := by
  rw [Array.getD_eq_getD_getElem?, Array.getElem?_eq_getElem h]; rfl

theorem runW (text : Array Nat) (hs : text.size < 4294967295) : ∃ N, N ≤ 2 * text.size + 16 ∧ ((forMatch cdW text 0 0 text.size false false).runFor N).outcome = some (if isW text then .matched else .failed) := by
  obtain ⟨s0, e0⟩ := forW text
  obtain ⟨s1, e1⟩ := stepW1 text s0
  obtain ⟨n, s2, e2, hn, h1, h2⟩ := stepW2 text hs s1
  have key : ∀ k, (forMatch cdW text 0 0 text.size false false).runFor (k + 1 + 1) = (mW text 17 n n [gbW n n] 1 none s2).runFor k := fun k => by
    rw [e0, runFor_succ rfl, e1, runFor_succ rfl, e2]
  by_cases hlt : n < text.size
  · refine ⟨2 * n + 4 + 1 + 1, by omega, ?_⟩
    have hsp := h2 hlt
    have hW : isW text = false := by
      cases hw : isW text with
      | false => rfl
      | true =>
        have := (Array.all_eq_true.mp hw) n hlt
        rw [← getD_of_lt text hlt, hsp] at this
        cases this
    rw [key, hW]
    refine backW text n s2 fun j hj => ?_
    unfold atEnd
    rw [Bool.or_eq_false_iff]
    refine ⟨by simp; omega, ?_⟩
    rw [Bool.and_eq_false_iff]
    by_cases hj1 : j + 1 = text.size
    · right
      have : j = n := by omega
      subst this
      cases hc : (text.getD j 0 == 10) with
      | false => rfl
      | true => rw [beq_iff_eq.mp hc] at hsp; revert hsp; decide
    · left; simpa using hj1
  · have hn' : n = text.size := by omega
    refine ⟨4 + 1 + 1, by omega, ?_⟩
    have hW : isW text = true := Array.all_eq_true.mpr fun i hi => by rw [← getD_of_lt text hi]; exact h1 i (by omega)
    rw [key, hW]
    obtain ⟨s3, e3⟩ := stepW3 text n n [gbW n n] 1 s2
    rw [show atEnd text n = true by unfold atEnd; rw [hn']; simp, if_pos rfl] at e3
    obtain ⟨s4, e4⟩ := stepW4 text n n [gbW n n] 1 s3
    rw [show 4 = 3 + 1 from rfl, runFor_succ rfl, e3, show 3 = 2 + 1 from rfl, runFor_succ rfl, e4, show 2 = 1 + 1 from rfl, runFor_succ rfl, stepW5, show 1 = 0 + 1 from rfl, runFor_succ rfl]
    show ((M.step _)).outcome = _
    rw [stepW6]

/-- the machine at the headers' pattern -/
def mH (text : Array Nat) (pc pos handed : Nat) (marks : Array (Option Nat)) (lastmark lastindex : Int) (frames : List Sre.Frame) (weight : Nat) (answer : Option Bool) (seen : Seen) : M :=
  { code := cdH, text, lim := text.size, start := 0, pc, pos, handed, marks, lastmark, lastindex, frames, weight, answer, seen }
def isBT (c : Nat) : Bool := c == 32 || c == 9
theorem acc_bt (c : Nat) (seen : Seen) : ∃ seen', accepts cdH 13 c seen = .ok (isBT c, seen') := by
  have e0 : accepts cdH 13 c seen = (if (c == 32) = true then .ok (true, seen.add 16) else if (c == 9) = true then .ok (true, (seen.add 16).add 16) else .ok (!true, ((seen.add 16).add 16).add 0)) := rfl
  unfold isBT
  rw [e0]
  cases h1 : c == 32 <;> cases h2 : c == 9 <;> exact ⟨_, rfl⟩
theorem acc_hash (c : Nat) (seen : Seen) : ∃ seen', accepts cdH 25 c seen = .ok (c == 35, seen') := ⟨_, rfl⟩
theorem forH (text : Array Nat) : ∃ seen, forMatch cdH text 1 0 text.size false false = mH text 5 0 0 #[none, none] (-1) (-1) [] 0 none seen := ⟨_, rfl⟩
theorem stepH1 (text : Array Nat) (seen : Seen) : ∃ seen', (mH text 5 0 0 #[none, none] (-1) (-1) [] 0 none seen).step = mH text 7 0 0 #[none, none] (-1) (-1) [] 0 none seen' := ⟨_, rfl⟩
theorem stepH2 (text : Array Nat) (seen : Seen) : ∃ seen', (mH text 7 0 0 #[none, none] (-1) (-1) [] 0 none seen).step = mH text 9 0 0 #[some 0, none] 0 (-1) [] 0 none seen' := ⟨_, rfl⟩
def kH : Sre.Kept := { lastmark := 0, lastindex := -1, whole := false, marks := #[] }
def gbH (pc pos : Nat) (count : Int) : Sre.Frame := { wait := .giveBack, pc, pos, outermost := true, count, kept := kH }
theorem stepH3 (text : Array Nat) (hs : text.size < 4294967295) (seen : Seen) : ∃ n seen', (mH text 9 0 0 #[some 0, none] 0 (-1) [] 0 none seen).step = mH text 21 n n #[some 0, none] 0 (-1) [gbH 9 n n] 1 none seen' ∧ n ≤ text.size ∧
    (∀ j, j < n → isBT (text.getD j 0) = true) ∧ (n < text.size → isBT (text.getD n 0) = false) := by
  obtain ⟨k, seen', e, h1, h2, h3⟩ := run_spec (text := text) acc_bt text.size 0 0 ((seen.add 24).add 13)
  refine ⟨k, seen', ?_, h1, fun j hj => by have := h2 j hj; rwa [Nat.zero_add] at this, fun hk => by have := h3 hk; rwa [Nat.zero_add] at this⟩
  have hr : min 4294967295 ((text.size : Int) - ((0 : Nat) : Int)).toNat = text.size := by omega
  have e0 : (mH text 9 0 0 #[some 0, none] 0 (-1) [] 0 none seen).step = (if ((0 : Nat) : Int) > ((text.size : Int) - ((0 : Nat) : Int)) then M.say (mH text 9 0 0 #[some 0, none] 0 (-1) [] 0 none (seen.add 24)) false else repOne (mH text 9 0 0 #[some 0, none] 0 (-1) [] 0 none (seen.add 24)) 0 (Sre.run cdH text 13 (min 4294967295 ((text.size : Int) - ((0 : Nat) : Int)).toNat) 0 0 ((seen.add 24).add 13))) := rfl
  rw [e0, if_neg (by omega), hr, e, Nat.zero_add]
  have e1 : repOne (mH text 9 0 0 #[some 0, none] 0 (-1) [] 0 none (seen.add 24)) 0 (.ok (k, seen')) = (if k < 0 then M.say (mH text 9 0 0 #[some 0, none] 0 (-1) [] 0 none seen') false else M.afterRun (mH text 9 (0 + k) 0 #[some 0, none] 0 (-1) [] 0 none seen') .giveBack k kH) := rfl
  rw [e1, if_neg (by omega), Nat.zero_add]
  rfl
theorem stepH4 (text : Array Nat) (hs : text.size < 4294967295) (n : Nat) (hn : n ≤ text.size) (fr : Sre.Frame) (hfr : fr.kept = kH) (seen : Seen) : ∃ k seen', (mH text 21 n n #[some 0, none] 0 (-1) [fr] 1 none seen).step = mH text 28 (n + k) (n + k) #[some 0, none] 0 (-1) [gbH 21 (n + k) k, fr] 2 none seen' ∧ n + k ≤ text.size ∧
    (∀ j, j < k → (text.getD (n + j) 0 == 35) = true) ∧ (n + k < text.size → (text.getD (n + k) 0 == 35) = false) := by
  obtain ⟨k, seen', e, h1, h2, h3⟩ := run_spec (text := text) acc_hash (text.size - n) n 0 ((seen.add 24).add 16)
  refine ⟨k, seen', ?_, by omega, h2, fun hk => h3 (by omega)⟩
  have hr : min 4294967295 ((text.size : Int) - (n : Int)).toNat = text.size - n := by omega
  have e0 : (mH text 21 n n #[some 0, none] 0 (-1) [fr] 1 none seen).step = (if ((0 : Nat) : Int) > ((text.size : Int) - (n : Int)) then M.say (mH text 21 n n #[some 0, none] 0 (-1) [fr] 1 none (seen.add 24)) false else repOne (mH text 21 n n #[some 0, none] 0 (-1) [fr] 1 none (seen.add 24)) 0 (Sre.run cdH text 25 (min 4294967295 ((text.size : Int) - (n : Int)).toNat) n 0 ((seen.add 24).add 16))) := rfl
  rw [e0, if_neg (by omega), hr, e, Nat.zero_add]
  have e1 : repOne (mH text 21 n n #[some 0, none] 0 (-1) [fr] 1 none (seen.add 24)) 0 (.ok (k, seen')) = (if k < 0 then M.say (mH text 21 n n #[some 0, none] 0 (-1) [fr] 1 none seen') false else M.afterRun (mH text 21 (n + k) n #[some 0, none] 0 (-1) [fr] 1 none seen') .giveBack k kH) := rfl
  rw [e1, if_neg (by omega)]
  rfl
theorem stepH5 (text : Array Nat) (n : Nat) (fs : List Sre.Frame) (wt : Nat) (seen : Seen) : ∃ li seen', (mH text 28 n n #[some 0, none] 0 (-1) fs wt none seen).step = mH text 30 n n #[some 0, some n] 1 li fs wt none seen' := ⟨_, _, rfl⟩
theorem stepH6 (text : Array Nat) (n : Nat) (li : Int) (fs : List Sre.Frame) (wt : Nat) (seen : Seen) : ∃ seen', (mH text 30 n n #[some 0, some n] 1 li fs wt none seen).step = mH text 30 n n #[some 0, some n] 1 li fs wt (some true) seen' := ⟨_, rfl⟩
theorem stepH7 (text : Array Nat) (pc p h n q pc' wt : Nat) (li c : Int) (fs : List Sre.Frame) (seen : Seen) : (mH text pc p h #[some 0, some n] 1 li (gbH pc' q c :: fs) wt (some true) seen).step = mH text pc' q h #[some 0, some n] 1 li fs (wt - 1) (some true) seen := rfl

/-- how many signs the header has -/
structure HeadLen (text : Array Nat) (n : Nat) : Prop where
  le : n ≤ text.size
  cut : ∃ k, k ≤ n ∧ (∀ j, j < k → isBT (text.getD j 0) = true) ∧ (k < text.size → isBT (text.getD k 0) = false) ∧ (∀ j, k ≤ j → j < n → (text.getD j 0 == 35) = true) ∧ (n < text.size → (text.getD n 0 == 35) = false)

theorem runH (text : Array Nat) (hs : text.size < 4294967295) : ∃ n, HeadLen text n ∧ ((forMatch cdH text 1 0 text.size false false).runFor 9).outcome = some .matched ∧
    ((forMatch cdH text 1 0 text.size false false).runFor 9).marks = #[some 0, some n] ∧ ((forMatch cdH text 1 0 text.size false false).runFor 9).lastmark = 1 := by
  obtain ⟨s0, e0⟩ := forH text
  obtain ⟨s1, e1⟩ := stepH1 text s0
  obtain ⟨s2, e2⟩ := stepH2 text s1
  obtain ⟨n, s3, e3, hn, a1, a2⟩ := stepH3 text hs s2
  obtain ⟨k, s4, e4, hk, b1, b2⟩ := stepH4 text hs n hn (gbH 9 n n) rfl s3
  obtain ⟨li, s5, e5⟩ := stepH5 text (n + k) [gbH 21 (n + k) k, gbH 9 n n] 2 s4
  obtain ⟨s6, e6⟩ := stepH6 text (n + k) li [gbH 21 (n + k) k, gbH 9 n n] 2 s5
  have key : (forMatch cdH text 1 0 text.size false false).runFor 9 = (mH text 9 n (n + k) #[some 0, some (n + k)] 1 li [] 0 (some true) s6).runFor 1 := by
    rw [e0, show 9 = 8 + 1 from rfl, runFor_succ rfl, e1, show 8 = 7 + 1 from rfl, runFor_succ rfl, e2, show 7 = 6 + 1 from rfl, runFor_succ rfl, e3, show 6 = 5 + 1 from rfl, runFor_succ rfl, e4, show 5 = 4 + 1 from rfl, runFor_succ rfl, e5, show 4 = 3 + 1 from rfl, runFor_succ rfl, e6, show 3 = 2 + 1 from rfl, runFor_succ rfl, stepH7, show 2 = 1 + 1 from rfl, runFor_succ rfl, stepH7]
  refine ⟨n + k, ⟨hk, n, by omega, a1, a2, fun j h1 h2 => ?_, b2⟩, ?_, ?_, ?_⟩
  · have := b1 (j - n) (by omega); rwa [show n + (j - n) = j by omega] at this
  · rw [key]; rfl
  · rw [key]; rfl
  · rw [key]; rfl
end Mine.Rx

-- part Rx2
namespace Mine.Rx
open PySem PySem.Calls PySem.Builtin.Re
theorem plainAttrs_pat : PlainAttrs "re.Pattern" :=
  ⟨⟨"object.__getattribute__", by rw [typeLookup_type, builtinLookup_eq_fast]; kernel_rfl, by decide +kernel⟩, by rw [typeLookup_type, builtinLookup_eq_fast]; kernel_rfl⟩
theorem slot_pat_match : Slot "re.Pattern" "match" "re.Pattern.match" :=
  .of (owner := "re.Pattern") (n := "match") (by rw [typeLookup_type, builtinLookup_eq_fast]; kernel_rfl) (by decide +kernel) (by decide +kernel) (by decide +kernel)
    (by first | exact .inl (by decide +kernel) | exact .inr (by decide +kernel)) (by rw [isSubtype_type]; kernel_rfl)
theorem entry_pat_match : entryFor table "re.Pattern.match" = some Builtin.«re.Pattern.match» := entryFor_of_tree (by kernel_rfl)
theorem type_pat_match : typeOf (.builtin "re.Pattern.match") = pure (.type "method_descriptor") := by show builtinType _ = _; rw [builtinType_eq_fast]; kernel_rfl
theorem args_pat_match (a b : Value) : argsOk "re.Pattern.match" ⟨[a, b], []⟩ := by
  unfold argsOk; kernel_rfl
theorem plainAttrs_mat : PlainAttrs "re.Match" :=
  ⟨⟨"object.__getattribute__", by rw [typeLookup_type, builtinLookup_eq_fast]; kernel_rfl, by decide +kernel⟩, by rw [typeLookup_type, builtinLookup_eq_fast]; kernel_rfl⟩
theorem slot_mat_group : Slot "re.Match" "group" "re.Match.group" :=
  .of (owner := "re.Match") (n := "group") (by rw [typeLookup_type, builtinLookup_eq_fast]; kernel_rfl) (by decide +kernel) (by decide +kernel) (by decide +kernel)
    (by first | exact .inl (by decide +kernel) | exact .inr (by decide +kernel)) (by rw [isSubtype_type]; kernel_rfl)
theorem entry_mat_group : entryFor table "re.Match.group" = some Builtin.«re.Match.group» := entryFor_of_tree (by kernel_rfl)
theorem type_mat_group : typeOf (.builtin "re.Match.group") = pure (.type "method_descriptor") := by show builtinType _ = _; rw [builtinType_eq_fast]; kernel_rfl
theorem args_mat_group (a b : Value) : argsOk "re.Match.group" ⟨[a, b], []⟩ := by
  unfold argsOk; kernel_rfl
end Mine.Rx

-- part Rx3
namespace Mine.Rx
open PySem PySem.Calls PySem.Builtin.Re
section
variable {M : Model} {A : Around} {E : Value → Shared → Prop} {s : Shared}

theorem drive_ok {Q : Sre.M → Shared → Prop} : ∀ (turns N : Nat) (m : Sre.M), N ≤ 4 * turns → 0 < turns → (m.runFor N).outcome.isSome = true → Q (m.runFor N) s → wpAny M A (reDrive turns m) Q E s
  | 0, N, m, _, h0, _, _ => absurd h0 (Nat.lt_irrefl _)
  | t + 1, N, m, h1, _, h2, h3 => by
    show wpAny M A (if (m.runFor 4).outcome.isSome = true then pure (m.runFor 4) else (do rule "sre.turn"; reDrive t (m.runFor 4))) Q E s
    by_cases hd : (m.runFor 4).outcome.isSome = true
    · rw [if_pos hd]
      refine wpAny_pure ?_
      have : m.runFor 4 = m.runFor N := by
        rcases Nat.le_total 4 N with h | h
        · obtain ⟨d, rfl⟩ := Nat.exists_eq_add_of_le h
          rw [runFor_add, runFor_done hd]
        · obtain ⟨d, e⟩ := Nat.exists_eq_add_of_le h
          rw [e, runFor_add, runFor_done h2]
      rw [this]; exact h3
    · rw [if_neg hd]
      refine wpAny_bind (wpAny_rule ?_)
      have hN : 4 ≤ N := by
        rcases Nat.le_total 4 N with h | h
        · exact h
        · obtain ⟨d, e⟩ := Nat.exists_eq_add_of_le h
          rw [e, runFor_add, runFor_done h2] at hd
          exact absurd h2 hd
      obtain ⟨d, rfl⟩ := Nat.exists_eq_add_of_le hN
      rw [runFor_add] at h2 h3
      have ht : 0 < t ∨ t = 0 := by omega
      rcases ht with ht | rfl
      · exact drive_ok t d (m.runFor 4) (by omega) ht h2 h3
      · have : d = 0 := by omega
        subst this
        exact absurd h2 hd

theorem tell_ok {Q : PUnit → Shared → Prop} (seen : Sre.Seen) (h : Q ⟨⟩ s) : ∀ (l : List Nat), wpAny M A (forIn l PUnit.unit fun i r => do
    if seen.has i then rule (Sre.names.getD i "")
    pure (ForInStep.yield PUnit.unit)) Q E s
  | [] => wpAny_pure h
  | i :: l => by
    rw [List.forIn_cons]
    refine wpAny_bind ?_
    cases seen.has i with
    | true => exact wpAny_bind (wpAny_rule (wpAny_pure (tell_ok seen h l)))
    | false => exact wpAny_pure (tell_ok seen h l)

theorem runToEnd_ok {Q : Option Sre.M → Shared → Prop} {m : Sre.M} {N : Nat} {o : Sre.Outcome} (hN : N ≤ 2 ^ 60) (ho : (m.runFor N).outcome = some o)
    (h : match o with | .matched => Q (some (m.runFor N)) s | .failed => Q none s | .stuck _ => False) : wpAny M A (reRunToEnd m) Q E s := by
  unfold reRunToEnd
  refine wpAny_bind (drive_ok (2 ^ 64) N m (by omega) (by decide) (by rw [ho]; rfl) ?_)
  refine wpAny_bind (tell_ok _ ?_ _)
  rw [ho]
  cases o with
  | matched => exact wpAny_pure h
  | failed => exact wpAny_pure h
  | stuck _ => exact h.elim

theorem runToEnd_matched {Q : Option Sre.M → Shared → Prop} {m : Sre.M} {N : Nat} (hN : N ≤ 2 ^ 60) (ho : (m.runFor N).outcome = some .matched) (h : Q (some (m.runFor N)) s) : wpAny M A (reRunToEnd m) Q E s := runToEnd_ok hN ho h

def codeObj (cd : Array Value) : Obj := { cls := .type "tuple", data := .seq cd 0 }
def patObj (p0 p1 : Value) (groups : Int) (ca : Addr) : Obj := { cls := .type "re.Pattern", data := .fields #[p0, p1, .int groups 0, .none, .none, .ref ca, .int 0 0] }

theorem named_ok (v : Value) : reNamed "re.Pattern.match" "match" ["string", "pos", "endpos"] 1 [v] [] = pure [some v, none, none] := rfl
theorem target_ok {p0 p1 : Value} {groups : Int} {ca pa : Addr} {cd : Array Value} {x : Str} {t : Tok} {Q : ReTarget → Shared → Prop} (hp : s.heap.get? pa = some (patObj p0 p1 groups ca)) (hc : s.heap.get? ca = some (codeObj cd))
    (h : Q { pattern := .ref pa, string := .str x t, code := (cd.map reRawOf).map (·.toNat), text := x.cps, kind := 0, groups := groups.toNat, pos := 0, lim := min (2 ^ 63 - 1 : Int).toNat x.cps.size } s) :
    wpAny M A (reTarget "re.Pattern.match" "match" ⟨[.ref pa, .str x t], []⟩) Q E s := by
  unfold reTarget
  refine wpAny_bind (wpAny_of_eq (named_ok (.str x t)) ?_)
  refine wpAny_bind (wpAny_pure ?_)
  refine wpAny_bind (wpAny_pure ?_)
  refine wpAny_bind (m := fieldsOf _) (wpAny_bind (wpAny_load hp (wpAny_pure ?_)))
  refine wpAny_bind (m := reTextOf _) (wpAny_bind (m := asStr? _) (wpAny_pure (wpAny_pure ?_)))
  refine wpAny_bind (m := reNoCollectionInside _ _) (wpAny_pure ?_)
  refine wpAny_bind (m := reRawItems _) (wpAny_bind (m := seqItems? _) (wpAny_bind (wpAny_load hc (wpAny_pure (wpAny_pure ?_)))))
  exact wpAny_pure h
end
section
variable {prog : Program} {w : World} {A : Around} {E : Value → Shared → Prop} {s : Shared}
abbrev Ext (h h' : Heap) : Prop := ∀ b o, h.get? b = some o → h'.get? b = some o
theorem clip_ok (n : Nat) (h : n ≤ 2 ^ 24) : min (2 ^ 63 - 1 : Int).toNat n = n := by
  have : (2 ^ 63 - 1 : Int).toNat = 9223372036854775807 := by decide
  omega

def spansOf (groups : Nat) (m : Sre.M) : List Value := (List.range groups).flatMap fun g =>
    match if ((2 * g + 1 : Nat) : Int) ≤ m.lastmark then (m.marks.getD (2 * g) none, m.marks.getD (2 * g + 1) none) else (none, none) with
    | (some b, some e) => [rawInt b, rawInt e]
    | _ => [rawInt (-1), rawInt (-1)]
theorem get_none {h : Heap} {a : Addr} (e : h.objs.size ≤ a) : h.get? a = none := by
  cases q : h.get? a with
  | none => rfl
  | some o => exact absurd (Heap.lt_size q) (Nat.not_lt.mpr e)
theorem push_size (h : Heap) (o : Obj) : (h.push o).objs.size = h.objs.size + 1 := by cases h; simp [Heap.push]
theorem newMatch_ok {pattern string : Value} {groups pos lim : Nat} {m : Sre.M} {Q : Value → Shared → Prop}
    (hno : ((List.range groups).any (fun g => match m.marks.getD (2 * g) none, m.marks.getD (2 * g + 1) none with | some b, some e => ((2 * g + 1 : Nat) : Int) ≤ m.lastmark && e < b | _, _ => false)) = false)
    (hl : (spansOf groups m).length ≤ 8)
    (h : ∀ h' a ta, Ext s.heap h' → s.heap.get? a = none → s.heap.get? ta = none → h'.get? a = some { cls := .type "re.Match", data := .fields #[string, pattern, rawInt pos, rawInt lim, rawInt m.lastindex, .ref ta] } →
      h'.get? ta = some { cls := .type "tuple", data := .seq (rawInt m.start :: rawInt m.handed :: spansOf groups m).toArray } → Q (.ref a) { s with heap := h' }) :
    wpAny (model prog w) A (reNewMatch pattern string groups pos lim m) Q E s := by
  unfold reNewMatch
  dsimp only
  refine wpAny_ite ?_
  split
  · rename_i e; exact absurd (hno.symm.trans e) Bool.false_ne_true
  · refine wpAny_bind (wpAny_newObj_type ?_ ?_)
    · refine wpAny_newObj_type ?_ (by show (6 : Nat) ≤ _; decide)
      refine h _ _ s.heap.objs.size (fun b o e => Heap.get?_push_of_some _ (Heap.get?_push_of_some _ e)) ?_ (get_none (Nat.le_refl _)) (Heap.get?_push_size _ rfl) (Heap.get?_push_of_some _ (Heap.get?_push_size _ rfl))
      exact get_none (by show s.heap.objs.size ≤ (s.heap.push _).objs.size; rw [push_size]; exact Nat.le_succ _)
    · show (rawInt m.start :: rawInt m.handed :: spansOf groups m).toArray.size ≤ sizeLine
      rw [List.size_toArray, List.length_cons, List.length_cons]
      have : sizeLine = 16777216 := rfl
      omega

theorem pat_type {p0 p1 : Value} {groups : Int} {ca pa : Addr} (hp : s.heap.get? pa = some (patObj p0 p1 groups ca)) : s.TypeIs (.ref pa) "re.Pattern" := ⟨_, hp, rfl⟩

theorem match_W {p0 p1 : Value} {ca pa : Addr} {x : Str} {t : Tok} {Q : Value → Shared → Prop} (hp : s.heap.get? pa = some (patObj p0 p1 0 ca)) {cd : Array Value} (hc : s.heap.get? ca = some (codeObj cd)) (hv : (cd.map reRawOf).map (·.toNat) = cdW)
    (hx : x.cps.size ≤ 2 ^ 24) (h1 : isW x.cps = true → ∀ a h', Ext s.heap h' → Q (.ref a) { s with heap := h' }) (h0 : isW x.cps = false → Q .none s) :
    wpAny (model prog w) A (call (.builtin "re.Pattern.match") [.ref pa, .str x t]) Q E s := by
  refine wpAny_call_entry slot_pat_match (pat_type hp) entry_pat_match ?_ (args_pat_match _ _)
  unfold Builtin.«re.Pattern.match»
  refine wpAny_bind (target_ok hp hc ?_)
  dsimp only
  rw [hv, clip_ok _ hx, show (0 : Int).toNat = 0 from rfl]
  unfold reAnswer
  obtain ⟨N, hN, ho⟩ := runW x.cps (by omega)
  generalize Sre.forMatch cdW x.cps 0 0 x.cps.size false false = m at ho ⊢
  cases hw : isW x.cps with
  | false =>
    rw [hw] at ho
    exact wpAny_bind (runToEnd_ok (o := .failed) (N := N) (by omega) ho (wpAny_pure ⟨_, rfl, h0 hw⟩))
  | true =>
    rw [hw] at ho
    refine wpAny_bind (runToEnd_ok (o := .matched) (N := N) (by omega) ho ?_)
    refine wpAny_bind (newMatch_ok (groups := 0) rfl (Nat.zero_le 8) fun h' a ta he _ _ _ _ => wpAny_pure ⟨_, rfl, h1 hw a h' he⟩)

def matObj (x : Str) (t : Tok) (pa ta : Addr) (lim li : Value) : Obj := { cls := .type "re.Match", data := .fields #[.str x t, .ref pa, rawInt 0, lim, li, .ref ta] }
def spanObj (v1 v2 : Value) (n : Nat) : Obj := { cls := .type "tuple", data := .seq #[v1, v2, rawInt 0, rawInt n] }
theorem match_H {p0 p1 : Value} {ca pa : Addr} {x : Str} {t : Tok} {Q : Value → Shared → Prop} (hp : s.heap.get? pa = some (patObj p0 p1 1 ca)) {cd : Array Value} (hc : s.heap.get? ca = some (codeObj cd)) (hv : (cd.map reRawOf).map (·.toNat) = cdH)
    (hx : x.cps.size ≤ 2 ^ 24) (h : ∀ a ta h' lim li v1 v2 n, Ext s.heap h' → s.heap.get? a = none → s.heap.get? ta = none → h'.get? a = some (matObj x t pa ta lim li) → h'.get? ta = some (spanObj v1 v2 n) → HeadLen x.cps n → Q (.ref a) { s with heap := h' }) :
    wpAny (model prog w) A (call (.builtin "re.Pattern.match") [.ref pa, .str x t]) Q E s := by
  refine wpAny_call_entry slot_pat_match (pat_type hp) entry_pat_match ?_ (args_pat_match _ _)
  unfold Builtin.«re.Pattern.match»
  refine wpAny_bind (target_ok hp hc ?_)
  dsimp only
  rw [hv, clip_ok _ hx, show (1 : Int).toNat = 1 from rfl]
  unfold reAnswer
  obtain ⟨n, hn, ho, hm, hl⟩ := runH x.cps (by omega)
  generalize Sre.forMatch cdH x.cps 1 0 x.cps.size false false = m at ho hm hl ⊢
  refine wpAny_bind (runToEnd_matched (N := 9) (by decide) ho ?_)
  dsimp only
  generalize m.runFor 9 = m' at ho hm hl ⊢
  have hs : spansOf 1 m' = [rawInt 0, rawInt n] := by
    have e : spansOf 1 m' = (match if ((2 * 0 + 1 : Nat) : Int) ≤ m'.lastmark then (m'.marks.getD (2 * 0) none, m'.marks.getD (2 * 0 + 1) none) else (none, none) with
      | (some b, some e) => [rawInt b, rawInt e]
      | _ => [rawInt (-1), rawInt (-1)]) ++ [] := rfl
    rw [e, hm, hl, if_pos (by decide)]; rfl
  refine wpAny_bind (newMatch_ok (groups := 1) ?_ (by rw [hs]; exact Nat.le_of_ble_eq_true rfl) fun h' a ta he n1 n2 h1 h2 => wpAny_pure ⟨_, rfl, h a ta h' _ _ _ _ n he n1 n2 h1 (by rw [hs] at h2; exact h2) hn⟩)
  show ((match m'.marks.getD (2 * 0) none, m'.marks.getD (2 * 0 + 1) none with | some b, some e => decide (((2 * 0 + 1 : Nat) : Int) ≤ m'.lastmark) && decide (e < b) | _, _ => false) || false) = false
  rw [hm, hl]
  show ((decide _ && decide (n < 0)) || false) = false
  simp

theorem group_H {a ta pa : Addr} {x : Str} {t u : Tok} {lim li v1 v2 : Value} {n : Nat} {Q : Value → Shared → Prop} (ha : s.heap.get? a = some (matObj x t pa ta lim li)) (ht : s.heap.get? ta = some (spanObj v1 v2 n))
    (hx : x.cps.size ≤ 2 ^ 24) (h : ∀ tk', Q (.str ⟨x.cps.extract 0 n⟩ tk') { s with toks := s.toks + 1 }) :
    wpAny (model prog w) A (call (.builtin "re.Match.group") [.ref a, .int 1 u]) Q E s := by
  refine wpAny_call_entry slot_mat_group ⟨_, ha, rfl⟩ entry_mat_group ?_ (args_mat_group _ _)
  unfold Builtin.«re.Match.group»
  refine wpAny_bind (m := noKeywords _ _) (wpAny_pure ?_)
  refine wpAny_bind (m := reFound _) (wpAny_bind (m := fieldsOf _) (wpAny_bind (wpAny_load ha (wpAny_pure ?_))))
  refine wpAny_bind (m := reRawItems _) (wpAny_bind (m := seqItems? _) (wpAny_bind (wpAny_load ht (wpAny_pure (wpAny_pure (wpAny_pure ?_))))))
  dsimp only
  have hsp : Array.map reRawOf ((some #[v1, v2, rawInt 0, rawInt (n : Int)]).getD #[]) = #[reRawOf v1, reRawOf v2, 0, (n : Int)] := by simp [reRawOf, rawInt]
  rw [hsp]
  refine wpAny_bind (m := reGroupNumber _ _) ?_
  unfold reGroupNumber
  refine wpAny_bind (m := asInt? _) (wpAny_pure ?_)
  refine wpAny_bind (m := asIndex _) (wpAny_bind (m := asInt? _) (wpAny_pure (wpAny_pure ?_)))
  dsimp only
  refine wpAny_ite ?_
  refine PySem.W.ite_neg (show ¬ (decide ((1 : Int) < 0) || decide (2 * (1 : Int) ≥ ((4 : Nat) : Int))) = true by decide) ?_
  refine wpAny_pure ?_
  refine wpAny_bind (m := reGroupText _ _ _) ?_
  unfold reGroupText
  dsimp only
  refine wpAny_ite ?_
  refine PySem.W.ite_neg (show ¬ (decide ((0 : Int) < 0) || decide ((n : Int) < 0)) = true by simp) ?_
  refine wpAny_bind (m := reTextOf _) (wpAny_bind (m := asStr? _) (wpAny_pure (wpAny_pure ?_)))
  refine wpAny_mkStr (wpAny_pure ⟨_, rfl, h _⟩) ?_
  show (x.cps.extract 0 n).size ≤ sizeLine
  have : sizeLine = 16777216 := rfl
  simp
  omega
end
end Mine.Rx

namespace Mine
open PySem PySem.W PyProof.Rows PySem.Calls

-- part Top03
set_option maxHeartbeats 8000000
open_top hd for PySem.Challenge.rw_dm0163_03
set_option maxHeartbeats 200000
/-- the head leaves the walk's switch on: off again -/
theorem topOff : True := by
  w_top off
  exact True.intro

-- part Base01_3
abbrev Ext (h h' : Heap) : Prop := ∀ b o, h.get? b = some o → h'.get? b = some o

abbrev ar (dp un : Nat) (fr : Option (List Env)) (gd : Option (List Code)) : Around := { handled := none, depth := dp, frames := fr, guards := gd, units := un }
theorem ar_deeper {dp un : Nat} {fr : Option (List Env)} {gd : Option (List Code)} (env : Env) : ∃ fr', (ar dp un fr gd).deeper env = ar (dp + 1) (un + 3) fr' gd := ⟨_, rfl⟩

theorem enterP {prog : Program} {w : World} {dp un : Nat} {fr : Option (List Env)} {gd : Option (List Code)} {E : Value → Shared → Prop} {s : Shared} {K : Frag} {Q : Value → Shared → Prop}
    {name qual : Str} {params : Arguments} {body : List Stmt} {scope : Scope} {dV kV doc pm cdv ct oc : Value} {an od : Option Addr} {osl : Array (Option Value)} {f : Addr} {pos : List Value} {binds : List (Str × Value)}
    (X : K.In s.heap) (hlim : s.heap.NoLimit)
    (ho : K.lookup f = some ⟨oc, od, .func (fnOf name qual params body scope dV kV doc pm an cdv ct), osl⟩) (hcd : codeIn K cdv qual = true) (hroom : dp + 1 < recursionLimit)
    (hbind : BindsTo s (fnOf name qual params body scope dV kV doc pm an cdv ct) ⟨pos, []⟩ binds) (hloc : ∀ y ∈ binds, scope.names.lookup y.1 = some .local)
    (hcell : ∀ x ∈ scope.names, x.2 ≠ .cell) (hco : scope.isCoroutine = false) (hgen : scope.isGenerator = false) (hk : scope.kind = .function)
    (h : ∀ L h₁ fr', Fr s.heap L h₁ (fun y => binds.reverse.lookup y) → News s.heap L h₁ [] →
      wpAny (model prog w) (ar (dp + 1) (un + 3) fr' gd) (execs body (envOf qual scope L f cdv))
        (fun fl s' => Q (match fl with | .ret v => v | _ => .none) s') (fun _ _ => False)
        { s with heap := h₁, toks := s.toks + binds.length }) :
    wpAny (model prog w) (ar dp un fr gd) (call (.ref f) pos) Q E s := by
  refine wpAny_call ?_
  refine codeAny_call_def (fd := fnOf name qual params body scope dV kV doc pm an cdv ct) (body := body) (binds := binds) (by show dp < _; omega) (X _ _ ho) rfl hlim (codeRec_of X hcd) rfl hbind hcell hloc (fun h₁ hns hk₁ => ?_) hco hgen hk
  obtain ⟨fr', e⟩ := ar_deeper (dp := dp) (un := un) (fr := fr) (gd := gd) (callEnv (fnOf name qual params body scope dV kV doc pm an cdv ct) s.heap.objs.size f)
  rw [e]
  exact wpAny_mono (h s.heap.objs.size h₁ fr' ⟨hns, hk₁, Nat.le_refl _⟩ News.nil) (fun _ _ x => x) (fun _ _ x => x.elim)
theorem frExt {h₀ h h' : Heap} {L : Addr} {m : Str → Option Value} (F : Fr h₀ L h m) (e : Ext h h') : Fr h₀ L h' m :=
  ⟨F.ns.keeps e, fun b o q => e b o (F.keep b o q), F.above⟩
theorem newsExt {h₀ h h' : Heap} {L : Addr} {news : List (Addr × Obj)} (N : News h₀ L h news) (e : Ext h h') : News h₀ L h' news :=
  fun p hp => ⟨e _ _ (N p hp).1, (N p hp).2⟩
theorem newsAdd {h₀ h h' : Heap} {L a : Addr} {o : Obj} {m : Str → Option Value} {news : List (Addr × Obj)} (F : Fr h₀ L h m) (N : News h₀ L h' news) (hn : h.get? a = none) (ha : h'.get? a = some o) : News h₀ L h' ((a, o) :: news) := by
  intro p hp
  rcases List.mem_cons.mp hp with rfl | hp
  · refine ⟨ha, fun e => ?_, ?_⟩
    · obtain ⟨oL, _, _, hL, _⟩ := F.ns
      have e' : a = L := e
      rw [← e', hn] at hL; cases hL
    · cases q : h₀.get? a with
      | none => rfl
      | some o' => have := F.keep _ _ q; rw [hn] at this; cases this
  · exact N p hp

-- part Fn1_3
theorem fill0 : (PySem.Challenge.rw_dm0163_03, hd.heap_39) = (PySem.Challenge.rw_dm0163_03, hd.heap_39) := by k_fill; rfl
local macro_rules | `(tactic| walk_at "my enter") => `(tactic| (refine' enterP (K := hd.heap_39 _) (by assumption) (Top.nolimit (by assumption)) ?k6 ?k7 (by omega) ?k9 ?kB ?c5 ?c2 ?c3 ?c4 ?_; (case k6 => k_is); (case k7 => k_is); (case k9 => exact BindsTo.of_eq rfl); (case kB => exact locs rfl); (case c5 => decide); (case c2 => rfl); (case c3 => rfl); (case c4 => rfl); intro L h₁ fr' F N; dsimp only; k_fold))

section
variable {prog : Program} {w : World} {A : Around} {E : Value → Shared → Prop} {s : Shared} {K : Frag}
theorem getMethod_pat {p0 p1 : Value} {groups : Int} {ca pa : Addr} {pl : Sem Bool} {Q : Value × List Value → Shared → Prop} (X : K.In s.heap) (hp : K.lookup pa = some (Rx.patObj p0 p1 groups ca)) (h : Q (.builtin "re.Pattern.match", [.ref pa]) s) :
    wpAny (model prog w) A (getMethod (.ref pa) "match" pl) Q E s :=
  getMethod_builtin (Rx.pat_type (X _ _ hp)) Rx.plainAttrs_pat Rx.slot_pat_match Rx.type_pat_match (fun a e => by cases e; exact ⟨_, X _ _ hp, rfl⟩) h
theorem getMethod_mat {x : Str} {t : Tok} {a ta pa : Addr} {lim li : Value} {pl : Sem Bool} {Q : Value × List Value → Shared → Prop} (hp : s.heap.get? a = some (Rx.matObj x t pa ta lim li)) (h : Q (.builtin "re.Match.group", [.ref a]) s) :
    wpAny (model prog w) A (getMethod (.ref a) "group" pl) Q E s :=
  getMethod_builtin (T := "re.Match") ⟨_, hp, rfl⟩ Rx.plainAttrs_mat Rx.slot_mat_group Rx.type_mat_group (fun a e => by cases e; exact ⟨_, hp, rfl⟩) h
theorem call_W {p0 p1 : Value} {ca pa : Addr} {x : Str} {t : Tok} {Q : Value → Shared → Prop} (X : K.In s.heap) (hp : K.lookup pa = some (Rx.patObj p0 p1 0 ca)) {cd : Array Value} (hc : K.lookup ca = some (Rx.codeObj cd)) (hv : (cd.map PySem.Builtin.Re.reRawOf).map (·.toNat) = Rx.cdW)
    (hx : x.length ≤ 2 ^ 24) (h1 : Rx.isW x.cps = true → ∀ a h', Ext s.heap h' → Q (.ref a) { s with heap := h' }) (h0 : Rx.isW x.cps = false → Q .none s) :
    wpAny (model prog w) A (call (.builtin "re.Pattern.match") [.ref pa, .str x t]) Q E s := Rx.match_W (X _ _ hp) (X _ _ hc) hv hx h1 h0
theorem call_H {p0 p1 : Value} {ca pa : Addr} {x : Str} {t : Tok} {Q : Value → Shared → Prop} (X : K.In s.heap) (hp : K.lookup pa = some (Rx.patObj p0 p1 1 ca)) {cd : Array Value} (hc : K.lookup ca = some (Rx.codeObj cd)) (hv : (cd.map PySem.Builtin.Re.reRawOf).map (·.toNat) = Rx.cdH)
    (hx : x.length ≤ 2 ^ 24) (h : ∀ a ta h' lim li v1 v2 n, Ext s.heap h' → s.heap.get? a = none → s.heap.get? ta = none → h'.get? a = some (Rx.matObj x t pa ta lim li) → h'.get? ta = some (Rx.spanObj v1 v2 n) → Rx.HeadLen x.cps n → Q (.ref a) { s with heap := h' }) :
    wpAny (model prog w) A (call (.builtin "re.Pattern.match") [.ref pa, .str x t]) Q E s := Rx.match_H (X _ _ hp) (X _ _ hc) hv hx h
end
local macro_rules | `(tactic| walk_at "getMethod ref") => `(tactic| ((with_reducible show wpAny _ _ (getMethod _ (PySem.Str.ofString "match") _) _ _ _); k_dflt (refine' getMethod_pat (K := hd.heap_39 _) ?k1 ?k2 ?_; (case k1 => k_in); (case k2 => k_is))))
local macro_rules | `(tactic| walk_at "getMethod ref") => `(tactic| ((with_reducible show wpAny _ _ (getMethod _ (PySem.Str.ofString "group") _) _ _ _); k_dflt (refine' getMethod_mat ?k1 ?_; (case k1 => exact News.get (by assumption) (by k_mem)))))
local macro_rules | `(tactic| walk_at "call builtin:re.Pattern.match") => `(tactic| (k_dflt (refine' call_W (K := hd.heap_39 _) ?k1 ?k2 ?k3 ?kv ?k4 ?k5 ?k6; (case k1 => k_in); (case k2 => k_is); (case k3 => k_is); (case kv => decide +kernel); (case k4 => assumption); (case' k5 => (intro hw a' h' he; (have F' := frExt (by assumption) he); (have N' := newsExt (by assumption) he))); (case' k6 => intro hw))))
local macro_rules | `(tactic| walk_at "call builtin:re.Pattern.match") => `(tactic| (k_dflt (refine' call_H (K := hd.heap_39 _) ?k1 ?k2 ?k3 ?kv ?k4 ?k5; (case k1 => k_in); (case k2 => k_is); (case k3 => k_is); (case kv => decide +kernel); (case k4 => assumption)); intro a' ta' h' lim' li' v1' v2' n' he na' nta' ha' hta' hn'; (have F' := frExt (by assumption) he); (have N1 := newsExt (by assumption) he); (have N2 := newsAdd (by assumption) N1 nta' hta'); (have N' := newsAdd (by assumption) N2 na' ha'); clear N1 N2 he na' nta' ha' hta'))
local macro_rules | `(tactic| walk_at "call builtin:re.Match.group") => `(tactic| (k_dflt (refine' Rx.group_H ?k1 ?k2 ?k3 ?k4; (case k1 => exact News.get (by assumption) (by k_mem)); (case k2 => exact News.get (by assumption) (by k_mem)); (case k3 => assumption)); intro tk'))

set_option maxHeartbeats 4000000 in
theorem white_call {prog : Program} {w : World} {dp un : Nat} {fr gd} {s : Shared} {Q : Value → Shared → Prop} {E} {p loose mean mg mb} (X : (hd.heap_39 w.params).In s.heap) (T : Top p loose mean mg mb s.heap) (hr : dp + 20 < recursionLimit) {x : Str} {t : Tok} (hx : x.length ≤ 2^24)
   (h : ∀ h' tk', Ext s.heap h' → Q (.bool (Rx.isW x.cps)) {s with heap := h', toks := tk'}) : wpAny (model prog w) (ar dp un fr gd) (call (.ref 62) [.str x t]) Q E s := by
  walk_at "my enter"
  k_steps
  all_goals (rename Rx.isW _ = _ => hw; rw [hw] at h; exact h _ _ (Fr.keep (by assumption)))
set_option maxHeartbeats 4000000 in
theorem header_call {prog : Program} {w : World} {dp un : Nat} {fr gd} {s : Shared} {Q : Value → Shared → Prop} {E} {p loose mean mg mb} (X : (hd.heap_39 w.params).In s.heap) (T : Top p loose mean mg mb s.heap) (hr : dp + 20 < recursionLimit) {x : Str} {t : Tok} (hx : x.length ≤ 2^24)
   (h : ∀ h' tk' t' n, Ext s.heap h' → Rx.HeadLen x.cps n → Q (.str ⟨x.cps.extract 0 n⟩ t') {s with heap := h', toks := tk'}) : wpAny (model prog w) (ar dp un fr gd) (call (.ref 69) [.str x t]) Q E s := by
  walk_at "my enter"
  k_steps
  exact h _ _ _ _ (Fr.keep (by assumption)) (by assumption)

-- part Tx_3
def dec (n : Int) : Str := Str.ofString (toString n)
def d0 (n : Int) : Str := dec n ++ Str.ofString ".0"
def dE (n : Int) : Str := dec n ++ Str.ofString ".end"
theorem split_d0N : ∀ n : Nat, n < 100 → Txt.split (d0 n) (Str.ofString ".") = [dec n, Str.ofString "0"] := by decide +kernel
theorem split_dEN : ∀ n : Nat, n < 100 → Txt.split (dE n) (Str.ofString ".") = [dec n, Str.ofString "end"] := by decide +kernel
theorem len_d0N : ∀ n : Nat, n < 100 → (d0 n).length ≤ 4 := by decide +kernel
theorem len_dEN : ∀ n : Nat, n < 100 → (dE n).length ≤ 6 := by decide +kernel
theorem natOf {n : Int} (h0 : 0 ≤ n) (h1 : n < 100) : ∃ k : Nat, n = k ∧ k < 100 := ⟨n.toNat, by omega, by omega⟩
theorem split_d0 {n : Int} (h0 : 0 ≤ n) (h1 : n < 100) : Txt.split (d0 n) (Str.ofString ".") = [dec n, Str.ofString "0"] := by
  obtain ⟨k, rfl, hk⟩ := natOf h0 h1; exact split_d0N k hk
theorem split_dE {n : Int} (h0 : 0 ≤ n) (h1 : n < 100) : Txt.split (dE n) (Str.ofString ".") = [dec n, Str.ofString "end"] := by
  obtain ⟨k, rfl, hk⟩ := natOf h0 h1; exact split_dEN k hk
theorem len_d0 {n : Int} (h0 : 0 ≤ n) (h1 : n < 100) : (d0 n).length ≤ 4 := by obtain ⟨k, rfl, hk⟩ := natOf h0 h1; exact len_d0N k hk
theorem len_dE {n : Int} (h0 : 0 ≤ n) (h1 : n < 100) : (dE n).length ≤ 6 := by obtain ⟨k, rfl, hk⟩ := natOf h0 h1; exact len_dEN k hk
section
variable {prog : Program} {w : World} {A : Around} {E : Value → Shared → Prop} {s : Shared} {Q : Value → Shared → Prop} {t u : Tok} {n : Int}
set_option maxHeartbeats 4000000 in
theorem mod_d0 (h0 : 0 ≤ n) (h1 : n < 100) (h : ∀ t' k, Q (.str (d0 n) t') { s with toks := k }) : wpAny (model prog w) A (binaryOp .Mod (.str (Str.ofString "%d.0") t) (.int n u)) Q E s := by
  refine KPc.mod_int (T := fun i => d0 i) (X' := ⟨#[37, 100, 46, 48]⟩) (by decide +kernel) h0 (by omega) ?_ h
  unfold d0 dec
  kpc_run
set_option maxHeartbeats 4000000 in
theorem mod_dE (h0 : 0 ≤ n) (h1 : n < 100) (h : ∀ t' k, Q (.str (dE n) t') { s with toks := k }) : wpAny (model prog w) A (binaryOp .Mod (.str (Str.ofString "%d.end") t) (.int n u)) Q E s := by
  refine KPc.mod_int (T := fun i => dE i) (X' := ⟨#[37, 100, 46, 101, 110, 100]⟩) (by decide +kernel) h0 (by omega) ?_ h
  unfold dE dec
  kpc_run
theorem int_dec (h0 : 0 ≤ n) (h1 : n < 100) (h : Q (.int n s.toks) { s with toks := s.toks + 1 }) : wpAny (model prog w) A (call (.type "int") [.str (dec n) t]) Q E s := KIN.call_num h0 (by omega) h
variable {h₀ : Heap} {L : Addr} {m : PySem.Str → Option Value} {news : List (Addr × Obj)}
theorem split_two {x a b : Str} (hF : Fr h₀ L s.heap m) (hN : News h₀ L s.heap news) (hx : Txt.split x (Str.ofString ".") = [a, b]) (hl : x.length ≤ 100)
    (h : ∀ D t1 t2 h' k, Fr h₀ L h' m → News h₀ L h' ((D, listOf #[.str a t1, .str b t2] 0) :: news) → (∀ p ∈ news, p.1 < D) → Q (.ref D) { s with heap := h', toks := k }) :
    wpAny (model prog w) A (call (.builtin "str.split") [.str x t, .str (Str.ofString ".") u]) Q E s := by
  refine KSpl.split1 hF hN (by decide) ?_ (by rw [show sizeLine = 16777216 from rfl]; omega)
  intro D l h' k e _ F N lt
  rw [hx] at e
  obtain ⟨t1, l1, rfl, e1⟩ := KSpl.cons_of e
  obtain ⟨t2, l2, rfl, e2⟩ := KSpl.cons_of e1
  have e3 := KSpl.nil_of e2
  subst e3
  exact h D t1 t2 h' k F N lt
end

-- part Lc_3
inductive All2 {α β : Type} (R : α → β → Prop) : List α → List β → Prop
  | nil : All2 R [] []
  | cons {a : α} {b : β} {as : List α} {bs : List β} : R a b → All2 R as bs → All2 R (a :: as) (b :: bs)
theorem All2.snoc {α β : Type} {R : α → β → Prop} {a : α} {b : β} : ∀ {as : List α} {bs : List β}, All2 R as bs → R a b → All2 R (as ++ [a]) (bs ++ [b])
  | _, _, .nil, h => .cons h .nil
  | _, _, .cons x r, h => .cons x (r.snoc h)
theorem All2.len {α β : Type} {R : α → β → Prop} : ∀ {as : List α} {bs : List β}, All2 R as bs → bs.length = as.length
  | _, _, .nil => rfl
  | _, _, .cons _ r => by rw [List.length_cons, List.length_cons, r.len]
theorem All2.imp {α β : Type} {R S : α → β → Prop} (f : ∀ a b, R a b → S a b) : ∀ {as : List α} {bs : List β}, All2 R as bs → All2 S as bs
  | _, _, .nil => .nil
  | _, _, .cons x r => .cons (f _ _ x) (r.imp f)
theorem All2.at {α β : Type} {R : α → β → Prop} : ∀ {as : List α} {bs : List β}, All2 R as bs → ∀ (i : Nat) (a : α), as[i]? = some a → ∃ b, bs[i]? = some b ∧ R a b
  | _, _, .nil, i, a, h => by simp at h
  | _, _, .cons x r, 0, a, h => by simp at h; subst h; exact ⟨_, rfl, x⟩
  | _, _, .cons x r, i + 1, a, h => by simp at h; obtain ⟨b, e, q⟩ := r.at i a h; exact ⟨b, by simpa using e, q⟩
/-- a value that is this text -/
def IsS (x : Str) (v : Value) : Prop := ∃ t, v = .str x t
def IsI (n : Int) (v : Value) : Prop := ∃ t, v = .int n t
theorem All2.strs {α : Type} {g : α → Str} : ∀ {as : List α} {vs : List Value}, All2 (fun a v => IsS (g a) v) as vs → StrsAre vs (as.map g)
  | _, _, .nil => .nil
  | _, _, .cons ⟨_, e⟩ r => by subst e; exact .cons _ _ r.strs
theorem All2.ints {α : Type} {g : α → Int} : ∀ {as : List α} {vs : List Value}, All2 (fun a v => IsI (g a) v) as vs → IntsAre vs (as.map g)
  | _, _, .nil => .nil
  | _, _, .cons ⟨_, e⟩ r => by subst e; exact .cons _ _ r.ints
theorem ints_at {vs : List Value} {ns : List Int} (h : IntsAre vs ns) (i : Nat) (v : Value) (e : vs.toArray[i]? = some v) : ∃ n, ns[i]? = some n ∧ IsI n v := by
  obtain ⟨k, t, rfl, hk⟩ := IntsAre.at h i v (by simpa using e)
  exact ⟨k, hk, t, rfl⟩

section
variable {prog : Program} {w : World} {A : Around} {h₀ : Heap} {L : Addr} {m : Str → Option Value} {env : Env} {elt : Expr} {x : Str} {scope : Scope} {cl : List (Str × Addr)} {s : Shared} {S : List (Addr × Obj) → Prop} {P : Nat → Value → Prop} {Fin : List Value → List (Addr × Obj) → Prop} {news : List (Addr × Obj)}

/-- the end of one turn: everything known stands, the new value is as told -/
def TurnEnd' (h₀ : Heap) (L : Addr) (m : Str → Option Value) (s : Shared) (led : List (Addr × Obj)) (out : Value → Prop) (y : Value) (s₂ : Shared) : Prop :=
  ∃ h' tk', s₂ = { s with heap := h', toks := tk' } ∧ Fr h₀ L h' m ∧ News h₀ L h' led ∧ out y

theorem rest_map {n : Nat} {α : Type} (xs : List α) (rel out : α → Value → Prop) (hlen : xs.length = n) (hP : ∀ i v, i < n → P i v → ∃ a, xs[i]? = some a ∧ rel a v) (hS : S news)
    (turn : ∀ a v I oI C oC D m₂ ys h tk (E' : Value → Shared → Prop), a ∈ xs → rel a v → LCg.NsObj oC m₂ → m₂ x = some v → Fr h₀ L h m → News h₀ L h ((I, oI) :: (C, oC) :: (D, LCg.lst ys) :: news) → LCg.Off3 I C D news → ((@Ne Nat I C) ∧ (@Ne Nat I D) ∧ (@Ne Nat C D)) →
      wpAny (model prog w) A (eval elt (compEnvC scope cl C env)) (TurnEnd' h₀ L m s ((I, oI) :: (C, oC) :: (D, LCg.lst ys) :: news) (out a)) E' { s with heap := h, toks := tk })
    (fin : ∀ ys, All2 out xs ys → Fin ys news) : LCg.CompRest prog w A h₀ L m env elt x scope cl s S P Fin n 0 [] news := by
  have key : ∀ (j i : Nat) (ys : List Value), i + j = n → All2 out (xs.take i) ys → LCg.CompRest prog w A h₀ L m env elt x scope cl s S P Fin j i ys news := by
    intro j
    induction j with
    | zero =>
      intro i ys hi hy
      have e : i = xs.length := by omega
      subst e
      rw [List.take_length] at hy
      exact LCg.CompRest.zero (fin ys hy)
    | succ j ih =>
      intro i ys hi hy
      refine LCg.CompRest.succ ?_
      intro v I oI C oC D m₂ h tk E' hv hC hx F N off ne
      obtain ⟨a, ha, hr⟩ := hP i v (by omega) hv
      refine wpAny_mono (turn a v I oI C oC D m₂ ys h tk E' (List.mem_of_getElem? ha) hr hC hx F N off ne) (fun y s₂ hq => ?_) fun _ _ e => e
      obtain ⟨h', tk', e, F', N', ho⟩ := hq
      refine ⟨h', tk', news, e, F', N', off, hS, ?_⟩
      refine ih (i + 1) _ (by omega) ?_
      rw [List.take_add_one, ha]
      exact hy.snoc ho
  exact key n 0 [] (by omega) (by rw [List.take_zero]; exact .nil)
end

theorem slice_run (items : Array Value) (a b : Nat) : slicePick items (some (a : Int)) (some (b : Int)) none = ((items.toList.take b).drop a).toArray := by
  rw [slicePick_plain]
  simp only [Option.elim, clipAt_nat]
  congr 1
  apply List.ext_getElem?
  intro i
  have hs : items.toList.length = items.size := Array.length_toList
  rw [List.getElem?_take, List.getElem?_drop, List.getElem?_drop, List.getElem?_take]
  by_cases h1 : a + i < items.size
  · rw [show min a items.size + i = a + i by omega]
    by_cases h2 : a + i < b
    · rw [if_pos (by omega), if_pos h2]
    · rw [if_neg (by omega), if_neg h2]
  · rw [List.getElem?_eq_none (l := items.toList) (i := a + i) (by omega)]
    by_cases h3 : i < min b items.size - min a items.size
    · exfalso; omega
    · rw [if_neg h3]; simp
theorem slice_strs {vs : List Value} {ys : List Str} (h : StrsAre vs ys) {a b : Int} (ha : 0 ≤ a) (hb : 0 ≤ b) : StrsAre (slicePick vs.toArray (some a) (some b) none).toList ((ys.take b.toNat).drop a.toNat) := by
  have e := slice_run vs.toArray a.toNat b.toNat
  rw [Int.toNat_of_nonneg ha, Int.toNat_of_nonneg hb] at e
  rw [e]
  simpa using (h.take' b.toNat).drop' a.toNat
theorem strs_at' {its : Array Value} {ys : List Str} (h : StrsAre its.toList ys) (i : Nat) (v : Value) (e : its[i]? = some v) : ∃ y, ys[i]? = some y ∧ IsS y v := by
  obtain ⟨y, t, rfl, hy⟩ := StrsAre.item h i v (by simpa using e)
  exact ⟨y, hy, t, rfl⟩
theorem strs_size' {its : Array Value} {ys : List Str} (h : StrsAre its.toList ys) : ys.length = its.size := by rw [← h.length, Array.length_toList]

theorem sum_le (B : Nat) : ∀ (ys : List Str), (∀ y ∈ ys, y.length ≤ B) → (ys.map (·.length)).sum ≤ B * ys.length
  | [], _ => by simp
  | y :: r, h => by
    have h1 := h y List.mem_cons_self
    have h2 := sum_le B r fun z hz => h z (List.mem_cons_of_mem _ hz)
    rw [List.map_cons, List.sum_cons, List.length_cons, Nat.mul_succ]
    omega

-- part Fn2_3
theorem fill1 : (PySem.Challenge.rw_dm0163_03, hd.heap_39) = (PySem.Challenge.rw_dm0163_03, hd.heap_39) := by k_fill; rfl
local macro_rules | `(tactic| walk_at "binaryOp Mod str int") => `(tactic| (first | (refine mod_d0 (by omega) (by omega) ?_) | (refine mod_dE (by omega) (by omega) ?_); intro t' k'))
local macro_rules | `(tactic| walk_at "call builtin:str.split") => `(tactic| ((first | (refine split_two (by k_asm) (by k_asm) (split_d0 (by omega) (by omega)) (Nat.le_trans (len_d0 (by omega) (by omega)) (by decide)) ?_) | (refine split_two (by k_asm) (by k_asm) (split_dE (by omega) (by omega)) (Nat.le_trans (len_dE (by omega) (by omega)) (by decide)) ?_)); intro D' t1' t2' h' k' F' N' l1; (try k_lt l1); (try k_sweep)))
local macro_rules | `(tactic| walk_at "call type:int") => `(tactic| (refine int_dec (by omega) (by omega) ?_))
local macro_rules | `(tactic| walk_at "my steps") => `(tactic| repeat' (first | ((fail_if_success (with_reducible show LCg.CompSrc _ _ _ _ _ _ _ _ _ _ _ _ _ _)); first | (k_unfold; (try dsimp only)) | (k_end; wrow_close) | walk1 | (dsimp only; walk1) | (leave1; walk_say "STEP leave1"; try dsimp only) | fail "no step")))
local macro_rules | `(tactic| walk_at "eval ListComp") => `(tactic| (k_dflt (refine LCg.ListComp_U (F₀ := by k_asm) (by rfl) (by decide) (by rfl) (by decide) (by rfl) ?_)))
def lineAt (rows : List Str) (a : Int) : Str := if 0 < a ∧ a ≤ (rows.length : Int) then rows.getD (a - 1).toNat Str.empty else Str.empty

set_option maxHeartbeats 4000000 in
theorem get_end {prog : Program} {w : World} {dp un : Nat} {fr gd} {s : Shared} {Q : Value → Shared → Prop} {E} {p loose mean mg mb} (X : (hd.heap_39 w.params).In s.heap) (T : Top p loose mean mg mb s.heap) (hr : dp + 20 < recursionLimit)
   {rows : List Str} {vs : List Value} {l : Addr} (hl : s.heap.IsList l vs.toArray) (hS : StrsAre vs rows) (hn : rows.length ≤ 64) {a : Int} (h0 : 0 ≤ a) (h1 : a < 100) {t u : Tok}
   (h : ∀ h' tk' t', Ext s.heap h' → Q (.str (lineAt rows a) t') {s with heap := h', toks := tk'}) : wpAny (model prog w) (ar dp un fr gd) (call (.ref 103) [.ref l, .str (d0 a) t, .str (dE a) u]) Q E s := by
  walk_at "my enter"
  k_steps
  all_goals (try dsimp only)
  all_goals (try (k_unfold; try dsimp only))
  · have e : lineAt rows a = _ := if_pos ⟨by assumption, by assumption⟩
    rw [e] at h; exact h _ _ _ (Fr.keep (by assumption))
  all_goals (have e : lineAt rows a = Str.ofString "" := if_neg (by omega); rw [e] at h; exact h _ _ _ (Fr.keep (by assumption)))

def nl (x : Str) : Str := x ++ Str.ofString "\n"
def cut (rows : List Str) (a b : Int) : Str := Txt.join (Str.ofString "") (((rows.take (b - 1).toNat).drop (a - 1).toNat).map nl)
set_option maxHeartbeats 4000000 in
theorem get_text {prog : Program} {w : World} {dp un : Nat} {fr gd} {s : Shared} {Q : Value → Shared → Prop} {E} {p loose mean mg mb} (X : (hd.heap_39 w.params).In s.heap) (T : Top p loose mean mg mb s.heap) (hr : dp + 20 < recursionLimit)
   {rows : List Str} {vs : List Value} {l : Addr} (hl : s.heap.IsList l vs.toArray) (hS : StrsAre vs rows) (hn : rows.length ≤ 64) (hL : ∀ r ∈ rows, r.length ≤ 64) {a b : Int} (h0 : 1 ≤ a) (h1 : a ≤ b) (h2 : b < 100) {t u : Tok}
   (h : ∀ h' tk' t', Ext s.heap h' → Q (.str (cut rows a b) t') {s with heap := h', toks := tk'}) : wpAny (model prog w) (ar dp un fr gd) (call (.ref 103) [.ref l, .str (d0 a) t, .str (d0 b) u]) Q E s := by
  walk_at "my enter"
  walk_at "my steps"
  rename News _ _ _ _ => NN
  have hsl := slice_strs hS (a := a - 1) (b := b - 1) (by omega) (by omega)
  have hsz := strs_size' hsl
  have hle : ((rows.take (b - 1).toNat).drop (a - 1).toNat).length ≤ 64 := by rw [List.length_drop, List.length_take]; omega
  have hmem : ∀ y ∈ (rows.take (b - 1).toNat).drop (a - 1).toNat, y.length ≤ 64 := fun y hy => hL y (List.mem_of_mem_take (List.mem_of_mem_drop hy))
  refine LCg.CompSrc.ledger rfl (by assumption) NN (by k_mem) (by rw [← hsz, show sizeLine = 16777216 from rfl]; omega) (fun g => rest_map ((rows.take (b - 1).toNat).drop (a - 1).toNat) (fun y v => IsS y v) (fun y v => IsS (nl y) v) hsz (fun i v _ e => strs_at' hsl i v e) (.inr ⟨_, by k_mem, rfl, _, rfl⟩) ?turn ?fin)
  case turn =>
    intro y v I oI C oC D m₂ ys h tk E' hy hr hC hx F N off ne
    obtain ⟨t, rfl⟩ := hr
    have hyl := hmem y hy
    walk_at "my steps"
    exact ⟨_, _, rfl, by assumption, by assumption, _, rfl⟩
  case fin =>
    intro ys hys
    walk_at "my steps"
    have hst := hys.strs
    refine join_listC (ys := ((rows.take (b - 1).toNat).drop (a - 1).toNat).map nl) (News.isList (by assumption) (by k_mem)) (by simpa using hst) (by decide) ?_ ?_
    · have := sum_le 65 (((rows.take (b - 1).toNat).drop (a - 1).toNat).map nl) (fun z hz => by
        obtain ⟨y, hy, rfl⟩ := List.mem_map.mp hz
        have := hmem y hy
        unfold nl; rw [Str.length_append]; have : (Str.ofString "\n").length = 1 := rfl; omega)
      rw [List.length_map] at this ⊢
      omega
    · intro t' k
      exact h _ _ _ (Fr.keep (by assumption))

-- part Hd_3
/-- how many signs of a text hold f, from the place p on (fuel: how many may be looked at) -/
def runLen (f : Nat → Bool) (text : Array Nat) : (fuel p : Nat) → Nat
  | 0, _ => 0
  | n + 1, p => if f (text.getD p 0) then runLen f text n (p + 1) + 1 else 0
theorem runLen_spec (f : Nat → Bool) (text : Array Nat) : ∀ (n p : Nat), runLen f text n p ≤ n ∧ (∀ j, j < runLen f text n p → f (text.getD (p + j) 0) = true) ∧ (runLen f text n p < n → f (text.getD (p + runLen f text n p) 0) = false)
  | 0, p => ⟨Nat.le_refl _, fun j h => absurd h (Nat.not_lt_zero _), fun h => absurd h (Nat.lt_irrefl _)⟩
  | n + 1, p => by
    unfold runLen
    cases hc : f (text.getD p 0) with
    | false => exact ⟨Nat.zero_le _, fun j h => absurd h (Nat.not_lt_zero _), fun _ => hc⟩
    | true =>
      obtain ⟨h1, h2, h3⟩ := runLen_spec f text n (p + 1)
      refine ⟨by simp only [if_true]; omega, fun j hj => ?_, fun hk => ?_⟩
      · simp only [if_true] at hj
        cases j with
        | zero => exact hc
        | succ j => have := h2 j (by omega); rwa [show p + (j + 1) = p + 1 + j by omega]
      · simp only [if_true] at hk ⊢
        have := h3 (by omega); rwa [show p + (runLen f text n (p + 1) + 1) = p + 1 + runLen f text n (p + 1) by omega]
def btLen (text : Array Nat) : Nat := runLen Rx.isBT text text.size 0
def hlen (text : Array Nat) : Nat := btLen text + runLen (· == 35) text (text.size - btLen text) (btLen text)
theorem hlen_head (text : Array Nat) : Rx.HeadLen text (hlen text) := by
  obtain ⟨a1, a2, a3⟩ := runLen_spec Rx.isBT text text.size 0
  obtain ⟨b1, b2, b3⟩ := runLen_spec (· == 35) text (text.size - btLen text) (btLen text)
  unfold hlen
  refine ⟨?_, btLen text, Nat.le_add_right _ _, fun j hj => ?_, fun hk => ?_, fun j h1 h2 => ?_, fun hn => ?_⟩
  · unfold btLen at *; omega
  · have := a2 j hj; rwa [Nat.zero_add] at this
  · have := a3 hk; rwa [Nat.zero_add] at this
  · have := b2 (j - btLen text) (by omega); rwa [show btLen text + (j - btLen text) = j by omega] at this
  · exact b3 (by omega)
theorem head_uniq {text : Array Nat} {n k : Nat} (h : Rx.HeadLen text n) (h' : Rx.HeadLen text k) : n = k := by
  obtain ⟨l1, a, a1, a2, a3, a4, a5⟩ := h
  obtain ⟨l2, b, b1, b2, b3, b4, b5⟩ := h'
  have hab : a = b := by
    rcases Nat.lt_trichotomy a b with q | q | q
    · have x := a3 (by omega); have y := b2 a q; rw [x] at y; cases y
    · exact q
    · have x := b3 (by omega); have y := a2 b q; rw [x] at y; cases y
  subst hab
  rcases Nat.lt_trichotomy n k with q | q | q
  · have x := a5 (by omega); have y := b4 n a1 q; rw [x] at y; cases y
  · exact q
  · have x := b5 (by omega); have y := a4 k b1 q; rw [x] at y; cases y
/-- the header of a row, and whether a text is white (kept closed: the walk is not to look inside) -/
theorem hdr_ex : ∃ f : Str → Str, f = fun x => ⟨x.cps.extract 0 (hlen x.cps)⟩ := ⟨_, rfl⟩
noncomputable def hdr : Str → Str := Classical.choose hdr_ex
theorem hdr_eq (x : Str) : hdr x = ⟨x.cps.extract 0 (hlen x.cps)⟩ := congrFun (Classical.choose_spec hdr_ex) x
theorem isWs_ex : ∃ f : Str → Bool, f = fun x => Rx.isW x.cps := ⟨_, rfl⟩
noncomputable def isWs : Str → Bool := Classical.choose isWs_ex
theorem isWs_eq (x : Str) : isWs x = Rx.isW x.cps := congrFun (Classical.choose_spec isWs_ex) x
theorem hdr_call {prog : Program} {w : World} {dp un : Nat} {fr gd} {s : Shared} {Q : Value → Shared → Prop} {E} {p loose mean mg mb} (X : (hd.heap_39 w.params).In s.heap) (T : Top p loose mean mg mb s.heap) (hr : dp + 20 < recursionLimit) {x : Str} {t : Tok} (hx : x.length ≤ 2^24)
   (h : ∀ h' tk' t', Ext s.heap h' → Q (.str (hdr x) t') {s with heap := h', toks := tk'}) : wpAny (model prog w) (ar dp un fr gd) (call (.ref 69) [.str x t]) Q E s :=
  header_call X T hr hx fun h' tk' t' n e hn => by
    have := h h' tk' t' e
    rw [hdr_eq] at this
    rwa [head_uniq (hlen_head x.cps) hn] at this
theorem ws_call {prog : Program} {w : World} {dp un : Nat} {fr gd} {s : Shared} {Q : Value → Shared → Prop} {E} {p loose mean mg mb} (X : (hd.heap_39 w.params).In s.heap) (T : Top p loose mean mg mb s.heap) (hr : dp + 20 < recursionLimit) {x : Str} {t : Tok} (hx : x.length ≤ 2^24)
   (h : ∀ h' tk', Ext s.heap h' → Q (.bool (isWs x)) {s with heap := h', toks := tk'}) : wpAny (model prog w) (ar dp un fr gd) (call (.ref 62) [.str x t]) Q E s :=
  white_call X T hr hx fun h' tk' e => by rw [← isWs_eq]; exact h h' tk' e

/-- a page as find_paragraph meets it: what its two functions answer, whatever is made besides -/
structure PageOk (prog : Program) (w : World) (h : Heap) (pg : Addr) (rows : List Str) : Prop where
  get : ∃ fg, FnAt fg h ∧
    (∀ (s : Shared) (A : Around) (Q : Value × List Value → Shared → Prop) (E : Value → Shared → Prop) (pl : Sem Bool), Ext h s.heap → (∀ tk', Q (.ref fg, []) { s with toks := tk' }) → wpAny (model prog w) A (getMethod (.ref pg) (Str.ofString "get") pl) Q E s) ∧
    (∀ (s : Shared) (dp un : Nat) (fr : Option (List Env)) (gd : Option (List Code)) (Q E : Value → Shared → Prop) (a : Int) (t u : Tok), Ext h s.heap → dp + 40 < recursionLimit → 0 ≤ a → a < 100 →
      (∀ h' tk' t', Ext s.heap h' → Q (.str (lineAt rows a) t') { s with heap := h', toks := tk' }) → wpAny (model prog w) (ar dp un fr gd) (call (.ref fg) [.str (d0 a) t, .str (dE a) u]) Q E s) ∧
    (∀ (s : Shared) (dp un : Nat) (fr : Option (List Env)) (gd : Option (List Code)) (Q E : Value → Shared → Prop) (a b : Int) (t u : Tok), Ext h s.heap → dp + 40 < recursionLimit → 1 ≤ a → a ≤ b → b < 100 →
      (∀ h' tk' t', Ext s.heap h' → Q (.str (cut rows a b) t') { s with heap := h', toks := tk' }) → wpAny (model prog w) (ar dp un fr gd) (call (.ref fg) [.str (d0 a) t, .str (d0 b) u]) Q E s)
  cmp : ∃ fc, FnAt fc h ∧
    (∀ (s : Shared) (A : Around) (Q : Value × List Value → Shared → Prop) (E : Value → Shared → Prop) (pl : Sem Bool), Ext h s.heap → (∀ tk', Q (.ref fc, []) { s with toks := tk' }) → wpAny (model prog w) A (getMethod (.ref pg) (Str.ofString "compare") pl) Q E s) ∧
    (∀ (s : Shared) (dp un : Nat) (fr : Option (List Env)) (gd : Option (List Code)) (Q E : Value → Shared → Prop) (a : Int) (t u v : Tok), Ext h s.heap → dp + 40 < recursionLimit → 0 ≤ a → a < 100 →
      (∀ h' tk', Ext s.heap h' → Q (.bool (decide (a ≤ (rows.length : Int)))) { s with heap := h', toks := tk' }) → wpAny (model prog w) (ar dp un fr gd) (call (.ref fc) [.str (d0 a) t, .str (Str.ofString "<") u, .str (Str.ofString "end") v]) Q E s)

-- part Mp_3
namespace Mp
theorem mro_map : mroOf (.type "map") = pure [.type "map", .type "object"] := by rw [mroOf_type]; kernel_rfl
theorem lookup_map_new : typeLookup (.type "map") "__new__" = pure (some (.builtin "map.__new__")) := by rw [typeLookup_type, builtinLookup_eq_fast]; kernel_rfl
theorem slot_map_init : Slot "map" "__init__" "object.__init__" :=
  .of (owner := "object") (n := "__init__") (by rw [typeLookup_type, builtinLookup_eq_fast]; kernel_rfl) (by decide +kernel) (by decide +kernel) (by decide +kernel)
    (by first | exact .inl (by decide +kernel) | exact .inr (by decide +kernel)) (by rw [isSubtype_type]; kernel_rfl)
theorem slot_map_iter : Slot "map" "__iter__" "map.__iter__" :=
  .of (owner := "map") (n := "__iter__") (by rw [typeLookup_type, builtinLookup_eq_fast]; kernel_rfl) (by decide +kernel) (by decide +kernel) (by decide +kernel)
    (by first | exact .inl (by decide +kernel) | exact .inr (by decide +kernel)) (by rw [isSubtype_type]; kernel_rfl)
theorem slot_map_next : Slot "map" "__next__" "map.__next__" :=
  .of (owner := "map") (n := "__next__") (by rw [typeLookup_type, builtinLookup_eq_fast]; kernel_rfl) (by decide +kernel) (by decide +kernel) (by decide +kernel)
    (by first | exact .inl (by decide +kernel) | exact .inr (by decide +kernel)) (by rw [isSubtype_type]; kernel_rfl)
theorem called_map : TypeCalled "map" "map.__new__" "object.__init__" :=
  ⟨by decide +kernel, by decide +kernel, ⟨_, _, mro_map⟩, madeBy_type mro_map lookup_map_new (by decide +kernel), by decide +kernel, by rw [isSubtype_type]; kernel_rfl, slot_map_init⟩
theorem typeCall_map_2 (a b : Value) : checkTypeCall "map" ⟨[a, b], []⟩ = pure () := by kernel_rfl
theorem newCall_map_2 (a b : Value) : checkBuiltinCall "map.__new__" ⟨[.type "map", a, b], []⟩ = pure () := by kernel_rfl
theorem entry_map_new : entryFor table "map.__new__" = some Builtin.«map.__new__» := entryFor_of_tree (by kernel_rfl)
theorem entry_map_next : entryFor table "map.__next__" = some Builtin.«map.__next__» := entryFor_of_tree (by kernel_rfl)
theorem entry_map_iter : entryFor table "map.__iter__" = some Builtin.«dict_keyiterator.__iter__» :=
  entryFor_alias (id' := "dict_keyiterator.__iter__") (by kernel_rfl) (by first | rfl | decide +kernel) (by decide +kernel) (by kernel_rfl)
theorem args_map_iter (a : Value) : argsOk "map.__iter__" ⟨[a], []⟩ := by unfold argsOk; kernel_rfl
theorem args_map_next (a : Value) : argsOk "map.__next__" ⟨[a], []⟩ := by unfold argsOk; kernel_rfl
theorem sub_map : isSubtype (.type "map") (.type "map") = pure true := by rw [isSubtype_type]; kernel_rfl
abbrev H1 (h : Heap) (l : Addr) : Heap := h.push { cls := .type "list_iterator", data := .fields #[.ref l, .int 0 0] }
abbrev H2 (h : Heap) (l : Addr) : Heap := (H1 h l).push { cls := .type "tuple", data := .seq #[.ref h.objs.size] }
abbrev H3 (h : Heap) (l : Addr) (f : Value) : Heap := (H2 h l).push { cls := .type "map", data := .fields #[.ref (H1 h l).objs.size, f] }
theorem meets_map_new (f : Value) (l : Addr) (xs : Array Value) :
    Meets (Builtin.«map.__new__» ⟨[.type "map", f, .ref l], []⟩) (fun _ R s => s.heap.IsList l xs ∧ R (.ok (.ret (.ref (H2 s.heap l).objs.size))) { s with heap := H3 s.heap l f }) :=
  .of_wp fun prog w A R s h => by
    obtain ⟨hp, g, d, tk, os⟩ := s; obtain ⟨hl, h⟩ := h
    have hsub := sub_map
    have hL1 : Heap.IsList (Shared.heap ⟨hp, g, d, tk, os⟩) l xs := hl
    wp_walk using wpAny_pyIter_list hL1
    exact ⟨_, rfl, h⟩

end Mp

-- part Mq_3
namespace Mp

section
variable {prog : Program} {w : World} {A : Around} {E : Value → Shared → Prop} {s : Shared}
abbrev mapObj (TI : Addr) (f : Value) : Obj := { cls := .type "map", data := .fields #[.ref TI, f] }
abbrev oneTup (I : Addr) : Obj := { cls := .type "tuple", data := .seq #[.ref I] }
theorem call_map {f : Value} {l : Addr} {xs : Array Value} {Q : Value → Shared → Prop} (hl : s.heap.IsList l xs)
    (h : ∀ h' z TI I, h'.get? z = some (mapObj TI f) → h'.get? TI = some (oneTup I) → h'.IsListIter I l 0 → s.heap.get? I = none → z ≠ I → TI ≠ I → Ext s.heap h' → Q (.ref z) { s with heap := h' }) :
    wpAny (model prog w) A (call (.type "map") [f, .ref l]) Q E s := by
  refine callType_new called_map (by decide) (typeCall_map_2 _ _) (newCall_map_2 _ _) (fun obj => F.args_object_init_3 obj _ _) entry_map_new (meets_map_new f l xs) ⟨hl, ?_⟩
  have z1 : (H1 s.heap l).objs.size = s.heap.objs.size + 1 := Heap.size_push ..
  have z2 : (H2 s.heap l).objs.size = s.heap.objs.size + 2 := by rw [Heap.size_push, z1]
  have g3 : (H3 s.heap l f).get? (H2 s.heap l).objs.size = some _ := Heap.get?_push_size _ rfl
  have g2 : (H3 s.heap l f).get? (H1 s.heap l).objs.size = some _ := Heap.get?_push_of_some _ (Heap.get?_push_size _ rfl)
  have g1 : (H3 s.heap l f).get? s.heap.objs.size = some _ := Heap.get?_push_of_some _ (Heap.get?_push_of_some _ (Heap.get?_push_size _ rfl))
  show _ ∧ _
  refine ⟨⟨_, g3, rfl⟩, h _ _ _ s.heap.objs.size g3 g2 ⟨_, g1, rfl, rfl⟩ (Heap.get?_none_of_le (Nat.le_refl _)) (by rw [z2]; exact (Nat.ne_of_gt (by omega))) (by rw [z1]; exact (Nat.ne_of_gt (by omega))) fun c o x => Heap.get?_push_of_some _ (Heap.get?_push_of_some _ (Heap.get?_push_of_some _ x))⟩

theorem next_map {z TI I l : Addr} {f : Value} {i : Nat} {xs : Array Value} {x : Value} {Q : Option Value → Shared → Prop} (hz : s.heap.get? z = some (mapObj TI f)) (hT : s.heap.get? TI = some (oneTup I)) (hI : s.heap.IsListIter I l i) (hl : s.heap.IsList l xs) (hx : xs[i]? = some x) (hzI : z ≠ I)
    (h : ∀ h', h'.IsListIter I l (i + 1) → Heap.SameBut I s.heap h' → wpAny (model prog w) A.in1 (call f [x]) (fun v s' => Q (some v) s') (fun _ _ => False) { s with heap := h' }) :
    wpAny (model prog w) A (pyNext (.ref z)) Q E s := by
  have hTy : s.TypeIs (.ref z) "map" := ⟨_, hz, rfl⟩
  unfold pyNext
  refine wpAny_bind (wpAny_attempt (wpAny_callSpecial?_slot (name := Str.ofString "__next__") hTy slot_map_next (wpAny_call_entry slot_map_next hTy entry_map_next ?_ (args_map_next _))))
  show wpAny _ _ (field (.ref z) 0 >>= _) _ _ _
  refine wpAny_bind (wpAny_field hz rfl (x := .ref TI) rfl ?_)
  refine wpAny_bind (wpAny_seqItems hT rfl ?_)
  refine wpAny_bind ?_
  rw [← Array.forIn_toList]
  show wpAny _ _ (forIn [Value.ref I] (#[] : Array Value) _) _ _ _
  rw [List.forIn_cons]
  refine wpAny_bind (wpAny_bind (wpAny_holding (wpAny_nextOf_list_item hI hl hx fun h' hI' hs => wpAny_pure ?_)))
  dsimp only
  rw [List.forIn_nil]
  refine wpAny_pure ?_
  refine wpAny_bind (wpAny_field (hs.extBut _ _ hzI hz) rfl (x := f) rfl ?_)
  refine wpAny_bind (wpAny_holding (wpAny_mono (h h' hI' hs) (fun v s' hq => ?_) fun _ _ e => e.elim))
  exact wpAny_bind (wpAny_letGo (wpAny_pure ⟨_, rfl, wpAny_pure hq⟩))

theorem end_map {z TI I l : Addr} {f : Value} {i : Nat} {xs : Array Value} {Q : Option Value → Shared → Prop} (hh : A.handled = none) (hz : s.heap.get? z = some (mapObj TI f)) (hT : s.heap.get? TI = some (oneTup I)) (hI : s.heap.IsListIter I l i) (hl : s.heap.IsList l xs) (hx : xs[i]? = none)
    (h : ∀ h', Heap.ExtBut I s.heap h' → Q none { s with heap := h' }) :
    wpAny (model prog w) A (pyNext (.ref z)) Q E s := by
  have hTy : s.TypeIs (.ref z) "map" := ⟨_, hz, rfl⟩
  unfold pyNext
  refine wpAny_bind (wpAny_attempt (wpAny_callSpecial?_slot (name := Str.ofString "__next__") hTy slot_map_next (wpAny_call_entry slot_map_next hTy entry_map_next ?_ (args_map_next _))))
  show wpAny _ _ (field (.ref z) 0 >>= _) _ _ _
  refine wpAny_bind (wpAny_field hz rfl (x := .ref TI) rfl ?_)
  refine wpAny_bind (wpAny_seqItems hT rfl ?_)
  refine wpAny_bind ?_
  rw [← Array.forIn_toList]
  show wpAny _ _ (forIn [Value.ref I] (#[] : Array Value) _) _ _ _
  rw [List.forIn_cons]
  refine wpAny_bind (wpAny_bind (wpAny_holding (wpAny_nextOf_list_end (A := A.in1) hh hI hl hx fun h' e he hx' => ?_)))
  obtain ⟨o, ho, hc⟩ := hx'
  refine wpAny_bind (wpAny_isInstance (T := "StopIteration") (b := true) ⟨o, ho, hc⟩ isSubtype_stop ?_)
  exact wpAny_pure (h _ he)

theorem iter_map {z TI : Addr} {f : Value} {Q : Value → Shared → Prop} (hz : s.heap.get? z = some (mapObj TI f)) (h : Q (.ref z) s) : wpAny (model prog w) A (pyIter (.ref z)) Q E s := by
  have hT : s.TypeIs (.ref z) "map" := ⟨_, hz, rfl⟩
  refine wpAny_pyIter_slot hT slot_map_iter (wpAny_call_entry slot_map_iter hT entry_map_iter ?_ (args_map_iter _))
  show wpAny _ _ (ret (.ref z)) _ _ s
  exact wpAny_pure ⟨_, rfl, "map", _, hT, slot_map_next.lookup, h⟩

theorem int_dec' {n : Int} {t : Tok} {Q : Value → Shared → Prop} (h0 : 0 ≤ n) (h1 : n < 100) (h : ∀ tk k, Q (.int n tk) { s with toks := k }) : wpAny (model prog w) A (call (.type "int") [.str (dec n) t]) Q E s := KIN.call_num h0 (by omega) (h _ _)
theorem int_zero {t : Tok} {Q : Value → Shared → Prop} (h : ∀ tk k, Q (.int 0 tk) { s with toks := k }) : wpAny (model prog w) A (call (.type "int") [.str (Str.ofString "0") t]) Q E s :=
  KIN.call_text (n := 0) (by decide +kernel) (by decide +kernel) (h _ _)

theorem assign_map {env : Env} {elts : List Expr} {x1} {pos : Pos} {z TI I l : Addr} {n : Int} {t1 t2 : Tok} {Q : Unit → Shared → Prop} (hh : A.handled = none) (h0 : 0 ≤ n) (h1 : n < 100)
    (hz : s.heap.get? z = some (mapObj TI (.type "int"))) (hT : s.heap.get? TI = some (oneTup I)) (hI : s.heap.IsListIter I l 0) (hl : s.heap.IsList l #[.str (dec n) t1, .str (Str.ofString "0") t2]) (hzI : z ≠ I) (hTI : TI ≠ I) (hlI : l ≠ I)
    (hn : (assignEach elts env).length = 2) (hstar : (assignEach elts env).findIdx? (·.1) = none)
    (h : ∀ h' ta tb k, Heap.ExtBut I s.heap h' → wpAny (model prog w) A (assignInOrder ((assignEach elts env).map (·.2)) [.int n ta, .int 0 tb]) Q E { s with heap := h', toks := k }) :
    wpAny (model prog w) A (assign (.Tuple elts x1 pos) env (.ref z)) Q E s := by
  rw [arm_assign_Tuple]
  refine wpAny_bind (wpAny_standAt ?_)
  unfold unpack
  rw [hn, hstar]
  refine wpAny_bind (wpAny_holding ?_)
  unfold unpackItems
  refine wpAny_bind ?_
  unfold notIterableAtAll
  refine wpAny_bind (wpAny_specialOf (T := "map") ⟨_, hz, rfl⟩ slot_map_iter.lookup ?_)
  refine wpAny_pure ?_
  simp only [Bool.false_eq_true, if_false]
  refine wpAny_bind (wpAny_holding (iter_map hz ?_))
  refine wpAny_bind (wpAny_holding ?_)
  show wpAny _ _ (pyNext (.ref z) >>= _) _ _ _
  refine wpAny_bind (next_map hz hT hI hl (x := .str (dec n) t1) rfl hzI fun h2 hI2 hs2 => int_dec' h0 h1 fun ta k2 => ?_)
  refine wpAny_bind (wpAny_holding ?_)
  show wpAny _ _ (pyNext (.ref z) >>= _) _ _ _
  refine wpAny_bind (next_map (s := { s with heap := h2, toks := k2 }) (hs2.extBut _ _ hzI hz) (hs2.extBut _ _ hTI hT) hI2 (hl.extBut hs2.extBut hlI) (x := .str (Str.ofString "0") t2) rfl hzI fun h3 hI3 hs3 => int_zero fun tb k3 => ?_)
  refine wpAny_bind (wpAny_holding (wpAny_pure (wpAny_pure (wpAny_pure ?_))))
  simp only [List.length_cons, List.length_nil, Nat.lt_irrefl, if_false]
  refine wpAny_bind (wpAny_holding (end_map (s := { s with heap := h3, toks := k3 }) hh (hs3.extBut _ _ hzI (hs2.extBut _ _ hzI hz)) (hs3.extBut _ _ hTI (hs2.extBut _ _ hTI hT)) hI3 ((hl.extBut hs2.extBut hlI).extBut hs3.extBut hlI) rfl fun h4 he4 => ?_))
  simp only [Option.isSome_none, Bool.false_eq_true, if_false]
  exact wpAny_pure (h h4 ta tb k3 fun b o hb e => he4 b o hb (hs3.extBut b o hb (hs2.extBut b o hb e)))

variable {h₀ : Heap} {L : Addr} {m : Str → Option Value} {news : List (Addr × Obj)}
def MapAt (h₀ : Heap) (L : Addr) (h : Heap) (z l : Addr) (news : List (Addr × Obj)) : Prop :=
  ∃ TI I, h.get? z = some (mapObj TI (.type "int")) ∧ h.get? TI = some (oneTup I) ∧ h.IsListIter I l 0 ∧ z ≠ I ∧ TI ≠ I ∧ l ≠ I ∧ L ≠ I ∧ h₀.get? I = none ∧ ∀ p ∈ news, p.1 ≠ I
theorem call_mapK {l : Addr} {xs : Array Value} {Q : Value → Shared → Prop} (F : Fr h₀ L s.heap m) (N : News h₀ L s.heap news) (hl : s.heap.IsList l xs)
    (h : ∀ h' z, Fr h₀ L h' m → News h₀ L h' news → MapAt h₀ L h' z l news → Q (.ref z) { s with heap := h' }) :
    wpAny (model prog w) A (call (.type "map") [.type "int", .ref l]) Q E s := by
  refine call_map hl fun h' z TI I hz hT hI nI zI tI he => h h' z (frExt F he) (newsExt N he) ⟨TI, I, hz, hT, hI, zI, tI, ?_, ?_, ?_, fun p hp q => ?_⟩
  · rintro rfl; obtain ⟨o, ho, _⟩ := hl; rw [nI] at ho; cases ho
  · rintro rfl; obtain ⟨o, _, _, ho, _⟩ := F.ns; rw [nI] at ho; cases ho
  · cases q : h₀.get? I with
    | none => rfl
    | some o => have := F.keep _ _ q; rw [nI] at this; cases this
  · have := (N p hp).1; rw [q, nI] at this; cases this
theorem assign_mapK {env : Env} {elts : List Expr} {x1} {pos : Pos} {z l : Addr} {n : Int} {t1 t2 : Tok} {Q : Unit → Shared → Prop} (F : Fr h₀ L s.heap m) (N : News h₀ L s.heap news) (M : MapAt h₀ L s.heap z l news) (hh : A.handled = none) (h0 : 0 ≤ n) (h1 : n < 100)
    (hl : s.heap.IsList l #[.str (dec n) t1, .str (Str.ofString "0") t2]) (hn : (assignEach elts env).length = 2) (hstar : (assignEach elts env).findIdx? (·.1) = none)
    (h : ∀ h' ta tb k, Fr h₀ L h' m → News h₀ L h' news → wpAny (model prog w) A (assignInOrder ((assignEach elts env).map (·.2)) [.int n ta, .int 0 tb]) Q E { s with heap := h', toks := k }) :
    wpAny (model prog w) A (assign (.Tuple elts x1 pos) env (.ref z)) Q E s := by
  obtain ⟨TI, I, hz, hT, hI, zI, tI, lI, LI, gI, nI⟩ := M
  refine assign_map hh h0 h1 hz hT hI hl zI tI lI hn hstar fun h' ta tb k hx => h h' ta tb k ⟨F.ns.at' fun o e => hx _ o LI e, fun b o e => hx b o ?_ (F.keep b o e), F.above⟩ fun p hp => ⟨hx _ _ (nI p hp) (N p hp).1, (N p hp).2⟩
  rintro rfl; rw [gI] at e; cases e
end
end Mp

-- part Fp_3
theorem fill2 : (PySem.Challenge.rw_dm0163_03, hd.heap_39) = (PySem.Challenge.rw_dm0163_03, hd.heap_39) := by k_fill; rfl
theorem fnExt {q : Addr} {h h' : Heap} (x : FnAt q h) (e : Ext h h') : FnAt q h' := let ⟨oc, od, fd, sl, g⟩ := x; ⟨oc, od, fd, sl, e _ _ g⟩
theorem len_lineAt {rows : List Str} (hL : ∀ r ∈ rows, r.length ≤ 64) (k : Int) : (lineAt rows k).length ≤ 64 := by
  unfold lineAt
  split
  · rw [List.getD_eq_getElem?_getD]
    cases h : rows[(k - 1).toNat]? with
    | none => exact Nat.zero_le _
    | some r => exact hL r (List.mem_of_getElem? h)
  · exact Nat.zero_le _
local macro_rules | `(tactic| walk_at "my steps") => `(tactic| repeat' (first | ((fail_if_success (with_reducible show LCg.CompSrc _ _ _ _ _ _ _ _ _ _ _ _ _ _)); (fail_if_success (with_reducible show wpAny _ _ (exec (Stmt.While _ _ _ _) _) _ _ _)); first | (k_unfold; (try dsimp only)) | (k_end; wrow_close) | walk1 | (dsimp only; walk1) | (leave1; walk_say "STEP leave1"; try dsimp only) | fail "no step")))
set_option hygiene false in
local macro_rules | `(tactic| walk_at "getMethod ref") => `(tactic| (k_dflt (first | refine gm _ _ _ _ _ (Fr.keep (by assumption)) ?_ | refine cm _ _ _ _ _ (Fr.keep (by assumption)) ?_); intro tk'))
set_option hygiene false in
local macro_rules | `(tactic| walk_at "callWith ref") => `(tactic| (k_dflt (first | refine callWith_F (fnExt fgF (Fr.keep (by assumption))) ?_ | refine callWith_F (fnExt fcF (Fr.keep (by assumption))) ?_)))
set_option hygiene false in
local macro_rules | `(tactic| walk_at "And") => `(tactic| ((with_reducible show FnAt _ _ ∧ _); (first | refine ⟨fnExt fgF (Fr.keep (by assumption)), ?_⟩ | refine ⟨fnExt fcF (Fr.keep (by assumption)), ?_⟩); try dsimp only [List.nil_append, List.cons_append]))
set_option hygiene false in
local macro_rules | `(tactic| walk_at "call ref") => `(tactic| (k_dflt (first
  | (refine gE _ _ _ _ _ _ _ _ _ _ (Fr.keep (by assumption)) (by omega) (by omega) (by omega) ?_; intro h' tk' t' he; (have F' := frExt (by assumption) he); (have N' := newsExt (by assumption) he); (try k_sweep))
  | (refine gT _ _ _ _ _ _ _ _ _ _ _ (Fr.keep (by assumption)) (by omega) (by omega) (by omega) (by omega) ?_; intro h' tk' t' he; (have F' := frExt (by assumption) he); (have N' := newsExt (by assumption) he); (try k_sweep))
  | (refine cE _ _ _ _ _ _ _ _ _ _ _ (Fr.keep (by assumption)) (by omega) (by omega) (by omega) ?_; intro h' tk' he; (have F' := frExt (by assumption) he); (have N' := newsExt (by assumption) he); (try k_sweep)))))
local macro_rules | `(tactic| walk_at "call ref") => `(tactic| (k_dflt (first
  | (refine ws_call (by k_in) (Top.keeps (by assumption) (Fr.keep (by assumption))) (by omega) (by walk_at "my len") ?_; intro h' tk' he; (have F' := frExt (by assumption) he); (have N' := newsExt (by assumption) he); (try k_sweep))
  | (refine hdr_call (by k_in) (Top.keeps (by assumption) (Fr.keep (by assumption))) (by omega) (by walk_at "my len") ?_; intro h' tk' t' he; (have F' := frExt (by assumption) he); (have N' := newsExt (by assumption) he); (try k_sweep)))))
local macro_rules | `(tactic| walk_at "my len") => `(tactic| (with_reducible refine Nat.le_trans (len_lineAt ?kl1 _) ?kl2; (case kl1 => with_reducible assumption); (case kl2 => decide)))

local macro_rules | `(tactic| walk_at "call type:map") => `(tactic| (k_dflt (refine Mp.call_mapK (by k_asm) (by k_asm) (News.isList (by k_asm) (by k_mem)) ?_); intro h' z' F' N' M'; (try k_sweep)))
local macro_rules | `(tactic| walk_at "assign Tuple") => `(tactic| (k_dflt (refine Mp.assign_mapK (by k_asm) (by k_asm) (by assumption) rfl (by omega) (by omega) (News.isList (by k_asm) (by k_mem)) rfl rfl ?_); intro h' ta' tb' k' F' N'; (try k_sweep)))
set_option hygiene false in
local macro_rules | `(tactic| walk_at "my enter") => `(tactic| (refine' enterP (K := hd.heap_39 _) (by assumption) (Top.nolimit (by assumption)) ?k6 ?k7 (by omega) ?k9 ?kB ?c5 ?c2 ?c3 ?c4 ?_; (case k6 => k_is); (case k7 => k_is); (case k9 => exact BindsTo.of_eq rfl); (case kB => exact locs rfl); (case c5 => decide); (case c2 => rfl); (case c3 => rfl); (case c4 => rfl); intro L hE frE F N; dsimp only; k_fold))
local macro_rules | `(tactic| walk_at "eval Name") => `(tactic| ((with_reducible show wpAny _ _ (eval (Expr.Name _ _) (envOf _ _ _ _ _)) _ _ _); k_dflt (refine' ld ?k1 ?k2 ?_; (case k1 => k_asm); (case k2 => first | exact rfl | assumption); k_whole)))
theorem len_hdr (x : Str) : (hdr x).length ≤ x.length := by
  rw [hdr_eq]
  show (x.cps.extract 0 (hlen x.cps)).size ≤ x.cps.size
  simp
  omega
theorem len_tx {prog : Program} {w : World} {A : Around} {E Q : Value → Shared → Prop} {s : Shared} {x : Str} {t : Tok} (hx : x.length ≤ 2 ^ 24) (h : ∀ t' k', Q (.int x.length t') { s with toks := k' }) : wpAny (model prog w) A (call (.builtin "len") [.str x t]) Q E s :=
  len_str (by omega) (h _ _)
local macro_rules | `(tactic| walk_at "call builtin:len") => `(tactic| (k_dflt (refine len_tx (by walk_at "my len") ?_); intro t' k'))
local macro_rules | `(tactic| walk_at "my len") => `(tactic| (with_reducible refine Nat.le_trans (len_hdr _) (Nat.le_trans (len_lineAt ?kl1 _) ?kl2); (case kl1 => with_reducible assumption); (case kl2 => decide)))
local macro_rules | `(tactic| walk_at "subscriptTail Name Slice str ref") => `(tactic| ((with_reducible show wpAny _ _ (subscriptTail _ (Expr.Slice (some _) none none _) _ _) _ _ _); k_dflt (refine slice_strN_sn_len (hsz := ?hsz) (s := ⟨_, _, _, _, _⟩) (by k_asm) (by k_asm) ?_; (case hsz => ((show _ ≤ 16777216); walk_at "my len"))); intro h' t' k' F' N' hlen'; (try k_sweep)))
local macro_rules | `(tactic| walk_at "my len") => `(tactic| (with_reducible refine Nat.le_trans (PyProof.Txt.length_slice_le _ _ _) (Nat.le_trans (len_lineAt ?kl1 _) ?kl2); (case kl1 => with_reducible assumption); (case kl2 => decide)))
/-- a loop's end: the frame's map is as told -/
def LoopOut (h₀ : Heap) (L : Addr) (s : Shared) (Inv : (Str → Option Value) → Prop) (fl : Flow) (s' : Shared) : Prop :=
  fl = .next ∧ ∃ h' tk' m', s' = { s with heap := h', toks := tk' } ∧ Fr h₀ L h' m' ∧ Inv m'
/-- the first loop's end: every row before it, from the mark on, is white and in the page (or row 0); it is none of these -/
def Skip (rows : List Str) (mark k : Int) : Prop :=
  mark ≤ k ∧ (∀ j, mark ≤ j → j < k → j ≤ (rows.length : Int) ∧ isWs (lineAt rows j) = true) ∧ ¬ (k ≤ (rows.length : Int) ∧ isWs (lineAt rows k) = true)

/-- a row of this header with something behind it -/
def Good (H x : Str) : Prop := hdr x = H ∧ isWs (Txt.slice x (some (H.length : Int)) none) = false
/-- the second loop's end -/
def Grow (rows : List Str) (H : Str) (k j : Int) : Prop := k ≤ j ∧ (∀ i, k ≤ i → i < j → Good H (lineAt rows i)) ∧ ¬ Good H (lineAt rows j)
/-- the third loop's end -/
def Shrink (rows : List Str) (H : Str) (k i : Int) : Prop := 0 ≤ i ∧ i ≤ k ∧ (∀ x, i < x → x ≤ k → Good H (lineAt rows x)) ∧ ¬ (0 < i ∧ Good H (lineAt rows i))
/-- what find_paragraph tells of a mark -/
def FP (rows : List Str) (mark first last : Int) (H : Str) : Prop :=
  ∃ k, Skip rows mark k ∧ H = hdr (lineAt rows k) ∧ Grow rows H k last ∧ Shrink rows H (k - 1) (first - 1)
def toldObj (rows : List Str) (first last : Int) (H : Str) (t1 t2 t3 t4 : Tok) : Obj := { cls := .type "tuple", data := .seq #[.str (d0 first) t1, .str (d0 last) t2, .str H t3, .str (cut rows first last) t4] }
theorem good_le {rows : List Str} {H : Str} {j : Int} (h : Good H (lineAt rows j)) : 1 ≤ j ∧ j ≤ (rows.length : Int) := by
  by_cases hj : 0 < j ∧ j ≤ (rows.length : Int)
  · omega
  · have e : lineAt rows j = Str.empty := if_neg hj
    rw [e] at h
    obtain ⟨rfl, h2⟩ := h
    rw [isWs_eq, hdr_eq] at h2
    exact absurd h2 (by decide +kernel)
theorem lineAt_zero (rows : List Str) : lineAt rows 0 = Str.empty := if_neg (by omega)
theorem skip_bounds {rows : List Str} {mark k : Int} (h : Skip rows mark k) (h0 : 0 ≤ mark) (h1 : mark < 90) (hn : rows.length ≤ 64) : 1 ≤ k ∧ k < 90 := by
  obtain ⟨a, b, c⟩ := h
  constructor
  · rcases Int.lt_or_eq_of_le (show 0 ≤ k by omega) with q | q
    · omega
    · subst q; exact absurd ⟨by omega, by rw [lineAt_zero, isWs_eq]; decide +kernel⟩ c
  · rcases Int.lt_or_eq_of_le a with q | q
    · have := (b (k - 1) (by omega) (by omega)).1; omega
    · omega
set_option maxHeartbeats 4000000 in
theorem fp_call {prog : Program} {w : World} {dp un : Nat} {fr gd} {s : Shared} {Q : Value → Shared → Prop} {E} {p loose mean mg mb} (X : (hd.heap_39 w.params).In s.heap) (T : Top p loose mean mg mb s.heap) (hr : dp + 60 < recursionLimit)
   {rows : List Str} {pg : Addr} (P : PageOk prog w s.heap pg rows) (hn : rows.length ≤ 64) (hL : ∀ r ∈ rows, r.length ≤ 64) {mark : Int} (h0 : 0 ≤ mark) (h1 : mark < 90) {t : Tok}
   (h : ∀ h' tk' a first last H t1 t2 t3 t4, Ext s.heap h' → s.heap.get? a = none → h'.get? a = some (toldObj rows first last H t1 t2 t3 t4) → FP rows mark first last H → Q (.ref a) {s with heap := h', toks := tk'}) : wpAny (model prog w) (ar dp un fr gd) (call (.ref 55) [.ref pg, .str (d0 mark) t]) Q E s := by
  obtain ⟨fg, fgF, gm, gE, gT⟩ := P.get
  obtain ⟨fc, fcF, cm, cE⟩ := P.cmp
  walk_at "my enter"
  walk_at "my steps"
  refine wpAny_mono (Q := LoopOut s.heap L s (fun m' => ∃ k t1 t2, m' (Str.ofString "line") = some (.str (lineAt rows k) t1) ∧ m' (Str.ofString "lineno") = some (.int k t2) ∧ m' (Str.ofString "text") = some (.ref pg) ∧ Skip rows mark k)) ?loop1 ?rest1 (fun _ _ e => e)
  case loop1 =>
    with_reducible rename Fr _ _ _ _ => F0
    refine While_inv (fun n m₁ _ => ∃ k t1 t2, m₁ (Str.ofString "line") = some (.str (lineAt rows k) t1) ∧ m₁ (Str.ofString "lineno") = some (.int k t2) ∧ m₁ (Str.ofString "text") = some (.ref pg) ∧ mark ≤ k ∧ (∀ j, mark ≤ j → j < k → j ≤ (rows.length : Int) ∧ isWs (lineAt rows j) = true) ∧ k < 91 ∧ n = ((rows.length : Int) + 1 - k).toNat) (n₀ := ((rows.length : Int) + 1 - mark).toNat) F0 News.nil ⟨mark, _, _, rfl, rfl, rfl, Int.le_refl _, fun j h1 h2 => absurd h2 (by omega), by omega, rfl⟩ ?turn
    intro n m₁ news₁ h₁ tk₁ F₁ N₁ hJ
    obtain ⟨k, t1, t2, e1, e2, e3, b1, b2, b3, rfl⟩ := hJ
    walk_at "my steps"
    · with_reducible rename Fr _ _ _ _ => Fn
      refine WhileStep.intro Fn (by assumption) (n' := ((rows.length : Int) + 1 - (k + 1)).toNat) (by omega) ⟨k + 1, _, _, rfl, rfl, e3, by omega, fun j h1 h2 => ?_, by omega, rfl⟩
      rcases Int.lt_or_eq_of_le (show j ≤ k by omega) with q | q
      · exact b2 j h1 q
      · subst q; exact ⟨by assumption, by with_reducible assumption⟩
    · with_reducible rename Fr _ _ _ _ => Fn
      exact ⟨rfl, _, _, _, rfl, Fn, k, t1, t2, e1, e2, e3, b1, b2, fun q => by (with_reducible rename isWs (lineAt rows k) = false => hw); rw [hw] at q; cases q.2⟩
    · with_reducible rename Fr _ _ _ _ => Fn
      exact ⟨rfl, _, _, _, rfl, Fn, k, t1, t2, e1, e2, e3, b1, b2, fun q => by omega⟩
  case rest1 =>
    intro fl s' hq
    obtain ⟨rfl, h2, tk2, m2, rfl, F2, k, t1, t2, e1, e2, e3, hk⟩ := hq
    obtain ⟨k1, k2⟩ := skip_bounds hk h0 h1 hn
    have N2 : News s.heap L h2 [] := News.nil
    walk_at "my steps"
    refine wpAny_mono (Q := LoopOut s.heap L s (fun m' => ∃ j u1 u2 ta tb tc, m' (Str.ofString "line") = some (.str (lineAt rows j) u1) ∧ m' (Str.ofString "lineno") = some (.int j u2) ∧ m' (Str.ofString "text") = some (.ref pg) ∧ m' (Str.ofString "comment_header") = some (.str (hdr (lineAt rows k)) ta) ∧ m' (Str.ofString "comment_header_len") = some (.int (hdr (lineAt rows k)).length tb) ∧ m' (Str.ofString "first_lineno") = some (.int k tc) ∧ Grow rows (hdr (lineAt rows k)) k j)) ?loop2 ?rest2 (fun _ _ e => e)
    case loop2 =>
      with_reducible rename Fr _ _ _ _ => F0
      refine While_inv (fun n m₁ _ => ∃ j u1 u2 ta tb tc, m₁ (Str.ofString "line") = some (.str (lineAt rows j) u1) ∧ m₁ (Str.ofString "lineno") = some (.int j u2) ∧ m₁ (Str.ofString "text") = some (.ref pg) ∧ m₁ (Str.ofString "comment_header") = some (.str (hdr (lineAt rows k)) ta) ∧ m₁ (Str.ofString "comment_header_len") = some (.int (hdr (lineAt rows k)).length tb) ∧ m₁ (Str.ofString "first_lineno") = some (.int k tc) ∧ k ≤ j ∧ (∀ i, k ≤ i → i < j → Good (hdr (lineAt rows k)) (lineAt rows i)) ∧ j < 91 ∧ n = ((rows.length : Int) + 1 - j).toNat) (n₀ := ((rows.length : Int) + 1 - k).toNat) F0 News.nil ⟨k, _, _, _, _, _, e1, e2, e3, rfl, rfl, rfl, Int.le_refl _, fun j h1 h2 => absurd h2 (by omega), by omega, rfl⟩ ?turn2
      intro n m₁ news₁ h₁ tk₁ F₁ N₁ hJ
      obtain ⟨j, u1, u2, ta, tb, tc, c1, c2, c3, c4, c5, c6, b1, b2, b3, rfl⟩ := hJ
      walk_at "my steps"
      · with_reducible rename Fr _ _ _ _ => Fn
        exact ⟨rfl, _, _, _, rfl, Fn, j, u1, u2, ta, tb, tc, c1, c2, c3, c4, c5, c6, b1, b2, fun q => by (with_reducible rename isWs _ = true => hw); have := q.2; rw [hw] at this; cases this⟩
      · with_reducible rename Fr _ _ _ _ => Fn
        with_reducible rename (hdr _ == hdr _) = true => hb
        have g : Good (hdr (lineAt rows k)) (lineAt rows j) := ⟨eq_of_beq hb, by with_reducible assumption⟩
        have gl := good_le g
        refine WhileStep.intro Fn (by assumption) (n' := ((rows.length : Int) + 1 - (j + 1)).toNat) (by omega) ⟨j + 1, _, _, ta, tb, tc, rfl, rfl, c3, c4, c5, c6, by omega, fun i h1 h2 => ?_, by omega, rfl⟩
        rcases Int.lt_or_eq_of_le (show i ≤ j by omega) with q | q
        · exact b2 i h1 q
        · subst q; exact g
      · with_reducible rename Fr _ _ _ _ => Fn
        exact ⟨rfl, _, _, _, rfl, Fn, j, u1, u2, ta, tb, tc, c1, c2, c3, c4, c5, c6, b1, b2, fun q => by (with_reducible rename (hdr _ == hdr _) = false => hb); rw [q.1, beq_self_eq_true] at hb; cases hb⟩
    case rest2 =>
      intro fl s' hq
      obtain ⟨rfl, h3, tk3, m3, rfl, F3, j, u1, u2, ta, tb, tc, c1, c2, c3, c4, c5, c6, hg⟩ := hq
      have hj : j < 91 := by
        rcases Int.lt_or_eq_of_le hg.1 with q | q
        · have := good_le (hg.2.1 (j - 1) (by omega) (by omega)); omega
        · omega
      have hkj := hg.1
      have N3 : News s.heap L h3 [] := News.nil
      walk_at "my steps"
      refine wpAny_mono (Q := LoopOut s.heap L s (fun m' => ∃ i u2 u3 ta, m' (Str.ofString "lineno") = some (.int i u2) ∧ m' (Str.ofString "text") = some (.ref pg) ∧ m' (Str.ofString "comment_header") = some (.str (hdr (lineAt rows k)) ta) ∧ m' (Str.ofString "last") = some (.str (d0 j) u3) ∧ Shrink rows (hdr (lineAt rows k)) (k - 1) i)) ?loop3 ?rest3 (fun _ _ e => e)
      case loop3 =>
        with_reducible rename Fr _ _ _ _ => F0
        refine While_inv (fun n m₁ _ => ∃ i u1 u2 u3 ta tb, m₁ (Str.ofString "line") = some (.str (lineAt rows i) u1) ∧ m₁ (Str.ofString "lineno") = some (.int i u2) ∧ m₁ (Str.ofString "text") = some (.ref pg) ∧ m₁ (Str.ofString "comment_header") = some (.str (hdr (lineAt rows k)) ta) ∧ m₁ (Str.ofString "comment_header_len") = some (.int (hdr (lineAt rows k)).length tb) ∧ m₁ (Str.ofString "last") = some (.str (d0 j) u3) ∧ 0 ≤ i ∧ i ≤ k - 1 ∧ (∀ x, i < x → x ≤ k - 1 → Good (hdr (lineAt rows k)) (lineAt rows x)) ∧ n = i.toNat) (n₀ := (k - 1).toNat) F0 News.nil ⟨k - 1, _, _, _, _, _, rfl, rfl, c3, c4, c5, rfl, by omega, Int.le_refl _, fun x h1 h2 => absurd h2 (by omega), rfl⟩ ?turn3
        intro n m₁ news₁ h₁ tk₁ F₁ N₁ hJ
        obtain ⟨i, u1, u2, u3, ta, tb, d1, d2, d3, d4, d5, d6, b1, b2, b3, rfl⟩ := hJ
        walk_at "my steps"
        · with_reducible rename Fr _ _ _ _ => Fn
          exact ⟨rfl, _, _, _, rfl, Fn, i, u2, u3, ta, d2, d3, d4, d6, b1, b2, b3, fun q => by (with_reducible rename isWs _ = true => hw); have := q.2.2; rw [hw] at this; cases this⟩
        · with_reducible rename Fr _ _ _ _ => Fn
          with_reducible rename (hdr _ == hdr _) = true => hb
          have g : Good (hdr (lineAt rows k)) (lineAt rows i) := ⟨eq_of_beq hb, by with_reducible assumption⟩
          refine WhileStep.intro Fn (by assumption) (n' := (i - 1).toNat) (by omega) ⟨i - 1, _, _, u3, ta, tb, rfl, rfl, d3, d4, d5, d6, by omega, by omega, fun x h1 h2 => ?_, rfl⟩
          rcases Int.lt_or_eq_of_le (show i ≤ x by omega) with q | q
          · exact b3 x q h2
          · subst q; exact g
        · with_reducible rename Fr _ _ _ _ => Fn
          exact ⟨rfl, _, _, _, rfl, Fn, i, u2, u3, ta, d2, d3, d4, d6, b1, b2, b3, fun q => by (with_reducible rename (hdr _ == hdr _) = false => hb); rw [q.2.1, beq_self_eq_true] at hb; cases hb⟩
        · with_reducible rename Fr _ _ _ _ => Fn
          exact ⟨rfl, _, _, _, rfl, Fn, i, u2, u3, ta, d2, d3, d4, d6, b1, b2, b3, fun q => by omega⟩
      case rest3 =>
        intro fl s' hq
        obtain ⟨rfl, h4, tk4, m4, rfl, F4, i, u2, u3, ta, d2, d3, d4, d6, hs⟩ := hq
        have hi0 := hs.1
        have hik := hs.2.1
        have N4 : News s.heap L h4 [] := News.nil
        walk_at "my steps"
        rename News _ _ _ _ => Nn
        with_reducible rename Fr _ _ _ _ => Fn
        exact h _ _ _ (i + 1) j _ _ _ _ _ (Fr.keep Fn) (Nn _ (List.Mem.head _)).2.2 (Nn _ (List.Mem.head _)).1 ⟨k, hk, rfl, hg, by rw [show i + 1 - 1 = i by omega]; exact hs⟩

-- part Pg_3
theorem fill3 : (PySem.Challenge.rw_dm0163_03, hd.heap_39) = (PySem.Challenge.rw_dm0163_03, hd.heap_39) := by k_fill; rfl
section
variable {prog : Program} {w : World} {A : Around} {E : Value → Shared → Prop} {s : Shared} {K : Frag}
theorem getMethod_own {x C : Addr} {ox : Obj} {es : List DictEntry} {n : Nat} {name : Str} {v : Value} {pl : Sem Bool} {Q : Value × List Value → Shared → Prop} (X : K.In s.heap) (I : InstAt s.heap x ox C (some (dictOf es n))) (hg : plainGet K C name = true) (hh : hasDictIn K C = true)
    (ha : findIn K (.ref C) name = some none) (hl : getL name es = some (some v)) (hv : handedIn v = true) (h : ∀ tk', Q (v, []) { s with toks := tk' }) : wpAny (model prog w) A (getMethod (.ref x) name pl) Q E s := by
  have hcan := PySem.F.canon_object_ga
  unfold getMethod specialOf
  refine wpAny_bind (wpAny_bind (I.type.here ((looks_findIn X (plainGet_of hg).1).here ?_)))
  dsimp only
  rw [hcan, if_neg (by decide)]
  refine wpAny_bind (wpAny_bind (I.type.here ((looks_findIn X (plainGet_of hg).2).here ?_)))
  refine wpAny_bind (wpAny_bind (I.type.here ((looks_findIn X ha).here ?_)))
  dsimp only
  exact wpAny_bind (get_value X I (plainGet_of hg).1 (findObj_own hh ha rfl hl) hv (wpAny_pure (h _)))

theorem hideExt {g h : Heap} {P : Addr} (e : Ext g h) (hP : g.get? P = none) : Ext g (h.hide P) := fun b o q => by
  have hb : b ≠ P := by rintro rfl; rw [hP] at q; cases q
  rw [Heap.hide_ne _ hb]; exact e b o q
end
section
variable {prog : Program} {w : World} {dp un : Nat} {fr : Option (List Env)} {gd : Option (List Code)} {E : Value → Shared → Prop} {s : Shared} {K : Frag} {Q : Value → Shared → Prop}
theorem enterC {name qual : Str} {params : Arguments} {body : List Stmt} {scope : Scope} {dV kV doc pm cdv ct oc : Value} {an od : Option Addr} {osl : Array (Option Value)} {f P : Addr} {oP : Obj} {pos : List Value} {binds : List (Str × Value)}
    (X : K.In s.heap) (hlim : s.heap.NoLimit)
    (ho : K.lookup f = some ⟨oc, od, .func (fnOf name qual params body scope dV kV doc pm an cdv ct), osl⟩) (hcd : codeIn K cdv qual = true) (hroom : dp + 1 < recursionLimit)
    (hbind : BindsTo s (fnOf name qual params body scope dV kV doc pm an cdv ct) ⟨pos, []⟩ binds)
    (hkind : (binds.all fun y => scope.names.lookup y.1 == some .local || scope.names.lookup y.1 == some .cell) = true) (hnd : ((cellsFrom 0 scope.names []).map (·.1)).Nodup)
    (hP : s.heap.get? P = some oP) (hco : scope.isCoroutine = false) (hgen : scope.isGenerator = false) (hk : scope.kind = .function)
    (h : ∀ L h₁ tk fr' cells, Fr (s.heap.hide P) L h₁ (bindL (envOfC qual scope L f cdv).kindOf binds fun _ => none) → News (s.heap.hide P) L h₁ (cells ++ [(P, oP)]) →
      CellsAre (bindC (envOfC qual scope L f cdv).kindOf binds fun _ => none) (cellsFrom (L + 1) scope.names []) cells → P < L →
      wpAny (model prog w) (ar (dp + 1) (un + 3) fr' gd) (execs body (envOfC qual scope L f cdv))
        (fun fl s' => Q (match fl with | .ret v => v | _ => .none) s') (fun _ _ => False) { s with heap := h₁, toks := tk }) :
    wpAny (model prog w) (ar dp un fr gd) (call (.ref f) pos) Q E s := by
  refine wpAny_call ?_
  refine codeAny_call_function (fd := fnX name qual params body scope [] dV kV doc pm an cdv ct) (by show dp < _; omega) (X _ _ ho) rfl hco hgen rfl (codeRec_of X hcd) (hbind _ _ _ _ ?_)
  refine wpAny_newFunctionEnv_cells hk (kindsX hkind _) fun env' he s' x => ?_
  subst he
  refine ⟨hlim.keeps x.toInCall.keep, codeAny_func ?_⟩
  obtain ⟨h₁, tk, rfl, _⟩ := x.done
  have hk₁ := x.toInCall.keep
  obtain ⟨cells, NC, Y⟩ := Cl.news (h₀ := s.heap) (Nat.le_refl _) fun n c hm => ⟨x.cell n c (lookup_of_mem_nodup (cellsFrom_names scope.names 0 (s.heap.objs.size + 1) [] [] rfl ▸ hnd) hm), x.above n c hm⟩
  obtain ⟨fr', e⟩ := ar_deeper (dp := dp) (un := un) (fr := fr) (gd := gd) (envOfC qual scope s.heap.objs.size f cdv)
  show wpAny _ ((ar dp un fr gd).deeper (envOfC qual scope s.heap.objs.size f cdv)) _ _ _ _
  rw [e]
  refine wpAny_mono (h s.heap.objs.size h₁ tk fr' cells ⟨x.toInCall.ns, fun b o e => hk₁ b o (Heap.of_hide e), Nat.le_of_eq (Heap.hide_size _ _)⟩ (fun p hp => ?_) Y (Heap.lt_size hP)) (fun _ _ x => x) (fun _ _ x => x.elim)
  rcases List.mem_append.mp hp with hp | hp
  · refine ⟨(NC p hp).1, (NC p hp).2.1, ?_⟩
    cases q : (s.heap.hide P).get? p.1 with
    | none => rfl
    | some o => have := Heap.of_hide q; rw [(NC p hp).2.2] at this; cases this
  · rw [List.mem_singleton.mp hp]
    exact ⟨hk₁ _ _ hP, Nat.ne_of_lt (Heap.lt_size hP), Heap.hide_self _ _⟩
end
section
variable {prog : Program} {w : World} {dp un : Nat} {fr : Option (List Env)} {gd : Option (List Code)} {E : Value → Shared → Prop} {s : Shared} {K : Frag} {Q : Value → Shared → Prop}
/-- a def that works upon one object of the caller's ledger -/
theorem code1 {A : Around} {R : Result → Shared → Prop} {name qual : Str} {params : Arguments} {body : List Stmt} {scope : Scope} {dV kV doc pm cdv ct oc : Value} {an od : Option Addr} {osl : Array (Option Value)} {f D : Addr} {oD : Obj} {args : Args} {binds : List (Str × Value)}
    (X : K.In s.heap) (hlim : s.heap.NoLimit)
    (ho : K.lookup f = some ⟨oc, od, .func (fnOf name qual params body scope dV kV doc pm an cdv ct), osl⟩) (hcd : codeIn K cdv qual = true) (hroom : A.depth < recursionLimit)
    (hbind : BindsTo s (fnOf name qual params body scope dV kV doc pm an cdv ct) args binds) (hloc : ∀ y ∈ binds, scope.names.lookup y.1 = some .local)
    (hcell : ∀ x ∈ scope.names, x.2 ≠ .cell) (hco : scope.isCoroutine = false) (hgen : scope.isGenerator = false) (hk : scope.kind = .function) (hD : s.heap.get? D = some oD)
    (h : ∀ L h₁, Fr (s.heap.hide D) L h₁ (fun y => binds.reverse.lookup y) → News (s.heap.hide D) L h₁ [(D, oD)] →
      wpAny (model prog w) (A.deeper (envOf qual scope L f cdv)) (execs body (envOf qual scope L f cdv))
        (fun fl s' => R (.ok (.ret (match fl with | .ret v => v | _ => .none))) s') (fun _ _ => False)
        { s with heap := h₁, toks := s.toks + binds.length }) :
    codeAny (model prog w) A (.call (.ref f) args) R s := by
  refine codeAny_call_def (fd := fnOf name qual params body scope dV kV doc pm an cdv ct) (body := body) (binds := binds) hroom (X _ _ ho) rfl hlim (codeRec_of X hcd) rfl hbind hcell hloc (fun h₁ hns hk₁ => ?_) hco hgen hk
  refine wpAny_mono (h s.heap.objs.size h₁ ⟨hns, fun b o e => hk₁ b o (Heap.of_hide e), Nat.le_of_eq (Heap.hide_size _ _)⟩ (fun p hp => ?_)) (fun _ _ x => x) (fun _ _ x => x.elim)
  rw [List.mem_singleton.mp hp]
  exact ⟨hk₁ _ _ hD, Nat.ne_of_lt (Heap.lt_size hD), Heap.hide_self _ _⟩

theorem newsInit {h₀ h' h3 : Heap} {L x dx : Addr} {ox od od' : Obj} {news : List (Addr × Obj)} (N' : News h₀ L h' ((x, ox) :: (dx, od) :: news)) (n3 : h3.get? dx = some od') (keep : ∀ b o, b ≠ dx → h'.get? b = some o → h3.get? b = some o) (hxd : x ≠ dx) (hl : ∀ q ∈ news, q.1 ≠ dx) :
    News h₀ L h3 ((x, ox) :: (dx, od') :: news) := fun q hq => by
  rcases List.mem_cons.mp hq with rfl | hq
  · exact ⟨keep _ _ hxd (N' _ (List.Mem.head _)).1, (N' _ (List.Mem.head _)).2⟩
  · rcases List.mem_cons.mp hq with rfl | hq
    · exact ⟨n3, (N' (dx, od) (List.Mem.tail _ (List.Mem.head _))).2⟩
    · exact ⟨keep _ _ (hl q hq) (N' q (List.mem_cons_of_mem _ (List.mem_cons_of_mem _ hq))).1, (N' q (List.mem_cons_of_mem _ (List.mem_cons_of_mem _ hq))).2⟩
set_option maxHeartbeats 4000000 in
theorem rstrip_call {h₀ : Heap} {L : Addr} {m : Str → Option Value} {news : List (Addr × Obj)} {p loose mean mg mb} (F : Fr h₀ L s.heap m) (N : News h₀ L s.heap news) (X₀ : (hd.heap_39 w.params).In h₀) (T : Top p loose mean mg mb h₀) (hr : dp + 20 < recursionLimit)
    (h : ∀ x dx h' tk' t, Fr h₀ L h' m → News h₀ L h' ((x, instObj 94 dx) :: (dx, dictOf [⟨PyData.keyHash w.params (Str.ofString "editwin"), .str (Str.ofString "editwin") t, .none⟩] 1) :: news) → (∀ p ∈ news, p.1 < dx) → dx < x → Q (.ref x) { s with heap := h', toks := tk' }) :
    wpAny (model prog w) (ar dp un fr gd) (call (.ref 94) [.none]) Q E s := by
  refine wpAny_call ?_
  refine' make_K (K := hd.heap_39 w.params) F N (X₀.keeps F.keep) ?hm ?hi ?hf ?_
  case hm => k_is
  case hi => k_is
  case hf => k_is
  intro x dx h' F' N' l1 l2
  have ND := (N' (dx, emptyDict) (by k_mem))
  have NX := (N' (x, instObj 94 dx) (by k_mem))
  refine' code1 (K := hd.heap_39 w.params) (D := dx) (X₀.keeps F'.keep) ((T.keeps F'.keep).nolimit) ?k6 ?k7 ?hr ?k9 ?kB ?c5 ?c2 ?c3 ?c4 ND.1 ?_
  case k6 => k_is
  case k7 => k_is
  case hr => show dp + 1 < _; omega
  case k9 => exact BindsTo.of_eq rfl
  case kB => exact locs rfl
  case c5 => decide
  case c2 => rfl
  case c3 => rfl
  case c4 => rfl
  intro L2 h2 F2 N2
  have X2 : (hd.heap_39 w.params).In (h'.hide dx) := X₀.keeps (hideExt F'.keep ND.2.2)
  k_steps
  have hxd : x ≠ dx := Nat.ne_of_gt l2
  have kx : (h'.hide dx).get? x = some (instObj 94 dx) := by rw [Heap.hide_ne _ hxd]; exact NX.1
  refine' set_dict (K := hd.heap_39 w.params) (es := []) (n := 0) F2 X2 N2 ⟨F2.keep _ _ kx, rfl, rfl, (N2 _ (List.Mem.head _)).1⟩ rfl ?k6 ?k7 ?k8 ?k9 ?k10 ?k11 ?k12 ?k13 ?_
  case k6 => k_is
  case k7 => k_is
  case k8 => k_is
  case k9 => k_is
  case k10 => k_get
  case k11 => k_put
  case k12 => k_upd
  case k13 => exact Nat.le_of_ble_eq_true rfl
  intro h3 F3 N3
  dsimp only
  refine wpAny_execs_nil ?_
  refine ⟨rfl, ?_⟩
  have keep : ∀ b o, b ≠ dx → h'.get? b = some o → h3.get? b = some o := fun b o hb e => F3.keep b o (by rw [Heap.hide_ne _ hb]; exact e)
  have N4 := newsInit N' (N3 _ (List.Mem.head _)).1 keep hxd (fun q hq => Nat.ne_of_lt (l1 q hq))
  exact h x dx h3 _ _ ⟨F'.ns.at' fun o e => keep L o (Ne.symm ND.2.1) e, fun b o e => keep b o (by rintro rfl; rw [ND.2.2] at e; cases e) (F'.keep b o e), F'.above⟩ N4 l1 l2
end

-- part Pg1_3
theorem fill5 : (PySem.Challenge.rw_dm0163_03, hd.heap_39) = (PySem.Challenge.rw_dm0163_03, hd.heap_39) := by k_fill; rfl
section
variable {prog : Program} {w : World} {dp un : Nat} {fr : Option (List Env)} {gd : Option (List Code)} {E : Value → Shared → Prop} {s : Shared} {K : Frag} {Q : Value → Shared → Prop}
theorem enterL {name qual : Str} {params : Arguments} {body : Expr} {scope : Scope} {cl : List (Str × Addr)} {pm ctv : Value} {c' : Addr} {f : Addr} {pos : List Value} {binds : List (Str × Value)}
    (ho : s.heap.get? f = some (kla_obj name qual params body scope cl pm c' ctv)) (hcd : s.heap.CodeRec (.ref c') qual) (hlim : s.heap.NoLimit) (hroom : dp + 1 < recursionLimit)
    (hbind : bindArgs (kla_fn name qual params body scope cl pm (.ref c') ctv) ⟨pos, []⟩ = pure binds) (hloc : ∀ y ∈ binds, scope.names.lookup y.1 = some .local)
    (hcell : ∀ x ∈ scope.names, x.2 ≠ .cell) (hco : scope.isCoroutine = false) (hgen : scope.isGenerator = false) (hk : scope.kind = .function)
    (h : ∀ L h₁ fr', Fr s.heap L h₁ (fun y => binds.reverse.lookup y) → News s.heap L h₁ [] →
      wpAny (model prog w) (ar (dp + 1) (un + 3) fr' gd) (eval body (envX qual scope L f (.ref c') cl)) Q (fun _ _ => False) { s with heap := h₁, toks := s.toks + binds.length }) :
    wpAny (model prog w) (ar dp un fr gd) (call (.ref f) pos) Q E s := by
  refine wpAny_call ?_
  refine kla_callFunE (by show dp < _; omega) ho rfl hco hgen rfl hcd ?_
  rw [hbind]
  refine wpAny_pure (wpAny_newFunctionEnv hcell hloc (fun h₁ hns hsb => ⟨hlim.fresh _ hsb, ?_⟩) hk)
  show codeAny _ _ (.expr body (envX qual scope s.heap.objs.size f (.ref c') cl)) _ _
  have hk₁ : ∀ b o, s.heap.get? b = some o → h₁.get? b = some o := fun b o e => hsb.extBut b o (Nat.ne_of_lt (Heap.lt_size e)) (Heap.get?_push_of_some _ e)
  refine kla_codeExpr ?_
  obtain ⟨fr', e⟩ := ar_deeper (dp := dp) (un := un) (fr := fr) (gd := gd) (envX qual scope s.heap.objs.size f (.ref c') cl)
  rw [e]
  exact wpAny_mono (h s.heap.objs.size h₁ fr' ⟨hns, hk₁, Nat.le_refl _⟩ News.nil) (fun _ _ x => x) (fun _ _ x => x.elim)
end
section
variable {M : Model} {A : Around} {E : Value → Shared → Prop} {s : Shared} {h₀ : Heap} {L a : Addr} {m : Str → Option Value} {cn : Str} {cs : Scope} {ccd : Value} {cl : List (Str × Addr)} {x : Str} {pos : Pos} {v : Value} {Q : Value → Shared → Prop} {c : Addr} {oc : Obj}
theorem nameX_FB (F : Fr h₀ L s.heap m) (hc : cl.lookup x = some c) (hv : h₀.get? c = some oc) (hd : oc.data = .cell (some v)) (h : Q v s)
    (hk : cs.kind = .function := by rfl) (hx : (envX cn cs L a ccd cl).kindOf x = some .free := by rfl) (hb : (x == ("__debug__" : Str)) = false := by decide) (hn : (x == ("__classdict__" : Str)) = false := by decide) :
    wpAny M A (eval (.Name x pos) (envX cn cs L a ccd cl)) Q E s := wpAny_Name (wpAny_loadName_free hk hx hc ⟨_, F.keep _ _ hv, hd⟩ h hn) hb
end
theorem page_mk {prog : Program} {w : World} {H : Heap} {x dx fg fc : Addr} {es : List DictEntry} {n : Nat} {rows : List Str} (X : (hd.heap_39 w.params).In H) (hx : H.get? x = some (instObj 94 dx)) (hdx : H.get? dx = some (dictOf es n))
    (hg : getL (Str.ofString "get") es = some (some (.ref fg))) (hc : getL (Str.ofString "compare") es = some (some (.ref fc))) (fgF : FnAt fg H) (fcF : FnAt fc H)
    (bE : ∀ (s : Shared) (dp un : Nat) (fr : Option (List Env)) (gd : Option (List Code)) (Q E : Value → Shared → Prop) (a : Int) (t u : Tok), Ext H s.heap → dp + 40 < recursionLimit → 0 ≤ a → a < 100 →
      (∀ h' tk' t', Ext s.heap h' → Q (.str (lineAt rows a) t') { s with heap := h', toks := tk' }) → wpAny (model prog w) (ar dp un fr gd) (call (.ref fg) [.str (d0 a) t, .str (dE a) u]) Q E s)
    (bT : ∀ (s : Shared) (dp un : Nat) (fr : Option (List Env)) (gd : Option (List Code)) (Q E : Value → Shared → Prop) (a b : Int) (t u : Tok), Ext H s.heap → dp + 40 < recursionLimit → 1 ≤ a → a ≤ b → b < 100 →
      (∀ h' tk' t', Ext s.heap h' → Q (.str (cut rows a b) t') { s with heap := h', toks := tk' }) → wpAny (model prog w) (ar dp un fr gd) (call (.ref fg) [.str (d0 a) t, .str (d0 b) u]) Q E s)
    (bC : ∀ (s : Shared) (dp un : Nat) (fr : Option (List Env)) (gd : Option (List Code)) (Q E : Value → Shared → Prop) (a : Int) (t u v : Tok), Ext H s.heap → dp + 40 < recursionLimit → 0 ≤ a → a < 100 →
      (∀ h' tk', Ext s.heap h' → Q (.bool (decide (a ≤ (rows.length : Int)))) { s with heap := h', toks := tk' }) → wpAny (model prog w) (ar dp un fr gd) (call (.ref fc) [.str (d0 a) t, .str (Str.ofString "<") u, .str (Str.ofString "end") v]) Q E s) : PageOk prog w H x rows := by
  refine ⟨⟨fg, fgF, ?_, bE, bT⟩, ⟨fc, fcF, ?_, bC⟩⟩
  · intro s A Q E pl e hq
    refine' getMethod_own (K := hd.heap_39 w.params) (X.keeps e) (I := ⟨e _ _ hx, rfl, rfl, e _ _ hdx⟩) ?a ?b ?c hg rfl hq
    case a => k_is
    case b => k_is
    case c => k_is
  · intro s A Q E pl e hq
    refine' getMethod_own (K := hd.heap_39 w.params) (X.keeps e) (I := ⟨e _ _ hx, rfl, rfl, e _ _ hdx⟩) ?a ?b ?c hc rfl hq
    case a => k_is
    case b => k_is
    case c => k_is

-- part Pg3_3
theorem fill4 : (PySem.Challenge.rw_dm0163_03, hd.heap_39) = (PySem.Challenge.rw_dm0163_03, hd.heap_39) := by k_fill; rfl
local macro_rules | `(tactic| walk_at "call ref") => `(tactic| (k_dflt (refine rstrip_call (by k_asm) (by k_asm) (by k_asm) (by k_asm) (by omega) ?_); intro x' dx' h' tk' t' F' N' l1 l2; (try k_lt l1); (try k_lt2 l2); (try k_sweep)))
local macro_rules | `(tactic| walk_at "eval Lambda") => `(tactic| (k_dflt (refine' kla_eval ?d0 ?_; (case d0 => exact rfl)); (first | (k_dflt (refine' kla_nest ?F ?N ?T ?C ?cd ?U ?t ?n ?cl ?_; (case F => k_asm); (case N => k_asm); (case T => k_asm); (case cd => exact rfl); (case C => assumption); (case U => k_updF); (case t => kn_triples); (case n => kn_among); (case cl => exact rfl); k_whole); intro f' c' oc' vs' t' ct' h' tk' F' N' d1' d2' l1 l2; (try dsimp only at N'); (try k_lt l1); (try k_lt2 l2)) | (k_dflt (refine' kla_hit ?F ?N ?T ?C ?cd ?mem ?t ?n ?cl ?_; (case F => k_asm); (case N => k_asm); (case T => k_asm); (case cd => exact rfl); (case C => assumption); (case mem => k_mem); (case t => kn_triples); (case n => kn_hit); (case cl => exact rfl); k_whole); intro f' ct' h' tk' F' N' l1; (try dsimp only at N'); (try k_lt l1)))))
local macro_rules | `(tactic| walk_at "eval Name") => `(tactic| (k_dflt (refine' nameX_FB ?k1 ?k2 ?k3 ?k4 ?_ ?k5 ?k6; (case k5 => rfl); (case k6 => rfl); (case k1 => k_asm); (case k2 => rfl); (case k3 => with_reducible assumption); (case k4 => with_reducible assumption); k_whole)))
def lamQ : Str := (Str.ofString "_law_page" ++ Str.ofString ".<locals>.") ++ Str.ofString "<lambda>"
/-- an object that holds a code of this name -/
def CodeOk (o : Obj) (q : Str) : Prop := ∃ vs t, o.data = .fields vs ∧ vs[1]? = some (.str q t)
def tab2 (c1 c2 : Addr) : Obj := tabObj #[rawInt 50, rawInt 15, .ref c1, rawInt 51, rawInt 19, .ref c2]
theorem CodeOk.rec {h : Heap} {c : Addr} {o : Obj} {q : Str} (x : CodeOk o q) (e : h.get? c = some o) : h.CodeRec (.ref c) q := let ⟨vs, t, a, b⟩ := x; ⟨c, o, vs, t, rfl, e, a, b⟩
set_option hygiene false in
local macro_rules | `(tactic| walk_at "my enterL") => `(tactic| (refine' enterL (e _ _ hfn) (CodeRec_ext e hrc) (Top.nolimit (Top.keeps TH e)) (by omega) ?k9 ?kB ?c5 ?c2 ?c3 ?c4 ?_; (case k9 => rfl); (case kB => exact locs rfl); (case c5 => decide); (case c2 => rfl); (case c3 => rfl); (case c4 => rfl); intro L2 h2 fr2 F2 N2; (have X2 := Frag.In.keeps XH e); (have T2 := Top.keeps TH e); (have hcl2 := e _ _ hcl); dsimp only))
theorem CodeRec_mk {h : Heap} {c : Addr} {oc : Obj} {vs : Array Value} {q : Str} {t : Tok} (e : h.get? c = some oc) (hd : oc.data = .fields vs) (hv : vs[1]? = some (.str q t)) : h.CodeRec (.ref c) q := ⟨c, oc, vs, t, rfl, e, hd, hv⟩
theorem CodeRec_ext {h h' : Heap} {c : Value} {q : Str} (e : Ext h h') (x : h.CodeRec c q) : h'.CodeRec c q := x.keeps e
theorem hideNone {h : Heap} {P b : Addr} (hb : b ≠ P) (e : (h.hide P).get? b = none) : h.get? b = none := by rw [← Heap.hide_ne h hb]; exact e
theorem listExt {h h' : Heap} {l : Addr} {vs : Array Value} (x : h.IsList l vs) (e : Ext h h') : h'.IsList l vs := let ⟨o, ho, r⟩ := x; ⟨o, e _ _ ho, r⟩
local macro_rules | `(tactic| walk_at "call ref") => `(tactic| (k_dflt (first
  | (refine get_end (by k_in) (Top.keeps (by assumption) (Fr.keep (by assumption))) (by omega) (listExt (by assumption) (Fr.keep (by assumption))) (by assumption) (by assumption) (by omega) (by omega) ?_; intro h' tk' t' he; (have F' := frExt (by assumption) he); (have N' := newsExt (by assumption) he); (try k_sweep))
  | (refine get_text (by k_in) (Top.keeps (by assumption) (Fr.keep (by assumption))) (by omega) (listExt (by assumption) (Fr.keep (by assumption))) (by assumption) (by assumption) (by assumption) (by omega) (by omega) (by omega) ?_; intro h' tk' t' he; (have F' := frExt (by assumption) he); (have N' := newsExt (by assumption) he); (try k_sweep)))))
theorem front {h hs : Heap} {L P : Addr} {t : Addr × Obj} : ∀ {l : List (Addr × Obj)}, News (hs.hide P) L h (l ++ [t]) → (∀ p ∈ l, p.1 ≠ P) → ∀ p ∈ l, h.get? p.1 = some p.2 ∧ hs.get? p.1 = none :=
  fun N hne p hp => ⟨(N p (List.mem_append_left _ hp)).1, hideNone (hne p hp) (N p (List.mem_append_left _ hp)).2.2⟩
theorem front7 {h hs : Heap} {L P : Addr} {t a0 a1 a2 a3 a4 a5 a6 : Addr × Obj} (N : News (hs.hide P) L h [a0, a1, a2, a3, a4, a5, a6, t]) (hne : ∀ p ∈ [a0, a1, a2, a3, a4, a5, a6], p.1 ≠ P) : ∀ p ∈ [a0, a1, a2, a3, a4, a5, a6], h.get? p.1 = some p.2 ∧ hs.get? p.1 = none := front (t := t) N hne
theorem front5 {h hs : Heap} {L P : Addr} {t a0 a1 a2 a3 a4 : Addr × Obj} (N : News (hs.hide P) L h [a0, a1, a2, a3, a4, t]) (hne : ∀ p ∈ [a0, a1, a2, a3, a4], p.1 ≠ P) : ∀ p ∈ [a0, a1, a2, a3, a4], h.get? p.1 = some p.2 ∧ hs.get? p.1 = none := front (t := t) N hne
set_option maxHeartbeats 4000000 in
theorem page_call0 {prog : Program} {w : World} {dp un : Nat} {fr gd} {s : Shared} {Q : Value → Shared → Prop} {E} {g : Heap} {p loose mean mg mb} (X : (hd.heap_39 w.params).In g) (T : Top p loose mean mg mb g) (hg : Ext g s.heap) (hgP : g.get? 105 = none) (C : CodeHd g 109 105) (hr : dp + 60 < recursionLimit)
   {rows : List Str} {vs : List Value} {l : Addr} (hl : s.heap.IsList l vs.toArray) (hS : StrsAre vs rows) (hn : rows.length ≤ 64) (hL : ∀ r ∈ rows, r.length ≤ 64)
   (hT : s.heap.get? 105 = some (tabObj #[]))
   (h : ∀ h' tk' pg c1 c2 oc1 oc2 (pobjs : List (Addr × Obj)), (∀ b o, b ≠ 105 → s.heap.get? b = some o → h'.get? b = some o) → h'.get? 105 = some (tab2 c1 c2) → CodeOk oc1 lamQ → CodeOk oc2 lamQ → (c1, oc1) ∈ pobjs → (c2, oc2) ∈ pobjs → (∀ p ∈ pobjs, h'.get? p.1 = some p.2 ∧ s.heap.get? p.1 = none) →
      (∀ H, Ext g H → (∀ p ∈ pobjs, H.get? p.1 = some p.2) → H.IsList l vs.toArray → PageOk prog w H pg rows) → Q (.ref pg) {s with heap := h', toks := tk'}) : wpAny (model prog w) (ar dp un fr gd) (call (.ref 110) [.ref l]) Q E s := by
  refine' enterC (K := hd.heap_39 w.params) (P := 105) (X.keeps hg) ((T.keeps hg).nolimit) ?k6 ?k7 (by omega) ?k9 ?kB ?kD hT ?c2 ?c3 ?c4 ?_
  case k6 => k_is
  case k7 => k_is
  case k9 => exact BindsTo.of_eq rfl
  case kB => exact rfl
  case kD => decide +kernel
  case c2 => rfl
  case c3 => rfl
  case c4 => rfl
  intro L h1 tk1 fr1 cells F N Y lP
  k_lt2 lP
  have e0 := hideExt hg hgP
  have X0 := X.keeps e0
  have T0 := T.keeps e0
  have C0 := C.keeps e0
  k_cells Y
  (try simp only [List.cons_append, List.nil_append] at N)
  refine id ?_
  walk_at "my steps"
  all_goals (try k_data)
  (try dsimp only)
  with_reducible rename Fr _ _ _ _ => Fn
  with_reducible rename News _ _ _ _ => Nn
  rename _ = Data.cell _ => dcell
  change _ = Data.cell (some (Value.ref l)) at dcell
  have keepB : ∀ b o, b ≠ 105 → s.heap.get? b = some o → _ := fun b o hb e => Fn.keep b o (by rw [Heap.hide_ne _ hb]; exact e)
  have hfr := front7 (P := 105) Nn (by k_all)
  refine h _ _ _ _ _ _ _ _ keepB (Nn _ (.tail _ (.tail _ (.tail _ (.tail _ (.tail _ (.tail _ (.tail _ (.head _))))))))).1 ?ok1 ?ok2 (List.Mem.tail _ (List.Mem.tail _ (List.Mem.tail _ (List.Mem.head _)))) (List.Mem.tail _ (List.Mem.head _)) hfr ?page
  case ok1 => exact ⟨_, _, by assumption, by assumption⟩
  case ok2 => exact ⟨_, _, by assumption, by assumption⟩
  case page =>
    intro H eH hO hlH
    have XH := X.keeps eH
    have TH := T.keeps eH
    have hfc := hO _ (List.Mem.head _)
    have hkc := hO _ (.tail _ (.head _))
    have hfg := hO _ (.tail _ (.tail _ (.head _)))
    have hkg := hO _ (.tail _ (.tail _ (.tail _ (.head _))))
    have hxi := hO _ (.tail _ (.tail _ (.tail _ (.tail _ (.head _)))))
    have hdi := hO _ (.tail _ (.tail _ (.tail _ (.tail _ (.tail _ (.head _))))))
    have hcl := hO _ (.tail _ (.tail _ (.tail _ (.tail _ (.tail _ (.tail _ (.head _)))))))
    refine page_mk XH hxi hdi rfl rfl ⟨_, _, _, _, hfg⟩ ⟨_, _, _, _, hfc⟩ ?bE ?bT ?bC
    case bE =>
      intro s2 dp2 un2 fr2 gd2 Q2 E2 a t u e hr2 ha0 ha1 hq
      have hfn := hfg
      have hrc := CodeRec_mk hkg (by assumption) (by assumption)
      have hl2 := listExt hlH e
      walk_at "my enterL"
      walk_at "my steps"
      all_goals (try k_data)
      exact hq _ _ _ (Fr.keep (by assumption))
    case bT =>
      intro s2 dp2 un2 fr2 gd2 Q2 E2 a b t u e hr2 ha0 ha1 ha2 hq
      have hfn := hfg
      have hrc := CodeRec_mk hkg (by assumption) (by assumption)
      have hl2 := listExt hlH e
      walk_at "my enterL"
      walk_at "my steps"
      all_goals (try k_data)
      exact hq _ _ _ (Fr.keep (by assumption))
    case bC =>
      intro s2 dp2 un2 fr2 gd2 Q2 E2 a t u v e hr2 ha0 ha1 hq
      have hfn := hfc
      have hrc := CodeRec_mk hkc (by assumption) (by assumption)
      have hl2 := listExt hlH e
      walk_at "my enterL"
      walk_at "my steps"
      all_goals (try k_data)
      exact hq _ _ (Fr.keep (by assumption))
set_option maxHeartbeats 4000000 in
theorem page_call1 {prog : Program} {w : World} {dp un : Nat} {fr gd} {s : Shared} {Q : Value → Shared → Prop} {E} {g : Heap} {p loose mean mg mb} (X : (hd.heap_39 w.params).In g) (T : Top p loose mean mg mb g) (hg : Ext g s.heap) (hgP : g.get? 105 = none) (C : CodeHd g 109 105) (hr : dp + 60 < recursionLimit)
   {rows : List Str} {vs : List Value} {l : Addr} (hl : s.heap.IsList l vs.toArray) (hS : StrsAre vs rows) (hn : rows.length ≤ 64) (hL : ∀ r ∈ rows, r.length ≤ 64)
   {c1 c2 : Addr} {oc1 oc2 : Obj} (hT : s.heap.get? 105 = some (tab2 c1 c2)) (r1 : CodeOk oc1 lamQ) (r2 : CodeOk oc2 lamQ)
   (h : ∀ h' tk' pg (pobjs : List (Addr × Obj)), Ext s.heap h' → (∀ p ∈ pobjs, h'.get? p.1 = some p.2 ∧ s.heap.get? p.1 = none) →
      (∀ H, Ext g H → (∀ p ∈ pobjs, H.get? p.1 = some p.2) → H.get? c1 = some oc1 → H.get? c2 = some oc2 → H.IsList l vs.toArray → PageOk prog w H pg rows) → Q (.ref pg) {s with heap := h', toks := tk'}) : wpAny (model prog w) (ar dp un fr gd) (call (.ref 110) [.ref l]) Q E s := by
  unfold tab2 at hT
  refine' enterC (K := hd.heap_39 w.params) (P := 105) (X.keeps hg) ((T.keeps hg).nolimit) ?k6 ?k7 (by omega) ?k9 ?kB ?kD hT ?c2 ?c3 ?c4 ?_
  case k6 => k_is
  case k7 => k_is
  case k9 => exact BindsTo.of_eq rfl
  case kB => exact rfl
  case kD => decide +kernel
  case c2 => rfl
  case c3 => rfl
  case c4 => rfl
  intro L h1 tk1 fr1 cells F N Y lP
  k_lt2 lP
  have e0 := hideExt hg hgP
  have X0 := X.keeps e0
  have T0 := T.keeps e0
  have C0 := C.keeps e0
  k_cells Y
  (try simp only [List.cons_append, List.nil_append] at N)
  refine id ?_
  walk_at "my steps"
  all_goals (try k_data)
  (try dsimp only)
  with_reducible rename Fr _ _ _ _ => Fn
  with_reducible rename News _ _ _ _ => Nn
  rename _ = Data.cell _ => dcell
  change _ = Data.cell (some (Value.ref l)) at dcell
  have keepB : ∀ b o, s.heap.get? b = some o → _ := fun b o e => (by
    rcases Nat.decEq b 105 with hb | hb
    · exact Fn.keep b o (by rw [Heap.hide_ne _ hb]; exact e)
    · have hb' : b = 105 := hb
      subst hb'; rw [hT] at e; cases e
      exact (Nn _ (.tail _ (.tail _ (.tail _ (.tail _ (.tail _ (.head _))))))).1)
  have hfr := front5 (P := 105) Nn (by k_all)
  refine h _ _ _ _ keepB hfr ?page
  case page =>
    intro H eH hO hc1 hc2 hlH
    have XH := X.keeps eH
    have TH := T.keeps eH
    have hfc := hO _ (List.Mem.head _)
    have hfg := hO _ (.tail _ (.head _))
    have hxi := hO _ (.tail _ (.tail _ (.head _)))
    have hdi := hO _ (.tail _ (.tail _ (.tail _ (.head _))))
    have hcl := hO _ (.tail _ (.tail _ (.tail _ (.tail _ (.head _)))))
    refine page_mk XH hxi hdi rfl rfl ⟨_, _, _, _, hfg⟩ ⟨_, _, _, _, hfc⟩ ?bE ?bT ?bC
    case bE =>
      intro s2 dp2 un2 fr2 gd2 Q2 E2 a t u e hr2 ha0 ha1 hq
      have hfn := hfg
      have hrc := CodeOk.rec r1 hc1
      have hl2 := listExt hlH e
      walk_at "my enterL"
      walk_at "my steps"
      all_goals (try k_data)
      exact hq _ _ _ (Fr.keep (by assumption))
    case bT =>
      intro s2 dp2 un2 fr2 gd2 Q2 E2 a b t u e hr2 ha0 ha1 ha2 hq
      have hfn := hfg
      have hrc := CodeOk.rec r1 hc1
      have hl2 := listExt hlH e
      walk_at "my enterL"
      walk_at "my steps"
      all_goals (try k_data)
      exact hq _ _ _ (Fr.keep (by assumption))
    case bC =>
      intro s2 dp2 un2 fr2 gd2 Q2 E2 a t u v e hr2 ha0 ha1 hq
      have hfn := hfc
      have hrc := CodeOk.rec r2 hc2
      have hl2 := listExt hlH e
      walk_at "my enterL"
      walk_at "my steps"
      all_goals (try k_data)
      exact hq _ _ (Fr.keep (by assumption))

-- part Pl_3
section
open PySem PySem.W PyProof.Rows PySem.Calls PySem.Builtin PySem.Builtin.Str
/-- has a row something behind its header -/
noncomputable def full (x : PySem.Str) : Bool := !isWs (Txt.slice x (some ((hdr x).length : Int)) none)
theorem good_iff {H x : PySem.Str} : Good H x ↔ hdr x = H ∧ full x = true := by
  unfold Good full
  constructor
  · rintro ⟨rfl, h⟩; exact ⟨rfl, by rw [h]; rfl⟩
  · rintro ⟨rfl, h⟩; exact ⟨rfl, by simpa using h⟩
theorem slice_from (x : PySem.Str) (i : Nat) (h : i ≤ x.length) : Txt.slice x (some (i : Int)) none = ⟨x.cps.extract i x.length⟩ := by
  rw [slice_from_eq (b := (x.length : Int)) (by omega) (by omega) rfl]
  congr 1
  apply Array.ext'
  have : ((x.length : Int) - (i : Int)).toNat = x.length - i := by omega
  rw [this]
  simp
theorem slice_to (x : PySem.Str) (i : Nat) (h : i ≤ x.length) : Txt.slice x none (some (i : Int)) = ⟨x.cps.extract 0 i⟩ := by
  rw [beq_iff_eq.mp (slice_closes_toL (x := x) (j := (i : Int)) (by omega) (by omega))]
  congr 1
  apply Array.ext'
  simp
theorem isW_iff (a : Array Nat) : Rx.isW a = true ↔ ∀ k, k < a.size → Unicode.isSpace (a.getD k 0) = true := by
  unfold Rx.isW
  rw [Array.all_eq_true]
  constructor
  · intro h k hk; rw [Rx.getD_of_lt a hk]; exact h k hk
  · intro h k hk; rw [← Rx.getD_of_lt a hk]; exact h k hk
theorem getD_extract (a : Array Nat) (i j k : Nat) (hj : j ≤ a.size) (hk : i + k < j) : (a.extract i j).getD k 0 = a.getD (i + k) 0 := by
  rw [Array.getD_eq_getD_getElem?, Array.getD_eq_getD_getElem?, Array.getElem?_extract]
  rw [if_pos (by omega)]
theorem hlen_le (x : PySem.Str) : hlen x.cps ≤ x.length := (hlen_head x.cps).le
theorem hdr_len (x : PySem.Str) : (hdr x).length = hlen x.cps := by
  rw [hdr_eq]
  have := hlen_le x
  show (x.cps.extract 0 (hlen x.cps)).size = _
  rw [Array.size_extract]
  unfold PySem.Str.length at this
  omega
theorem full_eq (x : PySem.Str) : full x = !Rx.isW (x.cps.extract (hlen x.cps) x.length) := by
  unfold full
  rw [hdr_len, slice_from x _ (hlen_le x), isWs_eq]
theorem white_not_full {x : PySem.Str} (h : isWs x = true) : full x = false := by
  rw [full_eq]
  rw [isWs_eq, isW_iff] at h
  rw [Bool.not_eq_false']
  rw [isW_iff]
  intro k hk
  rw [Array.size_extract] at hk
  have hs : x.length = x.cps.size := rfl
  rw [getD_extract _ _ _ _ (by omega) (by omega)]
  exact h _ (by omega)
theorem strip_white (x : PySem.Str) : (Txt.strip x == PySem.Str.ofString "") = isWs x := by
  unfold Txt.strip
  rw [PyProof.Rows.stripBy_eq, isWs_eq]
  obtain ⟨a1, a2, a3⟩ := lo_facts Unicode.isSpace x
  obtain ⟨b1, b2, b3, b4⟩ := hi_facts Unicode.isSpace x _ a1
  generalize stripLo Unicode.isSpace true x = lo at *
  generalize stripHi Unicode.isSpace true x lo = hi at *
  have hs : x.length = x.cps.size := rfl
  cases hw : Rx.isW x.cps with
  | true =>
    rw [isW_iff] at hw
    have : hi = lo := by
      rcases b4 with h | h
      · exact h
      · by_cases q : lo < hi
        · rw [hw (hi - 1) (by omega)] at h; cases h
        · omega
    subst this
    rw [beq_iff_eq]
    show PySem.Str.mk (x.cps.extract hi hi) = PySem.Str.mk #[]
    congr 1
    simp
    omega
  | false =>
    cases q : (strSub x lo hi == PySem.Str.ofString "") with
    | false => rfl
    | true =>
      rw [beq_iff_eq] at q
      have hz : (x.cps.extract lo hi).size = 0 := by
        have : (strSub x lo hi).cps.size = 0 := by rw [q]; rfl
        exact this
      rw [Array.size_extract] at hz
      have : Rx.isW x.cps = true := by
        rw [isW_iff]
        intro k hk
        by_cases hk' : k < lo
        · exact a2 k hk'
        · exact b3 k (by omega) (by omega)
      rw [hw] at this; cases this
def restOf (x : PySem.Str) : PySem.Str := Txt.lstripChars (Txt.lstripChars x (PySem.Str.ofString " \t")) (PySem.Str.ofString "#")
theorem lstripBy (goes : Nat → Bool) (x : PySem.Str) : ∃ a, a ≤ x.length ∧ Txt.stripBy goes true false x = ⟨x.cps.extract a x.length⟩ ∧ (∀ k, k < a → goes (x.cps.getD k 0) = true) ∧ (a < x.length → goes (x.cps.getD a 0) = false) := by
  obtain ⟨a1, a2, a3⟩ := lo_facts goes x
  refine ⟨stripLo goes true x, a1, ?_, a2, fun h => ?_⟩
  · rw [PyProof.Rows.stripBy_eq]; rfl
  · rcases a3 with q | q
    · omega
    · exact q
theorem bt_goes : ∀ c : Nat, (PySem.Str.ofString " \t").cps.contains c = Rx.isBT c := by
  intro c
  show (#[32, 9] : Array Nat).contains c = _
  unfold Rx.isBT
  rw [Bool.eq_iff_iff]
  simp
theorem hash_goes : ∀ c : Nat, (PySem.Str.ofString "#").cps.contains c = (c == 35) := by
  intro c
  show (#[35] : Array Nat).contains c = _
  rw [Bool.eq_iff_iff]
  simp
end

-- part Pl2_3
theorem skip_uniq {rows : List Str} {mark k k' : Int} (h : Skip rows mark k) (h' : Skip rows mark k') : k = k' := by
  obtain ⟨a, b, c⟩ := h
  obtain ⟨a', b', c'⟩ := h'
  rcases Int.lt_trichotomy k k' with q | q | q
  · exact absurd (b' k a q) c
  · exact q
  · exact absurd (b k' a' q) c'
theorem grow_uniq {rows : List Str} {H : Str} {k j j' : Int} (h : Grow rows H k j) (h' : Grow rows H k j') : j = j' := by
  obtain ⟨a, b, c⟩ := h
  obtain ⟨a', b', c'⟩ := h'
  rcases Int.lt_trichotomy j j' with q | q | q
  · exact absurd (b' j a q) c
  · exact q
  · exact absurd (b j' a' q) c'
theorem shrink_uniq {rows : List Str} {H : Str} {k j j' : Int} (h : Shrink rows H k j) (h' : Shrink rows H k j') : j = j' := by
  obtain ⟨z, a, b, c⟩ := h
  obtain ⟨z', a', b', c'⟩ := h'
  rcases Int.lt_trichotomy j j' with q | q | q
  · exact absurd ⟨by omega, b j' q a'⟩ c'
  · exact q
  · exact absurd ⟨by omega, b' j q a⟩ c
theorem fp_uniq {rows : List Str} {mark f l f' l' : Int} {H H' : Str} (h : FP rows mark f l H) (h' : FP rows mark f' l' H') : f = f' ∧ l = l' ∧ H = H' := by
  obtain ⟨k, s, rfl, g, z⟩ := h
  obtain ⟨k', s', rfl, g', z'⟩ := h'
  obtain rfl := skip_uniq s s'
  have := grow_uniq g g'
  have := shrink_uniq z z'
  exact ⟨by omega, by omega, rfl⟩
theorem ws_empty : isWs Str.empty = true := by rw [isWs_eq]; decide +kernel
theorem skip_pos {rows : List Str} {mark k : Int} (h : Skip rows mark k) (h0 : 0 ≤ mark) : 1 ≤ k := by
  obtain ⟨a, b, c⟩ := h
  rcases Int.lt_or_eq_of_le (show 0 ≤ k by omega) with q | q
  · omega
  · subst q; exact absurd ⟨by omega, by rw [lineAt_zero]; exact ws_empty⟩ c
/-- a page inside a bigger one, a white row above it and one below it -/
structure Emb (rows big : List Str) (A : Int) : Prop where
  pos : 1 ≤ A
  len : A + rows.length + 1 ≤ big.length
  same : ∀ j, 1 ≤ j → j ≤ (rows.length : Int) → lineAt big (j + A) = lineAt rows j
  up : isWs (lineAt big A) = true
  down : isWs (lineAt big (rows.length + 1 + A)) = true
theorem isW_append (a b : Array Nat) : Rx.isW (a ++ b) = (Rx.isW a && Rx.isW b) := by
  unfold Rx.isW; simp
theorem ws_append (a b : Str) : isWs (a ++ b) = (isWs a && isWs b) := by
  rw [isWs_eq, isWs_eq, isWs_eq]; exact isW_append _ _
theorem lineAt_get {rows : List Str} {j : Int} (h1 : 1 ≤ j) (h2 : j ≤ (rows.length : Int)) : ∃ (h : (j - 1).toNat < rows.length), lineAt rows j = rows[(j - 1).toNat] := by
  have h : (j - 1).toNat < rows.length := by omega
  refine ⟨h, ?_⟩
  unfold lineAt
  rw [if_pos (by omega), List.getD_eq_getElem?_getD, List.getElem?_eq_getElem h]; rfl
theorem range_filter {n a b : Nat} {p : Nat → Bool} (h : a + b ≤ n) (hp : ∀ j, j < n → (p j = true ↔ a ≤ j ∧ j < a + b)) : (List.range n).filter p = List.range' a b := by
  obtain ⟨c, rfl⟩ := Nat.exists_eq_add_of_le h
  rw [List.range_eq_range', show a + b + c = a + (b + c) by omega, ← List.range'_append_1, ← List.range'_append_1, List.filter_append, List.filter_append]
  rw [List.filter_eq_nil_iff.mpr, List.filter_eq_self.mpr, List.filter_eq_nil_iff.mpr]
  · simp
  · intro j hj
    rw [List.mem_range'_1] at hj
    intro q
    have := (hp j (by omega)).mp q
    omega
  · intro j hj
    rw [List.mem_range'_1] at hj
    exact (hp j (by omega)).mpr (by omega)
  · intro j hj
    rw [List.mem_range'_1] at hj
    intro q
    have := (hp j (by omega)).mp q
    omega
/-- the rows, counted from 1, with this header and something behind it -/
noncomputable def alikes (rows : List Str) (H : Str) : List Int := ((List.range rows.length).filter (fun j => (hdr (rows.getD j Str.empty) == H) && full (rows.getD j Str.empty))).map (fun (j : Nat) => (j : Int) + 1)
theorem lineAt_getD {rows : List Str} {j : Nat} (h : j < rows.length) : lineAt rows ((j : Int) + 1) = rows.getD j Str.empty := by
  unfold lineAt
  rw [if_pos (by omega), show ((j : Int) + 1 - 1).toNat = j by omega]
theorem alike_range {rows : List Str} {mark f l : Int} {H : Str} (h : FP rows mark f l H) (h0 : 0 ≤ mark) (hl : l ≤ rows.length + 1) :
    (alikes rows H).filter (fun j => decide (f - 2 < j) && decide (j ≤ l)) = (List.range (l - f).toNat).map (fun (i : Nat) => f + (i : Int)) := by
  obtain ⟨k, s, eH, g, z⟩ := h
  have k1 := skip_pos s h0
  obtain ⟨g1, g2, g3⟩ := g
  obtain ⟨z0, z1, z2, z3⟩ := z
  unfold alikes
  rw [List.filter_map, List.filter_filter]
  rw [range_filter (a := (f - 1).toNat) (b := (l - f).toNat) (by omega)]
  · rw [List.range'_eq_map_range, List.map_map]
    apply List.map_congr_left
    intro i hi
    show (((f - 1).toNat + i : Nat) : Int) + 1 = f + (i : Int)
    omega
  · intro j hj
    simp only [Bool.and_eq_true, Function.comp, decide_eq_true_eq, beq_iff_eq]
    rw [← lineAt_getD hj, ← good_iff]
    constructor
    · rintro ⟨⟨q1, q2⟩, q3⟩
      refine ⟨?_, ?_⟩
      · by_cases q : (j : Int) + 1 = f - 1
        · rw [q] at q3; exact absurd ⟨by omega, q3⟩ z3
        · omega
      · by_cases q : (j : Int) + 1 = l
        · rw [q] at q3; exact absurd q3 g3
        · omega
    · rintro ⟨q1, q2⟩
      refine ⟨⟨by omega, by omega⟩, ?_⟩
      by_cases q : (j : Int) + 1 < k
      · exact z2 _ (by omega) (by omega)
      · exact g2 _ (by omega) (by omega)

-- part Ls_3
section
variable {prog : Program} {w : World} {dp un : Nat} {fr : Option (List Env)} {gd : Option (List Code)} {E : Value → Shared → Prop} {s : Shared} {K : Frag} {Q : Value → Shared → Prop}
theorem enterCC {R : Result → Shared → Prop} {name qual : Str} {params : Arguments} {body : List Stmt} {scope : Scope} {dV kV doc pm cdv ct oc : Value} {an od : Option Addr} {osl : Array (Option Value)} {f P : Addr} {oP : Obj} {pos : List Value} {binds : List (Str × Value)}
    (X : K.In s.heap) (hlim : s.heap.NoLimit)
    (ho : K.lookup f = some ⟨oc, od, .func (fnOf name qual params body scope dV kV doc pm an cdv ct), osl⟩) (hcd : codeIn K cdv qual = true) (hroom : dp + 1 < recursionLimit)
    (hbind : BindsTo s (fnOf name qual params body scope dV kV doc pm an cdv ct) ⟨pos, []⟩ binds)
    (hkind : (binds.all fun y => scope.names.lookup y.1 == some .local || scope.names.lookup y.1 == some .cell) = true) (hnd : ((cellsFrom 0 scope.names []).map (·.1)).Nodup)
    (hP : s.heap.get? P = some oP) (hco : scope.isCoroutine = false) (hgen : scope.isGenerator = false) (hk : scope.kind = .function)
    (h : ∀ L h₁ tk fr' cells, Fr (s.heap.hide P) L h₁ (bindL (envOfC qual scope L f cdv).kindOf binds fun _ => none) → News (s.heap.hide P) L h₁ (cells ++ [(P, oP)]) →
      CellsAre (bindC (envOfC qual scope L f cdv).kindOf binds fun _ => none) (cellsFrom (L + 1) scope.names []) cells → P < L →
      wpAny (model prog w) (ar (dp + 1) (un + 3) fr' gd) (execs body (envOfC qual scope L f cdv))
        (fun fl s' => R (.ok (.ret (match fl with | .ret v => v | _ => .none))) s') (fun _ _ => False) { s with heap := h₁, toks := tk }) :
    codeAny (model prog w) (ar dp un fr gd) (.call (.ref f) ⟨pos, []⟩) R s := by
  refine codeAny_call_function (fd := fnX name qual params body scope [] dV kV doc pm an cdv ct) (by show dp < _; omega) (X _ _ ho) rfl hco hgen rfl (codeRec_of X hcd) (hbind _ _ _ _ ?_)
  refine wpAny_newFunctionEnv_cells hk (kindsX hkind _) fun env' he s' x => ?_
  subst he
  refine ⟨hlim.keeps x.toInCall.keep, codeAny_func ?_⟩
  obtain ⟨h₁, tk, rfl, _⟩ := x.done
  have hk₁ := x.toInCall.keep
  obtain ⟨cells, NC, Y⟩ := Cl.news (h₀ := s.heap) (Nat.le_refl _) fun n c hm => ⟨x.cell n c (lookup_of_mem_nodup (cellsFrom_names scope.names 0 (s.heap.objs.size + 1) [] [] rfl ▸ hnd) hm), x.above n c hm⟩
  obtain ⟨fr', e⟩ := ar_deeper (dp := dp) (un := un) (fr := fr) (gd := gd) (envOfC qual scope s.heap.objs.size f cdv)
  show wpAny _ ((ar dp un fr gd).deeper (envOfC qual scope s.heap.objs.size f cdv)) _ _ _ _
  rw [e]
  refine wpAny_mono (h s.heap.objs.size h₁ tk fr' cells ⟨x.toInCall.ns, fun b o e => hk₁ b o (Heap.of_hide e), Nat.le_of_eq (Heap.hide_size _ _)⟩ (fun p hp => ?_) Y (Heap.lt_size hP)) (fun _ _ x => x) (fun _ _ x => x.elim)
  rcases List.mem_append.mp hp with hp | hp
  · refine ⟨(NC p hp).1, (NC p hp).2.1, ?_⟩
    cases q : (s.heap.hide P).get? p.1 with
    | none => rfl
    | some o => have := Heap.of_hide q; rw [(NC p hp).2.2] at this; cases this
  · rw [List.mem_singleton.mp hp]
    exact ⟨hk₁ _ _ hP, Nat.ne_of_lt (Heap.lt_size hP), Heap.hide_self _ _⟩

/-- a state behind a statement: the frame's map and the ledger are as told -/
def St (h₀ : Heap) (L : Addr) (s : Shared) (Inv : (Str → Option Value) → List (Addr × Obj) → Prop) (f : Flow) (s' : Shared) : Prop :=
  f = .next ∧ ∃ h' tk' m' news', s' = { s with heap := h', toks := tk' } ∧ Fr h₀ L h' m' ∧ News h₀ L h' news' ∧ Inv m' news'
end

-- part Lo_3
section
variable {prog : Program} {w : World} {A : Around} {h₀ : Heap} {L : Addr} {m : Str → Option Value} {env : Env} {elt : Expr} {x : Str} {scope : Scope} {cl : List (Str × Addr)} {s : Shared} {S : List (Addr × Obj) → Prop} {P : Nat → Value → Prop} {Fin : List Value → List (Addr × Obj) → Prop} {news : List (Addr × Obj)}
/-- the end of a turn that makes one object -/
def TurnObj (h₀ : Heap) (L : Addr) (m : Str → Option Value) (s : Shared) (h : Heap) (led : List (Addr × Obj)) (out : Obj → Prop) (y : Value) (s₂ : Shared) : Prop :=
  ∃ h' tk' ai oi, s₂ = { s with heap := h', toks := tk' } ∧ Fr h₀ L h' m ∧ News h₀ L h' led ∧ h'.get? ai = some oi ∧ h.get? ai = none ∧ y = .ref ai ∧ out oi

end
local macro_rules | `(tactic| walk_at "eval Name") => `(tactic| ((with_reducible show wpAny _ _ (eval (Expr.Name _ _) (envOfC _ _ _ _ _)) _ _ _); k_dflt (first
  | (refine' nameX_L ?F ?v ?_ ?a ?b; (case a => rfl); (case b => rfl); (case F => k_asm); (case v => first | exact rfl | with_reducible assumption); k_whole)
  | (refine' nameX_C ?N ?c ?m ?d ?_ ?a ?b; (case a => rfl); (case b => rfl); (case N => k_asm); (case c => rfl); (case m => k_mem); (case d => k_asm); k_whole))))

-- part Lf_3
section
variable {prog : Program} {w : World} {A : Around} {h₀ : Heap} {L : Addr} {m : Str → Option Value} {env : Env} {ct elt : Expr} {x : Str} {scope : Scope} {cl : List (Str × Addr)} {s : Shared} {S : List (Addr × Obj) → Prop} {P : Nat → Value → Prop} {Fin : List Value → List (Addr × Obj) → Prop} {news : List (Addr × Obj)}
theorem rest_filter {n : Nat} {α : Type} (xs : List α) (rel out : α → Value → Prop) (p : α → Bool) (hlen : xs.length = n) (hP : ∀ i v, i < n → P i v → ∃ a, xs[i]? = some a ∧ rel a v) (hS : S news)
    (test : ∀ a v I oI C oC D m₂ ys h tk (E' : Value → Shared → Prop), a ∈ xs → rel a v → LCg.NsObj oC m₂ → m₂ x = some v → Fr h₀ L h m → News h₀ L h ((I, oI) :: (C, oC) :: (D, LCg.lst ys) :: news) → LCg.Off3 I C D news → ((@Ne Nat I C) ∧ (@Ne Nat I D) ∧ (@Ne Nat C D)) →
      wpAny (model prog w) A (isTrue ct (compEnvC scope cl C env) (eval ct (compEnvC scope cl C env))) (fun ok s' => TurnEnd' h₀ L m s ((I, oI) :: (C, oC) :: (D, LCg.lst ys) :: news) (fun v => v = .bool (p a)) (.bool ok) s') E' { s with heap := h, toks := tk })
    (turn : ∀ a v I oI C oC D m₂ ys h tk (E' : Value → Shared → Prop), a ∈ xs → p a = true → rel a v → LCg.NsObj oC m₂ → m₂ x = some v → Fr h₀ L h m → News h₀ L h ((I, oI) :: (C, oC) :: (D, LCg.lst ys) :: news) → LCg.Off3 I C D news → ((@Ne Nat I C) ∧ (@Ne Nat I D) ∧ (@Ne Nat C D)) →
      wpAny (model prog w) A (eval elt (compEnvC scope cl C env)) (TurnEnd' h₀ L m s ((I, oI) :: (C, oC) :: (D, LCg.lst ys) :: news) (out a)) E' { s with heap := h, toks := tk })
    (fin : ∀ ys, All2 out (xs.filter p) ys → Fin ys news) : LCt.CompRestT prog w A h₀ L m env ct elt x scope cl s S P Fin n 0 [] news := by
  have key : ∀ (j i : Nat) (ys : List Value), i + j = n → All2 out ((xs.take i).filter p) ys → LCt.CompRestT prog w A h₀ L m env ct elt x scope cl s S P Fin j i ys news := by
    intro j
    induction j with
    | zero =>
      intro i ys hi hy
      have e : i = xs.length := by omega
      subst e
      rw [List.take_length] at hy
      exact LCt.CompRestT.zero (fin ys hy)
    | succ j ih =>
      intro i ys hi hy
      refine LCt.CompRestT.succ ?_
      intro v I oI C oC D m₂ h tk E' hv hC hx F N off ne
      obtain ⟨a, ha, hr⟩ := hP i v (by omega) hv
      refine wpAny_mono (test a v I oI C oC D m₂ ys h tk E' (List.mem_of_getElem? ha) hr hC hx F N off ne) (fun ok s₁ hq => ?_) fun _ _ e => e
      obtain ⟨h1, tk1, rfl, F1, N1, ho1⟩ := hq
      injection ho1 with hok
      subst hok
      cases hp : p a with
      | true =>
        simp only [if_true]
        refine wpAny_mono (turn a v I oI C oC D m₂ ys h1 tk1 E' (List.mem_of_getElem? ha) hp hr hC hx F1 N1 off ne) (fun y s₂ hq => ?_) fun _ _ e => e
        obtain ⟨h', tk', e, F', N', ho⟩ := hq
        refine ⟨h', tk', news, e, F', N', off, hS, ?_⟩
        refine ih (i + 1) _ (by omega) ?_
        rw [List.take_add_one, ha, List.filter_append]
        have : List.filter p [a] = [a] := by simp [hp]
        show All2 out (List.filter p (xs.take i) ++ List.filter p [a]) _
        rw [this]
        exact hy.snoc ho
      | false =>
        simp only [Bool.false_eq_true, if_false]
        refine ⟨h1, tk1, news, rfl, F1, N1, off, hS, ?_⟩
        refine ih (i + 1) _ (by omega) ?_
        rw [List.take_add_one, ha, List.filter_append]
        have : List.filter p [a] = [] := by simp [hp]
        show All2 out (List.filter p (xs.take i) ++ List.filter p [a]) _
        rw [this, List.append_nil]
        exact hy
  exact key n 0 [] (by omega) (by rw [List.take_zero]; exact .nil)
end
local macro_rules | `(tactic| walk_at "exec Assign cons ListComp") => `(tactic| (lct_look; k_dflt (refine LCt.Assign_ListComp_T (F₀ := by k_asm) (by rfl) (by with_unfolding_all rfl) (by with_unfolding_all rfl) (by decide) (by rfl) (by decide) (by rfl) (by rfl) (by rfl) ?_)))
local macro_rules | `(tactic| walk_at "eval ListComp") => `(tactic| (lct_look; k_dflt (refine LCt.ListComp_T (F₀ := by k_asm) (by with_unfolding_all rfl) (by decide) (by rfl) (by decide) (by rfl) ?_)))

-- part Lp_3
section
variable {prog : Program} {w : World} {A : Around} {s : Shared} {env : Env} {h₀ : Heap}
/-- behind a turn: on, or left with an answer -/
def Turned (h₀ : Heap) (L : Addr) (s : Shared) (I : Addr) (oI : Obj) (Jn : (Str → Option Value) → List (Addr × Obj) → Prop) (Q : Flow → Shared → Prop) (f : Flow) (s₂ : Shared) : Prop :=
  (f = .next ∧ ∃ h' tk' m' news', s₂ = { s with heap := h', toks := tk' } ∧ Fr h₀ L h' m' ∧ News h₀ L h' ((I, oI) :: news') ∧ (∀ p ∈ news', p.1 ≠ I) ∧ Jn m' news') ∨ ∃ v, f = .ret v ∧ Q (.ret v) s₂
/-- the range is made -/
def RngAt (h₀ : Heap) (L : Addr) (s : Shared) (a b : Int) (J : (Str → Option Value) → List (Addr × Obj) → Prop) (xv : Value) (s₁ : Shared) : Prop :=
  ∃ r t u v m news h tk, xv = .ref r ∧ s₁ = { s with heap := h, toks := tk } ∧ IsRange h r a b 1 t u v ∧ Fr h₀ L h m ∧ News h₀ L h news ∧ J m news
end

-- part Ok_3
/-- every sign of a text is a sign -/
abbrev ok (x : Str) : Prop := PyData.strOk x = true
theorem ok_iff (x : Str) : ok x ↔ ∀ c ∈ x.cps.toList, c < 0x110000 := by
  unfold ok PyData.strOk
  rw [← Array.all_toList, List.all_eq_true]
  simp
theorem ok_app {a b : Str} (ha : ok a) (hb : ok b) : ok (a ++ b) := by
  rw [ok_iff] at *
  intro c hc
  have : (a ++ b).cps.toList = a.cps.toList ++ b.cps.toList := by
    show (a.cps ++ b.cps).toList = _
    simp
  rw [this, List.mem_append] at hc
  rcases hc with h | h
  · exact ha c h
  · exact hb c h
theorem ok_extract {a : Str} (ha : ok a) (i j : Nat) : ok ⟨a.cps.extract i j⟩ := by
  rw [ok_iff] at *
  intro c hc
  refine ha c ?_
  have : (a.cps.extract i j).toList = (a.cps.toList.take j).drop i := by simp [List.drop_take]
  dsimp only at hc
  rw [this] at hc
  exact List.mem_of_mem_take (List.mem_of_mem_drop hc)
theorem ok_hdr {x : Str} (h : ok x) : ok (hdr x) := by rw [hdr_eq]; exact ok_extract h _ _
theorem ok_empty : ok Str.empty := by decide +kernel
theorem ok_line {rows : List Str} (h : ∀ r ∈ rows, ok r) (j : Int) : ok (lineAt rows j) := by
  unfold lineAt
  split
  · rw [List.getD_eq_getElem?_getD]
    cases e : rows[(j - 1).toNat]? with
    | none => exact ok_empty
    | some r => exact h r (List.mem_of_getElem? e)
  · exact ok_empty
theorem ok_strjoin {sep : Str} (hs : ok sep) : ∀ {l : List Str}, (∀ r ∈ l, ok r) → ok (Str.join sep l)
  | [], _ => ok_empty
  | [x], h => h x List.mem_cons_self
  | x :: y :: r, h => ok_app (ok_app (h x List.mem_cons_self) hs) (ok_strjoin hs (l := y :: r) fun z hz => h z (List.mem_cons_of_mem _ hz))
theorem ok_join {sep : Str} (hs : ok sep) {l : List Str} (h : ∀ r ∈ l, ok r) : ok (Txt.join sep l) := by
  unfold Txt.join
  rw [PySem.StrLaws.glued_eq_join]; exact ok_strjoin hs h
theorem ok_cut {rows : List Str} (h : ∀ r ∈ rows, ok r) (a b : Int) : ok (cut rows a b) := by
  refine ok_join (by decide +kernel) fun z hz => ?_
  obtain ⟨y, hy, rfl⟩ := List.mem_map.mp hz
  exact ok_app (h y (List.mem_of_mem_take (List.mem_of_mem_drop hy))) (by decide +kernel)
theorem ok_d0N : ∀ n : Nat, n < 100 → ok (d0 n) := by decide +kernel
theorem ok_d0 {n : Int} (h0 : 0 ≤ n) (h1 : n < 100) : ok (d0 n) := by obtain ⟨k, rfl, hk⟩ := natOf h0 h1; exact ok_d0N k hk
theorem ok_fp {rows : List Str} {mark f l : Int} {H : Str} (h : FP rows mark f l H) (hr : ∀ r ∈ rows, ok r) : ok H := by
  obtain ⟨k, _, rfl, _⟩ := h
  exact ok_hdr (ok_line hr k)
theorem shaped4 {x1 x2 x3 x4 : Str} (h1 : ok x1) (h2 : ok x2) (h3 : ok x3) (h4 : ok x4) : SeqAt.shaped (.tuple [.str x1, .str x2, .str x3, .str x4]) = true := by
  simp only [ok] at h1 h2 h3 h4
  simp [SeqAt.shaped, PyData.canLay0, PyData.canLayAll0, PyData.depth, PyData.depthAll, h1, h2, h3, h4]
theorem shapedSB {x1 : Str} {b : Bool} (h1 : ok x1) : SeqAt.shaped (.tuple [.str x1, .bool b]) = true := by
  simp only [ok] at h1
  simp [SeqAt.shaped, PyData.canLay0, PyData.canLayAll0, PyData.depth, PyData.depthAll, h1]

-- part Lg_3
theorem fillG : (PySem.Challenge.rw_dm0163_03, hd.heap_39) = (PySem.Challenge.rw_dm0163_03, hd.heap_39) := by k_fill; rfl
section
variable {prog : Program} {w : World} {dp un : Nat} {fr : Option (List Env)} {gd : Option (List Code)} {s : Shared}
/-- cut behind one statement, the shared base kept -/
theorem cutS {M : Model} {A : Around} {env : Env} {st : Stmt} {rest : List Stmt} {Q : Flow → Shared → Prop} {E : Value → Shared → Prop} {h₀ : Heap} {L : Addr} {h : Heap} {tk : Nat} (Inv : (Str → Option Value) → List (Addr × Obj) → Prop)
    (h1 : wpAny M A (exec st env) (St h₀ L s Inv) E { s with heap := h, toks := tk })
    (h2 : ∀ h' tk' m' news', Fr h₀ L h' m' → News h₀ L h' news' → Inv m' news' → wpAny M A (execs rest env) Q E { s with heap := h', toks := tk' }) : wpAny M A (execs (st :: rest) env) Q E { s with heap := h, toks := tk } := by
  refine wpAny_execs_cons (wpAny_mono h1 (fun f s' hs => ?_) fun _ _ e => e)
  obtain ⟨rfl, h', tk', m', news', rfl, F, N, I⟩ := hs
  exact h2 h' tk' m' news' F N I
end
local macro_rules | `(tactic| walk_at "my steps") => `(tactic| repeat' (first | ((fail_if_success (with_reducible show LCg.CompSrc _ _ _ _ _ _ _ _ _ _ _ _ _ _)); (fail_if_success (with_reducible show LCt.CompSrcT _ _ _ _ _ _ _ _ _ _ _ _ _ _ _)); (fail_if_success (with_reducible show wpAny _ _ (exec (Stmt.While _ _ _ _) _) _ _ _)); (fail_if_success (with_reducible show wpAny _ _ (exec (Stmt.For _ _ _ _ _) _) _ _ _)); (fail_if_success (with_reducible show St _ _ _ _ _ _)); first | (k_unfold; (try dsimp only)) | (k_end; wrow_close) | walk1 | (dsimp only; walk1) | (leave1; walk_say "STEP leave1"; try dsimp only) | fail "no step")))
local macro_rules | `(tactic| walk_at "my sub") => `(tactic| first | (refine List.forall_mem_cons.mpr ⟨by k_mem, ?_⟩; walk_at "my sub") | (intro p hp; repeat (first | exact hp | refine List.mem_cons_of_mem _ ?_)))
section
variable {prog : Program} {w : World} {A : Around} {E Q : Value → Shared → Prop} {s : Shared} {h₀ : Heap} {L : Addr} {m : Str → Option Value} {news : List (Addr × Obj)} {value slice : Expr} {l : Addr} {vs : List Value} {ys : List Str} {a b : Int} {t u : Tok}
end
theorem newsSub {h₀ h : Heap} {L : Addr} {news news' : List (Addr × Obj)} (N : News h₀ L h news') (hs : ∀ p ∈ news, p ∈ news') : News h₀ L h news := fun p hp => N p (hs p hp)
theorem stMk {h₀ : Heap} {L : Addr} {s : Shared} {Inv : (Str → Option Value) → List (Addr × Obj) → Prop} {h' : Heap} {tk' : Nat} {m' : Str → Option Value} {all : List (Addr × Obj)} (F : Fr h₀ L h' m') (N : News h₀ L h' all) (news' : List (Addr × Obj)) (hs : ∀ p ∈ news', p ∈ all) (I : Inv m' news') :
    St h₀ L s Inv .next { s with heap := h', toks := tk' } := ⟨rfl, h', tk', m', news', rfl, F, newsSub N hs, I⟩
local macro_rules | `(tactic| walk_at "my all") => `(tactic| first | exact List.forall_mem_nil _ | with_reducible assumption | (refine' List.forall_mem_cons.mpr ⟨?a, ?b⟩; (case a => k_ne); (case b => walk_at "my all")))
local macro_rules | `(tactic| k_updF) => `(tactic| (refine' UpdF.head ?a; (case a => walk_at "my all")))
theorem len_led {prog : Program} {w : World} {A : Around} {E Q : Value → Shared → Prop} {s : Shared} {l : Addr} {vs : List Value} (hl : s.heap.IsList l vs.toArray) (hn : vs.length ≤ 1000) (h : ∀ t' k', Q (.int vs.length t') { s with toks := k' }) : wpAny (model prog w) A (call (.builtin "len") [.ref l]) Q E s :=
  call_len_list hl (by rw [List.size_toArray]; omega) (by rw [List.size_toArray]; exact h _ _)
local macro_rules | `(tactic| walk_at "call builtin:len") => `(tactic| (k_dflt (refine len_led (News.isList (by k_asm) (by k_mem)) (by omega) ?_); intro t' k'))
theorem d0_cutN : ∀ n : Nat, n < 100 → Txt.slice (d0 n) none (some (-2)) = dec n := by decide +kernel
theorem d0_cut {n : Int} (h0 : 0 ≤ n) (h1 : n < 100) : Txt.slice (d0 n) none (some (-2)) = dec n := by obtain ⟨k, rfl, hk⟩ := natOf h0 h1; exact d0_cutN k hk
theorem slice_d0 {prog : Program} {w : World} {A : Around} {E Q : Value → Shared → Prop} {s : Shared} {h₀ : Heap} {L : Addr} {m : Str → Option Value} {news : List (Addr × Obj)} {value slice : Expr} {n : Int} {t uj : Tok} (hF : Fr h₀ L s.heap m) (hN : News h₀ L s.heap news) (h0 : 0 ≤ n) (h1 : n < 100) (h : ∀ h' t' k, Fr h₀ L h' m → News h₀ L h' news → Q (.str (dec n) t') { s with heap := h', toks := k })
    (hs : subscripted slice false (.str (d0 n) t) (.ref s.heap.objs.size) = operate [.ref s.heap.objs.size, .str (d0 n) t] (getItem (.str (d0 n) t) (.ref s.heap.objs.size)) := by with_unfolding_all rfl)
    (ht : ∀ r, letTemporaryGo value (.str (d0 n) t) r = pure () := by intro _; with_unfolding_all rfl) :
    wpAny (model prog w) A (subscriptTail value slice (.str (d0 n) t) (.ref s.heap.objs.size)) Q E { s with heap := s.heap.push { cls := .type "slice", data := .fields #[.none, .int (-2) uj, .none] } } :=
  slice_strN_ns hF hN (fun h' t' k a b => by rw [d0_cut h0 h1]; exact h h' t' k a b) hs ht (Nat.le_trans (len_d0 h0 h1) (by decide))
local macro_rules | `(tactic| walk_at "subscriptTail Name Slice str ref") => `(tactic| ((with_reducible show wpAny _ _ (subscriptTail _ (Expr.Slice none (some _) none _) (Value.str (d0 _) _) _) _ _ _); k_dflt (refine slice_d0 (s := ⟨_, _, _, _, _⟩) (by k_asm) (by k_asm) (by omega) (by omega) ?_); intro h' t' k' F' N'; (try k_sweep)))
theorem fp_bounds {rows : List Str} {mark f l : Int} {H : Str} (h : FP rows mark f l H) (h0 : 0 ≤ mark) : 1 ≤ f ∧ f ≤ l ∧ (l ≤ mark ∨ l ≤ rows.length + 1) := by
  obtain ⟨k, ⟨s1, s2, s3⟩, _, ⟨g1, g2, g3⟩, z1, z2, _⟩ := h
  have e1 : k ≤ mark ∨ k ≤ rows.length + 1 := by
    by_cases e : mark < k
    · have := (s2 (k - 1) (by omega) (by omega)).1; omega
    · omega
  have e2 : l = k ∨ l ≤ rows.length + 1 := by
    by_cases e : k < l
    · have := good_le (g2 (l - 1) (by omega) (by omega)); omega
    · omega
  omega
local macro_rules | `(tactic| walk_at "subscriptTail") => `(tactic| ((with_reducible show wpAny _ _ (subscriptTail _ _ (Value.ref _) (Value.int _ _)) _ _ _); k_dflt (refine' item_listL ?kl (by omega) (by omega) ?kx ?_; (case kl => exact News.isList (by k_asm) (by k_mem)); (case kx => with_reducible assumption))))
section
variable {prog : Program} {w : World} {dp un : Nat} {fr : Option (List Env)} {gd : Option (List Code)} {E Q : Value → Shared → Prop} {s : Shared} {a b : Addr}
theorem ne_told {rows : List Str} {f l : Int} {H : Str} {t1 t2 t3 t4 k1 k2 k3 k4 : Tok} {x1 x2 x3 x4 : Str} (ha : s.heap.get? a = some (toldObj rows f l H t1 t2 t3 t4)) (hb : s.heap.get? b = some { cls := .type "tuple", data := .seq #[.str x1 k1, .str x2 k2, .str x3 k3, .str x4 k4] }) (hu : un + 100 < cLine)
    (o1 : ok (d0 f)) (o2 : ok (d0 l)) (o3 : ok H) (o4 : ok (cut rows f l)) (o5 : ok x1) (o6 : ok x2) (o7 : ok x3) (o8 : ok x4)
    (h : Q (.bool (!(d0 f == x1 && (d0 l == x2 && (H == x3 && cut rows f l == x4))))) s) : wpAny (model prog w) (ar dp un fr gd) (compareOp .NotEq (.ref a) (.ref b)) Q E s := by
  refine ne_dataH (reads_tuple_at ha rfl rfl (.cons (.str _ _) (.cons (.str _ _) (.cons (.str _ _) (.cons (.str _ _) .nil))))) (reads_tuple_at hb rfl rfl (.cons (.str _ _) (.cons (.str _ _) (.cons (.str _ _) (.cons (.str _ _) .nil))))) (shaped4 o1 o2 o3 o4) (shaped4 o5 o6 o7 o8) (by show un + 64 < _; omega) ?_
  simp only [PyData.eqv, PyData.eqvAll, Bool.and_true]
  exact h
theorem ne_ints {xs ys : List Value} {ns ms : List Int} (ha : s.heap.IsList a xs.toArray) (hb : s.heap.IsList b ys.toArray) (hi : IntsAre xs ns) (hj : IntsAre ys ms) (hu : un + 100 < cLine) (h : Q (.bool (!decide (ns = ms))) s) :
    wpAny (model prog w) (ar dp un fr gd) (compareOp .NotEq (.ref a) (.ref b)) Q E s := ke_ne_ints ha hb hi hj (by show un + 64 < _; omega) h
end
local macro_rules | `(tactic| walk_at "compareOp NotEq ref ref") => `(tactic| (k_dflt (first
  | refine ne_told (News.get (by k_asm) (by k_mem)) (News.get (by k_asm) (by k_mem)) (by with_reducible assumption) (by with_reducible assumption) (by with_reducible assumption) (by with_reducible assumption) (by with_reducible assumption) (by with_reducible assumption) (by with_reducible assumption) (by with_reducible assumption) (by with_reducible assumption) ?_
  | refine ne_ints (News.isList (by k_asm) (by k_mem)) (News.isList (by k_asm) (by k_mem)) (by with_reducible assumption) (by with_reducible assumption) (by with_reducible assumption) ?_)))
theorem ite_nand {a b : Bool} {P R : Prop} (h1 : (a && b) = true → R) (h2 : (a && b) = false → P) : if (!(a && b)) = true then P else R := by
  cases e : (a && b) with
  | true => rw [if_neg (by decide)]; exact h1 e
  | false => rw [if_pos (by decide)]; exact h2 e
local macro_rules | `(tactic| walk_at "ite") => `(tactic| ((with_reducible refine ite_nand ?_ ?_) <;> intro hb'))
theorem newsAddMem {h₀ h : Heap} {L : Addr} {q : Addr × Obj} {news tl : List (Addr × Obj)} (N : News h₀ L h news) (hs : ∀ p ∈ tl, p ∈ news) (hq : q ∈ tl) : News h₀ L h (q :: news) := fun p hp => by
  rcases List.mem_cons.mp hp with rfl | hp
  · exact N _ (hs _ hq)
  · exact N p hp
local macro_rules | `(tactic| walk_at "my mem") => `(tactic| (intro p hp; repeat (first | exact hp | refine List.mem_cons_of_mem _ ?_)))
local macro_rules | `(tactic| walk_at "my stay") => `(tactic| ((with_reducible rename Fr _ _ _ _ => Fn); (with_reducible rename News _ _ _ _ => Nn); (refine' stMk Fn Nn _ ?sub ⟨rfl, rfl⟩); (case sub => walk_at "my sub")))

-- part Rw_3
theorem fillR : (PySem.Challenge.rw_dm0163_03, hd.heap_39) = (PySem.Challenge.rw_dm0163_03, hd.heap_39) := by k_fill; rfl
section
variable {prog : Program} {w : World} {dp un : Nat} {fr : Option (List Env)} {gd : Option (List Code)} {E : Value → Shared → Prop} {s : Shared} {K : Frag} {Q : Value → Shared → Prop}
/-- a def with cells, entered; nothing laid aside -/
theorem enterK {name qual : Str} {params : Arguments} {body : List Stmt} {scope : Scope} {dV kV doc pm cdv ct oc : Value} {an od : Option Addr} {osl : Array (Option Value)} {f : Addr} {pos : List Value} {binds : List (Str × Value)}
    (X : K.In s.heap) (hlim : s.heap.NoLimit)
    (ho : K.lookup f = some ⟨oc, od, .func (fnOf name qual params body scope dV kV doc pm an cdv ct), osl⟩) (hcd : codeIn K cdv qual = true) (hroom : dp + 1 < recursionLimit)
    (hbind : BindsTo s (fnOf name qual params body scope dV kV doc pm an cdv ct) ⟨pos, []⟩ binds)
    (hkind : (binds.all fun y => scope.names.lookup y.1 == some .local || scope.names.lookup y.1 == some .cell) = true) (hnd : ((cellsFrom 0 scope.names []).map (·.1)).Nodup)
    (hco : scope.isCoroutine = false) (hgen : scope.isGenerator = false) (hk : scope.kind = .function)
    (h : ∀ L h₁ tk fr' cells, Fr s.heap L h₁ (bindL (envOfC qual scope L f cdv).kindOf binds fun _ => none) → News s.heap L h₁ cells →
      CellsAre (bindC (envOfC qual scope L f cdv).kindOf binds fun _ => none) (cellsFrom (L + 1) scope.names []) cells →
      wpAny (model prog w) (ar (dp + 1) (un + 3) fr' gd) (execs body (envOfC qual scope L f cdv))
        (fun fl s' => Q (match fl with | .ret v => v | _ => .none) s') (fun _ _ => False) { s with heap := h₁, toks := tk }) :
    wpAny (model prog w) (ar dp un fr gd) (call (.ref f) pos) Q E s := by
  refine wpAny_call ?_
  refine codeAny_call_function (fd := fnX name qual params body scope [] dV kV doc pm an cdv ct) (by show dp < _; omega) (X _ _ ho) rfl hco hgen rfl (codeRec_of X hcd) (hbind _ _ _ _ ?_)
  refine wpAny_newFunctionEnv_cells hk (kindsX hkind _) fun env' he s' x => ?_
  subst he
  refine ⟨hlim.keeps x.toInCall.keep, codeAny_func ?_⟩
  obtain ⟨h₁, tk, rfl, _⟩ := x.done
  have hk₁ := x.toInCall.keep
  obtain ⟨cells, NC, Y⟩ := Cl.news (h₀ := s.heap) (Nat.le_refl _) fun n c hm => ⟨x.cell n c (lookup_of_mem_nodup (cellsFrom_names scope.names 0 (s.heap.objs.size + 1) [] [] rfl ▸ hnd) hm), x.above n c hm⟩
  obtain ⟨fr', e⟩ := ar_deeper (dp := dp) (un := un) (fr := fr) (gd := gd) (envOfC qual scope s.heap.objs.size f cdv)
  show wpAny _ ((ar dp un fr gd).deeper (envOfC qual scope s.heap.objs.size f cdv)) _ _ _ _
  rw [e]
  exact wpAny_mono (h s.heap.objs.size h₁ tk fr' cells ⟨x.toInCall.ns, hk₁, Nat.le_refl _⟩ NC Y) (fun _ _ x => x) (fun _ _ x => x.elim)
end
section
variable {prog : Program} {w : World} {A : Around} {Q E : Value → Shared → Prop} {s : Shared} {t u : Tok}
theorem pow6_le : ∀ n : Nat, n < 5 → (1 : Int) ≤ 6 ^ n ∧ (6 : Int) ^ n ≤ 1296 := by decide +kernel
theorem pow6_own {n : Int} (hn : 0 ≤ n) (hn2 : n < 5) (h : ∀ x k', x = (6 : Int) ^ n.toNat ∧ 1 ≤ x ∧ x ≤ 1296 → Q (.int x k') { s with toks := k' + 1 }) :
    wpAny (model prog w) A (binaryOp .Pow (.int 6 t) (.int n u)) Q E s :=
  pow_int_small hn (by omega) (by omega) (h _ _ ⟨rfl, pow6_le _ (by omega)⟩)
theorem fdivP {a b : Int} (h1 : 1 ≤ b) (h2 : b ≤ 1296) (h : ∀ k', Q (.int (a.fdiv b) k') { s with toks := k' + 1 }) :
    wpAny (model prog w) A (binaryOp .FloorDiv (.int a t) (.int b u)) Q E s :=
  floordiv_int (by omega) (h _) (Or.inl (PyProof.noPylong_small (by omega)))
end
local macro_rules | `(tactic| walk_at "binaryOp Pow int int") => `(tactic| ((refine pow6_own (by omega) (by omega) ?_); intro x' k' hx'))
local macro_rules | `(tactic| walk_at "binaryOp FloorDiv int int") => `(tactic| ((refine fdivP (by omega) (by omega) ?_); intro k'))
def abc : Str := Str.ofString "a# \tb\x0c"
def sign (x : Int) (k : Nat) : Str := Txt.item abc (Int.fmod (Int.fdiv (Int.fdiv x 5) (6 ^ k)) 6)
def rowOf (x : Int) : Str := Txt.join (Str.ofString "") ((List.range (Int.fmod x 5).toNat).map (sign x))
def letters : List Str := [Str.ofString "a", Str.ofString "#", Str.ofString " ", Str.ofString "\t", Str.ofString "b", Str.ofString "\x0c"]
theorem item_abc : ∀ i : Nat, i < 6 → Txt.item abc (i : Int) ∈ letters := by decide +kernel
theorem sign_mem (x : Int) (k : Nat) : sign x k ∈ letters := by
  unfold sign
  have h0 := Int.fmod_nonneg_of_pos (Int.fdiv (Int.fdiv x 5) (6 ^ k)) (b := 6) (by decide)
  have h1 := Int.fmod_lt_of_pos (Int.fdiv (Int.fdiv x 5) (6 ^ k)) (b := 6) (by decide)
  obtain ⟨n, hn⟩ : ∃ n : Nat, Int.fmod (Int.fdiv (Int.fdiv x 5) (6 ^ k)) 6 = n := ⟨_, (Int.toNat_of_nonneg h0).symm⟩
  rw [hn] at h1 ⊢
  exact item_abc n (by omega)
theorem sign_len (x : Int) (k : Nat) : (sign x k).length = 1 := (by decide +kernel : ∀ r ∈ letters, r.length = 1) _ (sign_mem x k)
theorem mod5 (x : Int) : 0 ≤ Int.fmod x 5 ∧ Int.fmod x 5 < 5 := ⟨Int.fmod_nonneg_of_pos _ (by decide), Int.fmod_lt_of_pos _ (by decide)⟩
set_option maxHeartbeats 4000000 in
theorem row_call {dp un : Nat} {prog : Program} {w : World} {fr gd} {s : Shared} {Q : Value → Shared → Prop} {E} {p loose mean mg mb} (X : (hd.heap_39 w.params).In s.heap) (T : Top p loose mean mg mb s.heap) (hr : dp + 20 < recursionLimit)
   {x : Int} {t : Tok} (h : ∀ h' tk' t', Ext s.heap h' → Q (.str (rowOf x) t') {s with heap := h', toks := tk'}) : wpAny (model prog w) (ar dp un fr gd) (call (.ref 115) [.int x t]) Q E s := by
  refine' enterK (K := hd.heap_39 w.params) X T.nolimit ?k6 ?k7 (by omega) ?k9 ?kB ?kD ?c2 ?c3 ?c4 ?_
  case k6 => k_is
  case k7 => k_is
  case k9 => exact BindsTo.of_eq rfl
  case kB => exact rfl
  case kD => decide +kernel
  case c2 => rfl
  case c3 => rfl
  case c4 => rfl
  intro L h1 tk1 fr1 cells F N Y
  k_cells Y
  (try simp only [List.cons_append, List.nil_append] at N)
  refine id ?_
  (try dsimp only)
  walk_at "my steps"
  all_goals (try k_data)
  with_reducible rename Fr _ _ _ _ => Fc
  with_reducible rename News _ _ _ _ => NN
  rename IsRange _ _ _ _ _ _ _ _ => hR
  have h5 := mod5 x
  refine LCg.CompSrc.range rfl Fc NN hR (small_one (by omega) (by omega) (by omega) (by omega)) (n := (Int.fmod x 5).toNat) (by rw [rangeSize_nat]; omega) (by rw [show sizeLine = 16777216 from rfl]; omega) (fun g => rest_map (List.range (Int.fmod x 5).toNat) (fun j v => IsI (j : Int) v) (fun j v => IsS (sign x j) v) List.length_range (fun i v hi e => ⟨i, List.getElem?_range hi, by obtain ⟨t, e⟩ := e; rw [Int.zero_add] at e; exact ⟨t, e⟩⟩) True.intro ?turn ?fin)
  case turn =>
    intro j v I oI C oC D m₂ ys h tk E' hj hr hC hx F N off ne
    obtain ⟨t, rfl⟩ := hr
    rw [List.mem_range] at hj
    walk_at "my steps"
    all_goals (try k_data)
    rename _ = (6 : Int) ^ _ ∧ _ => hx6
    obtain ⟨rfl, _⟩ := hx6
    exact ⟨_, _, rfl, F, N, _, rfl⟩
  case fin =>
    intro ys hys
    walk_at "my steps"
    have hst := hys.strs
    refine join_listC (ys := (List.range (Int.fmod x 5).toNat).map (sign x)) (News.isList (by assumption) (by k_mem)) (by simpa using hst) (by decide) ?_ ?_
    · have := sum_le 1 ((List.range (Int.fmod x 5).toNat).map (sign x)) (fun z hz => by
        obtain ⟨y, hy, rfl⟩ := List.mem_map.mp hz
        rw [sign_len]; exact Nat.le_refl _)
      rw [List.length_map, List.length_range] at this ⊢
      omega
    · intro t' k
      walk_at "my steps"
      all_goals (try k_data)
      exact h _ _ _ (Fr.keep (by assumption))
theorem join_len (l : List Str) : (Txt.join (Str.ofString "") l).length ≤ (l.map (·.length)).sum := by
  unfold Txt.join
  rw [PySem.StrLaws.glued_eq_join]
  have := PySem.StrLaws.join_length_le (Str.ofString "") l
  rwa [show (Str.ofString "").length = 0 from rfl, Nat.mul_zero, Nat.add_zero] at this
theorem rowOf_len4 (x : Int) : (rowOf x).length ≤ 4 := by
  have h5 := mod5 x
  have := sum_le 1 ((List.range (Int.fmod x 5).toNat).map (sign x)) (fun z hz => by
    obtain ⟨y, hy, rfl⟩ := List.mem_map.mp hz
    rw [sign_len]; exact Nat.le_refl _)
  rw [List.length_map, List.length_range] at this
  exact Nat.le_trans (join_len _) (by omega)
theorem rowOf_len (x : Int) : (rowOf x).length ≤ 64 := Nat.le_trans (rowOf_len4 x) (by decide)
theorem join_all {P : Nat → Prop} : ∀ {l : List Str}, (∀ r ∈ l, ∀ c ∈ r.cps.toList, P c) → ∀ c ∈ (Str.join (Str.ofString "") l).cps.toList, P c
  | [], _, c, hc => absurd hc (by show ¬ c ∈ ([] : List Nat); exact List.not_mem_nil)
  | [x], h, c, hc => h x List.mem_cons_self c hc
  | x :: y :: r, h, c, hc => by
    have e : (Str.join (Str.ofString "") (x :: y :: r)).cps.toList = x.cps.toList ++ (Str.join (Str.ofString "") (y :: r)).cps.toList := by
      show ((x.cps ++ #[]) ++ (Str.join (Str.ofString "") (y :: r)).cps).toList = _
      simp
    rw [e, List.mem_append] at hc
    rcases hc with hc | hc
    · exact h x List.mem_cons_self c hc
    · exact join_all (fun z hz => h z (List.mem_cons_of_mem _ hz)) c hc
theorem rowOf_all {P : Nat → Prop} (hP : ∀ r ∈ letters, ∀ c ∈ r.cps.toList, P c) (x : Int) : ∀ c ∈ (rowOf x).cps.toList, P c := by
  unfold rowOf Txt.join
  rw [PySem.StrLaws.glued_eq_join]
  refine join_all fun r hr => ?_
  obtain ⟨y, _, rfl⟩ := List.mem_map.mp hr
  exact hP _ (sign_mem x y)
theorem rowOf_ok (x : Int) : ok (rowOf x) := (ok_iff _).mpr (rowOf_all (by decide +kernel) x)

-- part Tt_3
theorem fillTt : (PySem.Challenge.rw_dm0163_03, hd.heap_39) = (PySem.Challenge.rw_dm0163_03, hd.heap_39) := by k_fill; rfl
theorem tupKeep {h₀ h : Heap} {L a : Addr} {m : Str → Option Value} {vs : Array Value} (F : Fr h₀ L h m) (ht : IsTup h₀ a vs) : IsTup h a vs := by
  obtain ⟨o, e, r⟩ := ht
  exact ⟨o, F.keep _ _ e, r⟩
set_option hygiene false in
local macro_rules | `(tactic| walk_at "subscriptTail") => `(tactic| ((with_reducible show wpAny _ _ (subscriptTail _ _ (Value.ref _) (Value.int _ _)) _ _ _); k_dflt (refine' item_tupleT ?t ?a ?b ?c ?d ?_; (case t => exact tupKeep (by k_asm) ht0); (case a => decide); (case b => decide); (case c => rfl); (case d => rfl); k_whole)))
set_option maxHeartbeats 4000000 in
theorem text_call {prog : Program} {w : World} {dp un : Nat} {fr gd} {s : Shared} {Q : Value → Shared → Prop} {E} {p loose mean mg mb} (X : (hd.heap_39 w.params).In s.heap) (T : Top p loose mean mg mb s.heap) (hr : dp + 20 < recursionLimit)
   {rows : List Str} {vs : List Value} {l tp : Addr} (hl : s.heap.IsList l vs.toArray) (hS : StrsAre vs rows) (hn : rows.length ≤ 64) (hL : ∀ r ∈ rows, r.length ≤ 64) {a b : Int} {H x : Str} {t1 t2 t3 t4 : Tok} (ht0 : IsTup s.heap tp #[.str (d0 a) t1, .str (d0 b) t2, .str H t3, .str x t4]) (h0 : 1 ≤ a) (h1 : a ≤ b) (h2 : b < 100)
   (h : ∀ h' tk' t', Ext s.heap h' → Q (.str (cut rows a b) t') {s with heap := h', toks := tk'}) : wpAny (model prog w) (ar dp un fr gd) (call (.ref 125) [.ref l, .ref tp]) Q E s := by
  walk_at "my enter"
  walk_at "my steps"
  all_goals (try k_data)
  with_reducible rename Fr _ _ _ _ => FF
  with_reducible rename News _ _ _ _ => NN
  have hsl := slice_strs hS (a := a - 1) (b := b - 1) (by omega) (by omega)
  have hsz := strs_size' hsl
  have hle : ((rows.take (b - 1).toNat).drop (a - 1).toNat).length ≤ 64 := by rw [List.length_drop, List.length_take]; omega
  have hmem : ∀ y ∈ (rows.take (b - 1).toNat).drop (a - 1).toNat, y.length ≤ 64 := fun y hy => hL y (List.mem_of_mem_take (List.mem_of_mem_drop hy))
  refine LCg.CompSrc.ledger rfl FF NN (by k_mem) (by rw [← hsz, show sizeLine = 16777216 from rfl]; omega) (fun g => rest_map ((rows.take (b - 1).toNat).drop (a - 1).toNat) (fun y v => IsS y v) (fun y v => IsS (nl y) v) hsz (fun i v _ e => strs_at' hsl i v e) (.inr ⟨_, by k_mem, rfl, _, rfl⟩) ?turn ?fin)
  case turn =>
    intro y v I oI C oC D m₂ ys h tk E' hy hr hC hx F N off ne
    obtain ⟨t, rfl⟩ := hr
    have hyl := hmem y hy
    walk_at "my steps"
    exact ⟨_, _, rfl, by assumption, by assumption, _, rfl⟩
  case fin =>
    intro ys hys
    walk_at "my steps"
    have hst := hys.strs
    refine join_listC (ys := ((rows.take (b - 1).toNat).drop (a - 1).toNat).map nl) (News.isList (by assumption) (by k_mem)) (by simpa using hst) (by decide) ?_ ?_
    · have := sum_le 65 (((rows.take (b - 1).toNat).drop (a - 1).toNat).map nl) (fun z hz => by
        obtain ⟨y, hy, rfl⟩ := List.mem_map.mp hz
        have := hmem y hy
        unfold nl; rw [Str.length_append]; have : (Str.ofString "\n").length = 1 := rfl; omega)
      rw [List.length_map] at this ⊢
      omega
    · intro t' k
      exact h _ _ _ (Fr.keep (by assumption))

-- part Mk_3
theorem fillMk : (PySem.Challenge.rw_dm0163_03, hd.heap_39) = (PySem.Challenge.rw_dm0163_03, hd.heap_39) := by k_fill; rfl
theorem pow_le11 {a : Int} (h1 : 1 ≤ a) (h7 : a ≤ 11) (n : Nat) (hn : n < 4) : 1 ≤ a ^ n ∧ a ^ n ≤ 1331 := by
  have : ∀ b : Fin 12, ∀ n : Fin 4, 1 ≤ b.val → (1 : Int) ≤ (b.val : Int) ^ n.val ∧ (b.val : Int) ^ n.val ≤ 1331 := by decide +kernel
  have e := this ⟨a.toNat, by omega⟩ ⟨n, hn⟩ (by show 1 ≤ a.toNat; omega)
  have e2 : ((a.toNat : Nat) : Int) = a := by omega
  simp only [e2] at e
  exact e
section
variable {prog : Program} {w : World} {A : Around} {Q E : Value → Shared → Prop} {s : Shared} {a b n : Int} {t u : Tok}
theorem pow11 (hn : 0 ≤ n) (hn2 : n < 4) (ha : 1 ≤ a) (ha2 : a ≤ 11) (h : ∀ x k', x = a ^ n.toNat ∧ 1 ≤ x ∧ x ≤ 1331 → Q (.int x k') { s with toks := k' + 1 }) :
    wpAny (model prog w) A (binaryOp .Pow (.int a t) (.int n u)) Q E s :=
  pow_int_small hn (by omega) (by omega) (h _ _ ⟨rfl, pow_le11 ha ha2 _ (by omega)⟩)
theorem fdiv11 (h1 : 1 ≤ b) (h2 : b ≤ 30000) (h : ∀ k', Q (.int (a.fdiv b) k') { s with toks := k' + 1 }) :
    wpAny (model prog w) A (binaryOp .FloorDiv (.int a t) (.int b u)) Q E s :=
  floordiv_int (by omega) (h _) (Or.inl (PyProof.noPylong_small (by omega)))
theorem fmod11 (h1 : 1 ≤ b) (h2 : b ≤ 11) (h : ∀ x k', x = Int.fmod a b ∧ 0 ≤ x ∧ x < b → Q (.int x k') { s with toks := k' + 1 }) :
    wpAny (model prog w) A (binaryOp .Mod (.int a t) (.int b u)) Q E s :=
  mod_int (by omega) (h _ _ ⟨rfl, Int.fmod_nonneg_of_pos _ (by omega), Int.fmod_lt_of_pos _ (by omega)⟩)
end
local macro_rules | `(tactic| walk_at "binaryOp Pow int int") => `(tactic| ((refine pow11 (by omega) (by omega) (by omega) (by omega) ?_); intro x' k' hx'))
local macro_rules | `(tactic| walk_at "binaryOp FloorDiv int int") => `(tactic| ((refine fdiv11 (by omega) (by omega) ?_); intro k'))
local macro_rules | `(tactic| walk_at "binaryOp Mod int int") => `(tactic| ((refine fmod11 (by omega) (by omega) ?_); intro x' k' hx'))
def markOf (sc : List Int) (c : Int) (k : Nat) : Int := Int.fmod (Int.fdiv (Int.fdiv sc.sum 25920) (c ^ k) + Int.fdiv ((k : Int) * c) 4) c
theorem markOf_in {sc : List Int} {c : Int} {k : Nat} (h : 1 ≤ c) : 0 ≤ markOf sc c k ∧ markOf sc c k < c := ⟨Int.fmod_nonneg_of_pos _ (by omega), Int.fmod_lt_of_pos _ (by omega)⟩
set_option maxHeartbeats 4000000 in
theorem marks_call {dp un : Nat} {prog : Program} {w : World} {fr gd} {s : Shared} {Q : Value → Shared → Prop} {E} {p loose mean mg mb} (X : (hd.heap_39 w.params).In s.heap) (T : Top p loose mean mg mb s.heap) (hr : dp + 20 < recursionLimit)
   {sc : List Int} {vs : List Value} {sl : Addr} {c : Int} {t : Tok} (hl : s.heap.IsList sl vs.toArray) (hI : IntsAre vs sc) (hn : sc.length ≤ 63) (c1 : 1 ≤ c) (c2 : c ≤ 11)
   (h : ∀ h' tk' D zs, Ext s.heap h' → h'.get? D = some (LCg.lst zs) → s.heap.get? D = none → IntsAre zs ((List.range 4).map (markOf sc c)) → Q (.ref D) {s with heap := h', toks := tk'}) : wpAny (model prog w) (ar dp un fr gd) (call (.ref 120) [.ref sl, .int c t]) Q E s := by
  refine' enterK (K := hd.heap_39 w.params) X T.nolimit ?k6 ?k7 (by omega) ?k9 ?kB ?kD ?c2 ?c3 ?c4 ?_
  case k6 => k_is
  case k7 => k_is
  case k9 => exact BindsTo.of_eq rfl
  case kB => exact rfl
  case kD => decide +kernel
  case c2 => rfl
  case c3 => rfl
  case c4 => rfl
  intro L h1 tk1 fr1 cells F N Y
  k_cells Y
  (try simp only [List.cons_append, List.nil_append] at N)
  refine id ?_
  (try dsimp only)
  walk_at "my steps"
  all_goals (try k_data)
  with_reducible rename Fr _ _ _ _ => Fc
  with_reducible rename News _ _ _ _ => NN
  rename IsRange _ _ _ _ _ _ _ _ => hR
  refine LCg.CompSrc.range rfl Fc NN hR (small_one (by omega) (by omega) (by omega) (by omega)) (n := 4) (by rw [rangeSize_nat]; omega) (by rw [show sizeLine = 16777216 from rfl]; omega) (fun g => rest_map (List.range 4) (fun j v => IsI (j : Int) v) (fun j v => IsI (markOf sc c j) v) List.length_range (fun i v hi e => ⟨i, List.getElem?_range hi, by obtain ⟨t, e⟩ := e; rw [Int.zero_add] at e; exact ⟨t, e⟩⟩) True.intro ?turn ?fin)
  case turn =>
    intro j v I oI C oC D m₂ ys h tk E' hj hr hC hx F N off ne
    obtain ⟨t, rfl⟩ := hr
    rw [List.mem_range] at hj
    walk_at "my steps"
    all_goals (try k_data)
    rename _ = c ^ _ ∧ _ => hx1
    rename _ = Int.fmod _ c ∧ _ => hx2
    rename _ = (6 : Int) ^ _ ∧ _ => hx6
    obtain ⟨rfl, _⟩ := hx1
    obtain ⟨rfl, _⟩ := hx2
    obtain ⟨rfl, _⟩ := hx6
    exact ⟨_, _, rfl, by assumption, by assumption, _, rfl⟩
  case fin =>
    intro ys hys
    have hst := hys.ints
    walk_at "my steps"
    all_goals (try k_data)
    with_reducible rename Fr _ _ _ _ => Fz
    with_reducible rename News _ _ _ _ => Nz
    exact h _ _ _ _ Fz.keep (Nz _ (.head _)).1 (Nz _ (.head _)).2.2 hst

-- part Pu_3
/-- what stands behind the header -/
noncomputable def tailOf (x : Str) : Str := Txt.slice x (some ((hdr x).length : Int)) none
theorem tailOf_eq (x : Str) : tailOf x = ⟨x.cps.extract (hlen x.cps) x.length⟩ := by
  unfold tailOf
  rw [hdr_len]
  exact slice_from x _ (hlen_le x)
theorem hdr_tail (x : Str) : hdr x ++ tailOf x = x := by
  rw [tailOf_eq, hdr_eq]
  have h := hlen_le x
  obtain ⟨c⟩ := x
  show PySem.Str.mk (c.extract 0 (hlen c) ++ c.extract (hlen c) c.size) = ⟨c⟩
  congr 1
  rw [Array.extract_append_extract]
  have h2 : hlen c ≤ c.size := h
  simp
  omega
theorem full_tail (x : Str) : full x = !isWs (tailOf x) := rfl
theorem ws_parts (x : Str) : isWs x = (isWs (hdr x) && !full x) := by
  have h : isWs (hdr x ++ tailOf x) = (isWs (hdr x) && isWs (tailOf x)) := ws_append _ _
  rw [hdr_tail] at h
  rw [h, full_tail, Bool.not_not]
/-- two rows of one kind -/
def Kin (x y : Str) : Prop := hdr x = hdr y ∧ full x = full y
theorem Kin.ws {x y : Str} (h : Kin x y) : isWs x = isWs y := by rw [ws_parts x, ws_parts y, h.1, h.2]
theorem Kin.good {x y H : Str} (h : Kin x y) : Good H x ↔ Good H y := by rw [good_iff, good_iff, h.1, h.2]
theorem fp_kin {rows anew : List Str} (hlen : rows.length = anew.length) (hk : ∀ j, Kin (lineAt rows j) (lineAt anew j)) {mark f l : Int} {H : Str} (h : FP rows mark f l H) : FP anew mark f l H := by
  obtain ⟨k, ⟨s1, s2, s3⟩, e, g, r⟩ := h
  refine ⟨k, ⟨s1, fun j h1 h2 => ?_, fun q => s3 ?_⟩, ?_, ?_, ?_⟩
  · have := s2 j h1 h2
    rw [← hlen, ← (hk j).ws]; exact this
  · rw [hlen, (hk k).ws]; exact q
  · rw [e]; exact (hk k).1
  · unfold Grow at g ⊢
    simp only [← (hk _).good]
    exact g
  · unfold Shrink at r ⊢
    simp only [← (hk _).good]
    exact r
theorem lineAt_kin {rows anew : List Str} (h : All2 Kin rows anew) : ∀ j, Kin (lineAt rows j) (lineAt anew j) := by
  intro j
  have hl := h.len
  by_cases hj : 0 < j ∧ j ≤ (rows.length : Int)
  · obtain ⟨b, e⟩ := lineAt_get (rows := rows) (j := j) (by omega) hj.2
    obtain ⟨b', e'⟩ := lineAt_get (rows := anew) (j := j) (by omega) (by omega)
    obtain ⟨y, q1, q2⟩ := h.at _ _ (List.getElem?_eq_getElem b)
    rw [List.getElem?_eq_getElem b'] at q1
    injection q1 with q1
    rw [e, e', q1]; exact q2
  · rw [show lineAt rows j = Str.empty from if_neg hj, show lineAt anew j = Str.empty from if_neg (by rw [hl]; exact hj)]
    exact ⟨rfl, rfl⟩
/-- a word that does not lengthen a header -/
def wordOk (w : Str) : Bool := (w.length == 0) || (!Rx.isBT (w.cps.getD 0 0) && !(w.cps.getD 0 0 == 35))
theorem hlen_word {x w : Str} (hw : wordOk w = true) : hlen (hdr x ++ w).cps = hlen x.cps := by
  obtain ⟨l1, k, a1, a2, a3, a4, a5⟩ := hlen_head x.cps
  have e : (hdr x ++ w).cps = x.cps.extract 0 (hlen x.cps) ++ w.cps := by rw [hdr_eq]; rfl
  have hsz : (x.cps.extract 0 (hlen x.cps)).size = hlen x.cps := by rw [Array.size_extract]; omega
  have get1 : ∀ j, j < hlen x.cps → (hdr x ++ w).cps.getD j 0 = x.cps.getD j 0 := by
    intro j hj
    rw [e]
    have hjx : j < x.cps.size := by omega
    simp [Array.getD_eq_getD_getElem?, Array.getElem?_append, hsz, hj, hjx]
  have get2 : (hdr x ++ w).cps.getD (hlen x.cps) 0 = w.cps.getD 0 0 := by
    rw [e]
    simp [Array.getD_eq_getD_getElem?, Array.getElem?_append, hsz]
  have hs : (hdr x ++ w).cps.size = hlen x.cps + w.cps.size := by rw [e, Array.size_append, hsz]
  have hw0 : hlen x.cps < (hdr x ++ w).cps.size → Rx.isBT (w.cps.getD 0 0) = false ∧ (w.cps.getD 0 0 == 35) = false := by
    intro h
    have hl : w.length ≠ 0 := by show w.cps.size ≠ 0; omega
    unfold wordOk at hw
    simpa [hl] using hw
  refine head_uniq (hlen_head _) ⟨by omega, k, a1, fun j hj => ?_, fun hk => ?_, fun j h1 h2 => ?_, fun hn => ?_⟩
  · rw [get1 j (by omega)]; exact a2 j hj
  · by_cases q : k < hlen x.cps
    · rw [get1 k q]; exact a3 (by omega)
    · have : k = hlen x.cps := by omega
      rw [this, get2]; exact (hw0 (by omega)).1
  · rw [get1 j h2]; exact a4 j h1 h2
  · rw [get2]; exact (hw0 hn).2
theorem kin_word {x w : Str} (hw : wordOk w = true) (hf : full x = !isWs w) : Kin x (hdr x ++ w) := by
  have hl := hlen_word (x := x) hw
  have hsz : (x.cps.extract 0 (hlen x.cps)).size = hlen x.cps := by have := hlen_le x; have : hlen x.cps ≤ x.cps.size := this; rw [Array.size_extract]; omega
  have e : (hdr x ++ w).cps = x.cps.extract 0 (hlen x.cps) ++ w.cps := by rw [hdr_eq]; rfl
  have h1 : hdr (hdr x ++ w) = hdr x := by
    rw [hdr_eq (hdr x ++ w), hl, hdr_eq x]
    congr 1
    show ((x.cps.extract 0 (hlen x.cps)) ++ w.cps).extract 0 (hlen x.cps) = _
    have hle : hlen x.cps ≤ x.cps.size := hlen_le x
    rw [Array.extract_append, hsz]
    simp
  have h2 : tailOf (hdr x ++ w) = w := by
    rw [tailOf_eq, hl]
    obtain ⟨c⟩ := w
    congr 1
    show (hdr x ++ ⟨c⟩ : Str).cps.extract (hlen x.cps) (hdr x ++ ⟨c⟩ : Str).cps.size = c
    rw [e, Array.extract_append]
    simp [hsz]
    omega
  exact ⟨h1.symm, by rw [hf, full_tail, h2]⟩

-- part Ts_3
section
variable {prog : Program} {w : World} {A : Around} {E : Value → Shared → Prop} {s : Shared} {h₀ : Heap} {L : Addr} {m : Str → Option Value} {news : List (Addr × Obj)} {Q : Value → Shared → Prop}
theorem sliceApplied_03 {sl : Addr} {v : Tok} {Q : Int × Int × Nat → Shared → Prop} (hs : s.heap.IsSliceOf sl .none (.int 3 v) .none) (h : Q ((0 : Int), 1, 3) s) :
    wpAny (model prog w) A (Builtin.Slice.sliceApplied (.ref sl) (pure (4 : Int))) Q E s := by
  obtain ⟨os, hos, hcs, hds⟩ := id hs
  unfold Builtin.Slice.sliceApplied Builtin.Slice.sliceFields
  refine wpAny_bind (wpAny_bind (wpAny_field hos hds (x := .none) rfl (wpAny_bind (wpAny_field hos hds (x := .int 3 v) rfl (wpAny_bind (wpAny_field hos hds (x := .none) rfl (wpAny_pure ?_)))))))
  refine wpAny_bind (slicePart_none ?_)
  show wpAny _ _ (if ((1 : Int) == 0) = true then _ else _) _ _ s
  rw [if_neg (by decide)]
  refine wpAny_bind (slicePart_none (wpAny_bind (slicePart_int (wpAny_bind (wpAny_pure ?_)))))
  exact wpAny_pure h
theorem getItem_03 {t sl : Addr} {v1 v2 v3 v4 : Value} {v : Tok} (ht : IsTup s.heap t #[v1, v2, v3, v4]) (hs : s.heap.IsSliceOf sl .none (.int 3 v) .none)
    (h : Q (.ref s.heap.objs.size) { s with heap := s.heap.push { cls := .type "tuple", data := .seq #[v1, v2, v3] } }) : wpAny (model prog w) A (getItem (.ref t) (.ref sl)) Q E s := by
  have hdrop : sizeOk (.seq #[v1, v2, v3]) := by show (3 : Nat) ≤ sizeLine; decide
  obtain ⟨os, hos, hcs, hds⟩ := id hs
  have hTs : s.TypeIs (.ref sl) "slice" := ⟨os, hos, hcs⟩
  unfold getItem
  try with_reducible refine wpAny_holding ?_
  first | refine wpAny_bind (wpAny_pure ?_) | skip
  refine wpAny_bind (wpAny_sequenceKey ht.typeIs (by decide) ?_)
  refine wpAny_bind (wpAny_callSpecial?_slot (name := Str.ofString "__getitem__") ht.typeIs slot_tuple_getitem
    (wpAny_call_entry slot_tuple_getitem ht.typeIs entry_tuple_getitem ?_ (args_tuple_getitem _ _)))
  show wpAny _ _ (Builtin.Tuple.tupleItemsOf (.ref t) >>= _) _ _ s
  refine wpAny_bind (tupleItemsOf_ ht ?_)
  refine wpAny_bind (wpAny_typeOf hTs ?_)
  rw [if_pos (by decide)]
  refine wpAny_bind (sliceApplied_03 hs ?_)
  first
    | exact wpAny_bind (m := Builtin.Tuple.tupleExact _) (wpAny_newObj_type (wpAny_pure ⟨_, rfl, wpAny_pure h⟩) hdrop)
    | exact wpAny_bind (m := Builtin.Tuple.tupleExact _) (wpAny_newObj_type (wpAny_bind (wpAny_pure (wpAny_pure ⟨_, rfl, wpAny_pure h⟩))) hdrop)
    | exact wpAny_bind (wpAny_bind (m := Builtin.Tuple.tupleExact _) (wpAny_newObj_type (wpAny_pure (wpAny_pure ⟨_, rfl, wpAny_pure h⟩)) hdrop))
    | exact wpAny_bind (wpAny_bind (m := Builtin.Tuple.tupleExact _) (wpAny_newObj_type (wpAny_pure ⟨_, rfl, wpAny_pure h⟩) hdrop))
theorem slice_03 {value slice : Expr} {t : Addr} {v1 v2 v3 v4 : Value} {v : Tok} (F : Fr h₀ L s.heap m) (N : News h₀ L s.heap news) (ht : IsTup s.heap t #[v1, v2, v3, v4])
    (h : ∀ D h', Fr h₀ L h' m → News h₀ L h' ((D, { cls := .type "tuple", data := .seq #[v1, v2, v3] }) :: news) → (∀ p ∈ news, p.1 < D) → Q (.ref D) { s with heap := h' })
    (hs : subscripted slice false (.ref t) (.ref s.heap.objs.size) = operate [.ref s.heap.objs.size, .ref t] (getItem (.ref t) (.ref s.heap.objs.size)) := by with_unfolding_all rfl)
    (hg : ∀ r, letTemporaryGo value (.ref t) r = pure () := by intro _; with_unfolding_all rfl) :
    wpAny (model prog w) A (subscriptTail value slice (.ref t) (.ref s.heap.objs.size)) Q E { s with heap := s.heap.push { cls := .type "slice", data := .fields #[.none, .int 3 v, .none] } } := by
  have ht' : IsTup (s.heap.push { cls := .type "slice", data := .fields #[.none, .int 3 v, .none] }) t #[v1, v2, v3, v4] := ht.keeps fun _ _ e => Heap.get?_push_of_some _ e
  refine subscriptTail_ops (s := { s with heap := s.heap.push { cls := .type "slice", data := .fields #[.none, .int 3 v, .none] } }) ht'.typeIs slot_tuple_getitem.lookup
    (getItem_03 ht' (Heap.IsSliceOf.new ..) ?_) hs hg
  have N1 := News.push (F.push { cls := .type "slice", data := .fields #[.none, .int 3 v, .none] }) (N.grown fun _ _ e => Heap.get?_push_of_some _ e) { cls := .type "tuple", data := .seq #[v1, v2, v3] }
  refine h _ _ ((F.push _).push _) N1 fun p hp => ?_
  rw [Heap.size_push]
  exact Nat.lt_succ_of_lt (Heap.lt_size (N p hp).1)
end

-- part Za_3
theorem fillZa : (PySem.Challenge.rw_dm0163_03, hd.heap_39) = (PySem.Challenge.rw_dm0163_03, hd.heap_39) := by k_fill; rfl
def fnBody : Option Stmt → List Stmt
  | some (.FunctionDef _ _ body _ _ _ _ _ _ _) => body
  | _ => []
def fnScope : Option Stmt → Scope
  | some (.FunctionDef _ _ _ _ _ _ sc _ _ _) => sc
  | _ => PySem.Challenge.pw_dm0163_03.main.scope
def forBody' : Option Stmt → List Stmt
  | some (.For _ _ b _ _) => b
  | _ => []
def pass : Stmt := .Pass ⟨0, 0, 0, 0⟩
def lawFn : Option Stmt := PySem.Challenge.pw_dm0163_03.main.body[15]?
def lawBody : List Stmt := fnBody lawFn
def lawAt (n : Nat) : Stmt := (lawBody[n]?).getD pass
def buildFor : List Stmt := forBody' (lawBody[1]?)
def buildAt (n : Nat) : Stmt := (buildFor[n]?).getD pass
def turnFor : List Stmt := forBody' (lawBody[3]?)
def turnAt (n : Nat) : Stmt := (turnFor[n]?).getD pass
def lawEnv (L : Addr) : Env := envOfC (Str.ofString "law") (fnScope lawFn) L 130 (.ref 129)
theorem lawBody_eq : lawBody = [lawAt 0, lawAt 1, lawAt 2, lawAt 3, lawAt 4] := rfl
theorem buildFor_eq : buildFor = [buildAt 0, buildAt 1, buildAt 2, buildAt 3, buildAt 4, buildAt 5, buildAt 6, buildAt 7, buildAt 8] := rfl
theorem turnFor_eq : turnFor = [turnAt 0, turnAt 1, turnAt 2, turnAt 3, turnAt 4, turnAt 5, turnAt 6, turnAt 7] := rfl
local macro_rules | `(tactic| walk_at "law open") => `(tactic| ((dsimp only [lawAt, buildAt, turnAt, buildFor, turnFor, lawBody, lawFn, lawEnv, fnBody, fnScope, forBody', PySem.Challenge.pw_dm0163_03, List.getElem?_cons_succ, List.getElem?_cons_zero, Option.getD_some]); (refine id ?_); (try dsimp only)))
set_option hygiene false in
local macro_rules | `(tactic| walk_at "call ref") => `(tactic| (k_dflt (refine row_call (by k_in) (Top.keeps (by assumption) (Fr.keep (by assumption))) (by omega) ?_); intro h' tk' t' he; (have F' := frExt (by assumption) he); (have N' := newsExt (by assumption) he); (try k_sweep)))
local macro_rules | `(tactic| walk_at "my len") => `(tactic| (with_reducible refine Nat.le_trans (m := 64) ?kl1 ?kl2; (case kl1 => with_reducible assumption); (case kl2 => decide)))
section
variable {prog : Program} {w : World} {dp un : Nat} {fr : Option (List Env)} {gd : Option (List Code)} {s : Shared} {h₀ : Heap} {p : Program} {loose : List Str} {mean : ExcName → Option Value} {mg mb : Str → Option Value} {L : Addr} {h : Heap} {tk : Nat} {m : Str → Option Value} {news : List (Addr × Obj)} {x : Int} {t : Tok} {al : Addr}
set_option maxHeartbeats 4000000 in
theorem b0 (X : (hd.heap_39 w.params).In h₀) (T : Top p loose mean mg mb h₀) (hr : dp + 80 < recursionLimit) (F : Fr h₀ L h m) (q1 : m (Str.ofString "x") = some (.int x t)) (q2 : m (Str.ofString "anew") = some (.ref al)) (q3 : m (Str.ofString "script") = some v3) (N : News h₀ L h news) :
    wpAny (model prog w) (ar dp un fr gd) (exec (buildAt 0) (lawEnv L)) (St h₀ L s (fun m' news' => m' (Str.ofString "x") = some (.int x t) ∧ m' (Str.ofString "anew") = some (.ref al) ∧ m' (Str.ofString "script") = some v3 ∧ (∃ t1, m' (Str.ofString "row") = some (.str (rowOf x) t1)) ∧ news' = news)) (fun _ _ => False) { s with heap := h, toks := tk } := by
  walk_at "law open"
  walk_at "my steps"
  all_goals (try k_data)
  with_reducible rename Fr _ _ _ _ => Fn
  with_reducible rename News _ _ _ _ => Nn
  exact stMk Fn Nn _ (fun p hp => hp) ⟨q1, q2, q3, ⟨_, rfl⟩, rfl⟩
set_option maxHeartbeats 4000000 in
theorem b1 (X : (hd.heap_39 w.params).In h₀) (T : Top p loose mean mg mb h₀) (hr : dp + 80 < recursionLimit) (F : Fr h₀ L h m) (q1 : m (Str.ofString "x") = some (.int x t)) (q2 : m (Str.ofString "anew") = some (.ref al)) (q3 : m (Str.ofString "script") = some v3) {row : Str} {t1 : Tok} (hlen : row.length ≤ 64) (q4 : m (Str.ofString "row") = some (.str row t1)) (N : News h₀ L h news) :
    wpAny (model prog w) (ar dp un fr gd) (exec (buildAt 1) (lawEnv L)) (St h₀ L s (fun m' news' => m' (Str.ofString "x") = some (.int x t) ∧ m' (Str.ofString "anew") = some (.ref al) ∧ m' (Str.ofString "script") = some v3 ∧ (m' (Str.ofString "row") = some (.str row t1)) ∧ (∃ t2, m' (Str.ofString "header") = some (.str (hdr row) t2)) ∧ news' = news)) (fun _ _ => False) { s with heap := h, toks := tk } := by
  walk_at "law open"
  walk_at "my steps"
  all_goals (try k_data)
  with_reducible rename Fr _ _ _ _ => Fn
  with_reducible rename News _ _ _ _ => Nn
  exact stMk Fn Nn _ (fun p hp => hp) ⟨q1, q2, q3, q4, ⟨_, rfl⟩, rfl⟩
set_option maxHeartbeats 4000000 in
theorem b2 (X : (hd.heap_39 w.params).In h₀) (T : Top p loose mean mg mb h₀) (hr : dp + 80 < recursionLimit) (F : Fr h₀ L h m) (q1 : m (Str.ofString "x") = some (.int x t)) (q2 : m (Str.ofString "anew") = some (.ref al)) (q3 : m (Str.ofString "script") = some v3) {row H : Str} {t1 t2 : Tok} (hlen : row.length ≤ 64) (hlH : H.length ≤ 64) (q4 : m (Str.ofString "row") = some (.str row t1)) (q5 : m (Str.ofString "header") = some (.str H t2)) (N : News h₀ L h news) :
    wpAny (model prog w) (ar dp un fr gd) (exec (buildAt 2) (lawEnv L)) (St h₀ L s (fun m' news' => m' (Str.ofString "x") = some (.int x t) ∧ m' (Str.ofString "anew") = some (.ref al) ∧ m' (Str.ofString "script") = some v3 ∧ (m' (Str.ofString "row") = some (.str row t1)) ∧ (m' (Str.ofString "header") = some (.str H t2)) ∧ (∃ t3, m' (Str.ofString "rest") = some (.str (Txt.slice row (some (H.length : Int)) none) t3)) ∧ news' = news)) (fun _ _ => False) { s with heap := h, toks := tk } := by
  walk_at "law open"
  walk_at "my steps"
  all_goals (try k_data)
  with_reducible rename Fr _ _ _ _ => Fn
  with_reducible rename News _ _ _ _ => Nn
  exact stMk Fn Nn _ (fun p hp => hp) ⟨q1, q2, q3, q4, q5, ⟨_, rfl⟩, rfl⟩
set_option maxHeartbeats 4000000 in
theorem b3 (X : (hd.heap_39 w.params).In h₀) (T : Top p loose mean mg mb h₀) (hr : dp + 80 < recursionLimit) (F : Fr h₀ L h m) {row H rest : Str} {t1 t2 t3 : Tok} (hlen : row.length ≤ 64) (hlH : H.length ≤ 64) (hlT : rest.length ≤ 64) (q4 : m (Str.ofString "row") = some (.str row t1)) (q5 : m (Str.ofString "header") = some (.str H t2)) (q6 : m (Str.ofString "rest") = some (.str rest t3)) (e1 : H ++ rest = row) (e2 : Txt.stripChars (Txt.lstripChars H (Str.ofString " \t")) (Str.ofString "#") = Str.ofString "") (N : News h₀ L h news) :
    wpAny (model prog w) (ar dp un fr gd) (exec (buildAt 3) (lawEnv L)) (St h₀ L s (fun m' news' => m' = m ∧ news' = news)) (fun _ _ => False) { s with heap := h, toks := tk } := by
  walk_at "law open"
  walk_at "my steps"
  all_goals (try k_data)
  · rename (_ != _) = true => hq
    rw [e1] at hq
    simp at hq
  · rename (_ != _) = true => hq
    rw [e2] at hq
    simp at hq
  · walk_at "my stay"
set_option maxHeartbeats 4000000 in
theorem b4 (X : (hd.heap_39 w.params).In h₀) (T : Top p loose mean mg mb h₀) (hr : dp + 80 < recursionLimit) (F : Fr h₀ L h m) {H rest : Str} {t2 t3 : Tok} (hlH : H.length ≤ 64) (hlT : rest.length ≤ 64) (q5 : m (Str.ofString "header") = some (.str H t2)) (q6 : m (Str.ofString "rest") = some (.str rest t3)) (e3 : (Txt.slice rest none (some 1) == Str.ofString "#") = false) (e4 : (Builtin.Str.occurrences H (Str.ofString "#") 0 H.length 1).isEmpty = true → ([Str.ofString " ", Str.ofString "\t"].any fun y => y == Txt.slice rest none (some 1)) = false) (N : News h₀ L h news) :
    wpAny (model prog w) (ar dp un fr gd) (exec (buildAt 4) (lawEnv L)) (St h₀ L s (fun m' news' => m' = m ∧ news' = news)) (fun _ _ => False) { s with heap := h, toks := tk } := by
  walk_at "law open"
  walk_at "my steps"
  all_goals (try k_data)
  all_goals first | walk_at "my stay" | (exfalso; (rename List.any _ _ = true => hq); rw [e4 (by with_reducible assumption)] at hq; cases hq)
end

-- part Pz_3
theorem strip_all {goes : Nat → Bool} {x : PySem.Str} (h : ∀ k, k < x.length → goes (x.cps.getD k 0) = true) : Txt.stripBy goes true true x = PySem.Str.ofString "" := by
  rw [PyProof.Rows.stripBy_eq]
  obtain ⟨a1, a2, a3⟩ := lo_facts goes x
  obtain ⟨b1, b2, b3, b4⟩ := hi_facts goes x _ a1
  generalize stripLo goes true x = lo at *
  generalize stripHi goes true x lo = hi at *
  have hs : x.length = x.cps.size := rfl
  have : hi = lo := by
    rcases b4 with q | q
    · exact q
    · by_cases q2 : lo < hi
      · rw [h (hi - 1) (by omega)] at q; cases q
      · omega
  subst this
  show PySem.Str.mk (x.cps.extract hi hi) = PySem.Str.mk #[]
  congr 1
  simp
  omega
theorem first_eq (y : Str) : Txt.slice y none (some 1) = ⟨y.cps.extract 0 1⟩ := by
  by_cases h : 1 ≤ y.length
  · exact slice_to y 1 h
  · obtain ⟨c⟩ := y
    have : c.size = 0 := by have : ¬ 1 ≤ c.size := h; omega
    have e : c = #[] := Array.eq_empty_of_size_eq_zero this
    subst e
    decide +kernel
theorem first_char {y : Str} {c : Nat} (h : (⟨y.cps.extract 0 1⟩ : Str) = ⟨#[c]⟩) : 0 < y.cps.size ∧ y.cps.getD 0 0 = c := by
  injection h with h
  have hs := congrArg Array.size h
  rw [Array.size_extract] at hs
  have h1 : 0 < y.cps.size := by
    have : (#[c] : Array Nat).size = 1 := rfl
    omega
  refine ⟨h1, ?_⟩
  have hg := congrArg (fun a => a.getD 0 0) h
  try dsimp only at hg
  rw [getD_extract _ _ _ _ (by omega) (by omega)] at hg
  exact hg
theorem tail_char {x : Str} {c : Nat} (h : Txt.slice (tailOf x) none (some 1) = ⟨#[c]⟩) : hlen x.cps < x.cps.size ∧ x.cps.getD (hlen x.cps) 0 = c := by
  rw [first_eq] at h
  obtain ⟨h1, h2⟩ := first_char h
  rw [tailOf_eq] at h1 h2
  dsimp only at h1 h2
  have hl := hlen_le x
  have hs : x.length = x.cps.size := rfl
  rw [Array.size_extract] at h1
  rw [getD_extract _ _ _ _ (by omega) (by omega)] at h2
  exact ⟨by omega, h2⟩
theorem tail_hash (x : Str) : (Txt.slice (tailOf x) none (some 1) == Str.ofString "#") = false := by
  cases q : (Txt.slice (tailOf x) none (some 1) == Str.ofString "#") with
  | false => rfl
  | true =>
    have e : Txt.slice (tailOf x) none (some 1) = ⟨#[35]⟩ := eq_of_beq q
    obtain ⟨h1, h2⟩ := tail_char e
    obtain ⟨_, k, _, _, _, _, a5⟩ := hlen_head x.cps
    have := a5 h1
    rw [h2] at this; cases this
theorem hdr_size (x : Str) : (hdr x).cps.size = hlen x.cps := hdr_len x
theorem hdr_getD (x : Str) {j : Nat} (h : j < hlen x.cps) : (hdr x).cps.getD j 0 = x.cps.getD j 0 := by
  rw [hdr_eq]
  have hl := hlen_le x
  have hs : x.length = x.cps.size := rfl
  dsimp only
  rw [getD_extract _ _ _ _ (by omega) (by omega), Nat.zero_add]
theorem tail_blank (x : Str) (h : (Builtin.Str.occurrences (hdr x) (Str.ofString "#") 0 (hdr x).length 1).isEmpty = true) : ([Str.ofString " ", Str.ofString "\t"].any fun y => y == Txt.slice (tailOf x) none (some 1)) = false := by
  have hf := PySem.StrLaws.found_one (hdr x) 35
  rw [show (⟨#[35]⟩ : Str) = Str.ofString "#" from rfl, h] at hf
  have hno : ¬ 35 ∈ (hdr x).cps.toList := by
    intro q
    rw [decide_eq_true q] at hf
    cases hf
  obtain ⟨_, k, a1, a2, a3, a4, a5⟩ := hlen_head x.cps
  have hk : k = hlen x.cps := by
    rcases Nat.lt_or_ge k (hlen x.cps) with q | q
    · exfalso
      apply hno
      have e := a4 k (Nat.le_refl _) q
      rw [← hdr_getD x q, beq_iff_eq] at e
      have hlt : k < (hdr x).cps.size := by rw [hdr_size]; exact q
      rw [Array.getD_eq_getD_getElem?, Array.getElem?_eq_getElem hlt] at e
      rw [← e]
      exact Array.mem_toList_iff.mpr (Array.getElem_mem hlt)
    · omega
  cases q : ([Str.ofString " ", Str.ofString "\t"].any fun y => y == Txt.slice (tailOf x) none (some 1)) with
  | false => rfl
  | true =>
    exfalso
    rw [List.any_cons, List.any_cons, List.any_nil, Bool.or_false, Bool.or_eq_true] at q
    have hc : hlen x.cps < x.cps.size ∧ Rx.isBT (x.cps.getD (hlen x.cps) 0) = true := by
      rcases q with q | q
      · have e : Txt.slice (tailOf x) none (some 1) = ⟨#[32]⟩ := (eq_of_beq q).symm
        obtain ⟨h1, h2⟩ := tail_char e
        rw [h2]; exact ⟨h1, by decide⟩
      · have e : Txt.slice (tailOf x) none (some 1) = ⟨#[9]⟩ := (eq_of_beq q).symm
        obtain ⟨h1, h2⟩ := tail_char e
        rw [h2]; exact ⟨h1, by decide⟩
    have := a3 (by omega)
    rw [hk, hc.2] at this; cases this
theorem hdr_strip (x : Str) : Txt.stripChars (Txt.lstripChars (hdr x) (Str.ofString " \t")) (Str.ofString "#") = Str.ofString "" := by
  unfold Txt.lstripChars Txt.stripChars
  obtain ⟨a, a1, e1, b2, b3⟩ := lstripBy (PySem.Str.ofString " \t").cps.contains (hdr x)
  rw [e1]
  obtain ⟨_, k, k1, k2, k3, k4, k5⟩ := hlen_head x.cps
  have hsz : (hdr x).length = hlen x.cps := hdr_len x
  refine strip_all fun j hj => ?_
  have hj' : j < hlen x.cps - a := by
    have : j < ((hdr x).cps.extract a (hdr x).length).size := hj
    rw [Array.size_extract] at this
    have h2 : (hdr x).length = (hdr x).cps.size := rfl
    omega
  rw [hash_goes]
  dsimp only
  have h2 : (hdr x).length = (hdr x).cps.size := rfl
  rw [getD_extract _ _ _ _ (by omega) (by omega), hdr_getD x (by omega)]
  have hak : k ≤ a := by
    rcases Nat.lt_or_ge a k with q | q
    · have := b3 (by omega)
      rw [bt_goes, hdr_getD x (by omega), k2 a q] at this; cases this
    · exact q
  exact k4 (a + j) (by omega) (by omega)
/-- the words behind a header -/
def wordsOf (white : Bool) : List Str := if white then [Str.ofString "", Str.ofString "\x0c"] else [Str.ofString "x", Str.ofString "y #", Str.ofString "\x0cz ", Str.ofString "v w"]
def wordOf (white : Bool) (x : Int) : Str := (wordsOf white).getD (Int.fmod (Int.fdiv x 6480) ((wordsOf white).length : Int)).toNat Str.empty
theorem words_len (white : Bool) : 2 ≤ (wordsOf white).length ∧ (wordsOf white).length ≤ 4 := by cases white <;> decide
theorem wordOf_mem (white : Bool) (x : Int) : wordOf white x ∈ wordsOf white := by
  unfold wordOf
  have hl := words_len white
  have h0 := Int.fmod_nonneg_of_pos (Int.fdiv x 6480) (b := ((wordsOf white).length : Int)) (by omega)
  have h1 := Int.fmod_lt_of_pos (Int.fdiv x 6480) (b := ((wordsOf white).length : Int)) (by omega)
  have hlt : (Int.fmod (Int.fdiv x 6480) ((wordsOf white).length : Int)).toNat < (wordsOf white).length := by omega
  rw [List.getD_eq_getElem?_getD, List.getElem?_eq_getElem hlt]
  exact List.getElem_mem hlt
theorem word_facts : ∀ white : Bool, ∀ v ∈ wordsOf white, wordOk v = true ∧ Rx.isW v.cps = white ∧ v.length ≤ 3 ∧ PyData.strOk v = true := by decide +kernel
noncomputable def anewOf (x : Int) : Str := hdr (rowOf x) ++ wordOf (isWs (tailOf (rowOf x))) x
theorem anew_kin (x : Int) : Kin (rowOf x) (anewOf x) := by
  obtain ⟨h1, h2, _⟩ := word_facts _ _ (wordOf_mem (isWs (tailOf (rowOf x))) x)
  refine kin_word h1 ?_
  rw [full_tail, isWs_eq (wordOf _ _), h2]
theorem anew_len (x : Int) : (anewOf x).length ≤ 64 := by
  obtain ⟨_, _, h3, _⟩ := word_facts _ _ (wordOf_mem (isWs (tailOf (rowOf x))) x)
  unfold anewOf
  rw [Str.length_append]
  have h1 := len_hdr (rowOf x)
  have h2 := rowOf_len4 x
  omega
theorem anew_ok (x : Int) : ok (anewOf x) := by
  obtain ⟨_, _, _, h4⟩ := word_facts _ _ (wordOf_mem (isWs (tailOf (rowOf x))) x)
  exact ok_app (ok_hdr (rowOf_ok x)) h4

-- part Zb_3
theorem fillZb : (PySem.Challenge.rw_dm0163_03, hd.heap_39) = (PySem.Challenge.rw_dm0163_03, hd.heap_39) := by k_fill; rfl
/-- a list of the ledger grows -/
theorem appendU {prog : Program} {w : World} {A : Around} {E Q : Value → Shared → Prop} {s : Shared} {h₀ : Heap} {L D : Addr} {m : Str → Option Value} {news : List (Addr × Obj)} {g : Obj → List (Addr × Obj)} {vs : List Value} {n : Nat} {x : Value} (F : Fr h₀ L s.heap m) (N : News h₀ L s.heap news) (U : UpdF D (W.listOf vs.toArray n) news g) (hn : vs.length ≤ 1000)
    (h : ∀ h', Fr h₀ L h' m → News h₀ L h' (g (W.listOf (vs ++ [x]).toArray (n + 1))) → Q .none { s with heap := h' }) : wpAny (model prog w) A (call (.builtin "list.append") [.ref D, x]) Q E s := by
  obtain ⟨own, rest, rfl, hg, h1, h2⟩ := U.split
  have hmem := N (D, W.listOf vs.toArray n) (List.mem_append_right _ (.head _))
  refine append_at (its := vs.toArray) (n := n) hmem.1 (fun h' hs hD => ?_) (by rw [List.size_toArray, show sizeLine = 16777216 from rfl]; omega)
  refine h h' ⟨F.ns.sameBut hs (Ne.symm hmem.2.1), fun b ob e => (hs.2 b (fun q => ?_)).trans (F.keep b ob e), F.above⟩ ?_
  · rw [q, hmem.2.2] at e; cases e
  · rw [hg]
    refine N.setAt h1 h2 hs ?_
    rw [hD]
    show some (W.listOf (vs.toArray.push x) (n + 1)) = some (W.listOf (vs ++ [x]).toArray (n + 1))
    rw [List.push_toArray]
local macro_rules | `(tactic| walk_at "my upd") => `(tactic| first | (refine' UpdF.head ?a; (case a => walk_at "my all")) | (refine' UpdF.tail ?a ?b; (case a => k_ne); (case b => walk_at "my upd")))
local macro_rules | `(tactic| walk_at "call builtin:list.append") => `(tactic| (k_dflt (refine' appendU ?F ?N ?U ?z ?_; (case F => k_asm); (case N => k_asm); (case U => walk_at "my upd"); (case z => omega)); intro h' F' N'; (try dsimp only at N'); (try k_sweep)))
theorem add_tx {prog : Program} {w : World} {A : Around} {E Q : Value → Shared → Prop} {s : Shared} {x y : Str} {t u : Tok} (hx : x.length ≤ 64) (hy : y.length ≤ 64) (h : ∀ t' k', Q (.str (x ++ y) t') { s with toks := k' }) : wpAny (model prog w) A (binaryOp .Add (.str x t) (.str y u)) Q E s :=
  add_str h (by rw [show sizeLine = 16777216 from rfl]; omega)
set_option hygiene false in
local macro_rules | `(tactic| walk_at "binaryOp Add str str") => `(tactic| ((refine add_tx (by with_reducible assumption) (hw3 _) ?_); intro t' k'))
/-- a row's header, and whether something is behind it -/
def kindO (H : Str) (b : Bool) (t : Tok) : Obj := { cls := .type "tuple", data := .seq #[.str H t, .bool b] }
abbrev cels (L : Addr) (o1 o2 o3 o4 o5 : Obj) (made : List (Addr × Obj)) : List (Addr × Obj) :=
  (L + 1 + 1 + 1 + 1 + 1, o1) :: (L + 1 + 1 + 1 + 1, o2) :: (L + 1 + 1 + 1, o3) :: (L + 1 + 1, o4) :: (L + 1, o5) :: made
/-- cells, then the three lists -/
def Ord3 (L rl al kl : Nat) : Prop := L + 1 + 1 + 1 + 1 + 1 < rl ∧ rl < al ∧ al < kl
/-- none of the law's cells and lists -/
def Off8 (L rl al kl a : Nat) : Prop := a ≠ L + 1 + 1 + 1 + 1 + 1 ∧ a ≠ L + 1 + 1 + 1 + 1 ∧ a ≠ L + 1 + 1 + 1 ∧ a ≠ L + 1 + 1 ∧ a ≠ L + 1 ∧ a ≠ rl ∧ a ≠ al ∧ a ≠ kl
section
variable {prog : Program} {w : World} {dp un : Nat} {fr : Option (List Env)} {gd : Option (List Code)} {s : Shared} {h₀ : Heap} {p : Program} {loose : List Str} {mean : ExcName → Option Value} {mg mb : Str → Option Value} {L : Addr} {h : Heap} {tk : Nat} {m : Str → Option Value} {news : List (Addr × Obj)} {x : Int} {t : Tok} {rl al kl wl : Addr} {o1 o2 o3 o4 o5 : Obj} {rv av kv : List Value} {n1 n2 n3 : Nat} {tl : List (Addr × Obj)} {ow : Obj}
set_option maxHeartbeats 4000000 in
theorem b5 (X : (hd.heap_39 w.params).In h₀) (T : Top p loose mean mg mb h₀) (hr : dp + 80 < recursionLimit) (F : Fr h₀ L h m) {row H rest : Str} {t1 t2 t3 : Tok} (hlT : rest.length ≤ 64) (q1 : m (Str.ofString "x") = some (.int x t)) (q2 : m (Str.ofString "anew") = some (.ref al)) (q3 : m (Str.ofString "script") = some v3) (q4 : m (Str.ofString "row") = some (.str row t1)) (q5 : m (Str.ofString "header") = some (.str H t2)) (q6 : m (Str.ofString "rest") = some (.str rest t3)) (N : News h₀ L h news) :
    wpAny (model prog w) (ar dp un fr gd) (exec (buildAt 5) (lawEnv L)) (St h₀ L s (fun m' news' => m' (Str.ofString "x") = some (.int x t) ∧ m' (Str.ofString "anew") = some (.ref al) ∧ m' (Str.ofString "script") = some v3 ∧ m' (Str.ofString "row") = some (.str row t1) ∧ m' (Str.ofString "header") = some (.str H t2) ∧ m' (Str.ofString "rest") = some (.str rest t3) ∧ ∃ wl wv, m' (Str.ofString "words") = some (.ref wl) ∧ StrsAre wv (wordsOf (isWs rest)) ∧ (∀ p ∈ news, p.1 < wl) ∧ news' = (wl, W.listOf wv.toArray 0) :: news)) (fun _ _ => False) { s with heap := h, toks := tk } := by
  walk_at "law open"
  walk_at "my steps"
  all_goals (try k_data)
  · with_reducible rename Fr _ _ _ _ => Fn
    with_reducible rename News _ _ _ _ => Nn
    (with_reducible rename isWs rest = true => hw)
    rw [hw]
    refine' stMk Fn Nn _ (fun p hp => hp) ⟨q1, q2, q3, q4, q5, q6, _, [_, _], rfl, ?st, ?lt, rfl⟩
    case st => exact .cons _ _ (.cons _ _ .nil)
    case lt => with_reducible assumption
  · with_reducible rename Fr _ _ _ _ => Fn
    with_reducible rename News _ _ _ _ => Nn
    (with_reducible rename isWs rest = false => hw)
    rw [hw]
    refine' stMk Fn Nn _ (fun p hp => hp) ⟨q1, q2, q3, q4, q5, q6, _, [_, _, _, _], rfl, ?st, ?lt, rfl⟩
    case st => exact .cons _ _ (.cons _ _ (.cons _ _ (.cons _ _ .nil)))
    case lt => with_reducible assumption
set_option maxHeartbeats 4000000 in
theorem b6 (X : (hd.heap_39 w.params).In h₀) (T : Top p loose mean mg mb h₀) (hr : dp + 80 < recursionLimit) (F : Fr h₀ L h m) {row : Str} {t1 : Tok} (q4 : m (Str.ofString "row") = some (.str row t1)) (d5 : o5.data = .cell (some (.ref rl))) (hn : rv.length ≤ 900) (od : Ord3 L rl al kl) (l4 : wl ≠ rl) (otl : ∀ p ∈ tl, p.1 ≠ rl) (N : News h₀ L h (cels L o1 o2 o3 o4 o5 ((wl, (ow : Obj)) :: (rl, W.listOf rv.toArray n1) :: (al, W.listOf av.toArray n2) :: (kl, W.listOf kv.toArray n3) :: tl))) :
    wpAny (model prog w) (ar dp un fr gd) (exec (buildAt 6) (lawEnv L)) (St h₀ L s (fun m' news' => m' = m ∧ news' = cels L o1 o2 o3 o4 o5 ((wl, (ow : Obj)) :: (rl, W.listOf (rv ++ [Value.str row t1]).toArray (n1 + 1)) :: (al, W.listOf av.toArray n2) :: (kl, W.listOf kv.toArray n3) :: tl))) (fun _ _ => False) { s with heap := h, toks := tk } := by
  have l4' := neN l4
  unfold cels at N
  obtain ⟨l1, l2, l3⟩ := od
  walk_at "law open"
  walk_at "my steps"
  all_goals (try k_data)
  walk_at "my stay"
set_option maxHeartbeats 4000000 in
theorem b7 (X : (hd.heap_39 w.params).In h₀) (T : Top p loose mean mg mb h₀) (hr : dp + 80 < recursionLimit) (F : Fr h₀ L h m) {H : Str} {t2 : Tok} {ws : List Str} {wv : List Value} (q1 : m (Str.ofString "x") = some (.int x t)) (q2 : m (Str.ofString "anew") = some (.ref al)) (q5 : m (Str.ofString "header") = some (.str H t2)) (q7 : m (Str.ofString "words") = some (.ref wl)) (hW : StrsAre wv ws) (hw1 : 1 ≤ ws.length) (hw2 : ws.length ≤ 4) (hw3 : ∀ i : Nat, (ws.getD i Str.empty).length ≤ 64) (hlH : H.length ≤ 64) (hn : av.length ≤ 900) (od : Ord3 L rl al kl) (l4 : wl ≠ al) (otl : ∀ p ∈ tl, p.1 ≠ al) (N : News h₀ L h (cels L o1 o2 o3 o4 o5 ((wl, W.listOf wv.toArray 0) :: (rl, W.listOf rv.toArray n1) :: (al, W.listOf av.toArray n2) :: (kl, W.listOf kv.toArray n3) :: tl))) :
    wpAny (model prog w) (ar dp un fr gd) (exec (buildAt 7) (lawEnv L)) (St h₀ L s (fun m' news' => m' = m ∧ ∃ t3, news' = cels L o1 o2 o3 o4 o5 ((rl, W.listOf rv.toArray n1) :: (al, W.listOf (av ++ [Value.str (H ++ ws.getD (Int.fmod (Int.fdiv x 6480) (ws.length : Int)).toNat Str.empty) t3]).toArray (n2 + 1)) :: (kl, W.listOf kv.toArray n3) :: tl))) (fun _ _ => False) { s with heap := h, toks := tk } := by
  have l4' := neN l4
  have lwv := hW.length
  unfold cels at N
  obtain ⟨l1, l2, l3⟩ := od
  walk_at "law open"
  walk_at "my steps"
  all_goals (try k_data)
  with_reducible rename Fr _ _ _ _ => Fn
  with_reducible rename News _ _ _ _ => Nn
  rename _ = (6 : Int) ^ _ ∧ _ => h6
  rename _ = Int.fmod _ _ ∧ _ => hf
  obtain ⟨rfl, _⟩ := h6
  obtain ⟨rfl, _⟩ := hf
  rw [lwv] at Nn
  refine' stMk Fn Nn _ ?sub ⟨rfl, _, rfl⟩
  case sub => walk_at "my sub"
set_option maxHeartbeats 4000000 in
theorem b8 (X : (hd.heap_39 w.params).In h₀) (T : Top p loose mean mg mb h₀) (hr : dp + 80 < recursionLimit) (F : Fr h₀ L h m) {H rest : Str} {t2 t3 : Tok} (q5 : m (Str.ofString "header") = some (.str H t2)) (q6 : m (Str.ofString "rest") = some (.str rest t3)) (hlT : rest.length ≤ 64) (d4 : o4.data = .cell (some (.ref kl))) (hn : kv.length ≤ 900) (od : Ord3 L rl al kl) (otl : ∀ p ∈ tl, p.1 ≠ kl) (N : News h₀ L h (cels L o1 o2 o3 o4 o5 ((rl, W.listOf rv.toArray n1) :: (al, W.listOf av.toArray n2) :: (kl, W.listOf kv.toArray n3) :: tl))) :
    wpAny (model prog w) (ar dp un fr gd) (exec (buildAt 8) (lawEnv L)) (St h₀ L s (fun m' news' => m' = m ∧ ∃ D t3, (∀ p ∈ tl, p.1 ≠ D) ∧ Off8 L rl al kl D ∧ news' = cels L o1 o2 o3 o4 o5 ((rl, W.listOf rv.toArray n1) :: (al, W.listOf av.toArray n2) :: (kl, W.listOf (kv ++ [Value.ref D]).toArray (n3 + 1)) :: (D, kindO H (!isWs rest) t3) :: tl))) (fun _ _ => False) { s with heap := h, toks := tk } := by
  unfold cels at N
  obtain ⟨l1, l2, l3⟩ := od
  walk_at "law open"
  walk_at "my steps"
  all_goals (try k_data)
  with_reducible rename Fr _ _ _ _ => Fn
  with_reducible rename News _ _ _ _ => Nn
  rename _ ∧ _ ∧ _ ∧ _ ∧ _ ∧ _ ∧ _ ∧ _ ∧ AllLt _ _ => hAl
  refine' stMk Fn Nn _ ?sub ⟨rfl, _, _, fun p hp => Nat.ne_of_lt (ktn_ltOf hAl.2.2.2.2.2.2.2.2 p hp), ?off, rfl⟩
  case sub => walk_at "my sub"
  case off => (unfold Off8; omega)
end

-- part Zl_3
section
variable {prog : Program} {w : World} {A : Around} {s : Shared} {env : Env} {h₀ : Heap}
/-- the list to go through is there, and stays; which list it is comes out behind its evaluation -/
def LstAtA (h₀ : Heap) (L : Addr) (s : Shared) (P : Array Value → Addr → Prop) (J : Array Value → Addr → Nat → (Str → Option Value) → List (Addr × Obj) → Prop) (xv : Value) (s₁ : Shared) : Prop :=
  ∃ its ax m news h tk, P its ax ∧ xv = .ref ax ∧ s₁ = { s with heap := h, toks := tk } ∧ LCg.SrcAt h₀ ax its news ∧ Fr h₀ L h m ∧ News h₀ L h news ∧ J its ax 0 m news ∧ (∀ i m' news', J its ax i m' news' → LCg.SrcAt h₀ ax its news')
theorem For_lstA {Q : Flow → Shared → Prop} {x : Str} {px : Pos} {iter : Expr} {body : List Stmt} {pos : Pos} (hx : env.kindOf x = some .local) (hp : (env.scope.kind == .class || (env.scope.kind == .module && env.locals != env.globals)) = false) (hh : A.handled = none) (P : Array Value → Addr → Prop) (J : Array Value → Addr → Nat → (Str → Option Value) → List (Addr × Obj) → Prop)
    (hit : wpAny (model prog w) A (eval iter env) (LstAtA h₀ env.locals s P J) (fun _ _ => False) s)
    (step : ∀ its ax, P its ax → ∀ (i : Nat) (v : Value) m₁ news₁ h tk I oI, its[i]? = some v → J its ax i m₁ news₁ → (∀ p ∈ news₁, p.1 ≠ I) → Fr h₀ env.locals h (fun y => if y = x then some v else m₁ y) → News h₀ env.locals h ((I, oI) :: news₁) →
      wpAny (model prog w) A (execs body env) (Turned h₀ env.locals s I oI (J its ax (i + 1)) Q) (fun _ _ => False) { s with heap := h, toks := tk })
    (fin : ∀ its ax, P its ax → ∀ h' tk m' news', Fr h₀ env.locals h' m' → News h₀ env.locals h' news' → J its ax its.size m' news' → Q .next { s with heap := h', toks := tk })
    (hs : ∀ x, foldedSetIterable iter env x = pure x := by intro _; rfl) :
    wpAny (model prog w) A (exec (.For (.Name x px) iter body [] pos) env) Q (fun _ _ => False) s := by
  refine wpAny_For (wpAny_mono hit (fun xv s₁ h₁ => ?_) fun _ _ e => e) hs
  obtain ⟨its, ax, m, news, h, tk, hPax, rfl, rfl, hsrc, F, N, hJ, hstay⟩ := h₁
  have hl := hsrc.list F.keep N
  have hlt : ax < h.objs.size := by obtain ⟨_, e, _⟩ := hl; exact Heap.lt_size e
  refine wpAny_pyIter_list hl ?_
  have up : ∀ b o, h.get? b = some o → (h.push { cls := .type "list_iterator", data := .fields #[.ref ax, .int 0 0] }).get? b = some o := fun b o e => Heap.get?_push_of_some _ e
  have W : Walks prog w A h.objs.size _ [h.objs.size] its.size _ _ := Walks.list hh h.objs.size ax (Nat.ne_of_lt hlt) its
  have hI0 : h₀.get? h.objs.size = none := next_is_new F
  have hIL : env.locals ≠ h.objs.size := Nat.ne_of_lt F.ns.lt
  refine codeAny_forLoop
    (fun k s' => ∃ h' tk m' news' i, s' = { s with heap := h', toks := tk } ∧ (h'.IsListIter h.objs.size ax i ∧ h'.IsList ax its) ∧ Fr h₀ env.locals h' m' ∧ News h₀ env.locals h' news' ∧ (∀ p ∈ news', p.1 ≠ h.objs.size) ∧ J its ax i m' news' ∧ i ≤ its.size ∧ k = its.size + 1 - i) ?_ (its.size + 1)
    ⟨_, _, m, news, 0, rfl, ⟨⟨_, Heap.get?_push_size _ rfl, rfl, rfl⟩, hl.push _⟩, F.keeps up, N.grown up, fun p hp => Nat.ne_of_lt (Heap.lt_size (N p hp).1), hJ, Nat.zero_le _, rfl⟩ (by intro _; rfl)
  rintro k s' ⟨h', tk', m', news', i, rfl, hst', F', N', hnw', hJ', hi, rfl⟩
  by_cases hlt2 : i < its.size
  · refine W.item i _ _ _ hlt2 hst' fun v h₁ tk₁ hP hst₁ hk₁ => ?_
    have F₁ := LCg.fr_but F' hk₁ hIL hI0
    have N₁ := LCg.news_but N' hk₁ hnw'
    obtain ⟨oI, hoI, hoI2⟩ := hst₁.1
    have N₂ : News h₀ env.locals h₁ ((h.objs.size, oI) :: news') := fun p hp => by
      rcases List.mem_cons.mp hp with rfl | hp
      · exact ⟨hoI, Ne.symm hIL, hI0⟩
      · exact N₁ p hp
    refine wpAny_assign_Name (wpAny_storeName_local hx F₁.ns (fun h₂ hn₂ hs₂ => ?_) hp)
    refine wpAny_mono (step its ax hPax i v m' news' h₂ _ h.objs.size oI hP hJ' hnw' (F₁.set hn₂ hs₂) (N₂.set hs₂)) (fun f s₃ h₃ => ?_) fun _ _ e => e.elim
    rcases h₃ with ⟨rfl, h₄, tk₄, m₄, news₄, rfl, F₄, N₄, hne₄, hJ₄⟩ | ⟨v', rfl, hq⟩
    · refine ⟨its.size + 1 - (i + 1), by omega, h₄, tk₄, m₄, news₄, i + 1, rfl, ⟨⟨oI, (N₄ _ (.head _)).1, hoI2⟩, ?_⟩, F₄, fun p hp => N₄ p (.tail _ hp), hne₄, hJ₄, hlt2, rfl⟩
      exact (hstay _ _ _ hJ₄).list F₄.keep fun p hp => N₄ p (.tail _ hp)
    · exact hq
  · have hin : i = its.size := by omega
    subst hin
    refine W.done _ _ _ hst' fun h₁ tk₁ hk₁ => wpAny_execs_nil ?_
    exact fin its ax hPax h₁ tk₁ m' news' (LCg.fr_but F' hk₁ hIL hI0) (LCg.news_but N' hk₁ hnw') hJ'
end

-- part Zc_3
theorem fillZc : (PySem.Challenge.rw_dm0163_03, hd.heap_39) = (PySem.Challenge.rw_dm0163_03, hd.heap_39) := by k_fill; rfl
def KindAt (tl : List (Addr × Obj)) (row : Str) (v : Value) : Prop := ∃ a t, v = .ref a ∧ (a, kindO (hdr row) (full row) t) ∈ tl
abbrev bled (L : Addr) (o1 o2 o3 o4 o5 : Obj) (rl al kl : Addr) (rv av kv : List Value) (n1 n2 n3 : Nat) (tl : List (Addr × Obj)) : List (Addr × Obj) :=
  cels L o1 o2 o3 o4 o5 ((rl, W.listOf rv.toArray n1) :: (al, W.listOf av.toArray n2) :: (kl, W.listOf kv.toArray n3) :: tl)
theorem tail_len (x : Str) : (tailOf x).length ≤ x.length := PyProof.Txt.length_slice_le _ _ _
theorem word_len (b : Bool) (i : Nat) : ((wordsOf b).getD i Str.empty).length ≤ 64 := by
  rw [List.getD_eq_getElem?_getD]
  cases e : (wordsOf b)[i]? with
  | none => exact Nat.zero_le _
  | some r => exact Nat.le_trans (word_facts b r (List.mem_of_getElem? e)).2.2.1 (by decide)
section
variable {prog : Program} {w : World} {dp un : Nat} {fr : Option (List Env)} {gd : Option (List Code)} {s : Shared} {h₀ : Heap} {p : Program} {loose : List Str} {mean : ExcName → Option Value} {mg mb : Str → Option Value} {L : Addr} {h : Heap} {tk : Nat} {m : Str → Option Value} {x : Int} {t : Tok} {rl al kl : Addr} {o1 o2 o3 o4 o5 : Obj} {rv av kv : List Value} {n1 n2 n3 : Nat} {tl : List (Addr × Obj)} {sl : Addr}
theorem bturn (X : (hd.heap_39 w.params).In h₀) (T : Top p loose mean mg mb h₀) (hr : dp + 80 < recursionLimit) (F : Fr h₀ L h m) (q1 : m (Str.ofString "x") = some (.int x t)) (q2 : m (Str.ofString "anew") = some (.ref al)) (q3 : m (Str.ofString "script") = some (.ref sl)) (d4 : o4.data = .cell (some (.ref kl))) (d5 : o5.data = .cell (some (.ref rl))) (hn : rv.length ≤ 900 ∧ av.length ≤ 900 ∧ kv.length ≤ 900) (od : Ord3 L rl al kl) (otl : ∀ p ∈ tl, Off8 L rl al kl p.1) (N : News h₀ L h (bled L o1 o2 o3 o4 o5 rl al kl rv av kv n1 n2 n3 tl)) :
    wpAny (model prog w) (ar dp un fr gd) (execs buildFor (lawEnv L)) (St h₀ L s (fun m' news' => m' (Str.ofString "anew") = some (.ref al) ∧ m' (Str.ofString "script") = some (.ref sl) ∧ ∃ t1 t2 t3 D, (∀ p ∈ tl, p.1 ≠ D) ∧ Off8 L rl al kl D ∧ news' = bled L o1 o2 o3 o4 o5 rl al kl (rv ++ [Value.str (rowOf x) t1]) (av ++ [Value.str (anewOf x) t2]) (kv ++ [Value.ref D]) (n1 + 1) (n2 + 1) (n3 + 1) ((D, kindO (hdr (rowOf x)) (full (rowOf x)) t3) :: tl))) (fun _ _ => False) { s with heap := h, toks := tk } := by
  have hlen := rowOf_len x
  have hlH : (hdr (rowOf x)).length ≤ 64 := Nat.le_trans (len_hdr _) hlen
  have hlT : (tailOf (rowOf x)).length ≤ 64 := Nat.le_trans (tail_len _) hlen
  rw [buildFor_eq]
  refine cutS _ (b0 X T hr F q1 q2 q3 N) ?_
  rintro h1 tk1 m1 _ F1 N1 ⟨q1, q2, q3, ⟨t1, q4⟩, rfl⟩
  refine cutS _ (b1 X T hr F1 q1 q2 q3 hlen q4 N1) ?_
  rintro h2 tk2 m2 _ F2 N2 ⟨q1, q2, q3, q4, ⟨t2, q5⟩, rfl⟩
  refine cutS _ (b2 X T hr F2 q1 q2 q3 hlen hlH q4 q5 N2) ?_
  rintro h3 tk3 m3 _ F3 N3 ⟨q1, q2, q3, q4, q5, ⟨t3, q6⟩, rfl⟩
  have q6' : m3 (Str.ofString "rest") = some (.str (tailOf (rowOf x)) t3) := q6
  refine cutS _ (b3 X T hr F3 hlen hlH hlT q4 q5 q6' (hdr_tail _) (hdr_strip _) N3) ?_
  rintro h4 tk4 m4 _ F4 N4 ⟨rfl, rfl⟩
  refine cutS _ (b4 X T hr F4 hlH hlT q5 q6' (tail_hash _) (tail_blank _) N4) ?_
  rintro h5 tk5 m5 _ F5 N5 ⟨rfl, rfl⟩
  refine cutS _ (b5 X T hr F5 hlT q1 q2 q3 q4 q5 q6' N5) ?_
  rintro h6 tk6 m6 _ F6 N6 ⟨q1, q2, q3, q4, q5, q6, wl, wv, q7, hW, hlt, rfl⟩
  have w1 : wl ≠ rl := Ne.symm (Nat.ne_of_lt (hlt (rl, W.listOf rv.toArray n1) (by simp)))
  have w2 : wl ≠ al := Ne.symm (Nat.ne_of_lt (hlt (al, W.listOf av.toArray n2) (by simp)))
  have N6' := newsSub (news := cels L o1 o2 o3 o4 o5 ((wl, W.listOf wv.toArray 0) :: (rl, W.listOf rv.toArray n1) :: (al, W.listOf av.toArray n2) :: (kl, W.listOf kv.toArray n3) :: tl)) N6 (by walk_at "my sub")
  refine cutS _ (b6 X T hr F6 q4 d5 hn.1 od w1 (fun p hp => (otl p hp).2.2.2.2.2.1) N6') ?_
  rintro h7 tk7 m7 _ F7 N7 ⟨rfl, rfl⟩
  refine cutS _ (b7 X T hr F7 q1 q2 q5 q7 hW (by have := words_len (isWs (tailOf (rowOf x))); omega) (words_len _).2 (word_len _) hlH hn.2.1 od w2 (fun p hp => (otl p hp).2.2.2.2.2.2.1) N7) ?_
  rintro h8 tk8 m8 _ F8 N8 ⟨rfl, t5, rfl⟩
  refine cutS _ (b8 X T hr F8 q5 q6 hlT d4 hn.2.2 od (fun p hp => (otl p hp).2.2.2.2.2.2.2) N8) ?_
  rintro h9 tk9 m9 _ F9 N9 ⟨rfl, D, t6, hD, oD, rfl⟩
  refine wpAny_execs_nil ?_
  exact stMk F9 N9 _ (fun p hp => hp) ⟨q2, q3, _, _, _, D, hD, oD, rfl⟩
/-- what holds between the turns of the building loop -/
def BJ (L : Addr) (o1 o2 o3 o4 o5 o6 : Obj) (rl al kl sl : Addr) (nums : List Int) (tl0 : List (Addr × Obj)) (i : Nat) (m' : Str → Option Value) (news' : List (Addr × Obj)) : Prop :=
  ∃ rv av kv n1 n2 n3 tl, m' (Str.ofString "anew") = some (.ref al) ∧ m' (Str.ofString "script") = some (.ref sl) ∧ StrsAre rv ((nums.take i).map rowOf) ∧ StrsAre av ((nums.take i).map anewOf) ∧ All2 (KindAt tl) ((nums.take i).map rowOf) kv ∧ (∀ p ∈ tl, Off8 L rl al kl p.1 ∧ p.1 ≠ 105) ∧ (∀ p ∈ tl0, p ∈ tl) ∧ news' = bled L o1 o2 o3 o4 o5 rl al kl rv av kv n1 n2 n3 ((105, o6) :: tl)
theorem strsSnoc {vs : List Value} {ys : List Str} {y : Str} {t : Tok} (h : StrsAre vs ys) : StrsAre (vs ++ [.str y t]) (ys ++ [y]) := by
  induction h with
  | nil => exact .cons _ _ .nil
  | cons x t r ih => exact .cons _ _ ih
theorem bstep (X : (hd.heap_39 w.params).In h₀) (T : Top p loose mean mg mb h₀) (hr : dp + 80 < recursionLimit) (d4 : o4.data = .cell (some (.ref kl))) (d5 : o5.data = .cell (some (.ref rl))) (od : Ord3 L rl al kl) {o6 : Obj} (o105 : Off8 L rl al kl 105) {nums : List Int} {nv : List Value} (hI : IntsAre nv nums) (hnn : nums.length ≤ 8) {tl0 : List (Addr × Obj)} {Q : Flow → Shared → Prop}
    (i : Nat) (v : Value) (m₁ : Str → Option Value) (news₁ : List (Addr × Obj)) (h : Heap) (tk : Nat) (I : Addr) (oI : Obj) (hi : nv.toArray[i]? = some v) (J : BJ L o1 o2 o3 o4 o5 o6 rl al kl sl nums tl0 i m₁ news₁) (hne : ∀ p ∈ news₁, p.1 ≠ I) (F : Fr h₀ L h (fun y => if y = Str.ofString "x" then some v else m₁ y)) (N : News h₀ L h ((I, oI) :: news₁)) :
    wpAny (model prog w) (ar dp un fr gd) (execs buildFor (lawEnv L)) (Turned h₀ L s I oI (BJ L o1 o2 o3 o4 o5 o6 rl al kl sl nums tl0 (i + 1)) Q) (fun _ _ => False) { s with heap := h, toks := tk } := by
  obtain ⟨rv, av, kv, n1, n2, n3, tl, q2, q3, hR, hA, hK, otl, hsub, rfl⟩ := J
  obtain ⟨x, hx, t, rfl⟩ := ints_at hI i v hi
  have et : nums.take (i + 1) = nums.take i ++ [x] := by rw [List.take_add_one, hx]; rfl
  have lt : (nums.take i).length ≤ 8 := by rw [List.length_take]; omega
  have l1 := hR.length
  have l2 := hA.length
  have l3 := hK.len
  rw [List.length_map] at l1 l2 l3
  have oI8 : Off8 L rl al kl I := by
    exact ⟨fun e => hne (_, o1) (.head _) e.symm, fun e => hne (_, o2) (.tail _ (.head _)) e.symm, fun e => hne (_, o3) (.tail _ (.tail _ (.head _))) e.symm, fun e => hne (_, o4) (.tail _ (.tail _ (.tail _ (.head _)))) e.symm, fun e => hne (_, o5) (.tail _ (.tail _ (.tail _ (.tail _ (.head _))))) e.symm,
      fun e => hne (_, W.listOf rv.toArray n1) (.tail _ (.tail _ (.tail _ (.tail _ (.tail _ (.head _)))))) e.symm, fun e => hne (_, W.listOf av.toArray n2) (.tail _ (.tail _ (.tail _ (.tail _ (.tail _ (.tail _ (.head _))))))) e.symm, fun e => hne (_, W.listOf kv.toArray n3) (.tail _ (.tail _ (.tail _ (.tail _ (.tail _ (.tail _ (.tail _ (.head _)))))))) e.symm⟩
  have k1 : (fun y => if y = Str.ofString "x" then some (Value.int x t) else m₁ y) (Str.ofString "anew") = some (.ref al) := by
    show (if _ then _ else _) = _
    rw [if_neg (by decide)]; exact q2
  have k2 : (fun y => if y = Str.ofString "x" then some (Value.int x t) else m₁ y) (Str.ofString "script") = some (.ref sl) := by
    show (if _ then _ else _) = _
    rw [if_neg (by decide)]; exact q3
  have I105 : I ≠ 105 := fun e => hne (105, o6) (.tail _ (.tail _ (.tail _ (.tail _ (.tail _ (.tail _ (.tail _ (.tail _ (.head _))))))))) e.symm
  have swap : ∀ (a b c : List Value) (j1 j2 j3 : Nat) (tz : List (Addr × Obj)) q, q ∈ (I, oI) :: bled L o1 o2 o3 o4 o5 rl al kl a b c j1 j2 j3 tz ↔ q ∈ bled L o1 o2 o3 o4 o5 rl al kl a b c j1 j2 j3 ((I, oI) :: tz) := by
    intro a b c j1 j2 j3 tz q
    simp only [List.mem_cons]
    constructor
    · rintro (h | h | h | h | h | h | h | h | h | h) <;> simp only [h, true_or, or_true]
    · rintro (h | h | h | h | h | h | h | h | h | h) <;> simp only [h, true_or, or_true]
  refine wpAny_mono (bturn (tl := (I, oI) :: (105, o6) :: tl) X T hr F (if_pos rfl) k1 k2 d4 d5 ⟨by omega, by omega, by omega⟩ od (List.forall_mem_cons.mpr ⟨oI8, List.forall_mem_cons.mpr ⟨o105, fun p hp => (otl p hp).1⟩⟩) (newsSub N (fun q hq => (swap _ _ _ _ _ _ _ q).mpr hq))) (fun f s₂ hq => ?_) fun _ _ e => e
  obtain ⟨rfl, h', tk', m', news', rfl, F', N', q2', q3', t1, t2, t3, D, hD, oD, rfl⟩ := hq
  refine .inl ⟨rfl, h', tk', m', bled L o1 o2 o3 o4 o5 rl al kl (rv ++ [Value.str (rowOf x) t1]) (av ++ [Value.str (anewOf x) t2]) (kv ++ [Value.ref D]) (n1 + 1) (n2 + 1) (n3 + 1) ((105, o6) :: (D, kindO (hdr (rowOf x)) (full (rowOf x)) t3) :: tl), rfl, F', newsSub N' ?_, ?_, _, _, _, _, _, _, _, q2', q3', ?_, ?_, ?_, List.forall_mem_cons.mpr ⟨⟨oD, fun e => hD _ (.tail _ (.head _)) e.symm⟩, otl⟩, fun p hp => .tail _ (hsub p hp), rfl⟩
  · intro q hq
    simp only [List.mem_cons] at hq ⊢
    rcases hq with h | h | h | h | h | h | h | h | h | h | h | h <;> simp only [h, true_or, or_true]
  · have n1' := oI8
    obtain ⟨c1, c2, c3, c4, c5, c6, c7, c8⟩ := n1'
    refine List.forall_mem_cons.mpr ⟨Ne.symm c1, List.forall_mem_cons.mpr ⟨Ne.symm c2, List.forall_mem_cons.mpr ⟨Ne.symm c3, List.forall_mem_cons.mpr ⟨Ne.symm c4, List.forall_mem_cons.mpr ⟨Ne.symm c5, List.forall_mem_cons.mpr ⟨Ne.symm c6, List.forall_mem_cons.mpr ⟨Ne.symm c7, List.forall_mem_cons.mpr ⟨Ne.symm c8, List.forall_mem_cons.mpr ⟨Ne.symm I105, List.forall_mem_cons.mpr ⟨fun e => hD _ (.head _) e.symm, fun q hq => hne q (.tail _ (.tail _ (.tail _ (.tail _ (.tail _ (.tail _ (.tail _ (.tail _ (.tail _ hq)))))))))⟩⟩⟩⟩⟩⟩⟩⟩⟩⟩
  · rw [et, List.map_append]; exact strsSnoc hR
  · rw [et, List.map_append]; exact strsSnoc hA
  · rw [et, List.map_append]
    refine (hK.imp fun r v hv => ?_).snoc ⟨D, t3, rfl, .head _⟩
    obtain ⟨a, t, e1, e2⟩ := hv
    exact ⟨a, t, e1, .tail _ e2⟩
end

-- part Zd_3
theorem fillZd : (PySem.Challenge.rw_dm0163_03, hd.heap_39) = (PySem.Challenge.rw_dm0163_03, hd.heap_39) := by k_fill; rfl
def numsOf (sc : List Int) : List Int := if sc = [] then [1] else sc.take 8
theorem nums_len (sc : List Int) : 1 ≤ (numsOf sc).length ∧ (numsOf sc).length ≤ 8 := by
  unfold numsOf
  split
  · exact ⟨Nat.le_refl _, by decide⟩
  · rename_i h
    have : 0 < sc.length := List.length_pos_iff.mpr h
    rw [List.length_take]; omega
theorem stay {h₀ : Heap} {L : Addr} {o1 o2 o3 o4 o5 o6 : Obj} {rl al kl sl ax : Addr} {nums : List Int} {its : Array Value} {i : Nat} {m' : Str → Option Value} {news' : List (Addr × Obj)} (hJ : BJ L o1 o2 o3 o4 o5 o6 rl al kl sl nums [(ax, W.listOf its 0)] i m' news') : LCg.SrcAt h₀ ax its news' := by
  obtain ⟨rv, av, kv, n1, n2, n3, tl, q2, q3, hR, hA, hK, otl, hsub, rfl⟩ := hJ
  exact .inr ⟨W.listOf its 0, .tail _ (.tail _ (.tail _ (.tail _ (.tail _ (.tail _ (.tail _ (.tail _ (.tail _ (hsub _ (.head _)))))))))), rfl, _, rfl⟩
theorem startJ {h₀ : Heap} {L : Addr} {s : Shared} {m : Str → Option Value} {h' : Heap} {tk' : Nat} {all : List (Addr × Obj)} {o1 o2 o3 o4 o5 o6 : Obj} {rl al kl sl D : Addr} {nums : List Int} {its : Array Value} (F : Fr h₀ L h' m) (N : News h₀ L h' all) (hD : (D, W.listOf its 0) ∈ all) (hs : ∀ p ∈ bled L o1 o2 o3 o4 o5 rl al kl [] [] [] 0 0 0 [(105, o6)], p ∈ all) (hi : IntsAre its.toList nums) (o : Off8 L rl al kl D ∧ D ≠ 105) (q2 : m (Str.ofString "anew") = some (.ref al))  (q3 : m (Str.ofString "script") = some (.ref sl)) :
    LstAtA h₀ L s (fun its ax => IntsAre its.toList nums ∧ Off8 L rl al kl ax ∧ ax ≠ 105) (fun its ax => BJ L o1 o2 o3 o4 o5 o6 rl al kl sl nums [(ax, W.listOf its 0)]) (.ref D) { s with heap := h', toks := tk' } := by
  refine ⟨its, D, m, bled L o1 o2 o3 o4 o5 rl al kl [] [] [] 0 0 0 [(105, o6), (D, W.listOf its 0)], h', tk', ⟨hi, o⟩, rfl, rfl, .inr ⟨W.listOf its 0, by simp, rfl, _, rfl⟩, F, newsSub N ?_, ⟨[], [], [], 0, 0, 0, _, q2, q3, .nil, .nil, .nil, ?_, fun p hp => hp, rfl⟩, fun i m' news' hJ => stay hJ⟩
  · intro p hp
    have : p ∈ bled L o1 o2 o3 o4 o5 rl al kl [] [] [] 0 0 0 [(105, o6)] ∨ p = (D, W.listOf its 0) := by
      simp only [List.mem_cons, List.not_mem_nil, or_false] at hp ⊢
      rcases hp with h | h | h | h | h | h | h | h | h | h <;> simp only [h, true_or, or_true]
    rcases this with q | q
    · exact hs p q
    · rw [q]; exact hD
  · intro p hp
    rw [List.mem_singleton.mp hp]; exact o
section
variable {prog : Program} {w : World} {dp un : Nat} {fr : Option (List Env)} {gd : Option (List Code)} {s : Shared} {h₀ : Heap} {p : Program} {loose : List Str} {mean : ExcName → Option Value} {mg mb : Str → Option Value} {L : Addr} {h : Heap} {tk : Nat} {m : Str → Option Value} {rl al kl : Addr} {o1 o2 o3 o4 o5 : Obj} {rv av kv : List Value} {n1 n2 n3 : Nat} {tl : List (Addr × Obj)} {sl : Addr} {sc : List Int} {vs : List Value}
set_option maxHeartbeats 4000000 in
theorem lb0 (X : (hd.heap_39 w.params).In h₀) (T : Top p loose mean mg mb h₀) (hr : dp + 80 < recursionLimit) (F : Fr h₀ L h m) (q3 : m (Str.ofString "script") = some (.ref sl)) {x4 x5 : Option Value} (d4 : o4.data = .cell x4) (d5 : o5.data = .cell x5) {o6 : Obj} (l6 : @LT.lt Nat _ 105 L) (N : News h₀ L h (cels L o1 o2 o3 o4 o5 [(105, o6)])) :
    wpAny (model prog w) (ar dp un fr gd) (exec (lawAt 0) (lawEnv L)) (St h₀ L s (fun m' news' => m' (Str.ofString "script") = some (.ref sl) ∧ ∃ rl al kl o4' o5', m' (Str.ofString "anew") = some (.ref al) ∧ o4'.data = .cell (some (.ref kl)) ∧ o5'.data = .cell (some (.ref rl)) ∧ Ord3 L rl al kl ∧ news' = bled L o1 o2 o3 o4' o5' rl al kl [] [] [] 0 0 0 [(105, o6)])) (fun _ _ => False) { s with heap := h, toks := tk } := by
  unfold cels at N
  walk_at "law open"
  walk_at "my steps"
  all_goals (try k_data)
  with_reducible rename Fr _ _ _ _ => Fn
  with_reducible rename News _ _ _ _ => Nn
  rename_i oR dR hA hB oK dK
  refine' stMk Fn Nn _ ?sub ⟨q3, _, _, _, _, _, rfl, dK, dR, ?od, rfl⟩
  case sub => walk_at "my sub"
  case od => (unfold Ord3; omega)
set_option maxHeartbeats 4000000 in
theorem lb1 (X : (hd.heap_39 w.params).In h₀) (T : Top p loose mean mg mb h₀) (hr : dp + 80 < recursionLimit) (hl : h₀.IsList sl vs.toArray) (hI : IntsAre vs sc) (hn : sc.length ≤ 63) (F : Fr h₀ L h m) (q2 : m (Str.ofString "anew") = some (.ref al)) (q3 : m (Str.ofString "script") = some (.ref sl)) (d4 : o4.data = .cell (some (.ref kl))) (d5 : o5.data = .cell (some (.ref rl))) (od : Ord3 L rl al kl) {o6 : Obj} (l6 : @LT.lt Nat _ 105 L) (N : News h₀ L h (bled L o1 o2 o3 o4 o5 rl al kl [] [] [] 0 0 0 [(105, o6)])) :
    wpAny (model prog w) (ar dp un fr gd) (exec (lawAt 1) (lawEnv L)) (St h₀ L s (BJ L o1 o2 o3 o4 o5 o6 rl al kl sl (numsOf sc) [] (numsOf sc).length)) (fun _ _ => False) { s with heap := h, toks := tk } := by
  have od' := od
  obtain ⟨l1, l2, l3⟩ := od'
  have o105 : Off8 L rl al kl 105 := by unfold Off8; omega
  have hnl := nums_len sc
  have hst := fun (its : Array Value) (ax : Addr) (hP : IntsAre its.toList (numsOf sc) ∧ Off8 L rl al kl ax ∧ ax ≠ 105) i v m₁ news₁ h tk I oI (hi : its[i]? = some v) => bstep (prog := prog) (un := un) (L := L) (s := { s with heap := h, toks := tk }) (sl := sl) (o6 := o6) (tl0 := [(ax, W.listOf its 0)]) (o1 := o1) (o2 := o2) (o3 := o3) (Q := St h₀ L s (BJ L o1 o2 o3 o4 o5 o6 rl al kl sl (numsOf sc) [] (numsOf sc).length)) (fr := fr) (gd := gd) X T hr d4 d5 od o105 hP.1 hnl.2 i v m₁ news₁ h tk I oI (by simpa using hi)
  have hl' := hl
  unfold bled cels at N
  dsimp only [lawAt, buildAt, turnAt, buildFor, turnFor, lawBody, lawFn, lawEnv, fnBody, fnScope, forBody', PySem.Challenge.pw_dm0163_03, List.getElem?_cons_succ, List.getElem?_cons_zero, Option.getD_some] at hst ⊢
  refine' For_lstA (h₀ := h₀) rfl rfl rfl (fun its ax => IntsAre its.toList (numsOf sc) ∧ Off8 L rl al kl ax ∧ ax ≠ 105) (fun its ax => BJ L o1 o2 o3 o4 o5 o6 rl al kl sl (numsOf sc) [(ax, W.listOf its 0)]) ?it ?st ?fin
  case it =>
    refine id ?_
    clear hst
    walk_at "my steps"
    all_goals (try k_data)
    · with_reducible rename Fr _ _ _ _ => Fn
      with_reducible rename News _ _ _ _ => Nn
      (with_reducible rename IntsAre _ (List.take 8 sc) => hz)
      rename 0 < List.length _ => hpos
      have he : numsOf sc = sc.take 8 := if_neg (by rintro rfl; simp at hpos)
      refine' startJ (L := L) Fn Nn (.head _) ?sub ?i ?o q2 q3
      case sub => walk_at "my sub"
      case i => rw [he]; simpa using hz
      case o => exact ⟨by unfold Off8; omega, by k_ne⟩
    · with_reducible rename Fr _ _ _ _ => Fn
      with_reducible rename News _ _ _ _ => Nn
      rename ¬ 0 < List.length _ => hpos
      have he : numsOf sc = [1] := if_pos (by rcases sc with _ | ⟨a, b⟩ <;> simp at *)
      refine' startJ (L := L) Fn Nn (.head _) ?sub ?i ?o q2 q3
      case sub => walk_at "my sub"
      case i => rw [he]; exact .cons _ _ .nil
      case o => exact ⟨by unfold Off8; omega, by k_ne⟩
  case st => exact hst
  case fin =>
    intro its ax hP h' tk' m' news' F' N' hJ
    obtain ⟨rv, av, kv, n1, n2, n3, tl, q2, q3, hR, hA, hK, otl, hsub, rfl⟩ := hJ
    have hsz : its.size = (numsOf sc).length := by rw [← hP.1.length]; simp
    rw [hsz] at hR hA hK
    exact ⟨rfl, h', tk', m', _, rfl, F', N', rv, av, kv, n1, n2, n3, tl, q2, q3, hR, hA, hK, otl, fun _ h => (nomatch h), rfl⟩
end

-- part Pa_3
section
variable {prog : Program} {w : World} {dp un : Nat} {fr : Option (List Env)} {gd : Option (List Code)} {s : Shared} {Q E : Value → Shared → Prop} {h₀ : Heap} {L : Addr} {m : Str → Option Value} {rest news : List (Addr × Obj)} {p : Program} {loose : List Str} {mean : ExcName → Option Value} {mg mb : Str → Option Value}
theorem newsFresh {pobjs : List (Addr × Obj)} {h' : Heap} (F : Fr h₀ L s.heap m) (hp : ∀ p ∈ pobjs, h'.get? p.1 = some p.2 ∧ s.heap.get? p.1 = none) : News h₀ L h' pobjs := fun p h => by
  refine ⟨(hp p h).1, fun e => ?_, ?_⟩
  · obtain ⟨oL, _, _, hL, _⟩ := F.ns
    have := (hp p h).2
    rw [e, hL] at this; cases this
  · cases q : h₀.get? p.1 with
    | none => rfl
    | some o => have := F.keep _ _ q; rw [(hp p h).2] at this; cases this
theorem page0N (F : Fr h₀ L s.heap m) (N : News h₀ L s.heap ((105, tabObj #[]) :: rest)) (hne : ∀ p ∈ rest, p.1 ≠ 105) (X : (hd.heap_39 w.params).In h₀) (T : Top p loose mean mg mb h₀) (C : CodeHd h₀ 109 105) (hr : dp + 60 < recursionLimit)
    {rows : List Str} {vs : List Value} {l : Addr} (hl : s.heap.IsList l vs.toArray) (hS : StrsAre vs rows) (hn : rows.length ≤ 64) (hL : ∀ r ∈ rows, r.length ≤ 64)
    (h : ∀ h' tk' pg c1 c2 oc1 oc2 (pobjs : List (Addr × Obj)), Fr h₀ L h' m → News h₀ L h' ((105, tab2 c1 c2) :: (rest ++ pobjs)) → CodeOk oc1 lamQ → CodeOk oc2 lamQ → (c1, oc1) ∈ pobjs → (c2, oc2) ∈ pobjs → (∀ p ∈ pobjs, s.heap.get? p.1 = none) →
      (∀ H, Ext h₀ H → (∀ p ∈ pobjs, H.get? p.1 = some p.2) → H.IsList l vs.toArray → PageOk prog w H pg rows) → Q (.ref pg) { s with heap := h', toks := tk' }) :
    wpAny (model prog w) (ar dp un fr gd) (call (.ref 110) [.ref l]) Q E s := by
  have n5 := N _ (.head _)
  refine page_call0 X T F.keep n5.2.2 C hr hl hS hn hL n5.1 ?_
  intro h' tk' pg c1 c2 oc1 oc2 pobjs keep h5 k1 k2 m1 m2 hp page
  refine h h' tk' pg c1 c2 oc1 oc2 pobjs ⟨F.ns.at' fun o e => keep L o (Ne.symm n5.2.1) e, fun b o e => keep b o (by rintro rfl; rw [n5.2.2] at e; cases e) (F.keep b o e), F.above⟩ (fun q hq => ?_) k1 k2 m1 m2 (fun q hq => (hp q hq).2) page
  rcases List.mem_cons.mp hq with rfl | hq
  · exact ⟨h5, n5.2⟩
  · rcases List.mem_append.mp hq with hq | hq
    · exact ⟨keep _ _ (hne q hq) (N q (.tail _ hq)).1, (N q (.tail _ hq)).2⟩
    · exact newsFresh F hp q hq
theorem page1N (F : Fr h₀ L s.heap m) (N : News h₀ L s.heap news) {c1 c2 : Addr} {oc1 oc2 : Obj} (h5 : (105, tab2 c1 c2) ∈ news) (r1 : CodeOk oc1 lamQ) (r2 : CodeOk oc2 lamQ) (X : (hd.heap_39 w.params).In h₀) (T : Top p loose mean mg mb h₀) (C : CodeHd h₀ 109 105) (hr : dp + 60 < recursionLimit)
    {rows : List Str} {vs : List Value} {l : Addr} (hl : s.heap.IsList l vs.toArray) (hS : StrsAre vs rows) (hn : rows.length ≤ 64) (hL : ∀ r ∈ rows, r.length ≤ 64)
    (h : ∀ h' tk' pg (pobjs : List (Addr × Obj)), Fr h₀ L h' m → News h₀ L h' (news ++ pobjs) → (∀ p ∈ pobjs, s.heap.get? p.1 = none) →
      (∀ H, Ext h₀ H → (∀ p ∈ pobjs, H.get? p.1 = some p.2) → H.get? c1 = some oc1 → H.get? c2 = some oc2 → H.IsList l vs.toArray → PageOk prog w H pg rows) → Q (.ref pg) { s with heap := h', toks := tk' }) :
    wpAny (model prog w) (ar dp un fr gd) (call (.ref 110) [.ref l]) Q E s := by
  have n5 := N _ h5
  refine page_call1 X T F.keep n5.2.2 C hr hl hS hn hL n5.1 r1 r2 ?_
  intro h' tk' pg pobjs ext hp page
  refine h h' tk' pg pobjs (frExt F ext) (fun q hq => ?_) (fun q hq => (hp q hq).2) page
  rcases List.mem_append.mp hq with hq | hq
  · exact newsExt N ext q hq
  · exact newsFresh F hp q hq
end

-- part Ze_3
theorem fillZe : (PySem.Challenge.rw_dm0163_03, hd.heap_39) = (PySem.Challenge.rw_dm0163_03, hd.heap_39) := by k_fill; rfl
theorem off8m {h₀ h : Heap} {L a : Addr} {o1 o2 o3 o4 o5 p1 p2 p3 : Obj} {rl al kl : Addr} {news : List (Addr × Obj)} (N : News h₀ L h news) (m1 : (L + 1 + 1 + 1 + 1 + 1, o1) ∈ news) (m2 : (L + 1 + 1 + 1 + 1, o2) ∈ news) (m3 : (L + 1 + 1 + 1, o3) ∈ news) (m4 : (L + 1 + 1, o4) ∈ news) (m5 : (L + 1, o5) ∈ news) (m6 : (rl, p1) ∈ news) (m7 : (al, p2) ∈ news) (m8 : (kl, p3) ∈ news) (ha : h.get? a = none) : Off8 L rl al kl a := by
  have key : ∀ q ∈ news, a ≠ q.1 := fun q hq e => by
    have := (N q hq).1
    rw [← e, ha] at this; cases this
  exact ⟨key _ m1, key _ m2, key _ m3, key _ m4, key _ m5, key _ m6, key _ m7, key _ m8⟩
set_option hygiene false in
local macro_rules | `(tactic| walk_at "call ref") => `(tactic| ((with_reducible rename News _ _ _ _ => Nold); k_dflt (refine page1N (by k_asm) Nold (by k_mem) kc1 kc2 (by k_asm) (by k_asm) (by k_asm) (by omega) (News.isList Nold (by k_mem)) (by with_reducible assumption) (by omega) (by with_reducible assumption) ?_); intro h' tk' pg2 pobjs2 F' N' fresh2 page2; (have of2 : ∀ p ∈ pobjs2, Off8 L rl al kl p.1 := fun p hp => off8m Nold (by k_mem) (by k_mem) (by k_mem) (by k_mem) (by k_mem) (by k_mem) (by k_mem) (by k_mem) (fresh2 p hp)); simp only [List.cons_append, List.nil_append] at N'; clear fresh2 Nold; (try k_sweep)))
set_option hygiene false in
local macro_rules | `(tactic| walk_at "call ref") => `(tactic| ((with_reducible rename News _ _ _ _ => Nold); k_dflt (refine page0N (by k_asm) Nold hne5 (by k_asm) (by k_asm) (by k_asm) (by omega) (News.isList Nold (by k_mem)) (by with_reducible assumption) (by omega) (by with_reducible assumption) ?_); intro h' tk' pg1 c1 c2 oc1 oc2 pobjs1 F' N' kc1 kc2 mc1 mc2 fresh1 page1; (have of1 : ∀ p ∈ pobjs1, Off8 L rl al kl p.1 := fun p hp => off8m Nold (by k_mem) (by k_mem) (by k_mem) (by k_mem) (by k_mem) (by k_mem) (by k_mem) (by k_mem) (fresh1 p hp)); simp only [List.cons_append, List.nil_append] at N'; clear fresh1 Nold; (try k_sweep)))
/-- what a turn of the marks' loop leaves as it is: the frame's names -/
structure Names (m : Str → Option Value) (al p1 p2 sl : Addr) : Prop where
  before : m (Str.ofString "before") = some (.ref p1)
  after : m (Str.ofString "after") = some (.ref p2)
  anew : m (Str.ofString "anew") = some (.ref al)
  script : m (Str.ofString "script") = some (.ref sl)
/-- what holds through the whole loop -/
structure Turn (prog : Program) (w : World) (h₀ : Heap) (L : Addr) (rows anew : List Str) (rl al kl p1 p2 : Addr) (rv av kv : List Value) (tl : List (Addr × Obj)) (o4 o5 : Obj) : Prop where
  n1 : 1 ≤ rows.length
  n8 : rows.length ≤ 8
  la : anew.length = rows.length
  Lr : ∀ r ∈ rows, r.length ≤ 64
  La : ∀ r ∈ anew, r.length ≤ 64
  kr : ∀ r ∈ rows, ok r
  ka : ∀ r ∈ anew, ok r
  kin : ∀ j, Kin (lineAt rows j) (lineAt anew j)
  S : StrsAre rv rows
  A : StrsAre av anew
  P1 : ∀ H, Ext h₀ H → (∀ p ∈ tl, H.get? p.1 = some p.2) → H.IsList rl rv.toArray → PageOk prog w H p1 rows
  P2 : ∀ H, Ext h₀ H → (∀ p ∈ tl, H.get? p.1 = some p.2) → H.IsList al av.toArray → PageOk prog w H p2 anew
  K : All2 (KindAt tl) rows kv
  d4 : o4.data = .cell (some (.ref kl))
  d5 : o5.data = .cell (some (.ref rl))
  od : Ord3 L rl al kl
  otl : ∀ p ∈ tl, Off8 L rl al kl p.1
/-- the ledger in a turn: five cells, then what the turn made, then what stays -/
abbrev led (L : Addr) (o1 o2 o3 o4 o5 : Obj) (made : List (Addr × Obj)) (rl al kl : Addr) (rv av kv : List Value) (n1 n2 n3 : Nat) (tl : List (Addr × Obj)) : List (Addr × Obj) :=
  cels L o1 o2 o3 o4 o5 (made ++ ((rl, W.listOf rv.toArray n1) :: (al, W.listOf av.toArray n2) :: (kl, W.listOf kv.toArray n3) :: tl))
section
variable {prog : Program} {w : World} {dp un : Nat} {fr : Option (List Env)} {gd : Option (List Code)} {s : Shared} {h₀ : Heap} {p : Program} {loose : List Str} {mean : ExcName → Option Value} {mg mb : Str → Option Value} {L : Addr} {h : Heap} {tk : Nat} {m : Str → Option Value} {rows anew : List Str} {rl al kl sl : Addr} {rv av kv : List Value} {n1 n2 n3 : Nat} {tl : List (Addr × Obj)} {o1 o2 o3 o4 o5 : Obj}
set_option maxHeartbeats 4000000 in
theorem pages (X : (hd.heap_39 w.params).In h₀) (T : Top p loose mean mg mb h₀) (C : CodeHd h₀ 109 105) (hr : dp + 80 < recursionLimit) (F : Fr h₀ L h m) (l6 : @LT.lt Nat _ 105 L) (od : Ord3 L rl al kl) (N : News h₀ L h (bled L o1 o2 o3 o4 o5 rl al kl rv av kv n1 n2 n3 ((105, tabObj #[]) :: tl))) (otl : ∀ p ∈ tl, Off8 L rl al kl p.1 ∧ p.1 ≠ 105)
    (q2 : m (Str.ofString "anew") = some (.ref al)) (q3 : m (Str.ofString "script") = some (.ref sl)) (d4 : o4.data = .cell (some (.ref kl))) (d5 : o5.data = .cell (some (.ref rl)))
    (hS : StrsAre rv rows) (hA : StrsAre av anew) (hK : All2 (KindAt tl) rows kv) (r1 : 1 ≤ rows.length) (r8 : rows.length ≤ 8) (la : anew.length = rows.length) (Lr : ∀ r ∈ rows, r.length ≤ 64) (La : ∀ r ∈ anew, r.length ≤ 64) (kr : ∀ r ∈ rows, ok r) (ka : ∀ r ∈ anew, ok r) (kin : ∀ j, Kin (lineAt rows j) (lineAt anew j)) :
    wpAny (model prog w) (ar dp un fr gd) (exec (lawAt 2) (lawEnv L)) (St h₀ L s (fun m' news' => ∃ p1 p2 tl' c1 c2, Names m' al p1 p2 sl ∧ news' = led L o1 o2 o3 o4 o5 [] rl al kl rv av kv n1 n2 n3 tl' ∧ (105, tab2 c1 c2) ∈ tl' ∧ Turn prog w h₀ L rows anew rl al kl p1 p2 rv av kv tl' o4 o5)) (fun _ _ => False) { s with heap := h, toks := tk } := by
  have od' := od
  obtain ⟨l1, l2, l3⟩ := od'
  have o105 : Off8 L rl al kl 105 := by unfold Off8; omega
  have N5 : News h₀ L h ((105, tabObj #[]) :: (L + 1 + 1 + 1 + 1 + 1, o1) :: (L + 1 + 1 + 1 + 1, o2) :: (L + 1 + 1 + 1, o3) :: (L + 1 + 1, o4) :: (L + 1, o5) :: (rl, W.listOf rv.toArray n1) :: (al, W.listOf av.toArray n2) :: (kl, W.listOf kv.toArray n3) :: tl) := by
    refine newsSub N fun q hq => ?_
    simp only [List.mem_cons] at hq ⊢
    rcases hq with h | h | h | h | h | h | h | h | h | h <;> simp only [h, true_or, or_true]
  have hne5 : ∀ p ∈ ((L + 1 + 1 + 1 + 1 + 1, o1) :: (L + 1 + 1 + 1 + 1, o2) :: (L + 1 + 1 + 1, o3) :: (L + 1 + 1, o4) :: (L + 1, o5) :: (rl, W.listOf rv.toArray n1) :: (al, W.listOf av.toArray n2) :: (kl, W.listOf kv.toArray n3) :: tl), p.1 ≠ 105 := by
    obtain ⟨c1, c2, c3, c4, c5, c6, c7, c8⟩ := o105
    exact List.forall_mem_cons.mpr ⟨Ne.symm c1, List.forall_mem_cons.mpr ⟨Ne.symm c2, List.forall_mem_cons.mpr ⟨Ne.symm c3, List.forall_mem_cons.mpr ⟨Ne.symm c4, List.forall_mem_cons.mpr ⟨Ne.symm c5, List.forall_mem_cons.mpr ⟨Ne.symm c6, List.forall_mem_cons.mpr ⟨Ne.symm c7, List.forall_mem_cons.mpr ⟨Ne.symm c8, fun p hp => (otl p hp).2⟩⟩⟩⟩⟩⟩⟩⟩
  clear N
  walk_at "law open"
  walk_at "my steps"
  all_goals (try k_data)
  with_reducible rename Fr _ _ _ _ => Fn
  with_reducible rename News _ _ _ _ => Nn
  refine' stMk Fn Nn (led L o1 o2 o3 o4 o5 [] rl al kl rv av kv n1 n2 n3 ((105, tab2 c1 c2) :: (tl ++ pobjs1 ++ pobjs2))) ?sub ⟨pg1, pg2, _, c1, c2, ⟨rfl, rfl, q2, q3⟩, rfl, .head _, ⟨r1, r8, la, Lr, La, kr, ka, kin, hS, hA, ?P1, ?P2, ?K, d4, d5, od, ?otl⟩⟩
  case P2 => exact fun H e ht hl => page2 H e (fun p hp => ht p (.tail _ (List.mem_append_right _ hp))) (ht (c1, oc1) (.tail _ (List.mem_append_left _ (List.mem_append_right _ mc1)))) (ht (c2, oc2) (.tail _ (List.mem_append_left _ (List.mem_append_right _ mc2)))) hl
  case P1 => exact fun H e ht hl => page1 H e (fun p hp => ht p (.tail _ (List.mem_append_left _ (List.mem_append_right _ hp)))) hl
  case K =>
    refine hK.imp fun a y hq => ?_
    obtain ⟨ai, oi, e1, e2⟩ := hq
    exact ⟨ai, oi, e1, .tail _ (List.mem_append_left _ (List.mem_append_left _ e2))⟩
  case otl =>
    refine List.forall_mem_cons.mpr ⟨o105, fun p hp => ?_⟩
    rcases List.mem_append.mp hp with hp | hp
    · rcases List.mem_append.mp hp with hp | hp
      · exact (otl p hp).1
      · exact of1 p hp
    · exact of2 p hp
  case sub => walk_at "my sub"
end

-- part Zf_3
theorem fillZf : (PySem.Challenge.rw_dm0163_03, hd.heap_39) = (PySem.Challenge.rw_dm0163_03, hd.heap_39) := by k_fill; rfl
theorem toldTup {h : Heap} {a : Addr} {rows : List Str} {f l : Int} {H : Str} {t1 t2 t3 t4 : Tok} (e : h.get? a = some (toldObj rows f l H t1 t2 t3 t4)) : IsTup h a #[.str (d0 f) t1, .str (d0 l) t2, .str H t3, .str (cut rows f l) t4] := ⟨_, e, rfl, _, rfl⟩
local macro_rules | `(tactic| walk_at "call ref") => `(tactic| (k_dflt (refine text_call (by k_in) (Top.keeps (by assumption) (Fr.keep (by assumption))) (by omega) (News.isList (by k_asm) (by k_mem)) (by with_reducible assumption) (by omega) (by with_reducible assumption) (toldTup (News.get (by k_asm) (by k_mem))) (by omega) (by omega) (by omega) ?_); intro h' tk' t' he; (have F' := frExt (by assumption) he); (have N' := newsExt (by assumption) he); (try k_sweep)))
local macro_rules | `(tactic| walk_at "subscriptTail Name Slice ref ref") => `(tactic| ((with_reducible show wpAny _ _ (subscriptTail _ (Expr.Slice none (some _) none _) (Value.ref _) (Value.ref _)) _ _ _); (try dsimp only); k_dflt (refine slice_03 (s := ⟨_, _, _, _, _⟩) (by k_asm) (by k_asm) (toldTup (News.get (by k_asm) (by k_mem))) ?_); intro D' h' F' N' l1; (try k_lt l1); (try k_sweep)))
set_option hygiene false in
local macro_rules | `(tactic| walk_at "my open") => `(tactic| (obtain ⟨hn1, hn8, hla, hLr, hLa, hKr, hKa, hkin, hS, hA, hp1, hp2, hK, d4, d5, od, otl⟩ := C; (have lav := hA.length); (have lrv := hS.length); (have lkv := hK.len); obtain ⟨q1, q2, q3, q4⟩ := qn; (have ob1 : ∀ p ∈ tl, p.1 ≠ L + 1 + 1 + 1 + 1 + 1 := fun p hp => (otl p hp).1); (have ob2 : ∀ p ∈ tl, p.1 ≠ L + 1 + 1 + 1 + 1 := fun p hp => (otl p hp).2.1); (have ob3 : ∀ p ∈ tl, p.1 ≠ L + 1 + 1 + 1 := fun p hp => (otl p hp).2.2.1); obtain ⟨od1, od2, od3⟩ := od; (unfold led cels at N); (try simp only [List.cons_append, List.nil_append] at N); walk_at "law open"))
set_option hygiene false in
local macro_rules | `(tactic| walk_at "call ref") => `(tactic| (k_dflt (refine' fp_call (by k_in) (Top.keeps (by assumption) (Fr.keep (by assumption))) (by omega) ?kP ?kN ?kL (by omega) (by omega) ?_); (case kP => (with_reducible rename Fr _ _ _ _ => Fq); (with_reducible rename News _ _ _ _ => Nq); first | exact hp1 _ Fq.keep (fun p hp => (Nq p (by repeat (first | exact hp | refine List.mem_cons_of_mem _ ?_))).1) (News.isList Nq (by k_mem)) | exact hp2 _ Fq.keep (fun p hp => (Nq p (by repeat (first | exact hp | refine List.mem_cons_of_mem _ ?_))).1) (News.isList Nq (by k_mem))); (case kN => omega); (case kL => with_reducible assumption); intro h' tk' a' f' l' H' t1' t2' t3' t4' he ha1 ha2 hfp; (have oa' : Off8 L rl al kl a' := off8m (by with_reducible assumption) (by k_mem) (by k_mem) (by k_mem) (by k_mem) (by k_mem) (by k_mem) (by k_mem) (by k_mem) ha1); (have N' := newsAdd (by k_asm) (newsExt (by k_asm) he) ha1 ha2); (have F' := frExt (by assumption) he); (unfold Off8 at oa'); (try k_sweep)))
section
variable {prog : Program} {w : World} {dp un : Nat} {fr : Option (List Env)} {gd : Option (List Code)} {s : Shared} {h₀ : Heap} {p : Program} {loose : List Str} {mean : ExcName → Option Value} {mg mb : Str → Option Value} {L : Addr} {h : Heap} {tk : Nat} {m : Str → Option Value} {rows anew : List Str} {rl al kl sl p1 p2 : Addr} {rv av kv : List Value} {n1 n2 n3 : Nat} {tl : List (Addr × Obj)} {o1 o2 o3 o4 o5 : Obj}
set_option maxHeartbeats 4000000 in
theorem st0 (X : (hd.heap_39 w.params).In h₀) (T : Top p loose mean mg mb h₀) (hr : dp + 80 < recursionLimit) (C : Turn prog w h₀ L rows anew rl al kl p1 p2 rv av kv tl o4 o5) (qn : Names m al p1 p2 sl) (F : Fr h₀ L h m) {mark : Int} {tm : Tok} (hm0 : 0 ≤ mark) (hm1 : mark ≤ (rows.length : Int) + 2) (q7 : m (Str.ofString "mark") = some (.int mark tm)) {x3 : Option Value} (d3 : o3.data = .cell x3) (N : News h₀ L h (led L o1 o2 o3 o4 o5 [] rl al kl rv av kv n1 n2 n3 tl)) : wpAny (model prog w) (ar dp un fr gd) (exec (turnAt 0) (lawEnv L)) (St h₀ L s (fun m' news' => Names m' al p1 p2 sl ∧ m' (Str.ofString "mark") = some (.int mark tm) ∧ ∃ a1 f1 l1 H1 t1 t2 t3 t4 a2 f2 l2 H2 u1 u2 u3 u4 o3', o3'.data = .cell (some (.ref a1)) ∧ m' (Str.ofString "other") = some (.ref a2) ∧ FP rows mark f1 l1 H1 ∧ FP anew mark f2 l2 H2 ∧ Off8 L rl al kl a1 ∧ Off8 L rl al kl a2 ∧ news' = led L o1 o2 o3' o4 o5 [(a2, toldObj anew f2 l2 H2 u1 u2 u3 u4), (a1, toldObj rows f1 l1 H1 t1 t2 t3 t4)] rl al kl rv av kv n1 n2 n3 tl)) (fun _ _ => False) { s with heap := h, toks := tk } := by
  walk_at "my open"
  walk_at "my steps"
  all_goals (try k_data)
  with_reducible rename Fr _ _ _ _ => Fn
  with_reducible rename News _ _ _ _ => Nn
  refine' stMk (s := s) Fn Nn _ ?sub ⟨⟨q1, q2, q3, q4⟩, q7, _, _, _, _, _, _, _, _, _, _, _, _, _, _, _, _, _, ?d, rfl, ?fa, ?fb, ?o1, ?o2, rfl⟩
  case d => with_reducible assumption
  case fa => with_reducible assumption
  case fb => with_reducible assumption
  case sub => walk_at "my sub"
  case o1 => (unfold Off8; with_reducible assumption)
  case o2 => (unfold Off8; with_reducible assumption)
set_option maxHeartbeats 4000000 in
theorem st1 (X : (hd.heap_39 w.params).In h₀) (T : Top p loose mean mg mb h₀) (hr : dp + 80 < recursionLimit) (hu : un + 100 < cLine) (C : Turn prog w h₀ L rows anew rl al kl p1 p2 rv av kv tl o4 o5) (qn : Names m al p1 p2 sl) (F : Fr h₀ L h m) {a1 a2 : Addr} {f1 l1 : Int} {H1 : Str} {t1 t2 t3 t4 u1 u2 u3 u4 : Tok} (d3 : o3.data = .cell (some (.ref a1))) (q8 : m (Str.ofString "other") = some (.ref a2)) (b1 : 1 ≤ f1) (b2 : f1 ≤ l1) (b3 : l1 ≤ rows.length + 2) (okH : ok H1) (N : News h₀ L h (led L o1 o2 o3 o4 o5 [(a2, toldObj anew f1 l1 H1 u1 u2 u3 u4), (a1, toldObj rows f1 l1 H1 t1 t2 t3 t4)] rl al kl rv av kv n1 n2 n3 tl)) : wpAny (model prog w) (ar dp un fr gd) (exec (turnAt 1) (lawEnv L)) (St h₀ L s (fun m' news' => m' = m ∧ news' = led L o1 o2 o3 o4 o5 [(a2, toldObj anew f1 l1 H1 u1 u2 u3 u4), (a1, toldObj rows f1 l1 H1 t1 t2 t3 t4)] rl al kl rv av kv n1 n2 n3 tl)) (fun _ _ => False) { s with heap := h, toks := tk } := by
  walk_at "my open"
  have k1 := ok_d0 (n := f1) (by omega) (by omega)
  have k2 := ok_d0 (n := l1) (by omega) (by omega)
  have k3 := ok_cut hKr f1 l1
  have k4 := ok_cut hKa f1 l1
  walk_at "my steps"
  all_goals (try k_data)
  · rename (_ != _) = true => hq
    simp at hq
  · walk_at "my stay"
  · rename (_ && _) = false => hq
    simp at hq
end

-- part Zg_3
theorem fillZg : (PySem.Challenge.rw_dm0163_03, hd.heap_39) = (PySem.Challenge.rw_dm0163_03, hd.heap_39) := by k_fill; rfl
section
variable {prog : Program} {w : World} {dp un : Nat} {fr : Option (List Env)} {gd : Option (List Code)} {s : Shared} {h₀ : Heap} {p : Program} {loose : List Str} {mean : ExcName → Option Value} {mg mb : Str → Option Value} {L : Addr} {h : Heap} {tk : Nat} {m : Str → Option Value} {rows anew : List Str} {rl al kl sl p1 p2 : Addr} {rv av kv : List Value} {n1 n2 n3 : Nat} {tl : List (Addr × Obj)} {o1 o2 o3 o4 o5 : Obj} {a1 : Addr} {f1 l1 : Int} {H1 : Str} {t1 t2 t3 t4 : Tok}
set_option maxHeartbeats 4000000 in
theorem st2 (X : (hd.heap_39 w.params).In h₀) (T : Top p loose mean mg mb h₀) (hr : dp + 80 < recursionLimit) (C : Turn prog w h₀ L rows anew rl al kl p1 p2 rv av kv tl o4 o5) (qn : Names m al p1 p2 sl) (F : Fr h₀ L h m) {mark : Int} {tm : Tok} (q7 : m (Str.ofString "mark") = some (.int mark tm)) (d3 : o3.data = .cell (some (.ref a1))) (b1 : 1 ≤ f1) (b2 : f1 ≤ l1) (b3 : l1 ≤ rows.length + 2) (oa1 : Off8 L rl al kl a1) {x1 x2 : Option Value} (d1 : o1.data = .cell x1) (d2 : o2.data = .cell x2) (N : News h₀ L h (led L o1 o2 o3 o4 o5 [(a1, toldObj rows f1 l1 H1 t1 t2 t3 t4)] rl al kl rv av kv n1 n2 n3 tl)) : wpAny (model prog w) (ar dp un fr gd) (exec (turnAt 2) (lawEnv L)) (St h₀ L s (fun m' news' => Names m' al p1 p2 sl ∧ m' (Str.ofString "mark") = some (.int mark tm) ∧ ∃ o1' o2' v1 v2, o1'.data = .cell (some (.int l1 v1)) ∧ o2'.data = .cell (some (.int f1 v2)) ∧ news' = led L o1' o2' o3 o4 o5 [(a1, toldObj rows f1 l1 H1 t1 t2 t3 t4)] rl al kl rv av kv n1 n2 n3 tl)) (fun _ _ => False) { s with heap := h, toks := tk } := by
  have oa1' := oa1
  unfold Off8 at oa1'
  walk_at "my open"
  walk_at "my steps"
  all_goals (try k_data)
  with_reducible rename Fr _ _ _ _ => Fn
  with_reducible rename News _ _ _ _ => Nn
  refine' stMk (s := s) Fn Nn _ ?sub ⟨⟨q1, q2, q3, q4⟩, q7, _, _, _, _, ?e1, ?e2, rfl⟩
  case e1 => with_reducible assumption
  case e2 => with_reducible assumption
  case sub => walk_at "my sub"
end

-- part Py_3
/-- the first row from the mark on that isn't white, or the one below the page -/
def Solid (rows : List Str) (mark k : Int) : Prop := mark ≤ k ∧ k ≤ rows.length + 1 ∧ (∀ j, mark ≤ j → j < k → isWs (lineAt rows j) = true) ∧ (k ≤ (rows.length : Int) → isWs (lineAt rows k) = false)
theorem solid_head {rows : List Str} : ∀ (n : Nat) {mark : Int}, mark + n = rows.length + 1 → ∃ k rest, (rangeKs mark n).filter (fun k => !isWs (lineAt rows k)) ++ [(rows.length : Int) + 1] = k :: rest ∧ Solid rows mark k
  | 0, mark, h => ⟨rows.length + 1, [], by simp [rangeKs], by omega, Int.le_refl _, fun j a b => absurd b (by omega), fun q => absurd q (by omega)⟩
  | n + 1, mark, h => by
    have e : rangeKs mark (n + 1) = mark :: rangeKs (mark + 1) n := by
      unfold rangeKs
      rw [List.range_succ_eq_map, List.map_cons, List.map_map]
      congr 1
      · simp
      · apply List.map_congr_left
        intro i _
        show mark + ((i + 1 : Nat) : Int) = mark + 1 + (i : Int)
        omega
    rw [e]
    cases hw : isWs (lineAt rows mark) with
    | false =>
      have hs : Solid rows mark mark := ⟨Int.le_refl _, by omega, fun j a b => absurd b (by omega), fun _ => hw⟩
      exact ⟨mark, _, by rw [List.filter_cons_of_pos (by simp [hw])]; rfl, hs⟩
    | true =>
      obtain ⟨k, rest, e1, a, b, c, d⟩ := solid_head (rows := rows) n (mark := mark + 1) (by omega)
      refine ⟨k, rest, by rw [List.filter_cons_of_neg (by simp [hw])]; exact e1, by omega, b, fun j x y => ?_, d⟩
      by_cases q : j = mark
      · subst q; exact hw
      · exact c j (by omega) y
/-- the solid rows from the mark on -/
theorem solid_skip {rows : List Str} {mark M E : Int} {cnt : Nat} (h0 : 0 ≤ mark) (h1 : mark ≤ rows.length + 2) (hM : (if 1 > mark then 1 else mark) = M) (hE : (if (rows.length : Int) + 1 > mark then (rows.length : Int) + 1 else mark) = E) (hc : cnt = ((rows.length : Int) + 1 - M).toNat) :
    ∃ k rest, (rangeKs M cnt).filter (fun k => !isWs (lineAt rows k)) ++ [E] = k :: rest ∧ Skip rows mark k := by
  by_cases q : mark = rows.length + 2
  · have hM2 : M = mark := by rw [← hM, if_neg (by omega)]
    have hE2 : E = mark := by rw [← hE, if_neg (by omega)]
    have hc0 : cnt = 0 := by omega
    subst hc0
    rw [hE2]
    exact ⟨mark, [], by simp [rangeKs], Int.le_refl _, fun j a b => absurd b (by omega), fun x => absurd x.1 (by omega)⟩
  · have hM1 : 1 ≤ M ∧ mark ≤ M ∧ (M = mark ∨ (M = 1 ∧ mark = 0)) ∧ M ≤ rows.length + 1 := by
      rw [← hM]; split <;> omega
    have hE2 : E = rows.length + 1 := by rw [← hE]; split <;> omega
    rw [hE2]
    obtain ⟨k, rest, e, a, b, c, d⟩ := solid_head (rows := rows) cnt (mark := M) (by omega)
    refine ⟨k, rest, e, by omega, fun j x y => ⟨by omega, ?_⟩, fun x => by rw [d x.1] at x; exact absurd x.2 (by decide)⟩
    by_cases z : M ≤ j
    · exact c j z y
    · have : j = 0 := by omega
      subst this
      rw [lineAt_zero]; exact ws_empty
theorem fp_at {rows : List Str} {mark f l k : Int} {H : Str} (h : FP rows mark f l H) (hk : Skip rows mark k) : f ≤ k ∧ k ≤ l ∧ H = hdr (lineAt rows k) ∧ (k < l ↔ full (lineAt rows k) = true) := by
  obtain ⟨k', s, e, ⟨g1, g2, g3⟩, z0, z1, z2, z3⟩ := h
  obtain rfl := skip_uniq hk s
  refine ⟨by omega, g1, e, fun q => ?_, fun q => ?_⟩
  · exact (good_iff.mp (g2 _ (Int.le_refl _) q)).2
  · rcases Int.lt_or_eq_of_le g1 with x | x
    · exact x
    · subst x; exact absurd (good_iff.mpr ⟨e.symm, q⟩) g3
/-- the rows of the header between the told ones -/
theorem alike_range3 {rows : List Str} {mark f l : Int} {H : Str} (h : FP rows mark f l H) (h0 : 0 ≤ mark) (h1 : mark ≤ rows.length + 2) :
    (alikes rows H).filter (fun j => decide (f - 2 < j) && decide (j ≤ l)) = (List.range (l - f).toNat).map (fun (i : Nat) => f + (i : Int)) := by
  by_cases hl : l ≤ rows.length + 1
  · exact alike_range h h0 hl
  · obtain ⟨k, s, e, ⟨g1, g2, g3⟩, z0, z1, z2, z3⟩ := h
    have hk : k = rows.length + 2 ∧ l = k := by
      have hlk : l = k := by
        rcases Int.lt_or_eq_of_le g1 with q | q
        · have := good_le (g2 (l - 1) (by omega) (by omega)); omega
        · exact q.symm
      obtain ⟨s1, s2, s3⟩ := s
      rcases Int.lt_or_eq_of_le s1 with q | q
      · have := (s2 (k - 1) (by omega) (by omega)).1; omega
      · omega
    have hf : f = l := by
      by_cases q : f - 1 < k - 1
      · have := good_le (z2 (k - 1) q (Int.le_refl _)); omega
      · omega
    rw [hf, show (l - l).toNat = 0 by omega]
    rw [List.range_zero, List.map_nil, List.filter_eq_nil_iff]
    intro j hj q
    rw [Bool.and_eq_true, decide_eq_true_eq, decide_eq_true_eq] at q
    unfold alikes at hj
    obtain ⟨i, hi, rfl⟩ := List.mem_map.mp hj
    have := List.mem_range.mp (List.mem_filter.mp hi).1
    omega
theorem fp_same {rows anew : List Str} {mark f l f' l' : Int} {H H' : Str} (hlen : anew.length = rows.length) (hk : ∀ j, Kin (lineAt rows j) (lineAt anew j)) (h : FP rows mark f l H) (h' : FP anew mark f' l' H') : f' = f ∧ l' = l ∧ H' = H :=
  fp_uniq h' (fp_kin hlen.symm hk h)
theorem alikes_len (rows : List Str) (H : Str) : (alikes rows H).length ≤ rows.length := by
  unfold alikes
  rw [List.length_map]
  exact Nat.le_trans (List.length_filter_le _ _) (by rw [List.length_range]; exact Nat.le_refl _)

-- part Zi_3
theorem fillZi : (PySem.Challenge.rw_dm0163_03, hd.heap_39) = (PySem.Challenge.rw_dm0163_03, hd.heap_39) := by k_fill; rfl
theorem addL {prog : Program} {w : World} {A : Around} {E Q : Value → Shared → Prop} {s : Shared} {h₀ : Heap} {L : Addr} {m : Str → Option Value} {news : List (Addr × Obj)} {a b : Addr} {vs ws : List Value} (F : Fr h₀ L s.heap m) (N : News h₀ L s.heap news) (ha : s.heap.IsList a vs.toArray) (hb : s.heap.IsList b ws.toArray) (hz : vs.length + ws.length ≤ 1000)
    (h : ∀ D h', Fr h₀ L h' m → News h₀ L h' ((D, W.listOf (vs ++ ws).toArray 0) :: news) → (∀ p ∈ news, p.1 < D) → Q (.ref D) { s with heap := h' }) : wpAny (model prog w) A (binaryOp .Add (.ref a) (.ref b)) Q E s :=
  add_lists F N ha hb (fun h' F' N' => h _ h' F' N' (fun p hp => Heap.lt_size (N p hp).1)) (by rw [show sizeLine = 16777216 from rfl]; omega)
local macro_rules | `(tactic| walk_at "binaryOp Add ref ref") => `(tactic| (k_dflt (refine addL (by k_asm) (by k_asm) (News.isList (by k_asm) (by k_mem)) (News.isList (by k_asm) (by k_mem)) (by (simp only [List.length_cons, List.length_nil, List.length_append]); omega) ?_); intro D' h' F' N' l1; (try k_lt l1); (try k_sweep)))
section
variable {prog : Program} {w : World} {dp un : Nat} {fr : Option (List Env)} {gd : Option (List Code)} {s : Shared} {h₀ : Heap} {p : Program} {loose : List Str} {mean : ExcName → Option Value} {mg mb : Str → Option Value} {L : Addr} {h : Heap} {tk : Nat} {m : Str → Option Value} {rows anew : List Str} {rl al kl sl p1 p2 : Addr} {rv av kv : List Value} {n1 n2 n3 : Nat} {tl : List (Addr × Obj)} {o1 o2 o3 o4 o5 : Obj} {a1 : Addr} {f1 l1 : Int} {H1 : Str} {t1 t2 t3 t4 v1 v2 : Tok}
set_option maxHeartbeats 4000000 in
theorem st5 (X : (hd.heap_39 w.params).In h₀) (T : Top p loose mean mg mb h₀) (hr : dp + 80 < recursionLimit) (C : Turn prog w h₀ L rows anew rl al kl p1 p2 rv av kv tl o4 o5) (qn : Names m al p1 p2 sl) (F : Fr h₀ L h m) {mark : Int} {tm : Tok} (hm0 : 0 ≤ mark) (hm1 : mark ≤ (rows.length : Int) + 2) (q7 : m (Str.ofString "mark") = some (.int mark tm)) (N : News h₀ L h (led L o1 o2 o3 o4 o5 [(a1, toldObj rows f1 l1 H1 t1 t2 t3 t4)] rl al kl rv av kv n1 n2 n3 tl)) : wpAny (model prog w) (ar dp un fr gd) (exec (turnAt 5) (lawEnv L)) (St h₀ L s (fun m' news' => Names m' al p1 p2 sl ∧ m' (Str.ofString "mark") = some (.int mark tm) ∧ ∃ sd k0 t0 srest, Skip rows mark k0 ∧ m' (Str.ofString "solid") = some (.ref sd) ∧ news' = led L o1 o2 o3 o4 o5 [(sd, W.listOf (Value.int k0 t0 :: srest).toArray 0), (a1, toldObj rows f1 l1 H1 t1 t2 t3 t4)] rl al kl rv av kv n1 n2 n3 tl)) (fun _ _ => False) { s with heap := h, toks := tk } := by
  walk_at "my open"
  walk_at "my steps"
  all_goals (try k_data)
  with_reducible rename Fr _ _ _ _ => Fc
  with_reducible rename News _ _ _ _ => NN
  rename IsRange _ _ _ _ _ _ _ _ => hR
  generalize hM : (if 1 > mark then 1 else mark) = M at hR
  have hM1 : 1 ≤ M ∧ M ≤ rows.length + 2 := by rw [← hM]; split <;> omega
  generalize hE : (if (rows.length : Int) + 1 > mark then (rows.length : Int) + 1 else mark) = E
  generalize hcnt : ((rows.length : Int) + 1 - M).toNat = cnt
  obtain ⟨k0, rest, eS, hsk⟩ := solid_skip hm0 hm1 hM hE hcnt.symm
  refine LCt.CompSrcT.range rfl Fc NN hR (small_one (by omega) (by omega) (by omega) (by omega)) (n := cnt) (by rw [rangeSize_nat]; omega) (by rw [show sizeLine = 16777216 from rfl]; omega) (fun g => rest_filter (n := cnt) (rangeKs M cnt) (fun k v => IsI k v) (fun k v => IsI k v) (fun k => !isWs (lineAt rows k)) (rangeKs_length _ _) (fun i v hi e => ⟨M + i, by unfold rangeKs; rw [List.getElem?_map, List.getElem?_range hi]; rfl, e⟩) True.intro ?test ?turn ?fin)
  case test =>
    intro j v I oI C oC D m₂ ys h tk E' hj hr hC hx F N off ne
    obtain ⟨t, rfl⟩ := hr
    have hj' := mem_rangeKs hj
    have hrl : (lineAt rows j).length ≤ 16777216 := Nat.le_trans (len_lineAt hLr j) (by decide)
    have hsw := strip_white (lineAt rows j)
    rw [show lineAt rows j = rows.getD (j - 1).toNat Str.empty from if_pos ⟨by omega, by omega⟩] at hrl hsw ⊢
    walk_at "my steps"
    all_goals (try k_data)
    refine ⟨_, _, rfl, by with_reducible assumption, by with_reducible assumption, ?_⟩
    show Value.bool (!(Txt.strip (rows.getD (j - 1).toNat Str.empty) == Str.ofString "")) = _
    rw [hsw]
  case turn =>
    intro j v I oI C oC D m₂ ys h tk E' hj hp hr hC hx F N off ne
    obtain ⟨t, rfl⟩ := hr
    walk_at "my steps"
    all_goals (try k_data)
    exact ⟨_, _, rfl, by assumption, by assumption, _, rfl⟩
  case fin =>
    intro ys hys
    have hst := hys.ints
    rw [List.map_id'] at hst
    have hyl := hst.length
    have hfl := List.length_filter_le (fun k => !isWs (lineAt rows k)) (rangeKs M cnt)
    rw [rangeKs_length] at hfl
    clear hys
    walk_at "my steps"
    all_goals (try k_data)
    with_reducible rename Fr _ _ _ _ => Fn
    with_reducible rename News _ _ _ _ => Nn
    rw [lrv, hE] at Nn
    generalize List.filter (fun k => !isWs (lineAt rows k)) (rangeKs M cnt) = fs at hst eS hyl hfl
    cases hst with
    | nil =>
      injection eS with e1 e2
      subst e1
      refine' stMk Fn Nn _ ?sub ⟨⟨q1, q2, q3, q4⟩, q7, _, _, _, [], hsk, rfl, rfl⟩
      case sub => walk_at "my sub"
    | cons n t r =>
      injection eS with e1 e2
      subst e1
      refine' stMk Fn Nn _ ?sub ⟨⟨q1, q2, q3, q4⟩, q7, _, _, _, _, hsk, rfl, rfl⟩
      case sub => walk_at "my sub"
set_option maxHeartbeats 4000000 in
theorem st6 (X : (hd.heap_39 w.params).In h₀) (T : Top p loose mean mg mb h₀) (hr : dp + 80 < recursionLimit) (C : Turn prog w h₀ L rows anew rl al kl p1 p2 rv av kv tl o4 o5) (qn : Names m al p1 p2 sl) (F : Fr h₀ L h m) (d1 : o1.data = .cell (some (.int l1 v1))) (d2 : o2.data = .cell (some (.int f1 v2))) {sd : Addr} {k0 : Int} {t0 : Tok} {srest : List Value} (q8 : m (Str.ofString "solid") = some (.ref sd)) (c1 : f1 ≤ k0) (c2 : k0 ≤ l1) {ot : Obj} (N : News h₀ L h (led L o1 o2 o3 o4 o5 [(sd, W.listOf (Value.int k0 t0 :: srest).toArray 0), (a1, ot)] rl al kl rv av kv n1 n2 n3 tl)) : wpAny (model prog w) (ar dp un fr gd) (exec (turnAt 6) (lawEnv L)) (St h₀ L s (fun m' news' => m' = m ∧ news' = led L o1 o2 o3 o4 o5 [(sd, W.listOf (Value.int k0 t0 :: srest).toArray 0), (a1, ot)] rl al kl rv av kv n1 n2 n3 tl)) (fun _ _ => False) { s with heap := h, toks := tk } := by
  have hx : (Value.int k0 t0 :: srest)[(0 : Int).toNat]? = some (Value.int k0 t0) := rfl
  walk_at "my open"
  walk_at "my steps"
  all_goals (try k_data)
  all_goals (walk_at "my stay")
end

-- part Zh_3
theorem fillZh : (PySem.Challenge.rw_dm0163_03, hd.heap_39) = (PySem.Challenge.rw_dm0163_03, hd.heap_39) := by k_fill; rfl
theorem kind_at {rows : List Str} {kv : List Value} {tl : List (Addr × Obj)} (hK : All2 (KindAt tl) rows kv) {i : Int} (h0 : 0 ≤ i) (h1 : i < rows.length) : ∃ ai t, kv[i.toNat]? = some (.ref ai) ∧ (ai, kindO (hdr (rows.getD i.toNat Str.empty)) (full (rows.getD i.toNat Str.empty)) t) ∈ tl := by
  have hlt : i.toNat < rows.length := by omega
  obtain ⟨b, hb, ai, t, rfl, hm⟩ := hK.at i.toNat rows[i.toNat] (List.getElem?_eq_getElem hlt)
  refine ⟨ai, t, hb, ?_⟩
  rw [List.getD_eq_getElem?_getD, List.getElem?_eq_getElem hlt]
  exact hm
section
variable {prog : Program} {w : World} {dp un : Nat} {fr : Option (List Env)} {gd : Option (List Code)} {E Q : Value → Shared → Prop} {s : Shared} {a b : Addr}
theorem eq_kind {H1 H : Str} {c : Bool} {t k1 : Tok} (ha : s.heap.get? a = some (kindO H1 c t)) (hb : s.heap.get? b = some { cls := .type "tuple", data := .seq #[.str H k1, .bool true] }) (hu : un + 100 < cLine) (hx : ok H1) (hH : ok H)
    (h : Q (.bool (H1 == H && c)) s) : wpAny (model prog w) (ar dp un fr gd) (compareOp .Eq (.ref a) (.ref b)) Q E s := by
  have ra : Reads s.heap (.ref a) (.tuple [.str H1, .bool c]) _ := reads_tuple_at ha rfl rfl (.cons (.str _ _) (.cons (.bool _) .nil))
  have rb : Reads s.heap (.ref b) (.tuple [.str H, .bool true]) _ := reads_tuple_at hb rfl rfl (.cons (.str _ _) (.cons (.bool _) .nil))
  refine eq_dataH ra rb (shapedSB hx) (shapedSB hH) (by show un + 64 < _; omega) ?_
  simp only [PyData.eqv, PyData.eqvAll, Bool.and_true, beq_true]
  exact h
end
local macro_rules | `(tactic| walk_at "compareOp Eq ref ref") => `(tactic| (k_dflt (refine eq_kind (News.get (by k_asm) (by k_mem)) (News.get (by k_asm) (by k_mem)) (by with_reducible assumption) (by with_reducible assumption) (by with_reducible assumption) ?_)))
section
variable {prog : Program} {w : World} {dp un : Nat} {fr : Option (List Env)} {gd : Option (List Code)} {s : Shared} {h₀ : Heap} {p : Program} {loose : List Str} {mean : ExcName → Option Value} {mg mb : Str → Option Value} {L : Addr} {h : Heap} {tk : Nat} {m : Str → Option Value} {rows anew : List Str} {rl al kl sl p1 p2 : Addr} {rv av kv : List Value} {n1 n2 n3 : Nat} {tl : List (Addr × Obj)} {o1 o2 o3 o4 o5 : Obj} {a1 : Addr} {f1 l1 : Int} {H1 : Str} {t1 t2 t3 t4 v1 v2 : Tok}
set_option maxHeartbeats 4000000 in
theorem st3 (X : (hd.heap_39 w.params).In h₀) (T : Top p loose mean mg mb h₀) (hr : dp + 80 < recursionLimit) (hu : un + 100 < cLine) (C : Turn prog w h₀ L rows anew rl al kl p1 p2 rv av kv tl o4 o5) (qn : Names m al p1 p2 sl) (F : Fr h₀ L h m) {mark : Int} {tm : Tok} (q7 : m (Str.ofString "mark") = some (.int mark tm)) (d3 : o3.data = .cell (some (.ref a1))) (okH : ok H1) (N : News h₀ L h (led L o1 o2 o3 o4 o5 [(a1, toldObj rows f1 l1 H1 t1 t2 t3 t4)] rl al kl rv av kv n1 n2 n3 tl)) : wpAny (model prog w) (ar dp un fr gd) (exec (turnAt 3) (lawEnv L)) (St h₀ L s (fun m' news' => Names m' al p1 p2 sl ∧ m' (Str.ofString "mark") = some (.int mark tm) ∧ ∃ ka av', IntsAre av' (alikes rows H1) ∧ m' (Str.ofString "alike") = some (.ref ka) ∧ news' = led L o1 o2 o3 o4 o5 [(ka, LCg.lst av'), (a1, toldObj rows f1 l1 H1 t1 t2 t3 t4)] rl al kl rv av kv n1 n2 n3 tl)) (fun _ _ => False) { s with heap := h, toks := tk } := by
  walk_at "my open"
  refine LCt.Assign_ListComp_T (F₀ := by k_asm) (by rfl) (by with_unfolding_all rfl) (by with_unfolding_all rfl) (by decide) (by rfl) (by decide) (by rfl) (by rfl) (by rfl) ?_
  walk_at "my steps"
  all_goals (try k_data)
  with_reducible rename Fr _ _ _ _ => Fc
  with_reducible rename News _ _ _ _ => NN
  rename IsRange _ _ _ _ _ _ _ _ => hR
  refine LCt.CompSrcT.range rfl Fc NN hR (small_one (by omega) (by omega) (by omega) (by omega)) (n := rows.length) (by rw [rangeSize_nat]; omega) (by rw [show sizeLine = 16777216 from rfl]; omega) (fun g => rest_filter (n := rows.length) (List.range rows.length) (fun j v => IsI (j : Int) v) (fun j v => IsI ((j : Int) + 1) v) (fun j => (hdr (rows.getD j Str.empty) == H1) && full (rows.getD j Str.empty)) List.length_range (fun i v hi e => ⟨i, List.getElem?_range hi, by obtain ⟨t, e⟩ := e; rw [Int.zero_add] at e; exact ⟨t, e⟩⟩) True.intro ?test ?turn ?fin)
  case test =>
    intro j v I oI C oC D m₂ ys h tk E' hj hr hC hx F N off ne
    obtain ⟨t, rfl⟩ := hr
    rw [List.mem_range] at hj
    obtain ⟨ai, ti, hx2, hmem⟩ := kind_at hK (i := (j : Int)) (by omega) (by omega)
    rw [Int.toNat_natCast] at hmem
    have hok := ok_hdr (hKr (rows.getD j Str.empty) (by rw [List.getD_eq_getElem?_getD, List.getElem?_eq_getElem hj]; exact List.getElem_mem hj))
    generalize rows.getD j Str.empty = row at hmem hok ⊢
    have N2 := newsAddMem N (by walk_at "my mem") hmem
    clear N
    walk_at "my steps"
    all_goals (try k_data)
    with_reducible rename Fr _ _ _ _ => Fn
    with_reducible rename News _ _ _ _ => Nn
    exact ⟨_, _, rfl, Fn, newsSub Nn (by walk_at "my sub"), rfl⟩
  case turn =>
    intro j v I oI C oC D m₂ ys h tk E' hj hp hr hC hx F N off ne
    obtain ⟨t, rfl⟩ := hr
    walk_at "my steps"
    all_goals (try k_data)
    exact ⟨_, _, rfl, by assumption, by assumption, _, rfl⟩
  case fin =>
    intro ys hys
    walk_at "my steps"
    all_goals (try k_data)
    with_reducible rename Fr _ _ _ _ => Fn
    with_reducible rename News _ _ _ _ => Nn
    refine' stMk Fn Nn _ ?sub ⟨⟨q1, q2, q3, q4⟩, q7, _, _, hys.ints, rfl, rfl⟩
    case sub => walk_at "my sub"
set_option maxHeartbeats 4000000 in
theorem st4 (X : (hd.heap_39 w.params).In h₀) (T : Top p loose mean mg mb h₀) (hr : dp + 80 < recursionLimit) (hu : un + 100 < cLine) (C : Turn prog w h₀ L rows anew rl al kl p1 p2 rv av kv tl o4 o5) (qn : Names m al p1 p2 sl) (F : Fr h₀ L h m) (d1 : o1.data = .cell (some (.int l1 v1))) (d2 : o2.data = .cell (some (.int f1 v2))) (b1 : 1 ≤ f1) (b2 : f1 ≤ l1) (b3 : l1 ≤ rows.length + 2) {ka : Addr} {av' : List Value} (q9 : m (Str.ofString "alike") = some (.ref ka)) {as : List Int} (has : as.length ≤ 8) (hav : IntsAre av' as) (hA2 : as.filter (fun j => decide (f1 - 2 < j) && decide (j ≤ l1)) = (List.range (l1 - f1).toNat).map (fun (i : Nat) => f1 + (i : Int))) (N : News h₀ L h (led L o1 o2 o3 o4 o5 [(ka, LCg.lst av'), (a1, toldObj rows f1 l1 H1 t1 t2 t3 t4)] rl al kl rv av kv n1 n2 n3 tl)) : wpAny (model prog w) (ar dp un fr gd) (exec (turnAt 4) (lawEnv L)) (St h₀ L s (fun m' news' => m' = m ∧ news' = led L o1 o2 o3 o4 o5 [(a1, toldObj rows f1 l1 H1 t1 t2 t3 t4)] rl al kl rv av kv n1 n2 n3 tl)) (fun _ _ => False) { s with heap := h, toks := tk } := by
  walk_at "my open"
  walk_at "my steps"
  all_goals (try k_data)
  refine LCt.CompSrcT.ledger rfl F N (by k_mem) (by rw [List.size_toArray, hav.length, show sizeLine = 16777216 from rfl]; omega) (fun g => rest_filter as (fun j v => IsI j v) (fun j v => IsI j v) (fun j => decide (f1 - 2 < j) && decide (j ≤ l1)) (by rw [List.size_toArray]; exact hav.length.symm) (fun i v _ e => ints_at hav i v e) (.inr ⟨_, by k_mem, rfl, _, rfl⟩) ?test ?turn ?fin)
  case test =>
    intro j v I oI C oC D m₂ ys h tk E' hj hr hC hx F N off ne
    obtain ⟨t, rfl⟩ := hr
    walk_at "my steps"
    all_goals (try k_data)
    · rename f1 - 2 < j => hq
      refine ⟨_, _, rfl, by with_reducible assumption, by with_reducible assumption, ?_⟩
      rw [decide_eq_true hq, Bool.true_and]
    · rename ¬ f1 - 2 < j => hq
      refine ⟨_, _, rfl, by with_reducible assumption, by with_reducible assumption, ?_⟩
      rw [decide_eq_false hq, Bool.false_and]
  case turn =>
    intro j v I oI C oC D m₂ ys h tk E' hj hp hr hC hx F N off ne
    obtain ⟨t, rfl⟩ := hr
    walk_at "my steps"
    all_goals (try k_data)
    exact ⟨_, _, rfl, by assumption, by assumption, _, rfl⟩
  case fin =>
    intro ys hys
    have hst := hys.ints
    rw [List.map_id'] at hst
    clear hys
    walk_at "my steps"
    all_goals (try k_data)
    · walk_at "my stay"
    · rename ¬ _ = rangeKs _ _ => hq
      exact absurd hA2 hq
end

-- part Zj_3
theorem fillZj : (PySem.Challenge.rw_dm0163_03, hd.heap_39) = (PySem.Challenge.rw_dm0163_03, hd.heap_39) := by k_fill; rfl
theorem kind_empty (t : Tok) : kindO (Str.ofString "") false t = kindO (hdr Str.empty) (full Str.empty) t := by
  rw [hdr_eq, white_not_full ws_empty]
  rfl
theorem item_kinds {h₀ h : Heap} {L : Addr} {rows : List Str} {kv : List Value} {tl all : List (Addr × Obj)} (N : News h₀ L h all) (hK : All2 (KindAt tl) rows kv) (htl : ∀ p ∈ tl, p ∈ all) {A B : Addr} {tA tB : Tok} (mA : (A, kindO (Str.ofString "") false tA) ∈ all) (mB : (B, kindO (Str.ofString "") false tB) ∈ all) {k0 : Int} (c1 : 1 ≤ k0) (c2 : k0 ≤ rows.length + 2) :
    ∃ ax t, (kv ++ [Value.ref A, Value.ref B])[(k0 - 1).toNat]? = some (.ref ax) ∧ (ax, kindO (hdr (lineAt rows k0)) (full (lineAt rows k0)) t) ∈ all := by
  have hl := hK.len
  by_cases q : k0 ≤ rows.length
  · obtain ⟨ai, t, e1, e2⟩ := kind_at hK (i := k0 - 1) (by omega) (by omega)
    refine ⟨ai, t, ?_, ?_⟩
    · rw [List.getElem?_append_left (by omega)]; exact e1
    · rw [show lineAt rows k0 = rows.getD (k0 - 1).toNat Str.empty from if_pos ⟨by omega, q⟩]
      exact htl _ e2
  · have e : lineAt rows k0 = Str.empty := if_neg (by omega)
    rw [e]
    rw [kind_empty] at mA mB
    by_cases q2 : k0 = rows.length + 1
    · refine ⟨A, tA, ?_, mA⟩
      rw [List.getElem?_append_right (by omega), show (k0 - 1).toNat - kv.length = 0 by omega]; rfl
    · refine ⟨B, tB, ?_, mB⟩
      rw [List.getElem?_append_right (by omega), show (k0 - 1).toNat - kv.length = 1 by omega]; rfl
section
variable {prog : Program} {w : World} {dp un : Nat} {fr : Option (List Env)} {gd : Option (List Code)} {E Q : Value → Shared → Prop} {s : Shared} {a b : Addr}
theorem ne_kind {H1 H : Str} {b1 c : Bool} {t k1 : Tok} (ha : s.heap.get? a = some { cls := .type "tuple", data := .seq #[.str H1 k1, .bool b1] }) (hb : s.heap.get? b = some (kindO H c t)) (hu : un + 100 < cLine) (hx : ok H1) (hH : ok H)
    (h : Q (.bool (!(H1 == H && b1 == c))) s) : wpAny (model prog w) (ar dp un fr gd) (compareOp .NotEq (.ref a) (.ref b)) Q E s := by
  have ra : Reads s.heap (.ref a) (.tuple [.str H1, .bool b1]) _ := reads_tuple_at ha rfl rfl (.cons (.str _ _) (.cons (.bool _) .nil))
  have rb : Reads s.heap (.ref b) (.tuple [.str H, .bool c]) _ := reads_tuple_at hb rfl rfl (.cons (.str _ _) (.cons (.bool _) .nil))
  refine ne_dataH ra rb (shapedSB hx) (shapedSB hH) (by show un + 64 < _; omega) ?_
  simp only [PyData.eqv, PyData.eqvAll, Bool.and_true]
  exact h
end
local macro_rules | `(tactic| walk_at "compareOp NotEq ref ref") => `(tactic| (k_dflt (refine ne_kind (News.get (by k_asm) (by k_mem)) (News.get (by k_asm) (by k_mem)) (by with_reducible assumption) (by with_reducible assumption) (by with_reducible assumption) ?_)))
section
variable {prog : Program} {w : World} {dp un : Nat} {fr : Option (List Env)} {gd : Option (List Code)} {s : Shared} {h₀ : Heap} {p : Program} {loose : List Str} {mean : ExcName → Option Value} {mg mb : Str → Option Value} {L : Addr} {h : Heap} {tk : Nat} {m : Str → Option Value} {rows anew : List Str} {rl al kl sl p1 p2 : Addr} {rv av kv : List Value} {n1 n2 n3 : Nat} {tl : List (Addr × Obj)} {o1 o2 o3 o4 o5 : Obj} {a1 : Addr} {f1 l1 : Int} {H1 : Str} {t1 t2 t3 t4 v1 v2 : Tok}
set_option maxHeartbeats 4000000 in
theorem st7 (X : (hd.heap_39 w.params).In h₀) (T : Top p loose mean mg mb h₀) (hr : dp + 80 < recursionLimit) (hu : un + 100 < cLine) (C : Turn prog w h₀ L rows anew rl al kl p1 p2 rv av kv tl o4 o5) (qn : Names m al p1 p2 sl) (F : Fr h₀ L h m) (d1 : o1.data = .cell (some (.int l1 v1))) (d3 : o3.data = .cell (some (.ref a1))) {sd : Addr} {k0 : Int} {t0 : Tok} {srest : List Value} (q8 : m (Str.ofString "solid") = some (.ref sd)) (okH : ok H1) (c1 : 1 ≤ k0) (c2 : k0 ≤ rows.length + 2) (eH : H1 = hdr (lineAt rows k0)) (ef : k0 < l1 ↔ full (lineAt rows k0) = true) (N : News h₀ L h (led L o1 o2 o3 o4 o5 [(sd, W.listOf (Value.int k0 t0 :: srest).toArray 0), (a1, toldObj rows f1 l1 H1 t1 t2 t3 t4)] rl al kl rv av kv n1 n2 n3 tl)) : wpAny (model prog w) (ar dp un fr gd) (exec (turnAt 7) (lawEnv L)) (St h₀ L s (fun m' news' => m' = m ∧ news' = led L o1 o2 o3 o4 o5 [] rl al kl rv av kv n1 n2 n3 tl)) (fun _ _ => False) { s with heap := h, toks := tk } := by
  have hx : (Value.int k0 t0 :: srest)[(0 : Int).toNat]? = some (Value.int k0 t0) := rfl
  walk_at "my open"
  walk_at "my steps"
  all_goals (try k_data)
  with_reducible rename Fr _ _ _ _ => Fn
  with_reducible rename News _ _ _ _ => Nn
  obtain ⟨ax, tx, e1, e2⟩ := item_kinds Nn hK (by walk_at "my mem") (.tail _ (.tail _ (.tail _ (.head _)))) (.tail _ (.tail _ (.head _))) c1 c2
  dsimp only
  refine item_listL (News.isList Nn (.head _)) (by omega) (by omega) e1 ?_
  have N2 := newsAddMem Nn (fun p hp => hp) e2
  have okK : ok (hdr (lineAt rows k0)) := ok_hdr (ok_line hKr k0)
  rw [← eH] at e2 N2 okK
  generalize full (lineAt rows k0) = fk at ef e2 N2
  clear Nn e1
  walk_at "my steps"
  all_goals (try k_data)
  · walk_at "my stay"
  · rename (_ && _) = false => hq
    have hdk : decide (k0 < l1) = fk := Bool.eq_iff_iff.mpr (by rw [decide_eq_true_eq]; exact ef)
    rw [hdk] at hq
    simp at hq
end

-- part Zk_3
theorem fillZk : (PySem.Challenge.rw_dm0163_03, hd.heap_39) = (PySem.Challenge.rw_dm0163_03, hd.heap_39) := by k_fill; rfl
set_option hygiene false in
local macro_rules | `(tactic| walk_at "call ref") => `(tactic| (k_dflt (refine marks_call (by k_in) (Top.keeps (by assumption) (Fr.keep (by assumption))) (by omega) (Fr.lst (by k_asm) hl) hI hn (by omega) (by omega) ?_); intro h' tk' D zs he hz hno hIz; (have oD : Off8 L rl al kl D := off8m (by with_reducible assumption) (by k_mem) (by k_mem) (by k_mem) (by k_mem) (by k_mem) (by k_mem) (by k_mem) (by k_mem) hno); (have N' := newsAdd (by k_asm) (newsExt (by k_asm) he) hno hz); (have F' := frExt (by assumption) he)))
section
variable {prog : Program} {w : World} {dp un : Nat} {fr : Option (List Env)} {gd : Option (List Code)} {s : Shared} {h₀ : Heap} {p : Program} {loose : List Str} {mean : ExcName → Option Value} {mg mb : Str → Option Value} {L : Addr} {h : Heap} {tk : Nat} {m : Str → Option Value} {rows anew : List Str} {rl al kl sl p1 p2 : Addr} {rv av kv : List Value} {n1 n2 n3 : Nat} {tl : List (Addr × Obj)} {o1 o2 o3 o4 o5 : Obj} {sc : List Int} {vs : List Value}
/-- what holds between the turns of the marks' loop -/
def LoopJ (L : Addr) (o4 o5 : Obj) (rl al kl sl p1 p2 : Addr) (rv av kv : List Value) (n1 n2 n3 : Nat) (tl : List (Addr × Obj)) (m' : Str → Option Value) (news' : List (Addr × Obj)) : Prop :=
  Names m' al p1 p2 sl ∧ ∃ o1 o2 o3 x1 x2 x3, o1.data = .cell x1 ∧ o2.data = .cell x2 ∧ o3.data = .cell x3 ∧ news' = led L o1 o2 o3 o4 o5 [] rl al kl rv av kv n1 n2 n3 tl
theorem turn (X : (hd.heap_39 w.params).In h₀) (T : Top p loose mean mg mb h₀) (hr : dp + 80 < recursionLimit) (hu : un + 100 < cLine) (C : Turn prog w h₀ L rows anew rl al kl p1 p2 rv av kv tl o4 o5) (qn : Names m al p1 p2 sl) (F : Fr h₀ L h m) {mark : Int} {tm : Tok} (hm0 : 0 ≤ mark) (hm1 : mark ≤ (rows.length : Int) + 2) (q7 : m (Str.ofString "mark") = some (.int mark tm)) {x1 x2 x3 : Option Value} (d1 : o1.data = .cell x1) (d2 : o2.data = .cell x2) (d3 : o3.data = .cell x3) (N : News h₀ L h (led L o1 o2 o3 o4 o5 [] rl al kl rv av kv n1 n2 n3 tl)) :
    wpAny (model prog w) (ar dp un fr gd) (execs turnFor (lawEnv L)) (St h₀ L s (LoopJ L o4 o5 rl al kl sl p1 p2 rv av kv n1 n2 n3 tl)) (fun _ _ => False) { s with heap := h, toks := tk } := by
  have b8 := C.n8
  rw [turnFor_eq]
  refine cutS _ (st0 X T hr C qn F hm0 hm1 q7 d3 N) ?_
  rintro h1 tk1 m1 _ F1 N1 ⟨qn1, q7, a1, f1, l1, H1, t1, t2, t3, t4, a2, f2, l2, H2, u1, u2, u3, u4, o3', d3', q8, FP1, FP2, oa1, oa2, rfl⟩
  obtain ⟨rfl, rfl, rfl⟩ := fp_same C.la C.kin FP1 FP2
  have bd := fp_bounds FP1 hm0
  have c1 := bd.1
  have c2 := bd.2.1
  have c3 : l2 ≤ rows.length + 2 := by omega
  have okH := ok_fp FP1 C.kr
  refine cutS _ (st1 X T hr hu C qn1 F1 d3' q8 c1 c2 c3 okH N1) ?_
  rintro h2 tk2 m2 _ F2 N2 ⟨rfl, rfl⟩
  have N2' : News h₀ L h2 (led L o1 o2 o3' o4 o5 [(a1, toldObj rows f2 l2 H2 t1 t2 t3 t4)] rl al kl rv av kv n1 n2 n3 tl) := by
    refine newsSub N2 fun q hq => ?_
    simp only [List.mem_cons, List.cons_append, List.nil_append] at hq ⊢
    rcases hq with h | h | h | h | h | h | h <;> simp only [h, true_or, or_true]
  refine cutS _ (st2 X T hr C qn1 F2 q7 d3' c1 c2 c3 oa1 d1 d2 N2') ?_
  rintro h3 tk3 m3 _ F3 N3 ⟨qn3, q7, o1', o2', v1, v2, d1', d2', rfl⟩
  refine cutS _ (st3 X T hr hu C qn3 F3 q7 d3' okH N3) ?_
  rintro h4 tk4 m4 _ F4 N4 ⟨qn4, q7, ka, av', hav, q9, rfl⟩
  refine cutS _ (st4 X T hr hu C qn4 F4 d1' d2' c1 c2 c3 q9 (Nat.le_trans (alikes_len rows H2) b8) hav (alike_range3 FP1 hm0 hm1) N4) ?_
  rintro h5 tk5 m5 _ F5 N5 ⟨rfl, rfl⟩
  refine cutS _ (st5 X T hr C qn4 F5 hm0 hm1 q7 N5) ?_
  rintro h6 tk6 m6 _ F6 N6 ⟨qn6, q7, sd, k0, t0, srest, hsk, q10, rfl⟩
  obtain ⟨e1, e2, e3, e4⟩ := fp_at FP1 hsk
  refine cutS _ (st6 X T hr C qn6 F6 d1' d2' q10 e1 e2 N6) ?_
  rintro h7 tk7 m7 _ F7 N7 ⟨rfl, rfl⟩
  refine cutS _ (st7 X T hr hu C qn6 F7 d1' d3' q10 okH (by omega) (by omega) e3 e4 N7) ?_
  rintro h8 tk8 m8 _ F8 N8 ⟨rfl, rfl⟩
  refine wpAny_execs_nil ?_
  exact stMk F8 N8 _ (fun p hp => hp) ⟨qn6, o1', o2', o3', _, _, _, d1', d2', d3', rfl⟩
theorem Turn.more {q : Addr × Obj} (C : Turn prog w h₀ L rows anew rl al kl p1 p2 rv av kv tl o4 o5) (hI : Off8 L rl al kl q.1) : Turn prog w h₀ L rows anew rl al kl p1 p2 rv av kv (q :: tl) o4 o5 := by
  obtain ⟨c1, c2, c3, c4, c5, c6, c7, c8, c9, c10, c11, c12, c13, c14, c15, c16, c17⟩ := C
  refine ⟨c1, c2, c3, c4, c5, c6, c7, c8, c9, c10, fun H e ht hl => c11 H e (fun p hp => ht p (.tail _ hp)) hl, fun H e ht hl => c12 H e (fun p hp => ht p (.tail _ hp)) hl, c13.imp fun a y hq => ?_, c14, c15, c16, List.forall_mem_cons.mpr ⟨hI, c17⟩⟩
  obtain ⟨ai, t, e1, e2⟩ := hq
  exact ⟨ai, t, e1, .tail _ e2⟩
theorem namesSet {x : Str} {v : Value} (q : Names m al p1 p2 sl) (h : x ≠ Str.ofString "before" ∧ x ≠ Str.ofString "after" ∧ x ≠ Str.ofString "anew" ∧ x ≠ Str.ofString "script") : Names (fun z => if z = x then some v else m z) al p1 p2 sl := by
  obtain ⟨a, b, c, d⟩ := q
  obtain ⟨h1, h2, h3, h4⟩ := h
  refine ⟨?_, ?_, ?_, ?_⟩
  · show (if _ then _ else _) = _
    rw [if_neg (Ne.symm h1)]; exact a
  · show (if _ then _ else _) = _
    rw [if_neg (Ne.symm h2)]; exact b
  · show (if _ then _ else _) = _
    rw [if_neg (Ne.symm h3)]; exact c
  · show (if _ then _ else _) = _
    rw [if_neg (Ne.symm h4)]; exact d
theorem led_swap {I : Addr} {oI : Obj} : ∀ q, q ∈ (I, oI) :: led L o1 o2 o3 o4 o5 [] rl al kl rv av kv n1 n2 n3 tl ↔ q ∈ led L o1 o2 o3 o4 o5 [] rl al kl rv av kv n1 n2 n3 ((I, oI) :: tl) := by
  intro q
  simp only [List.nil_append, List.mem_cons]
  constructor
  · rintro (h | h | h | h | h | h | h | h | h | h) <;> simp only [h, true_or, or_true]
  · rintro (h | h | h | h | h | h | h | h | h | h) <;> simp only [h, true_or, or_true]
theorem step (X : (hd.heap_39 w.params).In h₀) (T : Top p loose mean mg mb h₀) (hr : dp + 80 < recursionLimit) (hu : un + 100 < cLine) (C : Turn prog w h₀ L rows anew rl al kl p1 p2 rv av kv tl o4 o5) {Q : Flow → Shared → Prop} {mark : Int} {t : Tok} (hm0 : 0 ≤ mark) (hm1 : mark ≤ (rows.length : Int) + 2)
    (m₁ : Str → Option Value) (news₁ : List (Addr × Obj)) (h : Heap) (tk : Nat) (I : Addr) (oI : Obj) (hJ : LoopJ L o4 o5 rl al kl sl p1 p2 rv av kv n1 n2 n3 tl m₁ news₁) (hne : ∀ p ∈ news₁, p.1 ≠ I) (F : Fr h₀ L h (fun y => if y = Str.ofString "mark" then some (.int mark t) else m₁ y)) (N : News h₀ L h ((I, oI) :: news₁)) :
    wpAny (model prog w) (ar dp un fr gd) (execs turnFor (lawEnv L)) (Turned h₀ L s I oI (LoopJ L o4 o5 rl al kl sl p1 p2 rv av kv n1 n2 n3 tl) Q) (fun _ _ => False) { s with heap := h, toks := tk } := by
  obtain ⟨qn, o1, o2, o3, x1, x2, x3, d1, d2, d3, rfl⟩ := hJ
  have oI8 : Off8 L rl al kl I := ⟨fun e => hne (_, o1) (.head _) e.symm, fun e => hne (_, o2) (.tail _ (.head _)) e.symm, fun e => hne (_, o3) (.tail _ (.tail _ (.head _))) e.symm, fun e => hne (_, o4) (.tail _ (.tail _ (.tail _ (.head _)))) e.symm, fun e => hne (_, o5) (.tail _ (.tail _ (.tail _ (.tail _ (.head _))))) e.symm,
      fun e => hne (_, W.listOf rv.toArray n1) (.tail _ (.tail _ (.tail _ (.tail _ (.tail _ (.head _)))))) e.symm, fun e => hne (_, W.listOf av.toArray n2) (.tail _ (.tail _ (.tail _ (.tail _ (.tail _ (.tail _ (.head _))))))) e.symm, fun e => hne (_, W.listOf kv.toArray n3) (.tail _ (.tail _ (.tail _ (.tail _ (.tail _ (.tail _ (.tail _ (.head _)))))))) e.symm⟩
  refine wpAny_mono (turn X T hr hu (C.more (q := (I, oI)) oI8) (namesSet qn (by decide)) F hm0 hm1 (if_pos rfl) d1 d2 d3 (newsSub N (fun q hq => (led_swap q).mpr hq))) (fun f s₂ hq => ?_) fun _ _ e => e
  obtain ⟨rfl, h', tk', m', news', rfl, F', N', qn', o1', o2', o3', x1', x2', x3', d1', d2', d3', rfl⟩ := hq
  refine .inl ⟨rfl, h', tk', m', led L o1' o2' o3' o4 o5 [] rl al kl rv av kv n1 n2 n3 tl, rfl, F', newsSub N' (fun q hq => (led_swap q).mp hq), ?_, qn', o1', o2', o3', x1', x2', x3', d1', d2', d3', rfl⟩
  obtain ⟨c1, c2, c3, c4, c5, c6, c7, c8⟩ := oI8
  exact List.forall_mem_cons.mpr ⟨Ne.symm c1, List.forall_mem_cons.mpr ⟨Ne.symm c2, List.forall_mem_cons.mpr ⟨Ne.symm c3, fun q hq => hne q (.tail _ (.tail _ (.tail _ hq)))⟩⟩⟩
theorem startL {h' : Heap} {tk' : Nat} {all : List (Addr × Obj)} {D : Addr} {zs : List Value} {ns : List Int} (F : Fr h₀ L h' m) (N : News h₀ L h' all) (hD : (D, LCg.lst zs) ∈ all) (hs : ∀ p ∈ led L o1 o2 o3 o4 o5 [] rl al kl rv av kv n1 n2 n3 tl, p ∈ all) (hi : IntsAre zs ns) (o : Off8 L rl al kl D) (qn : Names m al p1 p2 sl) {x1 x2 x3 : Option Value} (d1 : o1.data = .cell x1) (d2 : o2.data = .cell x2) (d3 : o3.data = .cell x3) :
    LstAtA h₀ L s (fun its ax => IntsAre its.toList ns ∧ Off8 L rl al kl ax) (fun its ax _ => LoopJ L o4 o5 rl al kl sl p1 p2 rv av kv n1 n2 n3 ((ax, LCg.lst its.toList) :: tl)) (.ref D) { s with heap := h', toks := tk' } := by
  refine ⟨zs.toArray, D, m, led L o1 o2 o3 o4 o5 [] rl al kl rv av kv n1 n2 n3 ((D, LCg.lst zs) :: tl), h', tk', ⟨hi, o⟩, rfl, rfl, .inr ⟨LCg.lst zs, ?_, rfl, _, rfl⟩, F, newsSub N ?_, ⟨qn, o1, o2, o3, x1, x2, x3, d1, d2, d3, rfl⟩, fun i m' news' hJ => ?_⟩
  · simp only [List.nil_append, List.mem_cons, true_or, or_true]
  · intro q hq
    rcases List.mem_cons.mp ((led_swap q).mpr hq) with e | e
    · rw [e]; exact hD
    · exact hs q e
  · obtain ⟨_, _, _, _, _, _, _, _, _, _, rfl⟩ := hJ
    exact .inr ⟨LCg.lst zs, by simp only [List.nil_append, List.mem_cons, true_or, or_true], rfl, _, rfl⟩
theorem markBound {v : Value} {c : Int} (c1 : 1 ≤ c) {its : Array Value} (hI : IntsAre its.toList ((List.range 4).map (markOf sc c))) {i : Nat} (hi : its[i]? = some v) : ∃ mark t, v = .int mark t ∧ 0 ≤ mark ∧ mark < c := by
  obtain ⟨k, t, rfl, hk⟩ := IntsAre.at hI i v (by simpa using hi)
  obtain ⟨j, _, rfl⟩ := List.mem_map.mp (List.mem_of_getElem? hk)
  exact ⟨_, t, rfl, markOf_in c1⟩
set_option maxHeartbeats 4000000 in
theorem loop (X : (hd.heap_39 w.params).In h₀) (T : Top p loose mean mg mb h₀) (hr : dp + 80 < recursionLimit) (hu : un + 100 < cLine) (C : Turn prog w h₀ L rows anew rl al kl p1 p2 rv av kv tl o4 o5) (hl : h₀.IsList sl vs.toArray) (hI : IntsAre vs sc) (hn : sc.length ≤ 63) (F : Fr h₀ L h m) (qn : Names m al p1 p2 sl) {x1 x2 x3 : Option Value} (d1 : o1.data = .cell x1) (d2 : o2.data = .cell x2) (d3 : o3.data = .cell x3) (N : News h₀ L h (led L o1 o2 o3 o4 o5 [] rl al kl rv av kv n1 n2 n3 tl)) :
    wpAny (model prog w) (ar dp un fr gd) (exec (lawAt 3) (lawEnv L)) (St h₀ L s (LoopJ L o4 o5 rl al kl sl p1 p2 rv av kv n1 n2 n3 tl)) (fun _ _ => False) { s with heap := h, toks := tk } := by
  have hst := fun (its : Array Value) (ax : Addr) (hP : IntsAre its.toList ((List.range 4).map (markOf sc ((rows.length : Int) + 3))) ∧ Off8 L rl al kl ax) (i : Nat) (mark : Int) (t : Tok) (hm0 : 0 ≤ mark) (hm1 : mark ≤ (rows.length : Int) + 2) m₁ news₁ h tk I oI => step (fr := fr) (gd := gd) (sl := sl) (n1 := n1) (n2 := n2) (n3 := n3) (t := t) (s := { s with heap := h, toks := tk }) (Q := St h₀ L s (LoopJ L o4 o5 rl al kl sl p1 p2 rv av kv n1 n2 n3 tl)) X T hr hu (C.more (q := (ax, LCg.lst its.toList)) hP.2) hm0 hm1 m₁ news₁ h tk I oI
  have C0 := C
  walk_at "my open"
  dsimp only [turnFor, lawBody, lawFn, lawEnv, fnBody, fnScope, forBody', PySem.Challenge.pw_dm0163_03, List.getElem?_cons_succ, List.getElem?_cons_zero, Option.getD_some] at hst
  refine' For_lstA (h₀ := h₀) rfl rfl rfl (fun its ax => IntsAre its.toList ((List.range 4).map (markOf sc ((rows.length : Int) + 3))) ∧ Off8 L rl al kl ax) (fun its ax _ => LoopJ L o4 o5 rl al kl sl p1 p2 rv av kv n1 n2 n3 ((ax, LCg.lst its.toList) :: tl)) ?it ?st ?fin
  case it =>
    clear hst
    walk_at "my steps"
    all_goals (try k_data)
    with_reducible rename Fr _ _ _ _ => Fn
    with_reducible rename News _ _ _ _ => Nn
    rw [lrv] at hIz
    refine' startL (L := L) Fn Nn (.head _) ?sub (by simpa using hIz) oD ⟨q1, q2, q3, q4⟩ d1 d2 d3
    case sub => (intro p hp; exact .tail _ hp)
  case st =>
    intro its ax hP i v m₁ news₁ h tk I oI hi hJ hne F N
    obtain ⟨mark, t, rfl, g1, g2⟩ := markBound (by omega) hP.1 hi
    exact hst its ax hP i mark t g1 (by omega) m₁ news₁ h tk I oI hJ hne F N
  case fin =>
    intro its ax hP h' tk' m' news' F' N' hJ
    obtain ⟨qn', o1', o2', o3', x1', x2', x3', d1', d2', d3', rfl⟩ := hJ
    refine stMk F' N' (led L o1' o2' o3' o4 o5 [] rl al kl rv av kv n1 n2 n3 tl) ?_ ⟨qn', o1', o2', o3', x1', x2', x3', d1', d2', d3', rfl⟩
    intro q hq
    simp only [List.nil_append, List.mem_cons] at hq ⊢
    rcases hq with h | h | h | h | h | h | h | h | h <;> simp only [h, true_or, or_true]
end

-- part Zm_3
theorem fillZm : (PySem.Challenge.rw_dm0163_03, hd.heap_39) = (PySem.Challenge.rw_dm0163_03, hd.heap_39) := by k_fill; rfl
theorem cells_five {cm : Str → Option Value} {n₁ n₂ n₃ n₄ n₅ : Str} {c₁ c₂ c₃ c₄ c₅ : Addr} {cells : List (Addr × Obj)} (x : CellsAre cm [(n₁, c₁), (n₂, c₂), (n₃, c₃), (n₄, c₄), (n₅, c₅)] cells) :
    ∃ o₁ o₂ o₃ o₄ o₅, cells = [(c₁, o₁), (c₂, o₂), (c₃, o₃), (c₄, o₄), (c₅, o₅)] ∧ o₁.data = .cell (cm n₁) ∧ o₂.data = .cell (cm n₂) ∧ o₃.data = .cell (cm n₃) ∧ o₄.data = .cell (cm n₄) ∧ o₅.data = .cell (cm n₅) := by
  cases x with | cons h r => obtain ⟨o₂, o₃, o₄, o₅, rfl, h₂, h₃, h₄, h₅⟩ := r.four; exact ⟨_, o₂, o₃, o₄, o₅, rfl, h, h₂, h₃, h₄, h₅⟩
theorem map_all {P : Str → Prop} {f : Int → Str} {l : List Int} (h : ∀ x, P (f x)) : ∀ r ∈ l.map f, P r := fun r hr => by
  obtain ⟨y, _, rfl⟩ := List.mem_map.mp hr
  exact h y
theorem kin_map : ∀ l : List Int, All2 Kin (l.map rowOf) (l.map anewOf)
  | [] => .nil
  | x :: r => .cons (anew_kin x) (kin_map r)
set_option maxHeartbeats 4000000 in
theorem law_end {prog : Program} {w : World} {A : Around} {s : Shared} {L : Addr} {h : Heap} {tk : Nat} {Q : Flow → Shared → Prop} (hQ : ∀ tk', Q (.ret (.bool true)) { s with heap := h, toks := tk' }) :
    wpAny (model prog w) A (execs [lawAt 4] (lawEnv L)) Q (fun _ _ => False) { s with heap := h, toks := tk } := by
  walk_at "law open"
  walk_at "my steps"
  all_goals (try k_data)
  exact hQ _
set_option maxHeartbeats 4000000 in
theorem law_code {prog : Program} {w : World} {dp un : Nat} {fr gd} {s : Shared} {R : Result → Shared → Prop} {g : Heap} {p loose mean mg mb} (X : (hd.heap_39 w.params).In g) (T : Top p loose mean mg mb g) (hg : Ext g s.heap) (hgP : g.get? 105 = none) (C : CodeHd g 109 105) (hr : dp + 150 < recursionLimit) (hu : un + 170 < cLine)
   (hT : s.heap.get? 105 = some (tabObj #[])) {sc : List Int} {vs : List Value} {sl : Addr} (hl : g.IsList sl vs.toArray) (hI : IntsAre vs sc) (hn : sc.length ≤ 63)
   (h : ∀ h' tk', (∀ b o, b ≠ 105 → s.heap.get? b = some o → h'.get? b = some o) → (∃ ps, h'.get? 105 = some (tabObj ps)) → R (.ok (.ret (.bool true))) {s with heap := h', toks := tk'}) :
   codeAny (model prog w) (ar dp un fr gd) (.call (.ref 130) ⟨[.ref sl], []⟩) R s := by
  refine' enterCC (K := hd.heap_39 w.params) (P := 105) (X.keeps hg) ((T.keeps hg).nolimit) ?k6 ?k7 (by omega) ?k9 ?kB ?kD hT ?c2 ?c3 ?c4 ?_
  case k6 => k_is
  case k7 => k_is
  case k9 => exact BindsTo.of_eq rfl
  case kB => exact rfl
  case kD => decide +kernel
  case c2 => rfl
  case c3 => rfl
  case c4 => rfl
  intro L h1 tk1 fr1 cells F N Y lP
  have lP' : @LT.lt Nat _ 105 L := lP
  have e0 := hideExt hg hgP
  have X0 := X.keeps e0
  have T0 := T.keeps e0
  have C0 := C.keeps e0
  have hl0 := listExt hl e0
  obtain ⟨o1, o2, o3, o4, o5, hE, dc1, dc2, dc3, dc4, dc5⟩ := cells_five Y
  subst hE
  clear Y
  simp only [List.cons_append, List.nil_append] at N
  have hnl := nums_len sc
  show wpAny _ _ (execs lawBody (lawEnv L)) _ _ _
  rw [lawBody_eq]
  refine cutS (s := s) _ (lb0 (sl := sl) X0 T0 (by omega) F rfl dc4 dc5 lP' N) ?_
  rintro h2 tk2 m2 _ F2 N2 ⟨q3, rl, al, kl, o4', o5', q2, d4, d5, od, rfl⟩
  refine cutS (s := s) _ (lb1 X0 T0 (by omega) hl0 hI hn F2 q2 q3 d4 d5 od lP' N2) ?_
  rintro h3 tk3 m3 _ F3 N3 ⟨rv, av, kv, n1, n2, n3, tl, q2, q3, hR, hA, hK, otl, _, rfl⟩
  rw [List.take_length] at hR hA hK
  refine cutS (s := s) _ (pages X0 T0 C0 (by omega) F3 lP' od N3 otl q2 q3 d4 d5 hR hA hK (by rw [List.length_map]; omega) (by rw [List.length_map]; omega) (by rw [List.length_map, List.length_map]) (map_all (P := fun r => r.length ≤ 64) rowOf_len) (map_all (P := fun r => r.length ≤ 64) anew_len) (map_all (P := ok) rowOf_ok) (map_all (P := ok) anew_ok) (lineAt_kin (kin_map _))) ?_
  rintro h4 tk4 m4 _ F4 N4 ⟨p1, p2, tl', c1, c2, qn, rfl, h5, CT⟩
  refine cutS (s := s) _ (loop X0 T0 (by omega) (by omega) CT hl0 hI hn F4 qn dc1 dc2 dc3 N4) ?_
  rintro h5' tk5 m5 _ F5 N5 ⟨_, o1', o2', o3', _, _, _, _, _, _, rfl⟩
  have n5 := N5 (105, tab2 c1 c2) (by simp only [List.nil_append, List.mem_cons, h5, or_true])
  exact law_end fun tk' => h _ tk' (fun b o hb q => F5.keep b o (by rw [Heap.hide_ne _ hb]; exact q)) ⟨_, n5.1⟩

-- part Tp_3
set_option maxHeartbeats 4000000 in
theorem top03 : PySem.Challenge.rw_dm0163_03.Holds := by
  refine Mine.hd ?_
  k_fill
  intro w s₀ s₁ mg mb G Y fa o pm cd doc dV kV ho hd hcd hD hmg hg args vals as hpre hlay hrd hwl hlo
  have KX := km_in_of Y
  km_tabs Y
  have X := (Ground.X G).1
  have V := (Ground.X G).2
  refine Ground.open G ?_
  intro T B D TE TW
  try (refine guard_noD D (by decide +kernel) ?_; clear D)
  km_lay T hmg ho hd cd
  have efa : fa = 130 := by
    have e1 := mg_of KX (Top.g T) (n := Str.ofString "law") (v := .ref 130) (by kernel_rfl)
    have e2 : some (Value.ref fa) = some (Value.ref 130) := hmg.symm.trans e1
    injection e2 with e3
    injection e3
  subst efa
  clear hmg
  wrow_args hpre hlay hrd hwl hlo
  all_goals (first | refine callC_kw (enter_call ?_) | refine enter_call ?_)
  w_top on
  kn_posts
  rename IntsAre _ _ => hI
  rename Heap.IsList _ _ _ => hL
  rename ¬ _ < _ => hlen
  refine law_code (g := ghostOf s₁.heap [(109, 105)]) (dp := 301) (un := 4) (fr := some []) (gd := some []) (ghost_K hT9 KX (by kernel_rfl)) (ghost_top hT9 T) (fun b o e => of_hideAll _ e) (hideAll_none _ (by decide)) (ghost_code hT9).1 (by decide) (by decide) (hT8 105 (by k_mem)) (ghost_list hT9 hL) hI (by omega) ?_
  intro h' tk' keep grown
  refine ⟨?good, grown, True.intro⟩
  refine ⟨.inl ⟨_, .bool true, [], rfl, fun _ => rfl, .bool _, ?post, fun _ => ⟨List.nodup_nil, fun a ha => nomatch ha⟩⟩, fun b o e => ?_, rfl, hg⟩
  case post =>
    wrow_post
  have hb : b ≠ 105 := by
    rintro rfl
    have := hideAll_none (h := s₁.heap) [105] (b := 105) (by decide)
    exact absurd (this.symm.trans e) (by nofun)
  exact keep b o hb (of_hideAll _ e)

end Mine
open PySem PySem.W PyProof.Rows
theorem PySem.Challenge.cw_dm0163_03_holds : PySem.Challenge.rw_dm0163_03.Holds := by
  exact Mine.top03
