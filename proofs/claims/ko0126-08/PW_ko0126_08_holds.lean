import PyProof.Rows.All
import Wide.All
import OpenK.AllK
import Wide.FinOn
import Lean
import PySem.Challenge.RW_ko0126_08
set_option Elab.async false
set_option maxRecDepth 100000
section
open PySem PySem.Sre
set_option maxRecDepth 100000
namespace Mine
def dcode : Array Nat := #[14, 7, 4, 5, 20, 8, 0, 0, 17, 0, 13, 4, 8, 0, 0, 13, 4, 8, 0, 0, 13, 4, 8, 0, 0, 13, 4, 8, 0, 0, 17, 1, 23, 103, 0, 1, 16, 45, 17, 2, 13, 4, 8, 0, 0, 13, 4, 8, 0, 0, 17, 3, 23, 82, 0, 1, 16, 45, 17, 4, 13, 4, 8, 0, 0, 13, 4, 8, 0, 0, 17, 5, 23, 61, 0, 1, 16, 84, 17, 6, 13, 4, 8, 0, 0, 13, 4, 8, 0, 0, 17, 7, 23, 40, 0, 1, 16, 58, 17, 8, 13, 4, 8, 0, 0, 13, 4, 8, 0, 0, 17, 9, 23, 19, 0, 1, 16, 58, 17, 10, 13, 4, 8, 0, 0, 13, 4, 8, 0, 0, 17, 11, 18, 18, 18, 18, 18, 16, 90, 1]

/-- the full shape -/
def shapeAt (p : Nat) : Nat := [48,48,48,48,45,48,48,45,48,48,84,48,48,58,48,48,58,48,48,90].getD p 0
/-- the sign's class at a place -/
def canon (p c : Nat) : Nat := if shapeAt p = 48 ∧ isDigit c = true then 48 else if c = shapeAt p ∧ shapeAt p ≠ 48 then c else if c = 90 then 90 else 0

def withText (m : M) (t : Array Nat) : M := { m with text := t }

def opOk (m : M) : Bool := match ops[m.word 0]? with
  | some .MARK | some .REPEAT | some .MAX_UNTIL | some .SUCCESS => true
  | some .IN => shapeAt m.pos == 48 && m.word 1 == 4 && m.word 2 == 8 && m.word 3 == 0 && m.word 4 == 0
  | some .LITERAL => m.word 1 == 90 || (m.word 1 == shapeAt m.pos && (m.word 1 == 45 || m.word 1 == 84 || m.word 1 == 58))
  | _ => false
def waitOk (f : Sre.Frame) : Bool := match f.wait with
  | .closeLoop | .maxMore | .maxTail | .maxBelow => true
  | _ => false
def benign (m : M) : Bool := m.outcome.isSome || (match m.answer, m.frames with
  | some _, [] => true
  | some _, f :: _ => waitOk f
  | none, _ => opOk m)

def runB : Nat → M → Option M
  | 0, m => some m
  | n + 1, m => if m.outcome.isSome then some m else if benign m then runB n m.step else none


theorem digit_lo {c : Nat} (h : isDigit c = true) : 48 ≤ c ∧ c ≤ 57 := by simpa [isDigit] using h
theorem canon_digit {p : Nat} (hp : shapeAt p = 48) (c : Nat) : isDigit c = (canon p c == 48) := by
  unfold canon
  cases h : isDigit c with
  | true => simp [hp]
  | false =>
    simp only [hp, Bool.false_eq_true, and_false, if_false, ne_eq, not_true_eq_false]
    split
    · rfl
    · rfl
theorem canon_lit {p w : Nat} (hp : w = 90 ∨ (w = shapeAt p ∧ (w = 45 ∨ w = 84 ∨ w = 58))) (c : Nat) : (c == w) = (canon p c == w) := by
  unfold canon
  rcases hp with rfl | ⟨e, hw⟩
  · by_cases h1 : shapeAt p = 48 ∧ isDigit c = true
    · rw [if_pos h1]
      have := digit_lo h1.2
      have h2 : (c == 90) = false := by simp; omega
      rw [h2]; rfl
    · rw [if_neg h1]
      by_cases h2 : c = shapeAt p ∧ shapeAt p ≠ 48
      · rw [if_pos h2]
      · rw [if_neg h2]
        by_cases h3 : c = 90
        · rw [if_pos h3, h3]
        · rw [if_neg h3]; simp [h3]
  · have h48 : w ≠ 48 ∧ w ≠ 0 ∧ w ≠ 90 := by omega
    rw [← e]
    have h1 : ¬ (w = 48 ∧ isDigit c = true) := fun h => h48.1 h.1
    rw [if_neg h1]
    by_cases h2 : c = w ∧ w ≠ 48
    · rw [if_pos h2]
    · rw [if_neg h2]
      have h3 : c ≠ w := fun q => h2 ⟨q, h48.1⟩
      have h4 : (c == w) = false := by simp [h3]
      rw [h4]
      split
      · exact (beq_eq_false_iff_ne.mpr (fun q => h48.2.2 q.symm)).symm
      · exact (beq_eq_false_iff_ne.mpr (fun q => h48.2.1 q.symm)).symm
theorem set_same {c d : Nat} (h : isDigit c = isDigit d) {code : Array Nat} {i n : Nat} {seen : Seen} (h1 : code.getD i 0 = 8) (h2 : code.getD (i+1) 0 = 0) (h3 : code.getD (i+2) 0 = 0) :
    inSet code c n i true seen = inSet code d n i true seen := by
  have o8 : ops[8]? = some Op.CATEGORY := rfl
  have o0 : ops[0]? = some Op.FAILURE := rfl
  have e2 : ∀ (c d n : Nat) (s : Seen), inSet code c n (i + 2) true s = inSet code d n (i + 2) true s := by
    intro c d n s
    cases n with
    | zero => rfl
    | succ n =>
      unfold inSet
      simp only [Nat.add_zero, h3, o0, Bool.not_true]
  cases n with
  | zero => rfl
  | succ n =>
    unfold inSet
    simp only [Nat.add_zero, h1, h2, o8, e2 c d, category, Nat.zero_div, Nat.zero_mod, h]
theorem accepts_in {c d : Nat} (h : isDigit c = isDigit d) {code : Array Nat} {i : Nat} {seen : Seen} (h0 : ops[code.getD i 0]? = some .IN) (h1 : code.getD (i+2) 0 = 8) (h2 : code.getD (i+3) 0 = 0) (h3 : code.getD (i+4) 0 = 0) :
    accepts code i c seen = accepts code i d seen := by
  simp only [accepts, h0]
  exact set_same h h1 h2 h3
theorem accepts_lit {c d : Nat} {code : Array Nat} {i : Nat} {seen : Seen} (h0 : ops[code.getD i 0]? = some .LITERAL) (hw : (c == code.getD (i+1) 0) = (d == code.getD (i+1) 0)) :
    accepts code i c seen = accepts code i d seen := by
  simp only [accepts, h0]
  rw [hw]
theorem attempt_comm (m : M) (t : Array Nat) (f : Sre.Frame) (a b : Nat) (c : Bool) : (withText m t).attempt f a b c = withText (m.attempt f a b c) t := by
  have e : (withText m t).weight = m.weight := rfl
  unfold M.attempt
  rw [e]
  split <;> rfl
theorem afterLoop_comm (m : M) (t : Array Nat) (w : Wait) (i : Nat) (c : Int) (g : Option Nat → Bool) : (withText m t).afterLoop w i c g = withText (m.afterLoop w i c g) t := by
  unfold M.afterLoop
  exact attempt_comm { m with inner := (m.loopAt i).outer } t _ _ _ _
theorem round_comm (m : M) (t : Array Nat) (w : Wait) (i : Nat) (c : Int) (g : Bool) (k : Sre.Kept) : (withText m t).round w i c g k = withText (m.round w i c g k) t := by
  unfold M.round
  exact attempt_comm (m.setLoop i fun l => { l with count := c, began := if g then some m.pos else l.began }) t _ _ _ _
theorem text_ite (c : Prop) [Decidable c] (a b : M) (t : Array Nat) : withText (if c then a else b) t = if c then withText a t else withText b t := by split <;> rfl
theorem until_comm (m : M) (t : Array Nat) (g : Bool) : (withText m t).until_ g = withText (m.until_ g) t := by
  have e : (withText m t).inner = m.inner := rfl
  unfold M.until_
  rw [e]
  cases m.inner with
  | none => rfl
  | some i =>
    have e1 : (withText m t).loopAt i = m.loopAt i := rfl
    have e2 : (withText m t).code = m.code := rfl
    have e3 : (withText m t).pos = m.pos := rfl
    have e4 : (withText m t).keep true = m.keep true := rfl
    simp only [e1, e2, e3, e4, afterLoop_comm, round_comm, text_ite]
def inArm (m : M) (acc : Except String (Bool × Seen)) : M :=
  if m.pos ≥ m.lim then m.say false else
    match acc with
    | .error why => m.stick why
    | .ok (false, seen) => { m with seen }.say false
    | .ok (true, seen) => { m with seen, pc := m.pc + itemWidth m.code m.pc, pos := m.pos + 1 }
theorem inArm_comm (m : M) (t : Array Nat) (acc : Except String (Bool × Seen)) : inArm (withText m t) acc = withText (inArm m acc) t := by
  have e1 : (withText m t).pos = m.pos := rfl
  have e2 : (withText m t).lim = m.lim := rfl
  unfold inArm
  rw [e1, e2, text_ite]
  refine congrArg _ ?_
  rcases acc with w | ⟨b, sn⟩
  · rfl
  · cases b <;> rfl
def sucArm (m : M) : M := if m.outermost && ((m.wholeText && m.pos != m.lim) || (m.mustAdvance && m.pos == m.start)) then m.say false
    else { m with handed := m.pos }.say true
theorem sucArm_comm (m : M) (t : Array Nat) : sucArm (withText m t) = withText (sucArm m) t := by
  unfold sucArm
  rw [text_ite]
  rfl
theorem exec_comm (m : M) (t : Array Nat) (hsame : ∀ p, canon p (m.text.getD p 0) = canon p (t.getD p 0)) (hb : opOk m = true) :
    (withText m t).exec = withText m.exec t := by
  unfold opOk at hb
  unfold M.exec
  have ew : ∀ k, (withText m t).word k = m.word k := fun k => rfl
  simp only [ew]
  cases hop : ops[m.word 0]? with
  | none => simp only [hop] at hb; cases hb
  | some op =>
    simp only [hop] at hb
    cases op <;> simp only at hb <;> first | (cases hb; done) | skip
    case SUCCESS => exact sucArm_comm { m with seen := m.seen.add (m.word 0) } t
    case IN =>
      simp only [Bool.and_eq_true, beq_iff_eq] at hb
      obtain ⟨⟨⟨⟨h0, h1⟩, h2⟩, h3⟩, h4⟩ := hb
      have hacc : ∀ sn, accepts m.code m.pc (m.text.getD m.pos 0) sn = accepts m.code m.pc (t.getD m.pos 0) sn := fun sn =>
        accepts_in (by rw [canon_digit h0, canon_digit h0, hsame]) (by simpa [M.word] using hop) (by simpa [M.word] using h2) (by simpa [M.word] using h3) (by simpa [M.word] using h4)
      refine (inArm_comm { m with seen := m.seen.add (m.word 0) } t _).trans ?_
      exact congrArg (fun x => withText (inArm { m with seen := m.seen.add (m.word 0) } x) t) (hacc _).symm
    case LITERAL =>
      have hw : m.word 1 = 90 ∨ (m.word 1 = shapeAt m.pos ∧ (m.word 1 = 45 ∨ m.word 1 = 84 ∨ m.word 1 = 58)) := by
        simp only [Bool.or_eq_true, Bool.and_eq_true, beq_iff_eq] at hb
        rcases hb with h | ⟨h, (h2 | h2) | h2⟩
        · exact .inl h
        · exact .inr ⟨h, .inl h2⟩
        · exact .inr ⟨h, .inr (.inl h2)⟩
        · exact .inr ⟨h, .inr (.inr h2)⟩
      have hacc : ∀ sn, accepts m.code m.pc (m.text.getD m.pos 0) sn = accepts m.code m.pc (t.getD m.pos 0) sn := fun sn =>
        accepts_lit (by simpa [M.word] using hop) ((canon_lit hw _).trans (by rw [hsame]; exact (canon_lit hw _).symm))
      refine (inArm_comm { m with seen := m.seen.add (m.word 0) } t _).trans ?_
      exact congrArg (fun x => withText (inArm { m with seen := m.seen.add (m.word 0) } x) t) (hacc _).symm
    case MARK => rfl
    case MAX_UNTIL =>
      dsimp only
      exact until_comm { m with seen := m.seen.add (m.word 0), pc := m.pc + 1 } t true
    case REPEAT =>
      dsimp only
      exact attempt_comm { m with seen := m.seen.add (m.word 0), loops := m.loops.push { pc := m.pc, outer := m.inner }, inner := some m.loops.size } t _ _ _ _
theorem step_comm (m : M) (t : Array Nat) (hsame : ∀ p, canon p (m.text.getD p 0) = canon p (t.getD p 0)) (hb : benign m = true) :
    (withText m t).step = withText m.step t := by
  unfold benign at hb
  unfold M.step
  cases ho : m.outcome with
  | some o => simp [withText, ho]
  | none =>
    simp only [ho, Option.isSome_none, Bool.false_or] at hb
    have e1 : (withText m t).outcome = none := ho
    simp only [e1, Option.isSome_none, Bool.false_eq_true, if_false]
    cases ha : m.answer with
    | some yes =>
      have e2 : (withText m t).answer = some yes := ha
      cases hf : m.frames with
      | nil =>
        have e3 : (withText m t).frames = [] := hf
        simp only [e2, e3]; rfl
      | cons f rest =>
        have e3 : (withText m t).frames = f :: rest := hf
        simp only [ha, hf] at hb
        simp only [e2, e3]
        unfold waitOk at hb
        unfold M.resume
        cases hw : f.wait <;> simp only [hw] at hb <;> first | (cases hb; done) | skip
        all_goals (cases yes <;> simp [withText, M.say, M.putBack, M.setLoop, M.afterLoop, M.attempt, M.frame, M.keep, M.loopAt, M.stick] <;> (try split) <;> simp_all [withText])
    | none =>
      have e2 : (withText m t).answer = none := ha
      simp only [ha] at hb
      simp only [e2]
      have e4 : (withText m t).pc = m.pc := rfl
      have e5 : (withText m t).code = m.code := rfl
      rw [e4, e5]
      split
      · exact exec_comm m t hsame hb
      · rfl
theorem step_text (m : M) (hb : benign m = true) : m.step.text = m.text := by
  have h := step_comm m m.text (fun _ => rfl) hb
  have e : withText m m.text = m := rfl
  rw [e] at h
  rw [h]; rfl
theorem run_comm : ∀ (n : Nat) (m m' : M) (t : Array Nat), (∀ p, canon p (m.text.getD p 0) = canon p (t.getD p 0)) → runB n m = some m' → (withText m t).runFor n = withText m' t
  | 0, m, m', t, _, h => by
    cases h; rfl
  | n + 1, m, m', t, hs, h => by
    unfold runB at h
    unfold M.runFor
    by_cases ho : m.outcome.isSome = true
    · rw [if_pos ho] at h
      cases h
      rw [if_pos (show (withText m t).outcome.isSome = true from ho)]
    · rw [if_neg ho] at h
      rw [if_neg (show ¬ (withText m t).outcome.isSome = true from ho)]
      split at h
      · rename_i hb
        rw [step_comm m t hs hb]
        exact run_comm n m.step m' t (by rw [step_text m hb]; exact hs) h
      · cases h
end Mine
end
section
open PySem PySem.Sre
set_option maxRecDepth 100000
set_option Elab.async false
namespace Mine
section
variable {R : Type}
def fN (n : Nat) (k : Nat → R) : R := match n with | 0 => k 0 | .succ n => k (.succ n)
theorem fN_eq (n : Nat) (k : Nat → R) : fN n k = k n := by cases n <;> rfl
def fB (n : Bool) (k : Bool → R) : R := match n with | true => k true | false => k false
theorem fB_eq (n : Bool) (k : Bool → R) : fB n k = k n := by cases n <;> rfl
def fI (n : Int) (k : Int → R) : R := match n with | .ofNat n => fN n fun n => k (.ofNat n) | .negSucc n => fN n fun n => k (.negSucc n)
theorem fI_eq (n : Int) (k : Int → R) : fI n k = k n := by cases n <;> simp only [fI, fN_eq]
def fO (n : Option Nat) (k : Option Nat → R) : R := match n with | none => k none | some n => fN n fun n => k (some n)
theorem fO_eq (n : Option Nat) (k : Option Nat → R) : fO n k = k n := by cases n <;> simp only [fO, fN_eq]
def fL {β : Type} (f : β → (β → R) → R) : List β → (List β → R) → R
  | [], k => k []
  | x :: r, k => f x fun x => fL f r fun r => k (x :: r)
theorem fL_eq {β : Type} {f : β → (β → R) → R} (hf : ∀ x k, f x k = k x) : ∀ (l : List β) (k : List β → R), fL f l k = k l
  | [], _ => rfl
  | x :: r, k => by unfold fL; rw [hf, fL_eq hf r]
def fA {β : Type} (f : β → (β → R) → R) (a : Array β) (k : Array β → R) : R := match a with | ⟨l⟩ => fL f l fun l => k ⟨l⟩
theorem fA_eq {β : Type} {f : β → (β → R) → R} (hf : ∀ x k, f x k = k x) (a : Array β) (k : Array β → R) : fA f a k = k a := by
  cases a; exact fL_eq hf _ _
def fKept (x : Sre.Kept) (k : Sre.Kept → R) : R := fI x.lastmark fun a => fI x.lastindex fun b => fB x.whole fun c => fA fO x.marks fun d => k ⟨a, b, c, d⟩
theorem fKept_eq (x : Sre.Kept) (k : Sre.Kept → R) : fKept x k = k x := by simp only [fKept, fI_eq, fB_eq, fA_eq fO_eq]
def fLoop (x : Sre.Loop) (k : Sre.Loop → R) : R := fN x.pc fun a => fI x.count fun b => fO x.began fun c => fO x.outer fun d => k ⟨a, b, c, d⟩
theorem fLoop_eq (x : Sre.Loop) (k : Sre.Loop → R) : fLoop x k = k x := by simp only [fLoop, fI_eq, fN_eq, fO_eq]
def fWait (x : Wait) (k : Wait → R) : R := match x with
  | .nextStart => k .nextStart | .nextBranch => k .nextBranch | .giveBack => k .giveBack | .takeMore => k .takeMore | .closeLoop => k .closeLoop | .maxBelow => k .maxBelow | .maxMore => k .maxMore | .maxTail => k .maxTail
  | .minBelow => k .minBelow | .minTail => k .minTail | .minMore => k .minMore | .possBelow => k .possBelow | .possMore => k .possMore | .atomic => k .atomic | .look => k .look | .lookNot => k .lookNot
theorem fWait_eq (x : Wait) (k : Wait → R) : fWait x k = k x := by cases x <;> rfl
def fFrame (x : Sre.Frame) (k : Sre.Frame → R) : R := fWait x.wait fun a => fN x.pc fun b => fN x.pos fun c => fB x.outermost fun d => fI x.count fun e => fKept x.kept fun f => fN x.loop fun g => fO x.began fun h => k ⟨a, b, c, d, e, f, g, h⟩
theorem fFrame_eq (x : Sre.Frame) (k : Sre.Frame → R) : fFrame x k = k x := by simp only [fFrame, fWait_eq, fN_eq, fB_eq, fI_eq, fKept_eq, fO_eq]
def fSeen (x : Seen) (k : Seen → R) : R := fN x.words fun a => fN x.others fun b => k ⟨a, b⟩
theorem fSeen_eq (x : Seen) (k : Seen → R) : fSeen x k = k x := by simp only [fSeen, fN_eq]
def fOB (n : Option Bool) (k : Option Bool → R) : R := match n with | none => k none | some n => fB n fun n => k (some n)
theorem fOB_eq (n : Option Bool) (k : Option Bool → R) : fOB n k = k n := by cases n <;> simp only [fOB, fB_eq]
def fM (m : M) (k : M → R) : R :=
  fN m.pc fun pc => fN m.pos fun pos => fN m.handed fun handed => fB m.outermost fun outermost => fA fO m.marks fun marks => fI m.lastmark fun lastmark => fI m.lastindex fun lastindex => fA fLoop m.loops fun loops => fO m.inner fun inner =>
  fL fFrame m.frames fun frames => fN m.weight fun weight => fOB m.answer fun answer => fSeen m.seen fun seen =>
  match m with
  | ⟨code, text, lim, start, lastStart, wholeText, mustAdvance, _, _, _, _, _, _, _, _, _, _, _, _, _, outcome⟩ =>
    k ⟨code, text, lim, start, lastStart, wholeText, mustAdvance, pc, pos, handed, outermost, marks, lastmark, lastindex, loops, inner, frames, weight, answer, seen, outcome⟩
theorem fM_eq (m : M) (k : M → R) : fM m k = k m := by
  simp only [fM, fN_eq, fB_eq, fI_eq, fA_eq fO_eq, fA_eq fLoop_eq, fO_eq, fL_eq fFrame_eq, fOB_eq, fSeen_eq]
end
def runF : Nat → M → Option M
  | 0, m => some m
  | n + 1, m => if m.outcome.isSome then some m else if benign m then fM m.step (runF n) else none
theorem runF_eq : ∀ (n : Nat) (m : M), runF n m = runB n m
  | 0, _ => rfl
  | n + 1, m => by
    unfold runF runB
    rw [fM_eq, runF_eq n]

theorem runB_out {n : Nat} {m : M} (h : m.outcome.isSome = true) : runB n m = some m := by
  cases n with
  | zero => rfl
  | succ n => unfold runB; rw [if_pos h]
theorem runB_add : ∀ (a b : Nat) (m : M), runB (a + b) m = (runB a m).bind (runB b)
  | 0, b, m => by rw [Nat.zero_add]; rfl
  | a + 1, b, m => by
    have e : a + 1 + b = (a + b) + 1 := by omega
    rw [e]
    by_cases h : m.outcome.isSome = true
    · rw [runB_out h, runB_out h]
      exact (runB_out h).symm
    · conv => lhs; unfold runB
      conv => rhs; unfold runB
      rw [if_neg h, if_neg h]
      by_cases hb : benign m = true
      · rw [if_pos hb, if_pos hb]; exact runB_add a b m.step
      · rw [if_neg hb, if_neg hb]; rfl
theorem runF_add (a b : Nat) (m m' : M) (h : runF a m = some m') : runB (a + b) m = runB b m' := by
  rw [runB_add, ← runF_eq a, h]; rfl
def m0 (t : List Nat) : M := forMatch dcode ⟨t⟩ 6 0 t.length false false
end Mine
end
section
open PySem PySem.Sre
set_option maxRecDepth 100000
set_option Elab.async false
namespace Mine
def S0 (t : List Nat) : M := ⟨dcode, ⟨t⟩, t.length, 0, 0, false, false, 10, 0, 0, true, #[some 0, none, none, none, none, none, none, none, none, none, none, none], (0), (-1), #[], none, [], 0, none, ⟨147456, 0⟩, none⟩
def S1 (t : List Nat) : M := ⟨dcode, ⟨t⟩, t.length, 0, 0, false, false, 15, 1, 0, true, #[some 0, none, none, none, none, none, none, none, none, none, none, none], (0), (-1), #[], none, [], 0, none, ⟨155904, 4096⟩, none⟩
def S2 (t : List Nat) : M := ⟨dcode, ⟨t⟩, t.length, 0, 0, false, false, 20, 2, 0, true, #[some 0, none, none, none, none, none, none, none, none, none, none, none], (0), (-1), #[], none, [], 0, none, ⟨155904, 4096⟩, none⟩
def S3 (t : List Nat) : M := ⟨dcode, ⟨t⟩, t.length, 0, 0, false, false, 25, 3, 0, true, #[some 0, none, none, none, none, none, none, none, none, none, none, none], (0), (-1), #[], none, [], 0, none, ⟨155904, 4096⟩, none⟩
def S4 (t : List Nat) : M := ⟨dcode, ⟨t⟩, t.length, 0, 0, false, false, 36, 4, 4, true, #[some 0, some 4, none, none, none, none, none, none, none, none, none, none], (1), (1), #[⟨32, (0), some 4, none⟩], some 0, [⟨.maxMore, 137, 4, true, (0), ⟨(1), (1), true, #[some 0, some 4]⟩, 0, none⟩, ⟨.closeLoop, 32, 4, true, (0), ⟨(-1), (-1), false, #[]⟩, 0, none⟩], 4, none, ⟨8806656, 4096⟩, none⟩
def S5 (t : List Nat) : M := ⟨dcode, ⟨t⟩, t.length, 0, 0, false, false, 40, 5, 4, true, #[some 0, some 4, some 5, none, none, none, none, none, none, none, none, none], (2), (1), #[⟨32, (0), some 4, none⟩], some 0, [⟨.maxMore, 137, 4, true, (0), ⟨(1), (1), true, #[some 0, some 4]⟩, 0, none⟩, ⟨.closeLoop, 32, 4, true, (0), ⟨(-1), (-1), false, #[]⟩, 0, none⟩], 4, none, ⟨8872192, 4096⟩, none⟩
def S6 (t : List Nat) : M := ⟨dcode, ⟨t⟩, t.length, 0, 0, false, false, 45, 6, 4, true, #[some 0, some 4, some 5, none, none, none, none, none, none, none, none, none], (2), (1), #[⟨32, (0), some 4, none⟩], some 0, [⟨.maxMore, 137, 4, true, (0), ⟨(1), (1), true, #[some 0, some 4]⟩, 0, none⟩, ⟨.closeLoop, 32, 4, true, (0), ⟨(-1), (-1), false, #[]⟩, 0, none⟩], 4, none, ⟨8872192, 4096⟩, none⟩
def S7 (t : List Nat) : M := ⟨dcode, ⟨t⟩, t.length, 0, 0, false, false, 56, 7, 7, true, #[some 0, some 4, some 5, some 7, none, none, none, none, none, none, none, none], (3), (2), #[⟨32, (0), some 4, none⟩, ⟨52, (0), some 7, some 0⟩], some 1, [⟨.maxMore, 136, 7, true, (0), ⟨(3), (2), true, #[some 0, some 4, some 5, some 7]⟩, 1, none⟩, ⟨.closeLoop, 52, 7, true, (0), ⟨(-1), (-1), false, #[]⟩, 1, none⟩, ⟨.maxMore, 137, 4, true, (0), ⟨(1), (1), true, #[some 0, some 4]⟩, 0, none⟩, ⟨.closeLoop, 32, 4, true, (0), ⟨(-1), (-1), false, #[]⟩, 0, none⟩], 10, none, ⟨8872192, 4096⟩, none⟩
def S8 (t : List Nat) : M := ⟨dcode, ⟨t⟩, t.length, 0, 0, false, false, 60, 8, 7, true, #[some 0, some 4, some 5, some 7, some 8, none, none, none, none, none, none, none], (4), (2), #[⟨32, (0), some 4, none⟩, ⟨52, (0), some 7, some 0⟩], some 1, [⟨.maxMore, 136, 7, true, (0), ⟨(3), (2), true, #[some 0, some 4, some 5, some 7]⟩, 1, none⟩, ⟨.closeLoop, 52, 7, true, (0), ⟨(-1), (-1), false, #[]⟩, 1, none⟩, ⟨.maxMore, 137, 4, true, (0), ⟨(1), (1), true, #[some 0, some 4]⟩, 0, none⟩, ⟨.closeLoop, 32, 4, true, (0), ⟨(-1), (-1), false, #[]⟩, 0, none⟩], 10, none, ⟨8872192, 4096⟩, none⟩
def S9 (t : List Nat) : M := ⟨dcode, ⟨t⟩, t.length, 0, 0, false, false, 65, 9, 7, true, #[some 0, some 4, some 5, some 7, some 8, none, none, none, none, none, none, none], (4), (2), #[⟨32, (0), some 4, none⟩, ⟨52, (0), some 7, some 0⟩], some 1, [⟨.maxMore, 136, 7, true, (0), ⟨(3), (2), true, #[some 0, some 4, some 5, some 7]⟩, 1, none⟩, ⟨.closeLoop, 52, 7, true, (0), ⟨(-1), (-1), false, #[]⟩, 1, none⟩, ⟨.maxMore, 137, 4, true, (0), ⟨(1), (1), true, #[some 0, some 4]⟩, 0, none⟩, ⟨.closeLoop, 32, 4, true, (0), ⟨(-1), (-1), false, #[]⟩, 0, none⟩], 10, none, ⟨8872192, 4096⟩, none⟩
def S10 (t : List Nat) : M := ⟨dcode, ⟨t⟩, t.length, 0, 0, false, false, 76, 10, 10, true, #[some 0, some 4, some 5, some 7, some 8, some 10, none, none, none, none, none, none], (5), (3), #[⟨32, (0), some 4, none⟩, ⟨52, (0), some 7, some 0⟩, ⟨72, (0), some 10, some 1⟩], some 2, [⟨.maxMore, 135, 10, true, (0), ⟨(5), (3), true, #[some 0, some 4, some 5, some 7, some 8, some 10]⟩, 2, none⟩, ⟨.closeLoop, 72, 10, true, (0), ⟨(-1), (-1), false, #[]⟩, 2, none⟩, ⟨.maxMore, 136, 7, true, (0), ⟨(3), (2), true, #[some 0, some 4, some 5, some 7]⟩, 1, none⟩, ⟨.closeLoop, 52, 7, true, (0), ⟨(-1), (-1), false, #[]⟩, 1, none⟩, ⟨.maxMore, 137, 4, true, (0), ⟨(1), (1), true, #[some 0, some 4]⟩, 0, none⟩, ⟨.closeLoop, 32, 4, true, (0), ⟨(-1), (-1), false, #[]⟩, 0, none⟩], 18, none, ⟨8872192, 4096⟩, none⟩
def S11 (t : List Nat) : M := ⟨dcode, ⟨t⟩, t.length, 0, 0, false, false, 80, 11, 10, true, #[some 0, some 4, some 5, some 7, some 8, some 10, some 11, none, none, none, none, none], (6), (3), #[⟨32, (0), some 4, none⟩, ⟨52, (0), some 7, some 0⟩, ⟨72, (0), some 10, some 1⟩], some 2, [⟨.maxMore, 135, 10, true, (0), ⟨(5), (3), true, #[some 0, some 4, some 5, some 7, some 8, some 10]⟩, 2, none⟩, ⟨.closeLoop, 72, 10, true, (0), ⟨(-1), (-1), false, #[]⟩, 2, none⟩, ⟨.maxMore, 136, 7, true, (0), ⟨(3), (2), true, #[some 0, some 4, some 5, some 7]⟩, 1, none⟩, ⟨.closeLoop, 52, 7, true, (0), ⟨(-1), (-1), false, #[]⟩, 1, none⟩, ⟨.maxMore, 137, 4, true, (0), ⟨(1), (1), true, #[some 0, some 4]⟩, 0, none⟩, ⟨.closeLoop, 32, 4, true, (0), ⟨(-1), (-1), false, #[]⟩, 0, none⟩], 18, none, ⟨8872192, 4096⟩, none⟩
def S12 (t : List Nat) : M := ⟨dcode, ⟨t⟩, t.length, 0, 0, false, false, 85, 12, 10, true, #[some 0, some 4, some 5, some 7, some 8, some 10, some 11, none, none, none, none, none], (6), (3), #[⟨32, (0), some 4, none⟩, ⟨52, (0), some 7, some 0⟩, ⟨72, (0), some 10, some 1⟩], some 2, [⟨.maxMore, 135, 10, true, (0), ⟨(5), (3), true, #[some 0, some 4, some 5, some 7, some 8, some 10]⟩, 2, none⟩, ⟨.closeLoop, 72, 10, true, (0), ⟨(-1), (-1), false, #[]⟩, 2, none⟩, ⟨.maxMore, 136, 7, true, (0), ⟨(3), (2), true, #[some 0, some 4, some 5, some 7]⟩, 1, none⟩, ⟨.closeLoop, 52, 7, true, (0), ⟨(-1), (-1), false, #[]⟩, 1, none⟩, ⟨.maxMore, 137, 4, true, (0), ⟨(1), (1), true, #[some 0, some 4]⟩, 0, none⟩, ⟨.closeLoop, 32, 4, true, (0), ⟨(-1), (-1), false, #[]⟩, 0, none⟩], 18, none, ⟨8872192, 4096⟩, none⟩
def S13 (t : List Nat) : M := ⟨dcode, ⟨t⟩, t.length, 0, 0, false, false, 96, 13, 13, true, #[some 0, some 4, some 5, some 7, some 8, some 10, some 11, some 13, none, none, none, none], (7), (4), #[⟨32, (0), some 4, none⟩, ⟨52, (0), some 7, some 0⟩, ⟨72, (0), some 10, some 1⟩, ⟨92, (0), some 13, some 2⟩], some 3, [⟨.maxMore, 134, 13, true, (0), ⟨(7), (4), true, #[some 0, some 4, some 5, some 7, some 8, some 10, some 11, some 13]⟩, 3, none⟩, ⟨.closeLoop, 92, 13, true, (0), ⟨(-1), (-1), false, #[]⟩, 3, none⟩, ⟨.maxMore, 135, 10, true, (0), ⟨(5), (3), true, #[some 0, some 4, some 5, some 7, some 8, some 10]⟩, 2, none⟩, ⟨.closeLoop, 72, 10, true, (0), ⟨(-1), (-1), false, #[]⟩, 2, none⟩, ⟨.maxMore, 136, 7, true, (0), ⟨(3), (2), true, #[some 0, some 4, some 5, some 7]⟩, 1, none⟩, ⟨.closeLoop, 52, 7, true, (0), ⟨(-1), (-1), false, #[]⟩, 1, none⟩, ⟨.maxMore, 137, 4, true, (0), ⟨(1), (1), true, #[some 0, some 4]⟩, 0, none⟩, ⟨.closeLoop, 32, 4, true, (0), ⟨(-1), (-1), false, #[]⟩, 0, none⟩], 28, none, ⟨8872192, 4096⟩, none⟩
def S14 (t : List Nat) : M := ⟨dcode, ⟨t⟩, t.length, 0, 0, false, false, 100, 14, 13, true, #[some 0, some 4, some 5, some 7, some 8, some 10, some 11, some 13, some 14, none, none, none], (8), (4), #[⟨32, (0), some 4, none⟩, ⟨52, (0), some 7, some 0⟩, ⟨72, (0), some 10, some 1⟩, ⟨92, (0), some 13, some 2⟩], some 3, [⟨.maxMore, 134, 13, true, (0), ⟨(7), (4), true, #[some 0, some 4, some 5, some 7, some 8, some 10, some 11, some 13]⟩, 3, none⟩, ⟨.closeLoop, 92, 13, true, (0), ⟨(-1), (-1), false, #[]⟩, 3, none⟩, ⟨.maxMore, 135, 10, true, (0), ⟨(5), (3), true, #[some 0, some 4, some 5, some 7, some 8, some 10]⟩, 2, none⟩, ⟨.closeLoop, 72, 10, true, (0), ⟨(-1), (-1), false, #[]⟩, 2, none⟩, ⟨.maxMore, 136, 7, true, (0), ⟨(3), (2), true, #[some 0, some 4, some 5, some 7]⟩, 1, none⟩, ⟨.closeLoop, 52, 7, true, (0), ⟨(-1), (-1), false, #[]⟩, 1, none⟩, ⟨.maxMore, 137, 4, true, (0), ⟨(1), (1), true, #[some 0, some 4]⟩, 0, none⟩, ⟨.closeLoop, 32, 4, true, (0), ⟨(-1), (-1), false, #[]⟩, 0, none⟩], 28, none, ⟨8872192, 4096⟩, none⟩
def S15 (t : List Nat) : M := ⟨dcode, ⟨t⟩, t.length, 0, 0, false, false, 105, 15, 13, true, #[some 0, some 4, some 5, some 7, some 8, some 10, some 11, some 13, some 14, none, none, none], (8), (4), #[⟨32, (0), some 4, none⟩, ⟨52, (0), some 7, some 0⟩, ⟨72, (0), some 10, some 1⟩, ⟨92, (0), some 13, some 2⟩], some 3, [⟨.maxMore, 134, 13, true, (0), ⟨(7), (4), true, #[some 0, some 4, some 5, some 7, some 8, some 10, some 11, some 13]⟩, 3, none⟩, ⟨.closeLoop, 92, 13, true, (0), ⟨(-1), (-1), false, #[]⟩, 3, none⟩, ⟨.maxMore, 135, 10, true, (0), ⟨(5), (3), true, #[some 0, some 4, some 5, some 7, some 8, some 10]⟩, 2, none⟩, ⟨.closeLoop, 72, 10, true, (0), ⟨(-1), (-1), false, #[]⟩, 2, none⟩, ⟨.maxMore, 136, 7, true, (0), ⟨(3), (2), true, #[some 0, some 4, some 5, some 7]⟩, 1, none⟩, ⟨.closeLoop, 52, 7, true, (0), ⟨(-1), (-1), false, #[]⟩, 1, none⟩, ⟨.maxMore, 137, 4, true, (0), ⟨(1), (1), true, #[some 0, some 4]⟩, 0, none⟩, ⟨.closeLoop, 32, 4, true, (0), ⟨(-1), (-1), false, #[]⟩, 0, none⟩], 28, none, ⟨8872192, 4096⟩, none⟩
def S16 (t : List Nat) : M := ⟨dcode, ⟨t⟩, t.length, 0, 0, false, false, 116, 16, 16, true, #[some 0, some 4, some 5, some 7, some 8, some 10, some 11, some 13, some 14, some 16, none, none], (9), (5), #[⟨32, (0), some 4, none⟩, ⟨52, (0), some 7, some 0⟩, ⟨72, (0), some 10, some 1⟩, ⟨92, (0), some 13, some 2⟩, ⟨112, (0), some 16, some 3⟩], some 4, [⟨.maxMore, 133, 16, true, (0), ⟨(9), (5), true, #[some 0, some 4, some 5, some 7, some 8, some 10, some 11, some 13, some 14, some 16]⟩, 4, none⟩, ⟨.closeLoop, 112, 16, true, (0), ⟨(-1), (-1), false, #[]⟩, 4, none⟩, ⟨.maxMore, 134, 13, true, (0), ⟨(7), (4), true, #[some 0, some 4, some 5, some 7, some 8, some 10, some 11, some 13]⟩, 3, none⟩, ⟨.closeLoop, 92, 13, true, (0), ⟨(-1), (-1), false, #[]⟩, 3, none⟩, ⟨.maxMore, 135, 10, true, (0), ⟨(5), (3), true, #[some 0, some 4, some 5, some 7, some 8, some 10]⟩, 2, none⟩, ⟨.closeLoop, 72, 10, true, (0), ⟨(-1), (-1), false, #[]⟩, 2, none⟩, ⟨.maxMore, 136, 7, true, (0), ⟨(3), (2), true, #[some 0, some 4, some 5, some 7]⟩, 1, none⟩, ⟨.closeLoop, 52, 7, true, (0), ⟨(-1), (-1), false, #[]⟩, 1, none⟩, ⟨.maxMore, 137, 4, true, (0), ⟨(1), (1), true, #[some 0, some 4]⟩, 0, none⟩, ⟨.closeLoop, 32, 4, true, (0), ⟨(-1), (-1), false, #[]⟩, 0, none⟩], 40, none, ⟨8872192, 4096⟩, none⟩
def S17 (t : List Nat) : M := ⟨dcode, ⟨t⟩, t.length, 0, 0, false, false, 120, 17, 16, true, #[some 0, some 4, some 5, some 7, some 8, some 10, some 11, some 13, some 14, some 16, some 17, none], (10), (5), #[⟨32, (0), some 4, none⟩, ⟨52, (0), some 7, some 0⟩, ⟨72, (0), some 10, some 1⟩, ⟨92, (0), some 13, some 2⟩, ⟨112, (0), some 16, some 3⟩], some 4, [⟨.maxMore, 133, 16, true, (0), ⟨(9), (5), true, #[some 0, some 4, some 5, some 7, some 8, some 10, some 11, some 13, some 14, some 16]⟩, 4, none⟩, ⟨.closeLoop, 112, 16, true, (0), ⟨(-1), (-1), false, #[]⟩, 4, none⟩, ⟨.maxMore, 134, 13, true, (0), ⟨(7), (4), true, #[some 0, some 4, some 5, some 7, some 8, some 10, some 11, some 13]⟩, 3, none⟩, ⟨.closeLoop, 92, 13, true, (0), ⟨(-1), (-1), false, #[]⟩, 3, none⟩, ⟨.maxMore, 135, 10, true, (0), ⟨(5), (3), true, #[some 0, some 4, some 5, some 7, some 8, some 10]⟩, 2, none⟩, ⟨.closeLoop, 72, 10, true, (0), ⟨(-1), (-1), false, #[]⟩, 2, none⟩, ⟨.maxMore, 136, 7, true, (0), ⟨(3), (2), true, #[some 0, some 4, some 5, some 7]⟩, 1, none⟩, ⟨.closeLoop, 52, 7, true, (0), ⟨(-1), (-1), false, #[]⟩, 1, none⟩, ⟨.maxMore, 137, 4, true, (0), ⟨(1), (1), true, #[some 0, some 4]⟩, 0, none⟩, ⟨.closeLoop, 32, 4, true, (0), ⟨(-1), (-1), false, #[]⟩, 0, none⟩], 40, none, ⟨8872192, 4096⟩, none⟩
def S18 (t : List Nat) : M := ⟨dcode, ⟨t⟩, t.length, 0, 0, false, false, 125, 18, 16, true, #[some 0, some 4, some 5, some 7, some 8, some 10, some 11, some 13, some 14, some 16, some 17, none], (10), (5), #[⟨32, (0), some 4, none⟩, ⟨52, (0), some 7, some 0⟩, ⟨72, (0), some 10, some 1⟩, ⟨92, (0), some 13, some 2⟩, ⟨112, (0), some 16, some 3⟩], some 4, [⟨.maxMore, 133, 16, true, (0), ⟨(9), (5), true, #[some 0, some 4, some 5, some 7, some 8, some 10, some 11, some 13, some 14, some 16]⟩, 4, none⟩, ⟨.closeLoop, 112, 16, true, (0), ⟨(-1), (-1), false, #[]⟩, 4, none⟩, ⟨.maxMore, 134, 13, true, (0), ⟨(7), (4), true, #[some 0, some 4, some 5, some 7, some 8, some 10, some 11, some 13]⟩, 3, none⟩, ⟨.closeLoop, 92, 13, true, (0), ⟨(-1), (-1), false, #[]⟩, 3, none⟩, ⟨.maxMore, 135, 10, true, (0), ⟨(5), (3), true, #[some 0, some 4, some 5, some 7, some 8, some 10]⟩, 2, none⟩, ⟨.closeLoop, 72, 10, true, (0), ⟨(-1), (-1), false, #[]⟩, 2, none⟩, ⟨.maxMore, 136, 7, true, (0), ⟨(3), (2), true, #[some 0, some 4, some 5, some 7]⟩, 1, none⟩, ⟨.closeLoop, 52, 7, true, (0), ⟨(-1), (-1), false, #[]⟩, 1, none⟩, ⟨.maxMore, 137, 4, true, (0), ⟨(1), (1), true, #[some 0, some 4]⟩, 0, none⟩, ⟨.closeLoop, 32, 4, true, (0), ⟨(-1), (-1), false, #[]⟩, 0, none⟩], 40, none, ⟨8872192, 4096⟩, none⟩
def S19 (t : List Nat) : M := ⟨dcode, ⟨t⟩, t.length, 0, 0, false, false, 137, 19, 19, true, #[some 0, some 4, some 5, some 7, some 8, some 10, some 11, some 13, some 14, some 16, some 17, some 19], (11), (6), #[⟨32, (0), some 4, none⟩, ⟨52, (0), some 7, some 0⟩, ⟨72, (0), some 10, some 1⟩, ⟨92, (0), some 13, some 2⟩, ⟨112, (0), some 16, some 3⟩], none, [⟨.maxTail, 137, 19, true, (1), ⟨(11), (6), false, #[]⟩, 0, none⟩, ⟨.maxTail, 136, 19, true, (1), ⟨(11), (6), false, #[]⟩, 1, none⟩, ⟨.maxTail, 135, 19, true, (1), ⟨(11), (6), false, #[]⟩, 2, none⟩, ⟨.maxTail, 134, 19, true, (1), ⟨(11), (6), false, #[]⟩, 3, none⟩, ⟨.maxTail, 133, 19, true, (1), ⟨(11), (6), false, #[]⟩, 4, none⟩, ⟨.maxMore, 133, 16, true, (0), ⟨(9), (5), true, #[some 0, some 4, some 5, some 7, some 8, some 10, some 11, some 13, some 14, some 16]⟩, 4, none⟩, ⟨.closeLoop, 112, 16, true, (0), ⟨(-1), (-1), false, #[]⟩, 4, none⟩, ⟨.maxMore, 134, 13, true, (0), ⟨(7), (4), true, #[some 0, some 4, some 5, some 7, some 8, some 10, some 11, some 13]⟩, 3, none⟩, ⟨.closeLoop, 92, 13, true, (0), ⟨(-1), (-1), false, #[]⟩, 3, none⟩, ⟨.maxMore, 135, 10, true, (0), ⟨(5), (3), true, #[some 0, some 4, some 5, some 7, some 8, some 10]⟩, 2, none⟩, ⟨.closeLoop, 72, 10, true, (0), ⟨(-1), (-1), false, #[]⟩, 2, none⟩, ⟨.maxMore, 136, 7, true, (0), ⟨(3), (2), true, #[some 0, some 4, some 5, some 7]⟩, 1, none⟩, ⟨.closeLoop, 52, 7, true, (0), ⟨(-1), (-1), false, #[]⟩, 1, none⟩, ⟨.maxMore, 137, 4, true, (0), ⟨(1), (1), true, #[some 0, some 4]⟩, 0, none⟩, ⟨.closeLoop, 32, 4, true, (0), ⟨(-1), (-1), false, #[]⟩, 0, none⟩], 45, none, ⟨8872192, 4096⟩, none⟩
theorem m0_long {t : List Nat} (h : 5 ≤ t.length) : m0 t = ⟨dcode, ⟨t⟩, t.length, 0, 0, false, false, 8, 0, 0, true, #[none, none, none, none, none, none, none, none, none, none, none, none], (-1), (-1), #[], none, [], 0, none, ⟨16384, 0⟩, none⟩ := by
  have e1 : (header dcode).1 = 5 := by kernel_rfl
  have e2 : (header dcode).2 = 8 := by kernel_rfl
  unfold m0 forMatch
  simp only [e1]
  rw [if_neg (by simp only [Nat.sub_zero, Bool.and_eq_true, decide_eq_true_eq]; omega)]
  kernel_rfl
theorem m0_short {t : List Nat} (h : t.length < 5) : ∃ m', runB 100 (m0 t) = some m' ∧ m'.outcome = some .failed := by
  have e1 : (header dcode).1 = 5 := by kernel_rfl
  have key : (m0 t).answer = some false ∧ (m0 t).frames = [] ∧ (m0 t).outcome = none := by
    unfold m0 forMatch
    simp only [e1]
    rw [if_pos (by simp only [Nat.sub_zero, Bool.and_eq_true, decide_eq_true_eq]; refine ⟨⟨by decide, by omega⟩, h⟩)]
    exact ⟨rfl, rfl, rfl⟩
  refine ⟨{ m0 t with outcome := some .failed }, ?_, rfl⟩
  have hb : benign (m0 t) = true := by
    unfold benign
    simp only [key.1, key.2.1, Bool.or_true]
  have hs : (m0 t).step = { m0 t with outcome := some .failed } := by
    unfold M.step
    simp only [key.1, key.2.1, key.2.2, Option.isSome_none, Bool.false_eq_true, if_false]
  unfold runB
  rw [if_neg (by rw [key.2.2]; exact Bool.false_ne_true), if_pos hb, hs]
  exact runB_out rfl
theorem runB_more {a b : Nat} {m m' : M} (h : runB a m = some m') (ho : m'.outcome.isSome = true) (hab : a ≤ b) : runB b m = some m' := by
  obtain ⟨c, rfl⟩ := Nat.exists_eq_add_of_le hab
  rw [runB_add, h]
  exact runB_out ho
theorem reach0 {t : List Nat} (h : 5 ≤ t.length) : runB 1 (m0 t) = some (S0 t) := by
  rw [m0_long h]
  rw [← runF_eq]
  kernel_rfl
theorem go0 (r : List Nat) : runF 1 (S0 (48::r)) = some (S1 (48::r)) := by kernel_rfl
theorem reach1 {r : List Nat} (h : 5 ≤ (48::r).length) : runB 2 (m0 (48::r)) = some (S1 (48::r)) := by
  rw [show 2 = 1 + 1 from rfl, runB_add, reach0 h]
  exact (runF_eq _ _).symm.trans (go0 r)
theorem go1 (r : List Nat) : runF 1 (S1 (48::48::r)) = some (S2 (48::48::r)) := by kernel_rfl
theorem reach2 {r : List Nat} (h : 5 ≤ (48::48::r).length) : runB 3 (m0 (48::48::r)) = some (S2 (48::48::r)) := by
  rw [show 3 = 2 + 1 from rfl, runB_add, reach1 (r := 48::r) h]
  exact (runF_eq _ _).symm.trans (go1 r)
theorem go2 (r : List Nat) : runF 1 (S2 (48::48::48::r)) = some (S3 (48::48::48::r)) := by kernel_rfl
theorem reach3 {r : List Nat} (h : 5 ≤ (48::48::48::r).length) : runB 4 (m0 (48::48::48::r)) = some (S3 (48::48::48::r)) := by
  rw [show 4 = 3 + 1 from rfl, runB_add, reach2 (r := 48::r) h]
  exact (runF_eq _ _).symm.trans (go2 r)
theorem go3 (r : List Nat) : runF 4 (S3 (48::48::48::48::r)) = some (S4 (48::48::48::48::r)) := by kernel_rfl
theorem reach4 {r : List Nat} (h : 5 ≤ (48::48::48::48::r).length) : runB 8 (m0 (48::48::48::48::r)) = some (S4 (48::48::48::48::r)) := by
  rw [show 8 = 4 + 4 from rfl, runB_add, reach3 (r := 48::r) h]
  exact (runF_eq _ _).symm.trans (go3 r)
theorem go4 (r : List Nat) : runF 2 (S4 (48::48::48::48::45::r)) = some (S5 (48::48::48::48::45::r)) := by kernel_rfl
theorem reach5 {r : List Nat} (h : 5 ≤ (48::48::48::48::45::r).length) : runB 10 (m0 (48::48::48::48::45::r)) = some (S5 (48::48::48::48::45::r)) := by
  rw [show 10 = 8 + 2 from rfl, runB_add, reach4 (r := 45::r) h]
  exact (runF_eq _ _).symm.trans (go4 r)
theorem go5 (r : List Nat) : runF 1 (S5 (48::48::48::48::45::48::r)) = some (S6 (48::48::48::48::45::48::r)) := by kernel_rfl
theorem reach6 {r : List Nat} (h : 5 ≤ (48::48::48::48::45::48::r).length) : runB 11 (m0 (48::48::48::48::45::48::r)) = some (S6 (48::48::48::48::45::48::r)) := by
  rw [show 11 = 10 + 1 from rfl, runB_add, reach5 (r := 48::r) h]
  exact (runF_eq _ _).symm.trans (go5 r)
theorem go6 (r : List Nat) : runF 4 (S6 (48::48::48::48::45::48::48::r)) = some (S7 (48::48::48::48::45::48::48::r)) := by kernel_rfl
theorem reach7 {r : List Nat} (h : 5 ≤ (48::48::48::48::45::48::48::r).length) : runB 15 (m0 (48::48::48::48::45::48::48::r)) = some (S7 (48::48::48::48::45::48::48::r)) := by
  rw [show 15 = 11 + 4 from rfl, runB_add, reach6 (r := 48::r) h]
  exact (runF_eq _ _).symm.trans (go6 r)
theorem go7 (r : List Nat) : runF 2 (S7 (48::48::48::48::45::48::48::45::r)) = some (S8 (48::48::48::48::45::48::48::45::r)) := by kernel_rfl
theorem reach8 {r : List Nat} (h : 5 ≤ (48::48::48::48::45::48::48::45::r).length) : runB 17 (m0 (48::48::48::48::45::48::48::45::r)) = some (S8 (48::48::48::48::45::48::48::45::r)) := by
  rw [show 17 = 15 + 2 from rfl, runB_add, reach7 (r := 45::r) h]
  exact (runF_eq _ _).symm.trans (go7 r)
theorem go8 (r : List Nat) : runF 1 (S8 (48::48::48::48::45::48::48::45::48::r)) = some (S9 (48::48::48::48::45::48::48::45::48::r)) := by kernel_rfl
theorem reach9 {r : List Nat} (h : 5 ≤ (48::48::48::48::45::48::48::45::48::r).length) : runB 18 (m0 (48::48::48::48::45::48::48::45::48::r)) = some (S9 (48::48::48::48::45::48::48::45::48::r)) := by
  rw [show 18 = 17 + 1 from rfl, runB_add, reach8 (r := 48::r) h]
  exact (runF_eq _ _).symm.trans (go8 r)
theorem go9 (r : List Nat) : runF 4 (S9 (48::48::48::48::45::48::48::45::48::48::r)) = some (S10 (48::48::48::48::45::48::48::45::48::48::r)) := by kernel_rfl
theorem reach10 {r : List Nat} (h : 5 ≤ (48::48::48::48::45::48::48::45::48::48::r).length) : runB 22 (m0 (48::48::48::48::45::48::48::45::48::48::r)) = some (S10 (48::48::48::48::45::48::48::45::48::48::r)) := by
  rw [show 22 = 18 + 4 from rfl, runB_add, reach9 (r := 48::r) h]
  exact (runF_eq _ _).symm.trans (go9 r)
theorem go10 (r : List Nat) : runF 2 (S10 (48::48::48::48::45::48::48::45::48::48::84::r)) = some (S11 (48::48::48::48::45::48::48::45::48::48::84::r)) := by kernel_rfl
theorem reach11 {r : List Nat} (h : 5 ≤ (48::48::48::48::45::48::48::45::48::48::84::r).length) : runB 24 (m0 (48::48::48::48::45::48::48::45::48::48::84::r)) = some (S11 (48::48::48::48::45::48::48::45::48::48::84::r)) := by
  rw [show 24 = 22 + 2 from rfl, runB_add, reach10 (r := 84::r) h]
  exact (runF_eq _ _).symm.trans (go10 r)
theorem go11 (r : List Nat) : runF 1 (S11 (48::48::48::48::45::48::48::45::48::48::84::48::r)) = some (S12 (48::48::48::48::45::48::48::45::48::48::84::48::r)) := by kernel_rfl
theorem reach12 {r : List Nat} (h : 5 ≤ (48::48::48::48::45::48::48::45::48::48::84::48::r).length) : runB 25 (m0 (48::48::48::48::45::48::48::45::48::48::84::48::r)) = some (S12 (48::48::48::48::45::48::48::45::48::48::84::48::r)) := by
  rw [show 25 = 24 + 1 from rfl, runB_add, reach11 (r := 48::r) h]
  exact (runF_eq _ _).symm.trans (go11 r)
theorem go12 (r : List Nat) : runF 4 (S12 (48::48::48::48::45::48::48::45::48::48::84::48::48::r)) = some (S13 (48::48::48::48::45::48::48::45::48::48::84::48::48::r)) := by kernel_rfl
theorem reach13 {r : List Nat} (h : 5 ≤ (48::48::48::48::45::48::48::45::48::48::84::48::48::r).length) : runB 29 (m0 (48::48::48::48::45::48::48::45::48::48::84::48::48::r)) = some (S13 (48::48::48::48::45::48::48::45::48::48::84::48::48::r)) := by
  rw [show 29 = 25 + 4 from rfl, runB_add, reach12 (r := 48::r) h]
  exact (runF_eq _ _).symm.trans (go12 r)
theorem go13 (r : List Nat) : runF 2 (S13 (48::48::48::48::45::48::48::45::48::48::84::48::48::58::r)) = some (S14 (48::48::48::48::45::48::48::45::48::48::84::48::48::58::r)) := by kernel_rfl
theorem reach14 {r : List Nat} (h : 5 ≤ (48::48::48::48::45::48::48::45::48::48::84::48::48::58::r).length) : runB 31 (m0 (48::48::48::48::45::48::48::45::48::48::84::48::48::58::r)) = some (S14 (48::48::48::48::45::48::48::45::48::48::84::48::48::58::r)) := by
  rw [show 31 = 29 + 2 from rfl, runB_add, reach13 (r := 58::r) h]
  exact (runF_eq _ _).symm.trans (go13 r)
theorem go14 (r : List Nat) : runF 1 (S14 (48::48::48::48::45::48::48::45::48::48::84::48::48::58::48::r)) = some (S15 (48::48::48::48::45::48::48::45::48::48::84::48::48::58::48::r)) := by kernel_rfl
theorem reach15 {r : List Nat} (h : 5 ≤ (48::48::48::48::45::48::48::45::48::48::84::48::48::58::48::r).length) : runB 32 (m0 (48::48::48::48::45::48::48::45::48::48::84::48::48::58::48::r)) = some (S15 (48::48::48::48::45::48::48::45::48::48::84::48::48::58::48::r)) := by
  rw [show 32 = 31 + 1 from rfl, runB_add, reach14 (r := 48::r) h]
  exact (runF_eq _ _).symm.trans (go14 r)
theorem go15 (r : List Nat) : runF 4 (S15 (48::48::48::48::45::48::48::45::48::48::84::48::48::58::48::48::r)) = some (S16 (48::48::48::48::45::48::48::45::48::48::84::48::48::58::48::48::r)) := by kernel_rfl
theorem reach16 {r : List Nat} (h : 5 ≤ (48::48::48::48::45::48::48::45::48::48::84::48::48::58::48::48::r).length) : runB 36 (m0 (48::48::48::48::45::48::48::45::48::48::84::48::48::58::48::48::r)) = some (S16 (48::48::48::48::45::48::48::45::48::48::84::48::48::58::48::48::r)) := by
  rw [show 36 = 32 + 4 from rfl, runB_add, reach15 (r := 48::r) h]
  exact (runF_eq _ _).symm.trans (go15 r)
theorem go16 (r : List Nat) : runF 2 (S16 (48::48::48::48::45::48::48::45::48::48::84::48::48::58::48::48::58::r)) = some (S17 (48::48::48::48::45::48::48::45::48::48::84::48::48::58::48::48::58::r)) := by kernel_rfl
theorem reach17 {r : List Nat} (h : 5 ≤ (48::48::48::48::45::48::48::45::48::48::84::48::48::58::48::48::58::r).length) : runB 38 (m0 (48::48::48::48::45::48::48::45::48::48::84::48::48::58::48::48::58::r)) = some (S17 (48::48::48::48::45::48::48::45::48::48::84::48::48::58::48::48::58::r)) := by
  rw [show 38 = 36 + 2 from rfl, runB_add, reach16 (r := 58::r) h]
  exact (runF_eq _ _).symm.trans (go16 r)
theorem go17 (r : List Nat) : runF 1 (S17 (48::48::48::48::45::48::48::45::48::48::84::48::48::58::48::48::58::48::r)) = some (S18 (48::48::48::48::45::48::48::45::48::48::84::48::48::58::48::48::58::48::r)) := by kernel_rfl
theorem reach18 {r : List Nat} (h : 5 ≤ (48::48::48::48::45::48::48::45::48::48::84::48::48::58::48::48::58::48::r).length) : runB 39 (m0 (48::48::48::48::45::48::48::45::48::48::84::48::48::58::48::48::58::48::r)) = some (S18 (48::48::48::48::45::48::48::45::48::48::84::48::48::58::48::48::58::48::r)) := by
  rw [show 39 = 38 + 1 from rfl, runB_add, reach17 (r := 48::r) h]
  exact (runF_eq _ _).symm.trans (go17 r)
theorem go18 (r : List Nat) : runF 7 (S18 (48::48::48::48::45::48::48::45::48::48::84::48::48::58::48::48::58::48::48::r)) = some (S19 (48::48::48::48::45::48::48::45::48::48::84::48::48::58::48::48::58::48::48::r)) := by kernel_rfl
theorem reach19 {r : List Nat} (h : 5 ≤ (48::48::48::48::45::48::48::45::48::48::84::48::48::58::48::48::58::48::48::r).length) : runB 46 (m0 (48::48::48::48::45::48::48::45::48::48::84::48::48::58::48::48::58::48::48::r)) = some (S19 (48::48::48::48::45::48::48::45::48::48::84::48::48::58::48::48::58::48::48::r)) := by
  rw [show 46 = 39 + 7 from rfl, runB_add, reach18 (r := 48::r) h]
  exact (runF_eq _ _).symm.trans (go18 r)
def tell (m : M) : Nat × Array (Option Nat) × Int × Int × Nat × Nat :=
  (match m.outcome with | some .failed => 1 | some .matched => 2 | _ => 0, m.marks, m.lastmark, m.lastindex, m.start, m.handed)
theorem tell_failed {m : Option M} {x : Nat × Array (Option Nat) × Int × Int × Nat × Nat} (hx : x.1 = 1) (h : m.map tell = some x) : ∃ m', m = some m' ∧ m'.outcome = some .failed := by
  cases m with
  | none => cases h
  | some m =>
    refine ⟨m, rfl, ?_⟩
    have e : (tell m).1 = 1 := by rw [Option.map_some] at h; cases h; exact hx
    unfold tell at e
    dsimp only at e
    split at e
    · assumption
    · cases e
    · cases e
theorem said_failed {m : Option M} (h : m.map (fun m => (tell m).1) = some 1) : ∃ m', m = some m' ∧ m'.outcome = some .failed := by
  cases m with
  | none => cases h
  | some m =>
    refine ⟨m, rfl, ?_⟩
    have e : (tell m).1 = 1 := by rw [Option.map_some] at h; exact Option.some.inj h
    unfold tell at e
    dsimp only at e
    split at e
    · assumption
    · cases e
    · cases e
theorem fail_on {a b : Nat} {m m1 : M} (h1 : runB a m = some m1) (h2 : (runF b m1).map (fun m => (tell m).1) = some 1) (hab : a + b ≤ 100) : ∃ m', runB 100 m = some m' ∧ m'.outcome = some .failed := by
  obtain ⟨m2, e, ho⟩ := said_failed h2
  refine ⟨m2, runB_more (a := a + b) ?_ (by rw [ho]; rfl) hab, ho⟩
  rw [runB_add, h1]
  exact (runF_eq _ _).symm.trans e
theorem hit_on {a b : Nat} {m m1 : M} {x : Nat × Array (Option Nat) × Int × Int × Nat × Nat} (h1 : runB a m = some m1) (h2 : (runF b m1).map tell = some x) (hx : x.1 = 2) (hab : a + b ≤ 100) : ∃ m', runB 100 m = some m' ∧ tell m' = x ∧ m'.outcome = some .matched := by
  cases e : runF b m1 with
  | none => rw [e] at h2; cases h2
  | some m2 =>
    rw [e, Option.map_some] at h2
    have h3 := Option.some.inj h2
    have ho : m2.outcome = some .matched := by
      rw [← h3] at hx
      unfold tell at hx
      dsimp only at hx
      split at hx
      · cases hx
      · assumption
      · cases hx
    refine ⟨m2, runB_more (a := a + b) ?_ (by rw [ho]; rfl) hab, h3, ho⟩
    rw [runB_add, h1]
    exact (runF_eq _ _).symm.trans e
theorem tail0_0 (r : List Nat) : (runF 2 (S0 (0::r))).map (fun m => (tell m).1) = some 1 := by kernel_rfl
theorem fail0_0 {r : List Nat} (h : 5 ≤ (0::r).length) : ∃ m', runB 100 (m0 (0::r)) = some m' ∧ m'.outcome = some .failed := fail_on (reach0 (t := 0::r) h) (tail0_0 r) (by decide)
theorem tailZ_0 (r : List Nat) : (runF 2 (S0 (90::r))).map (fun m => (tell m).1) = some 1 := by kernel_rfl
theorem failZ_0 {r : List Nat} (h : 5 ≤ (90::r).length) : ∃ m', runB 100 (m0 (90::r)) = some m' ∧ m'.outcome = some .failed := fail_on (reach0 (t := 90::r) h) (tailZ_0 r) (by decide)
theorem tail0_1 (r : List Nat) : (runF 2 (S1 (48::0::r))).map (fun m => (tell m).1) = some 1 := by kernel_rfl
theorem fail0_1 {r : List Nat} (h : 5 ≤ (48::0::r).length) : ∃ m', runB 100 (m0 (48::0::r)) = some m' ∧ m'.outcome = some .failed := fail_on (reach1 (r := 0::r) h) (tail0_1 r) (by decide)
theorem tailZ_1 (r : List Nat) : (runF 2 (S1 (48::90::r))).map (fun m => (tell m).1) = some 1 := by kernel_rfl
theorem failZ_1 {r : List Nat} (h : 5 ≤ (48::90::r).length) : ∃ m', runB 100 (m0 (48::90::r)) = some m' ∧ m'.outcome = some .failed := fail_on (reach1 (r := 90::r) h) (tailZ_1 r) (by decide)
theorem tail0_2 (r : List Nat) : (runF 2 (S2 (48::48::0::r))).map (fun m => (tell m).1) = some 1 := by kernel_rfl
theorem fail0_2 {r : List Nat} (h : 5 ≤ (48::48::0::r).length) : ∃ m', runB 100 (m0 (48::48::0::r)) = some m' ∧ m'.outcome = some .failed := fail_on (reach2 (r := 0::r) h) (tail0_2 r) (by decide)
theorem tailZ_2 (r : List Nat) : (runF 2 (S2 (48::48::90::r))).map (fun m => (tell m).1) = some 1 := by kernel_rfl
theorem failZ_2 {r : List Nat} (h : 5 ≤ (48::48::90::r).length) : ∃ m', runB 100 (m0 (48::48::90::r)) = some m' ∧ m'.outcome = some .failed := fail_on (reach2 (r := 90::r) h) (tailZ_2 r) (by decide)
theorem tail0_3 (r : List Nat) : (runF 2 (S3 (48::48::48::0::r))).map (fun m => (tell m).1) = some 1 := by kernel_rfl
theorem fail0_3 {r : List Nat} (h : 5 ≤ (48::48::48::0::r).length) : ∃ m', runB 100 (m0 (48::48::48::0::r)) = some m' ∧ m'.outcome = some .failed := fail_on (reach3 (r := 0::r) h) (tail0_3 r) (by decide)
theorem tailZ_3 (r : List Nat) : (runF 2 (S3 (48::48::48::90::r))).map (fun m => (tell m).1) = some 1 := by kernel_rfl
theorem failZ_3 {r : List Nat} (h : 5 ≤ (48::48::48::90::r).length) : ∃ m', runB 100 (m0 (48::48::48::90::r)) = some m' ∧ m'.outcome = some .failed := fail_on (reach3 (r := 90::r) h) (tailZ_3 r) (by decide)
theorem tail0_4 (r : List Nat) : (runF 6 (S4 (48::48::48::48::0::r))).map (fun m => (tell m).1) = some 1 := by kernel_rfl
theorem fail0_4 {r : List Nat} : ∃ m', runB 100 (m0 (48::48::48::48::0::r)) = some m' ∧ m'.outcome = some .failed := fail_on (reach4 (r := 0::r) (by simp only [List.length_cons]; omega)) (tail0_4 r) (by decide)
theorem tailH_4 (r : List Nat) : (runF 7 (S4 (48::48::48::48::90::r))).map tell = some (2, #[some 0, some 4, none, none, none, none, none, none, none, none, none, none], 1, 1, 0, 5) := by kernel_rfl
theorem hit_1 {r : List Nat} : ∃ m', runB 100 (m0 (48::48::48::48::90::r)) = some m' ∧ tell m' = (2, #[some 0, some 4, none, none, none, none, none, none, none, none, none, none], 1, 1, 0, 5) ∧ m'.outcome = some .matched := hit_on (reach4 (r := 90::r) (by simp only [List.length_cons]; omega)) (tailH_4 r) rfl (by decide)
theorem tail0_5 (r : List Nat) : (runF 6 (S5 (48::48::48::48::45::0::r))).map (fun m => (tell m).1) = some 1 := by kernel_rfl
theorem fail0_5 {r : List Nat} : ∃ m', runB 100 (m0 (48::48::48::48::45::0::r)) = some m' ∧ m'.outcome = some .failed := fail_on (reach5 (r := 0::r) (by simp only [List.length_cons]; omega)) (tail0_5 r) (by decide)
theorem tailZ_5 (r : List Nat) : (runF 6 (S5 (48::48::48::48::45::90::r))).map (fun m => (tell m).1) = some 1 := by kernel_rfl
theorem failZ_5 {r : List Nat} : ∃ m', runB 100 (m0 (48::48::48::48::45::90::r)) = some m' ∧ m'.outcome = some .failed := fail_on (reach5 (r := 90::r) (by simp only [List.length_cons]; omega)) (tailZ_5 r) (by decide)
theorem tailE_5 : (runF 6 (S5 (48::48::48::48::45::[]))).map (fun m => (tell m).1) = some 1 := by kernel_rfl
theorem failE_5 : ∃ m', runB 100 (m0 (48::48::48::48::45::[])) = some m' ∧ m'.outcome = some .failed := fail_on (reach5 (r := []) (by decide)) tailE_5 (by decide)
theorem tail0_6 (r : List Nat) : (runF 6 (S6 (48::48::48::48::45::48::0::r))).map (fun m => (tell m).1) = some 1 := by kernel_rfl
theorem fail0_6 {r : List Nat} : ∃ m', runB 100 (m0 (48::48::48::48::45::48::0::r)) = some m' ∧ m'.outcome = some .failed := fail_on (reach6 (r := 0::r) (by simp only [List.length_cons]; omega)) (tail0_6 r) (by decide)
theorem tailZ_6 (r : List Nat) : (runF 6 (S6 (48::48::48::48::45::48::90::r))).map (fun m => (tell m).1) = some 1 := by kernel_rfl
theorem failZ_6 {r : List Nat} : ∃ m', runB 100 (m0 (48::48::48::48::45::48::90::r)) = some m' ∧ m'.outcome = some .failed := fail_on (reach6 (r := 90::r) (by simp only [List.length_cons]; omega)) (tailZ_6 r) (by decide)
theorem tailE_6 : (runF 6 (S6 (48::48::48::48::45::48::[]))).map (fun m => (tell m).1) = some 1 := by kernel_rfl
theorem failE_6 : ∃ m', runB 100 (m0 (48::48::48::48::45::48::[])) = some m' ∧ m'.outcome = some .failed := fail_on (reach6 (r := []) (by decide)) tailE_6 (by decide)
theorem tail0_7 (r : List Nat) : (runF 12 (S7 (48::48::48::48::45::48::48::0::r))).map (fun m => (tell m).1) = some 1 := by kernel_rfl
theorem fail0_7 {r : List Nat} : ∃ m', runB 100 (m0 (48::48::48::48::45::48::48::0::r)) = some m' ∧ m'.outcome = some .failed := fail_on (reach7 (r := 0::r) (by simp only [List.length_cons]; omega)) (tail0_7 r) (by decide)
theorem tailE_7 : (runF 12 (S7 (48::48::48::48::45::48::48::[]))).map (fun m => (tell m).1) = some 1 := by kernel_rfl
theorem failE_7 : ∃ m', runB 100 (m0 (48::48::48::48::45::48::48::[])) = some m' ∧ m'.outcome = some .failed := fail_on (reach7 (r := []) (by decide)) tailE_7 (by decide)
theorem tailH_7 (r : List Nat) : (runF 11 (S7 (48::48::48::48::45::48::48::90::r))).map tell = some (2, #[some 0, some 4, some 5, some 7, none, none, none, none, none, none, none, none], 3, 2, 0, 8) := by kernel_rfl
theorem hit_2 {r : List Nat} : ∃ m', runB 100 (m0 (48::48::48::48::45::48::48::90::r)) = some m' ∧ tell m' = (2, #[some 0, some 4, some 5, some 7, none, none, none, none, none, none, none, none], 3, 2, 0, 8) ∧ m'.outcome = some .matched := hit_on (reach7 (r := 90::r) (by simp only [List.length_cons]; omega)) (tailH_7 r) rfl (by decide)
theorem tail0_8 (r : List Nat) : (runF 12 (S8 (48::48::48::48::45::48::48::45::0::r))).map (fun m => (tell m).1) = some 1 := by kernel_rfl
theorem fail0_8 {r : List Nat} : ∃ m', runB 100 (m0 (48::48::48::48::45::48::48::45::0::r)) = some m' ∧ m'.outcome = some .failed := fail_on (reach8 (r := 0::r) (by simp only [List.length_cons]; omega)) (tail0_8 r) (by decide)
theorem tailZ_8 (r : List Nat) : (runF 12 (S8 (48::48::48::48::45::48::48::45::90::r))).map (fun m => (tell m).1) = some 1 := by kernel_rfl
theorem failZ_8 {r : List Nat} : ∃ m', runB 100 (m0 (48::48::48::48::45::48::48::45::90::r)) = some m' ∧ m'.outcome = some .failed := fail_on (reach8 (r := 90::r) (by simp only [List.length_cons]; omega)) (tailZ_8 r) (by decide)
theorem tailE_8 : (runF 12 (S8 (48::48::48::48::45::48::48::45::[]))).map (fun m => (tell m).1) = some 1 := by kernel_rfl
theorem failE_8 : ∃ m', runB 100 (m0 (48::48::48::48::45::48::48::45::[])) = some m' ∧ m'.outcome = some .failed := fail_on (reach8 (r := []) (by decide)) tailE_8 (by decide)
theorem tail0_9 (r : List Nat) : (runF 12 (S9 (48::48::48::48::45::48::48::45::48::0::r))).map (fun m => (tell m).1) = some 1 := by kernel_rfl
theorem fail0_9 {r : List Nat} : ∃ m', runB 100 (m0 (48::48::48::48::45::48::48::45::48::0::r)) = some m' ∧ m'.outcome = some .failed := fail_on (reach9 (r := 0::r) (by simp only [List.length_cons]; omega)) (tail0_9 r) (by decide)
theorem tailZ_9 (r : List Nat) : (runF 12 (S9 (48::48::48::48::45::48::48::45::48::90::r))).map (fun m => (tell m).1) = some 1 := by kernel_rfl
theorem failZ_9 {r : List Nat} : ∃ m', runB 100 (m0 (48::48::48::48::45::48::48::45::48::90::r)) = some m' ∧ m'.outcome = some .failed := fail_on (reach9 (r := 90::r) (by simp only [List.length_cons]; omega)) (tailZ_9 r) (by decide)
theorem tailE_9 : (runF 12 (S9 (48::48::48::48::45::48::48::45::48::[]))).map (fun m => (tell m).1) = some 1 := by kernel_rfl
theorem failE_9 : ∃ m', runB 100 (m0 (48::48::48::48::45::48::48::45::48::[])) = some m' ∧ m'.outcome = some .failed := fail_on (reach9 (r := []) (by decide)) tailE_9 (by decide)
theorem tail0_10 (r : List Nat) : (runF 20 (S10 (48::48::48::48::45::48::48::45::48::48::0::r))).map (fun m => (tell m).1) = some 1 := by kernel_rfl
theorem fail0_10 {r : List Nat} : ∃ m', runB 100 (m0 (48::48::48::48::45::48::48::45::48::48::0::r)) = some m' ∧ m'.outcome = some .failed := fail_on (reach10 (r := 0::r) (by simp only [List.length_cons]; omega)) (tail0_10 r) (by decide)
theorem tailE_10 : (runF 20 (S10 (48::48::48::48::45::48::48::45::48::48::[]))).map (fun m => (tell m).1) = some 1 := by kernel_rfl
theorem failE_10 : ∃ m', runB 100 (m0 (48::48::48::48::45::48::48::45::48::48::[])) = some m' ∧ m'.outcome = some .failed := fail_on (reach10 (r := []) (by decide)) tailE_10 (by decide)
theorem tailH_10 (r : List Nat) : (runF 15 (S10 (48::48::48::48::45::48::48::45::48::48::90::r))).map tell = some (2, #[some 0, some 4, some 5, some 7, some 8, some 10, none, none, none, none, none, none], 5, 3, 0, 11) := by kernel_rfl
theorem hit_3 {r : List Nat} : ∃ m', runB 100 (m0 (48::48::48::48::45::48::48::45::48::48::90::r)) = some m' ∧ tell m' = (2, #[some 0, some 4, some 5, some 7, some 8, some 10, none, none, none, none, none, none], 5, 3, 0, 11) ∧ m'.outcome = some .matched := hit_on (reach10 (r := 90::r) (by simp only [List.length_cons]; omega)) (tailH_10 r) rfl (by decide)
theorem tail0_11 (r : List Nat) : (runF 20 (S11 (48::48::48::48::45::48::48::45::48::48::84::0::r))).map (fun m => (tell m).1) = some 1 := by kernel_rfl
theorem fail0_11 {r : List Nat} : ∃ m', runB 100 (m0 (48::48::48::48::45::48::48::45::48::48::84::0::r)) = some m' ∧ m'.outcome = some .failed := fail_on (reach11 (r := 0::r) (by simp only [List.length_cons]; omega)) (tail0_11 r) (by decide)
theorem tailZ_11 (r : List Nat) : (runF 20 (S11 (48::48::48::48::45::48::48::45::48::48::84::90::r))).map (fun m => (tell m).1) = some 1 := by kernel_rfl
theorem failZ_11 {r : List Nat} : ∃ m', runB 100 (m0 (48::48::48::48::45::48::48::45::48::48::84::90::r)) = some m' ∧ m'.outcome = some .failed := fail_on (reach11 (r := 90::r) (by simp only [List.length_cons]; omega)) (tailZ_11 r) (by decide)
theorem tailE_11 : (runF 20 (S11 (48::48::48::48::45::48::48::45::48::48::84::[]))).map (fun m => (tell m).1) = some 1 := by kernel_rfl
theorem failE_11 : ∃ m', runB 100 (m0 (48::48::48::48::45::48::48::45::48::48::84::[])) = some m' ∧ m'.outcome = some .failed := fail_on (reach11 (r := []) (by decide)) tailE_11 (by decide)
theorem tail0_12 (r : List Nat) : (runF 20 (S12 (48::48::48::48::45::48::48::45::48::48::84::48::0::r))).map (fun m => (tell m).1) = some 1 := by kernel_rfl
theorem fail0_12 {r : List Nat} : ∃ m', runB 100 (m0 (48::48::48::48::45::48::48::45::48::48::84::48::0::r)) = some m' ∧ m'.outcome = some .failed := fail_on (reach12 (r := 0::r) (by simp only [List.length_cons]; omega)) (tail0_12 r) (by decide)
theorem tailZ_12 (r : List Nat) : (runF 20 (S12 (48::48::48::48::45::48::48::45::48::48::84::48::90::r))).map (fun m => (tell m).1) = some 1 := by kernel_rfl
theorem failZ_12 {r : List Nat} : ∃ m', runB 100 (m0 (48::48::48::48::45::48::48::45::48::48::84::48::90::r)) = some m' ∧ m'.outcome = some .failed := fail_on (reach12 (r := 90::r) (by simp only [List.length_cons]; omega)) (tailZ_12 r) (by decide)
theorem tailE_12 : (runF 20 (S12 (48::48::48::48::45::48::48::45::48::48::84::48::[]))).map (fun m => (tell m).1) = some 1 := by kernel_rfl
theorem failE_12 : ∃ m', runB 100 (m0 (48::48::48::48::45::48::48::45::48::48::84::48::[])) = some m' ∧ m'.outcome = some .failed := fail_on (reach12 (r := []) (by decide)) tailE_12 (by decide)
theorem tail0_13 (r : List Nat) : (runF 30 (S13 (48::48::48::48::45::48::48::45::48::48::84::48::48::0::r))).map (fun m => (tell m).1) = some 1 := by kernel_rfl
theorem fail0_13 {r : List Nat} : ∃ m', runB 100 (m0 (48::48::48::48::45::48::48::45::48::48::84::48::48::0::r)) = some m' ∧ m'.outcome = some .failed := fail_on (reach13 (r := 0::r) (by simp only [List.length_cons]; omega)) (tail0_13 r) (by decide)
theorem tailE_13 : (runF 30 (S13 (48::48::48::48::45::48::48::45::48::48::84::48::48::[]))).map (fun m => (tell m).1) = some 1 := by kernel_rfl
theorem failE_13 : ∃ m', runB 100 (m0 (48::48::48::48::45::48::48::45::48::48::84::48::48::[])) = some m' ∧ m'.outcome = some .failed := fail_on (reach13 (r := []) (by decide)) tailE_13 (by decide)
theorem tailH_13 (r : List Nat) : (runF 19 (S13 (48::48::48::48::45::48::48::45::48::48::84::48::48::90::r))).map tell = some (2, #[some 0, some 4, some 5, some 7, some 8, some 10, some 11, some 13, none, none, none, none], 7, 4, 0, 14) := by kernel_rfl
theorem hit_4 {r : List Nat} : ∃ m', runB 100 (m0 (48::48::48::48::45::48::48::45::48::48::84::48::48::90::r)) = some m' ∧ tell m' = (2, #[some 0, some 4, some 5, some 7, some 8, some 10, some 11, some 13, none, none, none, none], 7, 4, 0, 14) ∧ m'.outcome = some .matched := hit_on (reach13 (r := 90::r) (by simp only [List.length_cons]; omega)) (tailH_13 r) rfl (by decide)
theorem tail0_14 (r : List Nat) : (runF 30 (S14 (48::48::48::48::45::48::48::45::48::48::84::48::48::58::0::r))).map (fun m => (tell m).1) = some 1 := by kernel_rfl
theorem fail0_14 {r : List Nat} : ∃ m', runB 100 (m0 (48::48::48::48::45::48::48::45::48::48::84::48::48::58::0::r)) = some m' ∧ m'.outcome = some .failed := fail_on (reach14 (r := 0::r) (by simp only [List.length_cons]; omega)) (tail0_14 r) (by decide)
theorem tailZ_14 (r : List Nat) : (runF 30 (S14 (48::48::48::48::45::48::48::45::48::48::84::48::48::58::90::r))).map (fun m => (tell m).1) = some 1 := by kernel_rfl
theorem failZ_14 {r : List Nat} : ∃ m', runB 100 (m0 (48::48::48::48::45::48::48::45::48::48::84::48::48::58::90::r)) = some m' ∧ m'.outcome = some .failed := fail_on (reach14 (r := 90::r) (by simp only [List.length_cons]; omega)) (tailZ_14 r) (by decide)
theorem tailE_14 : (runF 30 (S14 (48::48::48::48::45::48::48::45::48::48::84::48::48::58::[]))).map (fun m => (tell m).1) = some 1 := by kernel_rfl
theorem failE_14 : ∃ m', runB 100 (m0 (48::48::48::48::45::48::48::45::48::48::84::48::48::58::[])) = some m' ∧ m'.outcome = some .failed := fail_on (reach14 (r := []) (by decide)) tailE_14 (by decide)
theorem tail0_15 (r : List Nat) : (runF 30 (S15 (48::48::48::48::45::48::48::45::48::48::84::48::48::58::48::0::r))).map (fun m => (tell m).1) = some 1 := by kernel_rfl
theorem fail0_15 {r : List Nat} : ∃ m', runB 100 (m0 (48::48::48::48::45::48::48::45::48::48::84::48::48::58::48::0::r)) = some m' ∧ m'.outcome = some .failed := fail_on (reach15 (r := 0::r) (by simp only [List.length_cons]; omega)) (tail0_15 r) (by decide)
theorem tailZ_15 (r : List Nat) : (runF 30 (S15 (48::48::48::48::45::48::48::45::48::48::84::48::48::58::48::90::r))).map (fun m => (tell m).1) = some 1 := by kernel_rfl
theorem failZ_15 {r : List Nat} : ∃ m', runB 100 (m0 (48::48::48::48::45::48::48::45::48::48::84::48::48::58::48::90::r)) = some m' ∧ m'.outcome = some .failed := fail_on (reach15 (r := 90::r) (by simp only [List.length_cons]; omega)) (tailZ_15 r) (by decide)
theorem tailE_15 : (runF 30 (S15 (48::48::48::48::45::48::48::45::48::48::84::48::48::58::48::[]))).map (fun m => (tell m).1) = some 1 := by kernel_rfl
theorem failE_15 : ∃ m', runB 100 (m0 (48::48::48::48::45::48::48::45::48::48::84::48::48::58::48::[])) = some m' ∧ m'.outcome = some .failed := fail_on (reach15 (r := []) (by decide)) tailE_15 (by decide)
theorem tail0_16 (r : List Nat) : (runF 42 (S16 (48::48::48::48::45::48::48::45::48::48::84::48::48::58::48::48::0::r))).map (fun m => (tell m).1) = some 1 := by kernel_rfl
theorem fail0_16 {r : List Nat} : ∃ m', runB 100 (m0 (48::48::48::48::45::48::48::45::48::48::84::48::48::58::48::48::0::r)) = some m' ∧ m'.outcome = some .failed := fail_on (reach16 (r := 0::r) (by simp only [List.length_cons]; omega)) (tail0_16 r) (by decide)
theorem tailE_16 : (runF 42 (S16 (48::48::48::48::45::48::48::45::48::48::84::48::48::58::48::48::[]))).map (fun m => (tell m).1) = some 1 := by kernel_rfl
theorem failE_16 : ∃ m', runB 100 (m0 (48::48::48::48::45::48::48::45::48::48::84::48::48::58::48::48::[])) = some m' ∧ m'.outcome = some .failed := fail_on (reach16 (r := []) (by decide)) tailE_16 (by decide)
theorem tailH_16 (r : List Nat) : (runF 23 (S16 (48::48::48::48::45::48::48::45::48::48::84::48::48::58::48::48::90::r))).map tell = some (2, #[some 0, some 4, some 5, some 7, some 8, some 10, some 11, some 13, some 14, some 16, none, none], 9, 5, 0, 17) := by kernel_rfl
theorem hit_5 {r : List Nat} : ∃ m', runB 100 (m0 (48::48::48::48::45::48::48::45::48::48::84::48::48::58::48::48::90::r)) = some m' ∧ tell m' = (2, #[some 0, some 4, some 5, some 7, some 8, some 10, some 11, some 13, some 14, some 16, none, none], 9, 5, 0, 17) ∧ m'.outcome = some .matched := hit_on (reach16 (r := 90::r) (by simp only [List.length_cons]; omega)) (tailH_16 r) rfl (by decide)
theorem tail0_17 (r : List Nat) : (runF 42 (S17 (48::48::48::48::45::48::48::45::48::48::84::48::48::58::48::48::58::0::r))).map (fun m => (tell m).1) = some 1 := by kernel_rfl
theorem fail0_17 {r : List Nat} : ∃ m', runB 100 (m0 (48::48::48::48::45::48::48::45::48::48::84::48::48::58::48::48::58::0::r)) = some m' ∧ m'.outcome = some .failed := fail_on (reach17 (r := 0::r) (by simp only [List.length_cons]; omega)) (tail0_17 r) (by decide)
theorem tailZ_17 (r : List Nat) : (runF 42 (S17 (48::48::48::48::45::48::48::45::48::48::84::48::48::58::48::48::58::90::r))).map (fun m => (tell m).1) = some 1 := by kernel_rfl
theorem failZ_17 {r : List Nat} : ∃ m', runB 100 (m0 (48::48::48::48::45::48::48::45::48::48::84::48::48::58::48::48::58::90::r)) = some m' ∧ m'.outcome = some .failed := fail_on (reach17 (r := 90::r) (by simp only [List.length_cons]; omega)) (tailZ_17 r) (by decide)
theorem tailE_17 : (runF 42 (S17 (48::48::48::48::45::48::48::45::48::48::84::48::48::58::48::48::58::[]))).map (fun m => (tell m).1) = some 1 := by kernel_rfl
theorem failE_17 : ∃ m', runB 100 (m0 (48::48::48::48::45::48::48::45::48::48::84::48::48::58::48::48::58::[])) = some m' ∧ m'.outcome = some .failed := fail_on (reach17 (r := []) (by decide)) tailE_17 (by decide)
theorem tail0_18 (r : List Nat) : (runF 42 (S18 (48::48::48::48::45::48::48::45::48::48::84::48::48::58::48::48::58::48::0::r))).map (fun m => (tell m).1) = some 1 := by kernel_rfl
theorem fail0_18 {r : List Nat} : ∃ m', runB 100 (m0 (48::48::48::48::45::48::48::45::48::48::84::48::48::58::48::48::58::48::0::r)) = some m' ∧ m'.outcome = some .failed := fail_on (reach18 (r := 0::r) (by simp only [List.length_cons]; omega)) (tail0_18 r) (by decide)
theorem tailZ_18 (r : List Nat) : (runF 42 (S18 (48::48::48::48::45::48::48::45::48::48::84::48::48::58::48::48::58::48::90::r))).map (fun m => (tell m).1) = some 1 := by kernel_rfl
theorem failZ_18 {r : List Nat} : ∃ m', runB 100 (m0 (48::48::48::48::45::48::48::45::48::48::84::48::48::58::48::48::58::48::90::r)) = some m' ∧ m'.outcome = some .failed := fail_on (reach18 (r := 90::r) (by simp only [List.length_cons]; omega)) (tailZ_18 r) (by decide)
theorem tailE_18 : (runF 42 (S18 (48::48::48::48::45::48::48::45::48::48::84::48::48::58::48::48::58::48::[]))).map (fun m => (tell m).1) = some 1 := by kernel_rfl
theorem failE_18 : ∃ m', runB 100 (m0 (48::48::48::48::45::48::48::45::48::48::84::48::48::58::48::48::58::48::[])) = some m' ∧ m'.outcome = some .failed := fail_on (reach18 (r := []) (by decide)) tailE_18 (by decide)
theorem tail0_19 (r : List Nat) : (runF 47 (S19 (48::48::48::48::45::48::48::45::48::48::84::48::48::58::48::48::58::48::48::0::r))).map (fun m => (tell m).1) = some 1 := by kernel_rfl
theorem fail0_19 {r : List Nat} : ∃ m', runB 100 (m0 (48::48::48::48::45::48::48::45::48::48::84::48::48::58::48::48::58::48::48::0::r)) = some m' ∧ m'.outcome = some .failed := fail_on (reach19 (r := 0::r) (by simp only [List.length_cons]; omega)) (tail0_19 r) (by decide)
theorem tailE_19 : (runF 47 (S19 (48::48::48::48::45::48::48::45::48::48::84::48::48::58::48::48::58::48::48::[]))).map (fun m => (tell m).1) = some 1 := by kernel_rfl
theorem failE_19 : ∃ m', runB 100 (m0 (48::48::48::48::45::48::48::45::48::48::84::48::48::58::48::48::58::48::48::[])) = some m' ∧ m'.outcome = some .failed := fail_on (reach19 (r := []) (by decide)) tailE_19 (by decide)
theorem tailH_19 (r : List Nat) : (runF 18 (S19 (48::48::48::48::45::48::48::45::48::48::84::48::48::58::48::48::58::48::48::90::r))).map tell = some (2, #[some 0, some 4, some 5, some 7, some 8, some 10, some 11, some 13, some 14, some 16, some 17, some 19], 11, 6, 0, 20) := by kernel_rfl
theorem hit_6 {r : List Nat} : ∃ m', runB 100 (m0 (48::48::48::48::45::48::48::45::48::48::84::48::48::58::48::48::58::48::48::90::r)) = some m' ∧ tell m' = (2, #[some 0, some 4, some 5, some 7, some 8, some 10, some 11, some 13, some 14, some 16, some 17, some 19], 11, 6, 0, 20) ∧ m'.outcome = some .matched := hit_on (reach19 (r := 90::r) (by simp only [List.length_cons]; omega)) (tailH_19 r) rfl (by decide)
end Mine
end
section
open PySem PySem.Sre
set_option maxRecDepth 100000
set_option Elab.async false
namespace Mine
theorem m0_text {t t' : List Nat} (h : t.length = t'.length) : withText (m0 t') ⟨t⟩ = m0 t := by
  unfold m0 forMatch
  rw [text_ite]
  simp only [h]
  rfl
theorem run_text {t t' : List Nat} {m' : M} (h : t.length = t'.length) (hs : ∀ p, canon p ((⟨t'⟩ : Array Nat).getD p 0) = canon p ((⟨t⟩ : Array Nat).getD p 0)) (hr : runB 100 (m0 t') = some m') :
    (m0 t).runFor 100 = withText m' ⟨t⟩ := by
  have := run_comm 100 (m0 t') m' ⟨t⟩ (by
    intro p
    have e : (m0 t').text = ⟨t'⟩ := by unfold m0 forMatch; dsimp only; split <;> rfl
    rw [e]; exact hs p) hr
  rw [m0_text h] at this
  exact this
theorem tell_text (m : M) (t : Array Nat) : tell (withText m t) = tell m := rfl
theorem out_text (m : M) (t : Array Nat) : (withText m t).outcome = m.outcome := rfl
theorem canon_dig {p d : Nat} (hp : shapeAt p = 48) (h : isDigit d = true) : canon p 48 = canon p d := by
  unfold canon
  rw [if_pos ⟨hp, rfl⟩, if_pos ⟨hp, h⟩]
theorem hitT_1 {d0 d1 d2 d3 : Nat} {r : List Nat} (h0 : isDigit d0 = true) (h1 : isDigit d1 = true) (h2 : isDigit d2 = true) (h3 : isDigit d3 = true) : ∃ m', (m0 (d0::d1::d2::d3::90::r)).runFor 100 = m' ∧ tell m' = (2, #[some 0, some 4, none, none, none, none, none, none, none, none, none, none], 1, 1, 0, 5) ∧ m'.outcome = some .matched := by
  obtain ⟨m', e, q1, q2⟩ := hit_1 (r := r)
  refine ⟨withText m' _, run_text (t := d0::d1::d2::d3::90::r) (by simp only [List.length_cons]) ?_ e, (tell_text _ _).trans q1, (out_text _ _).trans q2⟩
  intro p
  match p with
  | 0 => exact canon_dig rfl h0
  | 1 => exact canon_dig rfl h1
  | 2 => exact canon_dig rfl h2
  | 3 => exact canon_dig rfl h3
  | n + 4 => rfl
theorem hitT_2 {d0 d1 d2 d3 d5 d6 : Nat} {r : List Nat} (h0 : isDigit d0 = true) (h1 : isDigit d1 = true) (h2 : isDigit d2 = true) (h3 : isDigit d3 = true) (h5 : isDigit d5 = true) (h6 : isDigit d6 = true) : ∃ m', (m0 (d0::d1::d2::d3::45::d5::d6::90::r)).runFor 100 = m' ∧ tell m' = (2, #[some 0, some 4, some 5, some 7, none, none, none, none, none, none, none, none], 3, 2, 0, 8) ∧ m'.outcome = some .matched := by
  obtain ⟨m', e, q1, q2⟩ := hit_2 (r := r)
  refine ⟨withText m' _, run_text (t := d0::d1::d2::d3::45::d5::d6::90::r) (by simp only [List.length_cons]) ?_ e, (tell_text _ _).trans q1, (out_text _ _).trans q2⟩
  intro p
  match p with
  | 0 => exact canon_dig rfl h0
  | 1 => exact canon_dig rfl h1
  | 2 => exact canon_dig rfl h2
  | 3 => exact canon_dig rfl h3
  | 4 => rfl
  | 5 => exact canon_dig rfl h5
  | 6 => exact canon_dig rfl h6
  | n + 7 => rfl
theorem hitT_3 {d0 d1 d2 d3 d5 d6 d8 d9 : Nat} {r : List Nat} (h0 : isDigit d0 = true) (h1 : isDigit d1 = true) (h2 : isDigit d2 = true) (h3 : isDigit d3 = true) (h5 : isDigit d5 = true) (h6 : isDigit d6 = true) (h8 : isDigit d8 = true) (h9 : isDigit d9 = true) : ∃ m', (m0 (d0::d1::d2::d3::45::d5::d6::45::d8::d9::90::r)).runFor 100 = m' ∧ tell m' = (2, #[some 0, some 4, some 5, some 7, some 8, some 10, none, none, none, none, none, none], 5, 3, 0, 11) ∧ m'.outcome = some .matched := by
  obtain ⟨m', e, q1, q2⟩ := hit_3 (r := r)
  refine ⟨withText m' _, run_text (t := d0::d1::d2::d3::45::d5::d6::45::d8::d9::90::r) (by simp only [List.length_cons]) ?_ e, (tell_text _ _).trans q1, (out_text _ _).trans q2⟩
  intro p
  match p with
  | 0 => exact canon_dig rfl h0
  | 1 => exact canon_dig rfl h1
  | 2 => exact canon_dig rfl h2
  | 3 => exact canon_dig rfl h3
  | 4 => rfl
  | 5 => exact canon_dig rfl h5
  | 6 => exact canon_dig rfl h6
  | 7 => rfl
  | 8 => exact canon_dig rfl h8
  | 9 => exact canon_dig rfl h9
  | n + 10 => rfl
theorem hitT_4 {d0 d1 d2 d3 d5 d6 d8 d9 d11 d12 : Nat} {r : List Nat} (h0 : isDigit d0 = true) (h1 : isDigit d1 = true) (h2 : isDigit d2 = true) (h3 : isDigit d3 = true) (h5 : isDigit d5 = true) (h6 : isDigit d6 = true) (h8 : isDigit d8 = true) (h9 : isDigit d9 = true) (h11 : isDigit d11 = true) (h12 : isDigit d12 = true) : ∃ m', (m0 (d0::d1::d2::d3::45::d5::d6::45::d8::d9::84::d11::d12::90::r)).runFor 100 = m' ∧ tell m' = (2, #[some 0, some 4, some 5, some 7, some 8, some 10, some 11, some 13, none, none, none, none], 7, 4, 0, 14) ∧ m'.outcome = some .matched := by
  obtain ⟨m', e, q1, q2⟩ := hit_4 (r := r)
  refine ⟨withText m' _, run_text (t := d0::d1::d2::d3::45::d5::d6::45::d8::d9::84::d11::d12::90::r) (by simp only [List.length_cons]) ?_ e, (tell_text _ _).trans q1, (out_text _ _).trans q2⟩
  intro p
  match p with
  | 0 => exact canon_dig rfl h0
  | 1 => exact canon_dig rfl h1
  | 2 => exact canon_dig rfl h2
  | 3 => exact canon_dig rfl h3
  | 4 => rfl
  | 5 => exact canon_dig rfl h5
  | 6 => exact canon_dig rfl h6
  | 7 => rfl
  | 8 => exact canon_dig rfl h8
  | 9 => exact canon_dig rfl h9
  | 10 => rfl
  | 11 => exact canon_dig rfl h11
  | 12 => exact canon_dig rfl h12
  | n + 13 => rfl
theorem hitT_5 {d0 d1 d2 d3 d5 d6 d8 d9 d11 d12 d14 d15 : Nat} {r : List Nat} (h0 : isDigit d0 = true) (h1 : isDigit d1 = true) (h2 : isDigit d2 = true) (h3 : isDigit d3 = true) (h5 : isDigit d5 = true) (h6 : isDigit d6 = true) (h8 : isDigit d8 = true) (h9 : isDigit d9 = true) (h11 : isDigit d11 = true) (h12 : isDigit d12 = true) (h14 : isDigit d14 = true) (h15 : isDigit d15 = true) : ∃ m', (m0 (d0::d1::d2::d3::45::d5::d6::45::d8::d9::84::d11::d12::58::d14::d15::90::r)).runFor 100 = m' ∧ tell m' = (2, #[some 0, some 4, some 5, some 7, some 8, some 10, some 11, some 13, some 14, some 16, none, none], 9, 5, 0, 17) ∧ m'.outcome = some .matched := by
  obtain ⟨m', e, q1, q2⟩ := hit_5 (r := r)
  refine ⟨withText m' _, run_text (t := d0::d1::d2::d3::45::d5::d6::45::d8::d9::84::d11::d12::58::d14::d15::90::r) (by simp only [List.length_cons]) ?_ e, (tell_text _ _).trans q1, (out_text _ _).trans q2⟩
  intro p
  match p with
  | 0 => exact canon_dig rfl h0
  | 1 => exact canon_dig rfl h1
  | 2 => exact canon_dig rfl h2
  | 3 => exact canon_dig rfl h3
  | 4 => rfl
  | 5 => exact canon_dig rfl h5
  | 6 => exact canon_dig rfl h6
  | 7 => rfl
  | 8 => exact canon_dig rfl h8
  | 9 => exact canon_dig rfl h9
  | 10 => rfl
  | 11 => exact canon_dig rfl h11
  | 12 => exact canon_dig rfl h12
  | 13 => rfl
  | 14 => exact canon_dig rfl h14
  | 15 => exact canon_dig rfl h15
  | n + 16 => rfl
theorem hitT_6 {d0 d1 d2 d3 d5 d6 d8 d9 d11 d12 d14 d15 d17 d18 : Nat} {r : List Nat} (h0 : isDigit d0 = true) (h1 : isDigit d1 = true) (h2 : isDigit d2 = true) (h3 : isDigit d3 = true) (h5 : isDigit d5 = true) (h6 : isDigit d6 = true) (h8 : isDigit d8 = true) (h9 : isDigit d9 = true) (h11 : isDigit d11 = true) (h12 : isDigit d12 = true) (h14 : isDigit d14 = true) (h15 : isDigit d15 = true) (h17 : isDigit d17 = true) (h18 : isDigit d18 = true) : ∃ m', (m0 (d0::d1::d2::d3::45::d5::d6::45::d8::d9::84::d11::d12::58::d14::d15::58::d17::d18::90::r)).runFor 100 = m' ∧ tell m' = (2, #[some 0, some 4, some 5, some 7, some 8, some 10, some 11, some 13, some 14, some 16, some 17, some 19], 11, 6, 0, 20) ∧ m'.outcome = some .matched := by
  obtain ⟨m', e, q1, q2⟩ := hit_6 (r := r)
  refine ⟨withText m' _, run_text (t := d0::d1::d2::d3::45::d5::d6::45::d8::d9::84::d11::d12::58::d14::d15::58::d17::d18::90::r) (by simp only [List.length_cons]) ?_ e, (tell_text _ _).trans q1, (out_text _ _).trans q2⟩
  intro p
  match p with
  | 0 => exact canon_dig rfl h0
  | 1 => exact canon_dig rfl h1
  | 2 => exact canon_dig rfl h2
  | 3 => exact canon_dig rfl h3
  | 4 => rfl
  | 5 => exact canon_dig rfl h5
  | 6 => exact canon_dig rfl h6
  | 7 => rfl
  | 8 => exact canon_dig rfl h8
  | 9 => exact canon_dig rfl h9
  | 10 => rfl
  | 11 => exact canon_dig rfl h11
  | 12 => exact canon_dig rfl h12
  | 13 => rfl
  | 14 => exact canon_dig rfl h14
  | 15 => exact canon_dig rfl h15
  | 16 => rfl
  | 17 => exact canon_dig rfl h17
  | 18 => exact canon_dig rfl h18
  | n + 19 => rfl
end Mine
end
section
open PySem PySem.Sre PySem.Calls PyProof.Rows PySem.Builtin.Re PySem.W
set_option maxRecDepth 100000
set_option Elab.async false
namespace Mine
section
variable {α : Type} {M : Model} {A : Around} {E : Value → Shared → Prop} {s : Shared}

theorem runFor_out {n : Nat} {m : Sre.M} (h : m.outcome.isSome = true) : m.runFor n = m := by
  cases n with
  | zero => rfl
  | succ n => unfold M.runFor; rw [if_pos h]
theorem runFor_add : ∀ (a b : Nat) (m : Sre.M), m.runFor (a + b) = (m.runFor a).runFor b
  | 0, b, m => by rw [Nat.zero_add]; rfl
  | a + 1, b, m => by
    have e : a + 1 + b = (a + b) + 1 := by omega
    rw [e]
    by_cases h : m.outcome.isSome = true
    · rw [runFor_out h, runFor_out h, runFor_out h]
    · have e1 : ∀ n, m.runFor (n + 1) = m.step.runFor n := fun n => by
        conv => lhs; unfold M.runFor
        rw [if_neg h]
      rw [e1, e1]
      exact runFor_add a b m.step

theorem drive_any : ∀ (j turns : Nat) (m m' : Sre.M) {Q : Sre.M → Shared → Prop}, j < turns → m.runFor (4 * j + 4) = m' → m'.outcome.isSome = true → Q m' s →
    wpAny M A (reDrive turns m) Q E s
  | j, 0, m, m', Q, h, _, _, _ => absurd h (Nat.not_lt_zero _)
  | 0, turns + 1, m, m', Q, _, e, ho, hq => by
    unfold reDrive
    have e' : m.runFor reTurnSteps = m' := e
    simp only [e', ho, if_true]
    exact wpAny_pure hq
  | j + 1, turns + 1, m, m', Q, h, e, ho, hq => by
    unfold reDrive
    dsimp only
    have e2 : m.runFor (4 * (j + 1) + 4) = (m.runFor reTurnSteps).runFor (4 * j + 4) := by
      rw [← runFor_add]; congr 1; show 4 * (j + 1) + 4 = 4 + (4 * j + 4); omega
    by_cases h1 : (m.runFor reTurnSteps).outcome.isSome = true
    · rw [if_pos h1]
      have : m.runFor reTurnSteps = m' := by rw [← e, e2, runFor_out h1]
      exact wpAny_pure (this ▸ hq)
    · rw [if_neg h1]
      exact wpAny_bind (wpAny_rule (drive_any j turns _ m' (by omega) (e2 ▸ e) ho hq))

theorem rules_any {β : Type} (c : β → Bool) (g : β → String) : ∀ (l : List β) {Q : PUnit → Shared → Prop}, Q PUnit.unit s →
    wpAny M A (forIn l PUnit.unit fun i _ => (if c i = true then (do rule (g i); pure (ForInStep.yield PUnit.unit)) else (do pure PUnit.unit; pure (ForInStep.yield PUnit.unit)) : Sem (ForInStep PUnit))) Q E s
  | [], _, h => wpAny_pure h
  | x :: l, Q, h => by
    rw [List.forIn_cons]
    refine wpAny_bind ?_
    by_cases hc : c x = true
    · simp only [hc, if_true]
      exact wpAny_bind (wpAny_rule (wpAny_pure (rules_any c g l h)))
    · rw [if_neg hc]
      exact wpAny_pure (rules_any c g l h)

theorem end_any {m m' : Sre.M} {Q : Option Sre.M → Shared → Prop} (hr : m.runFor 100 = m') (ho : m'.outcome = some .matched) (h : Q (some m') s) : wpAny M A (reRunToEnd m) Q E s := by
  unfold reRunToEnd
  refine wpAny_bind (drive_any 24 _ m m' (by decide) hr (by rw [ho]; rfl) ?_)
  refine wpAny_bind (rules_any _ _ _ ?_)
  rw [ho]
  exact wpAny_pure h
theorem end_none {m m' : Sre.M} {Q : Option Sre.M → Shared → Prop} (hr : m.runFor 100 = m') (ho : m'.outcome = some .failed) (h : Q none s) : wpAny M A (reRunToEnd m) Q E s := by
  unfold reRunToEnd
  refine wpAny_bind (drive_any 24 _ m m' (by decide) hr (by rw [ho]; rfl) ?_)
  refine wpAny_bind (rules_any _ _ _ ?_)
  rw [ho]
  exact wpAny_pure h
end

/-- the pattern as it lies -/
structure PatAt (h : Heap) (p ct gi : Addr) : Prop where
  pat : ∃ o a0 a1 u a4 v, h.get? p = some o ∧ o.cls = .type "re.Pattern" ∧ o.dict = none ∧ o.data = .fields #[a0, a1, .int 6 u, .ref gi, a4, .ref ct, .int 0 v]
  code : ∃ o items n, h.get? ct = some o ∧ o.data = .seq items n ∧ (items.map reRawOf).map (·.toNat) = dcode

section
variable {M : Model} {A : Around} {E : Value → Shared → Prop} {s : Shared}
theorem target_any {p ct gi : Addr} {x : Str} {t : Tok} {Q : ReTarget → Shared → Prop} (P : PatAt s.heap p ct gi) (hx : x.cps.size ≤ 1048576)
    (h : Q { pattern := .ref p, string := .str x t, code := dcode, text := x.cps, kind := 0, groups := 6, pos := 0, lim := x.cps.size } s) :
    wpAny M A (reTarget "re.Pattern.match" "match" ⟨[.ref p, .str x t], []⟩) Q E s := by
  obtain ⟨o, a0, a1, u, a4, v, ho, _, _, hd⟩ := P.pat
  obtain ⟨oc, items, n, hc, hcd, hcode⟩ := P.code
  unfold reTarget
  dsimp only
  refine wpAny_bind (wpAny_of_eq (a := [some (.str x t), none, none]) (by first | rfl | kernel_rfl) ?_)
  dsimp only
  refine wpAny_bind (wpAny_pure ?_)
  refine wpAny_bind (wpAny_pure ?_)
  refine wpAny_bind (m := fieldsOf (.ref p)) ?_
  unfold fieldsOf
  refine wpAny_bind (wpAny_load ho ?_)
  rw [hd]
  refine wpAny_pure ?_
  refine wpAny_bind (wpAny_of_eq (a := (x.cps, 0)) rfl ?_)
  have w0 : reRawNat ((#[a0, a1, Value.int 6 u, Value.ref gi, a4, Value.ref ct, Value.int 0 v] : Array Value).getD 6 .none) = 0 := rfl
  simp only [w0]
  refine wpAny_bind (wpAny_of_eq (a := ()) rfl ?_)
  refine wpAny_bind (m := reRawItems (.ref ct)) ?_
  unfold reRawItems seqItems?
  dsimp only
  refine wpAny_bind (wpAny_bind (wpAny_load hc ?_))
  rw [hcd]
  refine wpAny_pure (wpAny_pure ?_)
  have e1 : Array.map (fun x => x.toNat) (Array.map reRawOf ((some items).getD #[])) = dcode := hcode
  have e2 : min (Int.toNat 0) x.cps.size = 0 := by simp
  have e3 : min (2 ^ 63 - 1 : Int).toNat x.cps.size = x.cps.size := Nat.min_eq_right (by
    have : (2 ^ 63 - 1 : Int).toNat = 9223372036854775807 := by decide
    rw [this]; omega)
  rw [e1, e2, e3]
  exact wpAny_pure h

def spansOf (mk : Array (Option Nat)) (lm : Int) : List Value := (List.range 6).flatMap fun g =>
    match if ((2 * g + 1 : Nat) : Int) ≤ lm then (mk.getD (2 * g) none, mk.getD (2 * g + 1) none) else (none, none) with
    | (some b, some e) => [rawInt b, rawInt e]
    | _ => [rawInt (-1), rawInt (-1)]
def spansBad (mk : Array (Option Nat)) (lm : Int) : Bool := (List.range 6).any (fun g => match mk.getD (2 * g) none, mk.getD (2 * g + 1) none with | some b, some e => ((2 * g + 1 : Nat) : Int) ≤ lm && e < b | _, _ => false)

def spansObj (sp : List Value) : Obj := { cls := .type "tuple", data := .seq sp.toArray }
def matchObj (p : Addr) (x : Str) (t : Tok) (n : Nat) (li : Int) (sa : Addr) : Obj := { cls := .type "re.Match", data := .fields #[.str x t, .ref p, rawInt 0, rawInt n, rawInt li, .ref sa] }

theorem newMatch_any {p : Addr} {x : Str} {t : Tok} {n : Nat} {m' : Sre.M} {mk : Array (Option Nat)} {lm li : Int} {st hd : Nat} {Q : Value → Shared → Prop}
    (e : tell m' = (2, mk, lm, li, st, hd)) (hb : spansBad mk lm = false) (hn : (rawInt st :: rawInt hd :: spansOf mk lm).length ≤ sizeLine)
    (h : Q (.ref (s.heap.objs.size + 1)) { s with heap := (s.heap.push (spansObj (rawInt st :: rawInt hd :: spansOf mk lm))).push (matchObj p x t n li s.heap.objs.size) }) :
    wpAny M A (reNewMatch (.ref p) (.str x t) 6 0 n m') Q E s := by
  unfold tell at e
  have e1 : m'.marks = mk := congrArg (fun y => y.2.1) e
  have e2 : m'.lastmark = lm := congrArg (fun y => y.2.2.1) e
  have e3 : m'.lastindex = li := congrArg (fun y => y.2.2.2.1) e
  have e4 : m'.start = st := congrArg (fun y => y.2.2.2.2.1) e
  have e5 : m'.handed = hd := congrArg (fun y => y.2.2.2.2.2) e
  unfold reNewMatch
  simp only [e1, e2, e3, e4, e5]
  rw [if_neg (fun q => by have q' : spansBad mk lm = true := q; rw [hb] at q'; cases q')]
  unfold newFields newTuple
  refine wpAny_bind (wpAny_newObj_type ?_ (by show (List.toArray _).size ≤ sizeLine; rw [List.size_toArray]; exact hn))
  refine wpAny_newObj_type ?_
  rw [Heap.size_push]
  exact h

theorem matchNew_any {p ct gi : Addr} {x : Str} {t : Tok} {l : List Nat} {m' : Sre.M} {mk : Array (Option Nat)} {lm li : Int} {st hd : Nat} {Q : Fin → Shared → Prop} (P : PatAt s.heap p ct gi) (hx : x.cps = ⟨l⟩) (hl : l.length ≤ 1048576)
    (hr : (m0 l).runFor 100 = m') (ho : m'.outcome = some .matched) (e : tell m' = (2, mk, lm, li, st, hd)) (hb : spansBad mk lm = false) (hn : (rawInt st :: rawInt hd :: spansOf mk lm).length ≤ sizeLine)
    (h : Q (.done (.ret (.ref (s.heap.objs.size + 1)))) { s with heap := (s.heap.push (spansObj (rawInt st :: rawInt hd :: spansOf mk lm))).push (matchObj p x t l.length li s.heap.objs.size) }) :
    wpAny M A (Builtin.«re.Pattern.match» ⟨[.ref p, .str x t], []⟩) Q E s := by
  have hs : x.cps.size = l.length := by rw [hx]; rfl
  unfold Builtin.«re.Pattern.match»
  refine wpAny_bind (target_any P (by rw [hs]; exact hl) ?_)
  unfold reAnswer
  have hm : Sre.forMatch dcode x.cps 6 0 x.cps.size false false = m0 l := by rw [hs, hx]; rfl
  dsimp only
  rw [hm]
  refine wpAny_bind (end_any hr ho ?_)
  dsimp only
  refine wpAny_bind (newMatch_any e hb hn ?_)
  rw [hs]
  exact wpAny_pure h
theorem matchNone_any {p ct gi : Addr} {x : Str} {t : Tok} {l : List Nat} {m' : Sre.M} {Q : Fin → Shared → Prop} (P : PatAt s.heap p ct gi) (hx : x.cps = ⟨l⟩) (hl : l.length ≤ 1048576)
    (hr : (m0 l).runFor 100 = m') (ho : m'.outcome = some .failed) (h : Q (.done (.ret .none)) s) :
    wpAny M A (Builtin.«re.Pattern.match» ⟨[.ref p, .str x t], []⟩) Q E s := by
  have hs : x.cps.size = l.length := by rw [hx]; rfl
  unfold Builtin.«re.Pattern.match»
  refine wpAny_bind (target_any P (by rw [hs]; exact hl) ?_)
  unfold reAnswer
  have hm : Sre.forMatch dcode x.cps 6 0 x.cps.size false false = m0 l := by rw [hs, hx]; rfl
  dsimp only
  rw [hm]
  refine wpAny_bind (end_none hr ho ?_)
  exact wpAny_pure h
end
theorem plain_pat : PlainAttrs "re.Pattern" := ⟨⟨"object.__getattribute__", by rw [typeLookup_type, builtinLookup_eq_fast]; kernel_rfl, by decide +kernel⟩, by rw [typeLookup_type, builtinLookup_eq_fast]; kernel_rfl⟩
theorem slot_match : Slot "re.Pattern" "match" "re.Pattern.match" :=
  .of (owner := "re.Pattern") (n := "match") (by rw [typeLookup_type, builtinLookup_eq_fast]; kernel_rfl) (by decide +kernel) (by decide +kernel) (by decide +kernel)
    (by first | exact .inl (by decide +kernel) | exact .inr (by decide +kernel)) (by rw [isSubtype_type]; kernel_rfl)
theorem type_match : typeOf (.builtin "re.Pattern.match") = pure (.type "method_descriptor") := by show builtinType _ = _; rw [builtinType_eq_fast]; kernel_rfl
theorem entry_match : entryFor table "re.Pattern.match" = some Builtin.«re.Pattern.match» := entryFor_of_tree (by kernel_rfl)
theorem args_match (a b : Value) : argsOk "re.Pattern.match" ⟨[a, b], []⟩ := by unfold argsOk; kernel_rfl
theorem plain_mat : PlainAttrs "re.Match" := ⟨⟨"object.__getattribute__", by rw [typeLookup_type, builtinLookup_eq_fast]; kernel_rfl, by decide +kernel⟩, by rw [typeLookup_type, builtinLookup_eq_fast]; kernel_rfl⟩
theorem slot_gd : Slot "re.Match" "groupdict" "re.Match.groupdict" :=
  .of (owner := "re.Match") (n := "groupdict") (by rw [typeLookup_type, builtinLookup_eq_fast]; kernel_rfl) (by decide +kernel) (by decide +kernel) (by decide +kernel)
    (by first | exact .inl (by decide +kernel) | exact .inr (by decide +kernel)) (by rw [isSubtype_type]; kernel_rfl)
theorem type_gd : typeOf (.builtin "re.Match.groupdict") = pure (.type "method_descriptor") := by show builtinType _ = _; rw [builtinType_eq_fast]; kernel_rfl
theorem entry_gd : entryFor table "re.Match.groupdict" = some Builtin.«re.Match.groupdict» := entryFor_of_tree (by kernel_rfl)
theorem args_gd (a : Value) : argsOk "re.Match.groupdict" ⟨[a], []⟩ := by unfold argsOk; kernel_rfl
end Mine
end
section
open PySem PySem.Sre PySem.Calls PyProof.Rows PySem.Builtin.Re PySem.W
set_option maxRecDepth 100000
set_option Elab.async false
namespace Mine
/-- what a group holds: its text, or none -/
def grp (x : Str) (sp : Array Int) (g : Nat) (v : Value) : Prop :=
  if sp.getD (2 * g) (-1) < 0 ∨ sp.getD (2 * g + 1) (-1) < 0 then v = .none else ∃ t, v = .str ⟨x.cps.extract (sp.getD (2 * g) (-1)).toNat (sp.getD (2 * g + 1) (-1)).toNat⟩ t
def giEs (w : World) (ts us : List Tok) : List DictEntry :=
  (([(Str.ofString "year", (1 : Int)), (Str.ofString "month", 2), (Str.ofString "day", 3), (Str.ofString "hour", 4), (Str.ofString "minute", 5), (Str.ofString "second", 6)].zip (ts.zip us)).map fun p => ⟨hashStr w p.1.1, .str p.1.1 p.2.1, .int p.1.2 p.2.2⟩)
structure GiAt (w : World) (h : Heap) (gi : Addr) (es : List DictEntry) : Prop where
  obj : ∃ o ep, h.get? gi = some o ∧ o.ExactDict ∧ o.data = .dict es.toArray ep
  keys : KeysOf (strKind default w) es.toArray
theorem str_noindex : typeLookup (.type "str") "__index__" = pure none := by rw [typeLookup_type, builtinLookup_eq_fast]; kernel_rfl
section
variable {prog : Program} {w : World} {A : Around} {E : Value → Shared → Prop} {s : Shared}
theorem keysOf_any {p q : Program} {es : Array DictEntry} (h : KeysOf (strKind p w) es) : KeysOf (strKind q w) es := h

theorem text_any {x : Str} {t : Tok} {fs : Array Value} {sp : Array Int} {g : Nat} {Q : Value → Shared → Prop} (hf : fs.getD 0 .none = .str x t) (hx : x.cps.size ≤ 1048576)
    (h : ∀ v tk, grp x sp g v → Q v { s with toks := tk }) : wpAny (model prog w) A (reGroupText ⟨fs, sp⟩ g .none) Q E s := by
  unfold reGroupText
  dsimp only
  by_cases hc : sp.getD (2 * g) (-1) < 0 ∨ sp.getD (2 * g + 1) (-1) < 0
  · rw [if_pos (by simpa using hc)]
    refine wpAny_pure ?_
    exact h .none s.toks (by unfold grp; rw [if_pos hc])
  · rw [if_neg (by simpa using hc), hf]
    refine wpAny_bind (wpAny_of_eq (a := (x.cps, 0)) rfl ?_)
    unfold reSlice
    refine wpAny_mkStr ?_ ?_
    · exact h _ _ (by unfold grp; rw [if_neg hc]; exact ⟨_, rfl⟩)
    · show (x.cps.extract _ _).size ≤ sizeLine
      rw [Array.size_extract, sizeLine_eq]
      omega

theorem number_any {x : Str} {t : Tok} {fs : Array Value} {sp : Array Int} {p gi : Addr} {op : Obj} {pf : Array Value} {es : List DictEntry} {nm : Str} {tk u : Tok} {g : Nat} {Q : Nat → Shared → Prop}
    (hp : fs.getD 1 .none = .ref p) (ho : s.heap.get? p = some op) (hpd : op.data = .fields pf) (hpg : pf.getD 3 .none = .ref gi) (G : GiAt w s.heap gi es)
    (hfind : findBy (strKind prog w).is es.toArray nm = some (.int g u)) (hg : 2 * g < sp.size) (h : Q g { s with toks := s.toks + 1 }) :
    wpAny (model prog w) A (reGroupNumber ⟨fs, sp⟩ (.str nm tk)) Q E s := by
  obtain ⟨⟨og, ep, hog, hex, hod⟩, hk⟩ := G
  unfold reGroupNumber
  refine wpAny_bind (m := asInt? (.str nm tk)) (wpAny_of_eq (a := none) rfl ?_)
  dsimp only
  rw [if_neg (by simp)]
  refine wpAny_bind (wpAny_specialOf (T := "str") (r := none) rfl str_noindex ?_)
  rw [if_neg (by simp)]
  refine wpAny_bind ?_
  rw [hp]
  unfold fieldsOf
  refine wpAny_bind (wpAny_load ho ?_)
  rw [hpd]
  refine wpAny_pure ?_
  rw [hpg]
  refine wpAny_bind (wpAny_dictGet_of (knd := strKind prog w) (k := nm) (f := fun k => findBy (strKind prog w).is es.toArray k) (by simp [PySem.strKind, Value.isStrOf]) ⟨og, es.toArray, ep, hog, hex, hod, hk, fun _ => rfl⟩ ?_)
  rw [hfind]
  dsimp only
  refine wpAny_bind (m := asInt? (.int g u)) (wpAny_of_eq (a := some (g : Int)) rfl ?_)
  refine wpAny_bind (wpAny_pure ?_)
  rw [if_neg (by simp; omega)]
  exact wpAny_pure h

theorem set_new {o : Addr} {out : List DictEntry} {n : Nat} {nm : Str} {tk : Tok} {v : Value} {Q : Unit → Shared → Prop} (ho : s.heap.get? o = some (dictOf out n)) (hk : KeysOf (PySem.strKind prog w) out.toArray)
    (hn : (out.toArray.findIdx? fun e => Value.isStrOf nm e.key) = none) (hl : out.length ≤ 100)
    (h : ∀ h', Heap.SameBut o s.heap h' → h'.get? o = some (dictOf (out ++ [⟨hashStr w nm, .str nm tk, v⟩]) (n + 1)) → KeysOf (PySem.strKind prog w) (out ++ [(⟨hashStr w nm, .str nm tk, v⟩ : DictEntry)]).toArray → Q () { s with heap := h', toks := s.toks + 1 }) :
    wpAny (model prog w) A (dictSet o (.str nm tk) v) Q E s := by
  have hkey : (PySem.strKind prog w).is nm (.str nm tk) = true := by simp [PySem.strKind, Value.isStrOf]
  unfold dictSet
  refine wpAny_holding (wpAny_bind ((PySem.strKind prog w).pyHash hkey ?_))
  unfold dictSetHashed
  refine wpAny_holding (wpAny_bind (wpAny_dictFind_of (s := { s with toks := s.toks + 1 }) hkey ho rfl hk ?_))
  rw [show (out.toArray.findIdx? fun e => (PySem.strKind prog w).is nm e.key) = none from hn]
  have hz : out.toArray.size ≤ sizeLine := by rw [List.size_toArray, sizeLine_eq]; omega
  refine wpAny_bind (wpAny_rule (wpAny_updateDictKeys (hz := hz) (s := { s with toks := s.toks + 1 }) ho rfl ?_))
  have e : Obj.mapDictKeys (fun x => x.push ⟨(PySem.strKind prog w).hash nm, .str nm tk, v⟩) (dictOf out n) = dictOf (out ++ [⟨hashStr w nm, .str nm tk, v⟩]) (n + 1) := by
    simp [dictOf, Obj.mapDictKeys, PySem.strKind]
  refine h _ (Heap.SameBut.update ..) ?_ ?_
  · rw [← e]
    exact Heap.get?_update_self _ ho rfl
  · have := hk.push hkey v
    simpa [PySem.strKind] using this

theorem gd_step {x : Str} {t : Tok} {fs : Array Value} {sp : Array Int} {p gi : Addr} {op : Obj} {pf : Array Value} {es : List DictEntry} {nm : Str} {tk u : Tok} {g : Nat} {o : Addr} {out : List DictEntry} {n : Nat} {Q : Unit → Shared → Prop}
    (hf : fs.getD 0 .none = .str x t) (hx : x.cps.size ≤ 1048576) (hp : fs.getD 1 .none = .ref p) (hop : s.heap.get? p = some op) (hpd : op.data = .fields pf) (hpg : pf.getD 3 .none = .ref gi) (G : GiAt w s.heap gi es)
    (ho : s.heap.get? o = some (dictOf out n)) (hk : KeysOf (PySem.strKind prog w) out.toArray)
    (hfind : findBy Value.isStrOf es.toArray nm = some (.int g u)) (hg : 2 * g < sp.size) (hn : (out.toArray.findIdx? fun e => Value.isStrOf nm e.key) = none) (hl : out.length ≤ 100)
    (h : ∀ v h' tk', grp x sp g v → Heap.SameBut o s.heap h' → h'.get? o = some (dictOf (out ++ [⟨hashStr w nm, .str nm tk, v⟩]) (n + 1)) → KeysOf (PySem.strKind prog w) (out ++ [(⟨hashStr w nm, .str nm tk, v⟩ : DictEntry)]).toArray → Q () { s with heap := h', toks := tk' }) :
    wpAny (model prog w) A (holding [.ref o] (do dictSet o (.str nm tk) (← reGroupText ⟨fs, sp⟩ (← reGroupNumber ⟨fs, sp⟩ (.str nm tk)) .none))) Q E s := by
  refine wpAny_holding (wpAny_bind (number_any (x := x) (t := t) hp hop hpd hpg G hfind hg ?_))
  refine wpAny_bind (text_any hf hx fun v tk' hv => ?_)
  exact set_new (s := { s with toks := tk' }) ho hk hn hl fun h' hs hg' hk' => h v h' _ hv hs hg' hk'

theorem gd_run {x : Str} {t : Tok} {p gi ct ma sa : Addr} {n : Nat} {li : Int} {lm : Int} {st hd : Nat} {mk : Array (Option Nat)} {ts us : List Tok} {Q : Fin → Shared → Prop}
    (P : PatAt s.heap p ct gi) (G : GiAt w s.heap gi (giEs w ts us)) (hts : ts.length = 6) (hus : us.length = 6) (hx : x.cps.size ≤ 1048576)
    (hma : s.heap.get? ma = some (matchObj p x t n li sa)) (hsa : s.heap.get? sa = some (spansObj (rawInt st :: rawInt hd :: spansOf mk lm))) (hsz : ((rawInt st :: rawInt hd :: spansOf mk lm).map reRawOf).toArray.size = 14)
    (h : ∀ h' tk' vs, vs.length = 6 → (∀ i, i < 6 → grp x ((rawInt st :: rawInt hd :: spansOf mk lm).map reRawOf).toArray (i + 1) (vs.getD i .none)) →
        Heap.SameBut s.heap.objs.size (s.heap.push (dictOf [] 0)) h' →
        h'.get? s.heap.objs.size = some (dictOf (((giEs w ts us).zip vs).map fun p => { p.1 with val := p.2 }) 6) → Q (.done (.ret (.ref s.heap.objs.size))) { s with heap := h', toks := tk' }) :
    wpAny (model prog w) A (Builtin.«re.Match.groupdict» ⟨[.ref ma], []⟩) Q E s := by
  obtain ⟨op, a0, a1, u, a4, v, hop, _, _, hpd⟩ := P.pat
  obtain ⟨⟨og, ep, hog, hex, hod⟩, hk⟩ := G
  match ts, hts, us, hus with
  | [t1, t2, t3, t4, t5, t6], _, [u1, u2, u3, u4, u5, u6], _ =>
  unfold Builtin.«re.Match.groupdict» reWithDefault
  refine wpAny_bind ?_
  dsimp only
  refine wpAny_bind (wpAny_of_eq (a := [none]) (by first | rfl | kernel_rfl) ?_)
  dsimp only
  unfold reFound
  refine wpAny_bind (wpAny_bind (m := fieldsOf (.ref ma)) ?_)
  unfold fieldsOf
  refine wpAny_bind (wpAny_load hma ?_)
  dsimp only [matchObj]
  refine wpAny_pure ?_
  refine wpAny_bind (m := reRawItems (.ref sa)) ?_
  unfold reRawItems seqItems?
  dsimp only
  refine wpAny_bind (wpAny_bind (wpAny_load hsa ?_))
  dsimp only [spansObj]
  refine wpAny_pure (wpAny_pure (wpAny_pure (wpAny_pure ?_)))
  dsimp only
  have esp : Array.map reRawOf ((some (rawInt ↑st :: rawInt ↑hd :: spansOf mk lm).toArray).getD #[]) = ((rawInt st :: rawInt hd :: spansOf mk lm).map reRawOf).toArray := by simp
  rw [esp]
  generalize hspd : ((rawInt st :: rawInt hd :: spansOf mk lm).map reRawOf).toArray = sp at *
  have hlp : p < s.heap.objs.size := Heap.lt_size hop
  have hlg : gi < s.heap.objs.size := Heap.lt_size hog
  have K0 : ∀ h', Heap.SameBut s.heap.objs.size (s.heap.push (dictOf [] 0)) h' → h'.get? p = some op ∧ GiAt w h' gi (giEs w [t1, t2, t3, t4, t5, t6] [u1, u2, u3, u4, u5, u6]) := fun h' hs =>
    ⟨(hs.2 p (Nat.ne_of_lt hlp)).trans (Heap.get?_push_of_some _ hop), ⟨og, ep, (hs.2 gi (Nat.ne_of_lt hlg)).trans (Heap.get?_push_of_some _ hog), hex, hod⟩, hk⟩
  unfold newDict
  refine wpAny_bind (wpAny_newObj_type ?_)
  refine wpAny_bind (m := fieldsOf (.ref p)) ?_
  unfold fieldsOf
  refine wpAny_bind (wpAny_load (Heap.get?_push_of_some _ hop) ?_)
  rw [hpd]
  refine wpAny_pure ?_
  dsimp only
  refine wpAny_bind (wpAny_dictEntries (Heap.get?_push_of_some _ hog) hod ?_)
  rw [← Array.forIn_toList]
  simp only [giEs, List.zip, List.zipWith, List.map, List.forIn_cons, List.forIn_nil]
  have S0 : Heap.SameBut s.heap.objs.size (s.heap.push (dictOf [] 0)) (s.heap.push (dictOf [] 0)) := Heap.SameBut.refl _ _
  have O0 : (s.heap.push (dictOf [] 0)).get? s.heap.objs.size = some (dictOf [] 0) := Heap.get?_push_size _ rfl
  have k0 : KeysOf (PySem.strKind prog w) ([] : List DictEntry).toArray := fun e he => by simp at he
  refine wpAny_bind ?_
  refine wpAny_bind (wpAny_bind (gd_step (x := x) (t := t) (u := u1) (g := 1) rfl hx rfl (K0 _ S0).1 hpd rfl (K0 _ S0).2 O0 k0 (by kernel_rfl) (by rw [hsz]; decide) (by kernel_rfl) (by simp) fun v1 h1 tk1 g1 s1 O1 k1 => ?_))
  have S1 := S0.trans s1
  refine wpAny_pure ?_
  dsimp only
  refine wpAny_bind (wpAny_bind (gd_step (x := x) (t := t) (u := u2) (g := 2) rfl hx rfl (K0 _ S1).1 hpd rfl (K0 _ S1).2 O1 k1 (by kernel_rfl) (by rw [hsz]; decide) (by kernel_rfl) (by simp) fun v2 h2 tk2 g2 s2 O2 k2 => ?_))
  have S2 := S1.trans s2
  refine wpAny_pure ?_
  dsimp only
  refine wpAny_bind (wpAny_bind (gd_step (x := x) (t := t) (u := u3) (g := 3) rfl hx rfl (K0 _ S2).1 hpd rfl (K0 _ S2).2 O2 k2 (by kernel_rfl) (by rw [hsz]; decide) (by kernel_rfl) (by simp) fun v3 h3 tk3 g3 s3 O3 k3 => ?_))
  have S3 := S2.trans s3
  refine wpAny_pure ?_
  dsimp only
  refine wpAny_bind (wpAny_bind (gd_step (x := x) (t := t) (u := u4) (g := 4) rfl hx rfl (K0 _ S3).1 hpd rfl (K0 _ S3).2 O3 k3 (by kernel_rfl) (by rw [hsz]; decide) (by kernel_rfl) (by simp) fun v4 h4 tk4 g4 s4 O4 k4 => ?_))
  have S4 := S3.trans s4
  refine wpAny_pure ?_
  dsimp only
  refine wpAny_bind (wpAny_bind (gd_step (x := x) (t := t) (u := u5) (g := 5) rfl hx rfl (K0 _ S4).1 hpd rfl (K0 _ S4).2 O4 k4 (by kernel_rfl) (by rw [hsz]; decide) (by kernel_rfl) (by simp) fun v5 h5 tk5 g5 s5 O5 k5 => ?_))
  have S5 := S4.trans s5
  refine wpAny_pure ?_
  dsimp only
  refine wpAny_bind (wpAny_bind (gd_step (x := x) (t := t) (u := u6) (g := 6) rfl hx rfl (K0 _ S5).1 hpd rfl (K0 _ S5).2 O5 k5 (by kernel_rfl) (by rw [hsz]; decide) (by kernel_rfl) (by simp) fun v6 h6 tk6 g6 s6 O6 k6 => ?_))
  have S6 := S5.trans s6
  refine wpAny_pure ?_
  dsimp only
  refine wpAny_pure ?_
  refine wpAny_pure (h h6 tk6 [v1, v2, v3, v4, v5, v6] rfl (fun i hi => ?_) S6 O6)
  match i, hi with
  | 0, _ => exact g1
  | 1, _ => exact g2
  | 2, _ => exact g3
  | 3, _ => exact g4
  | 4, _ => exact g5
  | 5, _ => exact g6
end
end Mine
end
section
open PySem PySem.W PyProof.Rows
set_option Elab.async false
set_option maxRecDepth 100000
set_option maxHeartbeats 8000000
open_top hd08 for PySem.Challenge.rw_ko0126_08
end
section
open PySem PySem.W PyProof.Rows PySem.Calls PySem.Spec
set_option Elab.async false
set_option maxRecDepth 100000
set_option maxHeartbeats 8000000
namespace Mine
noncomputable abbrev K7 (w : World) := hd08.heap_39 w.params
theorem patAt {w : World} {h : Heap} (X : (K7 w).In h) : PatAt h 59 58 56 := by
  refine ⟨⟨_, _, _, _, _, _, X 59 _ rfl, rfl, rfl, rfl⟩, ⟨_, _, _, X 58 _ rfl, rfl, ?_⟩⟩
  kernel_rfl
theorem giAt {w : World} {h : Heap} (X : (K7 w).In h) : GiAt w h 56 (giEs w [540, 542, 544, 546, 548, 550] [541, 543, 545, 547, 549, 551]) := by
  refine ⟨⟨_, 6, X 56 _ rfl, ⟨rfl, rfl, rfl⟩, rfl⟩, ?_⟩
  intro e he
  simp only [giEs, List.zip, List.zipWith, List.map, List.mem_toArray, List.mem_cons, List.not_mem_nil, or_false] at he
  rcases he with rfl | rfl | rfl | rfl | rfl | rfl <;> exact ⟨_, by simp [PySem.strKind, Value.isStrOf], rfl⟩

structure Hit (x : Str) (l : List Nat) (mk : Array (Option Nat)) (lm li : Int) (hd : Nat) : Prop where
  cps : x.cps = ⟨l⟩
  short : l.length ≤ 1048576
  run : ∃ m', (m0 l).runFor 100 = m' ∧ tell m' = (2, mk, lm, li, 0, hd) ∧ m'.outcome = some .matched
section
variable {w : World} {A : Around} {E : Value → Shared → Prop} {s : Shared} {h₀ : Heap} {L : Addr} {m : Str → Option Value} {news : List (Addr × Obj)} {prog : Program}
theorem k_getmatch {pl : Sem Bool} {Q : Value × List Value → Shared → Prop} (F : Fr h₀ L s.heap m) (X : (K7 w).In h₀) (h : Q (.builtin "re.Pattern.match", [.ref 59]) s) :
    wpAny (model prog w) A (getMethod (.ref 59) (Str.ofString "match") pl) Q E s := by
  have Y := X.keeps F.keep
  exact getMethod_builtin ⟨_, Y 59 _ rfl, rfl⟩ plain_pat slot_match type_match (fun a e => by cases e; exact ⟨_, Y 59 _ rfl, rfl⟩) h
theorem k_match {x : Str} {t : Tok} {l : List Nat} {mk : Array (Option Nat)} {lm li : Int} {hd : Nat} {Q : Value → Shared → Prop} (F : Fr h₀ L s.heap m) (N : News h₀ L s.heap news) (X : (K7 w).In h₀)
    (H : Hit x l mk lm li hd) (hb : spansBad mk lm = false) (hn : (rawInt (0:Nat) :: rawInt hd :: spansOf mk lm).length ≤ sizeLine)
    (h : ∀ ma sa h', Fr h₀ L h' m → News h₀ L h' ((ma, matchObj 59 x t l.length li sa) :: (sa, spansObj (rawInt (0:Nat) :: rawInt hd :: spansOf mk lm)) :: news) → (∀ p ∈ news, p.1 < sa) → sa < ma → Q (.ref ma) { s with heap := h' }) :
    wpAny (model prog w) A (call (.builtin "re.Pattern.match") [.ref 59, .str x t]) Q E s := by
  obtain ⟨hx, hl, m', hr, e, ho⟩ := H
  have Y := X.keeps F.keep
  refine wpAny_call_entry slot_match ⟨_, Y 59 _ rfl, rfl⟩ entry_match (matchNew_any (patAt Y) hx hl hr ho e hb hn ⟨_, rfl, ?_⟩) (args_match _ _)
  have F1 := F.push (spansObj (rawInt (0:Nat) :: rawInt hd :: spansOf mk lm))
  have N1 := News.push F N (spansObj (rawInt (0:Nat) :: rawInt hd :: spansOf mk lm))
  have F2 := F1.push (matchObj 59 x t l.length li s.heap.objs.size)
  have N2 := News.push F1 N1 (matchObj 59 x t l.length li s.heap.objs.size)
  rw [Heap.size_push] at N2
  exact h _ _ _ F2 N2 (fun p hp => Heap.lt_size (N p hp).1) (Nat.lt_succ_self _)
theorem k_getgd {ma p sa : Addr} {x : Str} {t : Tok} {n : Nat} {li : Int} {pl : Sem Bool} {Q : Value × List Value → Shared → Prop} (N : News h₀ L s.heap news) (hm : (ma, matchObj p x t n li sa) ∈ news) (h : Q (.builtin "re.Match.groupdict", [.ref ma]) s) :
    wpAny (model prog w) A (getMethod (.ref ma) (Str.ofString "groupdict") pl) Q E s :=
  getMethod_builtin ⟨_, N.get hm, rfl⟩ plain_mat slot_gd type_gd (fun a e => by cases e; exact ⟨_, N.get hm, rfl⟩) h
theorem sameBut_new {h h' : Heap} {d : Obj} {o' : Obj} (F : Fr h₀ L h m) (N : News h₀ L h news) (hs : Heap.SameBut h.objs.size (h.push d) h') (ho : h'.get? h.objs.size = some o') (hf : d.isFreed = false := by rfl) : Fr h₀ L h' m ∧ News h₀ L h' ((h.objs.size, o') :: news) := by
  have F1 := F.push d
  have N1 := News.push F N d hf
  obtain ⟨oL, a1, a2, hL, a3⟩ := F.ns
  have hlt : ∀ b o, h.get? b = some o → h'.get? b = some o := fun b o e => (hs.2 b (Nat.ne_of_lt (Heap.lt_size e))).trans (Heap.get?_push_of_some _ e)
  refine ⟨⟨⟨oL, a1, a2, hlt _ _ hL, a3⟩, fun b o e => hlt _ _ (F.keep _ _ e), F.above⟩, fun p hp => ?_⟩
  rcases List.mem_cons.mp hp with rfl | hp
  · exact ⟨ho, (N1 _ (.head _)).2⟩
  · exact ⟨hlt _ _ (N p hp).1, (N p hp).2⟩
theorem k_gd {ma sa : Addr} {x : Str} {t : Tok} {n : Nat} {mk : Array (Option Nat)} {lm li : Int} {st hd : Nat} {Q : Value → Shared → Prop} (F : Fr h₀ L s.heap m) (N : News h₀ L s.heap news) (X : (K7 w).In h₀)
    (hma : (ma, matchObj 59 x t n li sa) ∈ news) (hsa : (sa, spansObj (rawInt st :: rawInt hd :: spansOf mk lm)) ∈ news) (hx : x.cps.size ≤ 1048576)
    (hsz : ((rawInt st :: rawInt hd :: spansOf mk lm).map Builtin.Re.reRawOf).toArray.size = 14)
    (h : ∀ d h' tk' vs, vs.length = 6 → (∀ i, i < 6 → grp x ((rawInt st :: rawInt hd :: spansOf mk lm).map Builtin.Re.reRawOf).toArray (i + 1) (vs.getD i .none)) → (∀ p ∈ news, p.1 < d) → Fr h₀ L h' m →
      News h₀ L h' ((d, dictOf (((giEs w [540, 542, 544, 546, 548, 550] [541, 543, 545, 547, 549, 551]).zip vs).map fun p => { p.1 with val := p.2 }) 6) :: news) → Q (.ref d) { s with heap := h', toks := tk' }) :
    wpAny (model prog w) A (call (.builtin "re.Match.groupdict") [.ref ma]) Q E s := by
  have Y := X.keeps F.keep
  refine wpAny_call_entry slot_gd ⟨_, N.get hma, rfl⟩ entry_gd (gd_run (patAt Y) (giAt Y) rfl rfl hx (N.get hma) (N.get hsa) hsz fun h' tk' vs hl hg hs ho => ⟨_, rfl, ?_⟩) (args_gd _)
  obtain ⟨F', N'⟩ := sameBut_new F N hs ho
  exact h _ _ _ vs hl hg (fun p hp => Heap.lt_size (N p hp).1) F' N'
def StrKeyed (w : World) : List DictEntry → Prop
  | [] => True
  | e :: r => (∃ k t, e.key = .str k t ∧ e.hash = hashStr w k) ∧ StrKeyed w r
theorem StrKeyed.mem {w : World} : ∀ {es : List DictEntry}, StrKeyed w es → ∀ e ∈ es, ∃ k t, e.key = .str k t ∧ e.hash = hashStr w k
  | e :: _, h, _, .head _ => h.1
  | _ :: _, h, _, .tail _ q => StrKeyed.mem h.2 _ q
theorem k_gdget {value slice : Expr} {d : Addr} {es : List DictEntry} {n : Nat} {nm : Str} {tk : Tok} {v : Value} {Q : Value → Shared → Prop} (N : News h₀ L s.heap news) (hm : (d, dictOf es n) ∈ news) (hk : StrKeyed w es)
    (hfind : findBy Value.isStrOf es.toArray nm = some v) (hv : ∀ a, v ≠ .ref a) (h : Q v { s with toks := s.toks + 1 })
    (hs : subscripted slice false (.ref d) (.str nm tk) = operate [.ref d, .str nm tk] (getItem (.ref d) (.str nm tk)) := by with_unfolding_all rfl) :
    wpAny (model prog w) A (subscriptTail value slice (.ref d) (.str nm tk)) Q E s := by
  have hM : s.heap.MapOf (PySem.strKind prog w) d (fun k => findBy Value.isStrOf es.toArray k) := ⟨_, es.toArray, n, N.get hm, ⟨rfl, rfl, rfl⟩, rfl, fun e he => by
    obtain ⟨k, t, e1, e2⟩ := hk.mem e (by simpa using he)
    exact ⟨k, by simp [PySem.strKind, Value.isStrOf, e1], e2⟩, fun _ => rfl⟩
  refine subscriptTail_builtin_flat hM.typeIs F.slot_dict_getitem.lookup (wpAny_getItem_of (knd := PySem.strKind prog w) (k := nm) (by simp [PySem.strKind, Value.isStrOf]) hM hfind ⟨hv, h⟩) hs
abbrev gdObj (w : World) (t1 t2 t3 t4 t5 t6 : Tok) (v1 v2 v3 v4 v5 v6 : Value) : Obj := dictOf [⟨hashStr w (Str.ofString "year"), .str (Str.ofString "year") t1, v1⟩, ⟨hashStr w (Str.ofString "month"), .str (Str.ofString "month") t2, v2⟩, ⟨hashStr w (Str.ofString "day"), .str (Str.ofString "day") t3, v3⟩, ⟨hashStr w (Str.ofString "hour"), .str (Str.ofString "hour") t4, v4⟩, ⟨hashStr w (Str.ofString "minute"), .str (Str.ofString "minute") t5, v5⟩, ⟨hashStr w (Str.ofString "second"), .str (Str.ofString "second") t6, v6⟩] 6
theorem k_gdg1 {value slice : Expr} {d : Addr} {t1 t2 t3 t4 t5 t6 : Tok} {v1 v2 v3 v4 v5 v6 : Value} {tk : Tok} {Q : Value → Shared → Prop} (N : News h₀ L s.heap news) (hm : (d, gdObj w t1 t2 t3 t4 t5 t6 v1 v2 v3 v4 v5 v6) ∈ news)
    (hv : ∀ a, v1 ≠ .ref a) (h : Q v1 { s with toks := s.toks + 1 })
    (hs : subscripted slice false (.ref d) (.str (Str.ofString "year") tk) = operate [.ref d, .str (Str.ofString "year") tk] (getItem (.ref d) (.str (Str.ofString "year") tk)) := by with_unfolding_all rfl) :
    wpAny (model prog w) A (subscriptTail value slice (.ref d) (.str (Str.ofString "year") tk)) Q E s :=
  k_gdget N hm (by repeat' (first | exact trivial | refine ⟨⟨_, _, rfl, rfl⟩, ?_⟩)) (by kernel_rfl) hv h hs
theorem k_gdg2 {value slice : Expr} {d : Addr} {t1 t2 t3 t4 t5 t6 : Tok} {v1 v2 v3 v4 v5 v6 : Value} {tk : Tok} {Q : Value → Shared → Prop} (N : News h₀ L s.heap news) (hm : (d, gdObj w t1 t2 t3 t4 t5 t6 v1 v2 v3 v4 v5 v6) ∈ news)
    (hv : ∀ a, v2 ≠ .ref a) (h : Q v2 { s with toks := s.toks + 1 })
    (hs : subscripted slice false (.ref d) (.str (Str.ofString "month") tk) = operate [.ref d, .str (Str.ofString "month") tk] (getItem (.ref d) (.str (Str.ofString "month") tk)) := by with_unfolding_all rfl) :
    wpAny (model prog w) A (subscriptTail value slice (.ref d) (.str (Str.ofString "month") tk)) Q E s :=
  k_gdget N hm (by repeat' (first | exact trivial | refine ⟨⟨_, _, rfl, rfl⟩, ?_⟩)) (by kernel_rfl) hv h hs
theorem k_gdg3 {value slice : Expr} {d : Addr} {t1 t2 t3 t4 t5 t6 : Tok} {v1 v2 v3 v4 v5 v6 : Value} {tk : Tok} {Q : Value → Shared → Prop} (N : News h₀ L s.heap news) (hm : (d, gdObj w t1 t2 t3 t4 t5 t6 v1 v2 v3 v4 v5 v6) ∈ news)
    (hv : ∀ a, v3 ≠ .ref a) (h : Q v3 { s with toks := s.toks + 1 })
    (hs : subscripted slice false (.ref d) (.str (Str.ofString "day") tk) = operate [.ref d, .str (Str.ofString "day") tk] (getItem (.ref d) (.str (Str.ofString "day") tk)) := by with_unfolding_all rfl) :
    wpAny (model prog w) A (subscriptTail value slice (.ref d) (.str (Str.ofString "day") tk)) Q E s :=
  k_gdget N hm (by repeat' (first | exact trivial | refine ⟨⟨_, _, rfl, rfl⟩, ?_⟩)) (by kernel_rfl) hv h hs
theorem k_gdg4 {value slice : Expr} {d : Addr} {t1 t2 t3 t4 t5 t6 : Tok} {v1 v2 v3 v4 v5 v6 : Value} {tk : Tok} {Q : Value → Shared → Prop} (N : News h₀ L s.heap news) (hm : (d, gdObj w t1 t2 t3 t4 t5 t6 v1 v2 v3 v4 v5 v6) ∈ news)
    (hv : ∀ a, v4 ≠ .ref a) (h : Q v4 { s with toks := s.toks + 1 })
    (hs : subscripted slice false (.ref d) (.str (Str.ofString "hour") tk) = operate [.ref d, .str (Str.ofString "hour") tk] (getItem (.ref d) (.str (Str.ofString "hour") tk)) := by with_unfolding_all rfl) :
    wpAny (model prog w) A (subscriptTail value slice (.ref d) (.str (Str.ofString "hour") tk)) Q E s :=
  k_gdget N hm (by repeat' (first | exact trivial | refine ⟨⟨_, _, rfl, rfl⟩, ?_⟩)) (by kernel_rfl) hv h hs
theorem k_gdg5 {value slice : Expr} {d : Addr} {t1 t2 t3 t4 t5 t6 : Tok} {v1 v2 v3 v4 v5 v6 : Value} {tk : Tok} {Q : Value → Shared → Prop} (N : News h₀ L s.heap news) (hm : (d, gdObj w t1 t2 t3 t4 t5 t6 v1 v2 v3 v4 v5 v6) ∈ news)
    (hv : ∀ a, v5 ≠ .ref a) (h : Q v5 { s with toks := s.toks + 1 })
    (hs : subscripted slice false (.ref d) (.str (Str.ofString "minute") tk) = operate [.ref d, .str (Str.ofString "minute") tk] (getItem (.ref d) (.str (Str.ofString "minute") tk)) := by with_unfolding_all rfl) :
    wpAny (model prog w) A (subscriptTail value slice (.ref d) (.str (Str.ofString "minute") tk)) Q E s :=
  k_gdget N hm (by repeat' (first | exact trivial | refine ⟨⟨_, _, rfl, rfl⟩, ?_⟩)) (by kernel_rfl) hv h hs
theorem k_gdg6 {value slice : Expr} {d : Addr} {t1 t2 t3 t4 t5 t6 : Tok} {v1 v2 v3 v4 v5 v6 : Value} {tk : Tok} {Q : Value → Shared → Prop} (N : News h₀ L s.heap news) (hm : (d, gdObj w t1 t2 t3 t4 t5 t6 v1 v2 v3 v4 v5 v6) ∈ news)
    (hv : ∀ a, v6 ≠ .ref a) (h : Q v6 { s with toks := s.toks + 1 })
    (hs : subscripted slice false (.ref d) (.str (Str.ofString "second") tk) = operate [.ref d, .str (Str.ofString "second") tk] (getItem (.ref d) (.str (Str.ofString "second") tk)) := by with_unfolding_all rfl) :
    wpAny (model prog w) A (subscriptTail value slice (.ref d) (.str (Str.ofString "second") tk)) Q E s :=
  k_gdget N hm (by repeat' (first | exact trivial | refine ⟨⟨_, _, rfl, rfl⟩, ?_⟩)) (by kernel_rfl) hv h hs
end
end Mine
end
section
open PySem PySem.W PyProof.Rows PySem.Calls PySem.Spec
set_option Elab.async false
set_option maxRecDepth 100000
namespace Mine
/-- the end of a def's walk -/
def PEnd (R : Result → Shared → Prop) (v : Value) (s' : Shared) : Prop := R (.ok (.ret v)) s'
abbrev arnd (dp un : Nat) (gd : Option (List Code)) (outer : List Env) : Around := { handled := none, depth := dp, frames := some outer, guards := gd, units := un }
theorem enter {prog : Program} {w : World} {A : Around} {base : Heap} {outer : List Env} {s : Shared} {K : Frag} {R : Result → Shared → Prop} {p : Program} {loose : List Str} {mean : ExcName → Option Value} {mg mb : Str → Option Value}
    {name qual : Str} {params : Arguments} {body : List Stmt} {scope : Scope} {dV kV doc pm cdv ct oc : Value} {an od : Option Addr} {osl : Array (Option Value)} {f : Addr} {args : Args} {binds : List (Str × Value)}
    (_B : Below A base outer s.heap) (X : K.In s.heap) (T : Top p loose mean mg mb s.heap)
    (ho : K.lookup f = some ⟨oc, od, .func (fnOf name qual params body scope dV kV doc pm an cdv ct), osl⟩) (hcd : codeIn K cdv qual = true) (hroom : A.depth < recursionLimit)
    (hbind : BindsTo s (fnOf name qual params body scope dV kV doc pm an cdv ct) args binds) (hloc : ∀ y ∈ binds, scope.names.lookup y.1 = some .local)
    (h : ∀ L h₁, Fr s.heap L h₁ (fun y => binds.reverse.lookup y) → News s.heap L h₁ [] →
      wpAny (model prog w) (A.deeper (envOf qual scope L f cdv)) (execs body (envOf qual scope L f cdv))
        (fun fl s' => PEnd R (match fl with | .ret v => v | _ => .none) s')
        (fun e s' => wpAny (model prog w) (A.deeper (envOf qual scope L f cdv)) (leaving (envOf qual scope L f cdv) e) (fun _ s'' => R (.error e) s'') (fun e' s'' => R (.error e') s'') s')
        { s with heap := h₁, toks := s.toks + binds.length })
    (hco : scope.isCoroutine = false := by rfl) (hgen : scope.isGenerator = false := by rfl) (hk : scope.kind = .function := by rfl)
    (hcell : ∀ x ∈ scope.names, x.2 ≠ .cell := by decide) : codeAny (model prog w) A (.call (.ref f) args) R s :=
  codeAny_call_def (fd := fnOf name qual params body scope dV kV doc pm an cdv ct) (body := body) (binds := binds) hroom (X _ _ ho) rfl T.nolimit (codeRec_of X hcd) rfl hbind hcell hloc
    (fun h₁ hns hk₁ => h s.heap.objs.size h₁ ⟨hns, hk₁, Nat.le_refl _⟩ News.nil) hco hgen hk
end Mine
end
section
open PySem PySem.W PyProof.Rows PySem.Calls PySem.Spec
set_option Elab.async false
set_option maxRecDepth 100000
namespace Mine
section
variable {prog : Program} {w : World} {A : Around} {E : Value → Shared → Prop} {s : Shared} {h₀ : Heap} {env : Env} {target : Expr} {body : List Stmt} {Q : Flow → Shared → Prop}
theorem UnrPostW.mono {L : Addr} {s₁ : Shared} {its : List (Addr × Obj)} {r₁ r₂ : (Str → Option Value) → List (Addr × Obj) → Prop} (h : ∀ m n, r₁ m n → r₂ m n) {f : Flow} {s₂ : Shared} (x : UnrPostW h₀ L s₁ its r₁ Q f s₂) : UnrPostW h₀ L s₁ its r₂ Q f s₂ := by
  cases f with
  | ret v => exact x
  | brk => exact x
  | next => obtain ⟨h', tk, m', news', e, F, N, o, r⟩ := x; exact ⟨h', tk, m', news', e, F, N, o, h _ _ r⟩
  | cont => obtain ⟨h', tk, m', news', e, F, N, o, r⟩ := x; exact ⟨h', tk, m', news', e, F, N, o, h _ _ r⟩
theorem AllObj.mono : ∀ {ws : List (Addr × String)} {k₁ k₂ : List (Addr × Obj) → Prop}, (∀ its, k₁ its → k₂ its) → AllObj ws k₁ → AllObj ws k₂
  | [], _, _, h, x => h _ x
  | _ :: _, _, _, h, x => fun o ho => AllObj.mono (fun its => h _) (x o ho)
theorem itemsInv {ws : List (Addr × String)} {keep : List (Addr × Obj)} (Inv : List Value → (Str → Option Value) → List (Addr × Obj) → Prop)
    (hnil : ∀ m news, Inv [] m news → ∀ h tk, Fr h₀ env.locals h m → News h₀ env.locals h news → Q .next { s with heap := h, toks := tk })
    (hstep : ∀ v r m news, Inv (v :: r) m news → ∀ h tk, Fr h₀ env.locals h m → AllObj ws (fun its => News h₀ env.locals h (its ++ news) →
      wpAny (model prog w) A (assign target env v) (fun _ s₂ => wpAny (model prog w) A (execs body env) (UnrPostW h₀ env.locals { s with heap := h, toks := tk } its (fun m' n' => SubL keep n' ∧ Inv r m' n') Q) E s₂) E { s with heap := h, toks := tk })) :
    ∀ (vs : List Value) (m : Str → Option Value) (news : List (Addr × Obj)), Inv vs m news → ItemsRest prog w A E h₀ env target body Q s ws keep (vs.map .val) m news
  | [], m, news, h0 => ItemsRest.zero (hnil m news h0)
  | v :: r, m, news, h0 => ItemsRest.val fun h tk F => AllObj.mono (fun its x N => wpAny_mono (x N) (fun _ _ y => wpAny_mono y (fun _ _ z => UnrPostW.mono (fun m' n' ⟨a, b⟩ => ⟨a, itemsInv Inv hnil hstep r m' n' b⟩) z) fun _ _ e => e) fun _ _ e => e) (hstep v r m news h0 h tk F)
end
end Mine
namespace Mine
section
variable {prog : Program} {w : World} {A : Around} {E : Value → Shared → Prop} {s : Shared} {h₀ : Heap} {env : Env} {target : Expr} {body : List Stmt} {Q : Flow → Shared → Prop}
theorem itemsLess {ws : List (Addr × String)} {keep : List (Addr × Obj)} {xs : List Itm} {m : Str → Option Value} {news less : List (Addr × Obj)} (sub : SubL less news)
    (h : ItemsRest prog w A E h₀ env target body Q s ws keep xs m less) : ItemsRest prog w A E h₀ env target body Q s ws keep xs m news := by
  cases xs with
  | nil => exact fun h' tk F N => h h' tk F (fun p hp => N p (sub.mem p hp))
  | cons a r =>
    intro v h' tk e F
    refine AllObj.mono (fun its x N => x fun p hp => N p ?_) (h v h' tk e F)
    rcases List.mem_append.mp hp with hp | hp
    · exact List.mem_append_left _ hp
    · exact List.mem_append_right _ (sub.mem p hp)

/-- what the loop's frame names -/
structure MF (m : Str → Option Value) (l d : Addr) (av : Value) : Prop where
  lst : m "lst" = some (.ref l)
  gd : m "gd" = some (.ref d)
  aw : m "aware_datetime" = some av
/-- the loop of _date_from_string: behind i turns -/
def LI (parts : List Int) (tvs : List Value) (l d o : Addr) (od oo : Obj) (av : Value) (r : List Value) (m : Str → Option Value) (news : List (Addr × Obj)) : Prop :=
  ∃ (i : Nat) (its : Array Value) (n : Nat), r = tvs.drop i ∧ i ≤ parts.length ∧ i ≤ tvs.length ∧ IntsAre its.toList (parts.take i) ∧ MF m l d av ∧ news = [(l, listOf its n), (d, od), (o, oo)]
/-- what stands when the loop is left -/
def LDone (h₀ : Heap) (L : Addr) (parts : List Int) (l d o : Addr) (od oo : Obj) (av : Value) (h : Heap) : Prop :=
  ∃ (its : Array Value) (n : Nat) (m : Str → Option Value), IntsAre its.toList parts ∧ MF m l d av ∧ Fr h₀ L h m ∧ News h₀ L h [(l, listOf its n), (d, od), (o, oo)]
theorem loopGo {ws : List (Addr × String)} {parts : List Int} {tvs : List Value} {l d o : Addr} {od oo : Obj} {av : Value} {m : Str → Option Value} {news : List (Addr × Obj)}
    (hp : parts.length ≤ tvs.length) {n0 : Nat} (sub : SubL [(l, listOf #[] n0), (d, od), (o, oo)] news) (hm : MF m l d av)
    (hQ : ∀ h tk, LDone h₀ env.locals parts l d o od oo av h → Q .next { s with heap := h, toks := tk })
    (hstep : ∀ (Q' : Flow → Shared → Prop), (∀ h tk, LDone h₀ env.locals parts l d o od oo av h → Q' .next { s with heap := h, toks := tk }) →
      ∀ v i its n m, tvs[i]? = some v → i ≤ parts.length → IntsAre its.toList (parts.take i) → MF m l d av → ∀ h tk, Fr h₀ env.locals h m → AllObj ws (fun it => News h₀ env.locals h (it ++ [(l, listOf its n), (d, od), (o, oo)]) →
      wpAny (model prog w) A (assign target env v) (fun _ s₂ => wpAny (model prog w) A (execs body env) (UnrPostW h₀ env.locals { s with heap := h, toks := tk } it (fun m' n' => SubL [(o, oo)] n' ∧ LI parts tvs l d o od oo av (tvs.drop (i + 1)) m' n') Q') E s₂) E { s with heap := h, toks := tk })) :
    ItemsRest prog w A E h₀ env target body Q s ws [(o, oo)] (tvs.map .val) m news := by
  refine itemsLess sub (itemsInv (LI parts tvs l d o od oo av) (fun m' news' hI h tk F N => ?_) (fun v r m' news' hI h tk F => ?_) tvs m _ ⟨0, #[], n0, rfl, Nat.zero_le _, Nat.zero_le _, .nil, hm, rfl⟩)
  · obtain ⟨i, its, n, hr, hi, hit, hin, hmf, rfl⟩ := hI
    have hge : tvs.length ≤ i := by
      have := congrArg List.length hr
      simp only [List.length_nil, List.length_drop] at this
      omega
    have : i = parts.length := by omega
    rw [List.take_of_length_le (by omega)] at hin
    exact hQ h tk ⟨its, n, m', hin, hmf, F, N⟩
  · obtain ⟨i, its, n, hr, hi, hit, hin, hmf, rfl⟩ := hI
    have hlt : i < tvs.length := by
      have := congrArg List.length hr
      simp only [List.length_cons, List.length_drop] at this
      omega
    have hv : tvs[i]? = some v := by
      have : (tvs.drop i)[0]? = some v := by rw [← hr]; rfl
      rw [List.getElem?_drop] at this
      exact this
    have hr' : r = tvs.drop (i + 1) := by
      have : (v :: r).tail = (tvs.drop i).tail := by rw [hr]
      rw [List.tail_drop] at this
      exact this
    subst hr'
    exact hstep Q hQ v i its n m' hv hi hin hmf h tk F
end
section
variable {M : Model} {A : Around} {E : Value → Shared → Prop} {s : Shared}
theorem callWith_Sty {T : String} {env : Env} {pos p : Pos} {first : List Value} {e : Expr} {Q : Value → Shared → Prop} (h : wpAny M A (eval e env) (fun v s₁ => StarOf M A E v (fun vs s₂ => wpAny M A (call (.type T) (first ++ vs)) Q E s₂) s₁) E s)
    (he : starEach [.Starred e p] env = [(true, eval e env)] := by rfl) :
    wpAny M A (callWith pos (.type T) first (backTo pos (starEach [.Starred e p] env)) []) Q E s := by
  rw [he]
  exact ks_call (P := fun _ => True) rfl (fun _ _ => ⟨.machine, .inr (.inl rfl), Looks.of_pure rfl⟩) (ks_lone (wpAny_mono h (fun v s₁ x => wpAny_mono (show wpAny M A (notIterableAtAll v) _ E s₁ from x) (fun b s₂ ⟨a, c⟩ => ⟨a, wpAny_mono c (fun _ _ d => ⟨trivial, d⟩) fun _ _ e => e⟩) fun _ _ e => e) fun _ _ e => e))
end
end Mine
end
section
open PySem PySem.W PyProof.Rows PySem.Calls PySem.Spec PySem.Builtin._datetime
set_option Elab.async false
set_option maxRecDepth 100000
namespace Mine
theorem isType_dt : isType (.type "datetime.datetime") = pure true := by first | rfl | kernel_rfl | (unfold isType; rw [isSubtype_type]; kernel_rfl)
theorem sub_dt : isSubtype (.type "datetime.datetime") (.type "datetime.datetime") = pure true := by rw [isSubtype_type]; kernel_rfl
theorem sub_intbytes : isSubtype (.type "int") (.type "bytes") = pure false := by rw [isSubtype_type]; kernel_rfl
theorem plain_te : PlainExc "TypeError" := ⟨fun _ => by first | rfl | kernel_rfl, by decide +kernel⟩
theorem plain_ve : PlainExc "ValueError" := ⟨fun _ => by first | rfl | kernel_rfl, by decide +kernel⟩
section
variable {M : Model} {A : Around} {E : Value → Shared → Prop} {s : Shared}
theorem cint {i : Int} {t : Tok} {Q : Int → Shared → Prop} (h0 : 0 ≤ i) (h1 : i < 100000) (h : Q i s) : wpAny M A (dtCInt (.int i t)) Q E s := by
  unfold dtCInt
  refine wpAny_bind (m := asIndex (.int i t)) (wpAny_of_eq (a := i) rfl ?_)
  rw [if_neg (by simp; omega), if_neg (by simp; omega), if_neg (by simp; omega)]
  exact wpAny_pure h
abbrev stamp (y mo d h m s : Int) (us : Int := 0) (tz : Value := .none) : Stamp := { y, mo, d, c := { h, m, s, us, tz, fold := 0 } }
theorem new1 {y : Int} {t0 : Tok} {Q : Fin → Shared → Prop} (hy : 0 ≤ y ∧ y < 100000)
    (hh : A.handled = none) (h9 : ∀ h' tk e, Heap.NewExc s.heap h' e "TypeError" → E (.ref e) { s with heap := h', toks := tk }) :
    wpAny M A (Builtin.«datetime.datetime.__new__» ⟨[.type "datetime.datetime", .int y t0], []⟩) Q E s := by
  unfold Builtin.«datetime.datetime.__new__» dtNewClass
  dsimp only
  refine wpAny_bind (wpAny_bind (wpAny_of_eq isType_dt ?_))
  rw [if_neg (by simp)]
  refine wpAny_bind (wpAny_of_eq sub_dt ?_)
  rw [if_neg (by simp)]
  refine wpAny_pure ?_
  dsimp only
  rw [if_pos (by simp)]
  dsimp only [List.headD]
  refine wpAny_bind (wpAny_isInstance_val (T := "int") rfl sub_intbytes ?_)
  rw [if_neg (by simp)]
  refine wpAny_bind (m := asStr? _) (wpAny_of_eq (a := none) rfl ?_)
  refine wpAny_bind (wpAny_pure ?_)
  dsimp only [Option.map]
  unfold dtBindClock
  refine wpAny_bind ?_
  dsimp only
  rw [if_neg (by simp)]
  rw [if_neg (by simp)]
  simp only [List.cons_append, List.nil_append, List.zipIdx_cons, List.zipIdx_nil, List.forIn_cons, List.forIn_nil, Nat.zero_add, Nat.reduceAdd, List.getElem?_cons_zero, List.getElem?_cons_succ, List.getElem?_nil, List.lookup_nil, List.length_cons, List.length_nil]
  refine wpAny_bind (wpAny_bind (wpAny_bind (cint hy.1 hy.2 (wpAny_pure ?_))))
  refine wpAny_bind (wpAny_bind (wpAny_rule (wpAny_bind ?_)))
  exact wpAny_raiseErrorMade plain_te hh h9 (by decide +kernel)
theorem new2 {y mo : Int} {t0 t1 : Tok} {Q : Fin → Shared → Prop} (hy : 0 ≤ y ∧ y < 100000) (hmo : 0 ≤ mo ∧ mo < 100000)
    (hh : A.handled = none) (h9 : ∀ h' tk e, Heap.NewExc s.heap h' e "TypeError" → E (.ref e) { s with heap := h', toks := tk }) :
    wpAny M A (Builtin.«datetime.datetime.__new__» ⟨[.type "datetime.datetime", .int y t0, .int mo t1], []⟩) Q E s := by
  unfold Builtin.«datetime.datetime.__new__» dtNewClass
  dsimp only
  refine wpAny_bind (wpAny_bind (wpAny_of_eq isType_dt ?_))
  rw [if_neg (by simp)]
  refine wpAny_bind (wpAny_of_eq sub_dt ?_)
  rw [if_neg (by simp)]
  refine wpAny_pure ?_
  dsimp only
  rw [if_pos (by simp)]
  dsimp only [List.headD]
  refine wpAny_bind (wpAny_isInstance_val (T := "int") rfl sub_intbytes ?_)
  rw [if_neg (by simp)]
  refine wpAny_bind (m := asStr? _) (wpAny_of_eq (a := none) rfl ?_)
  refine wpAny_bind (wpAny_pure ?_)
  dsimp only [Option.map]
  unfold dtBindClock
  refine wpAny_bind ?_
  dsimp only
  rw [if_neg (by simp)]
  rw [if_neg (by simp)]
  simp only [List.cons_append, List.nil_append, List.zipIdx_cons, List.zipIdx_nil, List.forIn_cons, List.forIn_nil, Nat.zero_add, Nat.reduceAdd, List.getElem?_cons_zero, List.getElem?_cons_succ, List.getElem?_nil, List.lookup_nil, List.length_cons, List.length_nil]
  refine wpAny_bind (wpAny_bind (wpAny_bind (cint hy.1 hy.2 (wpAny_pure ?_))))
  refine wpAny_bind (wpAny_bind (cint hmo.1 hmo.2 (wpAny_pure ?_)))
  refine wpAny_bind (wpAny_bind (wpAny_rule (wpAny_bind ?_)))
  exact wpAny_raiseErrorMade plain_te hh h9 (by decide +kernel)
theorem new3 {y mo d : Int} {t0 t1 t2 : Tok} {Q : Fin → Shared → Prop} (hy : 0 ≤ y ∧ y < 100000) (hmo : 0 ≤ mo ∧ mo < 100000) (hd : 0 ≤ d ∧ d < 100000)
    (h9 : wpAny M A (newStampRaw (.type "datetime.datetime") (stamp y mo d 0 0 0)) (fun v s' => Q (.done (.ret v)) s') E s) :
    wpAny M A (Builtin.«datetime.datetime.__new__» ⟨[.type "datetime.datetime", .int y t0, .int mo t1, .int d t2], []⟩) Q E s := by
  unfold Builtin.«datetime.datetime.__new__» dtNewClass
  dsimp only
  refine wpAny_bind (wpAny_bind (wpAny_of_eq isType_dt ?_))
  rw [if_neg (by simp)]
  refine wpAny_bind (wpAny_of_eq sub_dt ?_)
  rw [if_neg (by simp)]
  refine wpAny_pure ?_
  dsimp only
  rw [if_neg (by simp)]
  unfold dtBindClock
  refine wpAny_bind ?_
  dsimp only
  rw [if_neg (by simp)]
  rw [if_neg (by simp)]
  simp only [List.cons_append, List.nil_append, List.zipIdx_cons, List.zipIdx_nil, List.forIn_cons, List.forIn_nil, Nat.zero_add, Nat.reduceAdd, List.getElem?_cons_zero, List.getElem?_cons_succ, List.getElem?_nil, List.lookup_nil, List.length_cons, List.length_nil]
  refine wpAny_bind (wpAny_bind (wpAny_bind (cint hy.1 hy.2 (wpAny_pure ?_))))
  refine wpAny_bind (wpAny_bind (cint hmo.1 hmo.2 (wpAny_pure ?_)))
  refine wpAny_bind (wpAny_bind (cint hd.1 hd.2 (wpAny_pure ?_)))
  refine wpAny_bind (wpAny_of_eq (a := ForInStep.yield _) rfl ?_)
  refine wpAny_bind (wpAny_of_eq (a := ForInStep.yield _) rfl ?_)
  refine wpAny_bind (wpAny_of_eq (a := ForInStep.yield _) rfl ?_)
  refine wpAny_bind (wpAny_of_eq (a := ForInStep.yield _) rfl ?_)
  refine wpAny_pure ?_
  rw [if_neg (by simp)]
  refine wpAny_bind (wpAny_of_eq (a := ()) rfl ?_)
  refine wpAny_bind (wpAny_of_eq (a := none) rfl ?_)
  refine wpAny_bind (wpAny_of_eq (a := [some (.int y t0), some (.int mo t1), some (.int d t2), none, none, none, none, none, none]) (by kernel_rfl) ?_)
  refine wpAny_pure ?_
  exact wpAny_bind (wpAny_mono h9 (fun v s' h => wpAny_pure h) fun _ _ h => h)
theorem new4 {y mo d h : Int} {t0 t1 t2 t3 : Tok} {Q : Fin → Shared → Prop} (hy : 0 ≤ y ∧ y < 100000) (hmo : 0 ≤ mo ∧ mo < 100000) (hd : 0 ≤ d ∧ d < 100000) (hh : 0 ≤ h ∧ h < 100000)
    (h9 : wpAny M A (newStampRaw (.type "datetime.datetime") (stamp y mo d h 0 0)) (fun v s' => Q (.done (.ret v)) s') E s) :
    wpAny M A (Builtin.«datetime.datetime.__new__» ⟨[.type "datetime.datetime", .int y t0, .int mo t1, .int d t2, .int h t3], []⟩) Q E s := by
  unfold Builtin.«datetime.datetime.__new__» dtNewClass
  dsimp only
  refine wpAny_bind (wpAny_bind (wpAny_of_eq isType_dt ?_))
  rw [if_neg (by simp)]
  refine wpAny_bind (wpAny_of_eq sub_dt ?_)
  rw [if_neg (by simp)]
  refine wpAny_pure ?_
  dsimp only
  rw [if_neg (by simp)]
  unfold dtBindClock
  refine wpAny_bind ?_
  dsimp only
  rw [if_neg (by simp)]
  rw [if_neg (by simp)]
  simp only [List.cons_append, List.nil_append, List.zipIdx_cons, List.zipIdx_nil, List.forIn_cons, List.forIn_nil, Nat.zero_add, Nat.reduceAdd, List.getElem?_cons_zero, List.getElem?_cons_succ, List.getElem?_nil, List.lookup_nil, List.length_cons, List.length_nil]
  refine wpAny_bind (wpAny_bind (wpAny_bind (cint hy.1 hy.2 (wpAny_pure ?_))))
  refine wpAny_bind (wpAny_bind (cint hmo.1 hmo.2 (wpAny_pure ?_)))
  refine wpAny_bind (wpAny_bind (cint hd.1 hd.2 (wpAny_pure ?_)))
  refine wpAny_bind (wpAny_bind (cint hh.1 hh.2 (wpAny_pure ?_)))
  refine wpAny_bind (wpAny_of_eq (a := ForInStep.yield _) rfl ?_)
  refine wpAny_bind (wpAny_of_eq (a := ForInStep.yield _) rfl ?_)
  refine wpAny_bind (wpAny_of_eq (a := ForInStep.yield _) rfl ?_)
  refine wpAny_pure ?_
  rw [if_neg (by simp)]
  refine wpAny_bind (wpAny_of_eq (a := ()) rfl ?_)
  refine wpAny_bind (wpAny_of_eq (a := none) rfl ?_)
  refine wpAny_bind (wpAny_of_eq (a := [some (.int y t0), some (.int mo t1), some (.int d t2), some (.int h t3), none, none, none, none, none]) (by kernel_rfl) ?_)
  refine wpAny_pure ?_
  exact wpAny_bind (wpAny_mono h9 (fun v s' h => wpAny_pure h) fun _ _ h => h)
theorem new5 {y mo d h mi : Int} {t0 t1 t2 t3 t4 : Tok} {Q : Fin → Shared → Prop} (hy : 0 ≤ y ∧ y < 100000) (hmo : 0 ≤ mo ∧ mo < 100000) (hd : 0 ≤ d ∧ d < 100000) (hh : 0 ≤ h ∧ h < 100000) (hmi : 0 ≤ mi ∧ mi < 100000)
    (h9 : wpAny M A (newStampRaw (.type "datetime.datetime") (stamp y mo d h mi 0)) (fun v s' => Q (.done (.ret v)) s') E s) :
    wpAny M A (Builtin.«datetime.datetime.__new__» ⟨[.type "datetime.datetime", .int y t0, .int mo t1, .int d t2, .int h t3, .int mi t4], []⟩) Q E s := by
  unfold Builtin.«datetime.datetime.__new__» dtNewClass
  dsimp only
  refine wpAny_bind (wpAny_bind (wpAny_of_eq isType_dt ?_))
  rw [if_neg (by simp)]
  refine wpAny_bind (wpAny_of_eq sub_dt ?_)
  rw [if_neg (by simp)]
  refine wpAny_pure ?_
  dsimp only
  rw [if_neg (by simp)]
  unfold dtBindClock
  refine wpAny_bind ?_
  dsimp only
  rw [if_neg (by simp)]
  rw [if_neg (by simp)]
  simp only [List.cons_append, List.nil_append, List.zipIdx_cons, List.zipIdx_nil, List.forIn_cons, List.forIn_nil, Nat.zero_add, Nat.reduceAdd, List.getElem?_cons_zero, List.getElem?_cons_succ, List.getElem?_nil, List.lookup_nil, List.length_cons, List.length_nil]
  refine wpAny_bind (wpAny_bind (wpAny_bind (cint hy.1 hy.2 (wpAny_pure ?_))))
  refine wpAny_bind (wpAny_bind (cint hmo.1 hmo.2 (wpAny_pure ?_)))
  refine wpAny_bind (wpAny_bind (cint hd.1 hd.2 (wpAny_pure ?_)))
  refine wpAny_bind (wpAny_bind (cint hh.1 hh.2 (wpAny_pure ?_)))
  refine wpAny_bind (wpAny_bind (cint hmi.1 hmi.2 (wpAny_pure ?_)))
  refine wpAny_bind (wpAny_of_eq (a := ForInStep.yield _) rfl ?_)
  refine wpAny_bind (wpAny_of_eq (a := ForInStep.yield _) rfl ?_)
  refine wpAny_pure ?_
  rw [if_neg (by simp)]
  refine wpAny_bind (wpAny_of_eq (a := ()) rfl ?_)
  refine wpAny_bind (wpAny_of_eq (a := none) rfl ?_)
  refine wpAny_bind (wpAny_of_eq (a := [some (.int y t0), some (.int mo t1), some (.int d t2), some (.int h t3), some (.int mi t4), none, none, none, none]) (by kernel_rfl) ?_)
  refine wpAny_pure ?_
  exact wpAny_bind (wpAny_mono h9 (fun v s' h => wpAny_pure h) fun _ _ h => h)
theorem new6 {y mo d h mi se : Int} {t0 t1 t2 t3 t4 t5 : Tok} {Q : Fin → Shared → Prop} (hy : 0 ≤ y ∧ y < 100000) (hmo : 0 ≤ mo ∧ mo < 100000) (hd : 0 ≤ d ∧ d < 100000) (hh : 0 ≤ h ∧ h < 100000) (hmi : 0 ≤ mi ∧ mi < 100000) (hse : 0 ≤ se ∧ se < 100000)
    (h9 : wpAny M A (newStampRaw (.type "datetime.datetime") (stamp y mo d h mi se)) (fun v s' => Q (.done (.ret v)) s') E s) :
    wpAny M A (Builtin.«datetime.datetime.__new__» ⟨[.type "datetime.datetime", .int y t0, .int mo t1, .int d t2, .int h t3, .int mi t4, .int se t5], []⟩) Q E s := by
  unfold Builtin.«datetime.datetime.__new__» dtNewClass
  dsimp only
  refine wpAny_bind (wpAny_bind (wpAny_of_eq isType_dt ?_))
  rw [if_neg (by simp)]
  refine wpAny_bind (wpAny_of_eq sub_dt ?_)
  rw [if_neg (by simp)]
  refine wpAny_pure ?_
  dsimp only
  rw [if_neg (by simp)]
  unfold dtBindClock
  refine wpAny_bind ?_
  dsimp only
  rw [if_neg (by simp)]
  rw [if_neg (by simp)]
  simp only [List.cons_append, List.nil_append, List.zipIdx_cons, List.zipIdx_nil, List.forIn_cons, List.forIn_nil, Nat.zero_add, Nat.reduceAdd, List.getElem?_cons_zero, List.getElem?_cons_succ, List.getElem?_nil, List.lookup_nil, List.length_cons, List.length_nil]
  refine wpAny_bind (wpAny_bind (wpAny_bind (cint hy.1 hy.2 (wpAny_pure ?_))))
  refine wpAny_bind (wpAny_bind (cint hmo.1 hmo.2 (wpAny_pure ?_)))
  refine wpAny_bind (wpAny_bind (cint hd.1 hd.2 (wpAny_pure ?_)))
  refine wpAny_bind (wpAny_bind (cint hh.1 hh.2 (wpAny_pure ?_)))
  refine wpAny_bind (wpAny_bind (cint hmi.1 hmi.2 (wpAny_pure ?_)))
  refine wpAny_bind (wpAny_bind (cint hse.1 hse.2 (wpAny_pure ?_)))
  refine wpAny_bind (wpAny_of_eq (a := ForInStep.yield _) rfl ?_)
  refine wpAny_pure ?_
  rw [if_neg (by simp)]
  refine wpAny_bind (wpAny_of_eq (a := ()) rfl ?_)
  refine wpAny_bind (wpAny_of_eq (a := none) rfl ?_)
  refine wpAny_bind (wpAny_of_eq (a := [some (.int y t0), some (.int mo t1), some (.int d t2), some (.int h t3), some (.int mi t4), some (.int se t5), none, none, none]) (by kernel_rfl) ?_)
  refine wpAny_pure ?_
  exact wpAny_bind (wpAny_mono h9 (fun v s' h => wpAny_pure h) fun _ _ h => h)
end
end Mine
end
section
open PySem PySem.W PyProof.Rows PySem.Calls PySem.Spec PySem.Builtin._datetime
set_option Elab.async false
set_option maxRecDepth 100000
namespace Mine
def okStamp (y mo d h m s : Int) : Bool := !(decide (y < 1) || decide (y > 9999)) && !(decide (mo < 1) || decide (mo > 12)) && !(decide (d < 1) || decide (d > daysInMonth y mo)) &&
  !(decide (h < 0) || decide (h > 23)) && !(decide (m < 0) || decide (m > 59)) && !(decide (s < 0) || decide (s > 59))
def stampObj (y mo d h m s : Int) (us : Int) (tz : Value) : Obj := { cls := .type "datetime.datetime", data := .fields #[rawInt y, rawInt mo, rawInt d, rawInt h, rawInt m, rawInt s, rawInt us, tz, rawInt 0, .none] }
section
variable {M : Model} {A : Around} {E : Value → Shared → Prop} {s : Shared}
theorem date_any {y mo d : Int} {Q : Unit → Shared → Prop} (hh : A.handled = none) (hok : (!(decide (y < 1) || decide (y > 9999)) && !(decide (mo < 1) || decide (mo > 12)) && !(decide (d < 1) || decide (d > daysInMonth y mo))) = true → Q () s)
    (hbad : (!(decide (y < 1) || decide (y > 9999)) && !(decide (mo < 1) || decide (mo > 12)) && !(decide (d < 1) || decide (d > daysInMonth y mo))) = false → ∀ h' tk e, Heap.NewExc s.heap h' e "ValueError" → E (.ref e) { s with heap := h', toks := tk }) (hyb : -100000 < y ∧ y < 100000) :
    wpAny M A (checkDate y mo d) Q E s := by
  unfold checkDate
  cases h1 : (decide (y < 1) || decide (y > 9999)) with
  | true =>
    rw [if_pos rfl]
    refine wpAny_bind (wpAny_rule ?_)
    refine wpAny_bind (wpAny_raiseErrorMade plain_ve hh (fun h' tk e he => hbad (by rw [h1]; rfl) h' tk e he) ?_)
    have h5 : (toString y).length ≤ 5 + 1 := int_text_length_le10 (a := y) (k := 5) (by decide) (by omega)
    rw [PySem.ofString_length, sizeLine_eq]
    simp only [String.length_append, show toString y = toString y from rfl, show (toString "year " : String) = "year " from rfl, show (toString " is out of range" : String) = " is out of range" from rfl]
    have h6 : ("year " : String).length = 5 := by decide
    have h7 : (" is out of range" : String).length = 16 := by decide
    omega
  | false =>
    rw [if_neg (by simp)]
    cases h2 : (decide (mo < 1) || decide (mo > 12)) with
    | true =>
      rw [if_pos rfl]
      refine wpAny_bind (wpAny_rule ?_)
      exact wpAny_bind (wpAny_raiseErrorWords plain_ve hh (fun h' tk e he => hbad (by rw [h1, h2]; rfl) h' tk e he))
    | false =>
      rw [if_neg (by simp)]
      cases h3 : (decide (d < 1) || decide (d > daysInMonth y mo)) with
      | true =>
        rw [if_pos rfl]
        refine wpAny_bind (wpAny_rule ?_)
        exact wpAny_raiseErrorWords plain_ve hh (fun h' tk e he => hbad (by rw [h1, h2, h3]; rfl) h' tk e he)
      | false =>
        rw [if_neg (by simp)]
        exact wpAny_pure (hok (by rw [h1, h2, h3]; rfl))
theorem time_any {h m sc us : Int} {Q : Unit → Shared → Prop} (hh : A.handled = none) (hus : 0 ≤ us ∧ us ≤ 999999) (hok : (!(decide (h < 0) || decide (h > 23)) && !(decide (m < 0) || decide (m > 59)) && !(decide (sc < 0) || decide (sc > 59))) = true → Q () s)
    (hbad : (!(decide (h < 0) || decide (h > 23)) && !(decide (m < 0) || decide (m > 59)) && !(decide (sc < 0) || decide (sc > 59))) = false → ∀ h' tk e, Heap.NewExc s.heap h' e "ValueError" → E (.ref e) { s with heap := h', toks := tk }) :
    wpAny M A (checkTime h m sc us 0) Q E s := by
  unfold checkTime
  cases h1 : (decide (h < 0) || decide (h > 23)) with
  | true =>
    rw [if_pos rfl]
    refine wpAny_bind (wpAny_rule ?_)
    exact wpAny_bind (wpAny_raiseErrorWords plain_ve hh (fun h' tk e he => hbad (by rw [h1]; rfl) h' tk e he))
  | false =>
    rw [if_neg (by simp)]
    cases h2 : (decide (m < 0) || decide (m > 59)) with
    | true =>
      rw [if_pos rfl]
      refine wpAny_bind (wpAny_rule ?_)
      exact wpAny_bind (wpAny_raiseErrorWords plain_ve hh (fun h' tk e he => hbad (by rw [h1, h2]; rfl) h' tk e he))
    | false =>
      rw [if_neg (by simp)]
      cases h3 : (decide (sc < 0) || decide (sc > 59)) with
      | true =>
        rw [if_pos rfl]
        refine wpAny_bind (wpAny_rule ?_)
        exact wpAny_bind (wpAny_raiseErrorWords plain_ve hh (fun h' tk e he => hbad (by rw [h1, h2, h3]; rfl) h' tk e he))
      | false =>
        rw [if_neg (by simp), if_neg (by simp; omega), if_neg (by simp)]
        exact wpAny_pure (hok (by rw [h1, h2, h3]; rfl))
theorem stamp_any {y mo d h m sc us : Int} {Q : Value → Shared → Prop} (hh : A.handled = none) (hus : 0 ≤ us ∧ us ≤ 999999) (hyb : -100000 < y ∧ y < 100000)
    (hok : okStamp y mo d h m sc = true → Q (.ref s.heap.objs.size) { s with heap := s.heap.push (stampObj y mo d h m sc us .none) })
    (hbad : okStamp y mo d h m sc = false → ∀ h' tk e, Heap.NewExc s.heap h' e "ValueError" → E (.ref e) { s with heap := h', toks := tk }) :
    wpAny M A (newStampRaw (.type "datetime.datetime") (stamp y mo d h m sc us)) Q E s := by
  unfold newStampRaw
  refine wpAny_bind (date_any hh (fun e1 => ?_) (fun e1 => hbad (by unfold okStamp; rw [e1]; rfl)) hyb)
  refine wpAny_bind (time_any hh hus (fun e2 => ?_) (fun e2 => hbad (by unfold okStamp; rw [e1]; simp only [Bool.true_and]; exact e2)))
  refine wpAny_bind (wpAny_of_eq (a := ()) rfl ?_)
  exact wpAny_newObj_type (hok (by unfold okStamp; rw [e1]; simp only [Bool.true_and]; exact e2))
end
end Mine
end
section
open PySem PySem.W PyProof.Rows PySem.Calls PySem.Spec PySem.Builtin._datetime
set_option Elab.async false
set_option maxRecDepth 100000
namespace Mine
def DtPost (ns : List Int) (s : Shared) (Q E : Value → Shared → Prop) : Prop := match ns with
  | y :: mo :: d :: r => (okStamp y mo d (r.getD 0 0) (r.getD 1 0) (r.getD 2 0) = true → Q (.ref s.heap.objs.size) { s with heap := s.heap.push (stampObj y mo d (r.getD 0 0) (r.getD 1 0) (r.getD 2 0) 0 .none) }) ∧
      (okStamp y mo d (r.getD 0 0) (r.getD 1 0) (r.getD 2 0) = false → ∀ h' tk e, Heap.NewExc s.heap h' e "ValueError" → E (.ref e) { s with heap := h', toks := tk })
  | _ => ∀ h' tk e, Heap.NewExc s.heap h' e "TypeError" → E (.ref e) { s with heap := h', toks := tk }
theorem mro_dt : ∃ c tl, mroOf (.type "datetime.datetime") = pure (c :: tl) := ⟨.type "datetime.datetime", [.type "datetime.date", .type "object"], by rw [mroOf_type]; kernel_rfl⟩
theorem lookup_dt_new : typeLookup (.type "datetime.datetime") "__new__" = pure (some (.builtin "datetime.datetime.__new__")) := by rw [typeLookup_type, builtinLookup_eq_fast]; kernel_rfl
theorem slot_dt_init : Slot "datetime.datetime" "__init__" "object.__init__" :=
  .of (owner := "object") (n := "__init__") (by rw [typeLookup_type, builtinLookup_eq_fast]; kernel_rfl) (by decide +kernel) (by decide +kernel) (by decide +kernel)
    (by first | exact .inl (by decide +kernel) | exact .inr (by decide +kernel)) (by rw [isSubtype_type]; kernel_rfl)
theorem made_dt : Bind.madeBy (.type "datetime.datetime") = pure (some "datetime.datetime.__new__") := madeBy_type (by rw [mroOf_type]; kernel_rfl : mroOf (.type "datetime.datetime") = pure [.type "datetime.datetime", .type "datetime.date", .type "object"]) lookup_dt_new (by decide +kernel)
theorem called_dt : TypeCalled "datetime.datetime" "datetime.datetime.__new__" "object.__init__" :=
  ⟨by decide +kernel, by decide +kernel, mro_dt, made_dt, by decide +kernel, sub_dt, slot_dt_init⟩
theorem entry_dt_new : entryFor table "datetime.datetime.__new__" = some Builtin.«datetime.datetime.__new__» := entryFor_of_tree (by kernel_rfl)
theorem newNe_dt : (some "datetime.datetime.__new__" != some "object.__new__") = true := by decide +kernel
theorem typeCall_dt (args : List Value) : checkTypeCall "datetime.datetime" ⟨args, []⟩ = pure () := by kernel_rfl
theorem newCall_dt (args : List Value) : checkBuiltinCall "datetime.datetime.__new__" ⟨.type "datetime.datetime" :: args, []⟩ = pure () := by kernel_rfl
theorem argsInit_dt (o : Value) (args : List Value) : argsOk "object.__init__" ⟨o :: args, []⟩ := by unfold argsOk; kernel_rfl
section
variable {prog : Program} {w : World} {A : Around} {E : Value → Shared → Prop} {s : Shared}
theorem meets_dt_1 {y : Int} {t0 : Tok} (hy : 0 ≤ y ∧ y < 100000) : Meets (Builtin.«datetime.datetime.__new__» ⟨[.type "datetime.datetime", .int y t0], []⟩)
    (fun A R s => A.handled = none ∧ DtPost [y] s (fun v s' => R (.ok (.ret v)) s') (fun e s' => R (.error e) s')) := by
  refine Meets.of_wp fun prog w A R s hs => ?_
  obtain ⟨hn0, hp⟩ := hs
  exact new1 hy (show A.in1.handled = none from hn0) hp
theorem call_dt_1 {y : Int} {t0 : Tok} {Q : Value → Shared → Prop} (hy : 0 ≤ y ∧ y < 100000) (hn0 : A.handled = none) (h9 : DtPost [y] s Q E) : wpAny (model prog w) A (call (.type "datetime.datetime") [.int y t0]) Q E s := by
  refine callType_new called_dt newNe_dt (typeCall_dt _) (newCall_dt _) (fun obj => argsInit_dt obj _) entry_dt_new (meets_dt_1 hy) ⟨hn0, ?_⟩
  exact h9
theorem meets_dt_2 {y mo : Int} {t0 t1 : Tok} (hy : 0 ≤ y ∧ y < 100000) (hmo : 0 ≤ mo ∧ mo < 100000) : Meets (Builtin.«datetime.datetime.__new__» ⟨[.type "datetime.datetime", .int y t0, .int mo t1], []⟩)
    (fun A R s => A.handled = none ∧ DtPost [y, mo] s (fun v s' => R (.ok (.ret v)) s') (fun e s' => R (.error e) s')) := by
  refine Meets.of_wp fun prog w A R s hs => ?_
  obtain ⟨hn0, hp⟩ := hs
  exact new2 hy hmo (show A.in1.handled = none from hn0) hp
theorem call_dt_2 {y mo : Int} {t0 t1 : Tok} {Q : Value → Shared → Prop} (hy : 0 ≤ y ∧ y < 100000) (hmo : 0 ≤ mo ∧ mo < 100000) (hn0 : A.handled = none) (h9 : DtPost [y, mo] s Q E) : wpAny (model prog w) A (call (.type "datetime.datetime") [.int y t0, .int mo t1]) Q E s := by
  refine callType_new called_dt newNe_dt (typeCall_dt _) (newCall_dt _) (fun obj => argsInit_dt obj _) entry_dt_new (meets_dt_2 hy hmo) ⟨hn0, ?_⟩
  exact h9
theorem meets_dt_3 {y mo d : Int} {t0 t1 t2 : Tok} (hy : 0 ≤ y ∧ y < 100000) (hmo : 0 ≤ mo ∧ mo < 100000) (hd : 0 ≤ d ∧ d < 100000) : Meets (Builtin.«datetime.datetime.__new__» ⟨[.type "datetime.datetime", .int y t0, .int mo t1, .int d t2], []⟩)
    (fun A R s => A.handled = none ∧ DtPost [y, mo, d] s (fun v s' => R (.ok (.ret v)) s') (fun e s' => R (.error e) s')) := by
  refine Meets.of_wp fun prog w A R s hs => ?_
  obtain ⟨hn0, hp⟩ := hs
  exact new3 hy hmo hd (stamp_any (show A.in1.handled = none from hn0) (by decide) (by omega) (fun e => ⟨_, rfl, hp.1 e⟩) (fun e => hp.2 e))
theorem call_dt_3 {y mo d : Int} {t0 t1 t2 : Tok} {Q : Value → Shared → Prop} (hy : 0 ≤ y ∧ y < 100000) (hmo : 0 ≤ mo ∧ mo < 100000) (hd : 0 ≤ d ∧ d < 100000) (hn0 : A.handled = none) (h9 : DtPost [y, mo, d] s Q E) : wpAny (model prog w) A (call (.type "datetime.datetime") [.int y t0, .int mo t1, .int d t2]) Q E s := by
  refine callType_new called_dt newNe_dt (typeCall_dt _) (newCall_dt _) (fun obj => argsInit_dt obj _) entry_dt_new (meets_dt_3 hy hmo hd) ⟨hn0, ?_⟩
  exact ⟨fun e => ⟨⟨_, Heap.get?_push_size _ rfl, rfl⟩, h9.1 e⟩, h9.2⟩
theorem meets_dt_4 {y mo d h : Int} {t0 t1 t2 t3 : Tok} (hy : 0 ≤ y ∧ y < 100000) (hmo : 0 ≤ mo ∧ mo < 100000) (hd : 0 ≤ d ∧ d < 100000) (hh : 0 ≤ h ∧ h < 100000) : Meets (Builtin.«datetime.datetime.__new__» ⟨[.type "datetime.datetime", .int y t0, .int mo t1, .int d t2, .int h t3], []⟩)
    (fun A R s => A.handled = none ∧ DtPost [y, mo, d, h] s (fun v s' => R (.ok (.ret v)) s') (fun e s' => R (.error e) s')) := by
  refine Meets.of_wp fun prog w A R s hs => ?_
  obtain ⟨hn0, hp⟩ := hs
  exact new4 hy hmo hd hh (stamp_any (show A.in1.handled = none from hn0) (by decide) (by omega) (fun e => ⟨_, rfl, hp.1 e⟩) (fun e => hp.2 e))
theorem call_dt_4 {y mo d h : Int} {t0 t1 t2 t3 : Tok} {Q : Value → Shared → Prop} (hy : 0 ≤ y ∧ y < 100000) (hmo : 0 ≤ mo ∧ mo < 100000) (hd : 0 ≤ d ∧ d < 100000) (hh : 0 ≤ h ∧ h < 100000) (hn0 : A.handled = none) (h9 : DtPost [y, mo, d, h] s Q E) : wpAny (model prog w) A (call (.type "datetime.datetime") [.int y t0, .int mo t1, .int d t2, .int h t3]) Q E s := by
  refine callType_new called_dt newNe_dt (typeCall_dt _) (newCall_dt _) (fun obj => argsInit_dt obj _) entry_dt_new (meets_dt_4 hy hmo hd hh) ⟨hn0, ?_⟩
  exact ⟨fun e => ⟨⟨_, Heap.get?_push_size _ rfl, rfl⟩, h9.1 e⟩, h9.2⟩
theorem meets_dt_5 {y mo d h mi : Int} {t0 t1 t2 t3 t4 : Tok} (hy : 0 ≤ y ∧ y < 100000) (hmo : 0 ≤ mo ∧ mo < 100000) (hd : 0 ≤ d ∧ d < 100000) (hh : 0 ≤ h ∧ h < 100000) (hmi : 0 ≤ mi ∧ mi < 100000) : Meets (Builtin.«datetime.datetime.__new__» ⟨[.type "datetime.datetime", .int y t0, .int mo t1, .int d t2, .int h t3, .int mi t4], []⟩)
    (fun A R s => A.handled = none ∧ DtPost [y, mo, d, h, mi] s (fun v s' => R (.ok (.ret v)) s') (fun e s' => R (.error e) s')) := by
  refine Meets.of_wp fun prog w A R s hs => ?_
  obtain ⟨hn0, hp⟩ := hs
  exact new5 hy hmo hd hh hmi (stamp_any (show A.in1.handled = none from hn0) (by decide) (by omega) (fun e => ⟨_, rfl, hp.1 e⟩) (fun e => hp.2 e))
theorem call_dt_5 {y mo d h mi : Int} {t0 t1 t2 t3 t4 : Tok} {Q : Value → Shared → Prop} (hy : 0 ≤ y ∧ y < 100000) (hmo : 0 ≤ mo ∧ mo < 100000) (hd : 0 ≤ d ∧ d < 100000) (hh : 0 ≤ h ∧ h < 100000) (hmi : 0 ≤ mi ∧ mi < 100000) (hn0 : A.handled = none) (h9 : DtPost [y, mo, d, h, mi] s Q E) : wpAny (model prog w) A (call (.type "datetime.datetime") [.int y t0, .int mo t1, .int d t2, .int h t3, .int mi t4]) Q E s := by
  refine callType_new called_dt newNe_dt (typeCall_dt _) (newCall_dt _) (fun obj => argsInit_dt obj _) entry_dt_new (meets_dt_5 hy hmo hd hh hmi) ⟨hn0, ?_⟩
  exact ⟨fun e => ⟨⟨_, Heap.get?_push_size _ rfl, rfl⟩, h9.1 e⟩, h9.2⟩
theorem meets_dt_6 {y mo d h mi se : Int} {t0 t1 t2 t3 t4 t5 : Tok} (hy : 0 ≤ y ∧ y < 100000) (hmo : 0 ≤ mo ∧ mo < 100000) (hd : 0 ≤ d ∧ d < 100000) (hh : 0 ≤ h ∧ h < 100000) (hmi : 0 ≤ mi ∧ mi < 100000) (hse : 0 ≤ se ∧ se < 100000) : Meets (Builtin.«datetime.datetime.__new__» ⟨[.type "datetime.datetime", .int y t0, .int mo t1, .int d t2, .int h t3, .int mi t4, .int se t5], []⟩)
    (fun A R s => A.handled = none ∧ DtPost [y, mo, d, h, mi, se] s (fun v s' => R (.ok (.ret v)) s') (fun e s' => R (.error e) s')) := by
  refine Meets.of_wp fun prog w A R s hs => ?_
  obtain ⟨hn0, hp⟩ := hs
  exact new6 hy hmo hd hh hmi hse (stamp_any (show A.in1.handled = none from hn0) (by decide) (by omega) (fun e => ⟨_, rfl, hp.1 e⟩) (fun e => hp.2 e))
theorem call_dt_6 {y mo d h mi se : Int} {t0 t1 t2 t3 t4 t5 : Tok} {Q : Value → Shared → Prop} (hy : 0 ≤ y ∧ y < 100000) (hmo : 0 ≤ mo ∧ mo < 100000) (hd : 0 ≤ d ∧ d < 100000) (hh : 0 ≤ h ∧ h < 100000) (hmi : 0 ≤ mi ∧ mi < 100000) (hse : 0 ≤ se ∧ se < 100000) (hn0 : A.handled = none) (h9 : DtPost [y, mo, d, h, mi, se] s Q E) : wpAny (model prog w) A (call (.type "datetime.datetime") [.int y t0, .int mo t1, .int d t2, .int h t3, .int mi t4, .int se t5]) Q E s := by
  refine callType_new called_dt newNe_dt (typeCall_dt _) (newCall_dt _) (fun obj => argsInit_dt obj _) entry_dt_new (meets_dt_6 hy hmo hd hh hmi hse) ⟨hn0, ?_⟩
  exact ⟨fun e => ⟨⟨_, Heap.get?_push_size _ rfl, rfl⟩, h9.1 e⟩, h9.2⟩
theorem call_dt {vs : List Value} {ns : List Int} {Q : Value → Shared → Prop} (hi : IntsAre vs ns) (h1 : 1 ≤ ns.length) (h6 : ns.length ≤ 6) (hb : ∀ n ∈ ns, 0 ≤ n ∧ n < 100000) (hn0 : A.handled = none) (h9 : DtPost ns s Q E) :
    wpAny (model prog w) A (call (.type "datetime.datetime") vs) Q E s := by
  cases hi with
  | nil => exact absurd h1 (by decide)
  | cons a ta hi =>
  cases hi with
  | nil => exact call_dt_1 (hb _ (by simp)) hn0 h9
  | cons b tb hi =>
  cases hi with
  | nil => exact call_dt_2 (hb _ (by simp)) (hb _ (by simp)) hn0 h9
  | cons c tc hi =>
  cases hi with
  | nil => exact call_dt_3 (hb _ (by simp)) (hb _ (by simp)) (hb _ (by simp)) hn0 h9
  | cons d td hi =>
  cases hi with
  | nil => exact call_dt_4 (hb _ (by simp)) (hb _ (by simp)) (hb _ (by simp)) (hb _ (by simp)) hn0 h9
  | cons e te hi =>
  cases hi with
  | nil => exact call_dt_5 (hb _ (by simp)) (hb _ (by simp)) (hb _ (by simp)) (hb _ (by simp)) (hb _ (by simp)) hn0 h9
  | cons f tf hi =>
  cases hi with
  | nil => exact call_dt_6 (hb _ (by simp)) (hb _ (by simp)) (hb _ (by simp)) (hb _ (by simp)) (hb _ (by simp)) (hb _ (by simp)) hn0 h9
  | cons g tg hi => simp only [List.length_cons] at h6; omega
end
end Mine
end
section
open PySem PySem.W PyProof.Rows PySem.Calls PySem.Spec
set_option Elab.async false
set_option maxRecDepth 100000
namespace Mine
theorem slot_dt_ga : Slot "datetime.datetime" "__getattribute__" "object.__getattribute__" :=
  .of (owner := "object") (n := "__getattribute__") (by rw [typeLookup_type, builtinLookup_eq_fast]; kernel_rfl) (by decide +kernel) (by decide +kernel) (by decide +kernel)
    (by first | exact .inl (by decide +kernel) | exact .inr (by decide +kernel)) (by rw [isSubtype_type]; kernel_rfl)
structure DtA (name : Str) (id : String) (b : Builtin) : Prop where
  lk : typeLookup (.type "datetime.datetime") name = pure (some (.builtin id))
  ty : typeOf (.builtin id) = pure (.type "getset_descriptor")
  en : entryFor table id = some b
  sub : isSubtype (.type "datetime.datetime") (.type (".".intercalate (id.cutAt '.').dropLast)) = pure true
section
variable {prog : Program} {w : World} {A : Around} {E : Value → Shared → Prop} {h : Heap} {g : Array GenState} {d : Drawn} {t : Nat} {os : OsState} {a : Addr} {o : Obj} {name : Str} {id : String} {b : Builtin} {v : Value} {t' : Nat}
theorem dt_get {R : Result → Shared → Prop} (D : DtA name id b) (hx : h.get? a = some o) (hc : o.cls = .type "datetime.datetime")
    (hr : ∀ A, codeAny (model prog w) A (.builtin id ⟨[.ref a], []⟩) R ⟨h, g, d, t, os⟩) (hq : Code.quiet (.builtin id ⟨[.ref a], []⟩) = true) :
    codeAny (model prog w) A (.call (.builtin "getset_descriptor.__get__") ⟨[.builtin id, .ref a, .type "datetime.datetime"], []⟩) R ⟨h, g, d, t, os⟩ := by
  have hT : (⟨h, g, d, t, os⟩ : Shared).TypeIs (.ref a) "datetime.datetime" := ⟨_, hx, hc⟩
  have hT5 : (⟨h, g, d, t, os⟩ : Shared).TypeIs (.builtin id) "getset_descriptor" := D.ty
  have f8 := D.sub
  refine codeAny_call_builtin F.slot_gs_get.plain F.entry_gs_get (F.slot_gs_get.check _ _ _ _ _ _ _ _ hT5 (F.args_gs_get _ _ _) ?_)
  repeat (any_goals (first | assumption | wp_step))
  exact ⟨hq, hr _⟩
theorem dt_ga {tk : Tok} {Q : Fin → Shared → Prop} (D : DtA name id b) (hx : h.get? a = some o) (hc : o.cls = .type "datetime.datetime")
    (hr : ∀ A, codeAny (model prog w) A (.builtin id ⟨[.ref a], []⟩) (fun r s' => r = .ok (.ret v) ∧ s' = ⟨h, g, d, t', os⟩) ⟨h, g, d, t, os⟩) (hqt : Code.quiet (.builtin id ⟨[.ref a], []⟩) = true)
    (hq : Q (.done (.ret v)) ⟨h, g, d, t', os⟩) :
    wpAny (model prog w) A (Builtin.«object.__getattribute__» ⟨[.ref a, .str name tk], []⟩) Q E ⟨h, g, d, t, os⟩ := by
  have hT : (⟨h, g, d, t, os⟩ : Shared).TypeIs (.ref a) "datetime.datetime" := ⟨_, hx, hc⟩
  have hT5 : (⟨h, g, d, t, os⟩ : Shared).TypeIs (.builtin id) "getset_descriptor" := D.ty
  have f4 := D.lk
  have f5 := D.ty
  have f6 := F.slot_gs_get.lookup
  have f7 := F.slot_gs_set.lookup
  repeat (any_goals (first | assumption | wp_step))
  refine codeAny_mono (dt_get D hx hc hr hqt) fun r s' hrs => ?_
  obtain ⟨rfl, rfl⟩ := hrs
  repeat (any_goals (first | assumption | wp_step))
theorem dt_getAttr {Q : Value → Shared → Prop} (D : DtA name id b) (hx : h.get? a = some o) (hc : o.cls = .type "datetime.datetime")
    (hr : ∀ A, codeAny (model prog w) A (.builtin id ⟨[.ref a], []⟩) (fun r s' => r = .ok (.ret v) ∧ s' = ⟨h, g, d, t', os⟩) ⟨h, g, d, t + 1, os⟩) (hqt : Code.quiet (.builtin id ⟨[.ref a], []⟩) = true)
    (hv : handedIn v = true) (hq : Q v ⟨h, g, d, t', os⟩) :
    wpAny (model prog w) A (getAttr (.ref a) name true) Q E ⟨h, g, d, t, os⟩ := by
  have hT : (⟨h, g, d, t + 1, os⟩ : Shared).TypeIs (.ref a) "datetime.datetime" := ⟨_, hx, hc⟩
  have hT' : (⟨h, g, d, t', os⟩ : Shared).TypeIs (.ref a) "datetime.datetime" := ⟨_, hx, hc⟩
  have f3 := slot_dt_ga.lookup
  have f4 := slot_dt_ga.bind (.ref a)
  unfold getAttr getAttrBy
  repeat (any_goals (first | assumption | wp_step))
  refine codeAny_call_builtin slot_dt_ga.plain F.entry_object_getattribute (slot_dt_ga.check _ _ _ _ _ _ _ _ hT (F.args_object_getattribute_2 _ _) (dt_ga D hx hc hr hqt ?_))
  exact handed_on hv hq
theorem int_run {vs : Array Value} {i : Nat} {n : Int} {u : Tok} (hi : entryFor table id = some (Builtin._datetime.dtIntAt i)) (hx : h.get? a = some o) (hd : o.data = .fields vs) (hv : vs[i]? = some (.int n u)) :
    ∀ A, codeAny (model prog w) A (.builtin id ⟨[.ref a], []⟩) (fun r s' => r = .ok (.ret (.int n t)) ∧ s' = ⟨h, g, d, t + 1, os⟩) ⟨h, g, d, t, os⟩ := by
  intro A
  refine codeAny_builtin hi ?_
  unfold Builtin._datetime.dtIntAt
  dsimp only
  refine wpAny_bind ?_
  unfold field fieldsOf
  refine wpAny_bind (wpAny_bind (wpAny_load hx ?_))
  rw [hd]
  refine wpAny_pure ?_
  rw [hv]
  refine wpAny_pure ?_
  dsimp only
  unfold retInt
  exact wpAny_bind (wpAny_mkInt (wpAny_pure ⟨rfl, rfl⟩))
theorem tz_run {vs : Array Value} {v : Value} (hx : h.get? a = some o) (hd : o.data = .fields vs) (hv : vs[7]? = some v) :
    ∀ A, codeAny (model prog w) A (.builtin "datetime.datetime.tzinfo" ⟨[.ref a], []⟩) (fun r s' => r = .ok (.ret v) ∧ s' = ⟨h, g, d, t, os⟩) ⟨h, g, d, t, os⟩ := by
  intro A
  refine codeAny_builtin (b := Builtin.«datetime.datetime.tzinfo») (entryFor_of_tree (by kernel_rfl)) ?_
  unfold Builtin.«datetime.datetime.tzinfo»
  dsimp only
  refine wpAny_bind ?_
  unfold field fieldsOf
  refine wpAny_bind (wpAny_bind (wpAny_load hx ?_))
  rw [hd]
  refine wpAny_pure ?_
  rw [hv]
  refine wpAny_pure ?_
  exact wpAny_pure ⟨rfl, rfl⟩
end
section
variable {prog : Program} {w : World} {A : Around} {E : Value → Shared → Prop} {s : Shared} {h₀ : Heap} {L : Addr} {news : List (Addr × Obj)} {x : Addr} {y mo dd hh mi se us : Int} {tz : Value} {Q : Value → Shared → Prop}
theorem dtA_year : DtA "year" "datetime.date.year" Builtin.«datetime.date.year» :=
  ⟨by rw [typeLookup_type, builtinLookup_eq_fast]; kernel_rfl, by show builtinType _ = _; rw [builtinType_eq_fast]; kernel_rfl, entryFor_of_tree (by kernel_rfl), by rw [isSubtype_type]; kernel_rfl⟩
theorem k_dt_year (N : News h₀ L s.heap news) (hm : (x, stampObj y mo dd hh mi se us tz) ∈ news) (hq : Q (.int y (s.toks + 1)) { s with toks := s.toks + 1 + 1 }) : wpAny (model prog w) A (getAttr (.ref x) (Str.ofString "year") true) Q E s := by
  obtain ⟨h, g, d, t, os⟩ := s
  exact dt_getAttr dtA_year (N.get hm) rfl (int_run (i := 0) dtA_year.en (N.get hm) rfl rfl) (Code.quiet_builtin _ (by decide +kernel)) rfl hq
theorem dtA_month : DtA "month" "datetime.date.month" Builtin.«datetime.date.month» :=
  ⟨by rw [typeLookup_type, builtinLookup_eq_fast]; kernel_rfl, by show builtinType _ = _; rw [builtinType_eq_fast]; kernel_rfl, entryFor_of_tree (by kernel_rfl), by rw [isSubtype_type]; kernel_rfl⟩
theorem k_dt_month (N : News h₀ L s.heap news) (hm : (x, stampObj y mo dd hh mi se us tz) ∈ news) (hq : Q (.int mo (s.toks + 1)) { s with toks := s.toks + 1 + 1 }) : wpAny (model prog w) A (getAttr (.ref x) (Str.ofString "month") true) Q E s := by
  obtain ⟨h, g, d, t, os⟩ := s
  exact dt_getAttr dtA_month (N.get hm) rfl (int_run (i := 1) dtA_month.en (N.get hm) rfl rfl) (Code.quiet_builtin _ (by decide +kernel)) rfl hq
theorem dtA_day : DtA "day" "datetime.date.day" Builtin.«datetime.date.day» :=
  ⟨by rw [typeLookup_type, builtinLookup_eq_fast]; kernel_rfl, by show builtinType _ = _; rw [builtinType_eq_fast]; kernel_rfl, entryFor_of_tree (by kernel_rfl), by rw [isSubtype_type]; kernel_rfl⟩
theorem k_dt_day (N : News h₀ L s.heap news) (hm : (x, stampObj y mo dd hh mi se us tz) ∈ news) (hq : Q (.int dd (s.toks + 1)) { s with toks := s.toks + 1 + 1 }) : wpAny (model prog w) A (getAttr (.ref x) (Str.ofString "day") true) Q E s := by
  obtain ⟨h, g, d, t, os⟩ := s
  exact dt_getAttr dtA_day (N.get hm) rfl (int_run (i := 2) dtA_day.en (N.get hm) rfl rfl) (Code.quiet_builtin _ (by decide +kernel)) rfl hq
theorem dtA_hour : DtA "hour" "datetime.datetime.hour" Builtin.«datetime.datetime.hour» :=
  ⟨by rw [typeLookup_type, builtinLookup_eq_fast]; kernel_rfl, by show builtinType _ = _; rw [builtinType_eq_fast]; kernel_rfl, entryFor_of_tree (by kernel_rfl), by rw [isSubtype_type]; kernel_rfl⟩
theorem k_dt_hour (N : News h₀ L s.heap news) (hm : (x, stampObj y mo dd hh mi se us tz) ∈ news) (hq : Q (.int hh (s.toks + 1)) { s with toks := s.toks + 1 + 1 }) : wpAny (model prog w) A (getAttr (.ref x) (Str.ofString "hour") true) Q E s := by
  obtain ⟨h, g, d, t, os⟩ := s
  exact dt_getAttr dtA_hour (N.get hm) rfl (int_run (i := 3) dtA_hour.en (N.get hm) rfl rfl) (Code.quiet_builtin _ (by decide +kernel)) rfl hq
theorem dtA_minute : DtA "minute" "datetime.datetime.minute" Builtin.«datetime.datetime.minute» :=
  ⟨by rw [typeLookup_type, builtinLookup_eq_fast]; kernel_rfl, by show builtinType _ = _; rw [builtinType_eq_fast]; kernel_rfl, entryFor_of_tree (by kernel_rfl), by rw [isSubtype_type]; kernel_rfl⟩
theorem k_dt_minute (N : News h₀ L s.heap news) (hm : (x, stampObj y mo dd hh mi se us tz) ∈ news) (hq : Q (.int mi (s.toks + 1)) { s with toks := s.toks + 1 + 1 }) : wpAny (model prog w) A (getAttr (.ref x) (Str.ofString "minute") true) Q E s := by
  obtain ⟨h, g, d, t, os⟩ := s
  exact dt_getAttr dtA_minute (N.get hm) rfl (int_run (i := 4) dtA_minute.en (N.get hm) rfl rfl) (Code.quiet_builtin _ (by decide +kernel)) rfl hq
theorem dtA_second : DtA "second" "datetime.datetime.second" Builtin.«datetime.datetime.second» :=
  ⟨by rw [typeLookup_type, builtinLookup_eq_fast]; kernel_rfl, by show builtinType _ = _; rw [builtinType_eq_fast]; kernel_rfl, entryFor_of_tree (by kernel_rfl), by rw [isSubtype_type]; kernel_rfl⟩
theorem k_dt_second (N : News h₀ L s.heap news) (hm : (x, stampObj y mo dd hh mi se us tz) ∈ news) (hq : Q (.int se (s.toks + 1)) { s with toks := s.toks + 1 + 1 }) : wpAny (model prog w) A (getAttr (.ref x) (Str.ofString "second") true) Q E s := by
  obtain ⟨h, g, d, t, os⟩ := s
  exact dt_getAttr dtA_second (N.get hm) rfl (int_run (i := 5) dtA_second.en (N.get hm) rfl rfl) (Code.quiet_builtin _ (by decide +kernel)) rfl hq
theorem dtA_microsecond : DtA "microsecond" "datetime.datetime.microsecond" Builtin.«datetime.datetime.microsecond» :=
  ⟨by rw [typeLookup_type, builtinLookup_eq_fast]; kernel_rfl, by show builtinType _ = _; rw [builtinType_eq_fast]; kernel_rfl, entryFor_of_tree (by kernel_rfl), by rw [isSubtype_type]; kernel_rfl⟩
theorem k_dt_microsecond (N : News h₀ L s.heap news) (hm : (x, stampObj y mo dd hh mi se us tz) ∈ news) (hq : Q (.int us (s.toks + 1)) { s with toks := s.toks + 1 + 1 }) : wpAny (model prog w) A (getAttr (.ref x) (Str.ofString "microsecond") true) Q E s := by
  obtain ⟨h, g, d, t, os⟩ := s
  exact dt_getAttr dtA_microsecond (N.get hm) rfl (int_run (i := 6) dtA_microsecond.en (N.get hm) rfl rfl) (Code.quiet_builtin _ (by decide +kernel)) rfl hq
theorem dtA_tzinfo : DtA "tzinfo" "datetime.datetime.tzinfo" Builtin.«datetime.datetime.tzinfo» :=
  ⟨by rw [typeLookup_type, builtinLookup_eq_fast]; kernel_rfl, by show builtinType _ = _; rw [builtinType_eq_fast]; kernel_rfl, entryFor_of_tree (by kernel_rfl), by rw [isSubtype_type]; kernel_rfl⟩
theorem k_dt_tzinfo (N : News h₀ L s.heap news) (hm : (x, stampObj y mo dd hh mi se us tz) ∈ news) (hz : handedIn tz = true) (hq : Q tz { s with toks := s.toks + 1 }) : wpAny (model prog w) A (getAttr (.ref x) (Str.ofString "tzinfo") true) Q E s := by
  obtain ⟨h, g, d, t, os⟩ := s
  exact dt_getAttr dtA_tzinfo (N.get hm) rfl (tz_run (N.get hm) rfl rfl) (Code.quiet_builtin _ (by decide +kernel)) hz hq
end
end Mine
end
section
open PySem PySem.W PyProof.Rows PySem.Calls PySem.Spec
set_option Elab.async false
set_option maxRecDepth 100000
set_option maxHeartbeats 8000000
namespace Mine
/-- the six values of a groupdict, for the numbers of a text -/
def VsOk (vs : List Value) (parts : List Int) : Prop := ∀ i, i < 6 → (i < parts.length → ∃ ws t, vs.getD i .none = .str ws t ∧ PySem.intText? ws = some (parts.getD i 0) ∧ ws.cps.size ≤ 640) ∧ (parts.length ≤ i → vs.getD i .none = .none)
def GdOk (x : Str) (mk : Array (Option Nat)) (lm : Int) (hd : Nat) (parts : List Int) : Prop :=
  ∀ vs : List Value, vs.length = 6 → (∀ i, i < 6 → grp x ((rawInt (0:Nat) :: rawInt hd :: spansOf mk lm).map Builtin.Re.reRawOf).toArray (i + 1) (vs.getD i .none)) → VsOk vs parts
def gdEs (w : World) (vs : List Value) : List DictEntry := ((giEs w [540, 542, 544, 546, 548, 550] [541, 543, 545, 547, 549, 551]).zip vs).map fun p => { p.1 with val := p.2 }
theorem gdEs_keyed (w : World) : ∀ vs : List Value, StrKeyed w (gdEs w vs) := by
  intro vs
  match vs with
  | [] => trivial
  | [a] => exact ⟨⟨_, _, rfl, rfl⟩, trivial⟩
  | [a, b] => exact ⟨⟨_, _, rfl, rfl⟩, ⟨_, _, rfl, rfl⟩, trivial⟩
  | [a, b, c] => exact ⟨⟨_, _, rfl, rfl⟩, ⟨_, _, rfl, rfl⟩, ⟨_, _, rfl, rfl⟩, trivial⟩
  | [a, b, c, d] => exact ⟨⟨_, _, rfl, rfl⟩, ⟨_, _, rfl, rfl⟩, ⟨_, _, rfl, rfl⟩, ⟨_, _, rfl, rfl⟩, trivial⟩
  | [a, b, c, d, e] => exact ⟨⟨_, _, rfl, rfl⟩, ⟨_, _, rfl, rfl⟩, ⟨_, _, rfl, rfl⟩, ⟨_, _, rfl, rfl⟩, ⟨_, _, rfl, rfl⟩, trivial⟩
  | a :: b :: c :: d :: e :: f :: _ => exact ⟨⟨_, _, rfl, rfl⟩, ⟨_, _, rfl, rfl⟩, ⟨_, _, rfl, rfl⟩, ⟨_, _, rfl, rfl⟩, ⟨_, _, rfl, rfl⟩, ⟨_, _, rfl, rfl⟩, trivial⟩
def nm6 : List Str := ["year", "month", "day", "hour", "minute", "second"]
theorem gdEs_find (w : World) (vs : List Value) (hl : vs.length = 6) : ∀ i, i < 6 → findBy Value.isStrOf (gdEs w vs).toArray (nm6.getD i "") = some (vs.getD i .none) := by
  match vs, hl with
  | [a, b, c, d, e, f], _ =>
    intro i hi
    match i, hi with
    | 0, _ => kernel_rfl
    | 1, _ => kernel_rfl
    | 2, _ => kernel_rfl
    | 3, _ => kernel_rfl
    | 4, _ => kernel_rfl
    | 5, _ => kernel_rfl
theorem key_at {w : World} {vs : List Value} (hl : vs.length = 6) {t1 t2 t3 t4 t5 t6 : Tok} {i : Nat} {v : Value}
    (h : [Value.str (Str.ofString "year") t1, .str (Str.ofString "month") t2, .str (Str.ofString "day") t3, .str (Str.ofString "hour") t4, .str (Str.ofString "minute") t5, .str (Str.ofString "second") t6][i]? = some v) :
    i < 6 ∧ ∃ nm t, v = .str nm t ∧ findBy Value.isStrOf (gdEs w vs).toArray nm = some (vs.getD i .none) := by
  have f := gdEs_find w vs hl
  match i with
  | 0 => exact ⟨by decide, _, _, (Option.some.inj h).symm, f 0 (by decide)⟩
  | 1 => exact ⟨by decide, _, _, (Option.some.inj h).symm, f 1 (by decide)⟩
  | 2 => exact ⟨by decide, _, _, (Option.some.inj h).symm, f 2 (by decide)⟩
  | 3 => exact ⟨by decide, _, _, (Option.some.inj h).symm, f 3 (by decide)⟩
  | 4 => exact ⟨by decide, _, _, (Option.some.inj h).symm, f 4 (by decide)⟩
  | 5 => exact ⟨by decide, _, _, (Option.some.inj h).symm, f 5 (by decide)⟩
  | n + 6 => cases h
/-- the groupdict as the ledger holds it -/
structure GdIs (w : World) (vs : List Value) (parts : List Int) : Prop where
  len : vs.length = 6
  ok : VsOk vs parts
section
variable {w : World} {A : Around} {E : Value → Shared → Prop} {s : Shared} {h₀ : Heap} {L : Addr} {m : Str → Option Value} {news : List (Addr × Obj)} {prog : Program}
theorem k_gdp {ma sa : Addr} {x : Str} {t : Tok} {n : Nat} {mk : Array (Option Nat)} {lm li : Int} {hd : Nat} {parts : List Int} {Q : Value → Shared → Prop} (F : Fr h₀ L s.heap m) (N : News h₀ L s.heap news) (X : (K7 w).In h₀)
    (hma : (ma, matchObj 59 x t n li sa) ∈ news) (hsa : (sa, spansObj (rawInt (0:Nat) :: rawInt hd :: spansOf mk lm)) ∈ news) (hx : x.cps.size ≤ 1048576)
    (hsz : ((rawInt (0:Nat) :: rawInt hd :: spansOf mk lm).map Builtin.Re.reRawOf).toArray.size = 14) (G : GdOk x mk lm hd parts)
    (h : ∀ d h' tk' vs, GdIs w vs parts → (∀ p ∈ news, p.1 < d) → Fr h₀ L h' m → News h₀ L h' ((d, dictOf (gdEs w vs) 6) :: news) → Q (.ref d) { s with heap := h', toks := tk' }) :
    wpAny (model prog w) A (call (.builtin "re.Match.groupdict") [.ref ma]) Q E s :=
  k_gd F N X hma hsa hx hsz fun d h' tk' vs hl hg hlt F' N' => h d h' tk' vs ⟨hl, G vs hl hg⟩ hlt F' N'
theorem k_gdi {value slice : Expr} {d : Addr} {vs : List Value} {parts : List Int} {nm : Str} {v : Value} {tk : Tok} {Q : Value → Shared → Prop} (N : News h₀ L s.heap news) (hm : (d, dictOf (gdEs w vs) 6) ∈ news) (_G : GdIs w vs parts)
    (hfind : findBy Value.isStrOf (gdEs w vs).toArray nm = some v) (hv : ∀ a, v ≠ .ref a) (h : Q v { s with toks := s.toks + 1 })
    (hs : subscripted slice false (.ref d) (.str nm tk) = operate [.ref d, .str nm tk] (getItem (.ref d) (.str nm tk)) := by with_unfolding_all rfl) :
    wpAny (model prog w) A (subscriptTail value slice (.ref d) (.str nm tk)) Q E s :=
  k_gdget N hm (gdEs_keyed w vs) hfind hv h hs

def okOf (ns : List Int) : Bool := okStamp (ns.getD 0 0) (ns.getD 1 0) (ns.getD 2 0) (ns.getD 3 0) (ns.getD 4 0) (ns.getD 5 0)
abbrev stampFor (ns : List Int) : Obj := stampObj (ns.getD 0 0) (ns.getD 1 0) (ns.getD 2 0) (ns.getD 3 0) (ns.getD 4 0) (ns.getD 5 0) 0 .none
theorem k_dtc {vs : List Value} {ns : List Int} {Q : Value → Shared → Prop} (F : Fr h₀ L s.heap m) (N : News h₀ L s.heap news) (hi : IntsAre vs ns) (h1 : 1 ≤ ns.length) (h6 : ns.length ≤ 6) (hb : ∀ n ∈ ns, 0 ≤ n ∧ n < 100000) (hn : A.handled = none)
    (hok : 3 ≤ ns.length → okOf ns = true → ∀ a h', Fr h₀ L h' m → News h₀ L h' ((a, stampFor ns) :: news) → (∀ p ∈ news, p.1 < a) → Q (.ref a) { s with heap := h' })
    (hte : ns.length < 3 → ∀ h' tk e, Heap.NewExc s.heap h' e "TypeError" → E (.ref e) { s with heap := h', toks := tk })
    (hve : 3 ≤ ns.length → okOf ns = false → ∀ h' tk e, Heap.NewExc s.heap h' e "ValueError" → E (.ref e) { s with heap := h', toks := tk }) :
    wpAny (model prog w) A (call (.type "datetime.datetime") ([] ++ vs)) Q E s := by
  refine call_dt hi h1 h6 hb hn ?_
  match ns, h1, hok, hte, hve with
  | [a], _, _, hte, _ => exact hte (by simp)
  | [a, b], _, _, hte, _ => exact hte (by simp)
  | a :: b :: c :: r, _, hok, _, hve =>
    exact ⟨fun e => hok (by simp) e _ _ (F.push _) (News.push F N _) (fun p hp => Heap.lt_size (N p hp).1), fun e => hve (by simp) e⟩
end
/-- what _law_told answers where the pattern takes the text -/
def TOut (parts : List Int) (g : Heap) (v : Value) (h : Heap) : Prop :=
  (parts.length < 3 ∧ ∃ t, v = .str (Str.ofString "TypeError") t) ∨ (3 ≤ parts.length ∧ okOf parts = false ∧ ∃ t, v = .str (Str.ofString "ValueError") t) ∨
  (3 ≤ parts.length ∧ okOf parts = true ∧ ∃ l a n, v = .ref l ∧ g.get? l = none ∧ g.get? a = none ∧ h.get? l = some (listOf #[.ref a] n) ∧ h.get? a = some (stampFor parts))
end Mine
end
section
open PySem PySem.W PyProof.Rows PySem.Calls PySem.Spec
set_option Elab.async false
set_option maxRecDepth 100000
set_option maxHeartbeats 8000000
namespace Mine
/-- the walk halts at it -/
def Hold (p : Prop) : Prop := p
theorem hold {p : Prop} (h : Hold p) : p := h
local macro_rules | `(tactic| walk_at "getMethod ref") => `(tactic| (k_here; (with_reducible show wpAny _ _ (getMethod (Value.ref 59) _ _) _ _ _); (rename Fr _ _ _ _ => zF); (rename Frag.In _ _ => zX); k_dflt (refine k_getmatch zF zX ?_)))
local macro_rules | `(tactic| walk_at "call builtin:re.Pattern.match") => `(tactic| (k_here; (rename Fr _ _ _ _ => zF); (rename News _ _ _ _ => zN); (rename Frag.In _ _ => zX); (rename Hit _ _ _ _ _ _ => zH); k_dflt (refine k_match zF zN zX zH (by assumption) (by assumption) ?_); intro ma' sa' h' F' N' l1' l2'))
local macro_rules | `(tactic| walk_at "getMethod ref") => `(tactic| (k_here; (with_reducible show wpAny _ _ (getMethod (Value.ref _) (PySem.Str.ofString "groupdict") _) _ _ _); (rename News _ _ _ _ => zN); k_dflt (refine k_getgd zN (by k_mem) ?_)))
local macro_rules | `(tactic| walk_at "call builtin:re.Match.groupdict") => `(tactic| (k_here; (rename Fr _ _ _ _ => zF); (rename News _ _ _ _ => zN); (rename Frag.In _ _ => zX); k_dflt (refine k_gdp zF zN zX (by k_mem) (by k_mem) (by assumption) (by assumption) (by assumption) ?_); intro d' h' tk' vs' G' l1' F' N'))
local macro_rules | `(tactic| walk_at "eval Name") => `(tactic| (k_here; (with_reducible show wpAny _ _ (eval (Expr.Name _ _) _) _ _ _); (rename Fr _ _ _ _ => zF); (rename MF _ _ _ _ => zM); k_dflt (first | refine ld zF (by with_unfolding_all exact MF.lst zM) ?_ | refine ld zF (by with_unfolding_all exact MF.gd zM) ?_ | refine ld zF (by with_unfolding_all exact MF.aw zM) ?_)))
local macro_rules | `(tactic| walk_at "subscriptTail Name Name ref str") => `(tactic| (k_here; (with_reducible show wpAny _ _ (subscriptTail _ _ (Value.ref _) (Value.str _ _)) _ _ _); (rename News _ _ _ _ => zN); (rename GdIs _ _ _ => zG); k_dflt (refine k_gdi zN (by k_mem) zG (by assumption) (by intro a e; cases e) ?_)))
local macro_rules | `(tactic| walk_at "call type:int") => `(tactic| (k_here; (with_reducible show wpAny _ _ (call (Value.type "int") [Value.str _ _]) _ _ _); k_dflt (refine KIN.call_text (by with_reducible assumption) (by assumption) ?_)))
local macro_rules | `(tactic| walk_at "ItemsRest") => `(tactic| (refine hold ?_))
local macro_rules | `(tactic| walk_at "call ref") => `(tactic| (k_here; refine wpAny_call ?_; (rename Below _ _ _ _ => zB); (rename Fr _ _ _ _ => zF); (rename News _ _ _ _ => zN); (rename Frag.In _ _ => zX); (rename Top _ _ _ _ _ _ => zT); k_dflt (refine' code_def zB zF zX zN zT ?kA ?kF ?kK ?k6 ?k7 ?k8 ?k9 ?kB ?_ ?c2 ?c3 ?c4 ?c5; (case kA => exact rfl); (case kF => exact rfl); (case kK => exact rfl); (case k6 => k_is); (case k7 => k_is); (case k8 => ktr_room); (case k9 => exact BindsTo.of_eq rfl); (case c5 => decide); (case kB => exact locs rfl); (case c2 => exact rfl); (case c3 => exact rfl); (case c4 => exact rfl); k_whole; intro g' L' h' FG' F' N' B' X' T'; (try dsimp only); (try k_lift B'); (try k_fold))))
local macro_rules | `(tactic| walk_at "getAttr ref") => `(tactic| (k_here; (with_reducible show wpAny _ _ (getAttr (Value.ref _) (PySem.Str.ofString "year") true) _ _ _); (rename News _ _ _ _ => zN); k_dflt (refine k_dt_year zN (by k_mem) ?_)))
local macro_rules | `(tactic| walk_at "getAttr ref") => `(tactic| (k_here; (with_reducible show wpAny _ _ (getAttr (Value.ref _) (PySem.Str.ofString "month") true) _ _ _); (rename News _ _ _ _ => zN); k_dflt (refine k_dt_month zN (by k_mem) ?_)))
local macro_rules | `(tactic| walk_at "getAttr ref") => `(tactic| (k_here; (with_reducible show wpAny _ _ (getAttr (Value.ref _) (PySem.Str.ofString "day") true) _ _ _); (rename News _ _ _ _ => zN); k_dflt (refine k_dt_day zN (by k_mem) ?_)))
local macro_rules | `(tactic| walk_at "getAttr ref") => `(tactic| (k_here; (with_reducible show wpAny _ _ (getAttr (Value.ref _) (PySem.Str.ofString "hour") true) _ _ _); (rename News _ _ _ _ => zN); k_dflt (refine k_dt_hour zN (by k_mem) ?_)))
local macro_rules | `(tactic| walk_at "getAttr ref") => `(tactic| (k_here; (with_reducible show wpAny _ _ (getAttr (Value.ref _) (PySem.Str.ofString "minute") true) _ _ _); (rename News _ _ _ _ => zN); k_dflt (refine k_dt_minute zN (by k_mem) ?_)))
local macro_rules | `(tactic| walk_at "getAttr ref") => `(tactic| (k_here; (with_reducible show wpAny _ _ (getAttr (Value.ref _) (PySem.Str.ofString "second") true) _ _ _); (rename News _ _ _ _ => zN); k_dflt (refine k_dt_second zN (by k_mem) ?_)))
local macro_rules | `(tactic| walk_at "getAttr ref") => `(tactic| (k_here; (with_reducible show wpAny _ _ (getAttr (Value.ref _) (PySem.Str.ofString "microsecond") true) _ _ _); (rename News _ _ _ _ => zN); k_dflt (refine k_dt_microsecond zN (by k_mem) ?_)))
local macro_rules | `(tactic| walk_at "getAttr ref") => `(tactic| (k_here; (with_reducible show wpAny _ _ (getAttr (Value.ref _) (PySem.Str.ofString "tzinfo") true) _ _ _); (rename News _ _ _ _ => zN); k_dflt (refine k_dt_tzinfo zN (by k_mem) (by rfl) ?_)))
theorem intsSnoc : ∀ {vs : List Value} {ns : List Int}, IntsAre vs ns → ∀ n t, IntsAre (vs ++ [.int n t]) (ns ++ [n])
  | _, _, .nil, n, t => .cons n t .nil
  | _, _, .cons a ta h, n, t => .cons a ta (intsSnoc h n t)
local macro_rules | `(tactic| walk_at "callWith type:datetime.datetime") => `(tactic| (k_here; (with_reducible show wpAny _ _ (callWith _ (Value.type _) _ (backTo _ (starEach [Expr.Starred _ _] _)) []) _ _ _); k_dflt (refine callWith_Sty ?_)))
local macro_rules | `(tactic| walk_at "StarOf ref") => `(tactic| (k_here; (rename MF _ _ _ _ => zM); (rename Fr _ _ _ _ => zF); (rename News _ _ _ _ => zN); k_dflt (refine star_seq zF zN (by k_mem) rfl rfl (.inl rfl) rfl (by assumption) ?_; intro h' F' N')))
theorem told {w : World} (x : Str) (tn : Tok) (l : List Nat) (mk : Array (Option Nat)) (lm li : Int) (hd : Nat) (parts : List Int) (mg mb : Str → Option Value) (mean : ExcName → Option Value) (loose : List Str)
   (dp un : Nat) (gd : Option (List Code)) (outer : List Env) (base g₀ : Heap) (s : Shared) (R : Result → Shared → Prop) (hg₀ : s.heap = g₀)
    (XB : (hd08.heap_39 w.params).In base) (TB : Top hd08.view_39 loose mean mg mb base)
    (B : Below (arnd dp un gd outer) base outer g₀) (X : (hd08.heap_39 w.params).In g₀) (T : Top hd08.view_39 loose mean mg mb g₀)
    (D : KtsDicts (outer.filterMap (·.frame)) g₀)
    (hit : Hit x l mk lm li hd) (hb : spansBad mk lm = false) (hn : (rawInt (0:Nat) :: rawInt hd :: spansOf mk lm).length ≤ sizeLine)
    (hsz : ((rawInt (0:Nat) :: rawInt hd :: spansOf mk lm).map Builtin.Re.reRawOf).toArray.size = 14) (hG : GdOk x mk lm hd parts)
    (hx : x.cps.size ≤ 1048576) (h1 : 1 ≤ parts.length) (h6 : parts.length ≤ 6) (hpb : ∀ n ∈ parts, 0 ≤ n ∧ n < 100000)
    (hret : ∀ v h' tk g', KtsTurn (outer.filterMap (·.frame)) g₀ g' → (∀ b o, g'.get? b = some o → h'.get? b = some o) → TOut parts g₀ v h' → R (.ok (.ret v)) { s with heap := h', toks := tk })
    (hdp : dp + 20 < recursionLimit) (hu : un + 100 < cLine) :
      codeAny (model PySem.Challenge.rw_ko0126_08.row.prog w) (arnd dp un gd outer) (.call (.ref 73) ⟨[.str x tn], []⟩) R s := by
  w_top off
  subst hg₀
  revert XB X; k_fill; intro XB X
  refine' enter B X T ?k6 ?k7 ?k8 ?k9 ?kB ?_ ?c2 ?c3 ?c4 ?c5
  case k6 => k_is
  case k7 => k_is
  case k8 => ktr_room
  case k9 => exact BindsTo.of_eq rfl
  case c5 => decide
  case kB => exact locs rfl
  case c2 => exact rfl
  case c3 => exact rfl
  case c4 => exact rfl
  k_whole
  intro L' h' F' N'
  obtain ⟨g₀, gens₀, drawn₀, toks₀, os₀⟩ := s
  dsimp only at *
  (try k_fold)
  k_steps
  rename GdIs _ _ _ => G
  refine' loopGo (parts := parts) (tvs := [_, _, _, _, _, _]) (n0 := 0) h6 ?sub ?mf ?done ?step
  case mf => exact ⟨rfl, rfl, rfl⟩
  case sub => k_subL
  case done =>
    intro h tk hD
    obtain ⟨its, n, m, hin, hmf, F, N⟩ := hD
    have hsz' : its.size ≤ sizeLine := by
      have e := IntsAre.length hin
      rw [Array.length_toList] at e
      rw [sizeLine_eq]; omega
    k_steps
    rename Fr _ _ _ _ => zF
    rename News _ _ _ _ => zN
    refine k_dtc zF zN hin h1 h6 hpb rfl ?ok ?te ?ve
    case te =>
      intro h3 h' tk' e' x'
      k_steps
      dsimp only
      k_steps
      rename Fr _ _ _ _ => zF
      rename KtsTurn _ _ _ => zT
      exact hret _ _ _ _ zT zF.keep (.inl ⟨h3, _, rfl⟩)
    case ve =>
      intro h3 ho h' tk' e' x'
      k_steps
      dsimp only
      k_steps
      rename Fr _ _ _ _ => zF
      rename KtsTurn _ _ _ => zT
      exact hret _ _ _ _ zT zF.keep (.inr (.inl ⟨h3, ho, _, rfl⟩))
    case ok =>
      intro h3 ho a' h' F' N' l1'
      k_steps
      rename Fr _ _ _ _ => zF
      rename News _ _ _ _ => zN
      refine hret _ _ _ _ KtsTurn.refl zF.keep (.inr (.inr ⟨h3, ho, _, _, _, rfl, ?_, ?_, zN.get (by k_mem), zN.get (by k_mem)⟩))
      · exact zN.fresh (o := listOf #[.ref _] 0) (by k_mem)
      · exact zN.fresh (o := stampFor parts) (by k_mem)
  case step =>
    intro Q' hQ' v i its n m hv hi hin hmf h tk F
    refine AllObj.cons (fun o' hc' => ?_)
    refine AllObj.nil (fun N' => ?_)
    simp only [List.cons_append, List.nil_append] at N'
    obtain ⟨hi6, nm, t0, rfl, hfind⟩ := key_at (w := w) G.len hv
    have hok := G.ok i hi6
    have hsz' : its.size ≤ sizeLine := by
      have e := IntsAre.length hin
      rw [Array.length_toList, List.length_take] at e
      rw [sizeLine_eq]; omega
    by_cases hlt : i < parts.length
    · obtain ⟨ws, t, hvv, hint, hlen⟩ := hok.1 hlt
      rw [hvv] at hfind
      clear hok hvv
      k_steps
      rename MF _ _ _ _ => hmf
      refine ⟨i + 1, _, _, rfl, hlt, hi6, ?_, ⟨hmf.lst, hmf.gd, hmf.aw⟩, rfl⟩
      rw [Array.toList_push, List.take_succ, List.getElem?_eq_getElem hlt]
      rw [List.getD_eq_getElem?_getD, List.getElem?_eq_getElem hlt]
      exact intsSnoc hin _ _
    · have hvv := hok.2 (Nat.le_of_not_lt hlt)
      rw [hvv] at hfind
      clear hok hvv
      k_steps
      rename Fr _ _ _ _ => zF
      rename News _ _ _ _ => zN
      rename MF _ _ _ _ => hmf
      have ei : i = parts.length := by omega
      rw [ei, List.take_of_length_le (Nat.le_refl _)] at hin
      exact hQ' _ _ ⟨_, _, _, hin, (⟨hmf.lst, hmf.gd, hmf.aw⟩ : MF (fun y => if y = Str.ofString "val" then some Value.none else if y = Str.ofString "key" then some (Value.str nm t0) else m y) _ _ _), zF, fun p hp => zN p (by first | exact hp | exact List.mem_of_mem_tail hp | exact List.mem_cons_of_mem _ hp)⟩
end Mine
end
section
open PySem PySem.Sre
set_option maxRecDepth 100000
set_option Elab.async false
namespace Mine
def Fails (l : List Nat) : Prop := ∃ m', (m0 l).runFor 100 = m' ∧ m'.outcome = some .failed
theorem fails_of {t t' : List Nat} (h : t.length = t'.length) (hs : ∀ p, canon p ((⟨t'⟩ : Array Nat).getD p 0) = canon p ((⟨t⟩ : Array Nat).getD p 0)) (hf : ∃ m', runB 100 (m0 t') = some m' ∧ m'.outcome = some .failed) : Fails t := by
  obtain ⟨m', e, ho⟩ := hf
  exact ⟨_, run_text h hs e, (out_text _ _).trans ho⟩
theorem fails_short {t : List Nat} (h : t.length < 5) : Fails t := fails_of rfl (fun _ => rfl) (m0_short h)
theorem canon_bad {p c : Nat} (h1 : shapeAt p = 48 → isDigit c = false) (h2 : shapeAt p ≠ 48 → c ≠ shapeAt p) (h3 : c ≠ 90) : canon p 0 = canon p c := by
  have z : canon p 0 = 0 := by
    unfold canon
    rw [if_neg (by intro q; exact absurd q.2 (by decide))]
    split
    · rfl
    · split
      · rename_i q; cases q
      · rfl
  rw [z]
  unfold canon
  rw [if_neg (by intro q; rw [h1 q.1] at q; exact absurd q.2 (by decide)), if_neg (by intro q; exact h2 q.2 q.1), if_neg h3]
/-- the law's shape of a sign -/
def shp (c : Nat) : Nat := if isDigit c = true then 57 else c
theorem shp_dig {c : Nat} (h : isDigit c = true) : shp c = 57 := if_pos h
theorem shp_non {c : Nat} (h : isDigit c = false) : shp c = c := if_neg (by rw [h]; decide)
theorem shp_57 {c : Nat} (h : isDigit c = false) : shp c ≠ 57 := by
  rw [shp_non h]
  intro e
  subst e
  exact absurd h (by decide)
theorem shp_sep {c k : Nat} (hk : isDigit k = false) (hc : c ≠ k) (hk57 : k ≠ 57) : shp c ≠ k := by
  unfold shp
  split
  · exact fun e => hk57 e.symm
  · exact hc
def pat (j : Nat) : List Nat := match j with
  | 0 => [57, 57, 57, 57, 90]
  | 1 => [57, 57, 57, 57, 45, 57, 57, 90]
  | 2 => [57, 57, 57, 57, 45, 57, 57, 45, 57, 57, 90]
  | 3 => [57, 57, 57, 57, 45, 57, 57, 45, 57, 57, 84, 57, 57, 90]
  | 4 => [57, 57, 57, 57, 45, 57, 57, 45, 57, 57, 84, 57, 57, 58, 57, 57, 90]
  | 5 => [57, 57, 57, 57, 45, 57, 57, 45, 57, 57, 84, 57, 57, 58, 57, 57, 58, 57, 57, 90]
  | _ => [0]
/-- the law's test: the shape begins with the j-th pattern and Z -/
def EndAt (j : Nat) (l : List Nat) : Prop := (l.map shp).take (pat j).length = pat j
inductive Cls : List Nat → Prop
  | miss {l : List Nat} (run : Fails l) (ne : ∀ j, j < 6 → ¬ EndAt j l) : Cls l
  | hit1 {d0 d1 d2 d3 : Nat} {r : List Nat} (h0 : isDigit d0 = true) (h1 : isDigit d1 = true) (h2 : isDigit d2 = true) (h3 : isDigit d3 = true) : Cls (d0::d1::d2::d3::90::r)
  | hit2 {d0 d1 d2 d3 d5 d6 : Nat} {r : List Nat} (h0 : isDigit d0 = true) (h1 : isDigit d1 = true) (h2 : isDigit d2 = true) (h3 : isDigit d3 = true) (h5 : isDigit d5 = true) (h6 : isDigit d6 = true) : Cls (d0::d1::d2::d3::45::d5::d6::90::r)
  | hit3 {d0 d1 d2 d3 d5 d6 d8 d9 : Nat} {r : List Nat} (h0 : isDigit d0 = true) (h1 : isDigit d1 = true) (h2 : isDigit d2 = true) (h3 : isDigit d3 = true) (h5 : isDigit d5 = true) (h6 : isDigit d6 = true) (h8 : isDigit d8 = true) (h9 : isDigit d9 = true) : Cls (d0::d1::d2::d3::45::d5::d6::45::d8::d9::90::r)
  | hit4 {d0 d1 d2 d3 d5 d6 d8 d9 d11 d12 : Nat} {r : List Nat} (h0 : isDigit d0 = true) (h1 : isDigit d1 = true) (h2 : isDigit d2 = true) (h3 : isDigit d3 = true) (h5 : isDigit d5 = true) (h6 : isDigit d6 = true) (h8 : isDigit d8 = true) (h9 : isDigit d9 = true) (h11 : isDigit d11 = true) (h12 : isDigit d12 = true) : Cls (d0::d1::d2::d3::45::d5::d6::45::d8::d9::84::d11::d12::90::r)
  | hit5 {d0 d1 d2 d3 d5 d6 d8 d9 d11 d12 d14 d15 : Nat} {r : List Nat} (h0 : isDigit d0 = true) (h1 : isDigit d1 = true) (h2 : isDigit d2 = true) (h3 : isDigit d3 = true) (h5 : isDigit d5 = true) (h6 : isDigit d6 = true) (h8 : isDigit d8 = true) (h9 : isDigit d9 = true) (h11 : isDigit d11 = true) (h12 : isDigit d12 = true) (h14 : isDigit d14 = true) (h15 : isDigit d15 = true) : Cls (d0::d1::d2::d3::45::d5::d6::45::d8::d9::84::d11::d12::58::d14::d15::90::r)
  | hit6 {d0 d1 d2 d3 d5 d6 d8 d9 d11 d12 d14 d15 d17 d18 : Nat} {r : List Nat} (h0 : isDigit d0 = true) (h1 : isDigit d1 = true) (h2 : isDigit d2 = true) (h3 : isDigit d3 = true) (h5 : isDigit d5 = true) (h6 : isDigit d6 = true) (h8 : isDigit d8 = true) (h9 : isDigit d9 = true) (h11 : isDigit d11 = true) (h12 : isDigit d12 = true) (h14 : isDigit d14 = true) (h15 : isDigit d15 = true) (h17 : isDigit d17 = true) (h18 : isDigit d18 = true) : Cls (d0::d1::d2::d3::45::d5::d6::45::d8::d9::84::d11::d12::58::d14::d15::58::d17::d18::90::r)
theorem cls_19 {d0 d1 d2 d3 d5 d6 d8 d9 d11 d12 d14 d15 d17 d18 : Nat} (h0 : isDigit d0 = true) (h1 : isDigit d1 = true) (h2 : isDigit d2 = true) (h3 : isDigit d3 = true) (h5 : isDigit d5 = true) (h6 : isDigit d6 = true) (h8 : isDigit d8 = true) (h9 : isDigit d9 = true) (h11 : isDigit d11 = true) (h12 : isDigit d12 = true) (h14 : isDigit d14 = true) (h15 : isDigit d15 = true) (h17 : isDigit d17 = true) (h18 : isDigit d18 = true) : ∀ rest : List Nat, Cls (d0::d1::d2::d3::45::d5::d6::45::d8::d9::84::d11::d12::58::d14::d15::58::d17::d18::rest)
  | [] => .miss (fails_of (t := d0::d1::d2::d3::45::d5::d6::45::d8::d9::84::d11::d12::58::d14::d15::58::d17::d18::[]) (t' := 48::48::48::48::45::48::48::45::48::48::84::48::48::58::48::48::58::48::48::[]) (by simp only [List.length_cons, List.length_nil]) (fun q => match q with
    | 0 => canon_dig rfl h0
    | 1 => canon_dig rfl h1
    | 2 => canon_dig rfl h2
    | 3 => canon_dig rfl h3
    | 4 => rfl
    | 5 => canon_dig rfl h5
    | 6 => canon_dig rfl h6
    | 7 => rfl
    | 8 => canon_dig rfl h8
    | 9 => canon_dig rfl h9
    | 10 => rfl
    | 11 => canon_dig rfl h11
    | 12 => canon_dig rfl h12
    | 13 => rfl
    | 14 => canon_dig rfl h14
    | 15 => canon_dig rfl h15
    | 16 => rfl
    | 17 => canon_dig rfl h17
    | 18 => canon_dig rfl h18
    | n + 19 => rfl) failE_19) (fun j hj hE => by
      match j, hj with
      | 0, _ => simp [EndAt, pat, show shp 45 = 45 from rfl, show shp 84 = 84 from rfl, show shp 58 = 58 from rfl, show shp 90 = 90 from rfl, shp_dig h0, shp_dig h1, shp_dig h2, shp_dig h3, shp_dig h5, shp_dig h6, shp_dig h8, shp_dig h9, shp_dig h11, shp_dig h12, shp_dig h14, shp_dig h15, shp_dig h17, shp_dig h18] at hE
      | 1, _ => simp [EndAt, pat, show shp 45 = 45 from rfl, show shp 84 = 84 from rfl, show shp 58 = 58 from rfl, show shp 90 = 90 from rfl, shp_dig h0, shp_dig h1, shp_dig h2, shp_dig h3, shp_dig h5, shp_dig h6, shp_dig h8, shp_dig h9, shp_dig h11, shp_dig h12, shp_dig h14, shp_dig h15, shp_dig h17, shp_dig h18] at hE
      | 2, _ => simp [EndAt, pat, show shp 45 = 45 from rfl, show shp 84 = 84 from rfl, show shp 58 = 58 from rfl, show shp 90 = 90 from rfl, shp_dig h0, shp_dig h1, shp_dig h2, shp_dig h3, shp_dig h5, shp_dig h6, shp_dig h8, shp_dig h9, shp_dig h11, shp_dig h12, shp_dig h14, shp_dig h15, shp_dig h17, shp_dig h18] at hE
      | 3, _ => simp [EndAt, pat, show shp 45 = 45 from rfl, show shp 84 = 84 from rfl, show shp 58 = 58 from rfl, show shp 90 = 90 from rfl, shp_dig h0, shp_dig h1, shp_dig h2, shp_dig h3, shp_dig h5, shp_dig h6, shp_dig h8, shp_dig h9, shp_dig h11, shp_dig h12, shp_dig h14, shp_dig h15, shp_dig h17, shp_dig h18] at hE
      | 4, _ => simp [EndAt, pat, show shp 45 = 45 from rfl, show shp 84 = 84 from rfl, show shp 58 = 58 from rfl, show shp 90 = 90 from rfl, shp_dig h0, shp_dig h1, shp_dig h2, shp_dig h3, shp_dig h5, shp_dig h6, shp_dig h8, shp_dig h9, shp_dig h11, shp_dig h12, shp_dig h14, shp_dig h15, shp_dig h17, shp_dig h18] at hE
      | 5, _ => simp [EndAt, pat, show shp 45 = 45 from rfl, show shp 84 = 84 from rfl, show shp 58 = 58 from rfl, show shp 90 = 90 from rfl, shp_dig h0, shp_dig h1, shp_dig h2, shp_dig h3, shp_dig h5, shp_dig h6, shp_dig h8, shp_dig h9, shp_dig h11, shp_dig h12, shp_dig h14, shp_dig h15, shp_dig h17, shp_dig h18] at hE
      | n + 6, hj => exact absurd hj (by omega))
  | c :: r => by
    by_cases hz : c = 90
    · subst hz
      exact .hit6 h0 h1 h2 h3 h5 h6 h8 h9 h11 h12 h14 h15 h17 h18
    · exact .miss (fails_of (t := d0::d1::d2::d3::45::d5::d6::45::d8::d9::84::d11::d12::58::d14::d15::58::d17::d18::c::r) (t' := 48::48::48::48::45::48::48::45::48::48::84::48::48::58::48::48::58::48::48::0::r) (by simp only [List.length_cons]) (fun q => match q with
    | 0 => canon_dig rfl h0
    | 1 => canon_dig rfl h1
    | 2 => canon_dig rfl h2
    | 3 => canon_dig rfl h3
    | 4 => rfl
    | 5 => canon_dig rfl h5
    | 6 => canon_dig rfl h6
    | 7 => rfl
    | 8 => canon_dig rfl h8
    | 9 => canon_dig rfl h9
    | 10 => rfl
    | 11 => canon_dig rfl h11
    | 12 => canon_dig rfl h12
    | 13 => rfl
    | 14 => canon_dig rfl h14
    | 15 => canon_dig rfl h15
    | 16 => rfl
    | 17 => canon_dig rfl h17
    | 18 => canon_dig rfl h18
    | 19 => canon_bad (fun e => by cases e) (fun _ => hz) hz
    | n + 20 => rfl) (fail0_19 (r := r))) (fun j hj hE => by
      match j, hj with
      | 0, _ => simp [EndAt, pat, show shp 45 = 45 from rfl, show shp 84 = 84 from rfl, show shp 58 = 58 from rfl, show shp 90 = 90 from rfl, shp_dig h0, shp_dig h1, shp_dig h2, shp_dig h3, shp_dig h5, shp_dig h6, shp_dig h8, shp_dig h9, shp_dig h11, shp_dig h12, shp_dig h14, shp_dig h15, shp_dig h17, shp_dig h18, shp_sep (k := 90) rfl hz (by decide)] at hE
      | 1, _ => simp [EndAt, pat, show shp 45 = 45 from rfl, show shp 84 = 84 from rfl, show shp 58 = 58 from rfl, show shp 90 = 90 from rfl, shp_dig h0, shp_dig h1, shp_dig h2, shp_dig h3, shp_dig h5, shp_dig h6, shp_dig h8, shp_dig h9, shp_dig h11, shp_dig h12, shp_dig h14, shp_dig h15, shp_dig h17, shp_dig h18, shp_sep (k := 90) rfl hz (by decide)] at hE
      | 2, _ => simp [EndAt, pat, show shp 45 = 45 from rfl, show shp 84 = 84 from rfl, show shp 58 = 58 from rfl, show shp 90 = 90 from rfl, shp_dig h0, shp_dig h1, shp_dig h2, shp_dig h3, shp_dig h5, shp_dig h6, shp_dig h8, shp_dig h9, shp_dig h11, shp_dig h12, shp_dig h14, shp_dig h15, shp_dig h17, shp_dig h18, shp_sep (k := 90) rfl hz (by decide)] at hE
      | 3, _ => simp [EndAt, pat, show shp 45 = 45 from rfl, show shp 84 = 84 from rfl, show shp 58 = 58 from rfl, show shp 90 = 90 from rfl, shp_dig h0, shp_dig h1, shp_dig h2, shp_dig h3, shp_dig h5, shp_dig h6, shp_dig h8, shp_dig h9, shp_dig h11, shp_dig h12, shp_dig h14, shp_dig h15, shp_dig h17, shp_dig h18, shp_sep (k := 90) rfl hz (by decide)] at hE
      | 4, _ => simp [EndAt, pat, show shp 45 = 45 from rfl, show shp 84 = 84 from rfl, show shp 58 = 58 from rfl, show shp 90 = 90 from rfl, shp_dig h0, shp_dig h1, shp_dig h2, shp_dig h3, shp_dig h5, shp_dig h6, shp_dig h8, shp_dig h9, shp_dig h11, shp_dig h12, shp_dig h14, shp_dig h15, shp_dig h17, shp_dig h18, shp_sep (k := 90) rfl hz (by decide)] at hE
      | 5, _ => simp [EndAt, pat, show shp 45 = 45 from rfl, show shp 84 = 84 from rfl, show shp 58 = 58 from rfl, show shp 90 = 90 from rfl, shp_dig h0, shp_dig h1, shp_dig h2, shp_dig h3, shp_dig h5, shp_dig h6, shp_dig h8, shp_dig h9, shp_dig h11, shp_dig h12, shp_dig h14, shp_dig h15, shp_dig h17, shp_dig h18, shp_sep (k := 90) rfl hz (by decide)] at hE
      | n + 6, hj => exact absurd hj (by omega))
theorem cls_18 {d0 d1 d2 d3 d5 d6 d8 d9 d11 d12 d14 d15 d17 : Nat} (h0 : isDigit d0 = true) (h1 : isDigit d1 = true) (h2 : isDigit d2 = true) (h3 : isDigit d3 = true) (h5 : isDigit d5 = true) (h6 : isDigit d6 = true) (h8 : isDigit d8 = true) (h9 : isDigit d9 = true) (h11 : isDigit d11 = true) (h12 : isDigit d12 = true) (h14 : isDigit d14 = true) (h15 : isDigit d15 = true) (h17 : isDigit d17 = true) : ∀ rest : List Nat, Cls (d0::d1::d2::d3::45::d5::d6::45::d8::d9::84::d11::d12::58::d14::d15::58::d17::rest)
  | [] => .miss (fails_of (t := d0::d1::d2::d3::45::d5::d6::45::d8::d9::84::d11::d12::58::d14::d15::58::d17::[]) (t' := 48::48::48::48::45::48::48::45::48::48::84::48::48::58::48::48::58::48::[]) (by simp only [List.length_cons, List.length_nil]) (fun q => match q with
    | 0 => canon_dig rfl h0
    | 1 => canon_dig rfl h1
    | 2 => canon_dig rfl h2
    | 3 => canon_dig rfl h3
    | 4 => rfl
    | 5 => canon_dig rfl h5
    | 6 => canon_dig rfl h6
    | 7 => rfl
    | 8 => canon_dig rfl h8
    | 9 => canon_dig rfl h9
    | 10 => rfl
    | 11 => canon_dig rfl h11
    | 12 => canon_dig rfl h12
    | 13 => rfl
    | 14 => canon_dig rfl h14
    | 15 => canon_dig rfl h15
    | 16 => rfl
    | 17 => canon_dig rfl h17
    | n + 18 => rfl) failE_18) (fun j hj hE => by
      match j, hj with
      | 0, _ => simp [EndAt, pat, show shp 45 = 45 from rfl, show shp 84 = 84 from rfl, show shp 58 = 58 from rfl, show shp 90 = 90 from rfl, shp_dig h0, shp_dig h1, shp_dig h2, shp_dig h3, shp_dig h5, shp_dig h6, shp_dig h8, shp_dig h9, shp_dig h11, shp_dig h12, shp_dig h14, shp_dig h15, shp_dig h17] at hE
      | 1, _ => simp [EndAt, pat, show shp 45 = 45 from rfl, show shp 84 = 84 from rfl, show shp 58 = 58 from rfl, show shp 90 = 90 from rfl, shp_dig h0, shp_dig h1, shp_dig h2, shp_dig h3, shp_dig h5, shp_dig h6, shp_dig h8, shp_dig h9, shp_dig h11, shp_dig h12, shp_dig h14, shp_dig h15, shp_dig h17] at hE
      | 2, _ => simp [EndAt, pat, show shp 45 = 45 from rfl, show shp 84 = 84 from rfl, show shp 58 = 58 from rfl, show shp 90 = 90 from rfl, shp_dig h0, shp_dig h1, shp_dig h2, shp_dig h3, shp_dig h5, shp_dig h6, shp_dig h8, shp_dig h9, shp_dig h11, shp_dig h12, shp_dig h14, shp_dig h15, shp_dig h17] at hE
      | 3, _ => simp [EndAt, pat, show shp 45 = 45 from rfl, show shp 84 = 84 from rfl, show shp 58 = 58 from rfl, show shp 90 = 90 from rfl, shp_dig h0, shp_dig h1, shp_dig h2, shp_dig h3, shp_dig h5, shp_dig h6, shp_dig h8, shp_dig h9, shp_dig h11, shp_dig h12, shp_dig h14, shp_dig h15, shp_dig h17] at hE
      | 4, _ => simp [EndAt, pat, show shp 45 = 45 from rfl, show shp 84 = 84 from rfl, show shp 58 = 58 from rfl, show shp 90 = 90 from rfl, shp_dig h0, shp_dig h1, shp_dig h2, shp_dig h3, shp_dig h5, shp_dig h6, shp_dig h8, shp_dig h9, shp_dig h11, shp_dig h12, shp_dig h14, shp_dig h15, shp_dig h17] at hE
      | 5, _ => simp [EndAt, pat, show shp 45 = 45 from rfl, show shp 84 = 84 from rfl, show shp 58 = 58 from rfl, show shp 90 = 90 from rfl, shp_dig h0, shp_dig h1, shp_dig h2, shp_dig h3, shp_dig h5, shp_dig h6, shp_dig h8, shp_dig h9, shp_dig h11, shp_dig h12, shp_dig h14, shp_dig h15, shp_dig h17] at hE
      | n + 6, hj => exact absurd hj (by omega))
  | c :: r => by
    by_cases hc : isDigit c = true
    · exact cls_19 h0 h1 h2 h3 h5 h6 h8 h9 h11 h12 h14 h15 h17 hc r
    · have hc' : isDigit c = false := by simpa using hc
      by_cases hz : c = 90
      · subst hz
        exact .miss (fails_of (t := d0::d1::d2::d3::45::d5::d6::45::d8::d9::84::d11::d12::58::d14::d15::58::d17::90::r) (t' := 48::48::48::48::45::48::48::45::48::48::84::48::48::58::48::48::58::48::90::r) (by simp only [List.length_cons]) (fun q => match q with
    | 0 => canon_dig rfl h0
    | 1 => canon_dig rfl h1
    | 2 => canon_dig rfl h2
    | 3 => canon_dig rfl h3
    | 4 => rfl
    | 5 => canon_dig rfl h5
    | 6 => canon_dig rfl h6
    | 7 => rfl
    | 8 => canon_dig rfl h8
    | 9 => canon_dig rfl h9
    | 10 => rfl
    | 11 => canon_dig rfl h11
    | 12 => canon_dig rfl h12
    | 13 => rfl
    | 14 => canon_dig rfl h14
    | 15 => canon_dig rfl h15
    | 16 => rfl
    | 17 => canon_dig rfl h17
    | n + 18 => rfl) (failZ_18 (r := r))) (fun j hj hE => by
      match j, hj with
      | 0, _ => simp [EndAt, pat, show shp 45 = 45 from rfl, show shp 84 = 84 from rfl, show shp 58 = 58 from rfl, show shp 90 = 90 from rfl, shp_dig h0, shp_dig h1, shp_dig h2, shp_dig h3, shp_dig h5, shp_dig h6, shp_dig h8, shp_dig h9, shp_dig h11, shp_dig h12, shp_dig h14, shp_dig h15, shp_dig h17] at hE
      | 1, _ => simp [EndAt, pat, show shp 45 = 45 from rfl, show shp 84 = 84 from rfl, show shp 58 = 58 from rfl, show shp 90 = 90 from rfl, shp_dig h0, shp_dig h1, shp_dig h2, shp_dig h3, shp_dig h5, shp_dig h6, shp_dig h8, shp_dig h9, shp_dig h11, shp_dig h12, shp_dig h14, shp_dig h15, shp_dig h17] at hE
      | 2, _ => simp [EndAt, pat, show shp 45 = 45 from rfl, show shp 84 = 84 from rfl, show shp 58 = 58 from rfl, show shp 90 = 90 from rfl, shp_dig h0, shp_dig h1, shp_dig h2, shp_dig h3, shp_dig h5, shp_dig h6, shp_dig h8, shp_dig h9, shp_dig h11, shp_dig h12, shp_dig h14, shp_dig h15, shp_dig h17] at hE
      | 3, _ => simp [EndAt, pat, show shp 45 = 45 from rfl, show shp 84 = 84 from rfl, show shp 58 = 58 from rfl, show shp 90 = 90 from rfl, shp_dig h0, shp_dig h1, shp_dig h2, shp_dig h3, shp_dig h5, shp_dig h6, shp_dig h8, shp_dig h9, shp_dig h11, shp_dig h12, shp_dig h14, shp_dig h15, shp_dig h17] at hE
      | 4, _ => simp [EndAt, pat, show shp 45 = 45 from rfl, show shp 84 = 84 from rfl, show shp 58 = 58 from rfl, show shp 90 = 90 from rfl, shp_dig h0, shp_dig h1, shp_dig h2, shp_dig h3, shp_dig h5, shp_dig h6, shp_dig h8, shp_dig h9, shp_dig h11, shp_dig h12, shp_dig h14, shp_dig h15, shp_dig h17] at hE
      | 5, _ => simp [EndAt, pat, show shp 45 = 45 from rfl, show shp 84 = 84 from rfl, show shp 58 = 58 from rfl, show shp 90 = 90 from rfl, shp_dig h0, shp_dig h1, shp_dig h2, shp_dig h3, shp_dig h5, shp_dig h6, shp_dig h8, shp_dig h9, shp_dig h11, shp_dig h12, shp_dig h14, shp_dig h15, shp_dig h17] at hE
      | n + 6, hj => exact absurd hj (by omega))
      · exact .miss (fails_of (t := d0::d1::d2::d3::45::d5::d6::45::d8::d9::84::d11::d12::58::d14::d15::58::d17::c::r) (t' := 48::48::48::48::45::48::48::45::48::48::84::48::48::58::48::48::58::48::0::r) (by simp only [List.length_cons]) (fun q => match q with
    | 0 => canon_dig rfl h0
    | 1 => canon_dig rfl h1
    | 2 => canon_dig rfl h2
    | 3 => canon_dig rfl h3
    | 4 => rfl
    | 5 => canon_dig rfl h5
    | 6 => canon_dig rfl h6
    | 7 => rfl
    | 8 => canon_dig rfl h8
    | 9 => canon_dig rfl h9
    | 10 => rfl
    | 11 => canon_dig rfl h11
    | 12 => canon_dig rfl h12
    | 13 => rfl
    | 14 => canon_dig rfl h14
    | 15 => canon_dig rfl h15
    | 16 => rfl
    | 17 => canon_dig rfl h17
    | 18 => canon_bad (fun _ => hc') (fun e => absurd rfl e) hz
    | n + 19 => rfl) (fail0_18 (r := r))) (fun j hj hE => by
      match j, hj with
      | 0, _ => simp [EndAt, pat, show shp 45 = 45 from rfl, show shp 84 = 84 from rfl, show shp 58 = 58 from rfl, show shp 90 = 90 from rfl, shp_dig h0, shp_dig h1, shp_dig h2, shp_dig h3, shp_dig h5, shp_dig h6, shp_dig h8, shp_dig h9, shp_dig h11, shp_dig h12, shp_dig h14, shp_dig h15, shp_dig h17, shp_57 hc'] at hE
      | 1, _ => simp [EndAt, pat, show shp 45 = 45 from rfl, show shp 84 = 84 from rfl, show shp 58 = 58 from rfl, show shp 90 = 90 from rfl, shp_dig h0, shp_dig h1, shp_dig h2, shp_dig h3, shp_dig h5, shp_dig h6, shp_dig h8, shp_dig h9, shp_dig h11, shp_dig h12, shp_dig h14, shp_dig h15, shp_dig h17, shp_57 hc'] at hE
      | 2, _ => simp [EndAt, pat, show shp 45 = 45 from rfl, show shp 84 = 84 from rfl, show shp 58 = 58 from rfl, show shp 90 = 90 from rfl, shp_dig h0, shp_dig h1, shp_dig h2, shp_dig h3, shp_dig h5, shp_dig h6, shp_dig h8, shp_dig h9, shp_dig h11, shp_dig h12, shp_dig h14, shp_dig h15, shp_dig h17, shp_57 hc'] at hE
      | 3, _ => simp [EndAt, pat, show shp 45 = 45 from rfl, show shp 84 = 84 from rfl, show shp 58 = 58 from rfl, show shp 90 = 90 from rfl, shp_dig h0, shp_dig h1, shp_dig h2, shp_dig h3, shp_dig h5, shp_dig h6, shp_dig h8, shp_dig h9, shp_dig h11, shp_dig h12, shp_dig h14, shp_dig h15, shp_dig h17, shp_57 hc'] at hE
      | 4, _ => simp [EndAt, pat, show shp 45 = 45 from rfl, show shp 84 = 84 from rfl, show shp 58 = 58 from rfl, show shp 90 = 90 from rfl, shp_dig h0, shp_dig h1, shp_dig h2, shp_dig h3, shp_dig h5, shp_dig h6, shp_dig h8, shp_dig h9, shp_dig h11, shp_dig h12, shp_dig h14, shp_dig h15, shp_dig h17, shp_57 hc'] at hE
      | 5, _ => simp [EndAt, pat, show shp 45 = 45 from rfl, show shp 84 = 84 from rfl, show shp 58 = 58 from rfl, show shp 90 = 90 from rfl, shp_dig h0, shp_dig h1, shp_dig h2, shp_dig h3, shp_dig h5, shp_dig h6, shp_dig h8, shp_dig h9, shp_dig h11, shp_dig h12, shp_dig h14, shp_dig h15, shp_dig h17, shp_57 hc'] at hE
      | n + 6, hj => exact absurd hj (by omega))
theorem cls_17 {d0 d1 d2 d3 d5 d6 d8 d9 d11 d12 d14 d15 : Nat} (h0 : isDigit d0 = true) (h1 : isDigit d1 = true) (h2 : isDigit d2 = true) (h3 : isDigit d3 = true) (h5 : isDigit d5 = true) (h6 : isDigit d6 = true) (h8 : isDigit d8 = true) (h9 : isDigit d9 = true) (h11 : isDigit d11 = true) (h12 : isDigit d12 = true) (h14 : isDigit d14 = true) (h15 : isDigit d15 = true) : ∀ rest : List Nat, Cls (d0::d1::d2::d3::45::d5::d6::45::d8::d9::84::d11::d12::58::d14::d15::58::rest)
  | [] => .miss (fails_of (t := d0::d1::d2::d3::45::d5::d6::45::d8::d9::84::d11::d12::58::d14::d15::58::[]) (t' := 48::48::48::48::45::48::48::45::48::48::84::48::48::58::48::48::58::[]) (by simp only [List.length_cons, List.length_nil]) (fun q => match q with
    | 0 => canon_dig rfl h0
    | 1 => canon_dig rfl h1
    | 2 => canon_dig rfl h2
    | 3 => canon_dig rfl h3
    | 4 => rfl
    | 5 => canon_dig rfl h5
    | 6 => canon_dig rfl h6
    | 7 => rfl
    | 8 => canon_dig rfl h8
    | 9 => canon_dig rfl h9
    | 10 => rfl
    | 11 => canon_dig rfl h11
    | 12 => canon_dig rfl h12
    | 13 => rfl
    | 14 => canon_dig rfl h14
    | 15 => canon_dig rfl h15
    | 16 => rfl
    | n + 17 => rfl) failE_17) (fun j hj hE => by
      match j, hj with
      | 0, _ => simp [EndAt, pat, show shp 45 = 45 from rfl, show shp 84 = 84 from rfl, show shp 58 = 58 from rfl, show shp 90 = 90 from rfl, shp_dig h0, shp_dig h1, shp_dig h2, shp_dig h3, shp_dig h5, shp_dig h6, shp_dig h8, shp_dig h9, shp_dig h11, shp_dig h12, shp_dig h14, shp_dig h15] at hE
      | 1, _ => simp [EndAt, pat, show shp 45 = 45 from rfl, show shp 84 = 84 from rfl, show shp 58 = 58 from rfl, show shp 90 = 90 from rfl, shp_dig h0, shp_dig h1, shp_dig h2, shp_dig h3, shp_dig h5, shp_dig h6, shp_dig h8, shp_dig h9, shp_dig h11, shp_dig h12, shp_dig h14, shp_dig h15] at hE
      | 2, _ => simp [EndAt, pat, show shp 45 = 45 from rfl, show shp 84 = 84 from rfl, show shp 58 = 58 from rfl, show shp 90 = 90 from rfl, shp_dig h0, shp_dig h1, shp_dig h2, shp_dig h3, shp_dig h5, shp_dig h6, shp_dig h8, shp_dig h9, shp_dig h11, shp_dig h12, shp_dig h14, shp_dig h15] at hE
      | 3, _ => simp [EndAt, pat, show shp 45 = 45 from rfl, show shp 84 = 84 from rfl, show shp 58 = 58 from rfl, show shp 90 = 90 from rfl, shp_dig h0, shp_dig h1, shp_dig h2, shp_dig h3, shp_dig h5, shp_dig h6, shp_dig h8, shp_dig h9, shp_dig h11, shp_dig h12, shp_dig h14, shp_dig h15] at hE
      | 4, _ => simp [EndAt, pat, show shp 45 = 45 from rfl, show shp 84 = 84 from rfl, show shp 58 = 58 from rfl, show shp 90 = 90 from rfl, shp_dig h0, shp_dig h1, shp_dig h2, shp_dig h3, shp_dig h5, shp_dig h6, shp_dig h8, shp_dig h9, shp_dig h11, shp_dig h12, shp_dig h14, shp_dig h15] at hE
      | 5, _ => simp [EndAt, pat, show shp 45 = 45 from rfl, show shp 84 = 84 from rfl, show shp 58 = 58 from rfl, show shp 90 = 90 from rfl, shp_dig h0, shp_dig h1, shp_dig h2, shp_dig h3, shp_dig h5, shp_dig h6, shp_dig h8, shp_dig h9, shp_dig h11, shp_dig h12, shp_dig h14, shp_dig h15] at hE
      | n + 6, hj => exact absurd hj (by omega))
  | c :: r => by
    by_cases hc : isDigit c = true
    · exact cls_18 h0 h1 h2 h3 h5 h6 h8 h9 h11 h12 h14 h15 hc r
    · have hc' : isDigit c = false := by simpa using hc
      by_cases hz : c = 90
      · subst hz
        exact .miss (fails_of (t := d0::d1::d2::d3::45::d5::d6::45::d8::d9::84::d11::d12::58::d14::d15::58::90::r) (t' := 48::48::48::48::45::48::48::45::48::48::84::48::48::58::48::48::58::90::r) (by simp only [List.length_cons]) (fun q => match q with
    | 0 => canon_dig rfl h0
    | 1 => canon_dig rfl h1
    | 2 => canon_dig rfl h2
    | 3 => canon_dig rfl h3
    | 4 => rfl
    | 5 => canon_dig rfl h5
    | 6 => canon_dig rfl h6
    | 7 => rfl
    | 8 => canon_dig rfl h8
    | 9 => canon_dig rfl h9
    | 10 => rfl
    | 11 => canon_dig rfl h11
    | 12 => canon_dig rfl h12
    | 13 => rfl
    | 14 => canon_dig rfl h14
    | 15 => canon_dig rfl h15
    | 16 => rfl
    | n + 17 => rfl) (failZ_17 (r := r))) (fun j hj hE => by
      match j, hj with
      | 0, _ => simp [EndAt, pat, show shp 45 = 45 from rfl, show shp 84 = 84 from rfl, show shp 58 = 58 from rfl, show shp 90 = 90 from rfl, shp_dig h0, shp_dig h1, shp_dig h2, shp_dig h3, shp_dig h5, shp_dig h6, shp_dig h8, shp_dig h9, shp_dig h11, shp_dig h12, shp_dig h14, shp_dig h15] at hE
      | 1, _ => simp [EndAt, pat, show shp 45 = 45 from rfl, show shp 84 = 84 from rfl, show shp 58 = 58 from rfl, show shp 90 = 90 from rfl, shp_dig h0, shp_dig h1, shp_dig h2, shp_dig h3, shp_dig h5, shp_dig h6, shp_dig h8, shp_dig h9, shp_dig h11, shp_dig h12, shp_dig h14, shp_dig h15] at hE
      | 2, _ => simp [EndAt, pat, show shp 45 = 45 from rfl, show shp 84 = 84 from rfl, show shp 58 = 58 from rfl, show shp 90 = 90 from rfl, shp_dig h0, shp_dig h1, shp_dig h2, shp_dig h3, shp_dig h5, shp_dig h6, shp_dig h8, shp_dig h9, shp_dig h11, shp_dig h12, shp_dig h14, shp_dig h15] at hE
      | 3, _ => simp [EndAt, pat, show shp 45 = 45 from rfl, show shp 84 = 84 from rfl, show shp 58 = 58 from rfl, show shp 90 = 90 from rfl, shp_dig h0, shp_dig h1, shp_dig h2, shp_dig h3, shp_dig h5, shp_dig h6, shp_dig h8, shp_dig h9, shp_dig h11, shp_dig h12, shp_dig h14, shp_dig h15] at hE
      | 4, _ => simp [EndAt, pat, show shp 45 = 45 from rfl, show shp 84 = 84 from rfl, show shp 58 = 58 from rfl, show shp 90 = 90 from rfl, shp_dig h0, shp_dig h1, shp_dig h2, shp_dig h3, shp_dig h5, shp_dig h6, shp_dig h8, shp_dig h9, shp_dig h11, shp_dig h12, shp_dig h14, shp_dig h15] at hE
      | 5, _ => simp [EndAt, pat, show shp 45 = 45 from rfl, show shp 84 = 84 from rfl, show shp 58 = 58 from rfl, show shp 90 = 90 from rfl, shp_dig h0, shp_dig h1, shp_dig h2, shp_dig h3, shp_dig h5, shp_dig h6, shp_dig h8, shp_dig h9, shp_dig h11, shp_dig h12, shp_dig h14, shp_dig h15] at hE
      | n + 6, hj => exact absurd hj (by omega))
      · exact .miss (fails_of (t := d0::d1::d2::d3::45::d5::d6::45::d8::d9::84::d11::d12::58::d14::d15::58::c::r) (t' := 48::48::48::48::45::48::48::45::48::48::84::48::48::58::48::48::58::0::r) (by simp only [List.length_cons]) (fun q => match q with
    | 0 => canon_dig rfl h0
    | 1 => canon_dig rfl h1
    | 2 => canon_dig rfl h2
    | 3 => canon_dig rfl h3
    | 4 => rfl
    | 5 => canon_dig rfl h5
    | 6 => canon_dig rfl h6
    | 7 => rfl
    | 8 => canon_dig rfl h8
    | 9 => canon_dig rfl h9
    | 10 => rfl
    | 11 => canon_dig rfl h11
    | 12 => canon_dig rfl h12
    | 13 => rfl
    | 14 => canon_dig rfl h14
    | 15 => canon_dig rfl h15
    | 16 => rfl
    | 17 => canon_bad (fun _ => hc') (fun e => absurd rfl e) hz
    | n + 18 => rfl) (fail0_17 (r := r))) (fun j hj hE => by
      match j, hj with
      | 0, _ => simp [EndAt, pat, show shp 45 = 45 from rfl, show shp 84 = 84 from rfl, show shp 58 = 58 from rfl, show shp 90 = 90 from rfl, shp_dig h0, shp_dig h1, shp_dig h2, shp_dig h3, shp_dig h5, shp_dig h6, shp_dig h8, shp_dig h9, shp_dig h11, shp_dig h12, shp_dig h14, shp_dig h15, shp_57 hc'] at hE
      | 1, _ => simp [EndAt, pat, show shp 45 = 45 from rfl, show shp 84 = 84 from rfl, show shp 58 = 58 from rfl, show shp 90 = 90 from rfl, shp_dig h0, shp_dig h1, shp_dig h2, shp_dig h3, shp_dig h5, shp_dig h6, shp_dig h8, shp_dig h9, shp_dig h11, shp_dig h12, shp_dig h14, shp_dig h15, shp_57 hc'] at hE
      | 2, _ => simp [EndAt, pat, show shp 45 = 45 from rfl, show shp 84 = 84 from rfl, show shp 58 = 58 from rfl, show shp 90 = 90 from rfl, shp_dig h0, shp_dig h1, shp_dig h2, shp_dig h3, shp_dig h5, shp_dig h6, shp_dig h8, shp_dig h9, shp_dig h11, shp_dig h12, shp_dig h14, shp_dig h15, shp_57 hc'] at hE
      | 3, _ => simp [EndAt, pat, show shp 45 = 45 from rfl, show shp 84 = 84 from rfl, show shp 58 = 58 from rfl, show shp 90 = 90 from rfl, shp_dig h0, shp_dig h1, shp_dig h2, shp_dig h3, shp_dig h5, shp_dig h6, shp_dig h8, shp_dig h9, shp_dig h11, shp_dig h12, shp_dig h14, shp_dig h15, shp_57 hc'] at hE
      | 4, _ => simp [EndAt, pat, show shp 45 = 45 from rfl, show shp 84 = 84 from rfl, show shp 58 = 58 from rfl, show shp 90 = 90 from rfl, shp_dig h0, shp_dig h1, shp_dig h2, shp_dig h3, shp_dig h5, shp_dig h6, shp_dig h8, shp_dig h9, shp_dig h11, shp_dig h12, shp_dig h14, shp_dig h15, shp_57 hc'] at hE
      | 5, _ => simp [EndAt, pat, show shp 45 = 45 from rfl, show shp 84 = 84 from rfl, show shp 58 = 58 from rfl, show shp 90 = 90 from rfl, shp_dig h0, shp_dig h1, shp_dig h2, shp_dig h3, shp_dig h5, shp_dig h6, shp_dig h8, shp_dig h9, shp_dig h11, shp_dig h12, shp_dig h14, shp_dig h15, shp_57 hc'] at hE
      | n + 6, hj => exact absurd hj (by omega))
theorem cls_16 {d0 d1 d2 d3 d5 d6 d8 d9 d11 d12 d14 d15 : Nat} (h0 : isDigit d0 = true) (h1 : isDigit d1 = true) (h2 : isDigit d2 = true) (h3 : isDigit d3 = true) (h5 : isDigit d5 = true) (h6 : isDigit d6 = true) (h8 : isDigit d8 = true) (h9 : isDigit d9 = true) (h11 : isDigit d11 = true) (h12 : isDigit d12 = true) (h14 : isDigit d14 = true) (h15 : isDigit d15 = true) : ∀ rest : List Nat, Cls (d0::d1::d2::d3::45::d5::d6::45::d8::d9::84::d11::d12::58::d14::d15::rest)
  | [] => .miss (fails_of (t := d0::d1::d2::d3::45::d5::d6::45::d8::d9::84::d11::d12::58::d14::d15::[]) (t' := 48::48::48::48::45::48::48::45::48::48::84::48::48::58::48::48::[]) (by simp only [List.length_cons, List.length_nil]) (fun q => match q with
    | 0 => canon_dig rfl h0
    | 1 => canon_dig rfl h1
    | 2 => canon_dig rfl h2
    | 3 => canon_dig rfl h3
    | 4 => rfl
    | 5 => canon_dig rfl h5
    | 6 => canon_dig rfl h6
    | 7 => rfl
    | 8 => canon_dig rfl h8
    | 9 => canon_dig rfl h9
    | 10 => rfl
    | 11 => canon_dig rfl h11
    | 12 => canon_dig rfl h12
    | 13 => rfl
    | 14 => canon_dig rfl h14
    | 15 => canon_dig rfl h15
    | n + 16 => rfl) failE_16) (fun j hj hE => by
      match j, hj with
      | 0, _ => simp [EndAt, pat, show shp 45 = 45 from rfl, show shp 84 = 84 from rfl, show shp 58 = 58 from rfl, show shp 90 = 90 from rfl, shp_dig h0, shp_dig h1, shp_dig h2, shp_dig h3, shp_dig h5, shp_dig h6, shp_dig h8, shp_dig h9, shp_dig h11, shp_dig h12, shp_dig h14, shp_dig h15] at hE
      | 1, _ => simp [EndAt, pat, show shp 45 = 45 from rfl, show shp 84 = 84 from rfl, show shp 58 = 58 from rfl, show shp 90 = 90 from rfl, shp_dig h0, shp_dig h1, shp_dig h2, shp_dig h3, shp_dig h5, shp_dig h6, shp_dig h8, shp_dig h9, shp_dig h11, shp_dig h12, shp_dig h14, shp_dig h15] at hE
      | 2, _ => simp [EndAt, pat, show shp 45 = 45 from rfl, show shp 84 = 84 from rfl, show shp 58 = 58 from rfl, show shp 90 = 90 from rfl, shp_dig h0, shp_dig h1, shp_dig h2, shp_dig h3, shp_dig h5, shp_dig h6, shp_dig h8, shp_dig h9, shp_dig h11, shp_dig h12, shp_dig h14, shp_dig h15] at hE
      | 3, _ => simp [EndAt, pat, show shp 45 = 45 from rfl, show shp 84 = 84 from rfl, show shp 58 = 58 from rfl, show shp 90 = 90 from rfl, shp_dig h0, shp_dig h1, shp_dig h2, shp_dig h3, shp_dig h5, shp_dig h6, shp_dig h8, shp_dig h9, shp_dig h11, shp_dig h12, shp_dig h14, shp_dig h15] at hE
      | 4, _ => simp [EndAt, pat, show shp 45 = 45 from rfl, show shp 84 = 84 from rfl, show shp 58 = 58 from rfl, show shp 90 = 90 from rfl, shp_dig h0, shp_dig h1, shp_dig h2, shp_dig h3, shp_dig h5, shp_dig h6, shp_dig h8, shp_dig h9, shp_dig h11, shp_dig h12, shp_dig h14, shp_dig h15] at hE
      | 5, _ => simp [EndAt, pat, show shp 45 = 45 from rfl, show shp 84 = 84 from rfl, show shp 58 = 58 from rfl, show shp 90 = 90 from rfl, shp_dig h0, shp_dig h1, shp_dig h2, shp_dig h3, shp_dig h5, shp_dig h6, shp_dig h8, shp_dig h9, shp_dig h11, shp_dig h12, shp_dig h14, shp_dig h15] at hE
      | n + 6, hj => exact absurd hj (by omega))
  | c :: r => by
    by_cases hc : c = 58
    · subst hc
      exact cls_17 h0 h1 h2 h3 h5 h6 h8 h9 h11 h12 h14 h15 r
    · by_cases hz : c = 90
      · subst hz
        exact .hit5 h0 h1 h2 h3 h5 h6 h8 h9 h11 h12 h14 h15
      · exact .miss (fails_of (t := d0::d1::d2::d3::45::d5::d6::45::d8::d9::84::d11::d12::58::d14::d15::c::r) (t' := 48::48::48::48::45::48::48::45::48::48::84::48::48::58::48::48::0::r) (by simp only [List.length_cons]) (fun q => match q with
    | 0 => canon_dig rfl h0
    | 1 => canon_dig rfl h1
    | 2 => canon_dig rfl h2
    | 3 => canon_dig rfl h3
    | 4 => rfl
    | 5 => canon_dig rfl h5
    | 6 => canon_dig rfl h6
    | 7 => rfl
    | 8 => canon_dig rfl h8
    | 9 => canon_dig rfl h9
    | 10 => rfl
    | 11 => canon_dig rfl h11
    | 12 => canon_dig rfl h12
    | 13 => rfl
    | 14 => canon_dig rfl h14
    | 15 => canon_dig rfl h15
    | 16 => canon_bad (fun e => by cases e) (fun _ => hc) hz
    | n + 17 => rfl) (fail0_16 (r := r))) (fun j hj hE => by
      match j, hj with
      | 0, _ => simp [EndAt, pat, show shp 45 = 45 from rfl, show shp 84 = 84 from rfl, show shp 58 = 58 from rfl, show shp 90 = 90 from rfl, shp_dig h0, shp_dig h1, shp_dig h2, shp_dig h3, shp_dig h5, shp_dig h6, shp_dig h8, shp_dig h9, shp_dig h11, shp_dig h12, shp_dig h14, shp_dig h15, shp_sep (k := 90) rfl hz (by decide), shp_sep (k := 58) rfl hc (by decide)] at hE
      | 1, _ => simp [EndAt, pat, show shp 45 = 45 from rfl, show shp 84 = 84 from rfl, show shp 58 = 58 from rfl, show shp 90 = 90 from rfl, shp_dig h0, shp_dig h1, shp_dig h2, shp_dig h3, shp_dig h5, shp_dig h6, shp_dig h8, shp_dig h9, shp_dig h11, shp_dig h12, shp_dig h14, shp_dig h15, shp_sep (k := 90) rfl hz (by decide), shp_sep (k := 58) rfl hc (by decide)] at hE
      | 2, _ => simp [EndAt, pat, show shp 45 = 45 from rfl, show shp 84 = 84 from rfl, show shp 58 = 58 from rfl, show shp 90 = 90 from rfl, shp_dig h0, shp_dig h1, shp_dig h2, shp_dig h3, shp_dig h5, shp_dig h6, shp_dig h8, shp_dig h9, shp_dig h11, shp_dig h12, shp_dig h14, shp_dig h15, shp_sep (k := 90) rfl hz (by decide), shp_sep (k := 58) rfl hc (by decide)] at hE
      | 3, _ => simp [EndAt, pat, show shp 45 = 45 from rfl, show shp 84 = 84 from rfl, show shp 58 = 58 from rfl, show shp 90 = 90 from rfl, shp_dig h0, shp_dig h1, shp_dig h2, shp_dig h3, shp_dig h5, shp_dig h6, shp_dig h8, shp_dig h9, shp_dig h11, shp_dig h12, shp_dig h14, shp_dig h15, shp_sep (k := 90) rfl hz (by decide), shp_sep (k := 58) rfl hc (by decide)] at hE
      | 4, _ => simp [EndAt, pat, show shp 45 = 45 from rfl, show shp 84 = 84 from rfl, show shp 58 = 58 from rfl, show shp 90 = 90 from rfl, shp_dig h0, shp_dig h1, shp_dig h2, shp_dig h3, shp_dig h5, shp_dig h6, shp_dig h8, shp_dig h9, shp_dig h11, shp_dig h12, shp_dig h14, shp_dig h15, shp_sep (k := 90) rfl hz (by decide), shp_sep (k := 58) rfl hc (by decide)] at hE
      | 5, _ => simp [EndAt, pat, show shp 45 = 45 from rfl, show shp 84 = 84 from rfl, show shp 58 = 58 from rfl, show shp 90 = 90 from rfl, shp_dig h0, shp_dig h1, shp_dig h2, shp_dig h3, shp_dig h5, shp_dig h6, shp_dig h8, shp_dig h9, shp_dig h11, shp_dig h12, shp_dig h14, shp_dig h15, shp_sep (k := 90) rfl hz (by decide), shp_sep (k := 58) rfl hc (by decide)] at hE
      | n + 6, hj => exact absurd hj (by omega))
theorem cls_15 {d0 d1 d2 d3 d5 d6 d8 d9 d11 d12 d14 : Nat} (h0 : isDigit d0 = true) (h1 : isDigit d1 = true) (h2 : isDigit d2 = true) (h3 : isDigit d3 = true) (h5 : isDigit d5 = true) (h6 : isDigit d6 = true) (h8 : isDigit d8 = true) (h9 : isDigit d9 = true) (h11 : isDigit d11 = true) (h12 : isDigit d12 = true) (h14 : isDigit d14 = true) : ∀ rest : List Nat, Cls (d0::d1::d2::d3::45::d5::d6::45::d8::d9::84::d11::d12::58::d14::rest)
  | [] => .miss (fails_of (t := d0::d1::d2::d3::45::d5::d6::45::d8::d9::84::d11::d12::58::d14::[]) (t' := 48::48::48::48::45::48::48::45::48::48::84::48::48::58::48::[]) (by simp only [List.length_cons, List.length_nil]) (fun q => match q with
    | 0 => canon_dig rfl h0
    | 1 => canon_dig rfl h1
    | 2 => canon_dig rfl h2
    | 3 => canon_dig rfl h3
    | 4 => rfl
    | 5 => canon_dig rfl h5
    | 6 => canon_dig rfl h6
    | 7 => rfl
    | 8 => canon_dig rfl h8
    | 9 => canon_dig rfl h9
    | 10 => rfl
    | 11 => canon_dig rfl h11
    | 12 => canon_dig rfl h12
    | 13 => rfl
    | 14 => canon_dig rfl h14
    | n + 15 => rfl) failE_15) (fun j hj hE => by
      match j, hj with
      | 0, _ => simp [EndAt, pat, show shp 45 = 45 from rfl, show shp 84 = 84 from rfl, show shp 58 = 58 from rfl, show shp 90 = 90 from rfl, shp_dig h0, shp_dig h1, shp_dig h2, shp_dig h3, shp_dig h5, shp_dig h6, shp_dig h8, shp_dig h9, shp_dig h11, shp_dig h12, shp_dig h14] at hE
      | 1, _ => simp [EndAt, pat, show shp 45 = 45 from rfl, show shp 84 = 84 from rfl, show shp 58 = 58 from rfl, show shp 90 = 90 from rfl, shp_dig h0, shp_dig h1, shp_dig h2, shp_dig h3, shp_dig h5, shp_dig h6, shp_dig h8, shp_dig h9, shp_dig h11, shp_dig h12, shp_dig h14] at hE
      | 2, _ => simp [EndAt, pat, show shp 45 = 45 from rfl, show shp 84 = 84 from rfl, show shp 58 = 58 from rfl, show shp 90 = 90 from rfl, shp_dig h0, shp_dig h1, shp_dig h2, shp_dig h3, shp_dig h5, shp_dig h6, shp_dig h8, shp_dig h9, shp_dig h11, shp_dig h12, shp_dig h14] at hE
      | 3, _ => simp [EndAt, pat, show shp 45 = 45 from rfl, show shp 84 = 84 from rfl, show shp 58 = 58 from rfl, show shp 90 = 90 from rfl, shp_dig h0, shp_dig h1, shp_dig h2, shp_dig h3, shp_dig h5, shp_dig h6, shp_dig h8, shp_dig h9, shp_dig h11, shp_dig h12, shp_dig h14] at hE
      | 4, _ => simp [EndAt, pat, show shp 45 = 45 from rfl, show shp 84 = 84 from rfl, show shp 58 = 58 from rfl, show shp 90 = 90 from rfl, shp_dig h0, shp_dig h1, shp_dig h2, shp_dig h3, shp_dig h5, shp_dig h6, shp_dig h8, shp_dig h9, shp_dig h11, shp_dig h12, shp_dig h14] at hE
      | 5, _ => simp [EndAt, pat, show shp 45 = 45 from rfl, show shp 84 = 84 from rfl, show shp 58 = 58 from rfl, show shp 90 = 90 from rfl, shp_dig h0, shp_dig h1, shp_dig h2, shp_dig h3, shp_dig h5, shp_dig h6, shp_dig h8, shp_dig h9, shp_dig h11, shp_dig h12, shp_dig h14] at hE
      | n + 6, hj => exact absurd hj (by omega))
  | c :: r => by
    by_cases hc : isDigit c = true
    · exact cls_16 h0 h1 h2 h3 h5 h6 h8 h9 h11 h12 h14 hc r
    · have hc' : isDigit c = false := by simpa using hc
      by_cases hz : c = 90
      · subst hz
        exact .miss (fails_of (t := d0::d1::d2::d3::45::d5::d6::45::d8::d9::84::d11::d12::58::d14::90::r) (t' := 48::48::48::48::45::48::48::45::48::48::84::48::48::58::48::90::r) (by simp only [List.length_cons]) (fun q => match q with
    | 0 => canon_dig rfl h0
    | 1 => canon_dig rfl h1
    | 2 => canon_dig rfl h2
    | 3 => canon_dig rfl h3
    | 4 => rfl
    | 5 => canon_dig rfl h5
    | 6 => canon_dig rfl h6
    | 7 => rfl
    | 8 => canon_dig rfl h8
    | 9 => canon_dig rfl h9
    | 10 => rfl
    | 11 => canon_dig rfl h11
    | 12 => canon_dig rfl h12
    | 13 => rfl
    | 14 => canon_dig rfl h14
    | n + 15 => rfl) (failZ_15 (r := r))) (fun j hj hE => by
      match j, hj with
      | 0, _ => simp [EndAt, pat, show shp 45 = 45 from rfl, show shp 84 = 84 from rfl, show shp 58 = 58 from rfl, show shp 90 = 90 from rfl, shp_dig h0, shp_dig h1, shp_dig h2, shp_dig h3, shp_dig h5, shp_dig h6, shp_dig h8, shp_dig h9, shp_dig h11, shp_dig h12, shp_dig h14] at hE
      | 1, _ => simp [EndAt, pat, show shp 45 = 45 from rfl, show shp 84 = 84 from rfl, show shp 58 = 58 from rfl, show shp 90 = 90 from rfl, shp_dig h0, shp_dig h1, shp_dig h2, shp_dig h3, shp_dig h5, shp_dig h6, shp_dig h8, shp_dig h9, shp_dig h11, shp_dig h12, shp_dig h14] at hE
      | 2, _ => simp [EndAt, pat, show shp 45 = 45 from rfl, show shp 84 = 84 from rfl, show shp 58 = 58 from rfl, show shp 90 = 90 from rfl, shp_dig h0, shp_dig h1, shp_dig h2, shp_dig h3, shp_dig h5, shp_dig h6, shp_dig h8, shp_dig h9, shp_dig h11, shp_dig h12, shp_dig h14] at hE
      | 3, _ => simp [EndAt, pat, show shp 45 = 45 from rfl, show shp 84 = 84 from rfl, show shp 58 = 58 from rfl, show shp 90 = 90 from rfl, shp_dig h0, shp_dig h1, shp_dig h2, shp_dig h3, shp_dig h5, shp_dig h6, shp_dig h8, shp_dig h9, shp_dig h11, shp_dig h12, shp_dig h14] at hE
      | 4, _ => simp [EndAt, pat, show shp 45 = 45 from rfl, show shp 84 = 84 from rfl, show shp 58 = 58 from rfl, show shp 90 = 90 from rfl, shp_dig h0, shp_dig h1, shp_dig h2, shp_dig h3, shp_dig h5, shp_dig h6, shp_dig h8, shp_dig h9, shp_dig h11, shp_dig h12, shp_dig h14] at hE
      | 5, _ => simp [EndAt, pat, show shp 45 = 45 from rfl, show shp 84 = 84 from rfl, show shp 58 = 58 from rfl, show shp 90 = 90 from rfl, shp_dig h0, shp_dig h1, shp_dig h2, shp_dig h3, shp_dig h5, shp_dig h6, shp_dig h8, shp_dig h9, shp_dig h11, shp_dig h12, shp_dig h14] at hE
      | n + 6, hj => exact absurd hj (by omega))
      · exact .miss (fails_of (t := d0::d1::d2::d3::45::d5::d6::45::d8::d9::84::d11::d12::58::d14::c::r) (t' := 48::48::48::48::45::48::48::45::48::48::84::48::48::58::48::0::r) (by simp only [List.length_cons]) (fun q => match q with
    | 0 => canon_dig rfl h0
    | 1 => canon_dig rfl h1
    | 2 => canon_dig rfl h2
    | 3 => canon_dig rfl h3
    | 4 => rfl
    | 5 => canon_dig rfl h5
    | 6 => canon_dig rfl h6
    | 7 => rfl
    | 8 => canon_dig rfl h8
    | 9 => canon_dig rfl h9
    | 10 => rfl
    | 11 => canon_dig rfl h11
    | 12 => canon_dig rfl h12
    | 13 => rfl
    | 14 => canon_dig rfl h14
    | 15 => canon_bad (fun _ => hc') (fun e => absurd rfl e) hz
    | n + 16 => rfl) (fail0_15 (r := r))) (fun j hj hE => by
      match j, hj with
      | 0, _ => simp [EndAt, pat, show shp 45 = 45 from rfl, show shp 84 = 84 from rfl, show shp 58 = 58 from rfl, show shp 90 = 90 from rfl, shp_dig h0, shp_dig h1, shp_dig h2, shp_dig h3, shp_dig h5, shp_dig h6, shp_dig h8, shp_dig h9, shp_dig h11, shp_dig h12, shp_dig h14, shp_57 hc'] at hE
      | 1, _ => simp [EndAt, pat, show shp 45 = 45 from rfl, show shp 84 = 84 from rfl, show shp 58 = 58 from rfl, show shp 90 = 90 from rfl, shp_dig h0, shp_dig h1, shp_dig h2, shp_dig h3, shp_dig h5, shp_dig h6, shp_dig h8, shp_dig h9, shp_dig h11, shp_dig h12, shp_dig h14, shp_57 hc'] at hE
      | 2, _ => simp [EndAt, pat, show shp 45 = 45 from rfl, show shp 84 = 84 from rfl, show shp 58 = 58 from rfl, show shp 90 = 90 from rfl, shp_dig h0, shp_dig h1, shp_dig h2, shp_dig h3, shp_dig h5, shp_dig h6, shp_dig h8, shp_dig h9, shp_dig h11, shp_dig h12, shp_dig h14, shp_57 hc'] at hE
      | 3, _ => simp [EndAt, pat, show shp 45 = 45 from rfl, show shp 84 = 84 from rfl, show shp 58 = 58 from rfl, show shp 90 = 90 from rfl, shp_dig h0, shp_dig h1, shp_dig h2, shp_dig h3, shp_dig h5, shp_dig h6, shp_dig h8, shp_dig h9, shp_dig h11, shp_dig h12, shp_dig h14, shp_57 hc'] at hE
      | 4, _ => simp [EndAt, pat, show shp 45 = 45 from rfl, show shp 84 = 84 from rfl, show shp 58 = 58 from rfl, show shp 90 = 90 from rfl, shp_dig h0, shp_dig h1, shp_dig h2, shp_dig h3, shp_dig h5, shp_dig h6, shp_dig h8, shp_dig h9, shp_dig h11, shp_dig h12, shp_dig h14, shp_57 hc'] at hE
      | 5, _ => simp [EndAt, pat, show shp 45 = 45 from rfl, show shp 84 = 84 from rfl, show shp 58 = 58 from rfl, show shp 90 = 90 from rfl, shp_dig h0, shp_dig h1, shp_dig h2, shp_dig h3, shp_dig h5, shp_dig h6, shp_dig h8, shp_dig h9, shp_dig h11, shp_dig h12, shp_dig h14, shp_57 hc'] at hE
      | n + 6, hj => exact absurd hj (by omega))
theorem cls_14 {d0 d1 d2 d3 d5 d6 d8 d9 d11 d12 : Nat} (h0 : isDigit d0 = true) (h1 : isDigit d1 = true) (h2 : isDigit d2 = true) (h3 : isDigit d3 = true) (h5 : isDigit d5 = true) (h6 : isDigit d6 = true) (h8 : isDigit d8 = true) (h9 : isDigit d9 = true) (h11 : isDigit d11 = true) (h12 : isDigit d12 = true) : ∀ rest : List Nat, Cls (d0::d1::d2::d3::45::d5::d6::45::d8::d9::84::d11::d12::58::rest)
  | [] => .miss (fails_of (t := d0::d1::d2::d3::45::d5::d6::45::d8::d9::84::d11::d12::58::[]) (t' := 48::48::48::48::45::48::48::45::48::48::84::48::48::58::[]) (by simp only [List.length_cons, List.length_nil]) (fun q => match q with
    | 0 => canon_dig rfl h0
    | 1 => canon_dig rfl h1
    | 2 => canon_dig rfl h2
    | 3 => canon_dig rfl h3
    | 4 => rfl
    | 5 => canon_dig rfl h5
    | 6 => canon_dig rfl h6
    | 7 => rfl
    | 8 => canon_dig rfl h8
    | 9 => canon_dig rfl h9
    | 10 => rfl
    | 11 => canon_dig rfl h11
    | 12 => canon_dig rfl h12
    | 13 => rfl
    | n + 14 => rfl) failE_14) (fun j hj hE => by
      match j, hj with
      | 0, _ => simp [EndAt, pat, show shp 45 = 45 from rfl, show shp 84 = 84 from rfl, show shp 58 = 58 from rfl, show shp 90 = 90 from rfl, shp_dig h0, shp_dig h1, shp_dig h2, shp_dig h3, shp_dig h5, shp_dig h6, shp_dig h8, shp_dig h9, shp_dig h11, shp_dig h12] at hE
      | 1, _ => simp [EndAt, pat, show shp 45 = 45 from rfl, show shp 84 = 84 from rfl, show shp 58 = 58 from rfl, show shp 90 = 90 from rfl, shp_dig h0, shp_dig h1, shp_dig h2, shp_dig h3, shp_dig h5, shp_dig h6, shp_dig h8, shp_dig h9, shp_dig h11, shp_dig h12] at hE
      | 2, _ => simp [EndAt, pat, show shp 45 = 45 from rfl, show shp 84 = 84 from rfl, show shp 58 = 58 from rfl, show shp 90 = 90 from rfl, shp_dig h0, shp_dig h1, shp_dig h2, shp_dig h3, shp_dig h5, shp_dig h6, shp_dig h8, shp_dig h9, shp_dig h11, shp_dig h12] at hE
      | 3, _ => simp [EndAt, pat, show shp 45 = 45 from rfl, show shp 84 = 84 from rfl, show shp 58 = 58 from rfl, show shp 90 = 90 from rfl, shp_dig h0, shp_dig h1, shp_dig h2, shp_dig h3, shp_dig h5, shp_dig h6, shp_dig h8, shp_dig h9, shp_dig h11, shp_dig h12] at hE
      | 4, _ => simp [EndAt, pat, show shp 45 = 45 from rfl, show shp 84 = 84 from rfl, show shp 58 = 58 from rfl, show shp 90 = 90 from rfl, shp_dig h0, shp_dig h1, shp_dig h2, shp_dig h3, shp_dig h5, shp_dig h6, shp_dig h8, shp_dig h9, shp_dig h11, shp_dig h12] at hE
      | 5, _ => simp [EndAt, pat, show shp 45 = 45 from rfl, show shp 84 = 84 from rfl, show shp 58 = 58 from rfl, show shp 90 = 90 from rfl, shp_dig h0, shp_dig h1, shp_dig h2, shp_dig h3, shp_dig h5, shp_dig h6, shp_dig h8, shp_dig h9, shp_dig h11, shp_dig h12] at hE
      | n + 6, hj => exact absurd hj (by omega))
  | c :: r => by
    by_cases hc : isDigit c = true
    · exact cls_15 h0 h1 h2 h3 h5 h6 h8 h9 h11 h12 hc r
    · have hc' : isDigit c = false := by simpa using hc
      by_cases hz : c = 90
      · subst hz
        exact .miss (fails_of (t := d0::d1::d2::d3::45::d5::d6::45::d8::d9::84::d11::d12::58::90::r) (t' := 48::48::48::48::45::48::48::45::48::48::84::48::48::58::90::r) (by simp only [List.length_cons]) (fun q => match q with
    | 0 => canon_dig rfl h0
    | 1 => canon_dig rfl h1
    | 2 => canon_dig rfl h2
    | 3 => canon_dig rfl h3
    | 4 => rfl
    | 5 => canon_dig rfl h5
    | 6 => canon_dig rfl h6
    | 7 => rfl
    | 8 => canon_dig rfl h8
    | 9 => canon_dig rfl h9
    | 10 => rfl
    | 11 => canon_dig rfl h11
    | 12 => canon_dig rfl h12
    | 13 => rfl
    | n + 14 => rfl) (failZ_14 (r := r))) (fun j hj hE => by
      match j, hj with
      | 0, _ => simp [EndAt, pat, show shp 45 = 45 from rfl, show shp 84 = 84 from rfl, show shp 58 = 58 from rfl, show shp 90 = 90 from rfl, shp_dig h0, shp_dig h1, shp_dig h2, shp_dig h3, shp_dig h5, shp_dig h6, shp_dig h8, shp_dig h9, shp_dig h11, shp_dig h12] at hE
      | 1, _ => simp [EndAt, pat, show shp 45 = 45 from rfl, show shp 84 = 84 from rfl, show shp 58 = 58 from rfl, show shp 90 = 90 from rfl, shp_dig h0, shp_dig h1, shp_dig h2, shp_dig h3, shp_dig h5, shp_dig h6, shp_dig h8, shp_dig h9, shp_dig h11, shp_dig h12] at hE
      | 2, _ => simp [EndAt, pat, show shp 45 = 45 from rfl, show shp 84 = 84 from rfl, show shp 58 = 58 from rfl, show shp 90 = 90 from rfl, shp_dig h0, shp_dig h1, shp_dig h2, shp_dig h3, shp_dig h5, shp_dig h6, shp_dig h8, shp_dig h9, shp_dig h11, shp_dig h12] at hE
      | 3, _ => simp [EndAt, pat, show shp 45 = 45 from rfl, show shp 84 = 84 from rfl, show shp 58 = 58 from rfl, show shp 90 = 90 from rfl, shp_dig h0, shp_dig h1, shp_dig h2, shp_dig h3, shp_dig h5, shp_dig h6, shp_dig h8, shp_dig h9, shp_dig h11, shp_dig h12] at hE
      | 4, _ => simp [EndAt, pat, show shp 45 = 45 from rfl, show shp 84 = 84 from rfl, show shp 58 = 58 from rfl, show shp 90 = 90 from rfl, shp_dig h0, shp_dig h1, shp_dig h2, shp_dig h3, shp_dig h5, shp_dig h6, shp_dig h8, shp_dig h9, shp_dig h11, shp_dig h12] at hE
      | 5, _ => simp [EndAt, pat, show shp 45 = 45 from rfl, show shp 84 = 84 from rfl, show shp 58 = 58 from rfl, show shp 90 = 90 from rfl, shp_dig h0, shp_dig h1, shp_dig h2, shp_dig h3, shp_dig h5, shp_dig h6, shp_dig h8, shp_dig h9, shp_dig h11, shp_dig h12] at hE
      | n + 6, hj => exact absurd hj (by omega))
      · exact .miss (fails_of (t := d0::d1::d2::d3::45::d5::d6::45::d8::d9::84::d11::d12::58::c::r) (t' := 48::48::48::48::45::48::48::45::48::48::84::48::48::58::0::r) (by simp only [List.length_cons]) (fun q => match q with
    | 0 => canon_dig rfl h0
    | 1 => canon_dig rfl h1
    | 2 => canon_dig rfl h2
    | 3 => canon_dig rfl h3
    | 4 => rfl
    | 5 => canon_dig rfl h5
    | 6 => canon_dig rfl h6
    | 7 => rfl
    | 8 => canon_dig rfl h8
    | 9 => canon_dig rfl h9
    | 10 => rfl
    | 11 => canon_dig rfl h11
    | 12 => canon_dig rfl h12
    | 13 => rfl
    | 14 => canon_bad (fun _ => hc') (fun e => absurd rfl e) hz
    | n + 15 => rfl) (fail0_14 (r := r))) (fun j hj hE => by
      match j, hj with
      | 0, _ => simp [EndAt, pat, show shp 45 = 45 from rfl, show shp 84 = 84 from rfl, show shp 58 = 58 from rfl, show shp 90 = 90 from rfl, shp_dig h0, shp_dig h1, shp_dig h2, shp_dig h3, shp_dig h5, shp_dig h6, shp_dig h8, shp_dig h9, shp_dig h11, shp_dig h12, shp_57 hc'] at hE
      | 1, _ => simp [EndAt, pat, show shp 45 = 45 from rfl, show shp 84 = 84 from rfl, show shp 58 = 58 from rfl, show shp 90 = 90 from rfl, shp_dig h0, shp_dig h1, shp_dig h2, shp_dig h3, shp_dig h5, shp_dig h6, shp_dig h8, shp_dig h9, shp_dig h11, shp_dig h12, shp_57 hc'] at hE
      | 2, _ => simp [EndAt, pat, show shp 45 = 45 from rfl, show shp 84 = 84 from rfl, show shp 58 = 58 from rfl, show shp 90 = 90 from rfl, shp_dig h0, shp_dig h1, shp_dig h2, shp_dig h3, shp_dig h5, shp_dig h6, shp_dig h8, shp_dig h9, shp_dig h11, shp_dig h12, shp_57 hc'] at hE
      | 3, _ => simp [EndAt, pat, show shp 45 = 45 from rfl, show shp 84 = 84 from rfl, show shp 58 = 58 from rfl, show shp 90 = 90 from rfl, shp_dig h0, shp_dig h1, shp_dig h2, shp_dig h3, shp_dig h5, shp_dig h6, shp_dig h8, shp_dig h9, shp_dig h11, shp_dig h12, shp_57 hc'] at hE
      | 4, _ => simp [EndAt, pat, show shp 45 = 45 from rfl, show shp 84 = 84 from rfl, show shp 58 = 58 from rfl, show shp 90 = 90 from rfl, shp_dig h0, shp_dig h1, shp_dig h2, shp_dig h3, shp_dig h5, shp_dig h6, shp_dig h8, shp_dig h9, shp_dig h11, shp_dig h12, shp_57 hc'] at hE
      | 5, _ => simp [EndAt, pat, show shp 45 = 45 from rfl, show shp 84 = 84 from rfl, show shp 58 = 58 from rfl, show shp 90 = 90 from rfl, shp_dig h0, shp_dig h1, shp_dig h2, shp_dig h3, shp_dig h5, shp_dig h6, shp_dig h8, shp_dig h9, shp_dig h11, shp_dig h12, shp_57 hc'] at hE
      | n + 6, hj => exact absurd hj (by omega))
theorem cls_13 {d0 d1 d2 d3 d5 d6 d8 d9 d11 d12 : Nat} (h0 : isDigit d0 = true) (h1 : isDigit d1 = true) (h2 : isDigit d2 = true) (h3 : isDigit d3 = true) (h5 : isDigit d5 = true) (h6 : isDigit d6 = true) (h8 : isDigit d8 = true) (h9 : isDigit d9 = true) (h11 : isDigit d11 = true) (h12 : isDigit d12 = true) : ∀ rest : List Nat, Cls (d0::d1::d2::d3::45::d5::d6::45::d8::d9::84::d11::d12::rest)
  | [] => .miss (fails_of (t := d0::d1::d2::d3::45::d5::d6::45::d8::d9::84::d11::d12::[]) (t' := 48::48::48::48::45::48::48::45::48::48::84::48::48::[]) (by simp only [List.length_cons, List.length_nil]) (fun q => match q with
    | 0 => canon_dig rfl h0
    | 1 => canon_dig rfl h1
    | 2 => canon_dig rfl h2
    | 3 => canon_dig rfl h3
    | 4 => rfl
    | 5 => canon_dig rfl h5
    | 6 => canon_dig rfl h6
    | 7 => rfl
    | 8 => canon_dig rfl h8
    | 9 => canon_dig rfl h9
    | 10 => rfl
    | 11 => canon_dig rfl h11
    | 12 => canon_dig rfl h12
    | n + 13 => rfl) failE_13) (fun j hj hE => by
      match j, hj with
      | 0, _ => simp [EndAt, pat, show shp 45 = 45 from rfl, show shp 84 = 84 from rfl, show shp 58 = 58 from rfl, show shp 90 = 90 from rfl, shp_dig h0, shp_dig h1, shp_dig h2, shp_dig h3, shp_dig h5, shp_dig h6, shp_dig h8, shp_dig h9, shp_dig h11, shp_dig h12] at hE
      | 1, _ => simp [EndAt, pat, show shp 45 = 45 from rfl, show shp 84 = 84 from rfl, show shp 58 = 58 from rfl, show shp 90 = 90 from rfl, shp_dig h0, shp_dig h1, shp_dig h2, shp_dig h3, shp_dig h5, shp_dig h6, shp_dig h8, shp_dig h9, shp_dig h11, shp_dig h12] at hE
      | 2, _ => simp [EndAt, pat, show shp 45 = 45 from rfl, show shp 84 = 84 from rfl, show shp 58 = 58 from rfl, show shp 90 = 90 from rfl, shp_dig h0, shp_dig h1, shp_dig h2, shp_dig h3, shp_dig h5, shp_dig h6, shp_dig h8, shp_dig h9, shp_dig h11, shp_dig h12] at hE
      | 3, _ => simp [EndAt, pat, show shp 45 = 45 from rfl, show shp 84 = 84 from rfl, show shp 58 = 58 from rfl, show shp 90 = 90 from rfl, shp_dig h0, shp_dig h1, shp_dig h2, shp_dig h3, shp_dig h5, shp_dig h6, shp_dig h8, shp_dig h9, shp_dig h11, shp_dig h12] at hE
      | 4, _ => simp [EndAt, pat, show shp 45 = 45 from rfl, show shp 84 = 84 from rfl, show shp 58 = 58 from rfl, show shp 90 = 90 from rfl, shp_dig h0, shp_dig h1, shp_dig h2, shp_dig h3, shp_dig h5, shp_dig h6, shp_dig h8, shp_dig h9, shp_dig h11, shp_dig h12] at hE
      | 5, _ => simp [EndAt, pat, show shp 45 = 45 from rfl, show shp 84 = 84 from rfl, show shp 58 = 58 from rfl, show shp 90 = 90 from rfl, shp_dig h0, shp_dig h1, shp_dig h2, shp_dig h3, shp_dig h5, shp_dig h6, shp_dig h8, shp_dig h9, shp_dig h11, shp_dig h12] at hE
      | n + 6, hj => exact absurd hj (by omega))
  | c :: r => by
    by_cases hc : c = 58
    · subst hc
      exact cls_14 h0 h1 h2 h3 h5 h6 h8 h9 h11 h12 r
    · by_cases hz : c = 90
      · subst hz
        exact .hit4 h0 h1 h2 h3 h5 h6 h8 h9 h11 h12
      · exact .miss (fails_of (t := d0::d1::d2::d3::45::d5::d6::45::d8::d9::84::d11::d12::c::r) (t' := 48::48::48::48::45::48::48::45::48::48::84::48::48::0::r) (by simp only [List.length_cons]) (fun q => match q with
    | 0 => canon_dig rfl h0
    | 1 => canon_dig rfl h1
    | 2 => canon_dig rfl h2
    | 3 => canon_dig rfl h3
    | 4 => rfl
    | 5 => canon_dig rfl h5
    | 6 => canon_dig rfl h6
    | 7 => rfl
    | 8 => canon_dig rfl h8
    | 9 => canon_dig rfl h9
    | 10 => rfl
    | 11 => canon_dig rfl h11
    | 12 => canon_dig rfl h12
    | 13 => canon_bad (fun e => by cases e) (fun _ => hc) hz
    | n + 14 => rfl) (fail0_13 (r := r))) (fun j hj hE => by
      match j, hj with
      | 0, _ => simp [EndAt, pat, show shp 45 = 45 from rfl, show shp 84 = 84 from rfl, show shp 58 = 58 from rfl, show shp 90 = 90 from rfl, shp_dig h0, shp_dig h1, shp_dig h2, shp_dig h3, shp_dig h5, shp_dig h6, shp_dig h8, shp_dig h9, shp_dig h11, shp_dig h12, shp_sep (k := 90) rfl hz (by decide), shp_sep (k := 58) rfl hc (by decide)] at hE
      | 1, _ => simp [EndAt, pat, show shp 45 = 45 from rfl, show shp 84 = 84 from rfl, show shp 58 = 58 from rfl, show shp 90 = 90 from rfl, shp_dig h0, shp_dig h1, shp_dig h2, shp_dig h3, shp_dig h5, shp_dig h6, shp_dig h8, shp_dig h9, shp_dig h11, shp_dig h12, shp_sep (k := 90) rfl hz (by decide), shp_sep (k := 58) rfl hc (by decide)] at hE
      | 2, _ => simp [EndAt, pat, show shp 45 = 45 from rfl, show shp 84 = 84 from rfl, show shp 58 = 58 from rfl, show shp 90 = 90 from rfl, shp_dig h0, shp_dig h1, shp_dig h2, shp_dig h3, shp_dig h5, shp_dig h6, shp_dig h8, shp_dig h9, shp_dig h11, shp_dig h12, shp_sep (k := 90) rfl hz (by decide), shp_sep (k := 58) rfl hc (by decide)] at hE
      | 3, _ => simp [EndAt, pat, show shp 45 = 45 from rfl, show shp 84 = 84 from rfl, show shp 58 = 58 from rfl, show shp 90 = 90 from rfl, shp_dig h0, shp_dig h1, shp_dig h2, shp_dig h3, shp_dig h5, shp_dig h6, shp_dig h8, shp_dig h9, shp_dig h11, shp_dig h12, shp_sep (k := 90) rfl hz (by decide), shp_sep (k := 58) rfl hc (by decide)] at hE
      | 4, _ => simp [EndAt, pat, show shp 45 = 45 from rfl, show shp 84 = 84 from rfl, show shp 58 = 58 from rfl, show shp 90 = 90 from rfl, shp_dig h0, shp_dig h1, shp_dig h2, shp_dig h3, shp_dig h5, shp_dig h6, shp_dig h8, shp_dig h9, shp_dig h11, shp_dig h12, shp_sep (k := 90) rfl hz (by decide), shp_sep (k := 58) rfl hc (by decide)] at hE
      | 5, _ => simp [EndAt, pat, show shp 45 = 45 from rfl, show shp 84 = 84 from rfl, show shp 58 = 58 from rfl, show shp 90 = 90 from rfl, shp_dig h0, shp_dig h1, shp_dig h2, shp_dig h3, shp_dig h5, shp_dig h6, shp_dig h8, shp_dig h9, shp_dig h11, shp_dig h12, shp_sep (k := 90) rfl hz (by decide), shp_sep (k := 58) rfl hc (by decide)] at hE
      | n + 6, hj => exact absurd hj (by omega))
theorem cls_12 {d0 d1 d2 d3 d5 d6 d8 d9 d11 : Nat} (h0 : isDigit d0 = true) (h1 : isDigit d1 = true) (h2 : isDigit d2 = true) (h3 : isDigit d3 = true) (h5 : isDigit d5 = true) (h6 : isDigit d6 = true) (h8 : isDigit d8 = true) (h9 : isDigit d9 = true) (h11 : isDigit d11 = true) : ∀ rest : List Nat, Cls (d0::d1::d2::d3::45::d5::d6::45::d8::d9::84::d11::rest)
  | [] => .miss (fails_of (t := d0::d1::d2::d3::45::d5::d6::45::d8::d9::84::d11::[]) (t' := 48::48::48::48::45::48::48::45::48::48::84::48::[]) (by simp only [List.length_cons, List.length_nil]) (fun q => match q with
    | 0 => canon_dig rfl h0
    | 1 => canon_dig rfl h1
    | 2 => canon_dig rfl h2
    | 3 => canon_dig rfl h3
    | 4 => rfl
    | 5 => canon_dig rfl h5
    | 6 => canon_dig rfl h6
    | 7 => rfl
    | 8 => canon_dig rfl h8
    | 9 => canon_dig rfl h9
    | 10 => rfl
    | 11 => canon_dig rfl h11
    | n + 12 => rfl) failE_12) (fun j hj hE => by
      match j, hj with
      | 0, _ => simp [EndAt, pat, show shp 45 = 45 from rfl, show shp 84 = 84 from rfl, show shp 58 = 58 from rfl, show shp 90 = 90 from rfl, shp_dig h0, shp_dig h1, shp_dig h2, shp_dig h3, shp_dig h5, shp_dig h6, shp_dig h8, shp_dig h9, shp_dig h11] at hE
      | 1, _ => simp [EndAt, pat, show shp 45 = 45 from rfl, show shp 84 = 84 from rfl, show shp 58 = 58 from rfl, show shp 90 = 90 from rfl, shp_dig h0, shp_dig h1, shp_dig h2, shp_dig h3, shp_dig h5, shp_dig h6, shp_dig h8, shp_dig h9, shp_dig h11] at hE
      | 2, _ => simp [EndAt, pat, show shp 45 = 45 from rfl, show shp 84 = 84 from rfl, show shp 58 = 58 from rfl, show shp 90 = 90 from rfl, shp_dig h0, shp_dig h1, shp_dig h2, shp_dig h3, shp_dig h5, shp_dig h6, shp_dig h8, shp_dig h9, shp_dig h11] at hE
      | 3, _ => simp [EndAt, pat, show shp 45 = 45 from rfl, show shp 84 = 84 from rfl, show shp 58 = 58 from rfl, show shp 90 = 90 from rfl, shp_dig h0, shp_dig h1, shp_dig h2, shp_dig h3, shp_dig h5, shp_dig h6, shp_dig h8, shp_dig h9, shp_dig h11] at hE
      | 4, _ => simp [EndAt, pat, show shp 45 = 45 from rfl, show shp 84 = 84 from rfl, show shp 58 = 58 from rfl, show shp 90 = 90 from rfl, shp_dig h0, shp_dig h1, shp_dig h2, shp_dig h3, shp_dig h5, shp_dig h6, shp_dig h8, shp_dig h9, shp_dig h11] at hE
      | 5, _ => simp [EndAt, pat, show shp 45 = 45 from rfl, show shp 84 = 84 from rfl, show shp 58 = 58 from rfl, show shp 90 = 90 from rfl, shp_dig h0, shp_dig h1, shp_dig h2, shp_dig h3, shp_dig h5, shp_dig h6, shp_dig h8, shp_dig h9, shp_dig h11] at hE
      | n + 6, hj => exact absurd hj (by omega))
  | c :: r => by
    by_cases hc : isDigit c = true
    · exact cls_13 h0 h1 h2 h3 h5 h6 h8 h9 h11 hc r
    · have hc' : isDigit c = false := by simpa using hc
      by_cases hz : c = 90
      · subst hz
        exact .miss (fails_of (t := d0::d1::d2::d3::45::d5::d6::45::d8::d9::84::d11::90::r) (t' := 48::48::48::48::45::48::48::45::48::48::84::48::90::r) (by simp only [List.length_cons]) (fun q => match q with
    | 0 => canon_dig rfl h0
    | 1 => canon_dig rfl h1
    | 2 => canon_dig rfl h2
    | 3 => canon_dig rfl h3
    | 4 => rfl
    | 5 => canon_dig rfl h5
    | 6 => canon_dig rfl h6
    | 7 => rfl
    | 8 => canon_dig rfl h8
    | 9 => canon_dig rfl h9
    | 10 => rfl
    | 11 => canon_dig rfl h11
    | n + 12 => rfl) (failZ_12 (r := r))) (fun j hj hE => by
      match j, hj with
      | 0, _ => simp [EndAt, pat, show shp 45 = 45 from rfl, show shp 84 = 84 from rfl, show shp 58 = 58 from rfl, show shp 90 = 90 from rfl, shp_dig h0, shp_dig h1, shp_dig h2, shp_dig h3, shp_dig h5, shp_dig h6, shp_dig h8, shp_dig h9, shp_dig h11] at hE
      | 1, _ => simp [EndAt, pat, show shp 45 = 45 from rfl, show shp 84 = 84 from rfl, show shp 58 = 58 from rfl, show shp 90 = 90 from rfl, shp_dig h0, shp_dig h1, shp_dig h2, shp_dig h3, shp_dig h5, shp_dig h6, shp_dig h8, shp_dig h9, shp_dig h11] at hE
      | 2, _ => simp [EndAt, pat, show shp 45 = 45 from rfl, show shp 84 = 84 from rfl, show shp 58 = 58 from rfl, show shp 90 = 90 from rfl, shp_dig h0, shp_dig h1, shp_dig h2, shp_dig h3, shp_dig h5, shp_dig h6, shp_dig h8, shp_dig h9, shp_dig h11] at hE
      | 3, _ => simp [EndAt, pat, show shp 45 = 45 from rfl, show shp 84 = 84 from rfl, show shp 58 = 58 from rfl, show shp 90 = 90 from rfl, shp_dig h0, shp_dig h1, shp_dig h2, shp_dig h3, shp_dig h5, shp_dig h6, shp_dig h8, shp_dig h9, shp_dig h11] at hE
      | 4, _ => simp [EndAt, pat, show shp 45 = 45 from rfl, show shp 84 = 84 from rfl, show shp 58 = 58 from rfl, show shp 90 = 90 from rfl, shp_dig h0, shp_dig h1, shp_dig h2, shp_dig h3, shp_dig h5, shp_dig h6, shp_dig h8, shp_dig h9, shp_dig h11] at hE
      | 5, _ => simp [EndAt, pat, show shp 45 = 45 from rfl, show shp 84 = 84 from rfl, show shp 58 = 58 from rfl, show shp 90 = 90 from rfl, shp_dig h0, shp_dig h1, shp_dig h2, shp_dig h3, shp_dig h5, shp_dig h6, shp_dig h8, shp_dig h9, shp_dig h11] at hE
      | n + 6, hj => exact absurd hj (by omega))
      · exact .miss (fails_of (t := d0::d1::d2::d3::45::d5::d6::45::d8::d9::84::d11::c::r) (t' := 48::48::48::48::45::48::48::45::48::48::84::48::0::r) (by simp only [List.length_cons]) (fun q => match q with
    | 0 => canon_dig rfl h0
    | 1 => canon_dig rfl h1
    | 2 => canon_dig rfl h2
    | 3 => canon_dig rfl h3
    | 4 => rfl
    | 5 => canon_dig rfl h5
    | 6 => canon_dig rfl h6
    | 7 => rfl
    | 8 => canon_dig rfl h8
    | 9 => canon_dig rfl h9
    | 10 => rfl
    | 11 => canon_dig rfl h11
    | 12 => canon_bad (fun _ => hc') (fun e => absurd rfl e) hz
    | n + 13 => rfl) (fail0_12 (r := r))) (fun j hj hE => by
      match j, hj with
      | 0, _ => simp [EndAt, pat, show shp 45 = 45 from rfl, show shp 84 = 84 from rfl, show shp 58 = 58 from rfl, show shp 90 = 90 from rfl, shp_dig h0, shp_dig h1, shp_dig h2, shp_dig h3, shp_dig h5, shp_dig h6, shp_dig h8, shp_dig h9, shp_dig h11, shp_57 hc'] at hE
      | 1, _ => simp [EndAt, pat, show shp 45 = 45 from rfl, show shp 84 = 84 from rfl, show shp 58 = 58 from rfl, show shp 90 = 90 from rfl, shp_dig h0, shp_dig h1, shp_dig h2, shp_dig h3, shp_dig h5, shp_dig h6, shp_dig h8, shp_dig h9, shp_dig h11, shp_57 hc'] at hE
      | 2, _ => simp [EndAt, pat, show shp 45 = 45 from rfl, show shp 84 = 84 from rfl, show shp 58 = 58 from rfl, show shp 90 = 90 from rfl, shp_dig h0, shp_dig h1, shp_dig h2, shp_dig h3, shp_dig h5, shp_dig h6, shp_dig h8, shp_dig h9, shp_dig h11, shp_57 hc'] at hE
      | 3, _ => simp [EndAt, pat, show shp 45 = 45 from rfl, show shp 84 = 84 from rfl, show shp 58 = 58 from rfl, show shp 90 = 90 from rfl, shp_dig h0, shp_dig h1, shp_dig h2, shp_dig h3, shp_dig h5, shp_dig h6, shp_dig h8, shp_dig h9, shp_dig h11, shp_57 hc'] at hE
      | 4, _ => simp [EndAt, pat, show shp 45 = 45 from rfl, show shp 84 = 84 from rfl, show shp 58 = 58 from rfl, show shp 90 = 90 from rfl, shp_dig h0, shp_dig h1, shp_dig h2, shp_dig h3, shp_dig h5, shp_dig h6, shp_dig h8, shp_dig h9, shp_dig h11, shp_57 hc'] at hE
      | 5, _ => simp [EndAt, pat, show shp 45 = 45 from rfl, show shp 84 = 84 from rfl, show shp 58 = 58 from rfl, show shp 90 = 90 from rfl, shp_dig h0, shp_dig h1, shp_dig h2, shp_dig h3, shp_dig h5, shp_dig h6, shp_dig h8, shp_dig h9, shp_dig h11, shp_57 hc'] at hE
      | n + 6, hj => exact absurd hj (by omega))
theorem cls_11 {d0 d1 d2 d3 d5 d6 d8 d9 : Nat} (h0 : isDigit d0 = true) (h1 : isDigit d1 = true) (h2 : isDigit d2 = true) (h3 : isDigit d3 = true) (h5 : isDigit d5 = true) (h6 : isDigit d6 = true) (h8 : isDigit d8 = true) (h9 : isDigit d9 = true) : ∀ rest : List Nat, Cls (d0::d1::d2::d3::45::d5::d6::45::d8::d9::84::rest)
  | [] => .miss (fails_of (t := d0::d1::d2::d3::45::d5::d6::45::d8::d9::84::[]) (t' := 48::48::48::48::45::48::48::45::48::48::84::[]) (by simp only [List.length_cons, List.length_nil]) (fun q => match q with
    | 0 => canon_dig rfl h0
    | 1 => canon_dig rfl h1
    | 2 => canon_dig rfl h2
    | 3 => canon_dig rfl h3
    | 4 => rfl
    | 5 => canon_dig rfl h5
    | 6 => canon_dig rfl h6
    | 7 => rfl
    | 8 => canon_dig rfl h8
    | 9 => canon_dig rfl h9
    | 10 => rfl
    | n + 11 => rfl) failE_11) (fun j hj hE => by
      match j, hj with
      | 0, _ => simp [EndAt, pat, show shp 45 = 45 from rfl, show shp 84 = 84 from rfl, show shp 58 = 58 from rfl, show shp 90 = 90 from rfl, shp_dig h0, shp_dig h1, shp_dig h2, shp_dig h3, shp_dig h5, shp_dig h6, shp_dig h8, shp_dig h9] at hE
      | 1, _ => simp [EndAt, pat, show shp 45 = 45 from rfl, show shp 84 = 84 from rfl, show shp 58 = 58 from rfl, show shp 90 = 90 from rfl, shp_dig h0, shp_dig h1, shp_dig h2, shp_dig h3, shp_dig h5, shp_dig h6, shp_dig h8, shp_dig h9] at hE
      | 2, _ => simp [EndAt, pat, show shp 45 = 45 from rfl, show shp 84 = 84 from rfl, show shp 58 = 58 from rfl, show shp 90 = 90 from rfl, shp_dig h0, shp_dig h1, shp_dig h2, shp_dig h3, shp_dig h5, shp_dig h6, shp_dig h8, shp_dig h9] at hE
      | 3, _ => simp [EndAt, pat, show shp 45 = 45 from rfl, show shp 84 = 84 from rfl, show shp 58 = 58 from rfl, show shp 90 = 90 from rfl, shp_dig h0, shp_dig h1, shp_dig h2, shp_dig h3, shp_dig h5, shp_dig h6, shp_dig h8, shp_dig h9] at hE
      | 4, _ => simp [EndAt, pat, show shp 45 = 45 from rfl, show shp 84 = 84 from rfl, show shp 58 = 58 from rfl, show shp 90 = 90 from rfl, shp_dig h0, shp_dig h1, shp_dig h2, shp_dig h3, shp_dig h5, shp_dig h6, shp_dig h8, shp_dig h9] at hE
      | 5, _ => simp [EndAt, pat, show shp 45 = 45 from rfl, show shp 84 = 84 from rfl, show shp 58 = 58 from rfl, show shp 90 = 90 from rfl, shp_dig h0, shp_dig h1, shp_dig h2, shp_dig h3, shp_dig h5, shp_dig h6, shp_dig h8, shp_dig h9] at hE
      | n + 6, hj => exact absurd hj (by omega))
  | c :: r => by
    by_cases hc : isDigit c = true
    · exact cls_12 h0 h1 h2 h3 h5 h6 h8 h9 hc r
    · have hc' : isDigit c = false := by simpa using hc
      by_cases hz : c = 90
      · subst hz
        exact .miss (fails_of (t := d0::d1::d2::d3::45::d5::d6::45::d8::d9::84::90::r) (t' := 48::48::48::48::45::48::48::45::48::48::84::90::r) (by simp only [List.length_cons]) (fun q => match q with
    | 0 => canon_dig rfl h0
    | 1 => canon_dig rfl h1
    | 2 => canon_dig rfl h2
    | 3 => canon_dig rfl h3
    | 4 => rfl
    | 5 => canon_dig rfl h5
    | 6 => canon_dig rfl h6
    | 7 => rfl
    | 8 => canon_dig rfl h8
    | 9 => canon_dig rfl h9
    | 10 => rfl
    | n + 11 => rfl) (failZ_11 (r := r))) (fun j hj hE => by
      match j, hj with
      | 0, _ => simp [EndAt, pat, show shp 45 = 45 from rfl, show shp 84 = 84 from rfl, show shp 58 = 58 from rfl, show shp 90 = 90 from rfl, shp_dig h0, shp_dig h1, shp_dig h2, shp_dig h3, shp_dig h5, shp_dig h6, shp_dig h8, shp_dig h9] at hE
      | 1, _ => simp [EndAt, pat, show shp 45 = 45 from rfl, show shp 84 = 84 from rfl, show shp 58 = 58 from rfl, show shp 90 = 90 from rfl, shp_dig h0, shp_dig h1, shp_dig h2, shp_dig h3, shp_dig h5, shp_dig h6, shp_dig h8, shp_dig h9] at hE
      | 2, _ => simp [EndAt, pat, show shp 45 = 45 from rfl, show shp 84 = 84 from rfl, show shp 58 = 58 from rfl, show shp 90 = 90 from rfl, shp_dig h0, shp_dig h1, shp_dig h2, shp_dig h3, shp_dig h5, shp_dig h6, shp_dig h8, shp_dig h9] at hE
      | 3, _ => simp [EndAt, pat, show shp 45 = 45 from rfl, show shp 84 = 84 from rfl, show shp 58 = 58 from rfl, show shp 90 = 90 from rfl, shp_dig h0, shp_dig h1, shp_dig h2, shp_dig h3, shp_dig h5, shp_dig h6, shp_dig h8, shp_dig h9] at hE
      | 4, _ => simp [EndAt, pat, show shp 45 = 45 from rfl, show shp 84 = 84 from rfl, show shp 58 = 58 from rfl, show shp 90 = 90 from rfl, shp_dig h0, shp_dig h1, shp_dig h2, shp_dig h3, shp_dig h5, shp_dig h6, shp_dig h8, shp_dig h9] at hE
      | 5, _ => simp [EndAt, pat, show shp 45 = 45 from rfl, show shp 84 = 84 from rfl, show shp 58 = 58 from rfl, show shp 90 = 90 from rfl, shp_dig h0, shp_dig h1, shp_dig h2, shp_dig h3, shp_dig h5, shp_dig h6, shp_dig h8, shp_dig h9] at hE
      | n + 6, hj => exact absurd hj (by omega))
      · exact .miss (fails_of (t := d0::d1::d2::d3::45::d5::d6::45::d8::d9::84::c::r) (t' := 48::48::48::48::45::48::48::45::48::48::84::0::r) (by simp only [List.length_cons]) (fun q => match q with
    | 0 => canon_dig rfl h0
    | 1 => canon_dig rfl h1
    | 2 => canon_dig rfl h2
    | 3 => canon_dig rfl h3
    | 4 => rfl
    | 5 => canon_dig rfl h5
    | 6 => canon_dig rfl h6
    | 7 => rfl
    | 8 => canon_dig rfl h8
    | 9 => canon_dig rfl h9
    | 10 => rfl
    | 11 => canon_bad (fun _ => hc') (fun e => absurd rfl e) hz
    | n + 12 => rfl) (fail0_11 (r := r))) (fun j hj hE => by
      match j, hj with
      | 0, _ => simp [EndAt, pat, show shp 45 = 45 from rfl, show shp 84 = 84 from rfl, show shp 58 = 58 from rfl, show shp 90 = 90 from rfl, shp_dig h0, shp_dig h1, shp_dig h2, shp_dig h3, shp_dig h5, shp_dig h6, shp_dig h8, shp_dig h9, shp_57 hc'] at hE
      | 1, _ => simp [EndAt, pat, show shp 45 = 45 from rfl, show shp 84 = 84 from rfl, show shp 58 = 58 from rfl, show shp 90 = 90 from rfl, shp_dig h0, shp_dig h1, shp_dig h2, shp_dig h3, shp_dig h5, shp_dig h6, shp_dig h8, shp_dig h9, shp_57 hc'] at hE
      | 2, _ => simp [EndAt, pat, show shp 45 = 45 from rfl, show shp 84 = 84 from rfl, show shp 58 = 58 from rfl, show shp 90 = 90 from rfl, shp_dig h0, shp_dig h1, shp_dig h2, shp_dig h3, shp_dig h5, shp_dig h6, shp_dig h8, shp_dig h9, shp_57 hc'] at hE
      | 3, _ => simp [EndAt, pat, show shp 45 = 45 from rfl, show shp 84 = 84 from rfl, show shp 58 = 58 from rfl, show shp 90 = 90 from rfl, shp_dig h0, shp_dig h1, shp_dig h2, shp_dig h3, shp_dig h5, shp_dig h6, shp_dig h8, shp_dig h9, shp_57 hc'] at hE
      | 4, _ => simp [EndAt, pat, show shp 45 = 45 from rfl, show shp 84 = 84 from rfl, show shp 58 = 58 from rfl, show shp 90 = 90 from rfl, shp_dig h0, shp_dig h1, shp_dig h2, shp_dig h3, shp_dig h5, shp_dig h6, shp_dig h8, shp_dig h9, shp_57 hc'] at hE
      | 5, _ => simp [EndAt, pat, show shp 45 = 45 from rfl, show shp 84 = 84 from rfl, show shp 58 = 58 from rfl, show shp 90 = 90 from rfl, shp_dig h0, shp_dig h1, shp_dig h2, shp_dig h3, shp_dig h5, shp_dig h6, shp_dig h8, shp_dig h9, shp_57 hc'] at hE
      | n + 6, hj => exact absurd hj (by omega))
theorem cls_10 {d0 d1 d2 d3 d5 d6 d8 d9 : Nat} (h0 : isDigit d0 = true) (h1 : isDigit d1 = true) (h2 : isDigit d2 = true) (h3 : isDigit d3 = true) (h5 : isDigit d5 = true) (h6 : isDigit d6 = true) (h8 : isDigit d8 = true) (h9 : isDigit d9 = true) : ∀ rest : List Nat, Cls (d0::d1::d2::d3::45::d5::d6::45::d8::d9::rest)
  | [] => .miss (fails_of (t := d0::d1::d2::d3::45::d5::d6::45::d8::d9::[]) (t' := 48::48::48::48::45::48::48::45::48::48::[]) (by simp only [List.length_cons, List.length_nil]) (fun q => match q with
    | 0 => canon_dig rfl h0
    | 1 => canon_dig rfl h1
    | 2 => canon_dig rfl h2
    | 3 => canon_dig rfl h3
    | 4 => rfl
    | 5 => canon_dig rfl h5
    | 6 => canon_dig rfl h6
    | 7 => rfl
    | 8 => canon_dig rfl h8
    | 9 => canon_dig rfl h9
    | n + 10 => rfl) failE_10) (fun j hj hE => by
      match j, hj with
      | 0, _ => simp [EndAt, pat, show shp 45 = 45 from rfl, show shp 84 = 84 from rfl, show shp 58 = 58 from rfl, show shp 90 = 90 from rfl, shp_dig h0, shp_dig h1, shp_dig h2, shp_dig h3, shp_dig h5, shp_dig h6, shp_dig h8, shp_dig h9] at hE
      | 1, _ => simp [EndAt, pat, show shp 45 = 45 from rfl, show shp 84 = 84 from rfl, show shp 58 = 58 from rfl, show shp 90 = 90 from rfl, shp_dig h0, shp_dig h1, shp_dig h2, shp_dig h3, shp_dig h5, shp_dig h6, shp_dig h8, shp_dig h9] at hE
      | 2, _ => simp [EndAt, pat, show shp 45 = 45 from rfl, show shp 84 = 84 from rfl, show shp 58 = 58 from rfl, show shp 90 = 90 from rfl, shp_dig h0, shp_dig h1, shp_dig h2, shp_dig h3, shp_dig h5, shp_dig h6, shp_dig h8, shp_dig h9] at hE
      | 3, _ => simp [EndAt, pat, show shp 45 = 45 from rfl, show shp 84 = 84 from rfl, show shp 58 = 58 from rfl, show shp 90 = 90 from rfl, shp_dig h0, shp_dig h1, shp_dig h2, shp_dig h3, shp_dig h5, shp_dig h6, shp_dig h8, shp_dig h9] at hE
      | 4, _ => simp [EndAt, pat, show shp 45 = 45 from rfl, show shp 84 = 84 from rfl, show shp 58 = 58 from rfl, show shp 90 = 90 from rfl, shp_dig h0, shp_dig h1, shp_dig h2, shp_dig h3, shp_dig h5, shp_dig h6, shp_dig h8, shp_dig h9] at hE
      | 5, _ => simp [EndAt, pat, show shp 45 = 45 from rfl, show shp 84 = 84 from rfl, show shp 58 = 58 from rfl, show shp 90 = 90 from rfl, shp_dig h0, shp_dig h1, shp_dig h2, shp_dig h3, shp_dig h5, shp_dig h6, shp_dig h8, shp_dig h9] at hE
      | n + 6, hj => exact absurd hj (by omega))
  | c :: r => by
    by_cases hc : c = 84
    · subst hc
      exact cls_11 h0 h1 h2 h3 h5 h6 h8 h9 r
    · by_cases hz : c = 90
      · subst hz
        exact .hit3 h0 h1 h2 h3 h5 h6 h8 h9
      · exact .miss (fails_of (t := d0::d1::d2::d3::45::d5::d6::45::d8::d9::c::r) (t' := 48::48::48::48::45::48::48::45::48::48::0::r) (by simp only [List.length_cons]) (fun q => match q with
    | 0 => canon_dig rfl h0
    | 1 => canon_dig rfl h1
    | 2 => canon_dig rfl h2
    | 3 => canon_dig rfl h3
    | 4 => rfl
    | 5 => canon_dig rfl h5
    | 6 => canon_dig rfl h6
    | 7 => rfl
    | 8 => canon_dig rfl h8
    | 9 => canon_dig rfl h9
    | 10 => canon_bad (fun e => by cases e) (fun _ => hc) hz
    | n + 11 => rfl) (fail0_10 (r := r))) (fun j hj hE => by
      match j, hj with
      | 0, _ => simp [EndAt, pat, show shp 45 = 45 from rfl, show shp 84 = 84 from rfl, show shp 58 = 58 from rfl, show shp 90 = 90 from rfl, shp_dig h0, shp_dig h1, shp_dig h2, shp_dig h3, shp_dig h5, shp_dig h6, shp_dig h8, shp_dig h9, shp_sep (k := 90) rfl hz (by decide), shp_sep (k := 84) rfl hc (by decide)] at hE
      | 1, _ => simp [EndAt, pat, show shp 45 = 45 from rfl, show shp 84 = 84 from rfl, show shp 58 = 58 from rfl, show shp 90 = 90 from rfl, shp_dig h0, shp_dig h1, shp_dig h2, shp_dig h3, shp_dig h5, shp_dig h6, shp_dig h8, shp_dig h9, shp_sep (k := 90) rfl hz (by decide), shp_sep (k := 84) rfl hc (by decide)] at hE
      | 2, _ => simp [EndAt, pat, show shp 45 = 45 from rfl, show shp 84 = 84 from rfl, show shp 58 = 58 from rfl, show shp 90 = 90 from rfl, shp_dig h0, shp_dig h1, shp_dig h2, shp_dig h3, shp_dig h5, shp_dig h6, shp_dig h8, shp_dig h9, shp_sep (k := 90) rfl hz (by decide), shp_sep (k := 84) rfl hc (by decide)] at hE
      | 3, _ => simp [EndAt, pat, show shp 45 = 45 from rfl, show shp 84 = 84 from rfl, show shp 58 = 58 from rfl, show shp 90 = 90 from rfl, shp_dig h0, shp_dig h1, shp_dig h2, shp_dig h3, shp_dig h5, shp_dig h6, shp_dig h8, shp_dig h9, shp_sep (k := 90) rfl hz (by decide), shp_sep (k := 84) rfl hc (by decide)] at hE
      | 4, _ => simp [EndAt, pat, show shp 45 = 45 from rfl, show shp 84 = 84 from rfl, show shp 58 = 58 from rfl, show shp 90 = 90 from rfl, shp_dig h0, shp_dig h1, shp_dig h2, shp_dig h3, shp_dig h5, shp_dig h6, shp_dig h8, shp_dig h9, shp_sep (k := 90) rfl hz (by decide), shp_sep (k := 84) rfl hc (by decide)] at hE
      | 5, _ => simp [EndAt, pat, show shp 45 = 45 from rfl, show shp 84 = 84 from rfl, show shp 58 = 58 from rfl, show shp 90 = 90 from rfl, shp_dig h0, shp_dig h1, shp_dig h2, shp_dig h3, shp_dig h5, shp_dig h6, shp_dig h8, shp_dig h9, shp_sep (k := 90) rfl hz (by decide), shp_sep (k := 84) rfl hc (by decide)] at hE
      | n + 6, hj => exact absurd hj (by omega))
theorem cls_9 {d0 d1 d2 d3 d5 d6 d8 : Nat} (h0 : isDigit d0 = true) (h1 : isDigit d1 = true) (h2 : isDigit d2 = true) (h3 : isDigit d3 = true) (h5 : isDigit d5 = true) (h6 : isDigit d6 = true) (h8 : isDigit d8 = true) : ∀ rest : List Nat, Cls (d0::d1::d2::d3::45::d5::d6::45::d8::rest)
  | [] => .miss (fails_of (t := d0::d1::d2::d3::45::d5::d6::45::d8::[]) (t' := 48::48::48::48::45::48::48::45::48::[]) (by simp only [List.length_cons, List.length_nil]) (fun q => match q with
    | 0 => canon_dig rfl h0
    | 1 => canon_dig rfl h1
    | 2 => canon_dig rfl h2
    | 3 => canon_dig rfl h3
    | 4 => rfl
    | 5 => canon_dig rfl h5
    | 6 => canon_dig rfl h6
    | 7 => rfl
    | 8 => canon_dig rfl h8
    | n + 9 => rfl) failE_9) (fun j hj hE => by
      match j, hj with
      | 0, _ => simp [EndAt, pat, show shp 45 = 45 from rfl, show shp 84 = 84 from rfl, show shp 58 = 58 from rfl, show shp 90 = 90 from rfl, shp_dig h0, shp_dig h1, shp_dig h2, shp_dig h3, shp_dig h5, shp_dig h6, shp_dig h8] at hE
      | 1, _ => simp [EndAt, pat, show shp 45 = 45 from rfl, show shp 84 = 84 from rfl, show shp 58 = 58 from rfl, show shp 90 = 90 from rfl, shp_dig h0, shp_dig h1, shp_dig h2, shp_dig h3, shp_dig h5, shp_dig h6, shp_dig h8] at hE
      | 2, _ => simp [EndAt, pat, show shp 45 = 45 from rfl, show shp 84 = 84 from rfl, show shp 58 = 58 from rfl, show shp 90 = 90 from rfl, shp_dig h0, shp_dig h1, shp_dig h2, shp_dig h3, shp_dig h5, shp_dig h6, shp_dig h8] at hE
      | 3, _ => simp [EndAt, pat, show shp 45 = 45 from rfl, show shp 84 = 84 from rfl, show shp 58 = 58 from rfl, show shp 90 = 90 from rfl, shp_dig h0, shp_dig h1, shp_dig h2, shp_dig h3, shp_dig h5, shp_dig h6, shp_dig h8] at hE
      | 4, _ => simp [EndAt, pat, show shp 45 = 45 from rfl, show shp 84 = 84 from rfl, show shp 58 = 58 from rfl, show shp 90 = 90 from rfl, shp_dig h0, shp_dig h1, shp_dig h2, shp_dig h3, shp_dig h5, shp_dig h6, shp_dig h8] at hE
      | 5, _ => simp [EndAt, pat, show shp 45 = 45 from rfl, show shp 84 = 84 from rfl, show shp 58 = 58 from rfl, show shp 90 = 90 from rfl, shp_dig h0, shp_dig h1, shp_dig h2, shp_dig h3, shp_dig h5, shp_dig h6, shp_dig h8] at hE
      | n + 6, hj => exact absurd hj (by omega))
  | c :: r => by
    by_cases hc : isDigit c = true
    · exact cls_10 h0 h1 h2 h3 h5 h6 h8 hc r
    · have hc' : isDigit c = false := by simpa using hc
      by_cases hz : c = 90
      · subst hz
        exact .miss (fails_of (t := d0::d1::d2::d3::45::d5::d6::45::d8::90::r) (t' := 48::48::48::48::45::48::48::45::48::90::r) (by simp only [List.length_cons]) (fun q => match q with
    | 0 => canon_dig rfl h0
    | 1 => canon_dig rfl h1
    | 2 => canon_dig rfl h2
    | 3 => canon_dig rfl h3
    | 4 => rfl
    | 5 => canon_dig rfl h5
    | 6 => canon_dig rfl h6
    | 7 => rfl
    | 8 => canon_dig rfl h8
    | n + 9 => rfl) (failZ_9 (r := r))) (fun j hj hE => by
      match j, hj with
      | 0, _ => simp [EndAt, pat, show shp 45 = 45 from rfl, show shp 84 = 84 from rfl, show shp 58 = 58 from rfl, show shp 90 = 90 from rfl, shp_dig h0, shp_dig h1, shp_dig h2, shp_dig h3, shp_dig h5, shp_dig h6, shp_dig h8] at hE
      | 1, _ => simp [EndAt, pat, show shp 45 = 45 from rfl, show shp 84 = 84 from rfl, show shp 58 = 58 from rfl, show shp 90 = 90 from rfl, shp_dig h0, shp_dig h1, shp_dig h2, shp_dig h3, shp_dig h5, shp_dig h6, shp_dig h8] at hE
      | 2, _ => simp [EndAt, pat, show shp 45 = 45 from rfl, show shp 84 = 84 from rfl, show shp 58 = 58 from rfl, show shp 90 = 90 from rfl, shp_dig h0, shp_dig h1, shp_dig h2, shp_dig h3, shp_dig h5, shp_dig h6, shp_dig h8] at hE
      | 3, _ => simp [EndAt, pat, show shp 45 = 45 from rfl, show shp 84 = 84 from rfl, show shp 58 = 58 from rfl, show shp 90 = 90 from rfl, shp_dig h0, shp_dig h1, shp_dig h2, shp_dig h3, shp_dig h5, shp_dig h6, shp_dig h8] at hE
      | 4, _ => simp [EndAt, pat, show shp 45 = 45 from rfl, show shp 84 = 84 from rfl, show shp 58 = 58 from rfl, show shp 90 = 90 from rfl, shp_dig h0, shp_dig h1, shp_dig h2, shp_dig h3, shp_dig h5, shp_dig h6, shp_dig h8] at hE
      | 5, _ => simp [EndAt, pat, show shp 45 = 45 from rfl, show shp 84 = 84 from rfl, show shp 58 = 58 from rfl, show shp 90 = 90 from rfl, shp_dig h0, shp_dig h1, shp_dig h2, shp_dig h3, shp_dig h5, shp_dig h6, shp_dig h8] at hE
      | n + 6, hj => exact absurd hj (by omega))
      · exact .miss (fails_of (t := d0::d1::d2::d3::45::d5::d6::45::d8::c::r) (t' := 48::48::48::48::45::48::48::45::48::0::r) (by simp only [List.length_cons]) (fun q => match q with
    | 0 => canon_dig rfl h0
    | 1 => canon_dig rfl h1
    | 2 => canon_dig rfl h2
    | 3 => canon_dig rfl h3
    | 4 => rfl
    | 5 => canon_dig rfl h5
    | 6 => canon_dig rfl h6
    | 7 => rfl
    | 8 => canon_dig rfl h8
    | 9 => canon_bad (fun _ => hc') (fun e => absurd rfl e) hz
    | n + 10 => rfl) (fail0_9 (r := r))) (fun j hj hE => by
      match j, hj with
      | 0, _ => simp [EndAt, pat, show shp 45 = 45 from rfl, show shp 84 = 84 from rfl, show shp 58 = 58 from rfl, show shp 90 = 90 from rfl, shp_dig h0, shp_dig h1, shp_dig h2, shp_dig h3, shp_dig h5, shp_dig h6, shp_dig h8, shp_57 hc'] at hE
      | 1, _ => simp [EndAt, pat, show shp 45 = 45 from rfl, show shp 84 = 84 from rfl, show shp 58 = 58 from rfl, show shp 90 = 90 from rfl, shp_dig h0, shp_dig h1, shp_dig h2, shp_dig h3, shp_dig h5, shp_dig h6, shp_dig h8, shp_57 hc'] at hE
      | 2, _ => simp [EndAt, pat, show shp 45 = 45 from rfl, show shp 84 = 84 from rfl, show shp 58 = 58 from rfl, show shp 90 = 90 from rfl, shp_dig h0, shp_dig h1, shp_dig h2, shp_dig h3, shp_dig h5, shp_dig h6, shp_dig h8, shp_57 hc'] at hE
      | 3, _ => simp [EndAt, pat, show shp 45 = 45 from rfl, show shp 84 = 84 from rfl, show shp 58 = 58 from rfl, show shp 90 = 90 from rfl, shp_dig h0, shp_dig h1, shp_dig h2, shp_dig h3, shp_dig h5, shp_dig h6, shp_dig h8, shp_57 hc'] at hE
      | 4, _ => simp [EndAt, pat, show shp 45 = 45 from rfl, show shp 84 = 84 from rfl, show shp 58 = 58 from rfl, show shp 90 = 90 from rfl, shp_dig h0, shp_dig h1, shp_dig h2, shp_dig h3, shp_dig h5, shp_dig h6, shp_dig h8, shp_57 hc'] at hE
      | 5, _ => simp [EndAt, pat, show shp 45 = 45 from rfl, show shp 84 = 84 from rfl, show shp 58 = 58 from rfl, show shp 90 = 90 from rfl, shp_dig h0, shp_dig h1, shp_dig h2, shp_dig h3, shp_dig h5, shp_dig h6, shp_dig h8, shp_57 hc'] at hE
      | n + 6, hj => exact absurd hj (by omega))
theorem cls_8 {d0 d1 d2 d3 d5 d6 : Nat} (h0 : isDigit d0 = true) (h1 : isDigit d1 = true) (h2 : isDigit d2 = true) (h3 : isDigit d3 = true) (h5 : isDigit d5 = true) (h6 : isDigit d6 = true) : ∀ rest : List Nat, Cls (d0::d1::d2::d3::45::d5::d6::45::rest)
  | [] => .miss (fails_of (t := d0::d1::d2::d3::45::d5::d6::45::[]) (t' := 48::48::48::48::45::48::48::45::[]) (by simp only [List.length_cons, List.length_nil]) (fun q => match q with
    | 0 => canon_dig rfl h0
    | 1 => canon_dig rfl h1
    | 2 => canon_dig rfl h2
    | 3 => canon_dig rfl h3
    | 4 => rfl
    | 5 => canon_dig rfl h5
    | 6 => canon_dig rfl h6
    | 7 => rfl
    | n + 8 => rfl) failE_8) (fun j hj hE => by
      match j, hj with
      | 0, _ => simp [EndAt, pat, show shp 45 = 45 from rfl, show shp 84 = 84 from rfl, show shp 58 = 58 from rfl, show shp 90 = 90 from rfl, shp_dig h0, shp_dig h1, shp_dig h2, shp_dig h3, shp_dig h5, shp_dig h6] at hE
      | 1, _ => simp [EndAt, pat, show shp 45 = 45 from rfl, show shp 84 = 84 from rfl, show shp 58 = 58 from rfl, show shp 90 = 90 from rfl, shp_dig h0, shp_dig h1, shp_dig h2, shp_dig h3, shp_dig h5, shp_dig h6] at hE
      | 2, _ => simp [EndAt, pat, show shp 45 = 45 from rfl, show shp 84 = 84 from rfl, show shp 58 = 58 from rfl, show shp 90 = 90 from rfl, shp_dig h0, shp_dig h1, shp_dig h2, shp_dig h3, shp_dig h5, shp_dig h6] at hE
      | 3, _ => simp [EndAt, pat, show shp 45 = 45 from rfl, show shp 84 = 84 from rfl, show shp 58 = 58 from rfl, show shp 90 = 90 from rfl, shp_dig h0, shp_dig h1, shp_dig h2, shp_dig h3, shp_dig h5, shp_dig h6] at hE
      | 4, _ => simp [EndAt, pat, show shp 45 = 45 from rfl, show shp 84 = 84 from rfl, show shp 58 = 58 from rfl, show shp 90 = 90 from rfl, shp_dig h0, shp_dig h1, shp_dig h2, shp_dig h3, shp_dig h5, shp_dig h6] at hE
      | 5, _ => simp [EndAt, pat, show shp 45 = 45 from rfl, show shp 84 = 84 from rfl, show shp 58 = 58 from rfl, show shp 90 = 90 from rfl, shp_dig h0, shp_dig h1, shp_dig h2, shp_dig h3, shp_dig h5, shp_dig h6] at hE
      | n + 6, hj => exact absurd hj (by omega))
  | c :: r => by
    by_cases hc : isDigit c = true
    · exact cls_9 h0 h1 h2 h3 h5 h6 hc r
    · have hc' : isDigit c = false := by simpa using hc
      by_cases hz : c = 90
      · subst hz
        exact .miss (fails_of (t := d0::d1::d2::d3::45::d5::d6::45::90::r) (t' := 48::48::48::48::45::48::48::45::90::r) (by simp only [List.length_cons]) (fun q => match q with
    | 0 => canon_dig rfl h0
    | 1 => canon_dig rfl h1
    | 2 => canon_dig rfl h2
    | 3 => canon_dig rfl h3
    | 4 => rfl
    | 5 => canon_dig rfl h5
    | 6 => canon_dig rfl h6
    | 7 => rfl
    | n + 8 => rfl) (failZ_8 (r := r))) (fun j hj hE => by
      match j, hj with
      | 0, _ => simp [EndAt, pat, show shp 45 = 45 from rfl, show shp 84 = 84 from rfl, show shp 58 = 58 from rfl, show shp 90 = 90 from rfl, shp_dig h0, shp_dig h1, shp_dig h2, shp_dig h3, shp_dig h5, shp_dig h6] at hE
      | 1, _ => simp [EndAt, pat, show shp 45 = 45 from rfl, show shp 84 = 84 from rfl, show shp 58 = 58 from rfl, show shp 90 = 90 from rfl, shp_dig h0, shp_dig h1, shp_dig h2, shp_dig h3, shp_dig h5, shp_dig h6] at hE
      | 2, _ => simp [EndAt, pat, show shp 45 = 45 from rfl, show shp 84 = 84 from rfl, show shp 58 = 58 from rfl, show shp 90 = 90 from rfl, shp_dig h0, shp_dig h1, shp_dig h2, shp_dig h3, shp_dig h5, shp_dig h6] at hE
      | 3, _ => simp [EndAt, pat, show shp 45 = 45 from rfl, show shp 84 = 84 from rfl, show shp 58 = 58 from rfl, show shp 90 = 90 from rfl, shp_dig h0, shp_dig h1, shp_dig h2, shp_dig h3, shp_dig h5, shp_dig h6] at hE
      | 4, _ => simp [EndAt, pat, show shp 45 = 45 from rfl, show shp 84 = 84 from rfl, show shp 58 = 58 from rfl, show shp 90 = 90 from rfl, shp_dig h0, shp_dig h1, shp_dig h2, shp_dig h3, shp_dig h5, shp_dig h6] at hE
      | 5, _ => simp [EndAt, pat, show shp 45 = 45 from rfl, show shp 84 = 84 from rfl, show shp 58 = 58 from rfl, show shp 90 = 90 from rfl, shp_dig h0, shp_dig h1, shp_dig h2, shp_dig h3, shp_dig h5, shp_dig h6] at hE
      | n + 6, hj => exact absurd hj (by omega))
      · exact .miss (fails_of (t := d0::d1::d2::d3::45::d5::d6::45::c::r) (t' := 48::48::48::48::45::48::48::45::0::r) (by simp only [List.length_cons]) (fun q => match q with
    | 0 => canon_dig rfl h0
    | 1 => canon_dig rfl h1
    | 2 => canon_dig rfl h2
    | 3 => canon_dig rfl h3
    | 4 => rfl
    | 5 => canon_dig rfl h5
    | 6 => canon_dig rfl h6
    | 7 => rfl
    | 8 => canon_bad (fun _ => hc') (fun e => absurd rfl e) hz
    | n + 9 => rfl) (fail0_8 (r := r))) (fun j hj hE => by
      match j, hj with
      | 0, _ => simp [EndAt, pat, show shp 45 = 45 from rfl, show shp 84 = 84 from rfl, show shp 58 = 58 from rfl, show shp 90 = 90 from rfl, shp_dig h0, shp_dig h1, shp_dig h2, shp_dig h3, shp_dig h5, shp_dig h6, shp_57 hc'] at hE
      | 1, _ => simp [EndAt, pat, show shp 45 = 45 from rfl, show shp 84 = 84 from rfl, show shp 58 = 58 from rfl, show shp 90 = 90 from rfl, shp_dig h0, shp_dig h1, shp_dig h2, shp_dig h3, shp_dig h5, shp_dig h6, shp_57 hc'] at hE
      | 2, _ => simp [EndAt, pat, show shp 45 = 45 from rfl, show shp 84 = 84 from rfl, show shp 58 = 58 from rfl, show shp 90 = 90 from rfl, shp_dig h0, shp_dig h1, shp_dig h2, shp_dig h3, shp_dig h5, shp_dig h6, shp_57 hc'] at hE
      | 3, _ => simp [EndAt, pat, show shp 45 = 45 from rfl, show shp 84 = 84 from rfl, show shp 58 = 58 from rfl, show shp 90 = 90 from rfl, shp_dig h0, shp_dig h1, shp_dig h2, shp_dig h3, shp_dig h5, shp_dig h6, shp_57 hc'] at hE
      | 4, _ => simp [EndAt, pat, show shp 45 = 45 from rfl, show shp 84 = 84 from rfl, show shp 58 = 58 from rfl, show shp 90 = 90 from rfl, shp_dig h0, shp_dig h1, shp_dig h2, shp_dig h3, shp_dig h5, shp_dig h6, shp_57 hc'] at hE
      | 5, _ => simp [EndAt, pat, show shp 45 = 45 from rfl, show shp 84 = 84 from rfl, show shp 58 = 58 from rfl, show shp 90 = 90 from rfl, shp_dig h0, shp_dig h1, shp_dig h2, shp_dig h3, shp_dig h5, shp_dig h6, shp_57 hc'] at hE
      | n + 6, hj => exact absurd hj (by omega))
theorem cls_7 {d0 d1 d2 d3 d5 d6 : Nat} (h0 : isDigit d0 = true) (h1 : isDigit d1 = true) (h2 : isDigit d2 = true) (h3 : isDigit d3 = true) (h5 : isDigit d5 = true) (h6 : isDigit d6 = true) : ∀ rest : List Nat, Cls (d0::d1::d2::d3::45::d5::d6::rest)
  | [] => .miss (fails_of (t := d0::d1::d2::d3::45::d5::d6::[]) (t' := 48::48::48::48::45::48::48::[]) (by simp only [List.length_cons, List.length_nil]) (fun q => match q with
    | 0 => canon_dig rfl h0
    | 1 => canon_dig rfl h1
    | 2 => canon_dig rfl h2
    | 3 => canon_dig rfl h3
    | 4 => rfl
    | 5 => canon_dig rfl h5
    | 6 => canon_dig rfl h6
    | n + 7 => rfl) failE_7) (fun j hj hE => by
      match j, hj with
      | 0, _ => simp [EndAt, pat, show shp 45 = 45 from rfl, show shp 84 = 84 from rfl, show shp 58 = 58 from rfl, show shp 90 = 90 from rfl, shp_dig h0, shp_dig h1, shp_dig h2, shp_dig h3, shp_dig h5, shp_dig h6] at hE
      | 1, _ => simp [EndAt, pat, show shp 45 = 45 from rfl, show shp 84 = 84 from rfl, show shp 58 = 58 from rfl, show shp 90 = 90 from rfl, shp_dig h0, shp_dig h1, shp_dig h2, shp_dig h3, shp_dig h5, shp_dig h6] at hE
      | 2, _ => simp [EndAt, pat, show shp 45 = 45 from rfl, show shp 84 = 84 from rfl, show shp 58 = 58 from rfl, show shp 90 = 90 from rfl, shp_dig h0, shp_dig h1, shp_dig h2, shp_dig h3, shp_dig h5, shp_dig h6] at hE
      | 3, _ => simp [EndAt, pat, show shp 45 = 45 from rfl, show shp 84 = 84 from rfl, show shp 58 = 58 from rfl, show shp 90 = 90 from rfl, shp_dig h0, shp_dig h1, shp_dig h2, shp_dig h3, shp_dig h5, shp_dig h6] at hE
      | 4, _ => simp [EndAt, pat, show shp 45 = 45 from rfl, show shp 84 = 84 from rfl, show shp 58 = 58 from rfl, show shp 90 = 90 from rfl, shp_dig h0, shp_dig h1, shp_dig h2, shp_dig h3, shp_dig h5, shp_dig h6] at hE
      | 5, _ => simp [EndAt, pat, show shp 45 = 45 from rfl, show shp 84 = 84 from rfl, show shp 58 = 58 from rfl, show shp 90 = 90 from rfl, shp_dig h0, shp_dig h1, shp_dig h2, shp_dig h3, shp_dig h5, shp_dig h6] at hE
      | n + 6, hj => exact absurd hj (by omega))
  | c :: r => by
    by_cases hc : c = 45
    · subst hc
      exact cls_8 h0 h1 h2 h3 h5 h6 r
    · by_cases hz : c = 90
      · subst hz
        exact .hit2 h0 h1 h2 h3 h5 h6
      · exact .miss (fails_of (t := d0::d1::d2::d3::45::d5::d6::c::r) (t' := 48::48::48::48::45::48::48::0::r) (by simp only [List.length_cons]) (fun q => match q with
    | 0 => canon_dig rfl h0
    | 1 => canon_dig rfl h1
    | 2 => canon_dig rfl h2
    | 3 => canon_dig rfl h3
    | 4 => rfl
    | 5 => canon_dig rfl h5
    | 6 => canon_dig rfl h6
    | 7 => canon_bad (fun e => by cases e) (fun _ => hc) hz
    | n + 8 => rfl) (fail0_7 (r := r))) (fun j hj hE => by
      match j, hj with
      | 0, _ => simp [EndAt, pat, show shp 45 = 45 from rfl, show shp 84 = 84 from rfl, show shp 58 = 58 from rfl, show shp 90 = 90 from rfl, shp_dig h0, shp_dig h1, shp_dig h2, shp_dig h3, shp_dig h5, shp_dig h6, shp_sep (k := 90) rfl hz (by decide), shp_sep (k := 45) rfl hc (by decide)] at hE
      | 1, _ => simp [EndAt, pat, show shp 45 = 45 from rfl, show shp 84 = 84 from rfl, show shp 58 = 58 from rfl, show shp 90 = 90 from rfl, shp_dig h0, shp_dig h1, shp_dig h2, shp_dig h3, shp_dig h5, shp_dig h6, shp_sep (k := 90) rfl hz (by decide), shp_sep (k := 45) rfl hc (by decide)] at hE
      | 2, _ => simp [EndAt, pat, show shp 45 = 45 from rfl, show shp 84 = 84 from rfl, show shp 58 = 58 from rfl, show shp 90 = 90 from rfl, shp_dig h0, shp_dig h1, shp_dig h2, shp_dig h3, shp_dig h5, shp_dig h6, shp_sep (k := 90) rfl hz (by decide), shp_sep (k := 45) rfl hc (by decide)] at hE
      | 3, _ => simp [EndAt, pat, show shp 45 = 45 from rfl, show shp 84 = 84 from rfl, show shp 58 = 58 from rfl, show shp 90 = 90 from rfl, shp_dig h0, shp_dig h1, shp_dig h2, shp_dig h3, shp_dig h5, shp_dig h6, shp_sep (k := 90) rfl hz (by decide), shp_sep (k := 45) rfl hc (by decide)] at hE
      | 4, _ => simp [EndAt, pat, show shp 45 = 45 from rfl, show shp 84 = 84 from rfl, show shp 58 = 58 from rfl, show shp 90 = 90 from rfl, shp_dig h0, shp_dig h1, shp_dig h2, shp_dig h3, shp_dig h5, shp_dig h6, shp_sep (k := 90) rfl hz (by decide), shp_sep (k := 45) rfl hc (by decide)] at hE
      | 5, _ => simp [EndAt, pat, show shp 45 = 45 from rfl, show shp 84 = 84 from rfl, show shp 58 = 58 from rfl, show shp 90 = 90 from rfl, shp_dig h0, shp_dig h1, shp_dig h2, shp_dig h3, shp_dig h5, shp_dig h6, shp_sep (k := 90) rfl hz (by decide), shp_sep (k := 45) rfl hc (by decide)] at hE
      | n + 6, hj => exact absurd hj (by omega))
theorem cls_6 {d0 d1 d2 d3 d5 : Nat} (h0 : isDigit d0 = true) (h1 : isDigit d1 = true) (h2 : isDigit d2 = true) (h3 : isDigit d3 = true) (h5 : isDigit d5 = true) : ∀ rest : List Nat, Cls (d0::d1::d2::d3::45::d5::rest)
  | [] => .miss (fails_of (t := d0::d1::d2::d3::45::d5::[]) (t' := 48::48::48::48::45::48::[]) (by simp only [List.length_cons, List.length_nil]) (fun q => match q with
    | 0 => canon_dig rfl h0
    | 1 => canon_dig rfl h1
    | 2 => canon_dig rfl h2
    | 3 => canon_dig rfl h3
    | 4 => rfl
    | 5 => canon_dig rfl h5
    | n + 6 => rfl) failE_6) (fun j hj hE => by
      match j, hj with
      | 0, _ => simp [EndAt, pat, show shp 45 = 45 from rfl, show shp 84 = 84 from rfl, show shp 58 = 58 from rfl, show shp 90 = 90 from rfl, shp_dig h0, shp_dig h1, shp_dig h2, shp_dig h3, shp_dig h5] at hE
      | 1, _ => simp [EndAt, pat, show shp 45 = 45 from rfl, show shp 84 = 84 from rfl, show shp 58 = 58 from rfl, show shp 90 = 90 from rfl, shp_dig h0, shp_dig h1, shp_dig h2, shp_dig h3, shp_dig h5] at hE
      | 2, _ => simp [EndAt, pat, show shp 45 = 45 from rfl, show shp 84 = 84 from rfl, show shp 58 = 58 from rfl, show shp 90 = 90 from rfl, shp_dig h0, shp_dig h1, shp_dig h2, shp_dig h3, shp_dig h5] at hE
      | 3, _ => simp [EndAt, pat, show shp 45 = 45 from rfl, show shp 84 = 84 from rfl, show shp 58 = 58 from rfl, show shp 90 = 90 from rfl, shp_dig h0, shp_dig h1, shp_dig h2, shp_dig h3, shp_dig h5] at hE
      | 4, _ => simp [EndAt, pat, show shp 45 = 45 from rfl, show shp 84 = 84 from rfl, show shp 58 = 58 from rfl, show shp 90 = 90 from rfl, shp_dig h0, shp_dig h1, shp_dig h2, shp_dig h3, shp_dig h5] at hE
      | 5, _ => simp [EndAt, pat, show shp 45 = 45 from rfl, show shp 84 = 84 from rfl, show shp 58 = 58 from rfl, show shp 90 = 90 from rfl, shp_dig h0, shp_dig h1, shp_dig h2, shp_dig h3, shp_dig h5] at hE
      | n + 6, hj => exact absurd hj (by omega))
  | c :: r => by
    by_cases hc : isDigit c = true
    · exact cls_7 h0 h1 h2 h3 h5 hc r
    · have hc' : isDigit c = false := by simpa using hc
      by_cases hz : c = 90
      · subst hz
        exact .miss (fails_of (t := d0::d1::d2::d3::45::d5::90::r) (t' := 48::48::48::48::45::48::90::r) (by simp only [List.length_cons]) (fun q => match q with
    | 0 => canon_dig rfl h0
    | 1 => canon_dig rfl h1
    | 2 => canon_dig rfl h2
    | 3 => canon_dig rfl h3
    | 4 => rfl
    | 5 => canon_dig rfl h5
    | n + 6 => rfl) (failZ_6 (r := r))) (fun j hj hE => by
      match j, hj with
      | 0, _ => simp [EndAt, pat, show shp 45 = 45 from rfl, show shp 84 = 84 from rfl, show shp 58 = 58 from rfl, show shp 90 = 90 from rfl, shp_dig h0, shp_dig h1, shp_dig h2, shp_dig h3, shp_dig h5] at hE
      | 1, _ => simp [EndAt, pat, show shp 45 = 45 from rfl, show shp 84 = 84 from rfl, show shp 58 = 58 from rfl, show shp 90 = 90 from rfl, shp_dig h0, shp_dig h1, shp_dig h2, shp_dig h3, shp_dig h5] at hE
      | 2, _ => simp [EndAt, pat, show shp 45 = 45 from rfl, show shp 84 = 84 from rfl, show shp 58 = 58 from rfl, show shp 90 = 90 from rfl, shp_dig h0, shp_dig h1, shp_dig h2, shp_dig h3, shp_dig h5] at hE
      | 3, _ => simp [EndAt, pat, show shp 45 = 45 from rfl, show shp 84 = 84 from rfl, show shp 58 = 58 from rfl, show shp 90 = 90 from rfl, shp_dig h0, shp_dig h1, shp_dig h2, shp_dig h3, shp_dig h5] at hE
      | 4, _ => simp [EndAt, pat, show shp 45 = 45 from rfl, show shp 84 = 84 from rfl, show shp 58 = 58 from rfl, show shp 90 = 90 from rfl, shp_dig h0, shp_dig h1, shp_dig h2, shp_dig h3, shp_dig h5] at hE
      | 5, _ => simp [EndAt, pat, show shp 45 = 45 from rfl, show shp 84 = 84 from rfl, show shp 58 = 58 from rfl, show shp 90 = 90 from rfl, shp_dig h0, shp_dig h1, shp_dig h2, shp_dig h3, shp_dig h5] at hE
      | n + 6, hj => exact absurd hj (by omega))
      · exact .miss (fails_of (t := d0::d1::d2::d3::45::d5::c::r) (t' := 48::48::48::48::45::48::0::r) (by simp only [List.length_cons]) (fun q => match q with
    | 0 => canon_dig rfl h0
    | 1 => canon_dig rfl h1
    | 2 => canon_dig rfl h2
    | 3 => canon_dig rfl h3
    | 4 => rfl
    | 5 => canon_dig rfl h5
    | 6 => canon_bad (fun _ => hc') (fun e => absurd rfl e) hz
    | n + 7 => rfl) (fail0_6 (r := r))) (fun j hj hE => by
      match j, hj with
      | 0, _ => simp [EndAt, pat, show shp 45 = 45 from rfl, show shp 84 = 84 from rfl, show shp 58 = 58 from rfl, show shp 90 = 90 from rfl, shp_dig h0, shp_dig h1, shp_dig h2, shp_dig h3, shp_dig h5, shp_57 hc'] at hE
      | 1, _ => simp [EndAt, pat, show shp 45 = 45 from rfl, show shp 84 = 84 from rfl, show shp 58 = 58 from rfl, show shp 90 = 90 from rfl, shp_dig h0, shp_dig h1, shp_dig h2, shp_dig h3, shp_dig h5, shp_57 hc'] at hE
      | 2, _ => simp [EndAt, pat, show shp 45 = 45 from rfl, show shp 84 = 84 from rfl, show shp 58 = 58 from rfl, show shp 90 = 90 from rfl, shp_dig h0, shp_dig h1, shp_dig h2, shp_dig h3, shp_dig h5, shp_57 hc'] at hE
      | 3, _ => simp [EndAt, pat, show shp 45 = 45 from rfl, show shp 84 = 84 from rfl, show shp 58 = 58 from rfl, show shp 90 = 90 from rfl, shp_dig h0, shp_dig h1, shp_dig h2, shp_dig h3, shp_dig h5, shp_57 hc'] at hE
      | 4, _ => simp [EndAt, pat, show shp 45 = 45 from rfl, show shp 84 = 84 from rfl, show shp 58 = 58 from rfl, show shp 90 = 90 from rfl, shp_dig h0, shp_dig h1, shp_dig h2, shp_dig h3, shp_dig h5, shp_57 hc'] at hE
      | 5, _ => simp [EndAt, pat, show shp 45 = 45 from rfl, show shp 84 = 84 from rfl, show shp 58 = 58 from rfl, show shp 90 = 90 from rfl, shp_dig h0, shp_dig h1, shp_dig h2, shp_dig h3, shp_dig h5, shp_57 hc'] at hE
      | n + 6, hj => exact absurd hj (by omega))
theorem cls_5 {d0 d1 d2 d3 : Nat} (h0 : isDigit d0 = true) (h1 : isDigit d1 = true) (h2 : isDigit d2 = true) (h3 : isDigit d3 = true) : ∀ rest : List Nat, Cls (d0::d1::d2::d3::45::rest)
  | [] => .miss (fails_of (t := d0::d1::d2::d3::45::[]) (t' := 48::48::48::48::45::[]) (by simp only [List.length_cons, List.length_nil]) (fun q => match q with
    | 0 => canon_dig rfl h0
    | 1 => canon_dig rfl h1
    | 2 => canon_dig rfl h2
    | 3 => canon_dig rfl h3
    | 4 => rfl
    | n + 5 => rfl) failE_5) (fun j hj hE => by
      match j, hj with
      | 0, _ => simp [EndAt, pat, show shp 45 = 45 from rfl, show shp 84 = 84 from rfl, show shp 58 = 58 from rfl, show shp 90 = 90 from rfl, shp_dig h0, shp_dig h1, shp_dig h2, shp_dig h3] at hE
      | 1, _ => simp [EndAt, pat, show shp 45 = 45 from rfl, show shp 84 = 84 from rfl, show shp 58 = 58 from rfl, show shp 90 = 90 from rfl, shp_dig h0, shp_dig h1, shp_dig h2, shp_dig h3] at hE
      | 2, _ => simp [EndAt, pat, show shp 45 = 45 from rfl, show shp 84 = 84 from rfl, show shp 58 = 58 from rfl, show shp 90 = 90 from rfl, shp_dig h0, shp_dig h1, shp_dig h2, shp_dig h3] at hE
      | 3, _ => simp [EndAt, pat, show shp 45 = 45 from rfl, show shp 84 = 84 from rfl, show shp 58 = 58 from rfl, show shp 90 = 90 from rfl, shp_dig h0, shp_dig h1, shp_dig h2, shp_dig h3] at hE
      | 4, _ => simp [EndAt, pat, show shp 45 = 45 from rfl, show shp 84 = 84 from rfl, show shp 58 = 58 from rfl, show shp 90 = 90 from rfl, shp_dig h0, shp_dig h1, shp_dig h2, shp_dig h3] at hE
      | 5, _ => simp [EndAt, pat, show shp 45 = 45 from rfl, show shp 84 = 84 from rfl, show shp 58 = 58 from rfl, show shp 90 = 90 from rfl, shp_dig h0, shp_dig h1, shp_dig h2, shp_dig h3] at hE
      | n + 6, hj => exact absurd hj (by omega))
  | c :: r => by
    by_cases hc : isDigit c = true
    · exact cls_6 h0 h1 h2 h3 hc r
    · have hc' : isDigit c = false := by simpa using hc
      by_cases hz : c = 90
      · subst hz
        exact .miss (fails_of (t := d0::d1::d2::d3::45::90::r) (t' := 48::48::48::48::45::90::r) (by simp only [List.length_cons]) (fun q => match q with
    | 0 => canon_dig rfl h0
    | 1 => canon_dig rfl h1
    | 2 => canon_dig rfl h2
    | 3 => canon_dig rfl h3
    | 4 => rfl
    | n + 5 => rfl) (failZ_5 (r := r))) (fun j hj hE => by
      match j, hj with
      | 0, _ => simp [EndAt, pat, show shp 45 = 45 from rfl, show shp 84 = 84 from rfl, show shp 58 = 58 from rfl, show shp 90 = 90 from rfl, shp_dig h0, shp_dig h1, shp_dig h2, shp_dig h3] at hE
      | 1, _ => simp [EndAt, pat, show shp 45 = 45 from rfl, show shp 84 = 84 from rfl, show shp 58 = 58 from rfl, show shp 90 = 90 from rfl, shp_dig h0, shp_dig h1, shp_dig h2, shp_dig h3] at hE
      | 2, _ => simp [EndAt, pat, show shp 45 = 45 from rfl, show shp 84 = 84 from rfl, show shp 58 = 58 from rfl, show shp 90 = 90 from rfl, shp_dig h0, shp_dig h1, shp_dig h2, shp_dig h3] at hE
      | 3, _ => simp [EndAt, pat, show shp 45 = 45 from rfl, show shp 84 = 84 from rfl, show shp 58 = 58 from rfl, show shp 90 = 90 from rfl, shp_dig h0, shp_dig h1, shp_dig h2, shp_dig h3] at hE
      | 4, _ => simp [EndAt, pat, show shp 45 = 45 from rfl, show shp 84 = 84 from rfl, show shp 58 = 58 from rfl, show shp 90 = 90 from rfl, shp_dig h0, shp_dig h1, shp_dig h2, shp_dig h3] at hE
      | 5, _ => simp [EndAt, pat, show shp 45 = 45 from rfl, show shp 84 = 84 from rfl, show shp 58 = 58 from rfl, show shp 90 = 90 from rfl, shp_dig h0, shp_dig h1, shp_dig h2, shp_dig h3] at hE
      | n + 6, hj => exact absurd hj (by omega))
      · exact .miss (fails_of (t := d0::d1::d2::d3::45::c::r) (t' := 48::48::48::48::45::0::r) (by simp only [List.length_cons]) (fun q => match q with
    | 0 => canon_dig rfl h0
    | 1 => canon_dig rfl h1
    | 2 => canon_dig rfl h2
    | 3 => canon_dig rfl h3
    | 4 => rfl
    | 5 => canon_bad (fun _ => hc') (fun e => absurd rfl e) hz
    | n + 6 => rfl) (fail0_5 (r := r))) (fun j hj hE => by
      match j, hj with
      | 0, _ => simp [EndAt, pat, show shp 45 = 45 from rfl, show shp 84 = 84 from rfl, show shp 58 = 58 from rfl, show shp 90 = 90 from rfl, shp_dig h0, shp_dig h1, shp_dig h2, shp_dig h3, shp_57 hc'] at hE
      | 1, _ => simp [EndAt, pat, show shp 45 = 45 from rfl, show shp 84 = 84 from rfl, show shp 58 = 58 from rfl, show shp 90 = 90 from rfl, shp_dig h0, shp_dig h1, shp_dig h2, shp_dig h3, shp_57 hc'] at hE
      | 2, _ => simp [EndAt, pat, show shp 45 = 45 from rfl, show shp 84 = 84 from rfl, show shp 58 = 58 from rfl, show shp 90 = 90 from rfl, shp_dig h0, shp_dig h1, shp_dig h2, shp_dig h3, shp_57 hc'] at hE
      | 3, _ => simp [EndAt, pat, show shp 45 = 45 from rfl, show shp 84 = 84 from rfl, show shp 58 = 58 from rfl, show shp 90 = 90 from rfl, shp_dig h0, shp_dig h1, shp_dig h2, shp_dig h3, shp_57 hc'] at hE
      | 4, _ => simp [EndAt, pat, show shp 45 = 45 from rfl, show shp 84 = 84 from rfl, show shp 58 = 58 from rfl, show shp 90 = 90 from rfl, shp_dig h0, shp_dig h1, shp_dig h2, shp_dig h3, shp_57 hc'] at hE
      | 5, _ => simp [EndAt, pat, show shp 45 = 45 from rfl, show shp 84 = 84 from rfl, show shp 58 = 58 from rfl, show shp 90 = 90 from rfl, shp_dig h0, shp_dig h1, shp_dig h2, shp_dig h3, shp_57 hc'] at hE
      | n + 6, hj => exact absurd hj (by omega))
theorem cls_4 {d0 d1 d2 d3 : Nat} (h0 : isDigit d0 = true) (h1 : isDigit d1 = true) (h2 : isDigit d2 = true) (h3 : isDigit d3 = true) : ∀ rest : List Nat, Cls (d0::d1::d2::d3::rest)
  | [] => .miss (fails_short (by simp only [List.length_cons, List.length_nil]; omega)) (fun j hj hE => by
      match j, hj with
      | 0, _ => simp [EndAt, pat, show shp 45 = 45 from rfl, show shp 84 = 84 from rfl, show shp 58 = 58 from rfl, show shp 90 = 90 from rfl, shp_dig h0, shp_dig h1, shp_dig h2, shp_dig h3] at hE
      | 1, _ => simp [EndAt, pat, show shp 45 = 45 from rfl, show shp 84 = 84 from rfl, show shp 58 = 58 from rfl, show shp 90 = 90 from rfl, shp_dig h0, shp_dig h1, shp_dig h2, shp_dig h3] at hE
      | 2, _ => simp [EndAt, pat, show shp 45 = 45 from rfl, show shp 84 = 84 from rfl, show shp 58 = 58 from rfl, show shp 90 = 90 from rfl, shp_dig h0, shp_dig h1, shp_dig h2, shp_dig h3] at hE
      | 3, _ => simp [EndAt, pat, show shp 45 = 45 from rfl, show shp 84 = 84 from rfl, show shp 58 = 58 from rfl, show shp 90 = 90 from rfl, shp_dig h0, shp_dig h1, shp_dig h2, shp_dig h3] at hE
      | 4, _ => simp [EndAt, pat, show shp 45 = 45 from rfl, show shp 84 = 84 from rfl, show shp 58 = 58 from rfl, show shp 90 = 90 from rfl, shp_dig h0, shp_dig h1, shp_dig h2, shp_dig h3] at hE
      | 5, _ => simp [EndAt, pat, show shp 45 = 45 from rfl, show shp 84 = 84 from rfl, show shp 58 = 58 from rfl, show shp 90 = 90 from rfl, shp_dig h0, shp_dig h1, shp_dig h2, shp_dig h3] at hE
      | n + 6, hj => exact absurd hj (by omega))
  | c :: r => by
    by_cases hc : c = 45
    · subst hc
      exact cls_5 h0 h1 h2 h3 r
    · by_cases hz : c = 90
      · subst hz
        exact .hit1 h0 h1 h2 h3
      · exact .miss (fails_of (t := d0::d1::d2::d3::c::r) (t' := 48::48::48::48::0::r) (by simp only [List.length_cons]) (fun q => match q with
    | 0 => canon_dig rfl h0
    | 1 => canon_dig rfl h1
    | 2 => canon_dig rfl h2
    | 3 => canon_dig rfl h3
    | 4 => canon_bad (fun e => by cases e) (fun _ => hc) hz
    | n + 5 => rfl) (fail0_4 (r := r))) (fun j hj hE => by
      match j, hj with
      | 0, _ => simp [EndAt, pat, show shp 45 = 45 from rfl, show shp 84 = 84 from rfl, show shp 58 = 58 from rfl, show shp 90 = 90 from rfl, shp_dig h0, shp_dig h1, shp_dig h2, shp_dig h3, shp_sep (k := 90) rfl hz (by decide), shp_sep (k := 45) rfl hc (by decide)] at hE
      | 1, _ => simp [EndAt, pat, show shp 45 = 45 from rfl, show shp 84 = 84 from rfl, show shp 58 = 58 from rfl, show shp 90 = 90 from rfl, shp_dig h0, shp_dig h1, shp_dig h2, shp_dig h3, shp_sep (k := 90) rfl hz (by decide), shp_sep (k := 45) rfl hc (by decide)] at hE
      | 2, _ => simp [EndAt, pat, show shp 45 = 45 from rfl, show shp 84 = 84 from rfl, show shp 58 = 58 from rfl, show shp 90 = 90 from rfl, shp_dig h0, shp_dig h1, shp_dig h2, shp_dig h3, shp_sep (k := 90) rfl hz (by decide), shp_sep (k := 45) rfl hc (by decide)] at hE
      | 3, _ => simp [EndAt, pat, show shp 45 = 45 from rfl, show shp 84 = 84 from rfl, show shp 58 = 58 from rfl, show shp 90 = 90 from rfl, shp_dig h0, shp_dig h1, shp_dig h2, shp_dig h3, shp_sep (k := 90) rfl hz (by decide), shp_sep (k := 45) rfl hc (by decide)] at hE
      | 4, _ => simp [EndAt, pat, show shp 45 = 45 from rfl, show shp 84 = 84 from rfl, show shp 58 = 58 from rfl, show shp 90 = 90 from rfl, shp_dig h0, shp_dig h1, shp_dig h2, shp_dig h3, shp_sep (k := 90) rfl hz (by decide), shp_sep (k := 45) rfl hc (by decide)] at hE
      | 5, _ => simp [EndAt, pat, show shp 45 = 45 from rfl, show shp 84 = 84 from rfl, show shp 58 = 58 from rfl, show shp 90 = 90 from rfl, shp_dig h0, shp_dig h1, shp_dig h2, shp_dig h3, shp_sep (k := 90) rfl hz (by decide), shp_sep (k := 45) rfl hc (by decide)] at hE
      | n + 6, hj => exact absurd hj (by omega))
theorem cls_3 {d0 d1 d2 : Nat} (h0 : isDigit d0 = true) (h1 : isDigit d1 = true) (h2 : isDigit d2 = true) : ∀ rest : List Nat, Cls (d0::d1::d2::rest)
  | [] => .miss (fails_short (by simp only [List.length_cons, List.length_nil]; omega)) (fun j hj hE => by
      match j, hj with
      | 0, _ => simp [EndAt, pat, show shp 45 = 45 from rfl, show shp 84 = 84 from rfl, show shp 58 = 58 from rfl, show shp 90 = 90 from rfl, shp_dig h0, shp_dig h1, shp_dig h2] at hE
      | 1, _ => simp [EndAt, pat, show shp 45 = 45 from rfl, show shp 84 = 84 from rfl, show shp 58 = 58 from rfl, show shp 90 = 90 from rfl, shp_dig h0, shp_dig h1, shp_dig h2] at hE
      | 2, _ => simp [EndAt, pat, show shp 45 = 45 from rfl, show shp 84 = 84 from rfl, show shp 58 = 58 from rfl, show shp 90 = 90 from rfl, shp_dig h0, shp_dig h1, shp_dig h2] at hE
      | 3, _ => simp [EndAt, pat, show shp 45 = 45 from rfl, show shp 84 = 84 from rfl, show shp 58 = 58 from rfl, show shp 90 = 90 from rfl, shp_dig h0, shp_dig h1, shp_dig h2] at hE
      | 4, _ => simp [EndAt, pat, show shp 45 = 45 from rfl, show shp 84 = 84 from rfl, show shp 58 = 58 from rfl, show shp 90 = 90 from rfl, shp_dig h0, shp_dig h1, shp_dig h2] at hE
      | 5, _ => simp [EndAt, pat, show shp 45 = 45 from rfl, show shp 84 = 84 from rfl, show shp 58 = 58 from rfl, show shp 90 = 90 from rfl, shp_dig h0, shp_dig h1, shp_dig h2] at hE
      | n + 6, hj => exact absurd hj (by omega))
  | c :: r => by
    by_cases hc : isDigit c = true
    · exact cls_4 h0 h1 h2 hc r
    · have hc' : isDigit c = false := by simpa using hc
      by_cases hz : c = 90
      · subst hz
        exact (if hlen : 5 ≤ (d0::d1::d2::90::r).length then .miss (fails_of (t := d0::d1::d2::90::r) (t' := 48::48::48::90::r) (by simp only [List.length_cons]) (fun q => match q with
    | 0 => canon_dig rfl h0
    | 1 => canon_dig rfl h1
    | 2 => canon_dig rfl h2
    | n + 3 => rfl) (failZ_3 (r := r) (by simpa only [List.length_cons] using hlen))) (fun j hj hE => by
      match j, hj with
      | 0, _ => simp [EndAt, pat, show shp 45 = 45 from rfl, show shp 84 = 84 from rfl, show shp 58 = 58 from rfl, show shp 90 = 90 from rfl, shp_dig h0, shp_dig h1, shp_dig h2] at hE
      | 1, _ => simp [EndAt, pat, show shp 45 = 45 from rfl, show shp 84 = 84 from rfl, show shp 58 = 58 from rfl, show shp 90 = 90 from rfl, shp_dig h0, shp_dig h1, shp_dig h2] at hE
      | 2, _ => simp [EndAt, pat, show shp 45 = 45 from rfl, show shp 84 = 84 from rfl, show shp 58 = 58 from rfl, show shp 90 = 90 from rfl, shp_dig h0, shp_dig h1, shp_dig h2] at hE
      | 3, _ => simp [EndAt, pat, show shp 45 = 45 from rfl, show shp 84 = 84 from rfl, show shp 58 = 58 from rfl, show shp 90 = 90 from rfl, shp_dig h0, shp_dig h1, shp_dig h2] at hE
      | 4, _ => simp [EndAt, pat, show shp 45 = 45 from rfl, show shp 84 = 84 from rfl, show shp 58 = 58 from rfl, show shp 90 = 90 from rfl, shp_dig h0, shp_dig h1, shp_dig h2] at hE
      | 5, _ => simp [EndAt, pat, show shp 45 = 45 from rfl, show shp 84 = 84 from rfl, show shp 58 = 58 from rfl, show shp 90 = 90 from rfl, shp_dig h0, shp_dig h1, shp_dig h2] at hE
      | n + 6, hj => exact absurd hj (by omega)) else .miss (fails_short (by omega)) (fun j hj hE => by
      match j, hj with
      | 0, _ => simp [EndAt, pat, show shp 45 = 45 from rfl, show shp 84 = 84 from rfl, show shp 58 = 58 from rfl, show shp 90 = 90 from rfl, shp_dig h0, shp_dig h1, shp_dig h2] at hE
      | 1, _ => simp [EndAt, pat, show shp 45 = 45 from rfl, show shp 84 = 84 from rfl, show shp 58 = 58 from rfl, show shp 90 = 90 from rfl, shp_dig h0, shp_dig h1, shp_dig h2] at hE
      | 2, _ => simp [EndAt, pat, show shp 45 = 45 from rfl, show shp 84 = 84 from rfl, show shp 58 = 58 from rfl, show shp 90 = 90 from rfl, shp_dig h0, shp_dig h1, shp_dig h2] at hE
      | 3, _ => simp [EndAt, pat, show shp 45 = 45 from rfl, show shp 84 = 84 from rfl, show shp 58 = 58 from rfl, show shp 90 = 90 from rfl, shp_dig h0, shp_dig h1, shp_dig h2] at hE
      | 4, _ => simp [EndAt, pat, show shp 45 = 45 from rfl, show shp 84 = 84 from rfl, show shp 58 = 58 from rfl, show shp 90 = 90 from rfl, shp_dig h0, shp_dig h1, shp_dig h2] at hE
      | 5, _ => simp [EndAt, pat, show shp 45 = 45 from rfl, show shp 84 = 84 from rfl, show shp 58 = 58 from rfl, show shp 90 = 90 from rfl, shp_dig h0, shp_dig h1, shp_dig h2] at hE
      | n + 6, hj => exact absurd hj (by omega)))
      · exact (if hlen : 5 ≤ (d0::d1::d2::c::r).length then .miss (fails_of (t := d0::d1::d2::c::r) (t' := 48::48::48::0::r) (by simp only [List.length_cons]) (fun q => match q with
    | 0 => canon_dig rfl h0
    | 1 => canon_dig rfl h1
    | 2 => canon_dig rfl h2
    | 3 => canon_bad (fun _ => hc') (fun e => absurd rfl e) hz
    | n + 4 => rfl) (fail0_3 (r := r) (by simpa only [List.length_cons] using hlen))) (fun j hj hE => by
      match j, hj with
      | 0, _ => simp [EndAt, pat, show shp 45 = 45 from rfl, show shp 84 = 84 from rfl, show shp 58 = 58 from rfl, show shp 90 = 90 from rfl, shp_dig h0, shp_dig h1, shp_dig h2, shp_57 hc'] at hE
      | 1, _ => simp [EndAt, pat, show shp 45 = 45 from rfl, show shp 84 = 84 from rfl, show shp 58 = 58 from rfl, show shp 90 = 90 from rfl, shp_dig h0, shp_dig h1, shp_dig h2, shp_57 hc'] at hE
      | 2, _ => simp [EndAt, pat, show shp 45 = 45 from rfl, show shp 84 = 84 from rfl, show shp 58 = 58 from rfl, show shp 90 = 90 from rfl, shp_dig h0, shp_dig h1, shp_dig h2, shp_57 hc'] at hE
      | 3, _ => simp [EndAt, pat, show shp 45 = 45 from rfl, show shp 84 = 84 from rfl, show shp 58 = 58 from rfl, show shp 90 = 90 from rfl, shp_dig h0, shp_dig h1, shp_dig h2, shp_57 hc'] at hE
      | 4, _ => simp [EndAt, pat, show shp 45 = 45 from rfl, show shp 84 = 84 from rfl, show shp 58 = 58 from rfl, show shp 90 = 90 from rfl, shp_dig h0, shp_dig h1, shp_dig h2, shp_57 hc'] at hE
      | 5, _ => simp [EndAt, pat, show shp 45 = 45 from rfl, show shp 84 = 84 from rfl, show shp 58 = 58 from rfl, show shp 90 = 90 from rfl, shp_dig h0, shp_dig h1, shp_dig h2, shp_57 hc'] at hE
      | n + 6, hj => exact absurd hj (by omega)) else .miss (fails_short (by omega)) (fun j hj hE => by
      match j, hj with
      | 0, _ => simp [EndAt, pat, show shp 45 = 45 from rfl, show shp 84 = 84 from rfl, show shp 58 = 58 from rfl, show shp 90 = 90 from rfl, shp_dig h0, shp_dig h1, shp_dig h2, shp_57 hc'] at hE
      | 1, _ => simp [EndAt, pat, show shp 45 = 45 from rfl, show shp 84 = 84 from rfl, show shp 58 = 58 from rfl, show shp 90 = 90 from rfl, shp_dig h0, shp_dig h1, shp_dig h2, shp_57 hc'] at hE
      | 2, _ => simp [EndAt, pat, show shp 45 = 45 from rfl, show shp 84 = 84 from rfl, show shp 58 = 58 from rfl, show shp 90 = 90 from rfl, shp_dig h0, shp_dig h1, shp_dig h2, shp_57 hc'] at hE
      | 3, _ => simp [EndAt, pat, show shp 45 = 45 from rfl, show shp 84 = 84 from rfl, show shp 58 = 58 from rfl, show shp 90 = 90 from rfl, shp_dig h0, shp_dig h1, shp_dig h2, shp_57 hc'] at hE
      | 4, _ => simp [EndAt, pat, show shp 45 = 45 from rfl, show shp 84 = 84 from rfl, show shp 58 = 58 from rfl, show shp 90 = 90 from rfl, shp_dig h0, shp_dig h1, shp_dig h2, shp_57 hc'] at hE
      | 5, _ => simp [EndAt, pat, show shp 45 = 45 from rfl, show shp 84 = 84 from rfl, show shp 58 = 58 from rfl, show shp 90 = 90 from rfl, shp_dig h0, shp_dig h1, shp_dig h2, shp_57 hc'] at hE
      | n + 6, hj => exact absurd hj (by omega)))
theorem cls_2 {d0 d1 : Nat} (h0 : isDigit d0 = true) (h1 : isDigit d1 = true) : ∀ rest : List Nat, Cls (d0::d1::rest)
  | [] => .miss (fails_short (by simp only [List.length_cons, List.length_nil]; omega)) (fun j hj hE => by
      match j, hj with
      | 0, _ => simp [EndAt, pat, show shp 45 = 45 from rfl, show shp 84 = 84 from rfl, show shp 58 = 58 from rfl, show shp 90 = 90 from rfl, shp_dig h0, shp_dig h1] at hE
      | 1, _ => simp [EndAt, pat, show shp 45 = 45 from rfl, show shp 84 = 84 from rfl, show shp 58 = 58 from rfl, show shp 90 = 90 from rfl, shp_dig h0, shp_dig h1] at hE
      | 2, _ => simp [EndAt, pat, show shp 45 = 45 from rfl, show shp 84 = 84 from rfl, show shp 58 = 58 from rfl, show shp 90 = 90 from rfl, shp_dig h0, shp_dig h1] at hE
      | 3, _ => simp [EndAt, pat, show shp 45 = 45 from rfl, show shp 84 = 84 from rfl, show shp 58 = 58 from rfl, show shp 90 = 90 from rfl, shp_dig h0, shp_dig h1] at hE
      | 4, _ => simp [EndAt, pat, show shp 45 = 45 from rfl, show shp 84 = 84 from rfl, show shp 58 = 58 from rfl, show shp 90 = 90 from rfl, shp_dig h0, shp_dig h1] at hE
      | 5, _ => simp [EndAt, pat, show shp 45 = 45 from rfl, show shp 84 = 84 from rfl, show shp 58 = 58 from rfl, show shp 90 = 90 from rfl, shp_dig h0, shp_dig h1] at hE
      | n + 6, hj => exact absurd hj (by omega))
  | c :: r => by
    by_cases hc : isDigit c = true
    · exact cls_3 h0 h1 hc r
    · have hc' : isDigit c = false := by simpa using hc
      by_cases hz : c = 90
      · subst hz
        exact (if hlen : 5 ≤ (d0::d1::90::r).length then .miss (fails_of (t := d0::d1::90::r) (t' := 48::48::90::r) (by simp only [List.length_cons]) (fun q => match q with
    | 0 => canon_dig rfl h0
    | 1 => canon_dig rfl h1
    | n + 2 => rfl) (failZ_2 (r := r) (by simpa only [List.length_cons] using hlen))) (fun j hj hE => by
      match j, hj with
      | 0, _ => simp [EndAt, pat, show shp 45 = 45 from rfl, show shp 84 = 84 from rfl, show shp 58 = 58 from rfl, show shp 90 = 90 from rfl, shp_dig h0, shp_dig h1] at hE
      | 1, _ => simp [EndAt, pat, show shp 45 = 45 from rfl, show shp 84 = 84 from rfl, show shp 58 = 58 from rfl, show shp 90 = 90 from rfl, shp_dig h0, shp_dig h1] at hE
      | 2, _ => simp [EndAt, pat, show shp 45 = 45 from rfl, show shp 84 = 84 from rfl, show shp 58 = 58 from rfl, show shp 90 = 90 from rfl, shp_dig h0, shp_dig h1] at hE
      | 3, _ => simp [EndAt, pat, show shp 45 = 45 from rfl, show shp 84 = 84 from rfl, show shp 58 = 58 from rfl, show shp 90 = 90 from rfl, shp_dig h0, shp_dig h1] at hE
      | 4, _ => simp [EndAt, pat, show shp 45 = 45 from rfl, show shp 84 = 84 from rfl, show shp 58 = 58 from rfl, show shp 90 = 90 from rfl, shp_dig h0, shp_dig h1] at hE
      | 5, _ => simp [EndAt, pat, show shp 45 = 45 from rfl, show shp 84 = 84 from rfl, show shp 58 = 58 from rfl, show shp 90 = 90 from rfl, shp_dig h0, shp_dig h1] at hE
      | n + 6, hj => exact absurd hj (by omega)) else .miss (fails_short (by omega)) (fun j hj hE => by
      match j, hj with
      | 0, _ => simp [EndAt, pat, show shp 45 = 45 from rfl, show shp 84 = 84 from rfl, show shp 58 = 58 from rfl, show shp 90 = 90 from rfl, shp_dig h0, shp_dig h1] at hE
      | 1, _ => simp [EndAt, pat, show shp 45 = 45 from rfl, show shp 84 = 84 from rfl, show shp 58 = 58 from rfl, show shp 90 = 90 from rfl, shp_dig h0, shp_dig h1] at hE
      | 2, _ => simp [EndAt, pat, show shp 45 = 45 from rfl, show shp 84 = 84 from rfl, show shp 58 = 58 from rfl, show shp 90 = 90 from rfl, shp_dig h0, shp_dig h1] at hE
      | 3, _ => simp [EndAt, pat, show shp 45 = 45 from rfl, show shp 84 = 84 from rfl, show shp 58 = 58 from rfl, show shp 90 = 90 from rfl, shp_dig h0, shp_dig h1] at hE
      | 4, _ => simp [EndAt, pat, show shp 45 = 45 from rfl, show shp 84 = 84 from rfl, show shp 58 = 58 from rfl, show shp 90 = 90 from rfl, shp_dig h0, shp_dig h1] at hE
      | 5, _ => simp [EndAt, pat, show shp 45 = 45 from rfl, show shp 84 = 84 from rfl, show shp 58 = 58 from rfl, show shp 90 = 90 from rfl, shp_dig h0, shp_dig h1] at hE
      | n + 6, hj => exact absurd hj (by omega)))
      · exact (if hlen : 5 ≤ (d0::d1::c::r).length then .miss (fails_of (t := d0::d1::c::r) (t' := 48::48::0::r) (by simp only [List.length_cons]) (fun q => match q with
    | 0 => canon_dig rfl h0
    | 1 => canon_dig rfl h1
    | 2 => canon_bad (fun _ => hc') (fun e => absurd rfl e) hz
    | n + 3 => rfl) (fail0_2 (r := r) (by simpa only [List.length_cons] using hlen))) (fun j hj hE => by
      match j, hj with
      | 0, _ => simp [EndAt, pat, show shp 45 = 45 from rfl, show shp 84 = 84 from rfl, show shp 58 = 58 from rfl, show shp 90 = 90 from rfl, shp_dig h0, shp_dig h1, shp_57 hc'] at hE
      | 1, _ => simp [EndAt, pat, show shp 45 = 45 from rfl, show shp 84 = 84 from rfl, show shp 58 = 58 from rfl, show shp 90 = 90 from rfl, shp_dig h0, shp_dig h1, shp_57 hc'] at hE
      | 2, _ => simp [EndAt, pat, show shp 45 = 45 from rfl, show shp 84 = 84 from rfl, show shp 58 = 58 from rfl, show shp 90 = 90 from rfl, shp_dig h0, shp_dig h1, shp_57 hc'] at hE
      | 3, _ => simp [EndAt, pat, show shp 45 = 45 from rfl, show shp 84 = 84 from rfl, show shp 58 = 58 from rfl, show shp 90 = 90 from rfl, shp_dig h0, shp_dig h1, shp_57 hc'] at hE
      | 4, _ => simp [EndAt, pat, show shp 45 = 45 from rfl, show shp 84 = 84 from rfl, show shp 58 = 58 from rfl, show shp 90 = 90 from rfl, shp_dig h0, shp_dig h1, shp_57 hc'] at hE
      | 5, _ => simp [EndAt, pat, show shp 45 = 45 from rfl, show shp 84 = 84 from rfl, show shp 58 = 58 from rfl, show shp 90 = 90 from rfl, shp_dig h0, shp_dig h1, shp_57 hc'] at hE
      | n + 6, hj => exact absurd hj (by omega)) else .miss (fails_short (by omega)) (fun j hj hE => by
      match j, hj with
      | 0, _ => simp [EndAt, pat, show shp 45 = 45 from rfl, show shp 84 = 84 from rfl, show shp 58 = 58 from rfl, show shp 90 = 90 from rfl, shp_dig h0, shp_dig h1, shp_57 hc'] at hE
      | 1, _ => simp [EndAt, pat, show shp 45 = 45 from rfl, show shp 84 = 84 from rfl, show shp 58 = 58 from rfl, show shp 90 = 90 from rfl, shp_dig h0, shp_dig h1, shp_57 hc'] at hE
      | 2, _ => simp [EndAt, pat, show shp 45 = 45 from rfl, show shp 84 = 84 from rfl, show shp 58 = 58 from rfl, show shp 90 = 90 from rfl, shp_dig h0, shp_dig h1, shp_57 hc'] at hE
      | 3, _ => simp [EndAt, pat, show shp 45 = 45 from rfl, show shp 84 = 84 from rfl, show shp 58 = 58 from rfl, show shp 90 = 90 from rfl, shp_dig h0, shp_dig h1, shp_57 hc'] at hE
      | 4, _ => simp [EndAt, pat, show shp 45 = 45 from rfl, show shp 84 = 84 from rfl, show shp 58 = 58 from rfl, show shp 90 = 90 from rfl, shp_dig h0, shp_dig h1, shp_57 hc'] at hE
      | 5, _ => simp [EndAt, pat, show shp 45 = 45 from rfl, show shp 84 = 84 from rfl, show shp 58 = 58 from rfl, show shp 90 = 90 from rfl, shp_dig h0, shp_dig h1, shp_57 hc'] at hE
      | n + 6, hj => exact absurd hj (by omega)))
theorem cls_1 {d0 : Nat} (h0 : isDigit d0 = true) : ∀ rest : List Nat, Cls (d0::rest)
  | [] => .miss (fails_short (by simp only [List.length_cons, List.length_nil]; omega)) (fun j hj hE => by
      match j, hj with
      | 0, _ => simp [EndAt, pat, show shp 45 = 45 from rfl, show shp 84 = 84 from rfl, show shp 58 = 58 from rfl, show shp 90 = 90 from rfl, shp_dig h0] at hE
      | 1, _ => simp [EndAt, pat, show shp 45 = 45 from rfl, show shp 84 = 84 from rfl, show shp 58 = 58 from rfl, show shp 90 = 90 from rfl, shp_dig h0] at hE
      | 2, _ => simp [EndAt, pat, show shp 45 = 45 from rfl, show shp 84 = 84 from rfl, show shp 58 = 58 from rfl, show shp 90 = 90 from rfl, shp_dig h0] at hE
      | 3, _ => simp [EndAt, pat, show shp 45 = 45 from rfl, show shp 84 = 84 from rfl, show shp 58 = 58 from rfl, show shp 90 = 90 from rfl, shp_dig h0] at hE
      | 4, _ => simp [EndAt, pat, show shp 45 = 45 from rfl, show shp 84 = 84 from rfl, show shp 58 = 58 from rfl, show shp 90 = 90 from rfl, shp_dig h0] at hE
      | 5, _ => simp [EndAt, pat, show shp 45 = 45 from rfl, show shp 84 = 84 from rfl, show shp 58 = 58 from rfl, show shp 90 = 90 from rfl, shp_dig h0] at hE
      | n + 6, hj => exact absurd hj (by omega))
  | c :: r => by
    by_cases hc : isDigit c = true
    · exact cls_2 h0 hc r
    · have hc' : isDigit c = false := by simpa using hc
      by_cases hz : c = 90
      · subst hz
        exact (if hlen : 5 ≤ (d0::90::r).length then .miss (fails_of (t := d0::90::r) (t' := 48::90::r) (by simp only [List.length_cons]) (fun q => match q with
    | 0 => canon_dig rfl h0
    | n + 1 => rfl) (failZ_1 (r := r) (by simpa only [List.length_cons] using hlen))) (fun j hj hE => by
      match j, hj with
      | 0, _ => simp [EndAt, pat, show shp 45 = 45 from rfl, show shp 84 = 84 from rfl, show shp 58 = 58 from rfl, show shp 90 = 90 from rfl, shp_dig h0] at hE
      | 1, _ => simp [EndAt, pat, show shp 45 = 45 from rfl, show shp 84 = 84 from rfl, show shp 58 = 58 from rfl, show shp 90 = 90 from rfl, shp_dig h0] at hE
      | 2, _ => simp [EndAt, pat, show shp 45 = 45 from rfl, show shp 84 = 84 from rfl, show shp 58 = 58 from rfl, show shp 90 = 90 from rfl, shp_dig h0] at hE
      | 3, _ => simp [EndAt, pat, show shp 45 = 45 from rfl, show shp 84 = 84 from rfl, show shp 58 = 58 from rfl, show shp 90 = 90 from rfl, shp_dig h0] at hE
      | 4, _ => simp [EndAt, pat, show shp 45 = 45 from rfl, show shp 84 = 84 from rfl, show shp 58 = 58 from rfl, show shp 90 = 90 from rfl, shp_dig h0] at hE
      | 5, _ => simp [EndAt, pat, show shp 45 = 45 from rfl, show shp 84 = 84 from rfl, show shp 58 = 58 from rfl, show shp 90 = 90 from rfl, shp_dig h0] at hE
      | n + 6, hj => exact absurd hj (by omega)) else .miss (fails_short (by omega)) (fun j hj hE => by
      match j, hj with
      | 0, _ => simp [EndAt, pat, show shp 45 = 45 from rfl, show shp 84 = 84 from rfl, show shp 58 = 58 from rfl, show shp 90 = 90 from rfl, shp_dig h0] at hE
      | 1, _ => simp [EndAt, pat, show shp 45 = 45 from rfl, show shp 84 = 84 from rfl, show shp 58 = 58 from rfl, show shp 90 = 90 from rfl, shp_dig h0] at hE
      | 2, _ => simp [EndAt, pat, show shp 45 = 45 from rfl, show shp 84 = 84 from rfl, show shp 58 = 58 from rfl, show shp 90 = 90 from rfl, shp_dig h0] at hE
      | 3, _ => simp [EndAt, pat, show shp 45 = 45 from rfl, show shp 84 = 84 from rfl, show shp 58 = 58 from rfl, show shp 90 = 90 from rfl, shp_dig h0] at hE
      | 4, _ => simp [EndAt, pat, show shp 45 = 45 from rfl, show shp 84 = 84 from rfl, show shp 58 = 58 from rfl, show shp 90 = 90 from rfl, shp_dig h0] at hE
      | 5, _ => simp [EndAt, pat, show shp 45 = 45 from rfl, show shp 84 = 84 from rfl, show shp 58 = 58 from rfl, show shp 90 = 90 from rfl, shp_dig h0] at hE
      | n + 6, hj => exact absurd hj (by omega)))
      · exact (if hlen : 5 ≤ (d0::c::r).length then .miss (fails_of (t := d0::c::r) (t' := 48::0::r) (by simp only [List.length_cons]) (fun q => match q with
    | 0 => canon_dig rfl h0
    | 1 => canon_bad (fun _ => hc') (fun e => absurd rfl e) hz
    | n + 2 => rfl) (fail0_1 (r := r) (by simpa only [List.length_cons] using hlen))) (fun j hj hE => by
      match j, hj with
      | 0, _ => simp [EndAt, pat, show shp 45 = 45 from rfl, show shp 84 = 84 from rfl, show shp 58 = 58 from rfl, show shp 90 = 90 from rfl, shp_dig h0, shp_57 hc'] at hE
      | 1, _ => simp [EndAt, pat, show shp 45 = 45 from rfl, show shp 84 = 84 from rfl, show shp 58 = 58 from rfl, show shp 90 = 90 from rfl, shp_dig h0, shp_57 hc'] at hE
      | 2, _ => simp [EndAt, pat, show shp 45 = 45 from rfl, show shp 84 = 84 from rfl, show shp 58 = 58 from rfl, show shp 90 = 90 from rfl, shp_dig h0, shp_57 hc'] at hE
      | 3, _ => simp [EndAt, pat, show shp 45 = 45 from rfl, show shp 84 = 84 from rfl, show shp 58 = 58 from rfl, show shp 90 = 90 from rfl, shp_dig h0, shp_57 hc'] at hE
      | 4, _ => simp [EndAt, pat, show shp 45 = 45 from rfl, show shp 84 = 84 from rfl, show shp 58 = 58 from rfl, show shp 90 = 90 from rfl, shp_dig h0, shp_57 hc'] at hE
      | 5, _ => simp [EndAt, pat, show shp 45 = 45 from rfl, show shp 84 = 84 from rfl, show shp 58 = 58 from rfl, show shp 90 = 90 from rfl, shp_dig h0, shp_57 hc'] at hE
      | n + 6, hj => exact absurd hj (by omega)) else .miss (fails_short (by omega)) (fun j hj hE => by
      match j, hj with
      | 0, _ => simp [EndAt, pat, show shp 45 = 45 from rfl, show shp 84 = 84 from rfl, show shp 58 = 58 from rfl, show shp 90 = 90 from rfl, shp_dig h0, shp_57 hc'] at hE
      | 1, _ => simp [EndAt, pat, show shp 45 = 45 from rfl, show shp 84 = 84 from rfl, show shp 58 = 58 from rfl, show shp 90 = 90 from rfl, shp_dig h0, shp_57 hc'] at hE
      | 2, _ => simp [EndAt, pat, show shp 45 = 45 from rfl, show shp 84 = 84 from rfl, show shp 58 = 58 from rfl, show shp 90 = 90 from rfl, shp_dig h0, shp_57 hc'] at hE
      | 3, _ => simp [EndAt, pat, show shp 45 = 45 from rfl, show shp 84 = 84 from rfl, show shp 58 = 58 from rfl, show shp 90 = 90 from rfl, shp_dig h0, shp_57 hc'] at hE
      | 4, _ => simp [EndAt, pat, show shp 45 = 45 from rfl, show shp 84 = 84 from rfl, show shp 58 = 58 from rfl, show shp 90 = 90 from rfl, shp_dig h0, shp_57 hc'] at hE
      | 5, _ => simp [EndAt, pat, show shp 45 = 45 from rfl, show shp 84 = 84 from rfl, show shp 58 = 58 from rfl, show shp 90 = 90 from rfl, shp_dig h0, shp_57 hc'] at hE
      | n + 6, hj => exact absurd hj (by omega)))
theorem cls_0 : ∀ rest : List Nat, Cls rest
  | [] => .miss (fails_short (by simp only [List.length_cons, List.length_nil]; omega)) (fun j hj hE => by
      match j, hj with
      | 0, _ => simp [EndAt, pat, show shp 45 = 45 from rfl, show shp 84 = 84 from rfl, show shp 58 = 58 from rfl, show shp 90 = 90 from rfl] at hE
      | 1, _ => simp [EndAt, pat, show shp 45 = 45 from rfl, show shp 84 = 84 from rfl, show shp 58 = 58 from rfl, show shp 90 = 90 from rfl] at hE
      | 2, _ => simp [EndAt, pat, show shp 45 = 45 from rfl, show shp 84 = 84 from rfl, show shp 58 = 58 from rfl, show shp 90 = 90 from rfl] at hE
      | 3, _ => simp [EndAt, pat, show shp 45 = 45 from rfl, show shp 84 = 84 from rfl, show shp 58 = 58 from rfl, show shp 90 = 90 from rfl] at hE
      | 4, _ => simp [EndAt, pat, show shp 45 = 45 from rfl, show shp 84 = 84 from rfl, show shp 58 = 58 from rfl, show shp 90 = 90 from rfl] at hE
      | 5, _ => simp [EndAt, pat, show shp 45 = 45 from rfl, show shp 84 = 84 from rfl, show shp 58 = 58 from rfl, show shp 90 = 90 from rfl] at hE
      | n + 6, hj => exact absurd hj (by omega))
  | c :: r => by
    by_cases hc : isDigit c = true
    · exact cls_1  hc r
    · have hc' : isDigit c = false := by simpa using hc
      by_cases hz : c = 90
      · subst hz
        exact (if hlen : 5 ≤ (90::r).length then .miss (fails_of (t := 90::r) (t' := 90::r) (by simp only [List.length_cons]) (fun q => match q with
    | n + 0 => rfl) (failZ_0 (r := r) (by simpa only [List.length_cons] using hlen))) (fun j hj hE => by
      match j, hj with
      | 0, _ => simp [EndAt, pat, show shp 45 = 45 from rfl, show shp 84 = 84 from rfl, show shp 58 = 58 from rfl, show shp 90 = 90 from rfl] at hE
      | 1, _ => simp [EndAt, pat, show shp 45 = 45 from rfl, show shp 84 = 84 from rfl, show shp 58 = 58 from rfl, show shp 90 = 90 from rfl] at hE
      | 2, _ => simp [EndAt, pat, show shp 45 = 45 from rfl, show shp 84 = 84 from rfl, show shp 58 = 58 from rfl, show shp 90 = 90 from rfl] at hE
      | 3, _ => simp [EndAt, pat, show shp 45 = 45 from rfl, show shp 84 = 84 from rfl, show shp 58 = 58 from rfl, show shp 90 = 90 from rfl] at hE
      | 4, _ => simp [EndAt, pat, show shp 45 = 45 from rfl, show shp 84 = 84 from rfl, show shp 58 = 58 from rfl, show shp 90 = 90 from rfl] at hE
      | 5, _ => simp [EndAt, pat, show shp 45 = 45 from rfl, show shp 84 = 84 from rfl, show shp 58 = 58 from rfl, show shp 90 = 90 from rfl] at hE
      | n + 6, hj => exact absurd hj (by omega)) else .miss (fails_short (by omega)) (fun j hj hE => by
      match j, hj with
      | 0, _ => simp [EndAt, pat, show shp 45 = 45 from rfl, show shp 84 = 84 from rfl, show shp 58 = 58 from rfl, show shp 90 = 90 from rfl] at hE
      | 1, _ => simp [EndAt, pat, show shp 45 = 45 from rfl, show shp 84 = 84 from rfl, show shp 58 = 58 from rfl, show shp 90 = 90 from rfl] at hE
      | 2, _ => simp [EndAt, pat, show shp 45 = 45 from rfl, show shp 84 = 84 from rfl, show shp 58 = 58 from rfl, show shp 90 = 90 from rfl] at hE
      | 3, _ => simp [EndAt, pat, show shp 45 = 45 from rfl, show shp 84 = 84 from rfl, show shp 58 = 58 from rfl, show shp 90 = 90 from rfl] at hE
      | 4, _ => simp [EndAt, pat, show shp 45 = 45 from rfl, show shp 84 = 84 from rfl, show shp 58 = 58 from rfl, show shp 90 = 90 from rfl] at hE
      | 5, _ => simp [EndAt, pat, show shp 45 = 45 from rfl, show shp 84 = 84 from rfl, show shp 58 = 58 from rfl, show shp 90 = 90 from rfl] at hE
      | n + 6, hj => exact absurd hj (by omega)))
      · exact (if hlen : 5 ≤ (c::r).length then .miss (fails_of (t := c::r) (t' := 0::r) (by simp only [List.length_cons]) (fun q => match q with
    | 0 => canon_bad (fun _ => hc') (fun e => absurd rfl e) hz
    | n + 1 => rfl) (fail0_0 (r := r) (by simpa only [List.length_cons] using hlen))) (fun j hj hE => by
      match j, hj with
      | 0, _ => simp [EndAt, pat, show shp 45 = 45 from rfl, show shp 84 = 84 from rfl, show shp 58 = 58 from rfl, show shp 90 = 90 from rfl, shp_57 hc'] at hE
      | 1, _ => simp [EndAt, pat, show shp 45 = 45 from rfl, show shp 84 = 84 from rfl, show shp 58 = 58 from rfl, show shp 90 = 90 from rfl, shp_57 hc'] at hE
      | 2, _ => simp [EndAt, pat, show shp 45 = 45 from rfl, show shp 84 = 84 from rfl, show shp 58 = 58 from rfl, show shp 90 = 90 from rfl, shp_57 hc'] at hE
      | 3, _ => simp [EndAt, pat, show shp 45 = 45 from rfl, show shp 84 = 84 from rfl, show shp 58 = 58 from rfl, show shp 90 = 90 from rfl, shp_57 hc'] at hE
      | 4, _ => simp [EndAt, pat, show shp 45 = 45 from rfl, show shp 84 = 84 from rfl, show shp 58 = 58 from rfl, show shp 90 = 90 from rfl, shp_57 hc'] at hE
      | 5, _ => simp [EndAt, pat, show shp 45 = 45 from rfl, show shp 84 = 84 from rfl, show shp 58 = 58 from rfl, show shp 90 = 90 from rfl, shp_57 hc'] at hE
      | n + 6, hj => exact absurd hj (by omega)) else .miss (fails_short (by omega)) (fun j hj hE => by
      match j, hj with
      | 0, _ => simp [EndAt, pat, show shp 45 = 45 from rfl, show shp 84 = 84 from rfl, show shp 58 = 58 from rfl, show shp 90 = 90 from rfl, shp_57 hc'] at hE
      | 1, _ => simp [EndAt, pat, show shp 45 = 45 from rfl, show shp 84 = 84 from rfl, show shp 58 = 58 from rfl, show shp 90 = 90 from rfl, shp_57 hc'] at hE
      | 2, _ => simp [EndAt, pat, show shp 45 = 45 from rfl, show shp 84 = 84 from rfl, show shp 58 = 58 from rfl, show shp 90 = 90 from rfl, shp_57 hc'] at hE
      | 3, _ => simp [EndAt, pat, show shp 45 = 45 from rfl, show shp 84 = 84 from rfl, show shp 58 = 58 from rfl, show shp 90 = 90 from rfl, shp_57 hc'] at hE
      | 4, _ => simp [EndAt, pat, show shp 45 = 45 from rfl, show shp 84 = 84 from rfl, show shp 58 = 58 from rfl, show shp 90 = 90 from rfl, shp_57 hc'] at hE
      | 5, _ => simp [EndAt, pat, show shp 45 = 45 from rfl, show shp 84 = 84 from rfl, show shp 58 = 58 from rfl, show shp 90 = 90 from rfl, shp_57 hc'] at hE
      | n + 6, hj => exact absurd hj (by omega)))
end Mine
end
section
open PySem PySem.W PyProof.Rows PySem.Calls
set_option Elab.async false
set_option maxRecDepth 100000
set_option maxHeartbeats 4000000
namespace Mine
theorem look_none_gd : typeLookup (.type "NoneType") (Str.ofString "groupdict") = pure none := by rw [typeLookup_type, builtinLookup_eq_fast]; kernel_rfl
theorem getAttr_none {prog : Program} {w : World} {A : Around} {E : Value → Shared → Prop} {s : Shared} {Q : Value → Shared → Prop} (hA : A.handled = none)
    (h : ∀ h' tk e, Heap.NewExcOf s.heap h' e "AttributeError" → E (.ref e) { s with heap := h', toks := tk }) :
    wpAny (model prog w) A (getAttr .none (Str.ofString "groupdict")) Q E s := by
  obtain ⟨hp, g, d, tk, os⟩ := s
  have hT : ∀ s' : Shared, s'.TypeIs (.none) "NoneType" := fun _ => rfl
  have f1 := sub_AttributeError
  have f3 := F.slot_NoneType_getattribute.lookup
  have f4 := F.slot_NoneType_getattribute.bind (.none)
  have f5 := am_none_getattr_none
  unfold getAttr getAttrBy
  repeat (any_goals (first | assumption | ((with_reducible show wpAny _ _ (call (Value.builtin "object.__getattribute__") _ _) _ _ _); refine call_meets F.slot_NoneType_getattribute (hT _) F.entry_object_getattribute (F.args_object_getattribute_2 _ _) (meets_getattribute_miss_none _ _ look_none_gd (by size_fits)) ⟨hA, fun h' tk' e hx => ?_⟩) | wp_step))
  obtain ⟨t', u', he⟩ := hx.there
  show wpAny _ _ (getattributeRaised _ _ _ _ _ _ _) _ _ _
  unfold getattributeRaised
  repeat (any_goals (first | assumption | wp_step))
  exact h _ _ _ hx.of
theorem look_none_ga : typeLookup (.type "NoneType") "__getattribute__" = pure (some (.builtin "object.__getattribute__")) := F.slot_NoneType_getattribute.lookup
theorem k_nonegd {prog : Program} {w : World} {A : Around} {E : Value → Shared → Prop} {s : Shared} {pl : Sem Bool} {Q : Value × List Value → Shared → Prop} (hA : A.handled = none)
    (h : ∀ h' tk e, Heap.NewExcOf s.heap h' e "AttributeError" → E (.ref e) { s with heap := h', toks := tk }) :
    wpAny (model prog w) A (getMethod .none (Str.ofString "groupdict") pl) Q E s := by
  have hT : s.TypeIs (.none) "NoneType" := rfl
  unfold getMethod
  refine wpAny_bind (wpAny_specialOf hT look_none_ga ?_)
  dsimp only
  rw [if_neg (by decide +kernel)]
  refine wpAny_bind (wpAny_specialOf hT am_none_getattr_none ?_)
  rw [if_neg (by simp)]
  refine wpAny_bind (wpAny_specialOf hT look_none_gd ?_)
  dsimp only
  exact wpAny_bind (getAttr_none hA h)
end Mine
end
section
open PySem PySem.W PyProof.Rows PySem.Calls PySem.Spec
set_option Elab.async false
set_option maxRecDepth 100000
namespace Mine
/-- a new exception of any fields leaves the frame in which it was made -/
theorem leave_newOf {M : Model} {A : Around} {E : Value → Shared → Prop} {s' : Shared} {base g h : Heap} {outer : List Env} {L a e : Addr} {m : Str → Option Value} {name : Str} {scope : Scope} {cd : Value} {Q : Unit → Shared → Prop} {news : List (Addr × Obj)} {cls : String}
    (K : Below A base outer g) (hx : Heap.NewExcOf h s'.heap e cls) (F : Fr g L h m) (N : News g L h news) (hk : scope.kind = .function)
    (hQ : ∀ h', RaisedSN base g outer e (.type cls) news h' → RaisedN base outer e (.type cls) news h' → g.UpToSlots h' → Q () { s' with heap := h' }) :
    wpAny M (A.deeper (envOf name scope L a cd)) (leaving (envOf name scope L a cd) (.ref e)) Q E s' := by
  have K' := K.push (name := name) (a := a) (cd := cd) F hk
  generalize hfs : (envOf name scope L a cd :: outer).filterMap (·.frame) = fs
  have hin : ∀ env ∈ (envOf name scope L a cd :: outer), ∀ b, env.frame = some b → b ∈ fs := fun env he b hb => hfs ▸ List.mem_filterMap.mpr ⟨env, he, hb⟩
  have inv : ∀ b, b ∈ fs → b = L ∨ b ∈ outer.filterMap (·.frame) := fun b hb => kts_mem (hfs ▸ hb)
  have st : base.StaysIn (hideAll h fs) := fun b o q => hideAll_get _ (K'.stays b o q) fun hm => by
    rw [(K'.frames.mem (hfs ▸ hm)).1] at q; cases q
  have sg : ∀ b o, g.get? b = some o → b ∉ outer.filterMap (·.frame) → (hideAll h fs).get? b = some o := fun b o q nm => hideAll_get _ (F.keep b o q) fun hm => by
    rcases inv b hm with z | z
    · rw [z, kts_self F] at q
      cases q
    · exact nm z
  have hl : ∀ q ∈ news, (hideAll h fs).get? q.1 = some q.2 ∧ g.get? q.1 = none ∧ base.get? q.1 = none := fun q hq => by
    have n := N q hq
    refine ⟨hideAll_get _ n.1 fun hm => ?_, n.2.2, fresh_of_stays K.stays n.2.2⟩
    rcases inv _ hm with z | z
    · exact n.2.1 z
    · obtain ⟨o, ho, _⟩ := (K.frames.mem z).2
      rw [n.2.2] at ho; cases ho
  obtain ⟨ob, vs, he, hcls, hd, h1⟩ := hx.there
  obtain ⟨a0, h0⟩ : ∃ a0, vs[0]? = some a0 := ⟨vs[0]'(by have := (Array.getElem?_eq_some_iff.mp h1).1; omega), Array.getElem?_eq_getElem _⟩
  have hen : (hideAll h fs).get? e = none := by
    cases q : (hideAll h fs).get? e with
    | none => rfl
    | some o => have := of_hideAll _ q; rw [hx.new] at this; cases this
  refine wpAny_leaving_firstW (a0 := a0) K'.stack ((funFrames_hide K'.frames hin).of_keeps fun b o hb _ => ⟨o, hx.keeps b o hb, rfl⟩) rfl he (fun b o hb => hx.keeps b o (of_hideAll _ hb)) hen hd h1 h0 fun h' hL => ?_
  obtain ⟨k1, ⟨_, _, k2⟩, k3, k4⟩ := hL
  have R : RaisedSN base g outer e (.type cls) news h' := ⟨_, a0, st, sg, hl, k1, hen, k2, by rw [← hcls]; exact k3⟩
  exact hQ h' R R.toN (((Heap.UpToSlots.of_keeps F.keep).trans (Heap.UpToSlots.of_keeps hx.keeps)).trans k4)
end Mine
end
section
open PySem PySem.W PyProof.Rows PySem.Calls PySem.Spec
set_option Elab.async false
set_option maxRecDepth 100000
set_option maxHeartbeats 8000000
namespace Mine
local macro_rules | `(tactic| walk_at "getMethod ref") => `(tactic| (k_here; (with_reducible show wpAny _ _ (getMethod (Value.ref 59) _ _) _ _ _); (rename Fr _ _ _ _ => zF); (rename Frag.In _ _ => zX); k_dflt (refine k_getmatch zF zX ?_)))
local macro_rules | `(tactic| walk_at "getMethod ref") => `(tactic| (k_here; (with_reducible show wpAny _ _ (getMethod (Value.ref _) (PySem.Str.ofString "groupdict") _) _ _ _); (rename News _ _ _ _ => zN); k_dflt (refine k_getgd zN (by k_mem) ?_)))
local macro_rules | `(tactic| walk_at "call builtin:re.Match.groupdict") => `(tactic| (k_here; (rename Fr _ _ _ _ => zF); (rename News _ _ _ _ => zN); (rename Frag.In _ _ => zX); k_dflt (refine k_gdp zF zN zX (by k_mem) (by k_mem) (by assumption) (by assumption) (by assumption) ?_); intro d' h' tk' vs' G' l1' F' N'))
local macro_rules | `(tactic| walk_at "eval Name") => `(tactic| (k_here; (with_reducible show wpAny _ _ (eval (Expr.Name _ _) _) _ _ _); (rename Fr _ _ _ _ => zF); (rename MF _ _ _ _ => zM); k_dflt (first | refine ld zF (by with_unfolding_all exact MF.lst zM) ?_ | refine ld zF (by with_unfolding_all exact MF.gd zM) ?_ | refine ld zF (by with_unfolding_all exact MF.aw zM) ?_)))
local macro_rules | `(tactic| walk_at "subscriptTail Name Name ref str") => `(tactic| (k_here; (with_reducible show wpAny _ _ (subscriptTail _ _ (Value.ref _) (Value.str _ _)) _ _ _); (rename News _ _ _ _ => zN); (rename GdIs _ _ _ => zG); k_dflt (refine k_gdi zN (by k_mem) zG (by assumption) (by intro a e; cases e) ?_)))
local macro_rules | `(tactic| walk_at "call type:int") => `(tactic| (k_here; (with_reducible show wpAny _ _ (call (Value.type "int") [Value.str _ _]) _ _ _); k_dflt (refine KIN.call_text (by with_reducible assumption) (by assumption) ?_)))
local macro_rules | `(tactic| walk_at "ItemsRest") => `(tactic| (refine hold ?_))
local macro_rules | `(tactic| walk_at "call ref") => `(tactic| (k_here; refine wpAny_call ?_; (rename Below _ _ _ _ => zB); (rename Fr _ _ _ _ => zF); (rename News _ _ _ _ => zN); (rename Frag.In _ _ => zX); (rename Top _ _ _ _ _ _ => zT); k_dflt (refine' code_def zB zF zX zN zT ?kA ?kF ?kK ?k6 ?k7 ?k8 ?k9 ?kB ?_ ?c2 ?c3 ?c4 ?c5; (case kA => exact rfl); (case kF => exact rfl); (case kK => exact rfl); (case k6 => k_is); (case k7 => k_is); (case k8 => ktr_room); (case k9 => exact BindsTo.of_eq rfl); (case c5 => decide); (case kB => exact locs rfl); (case c2 => exact rfl); (case c3 => exact rfl); (case c4 => exact rfl); k_whole; intro g' L' h' FG' F' N' B' X' T'; (try dsimp only); (try k_lift B'); (try k_fold))))
local macro_rules | `(tactic| walk_at "getAttr ref") => `(tactic| (k_here; (with_reducible show wpAny _ _ (getAttr (Value.ref _) (PySem.Str.ofString "year") true) _ _ _); (rename News _ _ _ _ => zN); k_dflt (refine k_dt_year zN (by k_mem) ?_)))
local macro_rules | `(tactic| walk_at "getAttr ref") => `(tactic| (k_here; (with_reducible show wpAny _ _ (getAttr (Value.ref _) (PySem.Str.ofString "month") true) _ _ _); (rename News _ _ _ _ => zN); k_dflt (refine k_dt_month zN (by k_mem) ?_)))
local macro_rules | `(tactic| walk_at "getAttr ref") => `(tactic| (k_here; (with_reducible show wpAny _ _ (getAttr (Value.ref _) (PySem.Str.ofString "day") true) _ _ _); (rename News _ _ _ _ => zN); k_dflt (refine k_dt_day zN (by k_mem) ?_)))
local macro_rules | `(tactic| walk_at "getAttr ref") => `(tactic| (k_here; (with_reducible show wpAny _ _ (getAttr (Value.ref _) (PySem.Str.ofString "hour") true) _ _ _); (rename News _ _ _ _ => zN); k_dflt (refine k_dt_hour zN (by k_mem) ?_)))
local macro_rules | `(tactic| walk_at "getAttr ref") => `(tactic| (k_here; (with_reducible show wpAny _ _ (getAttr (Value.ref _) (PySem.Str.ofString "minute") true) _ _ _); (rename News _ _ _ _ => zN); k_dflt (refine k_dt_minute zN (by k_mem) ?_)))
local macro_rules | `(tactic| walk_at "getAttr ref") => `(tactic| (k_here; (with_reducible show wpAny _ _ (getAttr (Value.ref _) (PySem.Str.ofString "second") true) _ _ _); (rename News _ _ _ _ => zN); k_dflt (refine k_dt_second zN (by k_mem) ?_)))
local macro_rules | `(tactic| walk_at "getAttr ref") => `(tactic| (k_here; (with_reducible show wpAny _ _ (getAttr (Value.ref _) (PySem.Str.ofString "microsecond") true) _ _ _); (rename News _ _ _ _ => zN); k_dflt (refine k_dt_microsecond zN (by k_mem) ?_)))
local macro_rules | `(tactic| walk_at "getAttr ref") => `(tactic| (k_here; (with_reducible show wpAny _ _ (getAttr (Value.ref _) (PySem.Str.ofString "tzinfo") true) _ _ _); (rename News _ _ _ _ => zN); k_dflt (refine k_dt_tzinfo zN (by k_mem) (by rfl) ?_)))
local macro_rules | `(tactic| walk_at "callWith type:datetime.datetime") => `(tactic| (k_here; (with_reducible show wpAny _ _ (callWith _ (Value.type _) _ (backTo _ (starEach [Expr.Starred _ _] _)) []) _ _ _); k_dflt (refine callWith_Sty ?_)))
local macro_rules | `(tactic| walk_at "StarOf ref") => `(tactic| (k_here; (rename MF _ _ _ _ => zM); (rename Fr _ _ _ _ => zF); (rename News _ _ _ _ => zN); k_dflt (refine star_seq zF zN (by k_mem) rfl rfl (.inl rfl) rfl (by assumption) ?_; intro h' F' N')))
theorem k_matchN {w : World} {A : Around} {E : Value → Shared → Prop} {s : Shared} {h₀ : Heap} {L : Addr} {m : Str → Option Value} {prog : Program} {x : Str} {t : Tok} {l : List Nat} {Q : Value → Shared → Prop} (F : Fr h₀ L s.heap m) (X : (K7 w).In h₀)
    (hx : x.cps = ⟨l⟩) (hl : l.length ≤ 1048576) (hf : Fails l) (h : Q .none s) :
    wpAny (model prog w) A (call (.builtin "re.Pattern.match") [.ref 59, .str x t]) Q E s := by
  obtain ⟨m', hr, ho⟩ := hf
  have Y := X.keeps F.keep
  exact wpAny_call_entry slot_match ⟨_, Y 59 _ rfl, rfl⟩ entry_match (matchNone_any (patAt Y) hx hl hr ho ⟨_, rfl, h⟩) (args_match _ _)
local macro_rules | `(tactic| walk_at "call builtin:re.Pattern.match") => `(tactic| (k_here; (rename Fr _ _ _ _ => zF); (rename Frag.In _ _ => zX); k_dflt (refine k_matchN zF zX (by assumption) (by assumption) (by assumption) ?_)))
local macro_rules | `(tactic| walk_at "getMethod none") => `(tactic| (k_here; k_dflt (refine k_nonegd rfl ?_); intro h' tk' e' x'))
local macro_rules | `(tactic| walk_at "leaving ref") => `(tactic| (k_here; (rename Heap.NewExcOf _ _ _ _ => zE); (rename Below _ _ _ _ => zB); (rename Fr _ _ _ _ => zF); (rename News _ _ _ _ => zN); k_dflt (refine leave_newOf zB zE zF zN rfl ?_); clear zE; intro h' S' R' U'; (try dsimp only at S' R' U' ⊢)))
theorem toldN {w : World} (x : Str) (tn : Tok) (l : List Nat) (mg mb : Str → Option Value) (mean : ExcName → Option Value) (loose : List Str)
   (dp un : Nat) (gd : Option (List Code)) (outer : List Env) (base g₀ : Heap) (s : Shared) (R : Result → Shared → Prop) (hg₀ : s.heap = g₀)
    (XB : (hd08.heap_39 w.params).In base) (TB : Top hd08.view_39 loose mean mg mb base)
    (B : Below (arnd dp un gd outer) base outer g₀) (X : (hd08.heap_39 w.params).In g₀) (T : Top hd08.view_39 loose mean mg mb g₀)
    (D : KtsDicts (outer.filterMap (·.frame)) g₀)
    (hx : x.cps = ⟨l⟩) (hl : l.length ≤ 1048576) (hf : Fails l)
    (hret : ∀ t h' tk g', KtsTurn (outer.filterMap (·.frame)) g₀ g' → (∀ b o, g'.get? b = some o → h'.get? b = some o) → R (.ok (.ret (.str (Str.ofString "AttributeError") t))) { s with heap := h', toks := tk })
    (hdp : dp + 20 < recursionLimit) (hu : un + 100 < cLine) :
      codeAny (model PySem.Challenge.rw_ko0126_08.row.prog w) (arnd dp un gd outer) (.call (.ref 73) ⟨[.str x tn], []⟩) R s := by
  w_top off
  subst hg₀
  revert XB X; k_fill; intro XB X
  refine' enter B X T ?k6 ?k7 ?k8 ?k9 ?kB ?_ ?c2 ?c3 ?c4 ?c5
  case k6 => k_is
  case k7 => k_is
  case k8 => ktr_room
  case k9 => exact BindsTo.of_eq rfl
  case c5 => decide
  case kB => exact locs rfl
  case c2 => exact rfl
  case c3 => exact rfl
  case c4 => exact rfl
  k_whole
  intro L' h' F' N'
  obtain ⟨g₀, gens₀, drawn₀, toks₀, os₀⟩ := s
  dsimp only at *
  (try k_fold)
  k_steps
  dsimp only
  k_steps
  rename Fr _ _ _ _ => zF
  rename KtsTurn _ _ _ => zT
  exact hret _ _ _ _ zT zF.keep
end Mine
end
section
open PySem PySem.W PyProof.Rows PySem.Calls PySem.Spec
set_option Elab.async false
set_option maxRecDepth 100000
namespace Mine
/-- a text by its signs -/
def sl (l : List Nat) : Str := ⟨l.toArray⟩
def n2 (a b : Nat) : Int := (((a - 48) * 10 + (b - 48) : Nat) : Int)
def n4 (a b c d : Nat) : Int := (((((a - 48) * 10 + (b - 48)) * 10 + (c - 48)) * 10 + (d - 48) : Nat) : Int)
theorem n2_bound {a b : Nat} (ha : Sre.isDigit a = true) (hb : Sre.isDigit b = true) : 0 ≤ n2 a b ∧ n2 a b < 100 := by
  have := digit_lo ha
  have := digit_lo hb
  unfold n2
  omega
theorem n4_bound {a b c d : Nat} (ha : Sre.isDigit a = true) (hb : Sre.isDigit b = true) (hc : Sre.isDigit c = true) (hd : Sre.isDigit d = true) : 0 ≤ n4 a b c d ∧ n4 a b c d < 10000 := by
  have := digit_lo ha
  have := digit_lo hb
  have := digit_lo hc
  have := digit_lo hd
  unfold n4
  omega
theorem readD2 {a b : Nat} (ha : Sre.isDigit a = true) (hb : Sre.isDigit b = true) : PySem.intText? ⟨#[a, b]⟩ = some (n2 a b) := by
  have r1 := digit_lo ha
  have r2 := digit_lo hb
  rw [intText_digits (x := ⟨#[a, b]⟩) (fun c hc => ?_) (by simp) (by simp [PySem.Str.length])]
  · congr 1
    show (((0 * 10 + (a - 48)) * 10 + (b - 48) : Nat) : Int) = n2 a b
    unfold n2
    omega
  · simp only [List.mem_cons, List.not_mem_nil, or_false] at hc
    rcases hc with rfl | rfl
    · exact r1
    · exact r2
theorem readD4 {a b c d : Nat} (ha : Sre.isDigit a = true) (hb : Sre.isDigit b = true) (hc : Sre.isDigit c = true) (hd : Sre.isDigit d = true) : PySem.intText? ⟨#[a, b, c, d]⟩ = some (n4 a b c d) := by
  have r1 := digit_lo ha
  have r2 := digit_lo hb
  have r3 := digit_lo hc
  have r4 := digit_lo hd
  rw [intText_digits (x := ⟨#[a, b, c, d]⟩) (fun c hc => ?_) (by simp) (by simp [PySem.Str.length])]
  · congr 1
    show (((((0 * 10 + (a - 48)) * 10 + (b - 48)) * 10 + (c - 48)) * 10 + (d - 48) : Nat) : Int) = n4 a b c d
    unfold n4
    omega
  · simp only [List.mem_cons, List.not_mem_nil, or_false] at hc
    rcases hc with rfl | rfl | rfl | rfl
    · exact r1
    · exact r2
    · exact r3
    · exact r4
theorem ext_sl {l m : List Nat} {i j : Nat} (e : (l.drop i).take (j - i) = m) : (sl l).cps.extract i j = ⟨m⟩ := by
  show (List.toArray l).extract i j = _
  rw [List.extract_toArray]
  exact congrArg List.toArray e
theorem hitD1 {d0 d1 d2 d3 : Nat} {r : List Nat} (h0 : Sre.isDigit d0 = true) (h1 : Sre.isDigit d1 = true) (h2 : Sre.isDigit d2 = true) (h3 : Sre.isDigit d3 = true) (hr : r.length ≤ 1000) : Hit (sl (d0::d1::d2::d3::90::r)) (d0::d1::d2::d3::90::r) #[some 0, some 4, none, none, none, none, none, none, none, none, none, none] 1 1 5 := by
  exact ⟨rfl, by simp only [List.length_cons]; omega, hitT_1 (r := r) h0 h1 h2 h3⟩
theorem gdD1 {d0 d1 d2 d3 : Nat} {r : List Nat} (h0 : Sre.isDigit d0 = true) (h1 : Sre.isDigit d1 = true) (h2 : Sre.isDigit d2 = true) (h3 : Sre.isDigit d3 = true) : GdOk (sl (d0::d1::d2::d3::90::r)) #[some 0, some 4, none, none, none, none, none, none, none, none, none, none] 1 5 [n4 d0 d1 d2 d3] := by
  intro vs hl hg i hi
  match i, hi with
  | 0, _ =>
    have g := hg 0 (by decide)
    obtain ⟨t, e⟩ : ∃ t, vs.getD 0 .none = .str ⟨(sl (d0::d1::d2::d3::90::r)).cps.extract 0 4⟩ t := g
    rw [ext_sl (m := [d0, d1, d2, d3]) rfl] at e
    exact ⟨fun _ => ⟨_, t, e, readD4 h0 h1 h2 h3, by show List.length _ ≤ 640; simp⟩, fun h => absurd h (by simp)⟩
  | 1, _ =>
    have g : vs.getD 1 .none = .none := hg 1 (by decide)
    exact ⟨fun h => absurd h (by simp), fun _ => g⟩
  | 2, _ =>
    have g : vs.getD 2 .none = .none := hg 2 (by decide)
    exact ⟨fun h => absurd h (by simp), fun _ => g⟩
  | 3, _ =>
    have g : vs.getD 3 .none = .none := hg 3 (by decide)
    exact ⟨fun h => absurd h (by simp), fun _ => g⟩
  | 4, _ =>
    have g : vs.getD 4 .none = .none := hg 4 (by decide)
    exact ⟨fun h => absurd h (by simp), fun _ => g⟩
  | 5, _ =>
    have g : vs.getD 5 .none = .none := hg 5 (by decide)
    exact ⟨fun h => absurd h (by simp), fun _ => g⟩
theorem hitD2 {d0 d1 d2 d3 d5 d6 : Nat} {r : List Nat} (h0 : Sre.isDigit d0 = true) (h1 : Sre.isDigit d1 = true) (h2 : Sre.isDigit d2 = true) (h3 : Sre.isDigit d3 = true) (h5 : Sre.isDigit d5 = true) (h6 : Sre.isDigit d6 = true) (hr : r.length ≤ 1000) : Hit (sl (d0::d1::d2::d3::45::d5::d6::90::r)) (d0::d1::d2::d3::45::d5::d6::90::r) #[some 0, some 4, some 5, some 7, none, none, none, none, none, none, none, none] 3 2 8 := by
  exact ⟨rfl, by simp only [List.length_cons]; omega, hitT_2 (r := r) h0 h1 h2 h3 h5 h6⟩
theorem gdD2 {d0 d1 d2 d3 d5 d6 : Nat} {r : List Nat} (h0 : Sre.isDigit d0 = true) (h1 : Sre.isDigit d1 = true) (h2 : Sre.isDigit d2 = true) (h3 : Sre.isDigit d3 = true) (h5 : Sre.isDigit d5 = true) (h6 : Sre.isDigit d6 = true) : GdOk (sl (d0::d1::d2::d3::45::d5::d6::90::r)) #[some 0, some 4, some 5, some 7, none, none, none, none, none, none, none, none] 3 8 [n4 d0 d1 d2 d3, n2 d5 d6] := by
  intro vs hl hg i hi
  match i, hi with
  | 0, _ =>
    have g := hg 0 (by decide)
    obtain ⟨t, e⟩ : ∃ t, vs.getD 0 .none = .str ⟨(sl (d0::d1::d2::d3::45::d5::d6::90::r)).cps.extract 0 4⟩ t := g
    rw [ext_sl (m := [d0, d1, d2, d3]) rfl] at e
    exact ⟨fun _ => ⟨_, t, e, readD4 h0 h1 h2 h3, by show List.length _ ≤ 640; simp⟩, fun h => absurd h (by simp)⟩
  | 1, _ =>
    have g := hg 1 (by decide)
    obtain ⟨t, e⟩ : ∃ t, vs.getD 1 .none = .str ⟨(sl (d0::d1::d2::d3::45::d5::d6::90::r)).cps.extract 5 7⟩ t := g
    rw [ext_sl (m := [d5, d6]) rfl] at e
    exact ⟨fun _ => ⟨_, t, e, readD2 h5 h6, by show List.length _ ≤ 640; simp⟩, fun h => absurd h (by simp)⟩
  | 2, _ =>
    have g : vs.getD 2 .none = .none := hg 2 (by decide)
    exact ⟨fun h => absurd h (by simp), fun _ => g⟩
  | 3, _ =>
    have g : vs.getD 3 .none = .none := hg 3 (by decide)
    exact ⟨fun h => absurd h (by simp), fun _ => g⟩
  | 4, _ =>
    have g : vs.getD 4 .none = .none := hg 4 (by decide)
    exact ⟨fun h => absurd h (by simp), fun _ => g⟩
  | 5, _ =>
    have g : vs.getD 5 .none = .none := hg 5 (by decide)
    exact ⟨fun h => absurd h (by simp), fun _ => g⟩
theorem hitD3 {d0 d1 d2 d3 d5 d6 d8 d9 : Nat} {r : List Nat} (h0 : Sre.isDigit d0 = true) (h1 : Sre.isDigit d1 = true) (h2 : Sre.isDigit d2 = true) (h3 : Sre.isDigit d3 = true) (h5 : Sre.isDigit d5 = true) (h6 : Sre.isDigit d6 = true) (h8 : Sre.isDigit d8 = true) (h9 : Sre.isDigit d9 = true) (hr : r.length ≤ 1000) : Hit (sl (d0::d1::d2::d3::45::d5::d6::45::d8::d9::90::r)) (d0::d1::d2::d3::45::d5::d6::45::d8::d9::90::r) #[some 0, some 4, some 5, some 7, some 8, some 10, none, none, none, none, none, none] 5 3 11 := by
  exact ⟨rfl, by simp only [List.length_cons]; omega, hitT_3 (r := r) h0 h1 h2 h3 h5 h6 h8 h9⟩
theorem gdD3 {d0 d1 d2 d3 d5 d6 d8 d9 : Nat} {r : List Nat} (h0 : Sre.isDigit d0 = true) (h1 : Sre.isDigit d1 = true) (h2 : Sre.isDigit d2 = true) (h3 : Sre.isDigit d3 = true) (h5 : Sre.isDigit d5 = true) (h6 : Sre.isDigit d6 = true) (h8 : Sre.isDigit d8 = true) (h9 : Sre.isDigit d9 = true) : GdOk (sl (d0::d1::d2::d3::45::d5::d6::45::d8::d9::90::r)) #[some 0, some 4, some 5, some 7, some 8, some 10, none, none, none, none, none, none] 5 11 [n4 d0 d1 d2 d3, n2 d5 d6, n2 d8 d9] := by
  intro vs hl hg i hi
  match i, hi with
  | 0, _ =>
    have g := hg 0 (by decide)
    obtain ⟨t, e⟩ : ∃ t, vs.getD 0 .none = .str ⟨(sl (d0::d1::d2::d3::45::d5::d6::45::d8::d9::90::r)).cps.extract 0 4⟩ t := g
    rw [ext_sl (m := [d0, d1, d2, d3]) rfl] at e
    exact ⟨fun _ => ⟨_, t, e, readD4 h0 h1 h2 h3, by show List.length _ ≤ 640; simp⟩, fun h => absurd h (by simp)⟩
  | 1, _ =>
    have g := hg 1 (by decide)
    obtain ⟨t, e⟩ : ∃ t, vs.getD 1 .none = .str ⟨(sl (d0::d1::d2::d3::45::d5::d6::45::d8::d9::90::r)).cps.extract 5 7⟩ t := g
    rw [ext_sl (m := [d5, d6]) rfl] at e
    exact ⟨fun _ => ⟨_, t, e, readD2 h5 h6, by show List.length _ ≤ 640; simp⟩, fun h => absurd h (by simp)⟩
  | 2, _ =>
    have g := hg 2 (by decide)
    obtain ⟨t, e⟩ : ∃ t, vs.getD 2 .none = .str ⟨(sl (d0::d1::d2::d3::45::d5::d6::45::d8::d9::90::r)).cps.extract 8 10⟩ t := g
    rw [ext_sl (m := [d8, d9]) rfl] at e
    exact ⟨fun _ => ⟨_, t, e, readD2 h8 h9, by show List.length _ ≤ 640; simp⟩, fun h => absurd h (by simp)⟩
  | 3, _ =>
    have g : vs.getD 3 .none = .none := hg 3 (by decide)
    exact ⟨fun h => absurd h (by simp), fun _ => g⟩
  | 4, _ =>
    have g : vs.getD 4 .none = .none := hg 4 (by decide)
    exact ⟨fun h => absurd h (by simp), fun _ => g⟩
  | 5, _ =>
    have g : vs.getD 5 .none = .none := hg 5 (by decide)
    exact ⟨fun h => absurd h (by simp), fun _ => g⟩
theorem hitD4 {d0 d1 d2 d3 d5 d6 d8 d9 d11 d12 : Nat} {r : List Nat} (h0 : Sre.isDigit d0 = true) (h1 : Sre.isDigit d1 = true) (h2 : Sre.isDigit d2 = true) (h3 : Sre.isDigit d3 = true) (h5 : Sre.isDigit d5 = true) (h6 : Sre.isDigit d6 = true) (h8 : Sre.isDigit d8 = true) (h9 : Sre.isDigit d9 = true) (h11 : Sre.isDigit d11 = true) (h12 : Sre.isDigit d12 = true) (hr : r.length ≤ 1000) : Hit (sl (d0::d1::d2::d3::45::d5::d6::45::d8::d9::84::d11::d12::90::r)) (d0::d1::d2::d3::45::d5::d6::45::d8::d9::84::d11::d12::90::r) #[some 0, some 4, some 5, some 7, some 8, some 10, some 11, some 13, none, none, none, none] 7 4 14 := by
  exact ⟨rfl, by simp only [List.length_cons]; omega, hitT_4 (r := r) h0 h1 h2 h3 h5 h6 h8 h9 h11 h12⟩
theorem gdD4 {d0 d1 d2 d3 d5 d6 d8 d9 d11 d12 : Nat} {r : List Nat} (h0 : Sre.isDigit d0 = true) (h1 : Sre.isDigit d1 = true) (h2 : Sre.isDigit d2 = true) (h3 : Sre.isDigit d3 = true) (h5 : Sre.isDigit d5 = true) (h6 : Sre.isDigit d6 = true) (h8 : Sre.isDigit d8 = true) (h9 : Sre.isDigit d9 = true) (h11 : Sre.isDigit d11 = true) (h12 : Sre.isDigit d12 = true) : GdOk (sl (d0::d1::d2::d3::45::d5::d6::45::d8::d9::84::d11::d12::90::r)) #[some 0, some 4, some 5, some 7, some 8, some 10, some 11, some 13, none, none, none, none] 7 14 [n4 d0 d1 d2 d3, n2 d5 d6, n2 d8 d9, n2 d11 d12] := by
  intro vs hl hg i hi
  match i, hi with
  | 0, _ =>
    have g := hg 0 (by decide)
    obtain ⟨t, e⟩ : ∃ t, vs.getD 0 .none = .str ⟨(sl (d0::d1::d2::d3::45::d5::d6::45::d8::d9::84::d11::d12::90::r)).cps.extract 0 4⟩ t := g
    rw [ext_sl (m := [d0, d1, d2, d3]) rfl] at e
    exact ⟨fun _ => ⟨_, t, e, readD4 h0 h1 h2 h3, by show List.length _ ≤ 640; simp⟩, fun h => absurd h (by simp)⟩
  | 1, _ =>
    have g := hg 1 (by decide)
    obtain ⟨t, e⟩ : ∃ t, vs.getD 1 .none = .str ⟨(sl (d0::d1::d2::d3::45::d5::d6::45::d8::d9::84::d11::d12::90::r)).cps.extract 5 7⟩ t := g
    rw [ext_sl (m := [d5, d6]) rfl] at e
    exact ⟨fun _ => ⟨_, t, e, readD2 h5 h6, by show List.length _ ≤ 640; simp⟩, fun h => absurd h (by simp)⟩
  | 2, _ =>
    have g := hg 2 (by decide)
    obtain ⟨t, e⟩ : ∃ t, vs.getD 2 .none = .str ⟨(sl (d0::d1::d2::d3::45::d5::d6::45::d8::d9::84::d11::d12::90::r)).cps.extract 8 10⟩ t := g
    rw [ext_sl (m := [d8, d9]) rfl] at e
    exact ⟨fun _ => ⟨_, t, e, readD2 h8 h9, by show List.length _ ≤ 640; simp⟩, fun h => absurd h (by simp)⟩
  | 3, _ =>
    have g := hg 3 (by decide)
    obtain ⟨t, e⟩ : ∃ t, vs.getD 3 .none = .str ⟨(sl (d0::d1::d2::d3::45::d5::d6::45::d8::d9::84::d11::d12::90::r)).cps.extract 11 13⟩ t := g
    rw [ext_sl (m := [d11, d12]) rfl] at e
    exact ⟨fun _ => ⟨_, t, e, readD2 h11 h12, by show List.length _ ≤ 640; simp⟩, fun h => absurd h (by simp)⟩
  | 4, _ =>
    have g : vs.getD 4 .none = .none := hg 4 (by decide)
    exact ⟨fun h => absurd h (by simp), fun _ => g⟩
  | 5, _ =>
    have g : vs.getD 5 .none = .none := hg 5 (by decide)
    exact ⟨fun h => absurd h (by simp), fun _ => g⟩
theorem hitD5 {d0 d1 d2 d3 d5 d6 d8 d9 d11 d12 d14 d15 : Nat} {r : List Nat} (h0 : Sre.isDigit d0 = true) (h1 : Sre.isDigit d1 = true) (h2 : Sre.isDigit d2 = true) (h3 : Sre.isDigit d3 = true) (h5 : Sre.isDigit d5 = true) (h6 : Sre.isDigit d6 = true) (h8 : Sre.isDigit d8 = true) (h9 : Sre.isDigit d9 = true) (h11 : Sre.isDigit d11 = true) (h12 : Sre.isDigit d12 = true) (h14 : Sre.isDigit d14 = true) (h15 : Sre.isDigit d15 = true) (hr : r.length ≤ 1000) : Hit (sl (d0::d1::d2::d3::45::d5::d6::45::d8::d9::84::d11::d12::58::d14::d15::90::r)) (d0::d1::d2::d3::45::d5::d6::45::d8::d9::84::d11::d12::58::d14::d15::90::r) #[some 0, some 4, some 5, some 7, some 8, some 10, some 11, some 13, some 14, some 16, none, none] 9 5 17 := by
  exact ⟨rfl, by simp only [List.length_cons]; omega, hitT_5 (r := r) h0 h1 h2 h3 h5 h6 h8 h9 h11 h12 h14 h15⟩
theorem gdD5 {d0 d1 d2 d3 d5 d6 d8 d9 d11 d12 d14 d15 : Nat} {r : List Nat} (h0 : Sre.isDigit d0 = true) (h1 : Sre.isDigit d1 = true) (h2 : Sre.isDigit d2 = true) (h3 : Sre.isDigit d3 = true) (h5 : Sre.isDigit d5 = true) (h6 : Sre.isDigit d6 = true) (h8 : Sre.isDigit d8 = true) (h9 : Sre.isDigit d9 = true) (h11 : Sre.isDigit d11 = true) (h12 : Sre.isDigit d12 = true) (h14 : Sre.isDigit d14 = true) (h15 : Sre.isDigit d15 = true) : GdOk (sl (d0::d1::d2::d3::45::d5::d6::45::d8::d9::84::d11::d12::58::d14::d15::90::r)) #[some 0, some 4, some 5, some 7, some 8, some 10, some 11, some 13, some 14, some 16, none, none] 9 17 [n4 d0 d1 d2 d3, n2 d5 d6, n2 d8 d9, n2 d11 d12, n2 d14 d15] := by
  intro vs hl hg i hi
  match i, hi with
  | 0, _ =>
    have g := hg 0 (by decide)
    obtain ⟨t, e⟩ : ∃ t, vs.getD 0 .none = .str ⟨(sl (d0::d1::d2::d3::45::d5::d6::45::d8::d9::84::d11::d12::58::d14::d15::90::r)).cps.extract 0 4⟩ t := g
    rw [ext_sl (m := [d0, d1, d2, d3]) rfl] at e
    exact ⟨fun _ => ⟨_, t, e, readD4 h0 h1 h2 h3, by show List.length _ ≤ 640; simp⟩, fun h => absurd h (by simp)⟩
  | 1, _ =>
    have g := hg 1 (by decide)
    obtain ⟨t, e⟩ : ∃ t, vs.getD 1 .none = .str ⟨(sl (d0::d1::d2::d3::45::d5::d6::45::d8::d9::84::d11::d12::58::d14::d15::90::r)).cps.extract 5 7⟩ t := g
    rw [ext_sl (m := [d5, d6]) rfl] at e
    exact ⟨fun _ => ⟨_, t, e, readD2 h5 h6, by show List.length _ ≤ 640; simp⟩, fun h => absurd h (by simp)⟩
  | 2, _ =>
    have g := hg 2 (by decide)
    obtain ⟨t, e⟩ : ∃ t, vs.getD 2 .none = .str ⟨(sl (d0::d1::d2::d3::45::d5::d6::45::d8::d9::84::d11::d12::58::d14::d15::90::r)).cps.extract 8 10⟩ t := g
    rw [ext_sl (m := [d8, d9]) rfl] at e
    exact ⟨fun _ => ⟨_, t, e, readD2 h8 h9, by show List.length _ ≤ 640; simp⟩, fun h => absurd h (by simp)⟩
  | 3, _ =>
    have g := hg 3 (by decide)
    obtain ⟨t, e⟩ : ∃ t, vs.getD 3 .none = .str ⟨(sl (d0::d1::d2::d3::45::d5::d6::45::d8::d9::84::d11::d12::58::d14::d15::90::r)).cps.extract 11 13⟩ t := g
    rw [ext_sl (m := [d11, d12]) rfl] at e
    exact ⟨fun _ => ⟨_, t, e, readD2 h11 h12, by show List.length _ ≤ 640; simp⟩, fun h => absurd h (by simp)⟩
  | 4, _ =>
    have g := hg 4 (by decide)
    obtain ⟨t, e⟩ : ∃ t, vs.getD 4 .none = .str ⟨(sl (d0::d1::d2::d3::45::d5::d6::45::d8::d9::84::d11::d12::58::d14::d15::90::r)).cps.extract 14 16⟩ t := g
    rw [ext_sl (m := [d14, d15]) rfl] at e
    exact ⟨fun _ => ⟨_, t, e, readD2 h14 h15, by show List.length _ ≤ 640; simp⟩, fun h => absurd h (by simp)⟩
  | 5, _ =>
    have g : vs.getD 5 .none = .none := hg 5 (by decide)
    exact ⟨fun h => absurd h (by simp), fun _ => g⟩
theorem hitD6 {d0 d1 d2 d3 d5 d6 d8 d9 d11 d12 d14 d15 d17 d18 : Nat} {r : List Nat} (h0 : Sre.isDigit d0 = true) (h1 : Sre.isDigit d1 = true) (h2 : Sre.isDigit d2 = true) (h3 : Sre.isDigit d3 = true) (h5 : Sre.isDigit d5 = true) (h6 : Sre.isDigit d6 = true) (h8 : Sre.isDigit d8 = true) (h9 : Sre.isDigit d9 = true) (h11 : Sre.isDigit d11 = true) (h12 : Sre.isDigit d12 = true) (h14 : Sre.isDigit d14 = true) (h15 : Sre.isDigit d15 = true) (h17 : Sre.isDigit d17 = true) (h18 : Sre.isDigit d18 = true) (hr : r.length ≤ 1000) : Hit (sl (d0::d1::d2::d3::45::d5::d6::45::d8::d9::84::d11::d12::58::d14::d15::58::d17::d18::90::r)) (d0::d1::d2::d3::45::d5::d6::45::d8::d9::84::d11::d12::58::d14::d15::58::d17::d18::90::r) #[some 0, some 4, some 5, some 7, some 8, some 10, some 11, some 13, some 14, some 16, some 17, some 19] 11 6 20 := by
  exact ⟨rfl, by simp only [List.length_cons]; omega, hitT_6 (r := r) h0 h1 h2 h3 h5 h6 h8 h9 h11 h12 h14 h15 h17 h18⟩
theorem gdD6 {d0 d1 d2 d3 d5 d6 d8 d9 d11 d12 d14 d15 d17 d18 : Nat} {r : List Nat} (h0 : Sre.isDigit d0 = true) (h1 : Sre.isDigit d1 = true) (h2 : Sre.isDigit d2 = true) (h3 : Sre.isDigit d3 = true) (h5 : Sre.isDigit d5 = true) (h6 : Sre.isDigit d6 = true) (h8 : Sre.isDigit d8 = true) (h9 : Sre.isDigit d9 = true) (h11 : Sre.isDigit d11 = true) (h12 : Sre.isDigit d12 = true) (h14 : Sre.isDigit d14 = true) (h15 : Sre.isDigit d15 = true) (h17 : Sre.isDigit d17 = true) (h18 : Sre.isDigit d18 = true) : GdOk (sl (d0::d1::d2::d3::45::d5::d6::45::d8::d9::84::d11::d12::58::d14::d15::58::d17::d18::90::r)) #[some 0, some 4, some 5, some 7, some 8, some 10, some 11, some 13, some 14, some 16, some 17, some 19] 11 20 [n4 d0 d1 d2 d3, n2 d5 d6, n2 d8 d9, n2 d11 d12, n2 d14 d15, n2 d17 d18] := by
  intro vs hl hg i hi
  match i, hi with
  | 0, _ =>
    have g := hg 0 (by decide)
    obtain ⟨t, e⟩ : ∃ t, vs.getD 0 .none = .str ⟨(sl (d0::d1::d2::d3::45::d5::d6::45::d8::d9::84::d11::d12::58::d14::d15::58::d17::d18::90::r)).cps.extract 0 4⟩ t := g
    rw [ext_sl (m := [d0, d1, d2, d3]) rfl] at e
    exact ⟨fun _ => ⟨_, t, e, readD4 h0 h1 h2 h3, by show List.length _ ≤ 640; simp⟩, fun h => absurd h (by simp)⟩
  | 1, _ =>
    have g := hg 1 (by decide)
    obtain ⟨t, e⟩ : ∃ t, vs.getD 1 .none = .str ⟨(sl (d0::d1::d2::d3::45::d5::d6::45::d8::d9::84::d11::d12::58::d14::d15::58::d17::d18::90::r)).cps.extract 5 7⟩ t := g
    rw [ext_sl (m := [d5, d6]) rfl] at e
    exact ⟨fun _ => ⟨_, t, e, readD2 h5 h6, by show List.length _ ≤ 640; simp⟩, fun h => absurd h (by simp)⟩
  | 2, _ =>
    have g := hg 2 (by decide)
    obtain ⟨t, e⟩ : ∃ t, vs.getD 2 .none = .str ⟨(sl (d0::d1::d2::d3::45::d5::d6::45::d8::d9::84::d11::d12::58::d14::d15::58::d17::d18::90::r)).cps.extract 8 10⟩ t := g
    rw [ext_sl (m := [d8, d9]) rfl] at e
    exact ⟨fun _ => ⟨_, t, e, readD2 h8 h9, by show List.length _ ≤ 640; simp⟩, fun h => absurd h (by simp)⟩
  | 3, _ =>
    have g := hg 3 (by decide)
    obtain ⟨t, e⟩ : ∃ t, vs.getD 3 .none = .str ⟨(sl (d0::d1::d2::d3::45::d5::d6::45::d8::d9::84::d11::d12::58::d14::d15::58::d17::d18::90::r)).cps.extract 11 13⟩ t := g
    rw [ext_sl (m := [d11, d12]) rfl] at e
    exact ⟨fun _ => ⟨_, t, e, readD2 h11 h12, by show List.length _ ≤ 640; simp⟩, fun h => absurd h (by simp)⟩
  | 4, _ =>
    have g := hg 4 (by decide)
    obtain ⟨t, e⟩ : ∃ t, vs.getD 4 .none = .str ⟨(sl (d0::d1::d2::d3::45::d5::d6::45::d8::d9::84::d11::d12::58::d14::d15::58::d17::d18::90::r)).cps.extract 14 16⟩ t := g
    rw [ext_sl (m := [d14, d15]) rfl] at e
    exact ⟨fun _ => ⟨_, t, e, readD2 h14 h15, by show List.length _ ≤ 640; simp⟩, fun h => absurd h (by simp)⟩
  | 5, _ =>
    have g := hg 5 (by decide)
    obtain ⟨t, e⟩ : ∃ t, vs.getD 5 .none = .str ⟨(sl (d0::d1::d2::d3::45::d5::d6::45::d8::d9::84::d11::d12::58::d14::d15::58::d17::d18::90::r)).cps.extract 17 19⟩ t := g
    rw [ext_sl (m := [d17, d18]) rfl] at e
    exact ⟨fun _ => ⟨_, t, e, readD2 h17 h18, by show List.length _ ≤ 640; simp⟩, fun h => absurd h (by simp)⟩
end Mine
end
section
open PySem PySem.W PyProof.Rows PySem.Calls PySem.Spec
set_option Elab.async false
set_option maxRecDepth 100000
namespace Mine
section
variable {prog : Program} {w : World} {A : Around} {E : Value → Shared → Prop} {s : Shared} {h₀ : Heap} {env : Env} {x : Str} {body : List Stmt} {Q : Flow → Shared → Prop}
theorem UnrPost.mono {L I : Addr} {s₁ : Shared} {it : Obj} {r₁ r₂ : (Str → Option Value) → List (Addr × Obj) → Prop} (h : ∀ m n, r₁ m n → r₂ m n) {f : Flow} {s₂ : Shared} (x : UnrPost h₀ L s₁ I it r₁ Q f s₂) : UnrPost h₀ L s₁ I it r₂ Q f s₂ := by
  cases f with
  | ret v => exact x
  | brk => exact x
  | next => obtain ⟨h', tk, m', news', e, F, N, o, r⟩ := x; exact ⟨h', tk, m', news', e, F, N, o, h _ _ r⟩
  | cont => obtain ⟨h', tk, m', news', e, F, N, o, r⟩ := x; exact ⟨h', tk, m', news', e, F, N, o, h _ _ r⟩
theorem krsInv {I : Addr} {a c : Int} {n : Nat} (Inv : Nat → (Str → Option Value) → List (Addr × Obj) → Prop)
    (hnil : ∀ m news, Inv n m news → ∀ h tk, Fr h₀ env.locals h m → News h₀ env.locals h news → Q .next { s with heap := h, toks := tk })
    (hstep : ∀ i m news, i < n → Inv i m news → ∀ t h tk, Fr h₀ env.locals h (fun y => if y = x then some (.int (a + (i : Int) * c) t) else m y) →
      News h₀ env.locals h ((I, krsIt (a + ((i + 1 : Nat) : Int) * c) ((n : Int) - ((i + 1 : Nat) : Int)) c) :: news) →
      wpAny (model prog w) A (execs body env) (UnrPost h₀ env.locals { s with heap := h, toks := tk } I (krsIt (a + ((i + 1 : Nat) : Int) * c) ((n : Int) - ((i + 1 : Nat) : Int)) c) (fun m' n' => Inv (i + 1) m' n') Q) E { s with heap := h, toks := tk }) :
    ∀ (k i : Nat) (m : Str → Option Value) (news : List (Addr × Obj)), i + k = n → Inv i m news → KrsRest prog w A E h₀ env x body Q s I a c n k i m news
  | 0, i, m, news, e, h0 => by
    have e' : i = n := e
    subst e'
    exact KrsRest.zero (hnil m news h0)
  | k + 1, i, m, news, e, h0 => fun t h tk F N => wpAny_mono (hstep i m news (by omega) h0 t h tk F N) (fun _ _ z => UnrPost.mono (fun m' n' b => krsInv Inv hnil hstep k (i + 1) m' n' (by omega) b) z) fun _ _ e => e
theorem krsLess {I : Addr} {a c : Int} {n : Nat} {m : Str → Option Value} {news less : List (Addr × Obj)} (sub : SubL less news) : ∀ (k i : Nat), KrsRest prog w A E h₀ env x body Q s I a c n k i m less → KrsRest prog w A E h₀ env x body Q s I a c n k i m news
  | 0, _, h => fun h' tk F N => h h' tk F (fun p hp => N p (sub.mem p hp))
  | _ + 1, _, h => fun t h' tk F N => h t h' tk F (fun p hp => N p (by
    rcases List.mem_cons.mp hp with rfl | hp
    · exact List.mem_cons_self ..
    · exact List.mem_cons_of_mem _ (sub.mem p hp)))
structure SF (m : Str → Option Value) (lst : Addr) : Prop where
  script : m "script" = some (.ref lst)
/-- the outer loop of a law: what stands at each turn's head is that script is bound; a turn ends with .next -/
theorem krsGo {r : Addr} {a b c : Int} {t₀ u₀ v₀ : Tok} {m : Str → Option Value} {news : List (Addr × Obj)} {lst : Addr} (hh : A.handled = none) (hr : IsRange s.heap r a b c t₀ u₀ v₀)
    (hsmall : Builtin.Range.small a b c = true) (hpos : 0 ≤ Builtin.Range.rangeSize a b c) (F : Fr h₀ env.locals s.heap m) (N : News h₀ env.locals s.heap news) (hm : SF m lst)
    (hnil : ∀ (m : Str → Option Value) h tk, SF m lst → Fr h₀ env.locals h m → News h₀ env.locals h [] → Q .next { s with heap := h, toks := tk })
    (hstep : ∀ (Q' : Flow → Shared → Prop) (I : Addr) (it : Obj) (m : Str → Option Value) (v : Int), (∃ i : Nat, (i : Int) < Builtin.Range.rangeSize a b c ∧ v = a + (i : Int) * c) → SF m lst → ∀ t h tk, Fr h₀ env.locals h (fun y => if y = x then some (.int v t) else m y) →
      News h₀ env.locals h [(I, it)] → (it.cls = .type "range_iterator") →
      wpAny (model prog w) A (execs body env) (UnrPost h₀ env.locals { s with heap := h, toks := tk } I it (fun m' _ => SF m' lst) Q') E { s with heap := h, toks := tk }) :
    wpAny (model prog w) A (pyIter (.ref r)) (fun it s₂ => LoopAtV prog w A h₀ env x body Q E it s₂) E s := by
  obtain ⟨n, hn⟩ := Int.eq_ofNat_of_zero_le hpos
  refine krs_iter (n := n) hh hr hsmall hn F N fun I _ => ?_
  refine krsLess (less := []) trivial n 0 (krsInv (fun _ m news => SF m lst ∧ news = []) (fun m news hI h tk F N => ?_) (fun i m news hi hI t h tk F N => ?_) n 0 m [] (Nat.zero_add n) ⟨hm, rfl⟩)
  · obtain ⟨h1, rfl⟩ := hI
    exact hnil m h tk h1 F N
  · obtain ⟨h1, rfl⟩ := hI
    have z := hstep Q I _ m _ ⟨i, by rw [hn]; exact_mod_cast hi, rfl⟩ h1 t h tk F N rfl
    refine wpAny_mono z (fun f s₂ x => ?_) fun _ _ e => e
    have less : ∀ {m' : Str → Option Value} {nw : List (Addr × Obj)} {h' : Heap} {it : Obj}, News h₀ env.locals h' ((I, it) :: nw) → News h₀ env.locals h' [(I, it)] := fun N p hp => N p (by
      rw [List.mem_singleton.mp hp]; exact List.mem_cons_self ..)
    cases f with
    | ret v => exact x
    | brk => exact x
    | next => obtain ⟨h', tk, m', news', e, F, N, o, r⟩ := x; exact ⟨h', tk, m', [], e, F, less (m' := m') N, fun _ hp => (nomatch hp), r, rfl⟩
    | cont => obtain ⟨h', tk, m', news', e, F, N, o, r⟩ := x; exact ⟨h', tk, m', [], e, F, less (m' := m') N, fun _ hp => (nomatch hp), r, rfl⟩
end
end Mine
end
section
open PySem PySem.W PyProof.Rows PySem.Calls PySem.Spec
set_option Elab.async false
set_option maxRecDepth 100000
namespace Mine
structure Chunk (ws : List Value) : Prop where
  nums : ∃ ms, IntsAre ws ms
  short : ws.length ≤ 7
section
variable {prog : Program} {w : World} {A : Around} {E : Value → Shared → Prop} {s : Shared} {h₀ : Heap} {L l : Addr} {m : Str → Option Value} {news : List (Addr × Obj)} {value slice : PySem.Expr} {vs ws ws2 : List Value} {ns : List Int} {x : Int} {Q : Value → Shared → Prop}
theorem k_chunk {t1 t2 : Tok} (F : Fr h₀ L s.heap m) (N : News h₀ L s.heap news) (hl : h₀.IsList l vs.toArray) (hi : IntsAre vs ns) (hn : ¬ ((63 : Nat) : Int) < (ns.length : Int)) (h0 : 0 ≤ x)
    (h : ∀ D ws h', Fr h₀ L h' m → News h₀ L h' ((D, listOf (List.toArray ws) 0) :: news) → (∀ p ∈ news, p.1 < D) → Chunk ws → Q (.ref D) { s with heap := h' })
    (hs : subscripted slice false (.ref l) (.ref s.heap.objs.size) = operate [.ref s.heap.objs.size, .ref l] (getItem (.ref l) (.ref s.heap.objs.size)) := by with_unfolding_all rfl) (ht : ∀ r, letTemporaryGo value (.ref l) r = pure () := by intro _; with_unfolding_all rfl) :
    wpAny (model prog w) A (subscriptTail value slice (.ref l) (.ref s.heap.objs.size)) Q E { s with heap := s.heap.push { cls := .type "slice", data := .fields #[.int x t1, .int (x + 7) t2, .none] } } := by
  have hsz : vs.toArray.size ≤ sizeLine := by
    rw [List.size_toArray, hi.length, sizeLine_eq]; omega
  refine kmk_slice_ints (lo := some x) (hi := some (x + 7)) F N (Fr.lst F hl) (.int _ _) (.int _ _) hi (kmk_run hi h0 (by omega)) rfl (fun D ws h' F' N' hlt hI hC hL => h D ws h' F' N' hlt ⟨⟨_, hI⟩, ?_⟩) hs ht hsz
  rw [hI.length, List.length_take]
  omega
abbrev restVs (a b c d e f g : Tok) : List Value := [.int 2000 a, .int 2 b, .int 29 c, .int 23 d, .int 59 e, .int 59 f, .int 5 g]
theorem restVs_ints (a b c d e f g : Tok) : IntsAre (restVs a b c d e f g) [2000, 2, 29, 23, 59, 59, 5] := .cons _ _ (.cons _ _ (.cons _ _ (.cons _ _ (.cons _ _ (.cons _ _ (.cons _ _ .nil))))))
/-- what stands behind the chunk -/
structure Tail (ws ws2 : List Value) : Prop where
  nums : ∃ ms, IntsAre ws2 ms
  len : ws.length + ws2.length = 7
theorem k_tail {a b c d e f g t1 : Tok} (F : Fr h₀ L s.heap m) (N : News h₀ L s.heap news) (hm : (l, listOf (restVs a b c d e f g).toArray 0) ∈ news) (C : Chunk ws) (hx : x = (ws.length : Int))
    (h : ∀ D ws2 h', Fr h₀ L h' m → News h₀ L h' ((D, listOf (List.toArray ws2) 0) :: news) → (∀ p ∈ news, p.1 < D) → Tail ws ws2 → Q (.ref D) { s with heap := h' })
    (hs : subscripted slice false (.ref l) (.ref s.heap.objs.size) = operate [.ref s.heap.objs.size, .ref l] (getItem (.ref l) (.ref s.heap.objs.size)) := by with_unfolding_all rfl) (ht : ∀ r, letTemporaryGo value (.ref l) r = pure () := by intro _; with_unfolding_all rfl) :
    wpAny (model prog w) A (subscriptTail value slice (.ref l) (.ref s.heap.objs.size)) Q E { s with heap := s.heap.push { cls := .type "slice", data := .fields #[.int x t1, .none, .none] } } := by
  subst hx
  have hi := restVs_ints a b c d e f g
  refine kmk_slice_ints (lo := some (ws.length : Int)) (hi := none) F N (News.isList N hm) (.int _ _) .none hi (kmk_from hi (by omega)) rfl (fun D ws2 h' F' N' hlt hI hC hL => h D ws2 h' F' N' hlt ⟨⟨_, hI⟩, ?_⟩) hs ht (by rw [List.size_toArray, sizeLine_eq]; simp only [List.length_cons, List.length_nil]; omega)
  have h7 := C.short
  rw [hI.length, List.length_drop]
  simp only [List.length_cons, List.length_nil, Int.toNat_natCast]
  omega
theorem k_clen {a : Addr} (N : News h₀ L s.heap news) (ha : (a, listOf (List.toArray ws) 0) ∈ news) (C : Chunk ws) (h : Q (.int (ws.length : Int) (s.toks + 1)) { s with toks := s.toks + 1 + 1 }) :
    wpAny (model prog w) A (call (.builtin "len") [.ref a]) Q E s := by
  refine len_list (News.isList N ha) ?_ ?_
  · have := C.short
    rw [List.size_toArray]; omega
  · rw [List.size_toArray]; exact h
theorem ints7 : ∀ {ms : List Int} {vs : List Value}, IntsAre vs ms → vs.length = 7 → ∃ g0 g1 g2 g3 g4 g5 g6 t0 t1 t2 t3 t4 t5 t6, vs = [.int g0 t0, .int g1 t1, .int g2 t2, .int g3 t3, .int g4 t4, .int g5 t5, .int g6 t6] := by
  intro ms vs h hl
  cases h with
  | nil => cases hl
  | cons g0 t0 h =>
  cases h with
  | nil => cases hl
  | cons g1 t1 h =>
  cases h with
  | nil => cases hl
  | cons g2 t2 h =>
  cases h with
  | nil => cases hl
  | cons g3 t3 h =>
  cases h with
  | nil => cases hl
  | cons g4 t4 h =>
  cases h with
  | nil => cases hl
  | cons g5 t5 h =>
  cases h with
  | nil => cases hl
  | cons g6 t6 h =>
  cases h with
  | nil => exact ⟨_, _, _, _, _, _, _, _, _, _, _, _, _, _, rfl⟩
  | cons g7 t7 h => simp at hl
theorem k_given {a b : Addr} (F : Fr h₀ L s.heap m) (N : News h₀ L s.heap news) (ha : (a, listOf (List.toArray ws) 0) ∈ news) (hb : (b, listOf (List.toArray ws2) 0) ∈ news) (C : Chunk ws) (T : Tail ws ws2)
    (h : ∀ D h' g0 g1 g2 g3 g4 g5 g6 t0 t1 t2 t3 t4 t5 t6, Fr h₀ L h' m → News h₀ L h' ((D, listOf #[.int g0 t0, .int g1 t1, .int g2 t2, .int g3 t3, .int g4 t4, .int g5 t5, .int g6 t6] 0) :: news) → (∀ p ∈ news, p.1 < D) → Q (.ref D) { s with heap := h' }) :
    wpAny (model prog w) A (binaryOp .Add (.ref a) (.ref b)) Q E s := by
  obtain ⟨ms, hI⟩ := C.nums
  obtain ⟨ms2, hI2⟩ := T.nums
  obtain ⟨g0, g1, g2, g3, g4, g5, g6, t0, t1, t2, t3, t4, t5, t6, e⟩ := ints7 (hI.append hI2) (by rw [List.length_append]; exact T.len)
  refine kmk_add_lit (zs := ws ++ ws2) F N (News.isList N ha) (News.isList N hb) rfl (fun D h' F' N' hlt => h D h' g0 g1 g2 g3 g4 g5 g6 t0 t1 t2 t3 t4 t5 t6 F' ?_ hlt) ?_
  · rw [e] at N'; exact N'
  · have := T.len
    show ws.length + ws2.length ≤ _
    rw [sizeLine_eq]; omega
structure Six (x : Int) (c : Nat) : Prop where
  eq : x = (c : Int)
theorem k_parts0 {v0 v1 v2 v3 v4 v5 : Value} {n : Nat} {y : Int} {t1 : Tok} (F : Fr h₀ L s.heap m) (N : News h₀ L s.heap news) (hm : (l, listOf #[v0, v1, v2, v3, v4, v5] n) ∈ news) (S : Six y 0)
    (h : ∀ D h', Fr h₀ L h' m → News h₀ L h' ((D, listOf #[v0] 0) :: news) → (∀ p ∈ news, p.1 < D) → Q (.ref D) { s with heap := h' })
    (hs : subscripted slice false (.ref l) (.ref s.heap.objs.size) = operate [.ref s.heap.objs.size, .ref l] (getItem (.ref l) (.ref s.heap.objs.size)) := by with_unfolding_all rfl) (ht : ∀ r, letTemporaryGo value (.ref l) r = pure () := by intro _; with_unfolding_all rfl) :
    wpAny (model prog w) A (subscriptTail value slice (.ref l) (.ref s.heap.objs.size)) Q E { s with heap := s.heap.push { cls := .type "slice", data := .fields #[.none, .int (1 + y) t1, .none] } } := by
  have e := S.eq
  subst e
  exact kmk_slice_lit (lo := none) (hi := some (1 + ((0 : Nat) : Int))) (its := #[v0, v1, v2, v3, v4, v5]) (zs := [v0]) F N (News.isList N hm) .none (.int _ _) rfl h hs ht (by show 6 ≤ _; rw [sizeLine_eq]; omega)
theorem k_parts1 {v0 v1 v2 v3 v4 v5 : Value} {n : Nat} {y : Int} {t1 : Tok} (F : Fr h₀ L s.heap m) (N : News h₀ L s.heap news) (hm : (l, listOf #[v0, v1, v2, v3, v4, v5] n) ∈ news) (S : Six y 1)
    (h : ∀ D h', Fr h₀ L h' m → News h₀ L h' ((D, listOf #[v0, v1] 0) :: news) → (∀ p ∈ news, p.1 < D) → Q (.ref D) { s with heap := h' })
    (hs : subscripted slice false (.ref l) (.ref s.heap.objs.size) = operate [.ref s.heap.objs.size, .ref l] (getItem (.ref l) (.ref s.heap.objs.size)) := by with_unfolding_all rfl) (ht : ∀ r, letTemporaryGo value (.ref l) r = pure () := by intro _; with_unfolding_all rfl) :
    wpAny (model prog w) A (subscriptTail value slice (.ref l) (.ref s.heap.objs.size)) Q E { s with heap := s.heap.push { cls := .type "slice", data := .fields #[.none, .int (1 + y) t1, .none] } } := by
  have e := S.eq
  subst e
  exact kmk_slice_lit (lo := none) (hi := some (1 + ((1 : Nat) : Int))) (its := #[v0, v1, v2, v3, v4, v5]) (zs := [v0, v1]) F N (News.isList N hm) .none (.int _ _) rfl h hs ht (by show 6 ≤ _; rw [sizeLine_eq]; omega)
theorem k_parts2 {v0 v1 v2 v3 v4 v5 : Value} {n : Nat} {y : Int} {t1 : Tok} (F : Fr h₀ L s.heap m) (N : News h₀ L s.heap news) (hm : (l, listOf #[v0, v1, v2, v3, v4, v5] n) ∈ news) (S : Six y 2)
    (h : ∀ D h', Fr h₀ L h' m → News h₀ L h' ((D, listOf #[v0, v1, v2] 0) :: news) → (∀ p ∈ news, p.1 < D) → Q (.ref D) { s with heap := h' })
    (hs : subscripted slice false (.ref l) (.ref s.heap.objs.size) = operate [.ref s.heap.objs.size, .ref l] (getItem (.ref l) (.ref s.heap.objs.size)) := by with_unfolding_all rfl) (ht : ∀ r, letTemporaryGo value (.ref l) r = pure () := by intro _; with_unfolding_all rfl) :
    wpAny (model prog w) A (subscriptTail value slice (.ref l) (.ref s.heap.objs.size)) Q E { s with heap := s.heap.push { cls := .type "slice", data := .fields #[.none, .int (1 + y) t1, .none] } } := by
  have e := S.eq
  subst e
  exact kmk_slice_lit (lo := none) (hi := some (1 + ((2 : Nat) : Int))) (its := #[v0, v1, v2, v3, v4, v5]) (zs := [v0, v1, v2]) F N (News.isList N hm) .none (.int _ _) rfl h hs ht (by show 6 ≤ _; rw [sizeLine_eq]; omega)
theorem k_parts3 {v0 v1 v2 v3 v4 v5 : Value} {n : Nat} {y : Int} {t1 : Tok} (F : Fr h₀ L s.heap m) (N : News h₀ L s.heap news) (hm : (l, listOf #[v0, v1, v2, v3, v4, v5] n) ∈ news) (S : Six y 3)
    (h : ∀ D h', Fr h₀ L h' m → News h₀ L h' ((D, listOf #[v0, v1, v2, v3] 0) :: news) → (∀ p ∈ news, p.1 < D) → Q (.ref D) { s with heap := h' })
    (hs : subscripted slice false (.ref l) (.ref s.heap.objs.size) = operate [.ref s.heap.objs.size, .ref l] (getItem (.ref l) (.ref s.heap.objs.size)) := by with_unfolding_all rfl) (ht : ∀ r, letTemporaryGo value (.ref l) r = pure () := by intro _; with_unfolding_all rfl) :
    wpAny (model prog w) A (subscriptTail value slice (.ref l) (.ref s.heap.objs.size)) Q E { s with heap := s.heap.push { cls := .type "slice", data := .fields #[.none, .int (1 + y) t1, .none] } } := by
  have e := S.eq
  subst e
  exact kmk_slice_lit (lo := none) (hi := some (1 + ((3 : Nat) : Int))) (its := #[v0, v1, v2, v3, v4, v5]) (zs := [v0, v1, v2, v3]) F N (News.isList N hm) .none (.int _ _) rfl h hs ht (by show 6 ≤ _; rw [sizeLine_eq]; omega)
theorem k_parts4 {v0 v1 v2 v3 v4 v5 : Value} {n : Nat} {y : Int} {t1 : Tok} (F : Fr h₀ L s.heap m) (N : News h₀ L s.heap news) (hm : (l, listOf #[v0, v1, v2, v3, v4, v5] n) ∈ news) (S : Six y 4)
    (h : ∀ D h', Fr h₀ L h' m → News h₀ L h' ((D, listOf #[v0, v1, v2, v3, v4] 0) :: news) → (∀ p ∈ news, p.1 < D) → Q (.ref D) { s with heap := h' })
    (hs : subscripted slice false (.ref l) (.ref s.heap.objs.size) = operate [.ref s.heap.objs.size, .ref l] (getItem (.ref l) (.ref s.heap.objs.size)) := by with_unfolding_all rfl) (ht : ∀ r, letTemporaryGo value (.ref l) r = pure () := by intro _; with_unfolding_all rfl) :
    wpAny (model prog w) A (subscriptTail value slice (.ref l) (.ref s.heap.objs.size)) Q E { s with heap := s.heap.push { cls := .type "slice", data := .fields #[.none, .int (1 + y) t1, .none] } } := by
  have e := S.eq
  subst e
  exact kmk_slice_lit (lo := none) (hi := some (1 + ((4 : Nat) : Int))) (its := #[v0, v1, v2, v3, v4, v5]) (zs := [v0, v1, v2, v3, v4]) F N (News.isList N hm) .none (.int _ _) rfl h hs ht (by show 6 ≤ _; rw [sizeLine_eq]; omega)
theorem k_parts5 {v0 v1 v2 v3 v4 v5 : Value} {n : Nat} {y : Int} {t1 : Tok} (F : Fr h₀ L s.heap m) (N : News h₀ L s.heap news) (hm : (l, listOf #[v0, v1, v2, v3, v4, v5] n) ∈ news) (S : Six y 5)
    (h : ∀ D h', Fr h₀ L h' m → News h₀ L h' ((D, listOf #[v0, v1, v2, v3, v4, v5] 0) :: news) → (∀ p ∈ news, p.1 < D) → Q (.ref D) { s with heap := h' })
    (hs : subscripted slice false (.ref l) (.ref s.heap.objs.size) = operate [.ref s.heap.objs.size, .ref l] (getItem (.ref l) (.ref s.heap.objs.size)) := by with_unfolding_all rfl) (ht : ∀ r, letTemporaryGo value (.ref l) r = pure () := by intro _; with_unfolding_all rfl) :
    wpAny (model prog w) A (subscriptTail value slice (.ref l) (.ref s.heap.objs.size)) Q E { s with heap := s.heap.push { cls := .type "slice", data := .fields #[.none, .int (1 + y) t1, .none] } } := by
  have e := S.eq
  subst e
  exact kmk_slice_lit (lo := none) (hi := some (1 + ((5 : Nat) : Int))) (its := #[v0, v1, v2, v3, v4, v5]) (zs := [v0, v1, v2, v3, v4, v5]) F N (News.isList N hm) .none (.int _ _) rfl h hs ht (by show 6 ≤ _; rw [sizeLine_eq]; omega)
theorem k_at0 {v0 : Value} {rest : List Value} {n : Nat} {u : Tok} (N : News h₀ L s.heap news) (hm : (l, listOf (List.toArray (v0 :: rest)) n) ∈ news) (h : Q v0 s)
    (hs : subscripted slice false (.ref l) (.int 0 u) = operate [.ref l, .int 0 u] (getItem (.ref l) (.int 0 u)) := by with_unfolding_all rfl) (hg : ∀ r, letTemporaryGo value (.ref l) r = pure () := by intro _; with_unfolding_all rfl) :
    wpAny (model prog w) A (subscriptTail value slice (.ref l) (.int 0 u)) Q E s := item_list (News.isList N hm) (by decide) (by decide) rfl h hs hg
theorem k_at1 {v0 v1 : Value} {rest : List Value} {n : Nat} {u : Tok} (N : News h₀ L s.heap news) (hm : (l, listOf (List.toArray (v0 :: v1 :: rest)) n) ∈ news) (h : Q v1 s)
    (hs : subscripted slice false (.ref l) (.int 1 u) = operate [.ref l, .int 1 u] (getItem (.ref l) (.int 1 u)) := by with_unfolding_all rfl) (hg : ∀ r, letTemporaryGo value (.ref l) r = pure () := by intro _; with_unfolding_all rfl) :
    wpAny (model prog w) A (subscriptTail value slice (.ref l) (.int 1 u)) Q E s := item_list (News.isList N hm) (by decide) (by decide) rfl h hs hg
theorem k_at2 {v0 v1 v2 : Value} {rest : List Value} {n : Nat} {u : Tok} (N : News h₀ L s.heap news) (hm : (l, listOf (List.toArray (v0 :: v1 :: v2 :: rest)) n) ∈ news) (h : Q v2 s)
    (hs : subscripted slice false (.ref l) (.int 2 u) = operate [.ref l, .int 2 u] (getItem (.ref l) (.int 2 u)) := by with_unfolding_all rfl) (hg : ∀ r, letTemporaryGo value (.ref l) r = pure () := by intro _; with_unfolding_all rfl) :
    wpAny (model prog w) A (subscriptTail value slice (.ref l) (.int 2 u)) Q E s := item_list (News.isList N hm) (by decide) (by decide) rfl h hs hg
theorem k_at3 {v0 v1 v2 v3 : Value} {rest : List Value} {n : Nat} {u : Tok} (N : News h₀ L s.heap news) (hm : (l, listOf (List.toArray (v0 :: v1 :: v2 :: v3 :: rest)) n) ∈ news) (h : Q v3 s)
    (hs : subscripted slice false (.ref l) (.int 3 u) = operate [.ref l, .int 3 u] (getItem (.ref l) (.int 3 u)) := by with_unfolding_all rfl) (hg : ∀ r, letTemporaryGo value (.ref l) r = pure () := by intro _; with_unfolding_all rfl) :
    wpAny (model prog w) A (subscriptTail value slice (.ref l) (.int 3 u)) Q E s := item_list (News.isList N hm) (by decide) (by decide) rfl h hs hg
theorem k_at4 {v0 v1 v2 v3 v4 : Value} {rest : List Value} {n : Nat} {u : Tok} (N : News h₀ L s.heap news) (hm : (l, listOf (List.toArray (v0 :: v1 :: v2 :: v3 :: v4 :: rest)) n) ∈ news) (h : Q v4 s)
    (hs : subscripted slice false (.ref l) (.int 4 u) = operate [.ref l, .int 4 u] (getItem (.ref l) (.int 4 u)) := by with_unfolding_all rfl) (hg : ∀ r, letTemporaryGo value (.ref l) r = pure () := by intro _; with_unfolding_all rfl) :
    wpAny (model prog w) A (subscriptTail value slice (.ref l) (.int 4 u)) Q E s := item_list (News.isList N hm) (by decide) (by decide) rfl h hs hg
theorem k_at5 {v0 v1 v2 v3 v4 v5 : Value} {rest : List Value} {n : Nat} {u : Tok} (N : News h₀ L s.heap news) (hm : (l, listOf (List.toArray (v0 :: v1 :: v2 :: v3 :: v4 :: v5 :: rest)) n) ∈ news) (h : Q v5 s)
    (hs : subscripted slice false (.ref l) (.int 5 u) = operate [.ref l, .int 5 u] (getItem (.ref l) (.int 5 u)) := by with_unfolding_all rfl) (hg : ∀ r, letTemporaryGo value (.ref l) r = pure () := by intro _; with_unfolding_all rfl) :
    wpAny (model prog w) A (subscriptTail value slice (.ref l) (.int 5 u)) Q E s := item_list (News.isList N hm) (by decide) (by decide) rfl h hs hg
theorem k_at6 {v0 v1 v2 v3 v4 v5 v6 : Value} {rest : List Value} {n : Nat} {u : Tok} (N : News h₀ L s.heap news) (hm : (l, listOf (List.toArray (v0 :: v1 :: v2 :: v3 :: v4 :: v5 :: v6 :: rest)) n) ∈ news) (h : Q v6 s)
    (hs : subscripted slice false (.ref l) (.int 6 u) = operate [.ref l, .int 6 u] (getItem (.ref l) (.int 6 u)) := by with_unfolding_all rfl) (hg : ∀ r, letTemporaryGo value (.ref l) r = pure () := by intro _; with_unfolding_all rfl) :
    wpAny (model prog w) A (subscriptTail value slice (.ref l) (.int 6 u)) Q E s := item_list (News.isList N hm) (by decide) (by decide) rfl h hs hg
end
end Mine
end
section
open PySem PySem.W PyProof.Rows PySem.Calls PySem.Spec
set_option Elab.async false
set_option maxRecDepth 100000
namespace Mine
section
variable {prog : Program} {w : World} {A : Around} {E : Value → Shared → Prop} {s : Shared} {h₀ : Heap} {env : Env} {x : Str} {body : List Stmt} {Q : Flow → Shared → Prop}
/-- the outer loop of a law: between the turns MI holds of the frame's names and the ledger is led -/
theorem krsGo2 {r : Addr} {a b c : Int} {t₀ u₀ v₀ : Tok} {m : Str → Option Value} {news : List (Addr × Obj)} (MI : (Str → Option Value) → Prop) (led : List (Addr × Obj)) (hh : A.handled = none) (hr : IsRange s.heap r a b c t₀ u₀ v₀)
    (hsmall : Builtin.Range.small a b c = true) (hpos : 0 ≤ Builtin.Range.rangeSize a b c) (F : Fr h₀ env.locals s.heap m) (N : News h₀ env.locals s.heap news) (hm : MI m) (sub : SubL led news)
    (hnil : ∀ (m : Str → Option Value) h tk, MI m → Fr h₀ env.locals h m → News h₀ env.locals h led → Q .next { s with heap := h, toks := tk })
    (hstep : ∀ (Q' : Flow → Shared → Prop) (I : Addr) (it : Obj) (m : Str → Option Value) (v : Int), (∃ i : Nat, (i : Int) < Builtin.Range.rangeSize a b c ∧ v = a + (i : Int) * c) → MI m → ∀ t h tk, Fr h₀ env.locals h (fun y => if y = x then some (.int v t) else m y) →
      News h₀ env.locals h ((I, it) :: led) → (it.cls = .type "range_iterator") →
      wpAny (model prog w) A (execs body env) (UnrPost h₀ env.locals { s with heap := h, toks := tk } I it (fun m' n' => MI m' ∧ n' = led) Q') E { s with heap := h, toks := tk }) :
    wpAny (model prog w) A (pyIter (.ref r)) (fun it s₂ => LoopAtV prog w A h₀ env x body Q E it s₂) E s := by
  obtain ⟨n, hn⟩ := Int.eq_ofNat_of_zero_le hpos
  refine krs_iter (n := n) hh hr hsmall hn F N fun I _ => ?_
  refine krsLess (less := led) sub n 0 (krsInv (fun _ m news => MI m ∧ news = led) (fun m news hI h tk F N => ?_) (fun i m news hi hI t h tk F N => ?_) n 0 m led (Nat.zero_add n) ⟨hm, rfl⟩)
  · obtain ⟨h1, rfl⟩ := hI
    exact hnil m h tk h1 F N
  · obtain ⟨h1, rfl⟩ := hI
    exact hstep Q I _ m _ ⟨i, by rw [hn]; exact_mod_cast hi, rfl⟩ h1 t h tk F N rfl
end
section
variable {prog : Program} {w : World} {A : Around} {E : Value → Shared → Prop} {s : Shared} {h₀ : Heap} {L l : Addr} {m : Str → Option Value} {news : List (Addr × Obj)} {value slice : PySem.Expr} {vs ws ws2 : List Value} {ns : List Int} {x : Int} {Q : Value → Shared → Prop}
theorem k_tail2 {i0 i1 i2 i3 i4 i5 i6 : Int} {a b c d e f g t1 : Tok} (F : Fr h₀ L s.heap m) (N : News h₀ L s.heap news) (hm : (l, listOf #[.int i0 a, .int i1 b, .int i2 c, .int i3 d, .int i4 e, .int i5 f, .int i6 g] 0) ∈ news) (C : Chunk ws) (hx : x = (ws.length : Int))
    (h : ∀ D ws2 h', Fr h₀ L h' m → News h₀ L h' ((D, listOf (List.toArray ws2) 0) :: news) → (∀ p ∈ news, p.1 < D) → Tail ws ws2 → Q (.ref D) { s with heap := h' })
    (hs : subscripted slice false (.ref l) (.ref s.heap.objs.size) = operate [.ref s.heap.objs.size, .ref l] (getItem (.ref l) (.ref s.heap.objs.size)) := by with_unfolding_all rfl) (ht : ∀ r, letTemporaryGo value (.ref l) r = pure () := by intro _; with_unfolding_all rfl) :
    wpAny (model prog w) A (subscriptTail value slice (.ref l) (.ref s.heap.objs.size)) Q E { s with heap := s.heap.push { cls := .type "slice", data := .fields #[.int x t1, .none, .none] } } := by
  subst hx
  have hi : IntsAre [.int i0 a, .int i1 b, .int i2 c, .int i3 d, .int i4 e, .int i5 f, .int i6 g] [i0, i1, i2, i3, i4, i5, i6] := .cons _ _ (.cons _ _ (.cons _ _ (.cons _ _ (.cons _ _ (.cons _ _ (.cons _ _ .nil))))))
  refine kmk_slice_ints (lo := some (ws.length : Int)) (hi := none) F N (News.isList N hm) (.int _ _) .none hi (kmk_from hi (by omega)) rfl (fun D ws2 h' F' N' hlt hI hC hL => h D ws2 h' F' N' hlt ⟨⟨_, hI⟩, ?_⟩) hs ht (by rw [List.size_toArray, sizeLine_eq]; simp only [List.length_cons, List.length_nil]; omega)
  have h7 := C.short
  rw [hI.length, List.length_drop]
  simp only [List.length_cons, List.length_nil, Int.toNat_natCast]
  omega
end
end Mine
end
section
open PySem PySem.W PyProof.Rows PySem.Calls PySem.Spec
set_option Elab.async false
set_option maxRecDepth 100000
namespace Mine
section
variable {w : World} {mg mb : Str → Option Value} {mean : ExcName → Option Value} {loose : List Str} {h₀ : Heap} {s : Shared} {L a ad : Addr} {m : Str → Option Value} {news : List (Addr × Obj)}
    {cn : Str} {cs : Scope} {ccd : Value} {Q E : Value → Shared → Prop}
theorem kts_fr {g g' h' : Heap} (F : Fr h₀ L g m) (T : KtsTurn [L] g g') (hk : ∀ b o, g'.get? b = some o → h'.get? b = some o) : Fr h₀ L h' m := by
  obtain ⟨oL, es, ep, hL, hLd, hLk, hLf⟩ := F.ns
  obtain ⟨sl, hs⟩ := T.up hL
  refine ⟨⟨_, es, ep, hk _ _ hs, hLd, hLk, hLf⟩, fun b o e => hk _ _ (T.other b o (F.keep b o e) fun q => ?_), F.above⟩
  have hb : b = L := List.mem_singleton.mp q
  subst hb
  exact absurd (Heap.lt_size e) (Nat.not_lt.mpr F.above)
theorem kts_news {g g' h' : Heap} (N : News h₀ L g news) (T : KtsTurn [L] g g') (hk : ∀ b o, g'.get? b = some o → h'.get? b = some o) : News h₀ L h' news := fun p hp =>
  ⟨hk _ _ (T.other _ _ (N p hp).1 fun q => (N p hp).2.1 (List.mem_singleton.mp q)), (N p hp).2⟩
theorem fr_loc {g : Heap} (F : Fr h₀ L g m) : ∃ o, g.get? L = some o := by
  obtain ⟨oL, es, ep, hL, _⟩ := F.ns
  exact ⟨oL, hL⟩
theorem fr_new {g : Heap} {x : Addr} (F : Fr h₀ L g m) (hx : g.get? x = none) : x ≠ L ∧ h₀.get? x = none := by
  refine ⟨fun e => ?_, ?_⟩
  · obtain ⟨o, ho⟩ := fr_loc F
    rw [← e, hx] at ho
    cases ho
  · cases q : h₀.get? x with
    | none => rfl
    | some o => exact absurd hx (by rw [F.keep x o q]; exact fun z => nomatch z)
theorem fr_dict {g : Heap} (F : Fr h₀ L g m) {nm : Str} {sc : Scope} {cd : Value} : KtsDicts (([envOf nm sc L a cd] : List Env).filterMap (·.frame)) g := fun b hb => by
  rcases kts_mem hb with rfl | z
  · obtain ⟨oL, es, ep, hL, hLd, _⟩ := F.ns
    exact ⟨oL, es, ep, hL, hLd⟩
  · simp at z
theorem lk_miss {x : Str} {tn : Tok} {l : List Nat} (B : Below callerA h₀ [] h₀) (F : Fr h₀ L s.heap m) (N : News h₀ L s.heap news) (X : (hd08.heap_39 w.params).In h₀) (T : Top hd08.view_39 loose mean mg mb h₀) (hck : cs.kind = .function)
    (hx : x = sl l) (hl : l.length ≤ 1000) (hf : Fails l)
    (h : ∀ h' tk t, Fr h₀ L h' m → News h₀ L h' news → Q (.str (Str.ofString "AttributeError") t) { s with heap := h', toks := tk }) :
    wpAny (model PySem.Challenge.rw_ko0126_08.row.prog w) (callerA.deeper (envOf cn cs L a ccd)) (call (.ref 73) [.str x tn]) Q E s :=
  wpAny_call (toldN x tn l mg mb mean loose (1 + claimMargin + 1) (4 + 3) (some []) [envOf cn cs L a ccd] h₀ s.heap s _ rfl X T (B.push F hck) (X.keeps F.keep) (T.keeps F.keep) (fr_dict F) (by subst hx; rfl) (by omega) hf
    (fun t h' tk g' hT hk => h h' tk t (kts_fr F hT hk) (kts_news N hT hk)) (by decide) (by decide))
theorem lk_hit {x : Str} {tn : Tok} {l : List Nat} {mk : Array (Option Nat)} {lm li : Int} {hd : Nat} {parts : List Int} (B : Below callerA h₀ [] h₀) (F : Fr h₀ L s.heap m) (N : News h₀ L s.heap news) (X : (hd08.heap_39 w.params).In h₀) (T : Top hd08.view_39 loose mean mg mb h₀) (hck : cs.kind = .function)
    (hit : Hit x l mk lm li hd) (hb : spansBad mk lm = false) (hn : (rawInt (0:Nat) :: rawInt hd :: spansOf mk lm).length ≤ sizeLine)
    (hsz : ((rawInt (0:Nat) :: rawInt hd :: spansOf mk lm).map Builtin.Re.reRawOf).toArray.size = 14) (hG : GdOk x mk lm hd parts)
    (hx : x.cps.size ≤ 1048576) (h1 : 1 ≤ parts.length) (h6 : parts.length ≤ 6) (hpb : ∀ n ∈ parts, 0 ≤ n ∧ n < 100000)
    (hte : parts.length < 3 → ∀ h' tk t, Fr h₀ L h' m → News h₀ L h' news → Q (.str (Str.ofString "TypeError") t) { s with heap := h', toks := tk })
    (hve : 3 ≤ parts.length → okOf parts = false → ∀ h' tk t, Fr h₀ L h' m → News h₀ L h' news → Q (.str (Str.ofString "ValueError") t) { s with heap := h', toks := tk })
    (hok : 3 ≤ parts.length → okOf parts = true → ∀ h' tk l a n, Fr h₀ L h' m → News h₀ L h' ((l, listOf #[.ref a] n) :: (a, stampFor parts) :: news) → Q (.ref l) { s with heap := h', toks := tk }) :
    wpAny (model PySem.Challenge.rw_ko0126_08.row.prog w) (callerA.deeper (envOf cn cs L ad ccd)) (call (.ref 73) [.str x tn]) Q E s :=
  wpAny_call (told x tn l mk lm li hd parts mg mb mean loose (1 + claimMargin + 1) (4 + 3) (some []) [envOf cn cs L ad ccd] h₀ s.heap s _ rfl X T (B.push F hck) (X.keeps F.keep) (T.keeps F.keep) (fr_dict F) hit hb hn hsz hG hx h1 h6 hpb
    (fun v h' tk g' hT hk O => by
      have F' := kts_fr F hT hk
      have N' := kts_news N hT hk
      rcases O with ⟨h3, t, rfl⟩ | ⟨h3, ho, t, rfl⟩ | ⟨h3, ho, l, a, n, rfl, hl, ha, gl, ga⟩
      · exact hte h3 h' tk t F' N'
      · exact hve h3 ho h' tk t F' N'
      · refine hok h3 ho h' tk l a n F' (fun p hp => ?_)
        have nl := fr_new F hl
        have na := fr_new F ha
        rcases List.mem_cons.mp hp with rfl | hp
        · exact ⟨gl, nl.1, nl.2⟩
        · rcases List.mem_cons.mp hp with rfl | hp
          · exact ⟨ga, na.1, na.2⟩
          · exact N' p hp) (by decide) (by decide))
end
end Mine
end
section
open PySem PySem.W PyProof.Rows PySem.Calls PySem.Spec
set_option Elab.async false
set_option maxRecDepth 100000
namespace Mine
theorem sl_len (l : List Nat) : (sl l).length = l.length := rfl
theorem fm_range (l : List Nat) (n : Nat) : (List.map (fun (k : Nat) => ((0 : Int) + 1 * (k : Int)).toNat) (List.range n)).filterMap (fun i => l[i]?) = l.take n := by
  induction n with
  | zero => rfl
  | succ n ih =>
    rw [List.range_succ, List.map_append, List.filterMap_append, ih, List.take_add_one]
    congr 1
    have : ((0 : Int) + 1 * (n : Int)).toNat = n := by omega
    simp only [List.map_cons, List.map_nil, this, List.filterMap_cons, List.filterMap_nil]
    cases l[n]? <;> rfl
theorem fm_range' (l : List Nat) (i n : Nat) : (List.map (fun (k : Nat) => ((i : Int) + 1 * (k : Int)).toNat) (List.range n)).filterMap (fun i => l[i]?) = (l.drop i).take n := by
  induction n with
  | zero => simp
  | succ n ih =>
    rw [List.range_succ, List.map_append, List.filterMap_append, ih, List.take_add_one, List.getElem?_drop]
    congr 1
    have : ((i : Int) + 1 * (n : Int)).toNat = i + n := by omega
    simp only [List.map_cons, List.map_nil, this, List.filterMap_cons, List.filterMap_nil]
    cases l[i + n]? <;> rfl
theorem slice_to (l : List Nat) {j : Int} (h : 0 ≤ j) : Txt.slice (sl l) none (some j) = sl (l.take j.toNat) := by
  have hl : (sl l).length = l.length := rfl
  have e : Builtin.Str.strSliceIndices none (some j) 1 (sl l).length = List.map (fun (k : Nat) => ((0 : Int) + 1 * (k : Int)).toNat) (List.range (min j.toNat l.length)) := by
    unfold Builtin.Str.strSliceIndices sliceRange
    simp only [show (1 : Int) > 0 by decide, if_true, Int.ediv_one, hl, if_neg (Int.not_lt.mpr h)]
    congr 2
    split <;> omega
  unfold Txt.slice
  rw [e]
  have e2 : ((List.map (fun (k : Nat) => ((0 : Int) + 1 * (k : Int)).toNat) (List.range (min j.toNat l.length))).filterMap ((sl l).cps[·]?)) = l.take j.toNat := by
    have := fm_range l (min j.toNat l.length)
    rw [List.take_eq_take_min]
    rw [← this]
    simp [sl]
  rw [e2]
  split
  · rename_i hc
    simp only [List.length_map, List.length_range, hl, Bool.and_eq_true, beq_iff_eq] at hc
    rw [List.take_of_length_le (by omega)]
  · rfl
theorem slice_fr (l : List Nat) {i : Int} (h : 0 ≤ i) : Txt.slice (sl l) (some i) none = sl (l.drop i.toNat) := by
  have hl : (sl l).length = l.length := rfl
  obtain ⟨n, rfl⟩ := Int.eq_ofNat_of_zero_le h
  have e : Builtin.Str.strSliceIndices (some (n : Int)) none 1 (sl l).length = List.map (fun (k : Nat) => (((min n l.length : Nat) : Int) + 1 * (k : Int)).toNat) (List.range (l.length - n)) := by
    unfold Builtin.Str.strSliceIndices sliceRange
    simp only [show (1 : Int) > 0 by decide, if_true, Int.ediv_one, hl, if_neg (Int.not_lt.mpr h)]
    have e1 : max (0 : Int) (min (n : Int) (l.length : Int)) = ((min n l.length : Nat) : Int) := by omega
    rw [e1]
    congr 2
    split <;> omega
  unfold Txt.slice
  rw [e]
  have e2 : ((List.map (fun (k : Nat) => (((min n l.length : Nat) : Int) + 1 * (k : Int)).toNat) (List.range (l.length - n))).filterMap ((sl l).cps[·]?)) = l.drop n := by
    have := fm_range' l (min n l.length) (l.length - n)
    have e3 : (l.drop (min n l.length)).take (l.length - n) = l.drop n := by
      by_cases hn : n ≤ l.length
      · rw [Nat.min_eq_left hn, List.take_of_length_le (by rw [List.length_drop]; omega)]
      · rw [Nat.sub_eq_zero_of_le (by omega), List.take_zero, List.drop_eq_nil_of_le (by omega)]
    rw [← e3, ← this]
    simp [sl]
  rw [e2]
  split
  · rename_i hc
    simp only [List.length_map, List.length_range, hl, Bool.and_eq_true, beq_iff_eq] at hc
    have hz : n = 0 ∨ l.length = 0 := by omega
    rcases hz with hz | hz
    · subst hz; rfl
    · rw [List.length_eq_zero_iff.mp hz]; simp
  · simp [sl]
theorem item_at (l : List Nat) {i : Int} (h : 0 ≤ i) (hi : i < (l.length : Int)) : ∃ c, l[i.toNat]? = some c ∧ Txt.item (sl l) i = sl [c] := by
  obtain ⟨n, rfl⟩ := Int.eq_ofNat_of_zero_le h
  have hn : n < l.length := by omega
  refine ⟨l[n], by simp [hn], ?_⟩
  have e : Txt.charAt (sl l) (n : Int) = some l[n] := by
    unfold Txt.charAt seqIndex?
    have h0 : ¬ ((n : Int) < 0) := Int.not_lt.mpr h
    simp [sl, Str.length, hn, h0]
  unfold Txt.item
  rw [e]
  rfl
section
variable {prog : Program} {w : World} {A : Around} {E : Value → Shared → Prop} {s : Shared} {value slice : Expr} {x y : Str} {t u : Tok} {h₀ : Heap} {L : Addr} {m : Str → Option Value} {news : List (Addr × Obj)} {Q : Value → Shared → Prop} {l ys : List Nat}
theorem k_to {j : Int} {uj : Tok} (hF : Fr h₀ L s.heap m) (hN : News h₀ L s.heap news) (hx : x = sl l) (hj : 0 ≤ j) (hl : l.length ≤ 1000) (h : ∀ h' t' k, Fr h₀ L h' m → News h₀ L h' news → Q (.str (sl (l.take j.toNat)) t') { s with heap := h', toks := k })
    (hs : subscripted slice false (.str x t) (.ref s.heap.objs.size) = operate [.ref s.heap.objs.size, .str x t] (getItem (.str x t) (.ref s.heap.objs.size)) := by with_unfolding_all rfl)
    (ht : ∀ r, letTemporaryGo value (.str x t) r = pure () := by intro _; with_unfolding_all rfl) :
    wpAny (model prog w) A (subscriptTail value slice (.str x t) (.ref s.heap.objs.size)) Q E { s with heap := s.heap.push { cls := .type "slice", data := .fields #[.none, .int j uj, .none] } } := by
  subst hx
  refine slice_strN_ns hF hN (fun h' t' k F' N' => ?_) hs ht (by rw [sl_len, sizeLine_eq]; omega)
  rw [slice_to l hj]
  exact h h' t' k F' N'
theorem k_fr {j : Int} {uj : Tok} (hF : Fr h₀ L s.heap m) (hN : News h₀ L s.heap news) (hx : x = sl l) (hj : 0 ≤ j) (hl : l.length ≤ 1000) (h : ∀ h' t' k, Fr h₀ L h' m → News h₀ L h' news → Q (.str (sl (l.drop j.toNat)) t') { s with heap := h', toks := k })
    (hs : subscripted slice false (.str x t) (.ref s.heap.objs.size) = operate [.ref s.heap.objs.size, .str x t] (getItem (.str x t) (.ref s.heap.objs.size)) := by with_unfolding_all rfl)
    (ht : ∀ r, letTemporaryGo value (.str x t) r = pure () := by intro _; with_unfolding_all rfl) :
    wpAny (model prog w) A (subscriptTail value slice (.str x t) (.ref s.heap.objs.size)) Q E { s with heap := s.heap.push { cls := .type "slice", data := .fields #[.int j uj, .none, .none] } } := by
  subst hx
  refine slice_strN_sn hF hN (fun h' t' k F' N' => ?_) hs ht (by rw [sl_len, sizeLine_eq]; omega)
  rw [slice_fr l hj]
  exact h h' t' k F' N'
theorem k_sign {j : Int} {uj : Tok} (hx : x = sl l) (h0 : 0 ≤ j) (hj : j < (l.length : Int)) (hl : l.length ≤ 1000) (h : ∀ c t', l[j.toNat]? = some c → Q (.str (sl [c]) t') { s with toks := s.toks + 1 })
    (hs : subscripted slice false (.str x t) (.int j uj) = operate [.str x t, .int j uj] (getItem (.str x t) (.int j uj)) := by with_unfolding_all rfl)
    (ht : ∀ r, letTemporaryGo value (.str x t) r = pure () := by intro _; with_unfolding_all rfl) :
    wpAny (model prog w) A (subscriptTail value slice (.str x t) (.int j uj)) Q E s := by
  subst hx
  obtain ⟨c, hc, e⟩ := item_at l h0 hj
  refine item_str (fitsSsize_of (N := 9223372036854775808) (by omega) (by omega) (Int.le_refl _)) (by rw [sl_len]; omega) (by rw [sl_len]; exact hj) (fun _ => ?_) hs ht
  rw [e]
  exact h c _ hc
theorem k_catS {xs : List Nat} (hx : x = sl xs) (hy : y = sl ys) (hl : (xs ++ ys).length ≤ 1000) (h : ∀ t' k, Q (.str (sl (xs ++ ys)) t') { s with toks := k }) : wpAny (model prog w) A (binaryOp .Add (.str x t) (.str y u)) Q E s := by
  subst hx
  subst hy
  refine KOpn.add ?_ fun t' k _ => ?_
  · have : (sl xs).length + (sl ys).length = (xs ++ ys).length := by
      rw [List.length_append]; rfl
    omega
  · have e : sl xs ++ sl ys = sl (xs ++ ys) := by
      refine PySem.Str.ext' (Array.toList_inj.mp ?_)
      rw [PySem.Str.cps_append, Array.toList_append]
      rfl
    rw [e]
    exact h t' k
end
theorem in_digits (c : Nat) : (!(Builtin.Str.occurrences (Str.ofString "0123456789") (sl [c]) 0 (Str.ofString "0123456789").length 1).isEmpty) = Sre.isDigit c := by
  show (!(Builtin.Str.occurrences (Str.ofString "0123456789") ⟨#[c]⟩ 0 (Str.ofString "0123456789").length 1).isEmpty) = Sre.isDigit c
  rw [StrLaws.found_one]
  have e : (Str.ofString "0123456789").cps.toList = [48, 49, 50, 51, 52, 53, 54, 55, 56, 57] := by decide +kernel
  rw [e]
  have : (c ∈ [48, 49, 50, 51, 52, 53, 54, 55, 56, 57]) ↔ Sre.isDigit c = true := by
    unfold Sre.isDigit
    simp
    omega
  cases hd : Sre.isDigit c
  · exact decide_eq_false (by rw [this, hd]; decide)
  · exact decide_eq_true (by rw [this, hd])
theorem glue_sl (g : Nat → Nat) : ∀ (l : List Nat), Str.join (Str.ofString "") (l.map fun c => sl [g c]) = sl (l.map g)
  | [] => rfl
  | [c] => rfl
  | c :: d :: r => by
    have ih := glue_sl g (d :: r)
    simp only [List.map_cons] at ih ⊢
    show sl [g c] ++ Str.ofString "" ++ Str.join (Str.ofString "") (sl [g d] :: r.map fun c => sl [g c]) = _
    rw [ih]
    refine PySem.Str.ext' (Array.toList_inj.mp ?_)
    rw [PySem.Str.cps_append, PySem.Str.cps_append, Array.toList_append, Array.toList_append]
    rfl
end Mine
end
section
open PySem PySem.W PyProof.Rows PySem.Calls PySem.Spec
set_option Elab.async false
set_option maxRecDepth 100000
namespace Mine
section
variable {prog : Program} {w : World} {A : Around} {E : Value → Shared → Prop} {s : Shared} {h₀ : Heap} {L : Addr} {m : Str → Option Value} {env : Env} {elt iter : Expr} {x : Str} {scope : Scope} {cl : List (Str × Addr)}
/-- the turns of a comprehension over a text's signs, each giving the sign g c -/
theorem ks_rest {S : List (Addr × Obj) → Prop} {P : Nat → Value → Prop} {Fin : List Value → List (Addr × Obj) → Prop} {news : List (Addr × Obj)} {n : Nat} {l : List Nat} (g : Nat → Nat) (hl : l.length = n) (hP : ∀ i v, i < n → P i v → ∃ c t, l[i]? = some c ∧ v = .str (sl [c]) t)
    (turn : ∀ c t I oI C oC D m₂ ys h tk (E' : Value → Shared → Prop), c ∈ l → LCg.NsObj oC m₂ → m₂ x = some (.str (sl [c]) t) → Fr h₀ L h m → News h₀ L h ((I, oI) :: (C, oC) :: (D, LCg.lst ys) :: news) → LCg.Off3 I C D news → ((@Ne Nat I C) ∧ (@Ne Nat I D) ∧ (@Ne Nat C D)) →
      wpAny (model prog w) A (eval elt (compEnvC scope cl C env)) (LCg.CompEnd h₀ L m { s with heap := h, toks := tk } I oI C oC D (LCg.lst ys) S (fun y news' => KCtEl news (sl [g c]) y news')) E' { s with heap := h, toks := tk })
    (fin : ∀ ys, CarriedAll ys (l.map fun c => PyData.str (sl [g c])) → Fin ys news) : LCg.CompRest prog w A h₀ L m env elt x scope cl s S P Fin n 0 [] news := by
  have key : ∀ (j i : Nat) (ys : List Value), i + j = n → StrsAre ys ((l.take i).map fun c => sl [g c]) → LCg.CompRest prog w A h₀ L m env elt x scope cl s S P Fin j i ys news := by
    intro j
    induction j with
    | zero =>
      intro i ys hi hy
      have e : i = l.length := by omega
      subst e
      rw [List.take_length] at hy
      have hc := hy.carried
      rw [List.map_map] at hc
      exact LCg.CompRest.zero (fin ys hc)
    | succ j ih =>
      intro i ys hi hy
      refine LCg.CompRest.succ ?_
      intro v I oI C oC D m₂ h tk E' hv hC hx F N off ne
      obtain ⟨c, t, hk, hv'⟩ := hP i v (by omega) hv
      rw [hv'] at hx
      refine wpAny_mono (turn c t I oI C oC D m₂ ys h tk E' (List.mem_of_getElem? hk) hC hx F N off ne) (fun y s₂ hq => ?_) fun _ _ e => e
      obtain ⟨h', tk', nw, e, F', N', off', hS, hn, t', hy'⟩ := hq
      rw [hn] at N' off' hS
      refine ⟨h', tk', news, e, F', N', off', hS, ?_⟩
      rw [hy']
      refine ih (i + 1) _ (by omega) ?_
      rw [List.take_add_one, hk]
      simpa using kct_snoc hy
  exact key n 0 [] (by omega) (by simp only [List.take_zero, List.map_nil]; exact .nil)
def SrcT (prog : Program) (w : World) (A : Around) (h₀ : Heap) (L : Addr) (m : Str → Option Value) (env : Env) (elt : Expr) (x : Str) (scope : Scope) (cl : List (Str × Addr)) (Fin : Shared → List Value → List (Addr × Obj) → Prop) (xv : Value) (s₁ : Shared) : Prop :=
  ∃ l t news, xv = .str (sl l) t ∧ A.handled = none ∧ Fr h₀ L s₁.heap m ∧ News h₀ L s₁.heap news ∧ l.length ≤ 1000 ∧
    ∀ s₂ : Shared, (∃ h, s₂ = { s₁ with heap := h }) → LCg.CompRest prog w A h₀ L m env elt x scope cl s₂ (fun _ => True) (SignAt (sl l)) (Fin s₂) l.length 0 [] news
theorem ListComp_T {px : Pos} {pos : Pos} {Q : Value → Shared → Prop} (F₀ : Fr h₀ L s.heap m)
    (hclos : closureFor scope env = pure cl) (hcell : ∀ y ∈ scope.names, y.2 ≠ .cell) (hkind : scope.kind = .function)
    (hnames : ∀ y ∈ scope.names, y.2 = .local → scope.names.lookup y.1 = some .local) (hx : scope.names.lookup x = some .local)
    (h : wpAny (model prog w) A (eval iter env) (SrcT prog w A h₀ L m env elt x scope cl (fun s₂ => LCg.FinE h₀ L m s₂ Q)) E s)
    (hs : ∀ x, foldedSetIterable iter env x = pure x := by intro _; rfl) :
    wpAny (model prog w) A (eval (.ListComp elt [⟨.Name x px, iter, [], 0⟩] scope pos) env) Q E s := by
  rw [eval_ListComp]
  refine wpAny_comprehension_free (use := none) rfl hs hclos hkind hnames (wpAny_mono h (fun xv s₁ h₁ => ?_) fun _ _ e => e)
  obtain ⟨l, t, news, rfl, hh, F, N, hl, R⟩ := h₁
  have hsz : (sl l).cps.size ≤ sizeLine := by
    show l.length ≤ _
    rw [sizeLine_eq]; omega
  have up : ∀ (o : Obj) b o', s₁.heap.get? b = some o' → (s₁.heap.push o).get? b = some o' := fun o b o' e => Heap.get?_push_of_some _ e
  cases ha : (sl l).cps.all (· < 128)
  · refine wpAny_pyIter_wide ha ?_
    refine LCg.block_U (Walks.strWide hh _ (sl l) t) hsz (fun i h st => by obtain ⟨o, e, _⟩ := st; exact ⟨o, e⟩) (fun i h h' o nw st e e' _ _ _ => ?_) hcell hkind hx ⟨_, Heap.get?_push_size _ rfl, rfl, rfl⟩ (fun b hb => ?_)
      (F.keeps (up _)) (N.grown (up _)) (Nat.ne_of_lt F.ns.lt) (next_is_new F) (fun p hp => Nat.ne_of_lt (Heap.lt_size (N p hp).1)) trivial (R _ ⟨_, rfl⟩) ?_
    · obtain ⟨o', q, r⟩ := st; rw [e] at q; cases q; exact ⟨o, e', r⟩
    · rw [List.mem_singleton.mp hb]
      show s₁.heap.objs.size < (s₁.heap.push _).objs.size
      rw [Heap.size_push]; exact Nat.lt_succ_self _
    · intro D C h tk m' ys news' F' N' o1 hn hC₀ hD₀ hCL hDL hCD offC fin
      refine ⟨m', hn, fun h'' hs'' => fin D h'' tk (F'.change hs'' hCL hC₀) (fun p hp => ?_) o1⟩
      refine ⟨hs''.extBut _ _ ?_ (N' p hp).1, (N' p hp).2⟩
      rcases List.mem_cons.mp hp with rfl | hp
      · exact Ne.symm hCD
      · exact offC p hp
  · refine wpAny_pyIter_ascii ha ?_
    refine LCg.block_U (Walks.strAscii hh _ (sl l) t) hsz (fun i h st => by obtain ⟨o, e, _⟩ := st; exact ⟨o, e⟩) (fun i h h' o nw st e e' _ _ _ => ?_) hcell hkind hx ⟨_, Heap.get?_push_size _ rfl, rfl, rfl⟩ (fun b hb => ?_)
      (F.keeps (up _)) (N.grown (up _)) (Nat.ne_of_lt F.ns.lt) (next_is_new F) (fun p hp => Nat.ne_of_lt (Heap.lt_size (N p hp).1)) trivial (R _ ⟨_, rfl⟩) ?_
    · obtain ⟨o', q, r⟩ := st; rw [e] at q; cases q; exact ⟨o, e', r⟩
    · rw [List.mem_singleton.mp hb]
      show s₁.heap.objs.size < (s₁.heap.push _).objs.size
      rw [Heap.size_push]; exact Nat.lt_succ_self _
    · intro D C h tk m' ys news' F' N' o1 hn hC₀ hD₀ hCL hDL hCD offC fin
      refine ⟨m', hn, fun h'' hs'' => fin D h'' tk (F'.change hs'' hCL hC₀) (fun p hp => ?_) o1⟩
      refine ⟨hs''.extBut _ _ ?_ (N' p hp).1, (N' p hp).2⟩
      rcases List.mem_cons.mp hp with rfl | hp
      · exact Ne.symm hCD
      · exact offC p hp
theorem srcT_intro {l : List Nat} {t : Tok} {news : List (Addr × Obj)} {Fin : Shared → List Value → List (Addr × Obj) → Prop} (g : Nat → Nat) (hh : A.handled = none) (F : Fr h₀ L s.heap m) (N : News h₀ L s.heap news) (hl : l.length ≤ 1000)
    (turn : ∀ c t I oI C oC D m₂ ys hp h tk (E' : Value → Shared → Prop), c ∈ l → LCg.NsObj oC m₂ → m₂ x = some (.str (sl [c]) t) → Fr h₀ L h m → News h₀ L h ((I, oI) :: (C, oC) :: (D, LCg.lst ys) :: news) → LCg.Off3 I C D news → ((@Ne Nat I C) ∧ (@Ne Nat I D) ∧ (@Ne Nat C D)) →
      wpAny (model prog w) A (eval elt (compEnvC scope cl C env)) (LCg.CompEnd h₀ L m { ({ s with heap := hp } : Shared) with heap := h, toks := tk } I oI C oC D (LCg.lst ys) (fun _ => True) (fun y news' => KCtEl news (sl [g c]) y news')) E' { ({ s with heap := hp } : Shared) with heap := h, toks := tk })
    (fin : ∀ hp ys, CarriedAll ys (l.map fun c => PyData.str (sl [g c])) → Fin { s with heap := hp } ys news) :
    SrcT prog w A h₀ L m env elt x scope cl Fin (.str (sl l) t) s :=
  ⟨l, t, news, rfl, hh, F, N, hl, fun s₂ ⟨hp, e⟩ => by
    subst e
    refine ks_rest g rfl (fun i v _ hv => ?_) (fun c t I oI C oC D m₂ ys h tk E' => turn c t I oI C oC D m₂ ys hp h tk E') (fin hp)
    obtain ⟨c, u, e1, e2⟩ := hv
    exact ⟨c, u, by simpa [sl] using e1, e2⟩⟩
theorem k_joinS {D : Addr} {ys : List Value} {l : List Nat} {t : Tok} {g : Nat → Nat} {Q : Value → Shared → Prop} (hl : s.heap.IsList D ys.toArray) (hc : CarriedAll ys (l.map fun c => PyData.str (sl [g c]))) (hn : l.length ≤ 1000)
    (h : ∀ t' k, Q (.str (sl (l.map g)) t') { s with toks := k }) :
    wpAny (model prog w) A (call (.builtin "str.join") [.str (PySem.Str.ofString "") t, .ref D]) Q E s := by
  refine KT.join_1 hl hc (fun _ _ => rfl) (by omega) fun t' k _ => ?_
  have e : PySem.Txt.join (PySem.Str.ofString "") (l.map fun c => sl [g c]) = sl (l.map g) := by
    rw [← glue_sl g l]
    exact StrLaws.glued_eq_join _ _
  rw [e]
  exact h t' k
end
end Mine
end
section
open PySem PySem.W PyProof.Rows PySem.Calls PySem.Spec
set_option Elab.async false
set_option maxRecDepth 100000
namespace Mine
section
variable {prog : Program} {w : World} {A : Around} {E : Value → Shared → Prop} {s : Shared} {h₀ : Heap} {env : Env} {target : Expr} {body : List Stmt} {Q : Flow → Shared → Prop}
/-- a for over a made list, by what holds behind i turns -/
theorem listGo {D : Addr} {lo : Obj} {vs : List Value} {n : Nat} {m₀ : Str → Option Value} {news less : List (Addr × Obj)} (MI : Nat → (Str → Option Value) → List (Addr × Obj) → Prop)
    (hh : A.handled = none) (F : Fr h₀ env.locals s.heap m₀) (N : News h₀ env.locals s.heap news) (hm : (D, lo) ∈ news) (hc : lo.cls = .type "list") (hd : lo.data = .seq vs.toArray n) (sub : SubL less news) (h0 : MI 0 m₀ less)
    (hnil : ∀ m nw, MI vs.length m nw → ∀ h tk, Fr h₀ env.locals h m → News h₀ env.locals h nw → Q .next { s with heap := h, toks := tk })
    (hstep : ∀ (Q' : Flow → Shared → Prop) (i : Nat) (v : Value) m nw, vs[i]? = some v → MI i m nw → ∀ I it h tk, it.cls = .type "list_iterator" → Fr h₀ env.locals h m → News h₀ env.locals h ((I, it) :: nw) →
      wpAny (model prog w) A (assign target env v) (fun _ s₂ => wpAny (model prog w) A (execs body env) (UnrPostW h₀ env.locals { s with heap := h, toks := tk } [(I, it)] (fun m' n' => SubL [(D, lo)] n' ∧ MI (i + 1) m' n') Q') E s₂) E { s with heap := h, toks := tk }) :
    wpAny (model prog w) A (pyIter (.ref D)) (fun it s₂ => TurnsAt prog w A h₀ env target body Q E it s₂) E s := by
  refine iter_listTurns hh F N hm hc hd fun I _ => itemsLess sub (itemsInv (fun r m nw => ∃ i, r = vs.drop i ∧ i ≤ vs.length ∧ MI i m nw) (fun m nw hI h tk F N => ?_) (fun v r m nw hI h tk F => ?_) vs m₀ less ⟨0, rfl, Nat.zero_le _, h0⟩)
  · obtain ⟨i, hr, hi, hM⟩ := hI
    have hge : vs.length ≤ i := by
      have := congrArg List.length hr
      simp only [List.length_nil, List.length_drop] at this
      omega
    have e : i = vs.length := Nat.le_antisymm hi hge
    subst e
    exact hnil m nw hM h tk F N
  · obtain ⟨i, hr, hi, hM⟩ := hI
    have hlt : i < vs.length := by
      have := congrArg List.length hr
      simp only [List.length_cons, List.length_drop] at this
      omega
    have hv : vs[i]? = some v := by
      have : (vs.drop i)[0]? = some v := by rw [← hr]; rfl
      rw [List.getElem?_drop] at this
      exact this
    have hr' : r = vs.drop (i + 1) := by
      have : (v :: r).tail = (vs.drop i).tail := by rw [hr]
      rw [List.tail_drop] at this
      exact this
    refine AllObj.cons (fun o' hc' => ?_)
    refine AllObj.nil (fun N' => ?_)
    refine wpAny_mono (hstep Q i v m nw hv hM I o' h tk hc' F N') (fun _ s₂ h₂ => wpAny_mono h₂ (fun f s₃ p => UnrPostW.mono (fun m' n' ⟨a, b⟩ => ⟨a, i + 1, hr', hlt, b⟩) p) fun _ _ e => e) fun _ _ e => e
end
end Mine
end
section
open PySem PySem.W PyProof.Rows PySem.Calls PySem.Spec
set_option Elab.async false
set_option maxRecDepth 100000
namespace Mine
/-- the text l is taken with these parts -/
structure Tk (l : List Nat) (parts : List Int) : Prop where
  hit : ∃ mk lm li hd, Hit (sl l) l mk lm li hd ∧ spansBad mk lm = false ∧ (rawInt (0:Nat) :: rawInt hd :: spansOf mk lm).length ≤ sizeLine ∧ ((rawInt (0:Nat) :: rawInt hd :: spansOf mk lm).map Builtin.Re.reRawOf).toArray.size = 14 ∧ GdOk (sl l) mk lm hd parts
  one : 1 ≤ parts.length
  six : parts.length ≤ 6
  bound : ∀ n ∈ parts, 0 ≤ n ∧ n < 100000
theorem mem_b {n a : Int} {r : List Int} (ha : 0 ≤ a ∧ a < 100000) (hr : ∀ n ∈ r, 0 ≤ n ∧ n < 100000) (h : n ∈ a :: r) : 0 ≤ n ∧ n < 100000 := by
  rcases List.mem_cons.mp h with rfl | h
  · exact ha
  · exact hr n h
theorem mem_0 {n : Int} (h : n ∈ ([] : List Int)) : 0 ≤ n ∧ n < 100000 := nomatch h
theorem n2_b {a b : Nat} (ha : Sre.isDigit a = true) (hb : Sre.isDigit b = true) : 0 ≤ n2 a b ∧ n2 a b < 100000 := by
  have := n2_bound ha hb
  omega
theorem n4_b {a b c d : Nat} (ha : Sre.isDigit a = true) (hb : Sre.isDigit b = true) (hc : Sre.isDigit c = true) (hd : Sre.isDigit d = true) : 0 ≤ n4 a b c d ∧ n4 a b c d < 100000 := by
  have := n4_bound ha hb hc hd
  omega
def sizeAt (j : Nat) : Nat := 4 + 3 * j
inductive Res (l : List Nat) : Prop
  | miss (run : Fails l) (ne : ∀ j, j < 6 → ¬ EndAt j l)
  | hit (j : Nat) (hj : j < 6) (parts : List Int) (here : Tk l parts) (cut : Tk (l.take (sizeAt j + 1)) parts) (at_ : EndAt j l) (ne : ∀ i, i < 6 → i ≠ j → ¬ EndAt i l)
theorem tk_1 {d0 d1 d2 d3 : Nat} {r : List Nat} (h0 : Sre.isDigit d0 = true) (h1 : Sre.isDigit d1 = true) (h2 : Sre.isDigit d2 = true) (h3 : Sre.isDigit d3 = true) (hr : r.length ≤ 1000) : Tk (d0::d1::d2::d3::90::r) [n4 d0 d1 d2 d3] :=
  ⟨⟨_, _, _, _, hitD1 h0 h1 h2 h3 hr, by kernel_rfl, by decide, by kernel_rfl, gdD1 h0 h1 h2 h3⟩, by simp, by simp, fun _ => mem_b (n4_b h0 h1 h2 h3) (fun _ => mem_0)⟩
theorem res_1 {d0 d1 d2 d3 : Nat} {r : List Nat} (h0 : Sre.isDigit d0 = true) (h1 : Sre.isDigit d1 = true) (h2 : Sre.isDigit d2 = true) (h3 : Sre.isDigit d3 = true) (hr : r.length ≤ 1000) : Res (d0::d1::d2::d3::90::r) :=
  .hit 0 (by decide) [n4 d0 d1 d2 d3] (tk_1 h0 h1 h2 h3 hr) (tk_1 (r := []) h0 h1 h2 h3 (by decide)) (by simp [EndAt, pat, show shp 45 = 45 from rfl, show shp 84 = 84 from rfl, show shp 58 = 58 from rfl, show shp 90 = 90 from rfl, shp_dig h0, shp_dig h1, shp_dig h2, shp_dig h3]) (fun i hi hne hE => by
    match i, hi with
    | 0, _ => exact hne rfl
    | 1, _ => simp [EndAt, pat, show shp 45 = 45 from rfl, show shp 84 = 84 from rfl, show shp 58 = 58 from rfl, show shp 90 = 90 from rfl, shp_dig h0, shp_dig h1, shp_dig h2, shp_dig h3] at hE
    | 2, _ => simp [EndAt, pat, show shp 45 = 45 from rfl, show shp 84 = 84 from rfl, show shp 58 = 58 from rfl, show shp 90 = 90 from rfl, shp_dig h0, shp_dig h1, shp_dig h2, shp_dig h3] at hE
    | 3, _ => simp [EndAt, pat, show shp 45 = 45 from rfl, show shp 84 = 84 from rfl, show shp 58 = 58 from rfl, show shp 90 = 90 from rfl, shp_dig h0, shp_dig h1, shp_dig h2, shp_dig h3] at hE
    | 4, _ => simp [EndAt, pat, show shp 45 = 45 from rfl, show shp 84 = 84 from rfl, show shp 58 = 58 from rfl, show shp 90 = 90 from rfl, shp_dig h0, shp_dig h1, shp_dig h2, shp_dig h3] at hE
    | 5, _ => simp [EndAt, pat, show shp 45 = 45 from rfl, show shp 84 = 84 from rfl, show shp 58 = 58 from rfl, show shp 90 = 90 from rfl, shp_dig h0, shp_dig h1, shp_dig h2, shp_dig h3] at hE
    | n + 6, hi => exact absurd hi (by omega))
theorem tk_2 {d0 d1 d2 d3 d5 d6 : Nat} {r : List Nat} (h0 : Sre.isDigit d0 = true) (h1 : Sre.isDigit d1 = true) (h2 : Sre.isDigit d2 = true) (h3 : Sre.isDigit d3 = true) (h5 : Sre.isDigit d5 = true) (h6 : Sre.isDigit d6 = true) (hr : r.length ≤ 1000) : Tk (d0::d1::d2::d3::45::d5::d6::90::r) [n4 d0 d1 d2 d3, n2 d5 d6] :=
  ⟨⟨_, _, _, _, hitD2 h0 h1 h2 h3 h5 h6 hr, by kernel_rfl, by decide, by kernel_rfl, gdD2 h0 h1 h2 h3 h5 h6⟩, by simp, by simp, fun _ => mem_b (n4_b h0 h1 h2 h3) (fun _ => mem_b (n2_b h5 h6) (fun _ => mem_0))⟩
theorem res_2 {d0 d1 d2 d3 d5 d6 : Nat} {r : List Nat} (h0 : Sre.isDigit d0 = true) (h1 : Sre.isDigit d1 = true) (h2 : Sre.isDigit d2 = true) (h3 : Sre.isDigit d3 = true) (h5 : Sre.isDigit d5 = true) (h6 : Sre.isDigit d6 = true) (hr : r.length ≤ 1000) : Res (d0::d1::d2::d3::45::d5::d6::90::r) :=
  .hit 1 (by decide) [n4 d0 d1 d2 d3, n2 d5 d6] (tk_2 h0 h1 h2 h3 h5 h6 hr) (tk_2 (r := []) h0 h1 h2 h3 h5 h6 (by decide)) (by simp [EndAt, pat, show shp 45 = 45 from rfl, show shp 84 = 84 from rfl, show shp 58 = 58 from rfl, show shp 90 = 90 from rfl, shp_dig h0, shp_dig h1, shp_dig h2, shp_dig h3, shp_dig h5, shp_dig h6]) (fun i hi hne hE => by
    match i, hi with
    | 0, _ => simp [EndAt, pat, show shp 45 = 45 from rfl, show shp 84 = 84 from rfl, show shp 58 = 58 from rfl, show shp 90 = 90 from rfl, shp_dig h0, shp_dig h1, shp_dig h2, shp_dig h3, shp_dig h5, shp_dig h6] at hE
    | 1, _ => exact hne rfl
    | 2, _ => simp [EndAt, pat, show shp 45 = 45 from rfl, show shp 84 = 84 from rfl, show shp 58 = 58 from rfl, show shp 90 = 90 from rfl, shp_dig h0, shp_dig h1, shp_dig h2, shp_dig h3, shp_dig h5, shp_dig h6] at hE
    | 3, _ => simp [EndAt, pat, show shp 45 = 45 from rfl, show shp 84 = 84 from rfl, show shp 58 = 58 from rfl, show shp 90 = 90 from rfl, shp_dig h0, shp_dig h1, shp_dig h2, shp_dig h3, shp_dig h5, shp_dig h6] at hE
    | 4, _ => simp [EndAt, pat, show shp 45 = 45 from rfl, show shp 84 = 84 from rfl, show shp 58 = 58 from rfl, show shp 90 = 90 from rfl, shp_dig h0, shp_dig h1, shp_dig h2, shp_dig h3, shp_dig h5, shp_dig h6] at hE
    | 5, _ => simp [EndAt, pat, show shp 45 = 45 from rfl, show shp 84 = 84 from rfl, show shp 58 = 58 from rfl, show shp 90 = 90 from rfl, shp_dig h0, shp_dig h1, shp_dig h2, shp_dig h3, shp_dig h5, shp_dig h6] at hE
    | n + 6, hi => exact absurd hi (by omega))
theorem tk_3 {d0 d1 d2 d3 d5 d6 d8 d9 : Nat} {r : List Nat} (h0 : Sre.isDigit d0 = true) (h1 : Sre.isDigit d1 = true) (h2 : Sre.isDigit d2 = true) (h3 : Sre.isDigit d3 = true) (h5 : Sre.isDigit d5 = true) (h6 : Sre.isDigit d6 = true) (h8 : Sre.isDigit d8 = true) (h9 : Sre.isDigit d9 = true) (hr : r.length ≤ 1000) : Tk (d0::d1::d2::d3::45::d5::d6::45::d8::d9::90::r) [n4 d0 d1 d2 d3, n2 d5 d6, n2 d8 d9] :=
  ⟨⟨_, _, _, _, hitD3 h0 h1 h2 h3 h5 h6 h8 h9 hr, by kernel_rfl, by decide, by kernel_rfl, gdD3 h0 h1 h2 h3 h5 h6 h8 h9⟩, by simp, by simp, fun _ => mem_b (n4_b h0 h1 h2 h3) (fun _ => mem_b (n2_b h5 h6) (fun _ => mem_b (n2_b h8 h9) (fun _ => mem_0)))⟩
theorem res_3 {d0 d1 d2 d3 d5 d6 d8 d9 : Nat} {r : List Nat} (h0 : Sre.isDigit d0 = true) (h1 : Sre.isDigit d1 = true) (h2 : Sre.isDigit d2 = true) (h3 : Sre.isDigit d3 = true) (h5 : Sre.isDigit d5 = true) (h6 : Sre.isDigit d6 = true) (h8 : Sre.isDigit d8 = true) (h9 : Sre.isDigit d9 = true) (hr : r.length ≤ 1000) : Res (d0::d1::d2::d3::45::d5::d6::45::d8::d9::90::r) :=
  .hit 2 (by decide) [n4 d0 d1 d2 d3, n2 d5 d6, n2 d8 d9] (tk_3 h0 h1 h2 h3 h5 h6 h8 h9 hr) (tk_3 (r := []) h0 h1 h2 h3 h5 h6 h8 h9 (by decide)) (by simp [EndAt, pat, show shp 45 = 45 from rfl, show shp 84 = 84 from rfl, show shp 58 = 58 from rfl, show shp 90 = 90 from rfl, shp_dig h0, shp_dig h1, shp_dig h2, shp_dig h3, shp_dig h5, shp_dig h6, shp_dig h8, shp_dig h9]) (fun i hi hne hE => by
    match i, hi with
    | 0, _ => simp [EndAt, pat, show shp 45 = 45 from rfl, show shp 84 = 84 from rfl, show shp 58 = 58 from rfl, show shp 90 = 90 from rfl, shp_dig h0, shp_dig h1, shp_dig h2, shp_dig h3, shp_dig h5, shp_dig h6, shp_dig h8, shp_dig h9] at hE
    | 1, _ => simp [EndAt, pat, show shp 45 = 45 from rfl, show shp 84 = 84 from rfl, show shp 58 = 58 from rfl, show shp 90 = 90 from rfl, shp_dig h0, shp_dig h1, shp_dig h2, shp_dig h3, shp_dig h5, shp_dig h6, shp_dig h8, shp_dig h9] at hE
    | 2, _ => exact hne rfl
    | 3, _ => simp [EndAt, pat, show shp 45 = 45 from rfl, show shp 84 = 84 from rfl, show shp 58 = 58 from rfl, show shp 90 = 90 from rfl, shp_dig h0, shp_dig h1, shp_dig h2, shp_dig h3, shp_dig h5, shp_dig h6, shp_dig h8, shp_dig h9] at hE
    | 4, _ => simp [EndAt, pat, show shp 45 = 45 from rfl, show shp 84 = 84 from rfl, show shp 58 = 58 from rfl, show shp 90 = 90 from rfl, shp_dig h0, shp_dig h1, shp_dig h2, shp_dig h3, shp_dig h5, shp_dig h6, shp_dig h8, shp_dig h9] at hE
    | 5, _ => simp [EndAt, pat, show shp 45 = 45 from rfl, show shp 84 = 84 from rfl, show shp 58 = 58 from rfl, show shp 90 = 90 from rfl, shp_dig h0, shp_dig h1, shp_dig h2, shp_dig h3, shp_dig h5, shp_dig h6, shp_dig h8, shp_dig h9] at hE
    | n + 6, hi => exact absurd hi (by omega))
theorem tk_4 {d0 d1 d2 d3 d5 d6 d8 d9 d11 d12 : Nat} {r : List Nat} (h0 : Sre.isDigit d0 = true) (h1 : Sre.isDigit d1 = true) (h2 : Sre.isDigit d2 = true) (h3 : Sre.isDigit d3 = true) (h5 : Sre.isDigit d5 = true) (h6 : Sre.isDigit d6 = true) (h8 : Sre.isDigit d8 = true) (h9 : Sre.isDigit d9 = true) (h11 : Sre.isDigit d11 = true) (h12 : Sre.isDigit d12 = true) (hr : r.length ≤ 1000) : Tk (d0::d1::d2::d3::45::d5::d6::45::d8::d9::84::d11::d12::90::r) [n4 d0 d1 d2 d3, n2 d5 d6, n2 d8 d9, n2 d11 d12] :=
  ⟨⟨_, _, _, _, hitD4 h0 h1 h2 h3 h5 h6 h8 h9 h11 h12 hr, by kernel_rfl, by decide, by kernel_rfl, gdD4 h0 h1 h2 h3 h5 h6 h8 h9 h11 h12⟩, by simp, by simp, fun _ => mem_b (n4_b h0 h1 h2 h3) (fun _ => mem_b (n2_b h5 h6) (fun _ => mem_b (n2_b h8 h9) (fun _ => mem_b (n2_b h11 h12) (fun _ => mem_0))))⟩
theorem res_4 {d0 d1 d2 d3 d5 d6 d8 d9 d11 d12 : Nat} {r : List Nat} (h0 : Sre.isDigit d0 = true) (h1 : Sre.isDigit d1 = true) (h2 : Sre.isDigit d2 = true) (h3 : Sre.isDigit d3 = true) (h5 : Sre.isDigit d5 = true) (h6 : Sre.isDigit d6 = true) (h8 : Sre.isDigit d8 = true) (h9 : Sre.isDigit d9 = true) (h11 : Sre.isDigit d11 = true) (h12 : Sre.isDigit d12 = true) (hr : r.length ≤ 1000) : Res (d0::d1::d2::d3::45::d5::d6::45::d8::d9::84::d11::d12::90::r) :=
  .hit 3 (by decide) [n4 d0 d1 d2 d3, n2 d5 d6, n2 d8 d9, n2 d11 d12] (tk_4 h0 h1 h2 h3 h5 h6 h8 h9 h11 h12 hr) (tk_4 (r := []) h0 h1 h2 h3 h5 h6 h8 h9 h11 h12 (by decide)) (by simp [EndAt, pat, show shp 45 = 45 from rfl, show shp 84 = 84 from rfl, show shp 58 = 58 from rfl, show shp 90 = 90 from rfl, shp_dig h0, shp_dig h1, shp_dig h2, shp_dig h3, shp_dig h5, shp_dig h6, shp_dig h8, shp_dig h9, shp_dig h11, shp_dig h12]) (fun i hi hne hE => by
    match i, hi with
    | 0, _ => simp [EndAt, pat, show shp 45 = 45 from rfl, show shp 84 = 84 from rfl, show shp 58 = 58 from rfl, show shp 90 = 90 from rfl, shp_dig h0, shp_dig h1, shp_dig h2, shp_dig h3, shp_dig h5, shp_dig h6, shp_dig h8, shp_dig h9, shp_dig h11, shp_dig h12] at hE
    | 1, _ => simp [EndAt, pat, show shp 45 = 45 from rfl, show shp 84 = 84 from rfl, show shp 58 = 58 from rfl, show shp 90 = 90 from rfl, shp_dig h0, shp_dig h1, shp_dig h2, shp_dig h3, shp_dig h5, shp_dig h6, shp_dig h8, shp_dig h9, shp_dig h11, shp_dig h12] at hE
    | 2, _ => simp [EndAt, pat, show shp 45 = 45 from rfl, show shp 84 = 84 from rfl, show shp 58 = 58 from rfl, show shp 90 = 90 from rfl, shp_dig h0, shp_dig h1, shp_dig h2, shp_dig h3, shp_dig h5, shp_dig h6, shp_dig h8, shp_dig h9, shp_dig h11, shp_dig h12] at hE
    | 3, _ => exact hne rfl
    | 4, _ => simp [EndAt, pat, show shp 45 = 45 from rfl, show shp 84 = 84 from rfl, show shp 58 = 58 from rfl, show shp 90 = 90 from rfl, shp_dig h0, shp_dig h1, shp_dig h2, shp_dig h3, shp_dig h5, shp_dig h6, shp_dig h8, shp_dig h9, shp_dig h11, shp_dig h12] at hE
    | 5, _ => simp [EndAt, pat, show shp 45 = 45 from rfl, show shp 84 = 84 from rfl, show shp 58 = 58 from rfl, show shp 90 = 90 from rfl, shp_dig h0, shp_dig h1, shp_dig h2, shp_dig h3, shp_dig h5, shp_dig h6, shp_dig h8, shp_dig h9, shp_dig h11, shp_dig h12] at hE
    | n + 6, hi => exact absurd hi (by omega))
theorem tk_5 {d0 d1 d2 d3 d5 d6 d8 d9 d11 d12 d14 d15 : Nat} {r : List Nat} (h0 : Sre.isDigit d0 = true) (h1 : Sre.isDigit d1 = true) (h2 : Sre.isDigit d2 = true) (h3 : Sre.isDigit d3 = true) (h5 : Sre.isDigit d5 = true) (h6 : Sre.isDigit d6 = true) (h8 : Sre.isDigit d8 = true) (h9 : Sre.isDigit d9 = true) (h11 : Sre.isDigit d11 = true) (h12 : Sre.isDigit d12 = true) (h14 : Sre.isDigit d14 = true) (h15 : Sre.isDigit d15 = true) (hr : r.length ≤ 1000) : Tk (d0::d1::d2::d3::45::d5::d6::45::d8::d9::84::d11::d12::58::d14::d15::90::r) [n4 d0 d1 d2 d3, n2 d5 d6, n2 d8 d9, n2 d11 d12, n2 d14 d15] :=
  ⟨⟨_, _, _, _, hitD5 h0 h1 h2 h3 h5 h6 h8 h9 h11 h12 h14 h15 hr, by kernel_rfl, by decide, by kernel_rfl, gdD5 h0 h1 h2 h3 h5 h6 h8 h9 h11 h12 h14 h15⟩, by simp, by simp, fun _ => mem_b (n4_b h0 h1 h2 h3) (fun _ => mem_b (n2_b h5 h6) (fun _ => mem_b (n2_b h8 h9) (fun _ => mem_b (n2_b h11 h12) (fun _ => mem_b (n2_b h14 h15) (fun _ => mem_0)))))⟩
theorem res_5 {d0 d1 d2 d3 d5 d6 d8 d9 d11 d12 d14 d15 : Nat} {r : List Nat} (h0 : Sre.isDigit d0 = true) (h1 : Sre.isDigit d1 = true) (h2 : Sre.isDigit d2 = true) (h3 : Sre.isDigit d3 = true) (h5 : Sre.isDigit d5 = true) (h6 : Sre.isDigit d6 = true) (h8 : Sre.isDigit d8 = true) (h9 : Sre.isDigit d9 = true) (h11 : Sre.isDigit d11 = true) (h12 : Sre.isDigit d12 = true) (h14 : Sre.isDigit d14 = true) (h15 : Sre.isDigit d15 = true) (hr : r.length ≤ 1000) : Res (d0::d1::d2::d3::45::d5::d6::45::d8::d9::84::d11::d12::58::d14::d15::90::r) :=
  .hit 4 (by decide) [n4 d0 d1 d2 d3, n2 d5 d6, n2 d8 d9, n2 d11 d12, n2 d14 d15] (tk_5 h0 h1 h2 h3 h5 h6 h8 h9 h11 h12 h14 h15 hr) (tk_5 (r := []) h0 h1 h2 h3 h5 h6 h8 h9 h11 h12 h14 h15 (by decide)) (by simp [EndAt, pat, show shp 45 = 45 from rfl, show shp 84 = 84 from rfl, show shp 58 = 58 from rfl, show shp 90 = 90 from rfl, shp_dig h0, shp_dig h1, shp_dig h2, shp_dig h3, shp_dig h5, shp_dig h6, shp_dig h8, shp_dig h9, shp_dig h11, shp_dig h12, shp_dig h14, shp_dig h15]) (fun i hi hne hE => by
    match i, hi with
    | 0, _ => simp [EndAt, pat, show shp 45 = 45 from rfl, show shp 84 = 84 from rfl, show shp 58 = 58 from rfl, show shp 90 = 90 from rfl, shp_dig h0, shp_dig h1, shp_dig h2, shp_dig h3, shp_dig h5, shp_dig h6, shp_dig h8, shp_dig h9, shp_dig h11, shp_dig h12, shp_dig h14, shp_dig h15] at hE
    | 1, _ => simp [EndAt, pat, show shp 45 = 45 from rfl, show shp 84 = 84 from rfl, show shp 58 = 58 from rfl, show shp 90 = 90 from rfl, shp_dig h0, shp_dig h1, shp_dig h2, shp_dig h3, shp_dig h5, shp_dig h6, shp_dig h8, shp_dig h9, shp_dig h11, shp_dig h12, shp_dig h14, shp_dig h15] at hE
    | 2, _ => simp [EndAt, pat, show shp 45 = 45 from rfl, show shp 84 = 84 from rfl, show shp 58 = 58 from rfl, show shp 90 = 90 from rfl, shp_dig h0, shp_dig h1, shp_dig h2, shp_dig h3, shp_dig h5, shp_dig h6, shp_dig h8, shp_dig h9, shp_dig h11, shp_dig h12, shp_dig h14, shp_dig h15] at hE
    | 3, _ => simp [EndAt, pat, show shp 45 = 45 from rfl, show shp 84 = 84 from rfl, show shp 58 = 58 from rfl, show shp 90 = 90 from rfl, shp_dig h0, shp_dig h1, shp_dig h2, shp_dig h3, shp_dig h5, shp_dig h6, shp_dig h8, shp_dig h9, shp_dig h11, shp_dig h12, shp_dig h14, shp_dig h15] at hE
    | 4, _ => exact hne rfl
    | 5, _ => simp [EndAt, pat, show shp 45 = 45 from rfl, show shp 84 = 84 from rfl, show shp 58 = 58 from rfl, show shp 90 = 90 from rfl, shp_dig h0, shp_dig h1, shp_dig h2, shp_dig h3, shp_dig h5, shp_dig h6, shp_dig h8, shp_dig h9, shp_dig h11, shp_dig h12, shp_dig h14, shp_dig h15] at hE
    | n + 6, hi => exact absurd hi (by omega))
theorem tk_6 {d0 d1 d2 d3 d5 d6 d8 d9 d11 d12 d14 d15 d17 d18 : Nat} {r : List Nat} (h0 : Sre.isDigit d0 = true) (h1 : Sre.isDigit d1 = true) (h2 : Sre.isDigit d2 = true) (h3 : Sre.isDigit d3 = true) (h5 : Sre.isDigit d5 = true) (h6 : Sre.isDigit d6 = true) (h8 : Sre.isDigit d8 = true) (h9 : Sre.isDigit d9 = true) (h11 : Sre.isDigit d11 = true) (h12 : Sre.isDigit d12 = true) (h14 : Sre.isDigit d14 = true) (h15 : Sre.isDigit d15 = true) (h17 : Sre.isDigit d17 = true) (h18 : Sre.isDigit d18 = true) (hr : r.length ≤ 1000) : Tk (d0::d1::d2::d3::45::d5::d6::45::d8::d9::84::d11::d12::58::d14::d15::58::d17::d18::90::r) [n4 d0 d1 d2 d3, n2 d5 d6, n2 d8 d9, n2 d11 d12, n2 d14 d15, n2 d17 d18] :=
  ⟨⟨_, _, _, _, hitD6 h0 h1 h2 h3 h5 h6 h8 h9 h11 h12 h14 h15 h17 h18 hr, by kernel_rfl, by decide, by kernel_rfl, gdD6 h0 h1 h2 h3 h5 h6 h8 h9 h11 h12 h14 h15 h17 h18⟩, by simp, by simp, fun _ => mem_b (n4_b h0 h1 h2 h3) (fun _ => mem_b (n2_b h5 h6) (fun _ => mem_b (n2_b h8 h9) (fun _ => mem_b (n2_b h11 h12) (fun _ => mem_b (n2_b h14 h15) (fun _ => mem_b (n2_b h17 h18) (fun _ => mem_0))))))⟩
theorem res_6 {d0 d1 d2 d3 d5 d6 d8 d9 d11 d12 d14 d15 d17 d18 : Nat} {r : List Nat} (h0 : Sre.isDigit d0 = true) (h1 : Sre.isDigit d1 = true) (h2 : Sre.isDigit d2 = true) (h3 : Sre.isDigit d3 = true) (h5 : Sre.isDigit d5 = true) (h6 : Sre.isDigit d6 = true) (h8 : Sre.isDigit d8 = true) (h9 : Sre.isDigit d9 = true) (h11 : Sre.isDigit d11 = true) (h12 : Sre.isDigit d12 = true) (h14 : Sre.isDigit d14 = true) (h15 : Sre.isDigit d15 = true) (h17 : Sre.isDigit d17 = true) (h18 : Sre.isDigit d18 = true) (hr : r.length ≤ 1000) : Res (d0::d1::d2::d3::45::d5::d6::45::d8::d9::84::d11::d12::58::d14::d15::58::d17::d18::90::r) :=
  .hit 5 (by decide) [n4 d0 d1 d2 d3, n2 d5 d6, n2 d8 d9, n2 d11 d12, n2 d14 d15, n2 d17 d18] (tk_6 h0 h1 h2 h3 h5 h6 h8 h9 h11 h12 h14 h15 h17 h18 hr) (tk_6 (r := []) h0 h1 h2 h3 h5 h6 h8 h9 h11 h12 h14 h15 h17 h18 (by decide)) (by simp [EndAt, pat, show shp 45 = 45 from rfl, show shp 84 = 84 from rfl, show shp 58 = 58 from rfl, show shp 90 = 90 from rfl, shp_dig h0, shp_dig h1, shp_dig h2, shp_dig h3, shp_dig h5, shp_dig h6, shp_dig h8, shp_dig h9, shp_dig h11, shp_dig h12, shp_dig h14, shp_dig h15, shp_dig h17, shp_dig h18]) (fun i hi hne hE => by
    match i, hi with
    | 0, _ => simp [EndAt, pat, show shp 45 = 45 from rfl, show shp 84 = 84 from rfl, show shp 58 = 58 from rfl, show shp 90 = 90 from rfl, shp_dig h0, shp_dig h1, shp_dig h2, shp_dig h3, shp_dig h5, shp_dig h6, shp_dig h8, shp_dig h9, shp_dig h11, shp_dig h12, shp_dig h14, shp_dig h15, shp_dig h17, shp_dig h18] at hE
    | 1, _ => simp [EndAt, pat, show shp 45 = 45 from rfl, show shp 84 = 84 from rfl, show shp 58 = 58 from rfl, show shp 90 = 90 from rfl, shp_dig h0, shp_dig h1, shp_dig h2, shp_dig h3, shp_dig h5, shp_dig h6, shp_dig h8, shp_dig h9, shp_dig h11, shp_dig h12, shp_dig h14, shp_dig h15, shp_dig h17, shp_dig h18] at hE
    | 2, _ => simp [EndAt, pat, show shp 45 = 45 from rfl, show shp 84 = 84 from rfl, show shp 58 = 58 from rfl, show shp 90 = 90 from rfl, shp_dig h0, shp_dig h1, shp_dig h2, shp_dig h3, shp_dig h5, shp_dig h6, shp_dig h8, shp_dig h9, shp_dig h11, shp_dig h12, shp_dig h14, shp_dig h15, shp_dig h17, shp_dig h18] at hE
    | 3, _ => simp [EndAt, pat, show shp 45 = 45 from rfl, show shp 84 = 84 from rfl, show shp 58 = 58 from rfl, show shp 90 = 90 from rfl, shp_dig h0, shp_dig h1, shp_dig h2, shp_dig h3, shp_dig h5, shp_dig h6, shp_dig h8, shp_dig h9, shp_dig h11, shp_dig h12, shp_dig h14, shp_dig h15, shp_dig h17, shp_dig h18] at hE
    | 4, _ => simp [EndAt, pat, show shp 45 = 45 from rfl, show shp 84 = 84 from rfl, show shp 58 = 58 from rfl, show shp 90 = 90 from rfl, shp_dig h0, shp_dig h1, shp_dig h2, shp_dig h3, shp_dig h5, shp_dig h6, shp_dig h8, shp_dig h9, shp_dig h11, shp_dig h12, shp_dig h14, shp_dig h15, shp_dig h17, shp_dig h18] at hE
    | 5, _ => exact hne rfl
    | n + 6, hi => exact absurd hi (by omega))
theorem res_of {l : List Nat} (hl : l.length ≤ 1000) : Res l := by
  cases cls_0 l with
  | miss run ne => exact .miss run ne
  | hit1 h0 h1 h2 h3 => exact res_1 h0 h1 h2 h3 (by simp only [List.length_cons] at hl; omega)
  | hit2 h0 h1 h2 h3 h5 h6 => exact res_2 h0 h1 h2 h3 h5 h6 (by simp only [List.length_cons] at hl; omega)
  | hit3 h0 h1 h2 h3 h5 h6 h8 h9 => exact res_3 h0 h1 h2 h3 h5 h6 h8 h9 (by simp only [List.length_cons] at hl; omega)
  | hit4 h0 h1 h2 h3 h5 h6 h8 h9 h11 h12 => exact res_4 h0 h1 h2 h3 h5 h6 h8 h9 h11 h12 (by simp only [List.length_cons] at hl; omega)
  | hit5 h0 h1 h2 h3 h5 h6 h8 h9 h11 h12 h14 h15 => exact res_5 h0 h1 h2 h3 h5 h6 h8 h9 h11 h12 h14 h15 (by simp only [List.length_cons] at hl; omega)
  | hit6 h0 h1 h2 h3 h5 h6 h8 h9 h11 h12 h14 h15 h17 h18 => exact res_6 h0 h1 h2 h3 h5 h6 h8 h9 h11 h12 h14 h15 h17 h18 (by simp only [List.length_cons] at hl; omega)
section
variable {w : World} {mg mb : Str → Option Value} {mean : ExcName → Option Value} {loose : List Str} {h₀ : Heap} {s : Shared} {L a ad : Addr} {m : Str → Option Value} {news : List (Addr × Obj)}
    {cn : Str} {cs : Scope} {ccd : Value} {Q E : Value → Shared → Prop}
theorem lk_tk {x : Str} {tn : Tok} {l : List Nat} {parts : List Int} (B : Below callerA h₀ [] h₀) (F : Fr h₀ L s.heap m) (N : News h₀ L s.heap news) (X : (hd08.heap_39 w.params).In h₀) (T : Top hd08.view_39 loose mean mg mb h₀) (hck : cs.kind = .function)
    (hx : x = sl l) (hl : l.length ≤ 1000) (K : Tk l parts)
    (hte : parts.length < 3 → ∀ h' tk t, Fr h₀ L h' m → News h₀ L h' news → Q (.str (Str.ofString "TypeError") t) { s with heap := h', toks := tk })
    (hve : 3 ≤ parts.length → okOf parts = false → ∀ h' tk t, Fr h₀ L h' m → News h₀ L h' news → Q (.str (Str.ofString "ValueError") t) { s with heap := h', toks := tk })
    (hok : 3 ≤ parts.length → okOf parts = true → ∀ h' tk l a n, Fr h₀ L h' m → News h₀ L h' ((l, listOf #[.ref a] n) :: (a, stampFor parts) :: news) → Q (.ref l) { s with heap := h', toks := tk }) :
    wpAny (model PySem.Challenge.rw_ko0126_08.row.prog w) (callerA.deeper (envOf cn cs L ad ccd)) (call (.ref 73) [.str x tn]) Q E s := by
  subst hx
  obtain ⟨⟨mk, lm, li, hd, hit, hb, hn, hsz, hG⟩, h1, h6, hpb⟩ := K
  exact lk_hit B F N X T hck hit hb hn hsz hG (by show l.length ≤ _; omega) h1 h6 hpb hte hve hok
end
end Mine
end
section
open PySem PySem.W PyProof.Rows PySem.Calls PySem.Spec PySem.Builtin._datetime
set_option Elab.async false
set_option maxRecDepth 100000
namespace Mine
theorem slot_dteq : Slot "datetime.datetime" "__eq__" "datetime.datetime.__eq__" :=
  .of (owner := "datetime.datetime") (n := "__eq__") (by rw [typeLookup_type, builtinLookup_eq_fast]; kernel_rfl) (by decide +kernel) (by decide +kernel) (by decide +kernel)
    (by first | exact .inl (by decide +kernel) | exact .inr (by decide +kernel)) (by rw [isSubtype_type]; kernel_rfl)
theorem entry_dteq : entryFor table "datetime.datetime.__eq__" = some Builtin.«datetime.datetime.__eq__» := entryFor_of_tree (by kernel_rfl)
theorem args_dteq (a b : Value) : argsOk "datetime.datetime.__eq__" ⟨[a, b], []⟩ := by unfold argsOk; kernel_rfl
section
variable {prog : Program} {w : World} {A : Around} {E : Value → Shared → Prop} {s : Shared} {h₀ : Heap} {L : Addr} {news : List (Addr × Obj)}
theorem stampOf_any {M : Model} {x : Addr} {y mo d h m sc us : Int} {tz : Value} {Q : Stamp → Shared → Prop} (hx : s.heap.get? x = some (stampObj y mo d h m sc us tz)) (hq : Q (stamp y mo d h m sc us tz) s) : wpAny M A (stampOf (.ref x)) Q E s := by
  unfold stampOf stampOf? isDatetime
  refine wpAny_bind (wpAny_bind (wpAny_isInstance (T := "datetime.datetime") ⟨_, hx, rfl⟩ sub_dt ?_))
  rw [if_neg (by simp)]
  unfold fieldsOf
  refine wpAny_bind (wpAny_bind (wpAny_load hx ?_))
  exact wpAny_pure (wpAny_pure (wpAny_pure hq))
theorem stampOfq_any {M : Model} {x : Addr} {y mo d h m sc us : Int} {tz : Value} {Q : Option Stamp → Shared → Prop} (hx : s.heap.get? x = some (stampObj y mo d h m sc us tz)) (hq : Q (some (stamp y mo d h m sc us tz)) s) : wpAny M A (stampOf? (.ref x)) Q E s := by
  unfold stampOf? isDatetime
  refine wpAny_bind (wpAny_isInstance (T := "datetime.datetime") ⟨_, hx, rfl⟩ sub_dt ?_)
  rw [if_neg (by simp)]
  unfold fieldsOf
  refine wpAny_bind (wpAny_bind (wpAny_load hx ?_))
  exact wpAny_pure (wpAny_pure hq)
theorem eq_run {M : Model} {a b : Addr} {y mo d h m sc us : Int} {Q : Fin → Shared → Prop} (ha : s.heap.get? a = some (stampObj y mo d h m sc us .none)) (hb : s.heap.get? b = some (stampObj y mo d h m sc us .none))
    (hq : Q (.done (.ret (.bool true))) s) : wpAny M A (Builtin.«datetime.datetime.__eq__» ⟨[.ref a, .ref b], []⟩) Q E s := by
  refine wpAny_bind (wpAny_of_eq (a := (.ref a, [.ref b])) rfl ?_)
  dsimp only
  refine wpAny_bind (stampOf_any ha ?_)
  refine wpAny_bind (stampOfq_any hb ?_)
  dsimp only
  rw [if_pos (by decide +kernel)]
  refine wpAny_bind (wpAny_rule ?_)
  refine wpAny_bind (wpAny_pure ?_)
  refine wpAny_pure ?_
  rw [Int.sub_self]
  exact hq
theorem k_dtrc {a b : Addr} {y mo d h m sc us : Int} {Q : Value → Shared → Prop} (ha : s.heap.get? a = some (stampObj y mo d h m sc us .none)) (hb : s.heap.get? b = some (stampObj y mo d h m sc us .none)) (hu : A.units < cLine)
    (hq : Q (.bool true) s) : wpAny (model prog w) A (richCompare .Eq (.ref a) (.ref b)) Q E s := by
  refine wpAny_richCompare_same_room (T := "datetime.datetime") (op := .Eq) ⟨_, ha, rfl⟩ ⟨_, hb, rfl⟩ slot_dteq ?_ hu
  refine wpAny_call_entry slot_dteq ⟨_, ha, rfl⟩ entry_dteq (eq_run ha hb ⟨_, rfl, (fun e => nomatch e), hq⟩) (args_dteq _ _)
theorem k_lne {l1 l2 a b : Addr} {n1 n2 : Nat} {y mo d h m sc us : Int} {Q : Value → Shared → Prop} (N : News h₀ L s.heap news) (h1 : (l1, listOf #[.ref a] n1) ∈ news) (h2 : (l2, listOf #[.ref b] n2) ∈ news) (ha : (a, stampObj y mo d h m sc us .none) ∈ news) (hb : (b, stampObj y mo d h m sc us .none) ∈ news) (hu : A.units + 64 < cLine)
    (hq : Q (.bool false) s) : wpAny (model prog w) A (compareOp .NotEq (.ref l1) (.ref l2)) Q E s := by
  refine cmp_ofNotEq (SeqAt.RcNeAt.lists (items := #[.ref a]) (items2 := #[.ref b]) (e := fun _ => true) ⟨_, N.get h1, rfl, _, rfl⟩ ⟨_, N.get h2, rfl, _, rfl⟩ rfl (by omega) (fun j hj1 hj2 => ?_) prog w _ _ ?_)
  · have e0 : j = 0 := by simp at hj1; omega
    subst e0
    show SeqAt.EqAt _ s (.ref a) (.ref b) true
    by_cases e : a = b
    · subst e; exact SeqAt.EqAt.same _
    · exact SeqAt.EqAt.of_refs e fun prog w E Q hq => k_dtrc (N.get ha) (N.get hb) (by show A.units + 1 < cLine; omega) hq
  · exact hq
theorem ne_same {x : Str} {t u : Tok} {Q : Value → Shared → Prop} (h : Q (.bool false) s) : wpAny (model prog w) A (compareOp .NotEq (.str x t) (.str x u)) Q E s := by
  refine ne_str ?_
  rw [bne_self_eq_false]
  exact h
end
end Mine
end
section
open PySem PySem.W PyProof.Rows PySem.Calls PySem.Spec
set_option Elab.async false
set_option maxRecDepth 100000
namespace Mine
structure SG (m : Str → Option Value) (lst : Addr) : Prop where
  script : m "script" = some (.ref lst)
  signs : ∃ t, m "signs" = some (.str (Str.ofString "019532-T:Ztz ٣３\n.+/,") t)
/-- a chunk of three at most -/
structure Three (ws : List Value) : Prop where
  nums : ∃ ms, IntsAre ws ms
  short : ws.length ≤ 3
/-- the size drawn -/
structure Drawn (k : Int) : Prop where
  at_ : ∃ j : Nat, j < 6 ∧ k = 4 + 3 * (j : Int)
section
variable {prog : Program} {w : World} {A : Around} {E : Value → Shared → Prop} {s : Shared} {h₀ : Heap} {L l : Addr} {m : Str → Option Value} {news : List (Addr × Obj)} {value slice : PySem.Expr} {vs ws ws2 : List Value} {ns : List Int} {x : Int} {Q : Value → Shared → Prop}
theorem k_chunk3 {t1 t2 : Tok} (F : Fr h₀ L s.heap m) (N : News h₀ L s.heap news) (hl : h₀.IsList l vs.toArray) (hi : IntsAre vs ns) (hn : ¬ ((63 : Nat) : Int) < (ns.length : Int)) (h0 : 0 ≤ x)
    (h : ∀ D ws h', Fr h₀ L h' m → News h₀ L h' ((D, listOf (List.toArray ws) 0) :: news) → (∀ p ∈ news, p.1 < D) → Three ws → Q (.ref D) { s with heap := h' })
    (hs : subscripted slice false (.ref l) (.ref s.heap.objs.size) = operate [.ref s.heap.objs.size, .ref l] (getItem (.ref l) (.ref s.heap.objs.size)) := by with_unfolding_all rfl) (ht : ∀ r, letTemporaryGo value (.ref l) r = pure () := by intro _; with_unfolding_all rfl) :
    wpAny (model prog w) A (subscriptTail value slice (.ref l) (.ref s.heap.objs.size)) Q E { s with heap := s.heap.push { cls := .type "slice", data := .fields #[.int x t1, .int (x + 3) t2, .none] } } := by
  have hsz : vs.toArray.size ≤ sizeLine := by
    rw [List.size_toArray, hi.length, sizeLine_eq]; omega
  refine kmk_slice_ints (lo := some x) (hi := some (x + 3)) F N (Fr.lst F hl) (.int _ _) (.int _ _) hi (kmk_run hi h0 (by omega)) rfl (fun D ws h' F' N' hlt hI hC hL => h D ws h' F' N' hlt ⟨⟨_, hI⟩, ?_⟩) hs ht hsz
  rw [hI.length, List.length_take]
  omega
theorem k_rest1 {t1 : Tok} (F : Fr h₀ L s.heap m) (N : News h₀ L s.heap news) (hm : (l, listOf (List.toArray ws) 0) ∈ news) (C : Three ws)
    (h : ∀ D ws2 h', Fr h₀ L h' m → News h₀ L h' ((D, listOf (List.toArray ws2) 0) :: news) → (∀ p ∈ news, p.1 < D) → Three ws2 → Q (.ref D) { s with heap := h' })
    (hs : subscripted slice false (.ref l) (.ref s.heap.objs.size) = operate [.ref s.heap.objs.size, .ref l] (getItem (.ref l) (.ref s.heap.objs.size)) := by with_unfolding_all rfl) (ht : ∀ r, letTemporaryGo value (.ref l) r = pure () := by intro _; with_unfolding_all rfl) :
    wpAny (model prog w) A (subscriptTail value slice (.ref l) (.ref s.heap.objs.size)) Q E { s with heap := s.heap.push { cls := .type "slice", data := .fields #[.int 1 t1, .none, .none] } } := by
  obtain ⟨ms, hi⟩ := C.nums
  have h3 := C.short
  refine kmk_slice_ints (lo := some 1) (hi := none) F N (News.isList N hm) (.int _ _) .none hi (kmk_from hi (by omega)) rfl (fun D ws2 h' F' N' hlt hI hC hL => h D ws2 h' F' N' hlt ⟨⟨_, hI⟩, ?_⟩) hs ht (by rw [List.size_toArray, sizeLine_eq]; omega)
  rw [hI.length, List.length_drop, ← hi.length]
  omega
theorem k_add5 {a b : Addr} {n : Nat} {t : Tok} (F : Fr h₀ L s.heap m) (N : News h₀ L s.heap news) (ha : (a, listOf (List.toArray ws) 0) ∈ news) (hb : (b, listOf #[.int 5 t] n) ∈ news) (C : Three ws)
    (h : ∀ D h' g u rest, Fr h₀ L h' m → News h₀ L h' ((D, listOf (List.toArray (.int g u :: rest)) 0) :: news) → (∀ p ∈ news, p.1 < D) → Q (.ref D) { s with heap := h' }) :
    wpAny (model prog w) A (binaryOp .Add (.ref a) (.ref b)) Q E s := by
  obtain ⟨ms, hI⟩ := C.nums
  have h3 := C.short
  have hc : ∃ g u rest, ws ++ [.int 5 t] = .int g u :: rest := by
    cases hI with
    | nil => exact ⟨_, _, _, rfl⟩
    | cons g u h => exact ⟨_, _, _, rfl⟩
  obtain ⟨g, u, rest, e⟩ := hc
  refine kmk_add_lit (zs := ws ++ [.int 5 t]) F N (News.isList N ha) (its2 := #[.int 5 t]) ⟨_, N.get hb, rfl, _, rfl⟩ rfl (fun D h' F' N' hlt => h D h' g u rest F' ?_ hlt) ?_
  · rw [e] at N'; exact N'
  · show ws.length + 1 ≤ _
    rw [sizeLine_eq]; omega
theorem k_draw {n : Nat} {t0 t1 t2 t3 t4 t5 u : Tok} {k : Int} (N : News h₀ L s.heap news) (hm : (l, listOf #[.int 4 t0, .int 7 t1, .int 10 t2, .int 13 t3, .int 16 t4, .int 19 t5] n) ∈ news) (h0 : 0 ≤ k) (h6 : k < 6) (h : ∀ z t, Drawn z → Q (.int z t) s)
    (hs : subscripted slice false (.ref l) (.int k u) = operate [.ref l, .int k u] (getItem (.ref l) (.int k u)) := by with_unfolding_all rfl) (hg : ∀ r, letTemporaryGo value (.ref l) r = pure () := by intro _; with_unfolding_all rfl) :
    wpAny (model prog w) A (subscriptTail value slice (.ref l) (.int k u)) Q E s := by
  have hL : s.heap.IsList l (List.toArray [.int 4 t0, .int 7 t1, .int 10 t2, .int 13 t3, .int 16 t4, .int 19 t5]) := ⟨_, N.get hm, rfl, _, rfl⟩
  have hk : k = 0 ∨ k = 1 ∨ k = 2 ∨ k = 3 ∨ k = 4 ∨ k = 5 := by omega
  rcases hk with rfl | rfl | rfl | rfl | rfl | rfl
  · exact item_list hL (by decide) (by decide) rfl (h _ _ ⟨0, by decide, by decide⟩) hs hg
  · exact item_list hL (by decide) (by decide) rfl (h _ _ ⟨1, by decide, by decide⟩) hs hg
  · exact item_list hL (by decide) (by decide) rfl (h _ _ ⟨2, by decide, by decide⟩) hs hg
  · exact item_list hL (by decide) (by decide) rfl (h _ _ ⟨3, by decide, by decide⟩) hs hg
  · exact item_list hL (by decide) (by decide) rfl (h _ _ ⟨4, by decide, by decide⟩) hs hg
  · exact item_list hL (by decide) (by decide) rfl (h _ _ ⟨5, by decide, by decide⟩) hs hg
theorem k_hd0 {v0 : Value} {rest : List Value} {n : Nat} {u : Tok} (N : News h₀ L s.heap news) (hm : (l, listOf (List.toArray (v0 :: rest)) n) ∈ news) (h : Q v0 s)
    (hs : subscripted slice false (.ref l) (.int 0 u) = operate [.ref l, .int 0 u] (getItem (.ref l) (.int 0 u)) := by with_unfolding_all rfl) (hg : ∀ r, letTemporaryGo value (.ref l) r = pure () := by intro _; with_unfolding_all rfl) :
    wpAny (model prog w) A (subscriptTail value slice (.ref l) (.int 0 u)) Q E s := item_list (News.isList N hm) (by decide) (by decide) rfl h hs hg
end
/-- the frame's names in the inner loop: the text is l -/
structure SH (m : Str → Option Value) (lst : Addr) (l : List Nat) : Prop where
  g : SG m lst
  text : ∃ t, m "text" = some (.str (sl l) t)
/-- the text has n signs at most -/
structure SHn (m : Str → Option Value) (lst : Addr) (n : Nat) : Prop where
  ex : ∃ l, SH m lst l ∧ l.length ≤ n
structure Within (x b : Int) : Prop where
  lo : 0 ≤ x
  hi : x < b
theorem txtS : Str.ofString "019532-T:Ztz ٣３\n.+/," = sl [48, 49, 57, 53, 51, 50, 45, 84, 58, 90, 116, 122, 32, 1635, 65299, 10, 46, 43, 47, 44] := by decide +kernel
section
variable {prog : Program} {w : World} {A : Around} {E : Value → Shared → Prop} {s : Shared} {value slice : Expr} {x y : Str} {t u : Tok} {h₀ : Heap} {L : Addr} {m : Str → Option Value} {news : List (Addr × Obj)} {Q : Value → Shared → Prop} {l ys : List Nat}
theorem k_toG {j : Int} {uj : Tok} (hF : Fr h₀ L s.heap m) (hN : News h₀ L s.heap news) (hx : x = sl l) (hj : 0 ≤ j) (hl : l.length ≤ 1000) (h : ∀ h' t' k l', Fr h₀ L h' m → News h₀ L h' news → l'.length = min j.toNat l.length → Q (.str (sl l') t') { s with heap := h', toks := k })
    (hs : subscripted slice false (.str x t) (.ref s.heap.objs.size) = operate [.ref s.heap.objs.size, .str x t] (getItem (.str x t) (.ref s.heap.objs.size)) := by with_unfolding_all rfl)
    (ht : ∀ r, letTemporaryGo value (.str x t) r = pure () := by intro _; with_unfolding_all rfl) :
    wpAny (model prog w) A (subscriptTail value slice (.str x t) (.ref s.heap.objs.size)) Q E { s with heap := s.heap.push { cls := .type "slice", data := .fields #[.none, .int j uj, .none] } } :=
  k_to hF hN hx hj hl (fun h' t' k F' N' => h h' t' k _ F' N' (List.length_take ..)) hs ht
theorem k_frG {j : Int} {uj : Tok} (hF : Fr h₀ L s.heap m) (hN : News h₀ L s.heap news) (hx : x = sl l) (hj : 0 ≤ j) (hl : l.length ≤ 1000) (h : ∀ h' t' k l', Fr h₀ L h' m → News h₀ L h' news → l'.length = l.length - j.toNat → Q (.str (sl l') t') { s with heap := h', toks := k })
    (hs : subscripted slice false (.str x t) (.ref s.heap.objs.size) = operate [.ref s.heap.objs.size, .str x t] (getItem (.str x t) (.ref s.heap.objs.size)) := by with_unfolding_all rfl)
    (ht : ∀ r, letTemporaryGo value (.str x t) r = pure () := by intro _; with_unfolding_all rfl) :
    wpAny (model prog w) A (subscriptTail value slice (.str x t) (.ref s.heap.objs.size)) Q E { s with heap := s.heap.push { cls := .type "slice", data := .fields #[.int j uj, .none, .none] } } :=
  k_fr hF hN hx hj hl (fun h' t' k F' N' => h h' t' k _ F' N' (List.length_drop ..)) hs ht
theorem k_signG {j : Int} {uj : Tok} (hx : x = sl l) (h0 : 0 ≤ j) (hj : j < (l.length : Int)) (hl : l.length ≤ 1000) (h : ∀ l' t', l'.length = 1 → Q (.str (sl l') t') { s with toks := s.toks + 1 })
    (hs : subscripted slice false (.str x t) (.int j uj) = operate [.str x t, .int j uj] (getItem (.str x t) (.int j uj)) := by with_unfolding_all rfl)
    (ht : ∀ r, letTemporaryGo value (.str x t) r = pure () := by intro _; with_unfolding_all rfl) :
    wpAny (model prog w) A (subscriptTail value slice (.str x t) (.int j uj)) Q E s :=
  k_sign hx h0 hj hl (fun c t' _ => h [c] t' rfl) hs ht
theorem k_catG {xs : List Nat} (hx : x = sl xs) (hy : y = sl ys) (hl : xs.length + ys.length ≤ 1000) (h : ∀ zs t' k, zs.length = xs.length + ys.length → Q (.str (sl zs) t') { s with toks := k }) : wpAny (model prog w) A (binaryOp .Add (.str x t) (.str y u)) Q E s :=
  k_catS hx hy (by rw [List.length_append]; exact hl) fun t' k => h _ t' k (List.length_append ..)
theorem k_slen (hx : x = sl l) (hl : l.length ≤ 1000) (h : Q (.int (l.length : Int) (s.toks + 1)) { s with toks := s.toks + 1 + 1 }) : wpAny (model prog w) A (call (.builtin "len") [.str x t]) Q E s := by
  subst hx
  exact len_str (by rw [sl_len]; omega) h
theorem k_modG {a b : Int} (hb : 0 < b) (h : ∀ z, Within z b → Q (.int z s.toks) { s with toks := s.toks + 1 }) : wpAny (model prog w) A (binaryOp .Mod (.int a t) (.int b u)) Q E s :=
  mod_int' (by omega) (h _ ⟨Int.fmod_nonneg_of_pos _ hb, Int.fmod_lt_of_pos _ hb⟩)
end
section
variable {prog : Program} {w : World} {A : Around} {E : Value → Shared → Prop} {s : Shared} {h₀ : Heap} {env : Env} {target : Expr} {body : List Stmt} {Q : Flow → Shared → Prop} {m₀ : Str → Option Value} {news : List (Addr × Obj)} {D I lst : Addr} {it : Obj} {ws : List Value} {z : List Nat}
theorem innerGo (hh : A.handled = none) (C : Three ws) (F : Fr h₀ env.locals s.heap m₀) (N : News h₀ env.locals s.heap ((D, listOf ws.toArray 0) :: news)) (hI : (I, it) ∈ news) (hM : SH m₀ lst z) (hz : z.length ≤ 24)
    (hnil : ∀ m l, SH m lst l → l.length ≤ 27 → ∀ h tk, Fr h₀ env.locals h m → News h₀ env.locals h [(D, listOf ws.toArray 0), (I, it)] → Q .next { s with heap := h, toks := tk })
    (hstep : ∀ (Q' : Flow → Shared → Prop) m l k t, SH m lst l → l.length ≤ 26 → ∀ I2 it2 h tk, it2.cls = .type "list_iterator" → Fr h₀ env.locals h m → News h₀ env.locals h [(I2, it2), (D, listOf ws.toArray 0), (I, it)] →
      wpAny (model prog w) A (assign target env (.int k t)) (fun _ s₂ => wpAny (model prog w) A (execs body env) (UnrPostW h₀ env.locals { s with heap := h, toks := tk } [(I2, it2)] (fun m' n' => SubL [(D, listOf ws.toArray 0)] n' ∧ SHn m' lst (l.length + 1) ∧ n' = [(D, listOf ws.toArray 0), (I, it)]) Q') E s₂) E { s with heap := h, toks := tk }) :
    wpAny (model prog w) A (pyIter (.ref D)) (fun it s₂ => TurnsAt prog w A h₀ env target body Q E it s₂) E s := by
  have h3 := C.short
  obtain ⟨ms, hms⟩ := C.nums
  refine listGo (MI := fun i m' nw => (∃ l, SH m' lst l ∧ l.length ≤ 24 + i) ∧ nw = [(D, listOf ws.toArray 0), (I, it)]) (less := [(D, listOf ws.toArray 0), (I, it)]) hh F N (List.mem_cons_self ..) rfl rfl ⟨List.mem_cons_self .., List.mem_cons_of_mem _ hI, trivial⟩ ⟨⟨z, hM, hz⟩, rfl⟩ (fun m nw hMI h tk F N => ?_) (fun Q' i v m nw hv hMI I2 it2 h tk hit F N => ?_)
  · obtain ⟨⟨l, hM, hl⟩, rfl⟩ := hMI
    exact hnil m l hM (by omega) h tk F N
  · obtain ⟨⟨l, hM, hl⟩, rfl⟩ := hMI
    have hi : i < ws.length := (List.getElem?_eq_some_iff.mp hv).1
    obtain ⟨k, t2, rfl, hk⟩ := IntsAre.at hms i v hv
    exact wpAny_mono (hstep Q' m l k t2 hM (by omega) I2 it2 h tk hit F N) (fun _ s₂ h₂ => wpAny_mono h₂ (fun f s₃ p => UnrPostW.mono (fun m' n' ⟨a, ⟨⟨l', b, c⟩⟩, d⟩ => ⟨a, ⟨l', b, by omega⟩, d⟩) p) fun _ _ e => e) fun _ _ e => e
end
end Mine
end
section
open PySem PySem.W PyProof.Rows PySem.Calls PySem.Spec
set_option Elab.async false
set_option maxRecDepth 100000
namespace Mine
def endB (j : Nat) (l : List Nat) : Bool := (l.map shp).take (pat j).length == pat j
theorem endB_t {j : Nat} {l : List Nat} (h : EndAt j l) : endB j l = true := beq_iff_eq.mpr h
theorem endB_f {j : Nat} {l : List Nat} (h : ¬ EndAt j l) : endB j l = false := by
  cases e : endB j l
  · rfl
  · exact absurd (beq_iff_eq.mp e) h
def endsTo (l : List Nat) (i : Nat) : List Int := ((List.range i).filter (fun j => endB j l)).map (fun j => ((sizeAt j + 1 : Nat) : Int))
theorem endsTo_len (l : List Nat) (i : Nat) : (endsTo l i).length ≤ i := by
  unfold endsTo
  rw [List.length_map]
  exact Nat.le_trans (List.length_filter_le _ _) (by rw [List.length_range]; exact Nat.le_refl _)
theorem endsTo_t {l : List Nat} {i : Nat} (h : endB i l = true) : endsTo l (i + 1) = endsTo l i ++ [4 + 3 * (i : Int) + 1] := by
  unfold endsTo
  rw [List.range_succ, List.filter_append, List.map_append]
  congr 1
  simp only [List.filter_cons, h, if_true, List.filter_nil, List.map_cons, List.map_nil, sizeAt]
  congr 1
theorem endsTo_f {l : List Nat} {i : Nat} (h : endB i l = false) : endsTo l (i + 1) = endsTo l i := by
  unfold endsTo
  rw [List.range_succ, List.filter_append, List.map_append]
  simp [List.filter_cons, h]
theorem ends_miss {l : List Nat} (h : ∀ j, j < 6 → ¬ EndAt j l) : endsTo l 6 = [] := by
  rw [endsTo_f (endB_f (h 5 (by decide))), endsTo_f (endB_f (h 4 (by decide))), endsTo_f (endB_f (h 3 (by decide))), endsTo_f (endB_f (h 2 (by decide))), endsTo_f (endB_f (h 1 (by decide))), endsTo_f (endB_f (h 0 (by decide)))]
  rfl
theorem ends_hit {l : List Nat} {j : Nat} (hj : j < 6) (he : EndAt j l) (h : ∀ i, i < 6 → i ≠ j → ¬ EndAt i l) : endsTo l 6 = [((sizeAt j + 1 : Nat) : Int)] := by
  have f : ∀ i, i < 6 → i ≠ j → endB i l = false := fun i a b => endB_f (h i a b)
  have t := endB_t he
  match j, hj with
  | 0, _ => rw [endsTo_f (f 5 (by decide) (by decide)), endsTo_f (f 4 (by decide) (by decide)), endsTo_f (f 3 (by decide) (by decide)), endsTo_f (f 2 (by decide) (by decide)), endsTo_f (f 1 (by decide) (by decide)), endsTo_t t]; rfl
  | 1, _ => rw [endsTo_f (f 5 (by decide) (by decide)), endsTo_f (f 4 (by decide) (by decide)), endsTo_f (f 3 (by decide) (by decide)), endsTo_f (f 2 (by decide) (by decide)), endsTo_t t, endsTo_f (f 0 (by decide) (by decide))]; rfl
  | 2, _ => rw [endsTo_f (f 5 (by decide) (by decide)), endsTo_f (f 4 (by decide) (by decide)), endsTo_f (f 3 (by decide) (by decide)), endsTo_t t, endsTo_f (f 1 (by decide) (by decide)), endsTo_f (f 0 (by decide) (by decide))]; rfl
  | 3, _ => rw [endsTo_f (f 5 (by decide) (by decide)), endsTo_f (f 4 (by decide) (by decide)), endsTo_t t, endsTo_f (f 2 (by decide) (by decide)), endsTo_f (f 1 (by decide) (by decide)), endsTo_f (f 0 (by decide) (by decide))]; rfl
  | 4, _ => rw [endsTo_f (f 5 (by decide) (by decide)), endsTo_t t, endsTo_f (f 3 (by decide) (by decide)), endsTo_f (f 2 (by decide) (by decide)), endsTo_f (f 1 (by decide) (by decide)), endsTo_f (f 0 (by decide) (by decide))]; rfl
  | 5, _ => rw [endsTo_t t, endsTo_f (f 4 (by decide) (by decide)), endsTo_f (f 3 (by decide) (by decide)), endsTo_f (f 2 (by decide) (by decide)), endsTo_f (f 1 (by decide) (by decide)), endsTo_f (f 0 (by decide) (by decide))]; rfl
theorem txtP : Str.ofString "9999-99-99T99:99:99" = sl [57, 57, 57, 57, 45, 57, 57, 45, 57, 57, 84, 57, 57, 58, 57, 57, 58, 57, 57] := by decide +kernel
theorem txtZ : Str.ofString "Z" = sl [90] := by decide +kernel
theorem sl_beq (a b : List Nat) : (sl a == sl b) = (a == b) := by
  by_cases e : a = b
  · subst e; simp
  · have h1 : (a == b) = false := beq_eq_false_iff_ne.mpr e
    rw [h1]
    refine beq_eq_false_iff_ne.mpr fun h => e ?_
    have := congrArg (fun x : Str => x.cps.toList) h
    simpa [sl] using this
theorem end_at {i : Nat} (hi : i < 6) (l : List Nat) : (sl ((l.map shp).take ((4 + 3 * (i : Int) + 1).toNat)) == sl ([57, 57, 57, 57, 45, 57, 57, 45, 57, 57, 84, 57, 57, 58, 57, 57, 58, 57, 57].take ((4 + 3 * (i : Int)).toNat) ++ [90])) = endB i l := by
  rw [sl_beq]
  unfold endB
  match i, hi with
  | 0, _ => rfl
  | 1, _ => rfl
  | 2, _ => rfl
  | 3, _ => rfl
  | 4, _ => rfl
  | 5, _ => rfl
/-- the frame's names behind the shape -/
structure SJ (m : Str → Option Value) (lst : Addr) (l : List Nat) (Ed : Addr) : Prop where
  g : SG m lst
  text : ∃ t, m "text" = some (.str (sl l) t)
  shape : ∃ t, m "shape" = some (.str (sl (l.map shp)) t)
  ends : m "ends" = some (.ref Ed)
/-- behind i of the six tests -/
structure EN (i : Nat) (lst : Addr) (l : List Nat) (Ed : Addr) (rest : List (Addr × Obj)) (m : Str → Option Value) (nw : List (Addr × Obj)) : Prop where
  j : SJ m lst l Ed
  led : ∃ its n, IntsAre its.toList (endsTo l i) ∧ nw = (Ed, listOf its n) :: rest
section
variable {prog : Program} {w : World} {A : Around} {E : Value → Shared → Prop} {s : Shared} {h₀ : Heap} {env : Env} {target : Expr} {body : List Stmt} {Q : Flow → Shared → Prop} {m₀ : Str → Option Value} {news : List (Addr × Obj)} {D I lst Ed : Addr} {it : Obj} {l : List Nat}
theorem endsGo {n n0 : Nat} {t0 t1 t2 t3 t4 t5 : Tok} (hh : A.handled = none) (F : Fr h₀ env.locals s.heap m₀) (N : News h₀ env.locals s.heap news) (hD : (D, listOf #[.int 4 t0, .int 7 t1, .int 10 t2, .int 13 t3, .int 16 t4, .int 19 t5] n) ∈ news) (hE : (Ed, listOf #[] n0) ∈ news) (hI : (I, it) ∈ news) (hne : Ed ≠ D) (hM : SJ m₀ lst l Ed)
    (hnil : ∀ m its n', SJ m lst l Ed → IntsAre its.toList (endsTo l 6) → ∀ h tk, Fr h₀ env.locals h m → News h₀ env.locals h [(Ed, listOf its n'), (D, listOf #[.int 4 t0, .int 7 t1, .int 10 t2, .int 13 t3, .int 16 t4, .int 19 t5] n), (I, it)] → Q .next { s with heap := h, toks := tk })
    (hstep : ∀ (Q' : Flow → Shared → Prop) (i : Nat) m its n' t, i < 6 → Ed ≠ D → SJ m lst l Ed → IntsAre its.toList (endsTo l i) → its.size ≤ sizeLine → ∀ I2 it2 h tk, it2.cls = .type "list_iterator" → Fr h₀ env.locals h m →
      News h₀ env.locals h [(I2, it2), (Ed, listOf its n'), (D, listOf #[.int 4 t0, .int 7 t1, .int 10 t2, .int 13 t3, .int 16 t4, .int 19 t5] n), (I, it)] →
      wpAny (model prog w) A (assign target env (.int (4 + 3 * (i : Int)) t)) (fun _ s₂ => wpAny (model prog w) A (execs body env) (UnrPostW h₀ env.locals { s with heap := h, toks := tk } [(I2, it2)] (fun m' n' => SubL [(D, listOf #[.int 4 t0, .int 7 t1, .int 10 t2, .int 13 t3, .int 16 t4, .int 19 t5] n)] n' ∧ EN (i + 1) lst l Ed [(D, listOf #[.int 4 t0, .int 7 t1, .int 10 t2, .int 13 t3, .int 16 t4, .int 19 t5] n), (I, it)] m' n') Q') E s₂) E { s with heap := h, toks := tk }) :
    wpAny (model prog w) A (pyIter (.ref D)) (fun it s₂ => TurnsAt prog w A h₀ env target body Q E it s₂) E s := by
  refine listGo (vs := [.int 4 t0, .int 7 t1, .int 10 t2, .int 13 t3, .int 16 t4, .int 19 t5]) (MI := fun i m' nw => EN i lst l Ed [(D, listOf #[.int 4 t0, .int 7 t1, .int 10 t2, .int 13 t3, .int 16 t4, .int 19 t5] n), (I, it)] m' nw) (less := [(Ed, listOf #[] n0), (D, listOf #[.int 4 t0, .int 7 t1, .int 10 t2, .int 13 t3, .int 16 t4, .int 19 t5] n), (I, it)]) hh F N hD rfl rfl ⟨hE, hD, hI, trivial⟩ ⟨hM, #[], n0, .nil, rfl⟩ (fun m nw hMI h tk F N => ?_) (fun Q' i v m nw hv hMI I2 it2 h tk hit F N => ?_)
  · obtain ⟨hj, its, n', hin, rfl⟩ := hMI
    exact hnil m its n' hj hin h tk F N
  · obtain ⟨hj, its, n', hin, rfl⟩ := hMI
    have hi : i < 6 := (List.getElem?_eq_some_iff.mp hv).1
    have hsz : its.size ≤ sizeLine := by
      have e := IntsAre.length hin
      rw [Array.length_toList] at e
      have := endsTo_len l i
      rw [sizeLine_eq]; omega
    have hvv : ∃ t, v = .int (4 + 3 * (i : Int)) t := by
      match i, hi with
      | 0, _ => exact ⟨t0, (Option.some.inj hv).symm⟩
      | 1, _ => exact ⟨t1, (Option.some.inj hv).symm⟩
      | 2, _ => exact ⟨t2, (Option.some.inj hv).symm⟩
      | 3, _ => exact ⟨t3, (Option.some.inj hv).symm⟩
      | 4, _ => exact ⟨t4, (Option.some.inj hv).symm⟩
      | 5, _ => exact ⟨t5, (Option.some.inj hv).symm⟩
    obtain ⟨t, rfl⟩ := hvv
    exact hstep Q' i m its n' t hi hne hj hin hsz I2 it2 h tk hit F N
end
section
variable {prog : Program} {w : World} {A : Around} {E : Value → Shared → Prop} {s : Shared} {x y : Str} {t u : Tok} {Q : Value → Shared → Prop}
theorem k_inD {c : Nat} (h : Q (.bool (Sre.isDigit c)) s) : wpAny (model prog w) A (compareOp .In (.str (sl [c]) u) (.str (Str.ofString "0123456789") t)) Q E s := by
  refine in_str ?_
  rw [in_digits]
  exact h
theorem k_eqEnd {i : Nat} {l : List Nat} (hi : i < 6) (h : Q (.bool (endB i l)) s) : wpAny (model prog w) A (compareOp .Eq (.str (sl ((l.map shp).take ((4 + 3 * (i : Int) + 1).toNat))) t) (.str (sl ([57, 57, 57, 57, 45, 57, 57, 45, 57, 57, 84, 57, 57, 58, 57, 57, 58, 57, 57].take ((4 + 3 * (i : Int)).toNat) ++ [90])) u)) Q E s := by
  refine eq_str ?_
  rw [end_at hi]
  exact h
theorem shp_el {news news' : List (Addr × Obj)} {c : Nat} {t : Tok} (hd : Sre.isDigit c = true) (hn : news' = news) : KCtEl news (sl [shp c]) (.str (Str.ofString "9") t) news' := ⟨hn, t, by rw [shp_dig hd, show Str.ofString "9" = sl [57] from by decide +kernel]⟩
theorem shp_eln {news news' : List (Addr × Obj)} {c : Nat} {t : Tok} (hd : Sre.isDigit c = false) (hn : news' = news) : KCtEl news (sl [shp c]) (.str (sl [c]) t) news' := ⟨hn, t, by rw [shp_non hd]⟩
end
theorem ints_nil {its : Array Value} (h : IntsAre its.toList []) : its = #[] := by
  refine Array.toList_inj.mp ?_
  generalize its.toList = l at h
  cases h
  rfl
theorem ints_one {its : Array Value} {n : Int} (h : IntsAre its.toList [n]) : ∃ t, its = #[.int n t] := by
  have : ∃ t, its.toList = [.int n t] := by
    generalize its.toList = l at h
    cases h with
    | cons n t h =>
      cases h
      exact ⟨t, rfl⟩
  obtain ⟨t, e⟩ := this
  exact ⟨t, Array.toList_inj.mp e⟩
theorem ints_push {its : Array Value} {ns : List Int} {n : Int} {t : Tok} (h : IntsAre its.toList ns) : IntsAre (its.push (.int n t)).toList (ns ++ [n]) := by
  rw [Array.toList_push]
  exact h.append (.cons _ _ .nil)
section
variable {prog : Program} {w : World} {A : Around} {E : Value → Shared → Prop} {s : Shared} {h₀ : Heap} {L : Addr} {m : Str → Option Value} {Q : Value → Shared → Prop}
theorem k_app {I2 Ed D I : Addr} {it2 lo it : Obj} {its : Array Value} {n : Nat} {x : Value} (F : Fr h₀ L s.heap m) (N : News h₀ L s.heap [(I2, it2), (Ed, listOf its n), (D, lo), (I, it)]) (hD : Ed ≠ D) (h2 : it2.cls = .type "list_iterator") (hi : it.cls = .type "range_iterator") (hsz : its.size ≤ sizeLine)
    (h : ∀ h', Fr h₀ L h' m → News h₀ L h' [(I2, it2), (Ed, listOf (its.push x) (n + 1)), (D, lo), (I, it)] → Q .none { s with heap := h' }) : wpAny (model prog w) A (call (.builtin "list.append") [.ref Ed, x]) Q E s := by
  have z := N (Ed, listOf its n) (.tail _ (.head _))
  have a1 : I2 ≠ Ed := fun e => by
    have y := (N (I2, it2) (.head _)).1
    have y' : s.heap.get? I2 = some it2 := y
    rw [e, z.1] at y'
    have := Option.some.inj y'
    rw [← this] at h2
    exact absurd (Value.type.inj h2) (by decide)
  have a2 : I ≠ Ed := fun e => by
    have y := (N (I, it) (.tail _ (.tail _ (.tail _ (.head _))))).1
    have y' : s.heap.get? I = some it := y
    rw [e, z.1] at y'
    have := Option.some.inj y'
    rw [← this] at hi
    exact absurd (Value.type.inj hi) (by decide)
  refine append_at (hsz := hsz) z.1 fun h' hs ho' => h h' (F.change hs z.2.1 z.2.2) (news_set (pre := [(I2, it2)]) (post := [(D, lo), (I, it)]) N (fun p hp => ?_) (fun p hp => ?_) hs ho')
  · rw [List.mem_singleton.mp hp]; exact a1
  · rcases List.mem_cons.mp hp with rfl | hp
    · exact Ne.symm hD
    · rw [List.mem_singleton.mp hp]; exact a2
end
section
variable {prog : Program} {w : World} {A : Around} {E : Value → Shared → Prop} {s : Shared} {h₀ : Heap} {L a b : Addr} {news : List (Addr × Obj)} {Q : Value → Shared → Prop} {n n' : Nat}
theorem k_eqE (N : News h₀ L s.heap news) (ha : (a, listOf #[] n) ∈ news) (hb : (b, listOf #[] n') ∈ news) (hu : A.units + 64 < cLine) (h : Q (.bool true) s) : wpAny (model prog w) A (compareOp .Eq (.ref a) (.ref b)) Q E s :=
  ke_eq_ints (xs := []) (ys := []) (N.isList ha) (N.isList hb) .nil .nil hu h
theorem k_eqLS {its : Array Value} {x : Str} {t : Tok} (N : News h₀ L s.heap news) (ha : (a, listOf its n) ∈ news) (hu : A.units + 64 < cLine) (h : Q (.bool false) s) : wpAny (model prog w) A (compareOp .Eq (.ref a) (.str x t)) Q E s :=
  cmp_ofEq (SeqAt.RcAt.list_str x t ⟨_, N.get ha, rfl, _, rfl⟩ (by omega) prog w _ _ h)
theorem k_eqN {e : Int} {t : Tok} (N : News h₀ L s.heap news) (ha : (a, listOf #[.int e t] n) ∈ news) (hb : (b, listOf #[] n') ∈ news) (hu : A.units + 64 < cLine) (h : Q (.bool false) s) : wpAny (model prog w) A (compareOp .Eq (.ref a) (.ref b)) Q E s :=
  ke_eq_ints (xs := [.int e t]) (ys := []) (N.isList ha) (N.isList hb) (.cons _ _ .nil) .nil hu h
end
end Mine
end
section
open PySem PySem.W PyProof.Rows PySem.Calls PySem.Spec
set_option Elab.async false
set_option maxRecDepth 100000
set_option maxHeartbeats 8000000
namespace Mine
theorem txtA : Str.ofString "2024-06-15T08:30:45" = sl [50, 48, 50, 52, 45, 48, 54, 45, 49, 53, 84, 48, 56, 58, 51, 48, 58, 52, 53] := by decide +kernel
theorem txtB : Str.ofString "Z-07Z" = sl [90, 45, 48, 55, 90] := by decide +kernel
theorem txtE : Str.ofString "" = sl [] := by decide +kernel
local macro_rules | `(tactic| walk_at "pyIter ref") => `(tactic| ((with_reducible show wpAny _ _ (pyIter (Value.ref _)) (fun it s₂ => LoopAtV _ _ _ _ _ _ _ _ _ it s₂) _ _); (refine hold ?_)))
local macro_rules | `(tactic| walk_at "pyIter ref") => `(tactic| ((with_reducible show wpAny _ _ (pyIter (Value.ref _)) (fun it s₂ => TurnsAt _ _ _ _ _ _ _ _ _ it s₂) _ _); (refine hold ?_)))
local macro_rules | `(tactic| walk_at "exec For Name Subscript cons nil") => `(tactic| (k_here; (rename Fr _ _ _ _ => lF'); (with_unfolding_all refine' For_turns lF' ?_; k_whole)))
local macro_rules | `(tactic| walk_at "exec For Name List cons nil") => `(tactic| (k_here; (rename Fr _ _ _ _ => lF'); (with_unfolding_all refine' For_turns lF' ?_; k_whole)))
local macro_rules | `(tactic| walk_at "eval Name") => `(tactic| (k_here; (with_reducible show wpAny _ _ (eval (Expr.Name _ _) _) _ _ _); (rename Fr _ _ _ _ => zF); (rename SG _ _ => zM); k_dflt (refine ld zF (by with_unfolding_all exact SG.script zM) ?_)))
local macro_rules | `(tactic| walk_at "call ref") => `(tactic| (k_here; (with_reducible show wpAny _ _ (call (Value.ref 73) _) _ _ _); (refine hold ?_)))
local macro_rules | `(tactic| walk_at "subscriptTail Name Slice ref ref") => `(tactic| (k_here; (rename SG _ _ => zM); (rename Heap.IsList _ _ _ => zL); (rename IntsAre _ _ => zI); (rename News _ _ _ _ => zN); (rename Fr _ _ _ _ => zF); k_dflt (refine k_chunk3 zF zN zL zI (by assumption) (by assumption) ?_); intro D' ws' h' F' N' l1 C'; (try k_lt l1)))
local macro_rules | `(tactic| walk_at "subscriptTail Name Slice ref ref") => `(tactic| (k_here; (rename Three _ => zC); (rename News _ _ _ _ => zN); (rename Fr _ _ _ _ => zF); k_dflt (refine k_rest1 zF zN (by k_mem) zC ?_); intro D' ws' h' F' N' l1 C'; (try k_lt l1)))
local macro_rules | `(tactic| walk_at "binaryOp Add ref ref") => `(tactic| (k_here; (rename Three _ => zC); (rename News _ _ _ _ => zN); (rename Fr _ _ _ _ => zF); k_dflt (refine k_add5 zF zN (by k_mem) (by k_mem) zC ?_); intro D' h' g' u' r' F' N' l1; (try k_lt l1)))
local macro_rules | `(tactic| walk_at "subscriptTail") => `(tactic| (k_here; (with_reducible show wpAny _ _ (subscriptTail (Expr.BinOp _ _ _ _) _ (Value.ref _) (Value.int 0 _)) _ _ _); (rename News _ _ _ _ => zN); k_dflt (refine kba_turn (value' := PySem.Expr.Name (PySem.Str.ofString "_") ⟨0, 0, 0, 0⟩) (fun _ => rfl) (k_hd0 zN (by k_mem) ?_))))
local macro_rules | `(tactic| walk_at "subscriptTail") => `(tactic| (k_here; (with_reducible show wpAny _ _ (subscriptTail (Expr.List _ _) _ (Value.ref _) (Value.int _ _)) _ _ _); (rename News _ _ _ _ => zN); k_dflt (refine kba_turn (value' := PySem.Expr.Name (PySem.Str.ofString "_") ⟨0, 0, 0, 0⟩) (fun _ => rfl) (k_draw zN (by k_mem) (Int.fmod_nonneg_of_pos _ (by decide)) (Int.fmod_lt_of_pos _ (by decide)) ?_)); intro z' t' dr'))
local macro_rules | `(tactic| walk_at "subscriptTail") => `(tactic| (k_here; (with_reducible show wpAny _ _ (subscriptTail _ _ (Value.str _ _) (Value.ref _)) _ _ _); (rename Drawn _ => zD); (rename News _ _ _ _ => zN); (rename Fr _ _ _ _ => zF); k_dflt (refine k_to zF zN txtA (by obtain ⟨j, _, rfl⟩ := Drawn.at_ zD; omega) (by decide) ?_); intro h' t' k' F' N'))
local macro_rules | `(tactic| walk_at "binaryOp Add str str") => `(tactic| (k_here; (with_reducible show wpAny _ _ (binaryOp Operator.Add (Value.str _ _) (Value.str _ _)) _ _ _); k_dflt (refine' k_catG ?hx ?hy ?hl ?_; (case hx => with_reducible rfl); (case hy => first | with_reducible rfl | exact txtB); (case hl => (simp only [List.length_take, List.length_cons, List.length_nil] at *; omega))); intro z' t' k' l'))
local macro_rules | `(tactic| walk_at "eval Name") => `(tactic| (k_here; (with_reducible show wpAny _ _ (eval (Expr.Name _ _) _) _ _ _); (rename Fr _ _ _ _ => zF); (rename SH _ _ _ => zM); k_dflt (first | refine ld zF (by with_unfolding_all exact zM.g.script) ?_ | refine ld zF (by with_unfolding_all exact Exists.choose_spec zM.g.signs) ?_ | refine ld zF (by with_unfolding_all exact Exists.choose_spec zM.text) ?_)))
local macro_rules | `(tactic| walk_at "call builtin:len") => `(tactic| (k_here; (with_reducible show wpAny _ _ (call (Value.builtin "len") [Value.str (sl _) _]) _ _ _); k_dflt (refine k_slen rfl (by omega) ?_)))
local macro_rules | `(tactic| walk_at "binaryOp Mod int int") => `(tactic| (k_here; (rename SH _ _ _ => zM); k_dflt (refine k_modG (by omega) ?_); intro z' wi'; cases wi'))
local macro_rules | `(tactic| walk_at "subscriptTail") => `(tactic| (k_here; (with_reducible show wpAny _ _ (subscriptTail _ _ (Value.str _ _) (Value.int _ _)) _ _ _); (rename SH _ _ _ => zM); k_dflt (refine k_signG txtS (by omega) (by show _ < (20 : Int); omega) (by decide) ?_); intro l' t' e'))
local macro_rules | `(tactic| walk_at "subscriptTail") => `(tactic| (k_here; (with_reducible show wpAny _ _ (subscriptTail _ (Expr.Slice none (some _) none _) (Value.str _ _) (Value.ref _)) _ _ _); (rename SH _ _ _ => zM); (rename News _ _ _ _ => zN); (rename Fr _ _ _ _ => zF); k_dflt (refine k_toG zF zN rfl (by omega) (by omega) ?_); intro h' t' k' l' F' N' e'))
local macro_rules | `(tactic| walk_at "subscriptTail") => `(tactic| (k_here; (with_reducible show wpAny _ _ (subscriptTail _ (Expr.Slice (some _) none none _) (Value.str _ _) (Value.ref _)) _ _ _); (rename SH _ _ _ => zM); (rename News _ _ _ _ => zN); (rename Fr _ _ _ _ => zF); k_dflt (refine k_frG zF zN rfl (by omega) (by omega) ?_); intro h' t' k' l' F' N' e'))
local macro_rules | `(tactic| walk_at "eval Name") => `(tactic| (k_here; (with_reducible show wpAny _ _ (eval (Expr.Name _ _) _) _ _ _); (rename Fr _ _ _ _ => zF); (rename SJ _ _ _ _ => zM); k_dflt (first | refine ld zF (by with_unfolding_all exact zM.g.script) ?_ | refine ld zF (by with_unfolding_all exact Exists.choose_spec zM.g.signs) ?_ | refine ld zF (by with_unfolding_all exact Exists.choose_spec zM.text) ?_ | refine ld zF (by with_unfolding_all exact Exists.choose_spec zM.shape) ?_ | refine ld zF (by with_unfolding_all exact zM.ends) ?_)))
local macro_rules | `(tactic| walk_at "execs cons Assign cons") => `(tactic| walk_at "execs cons")
local macro_rules | `(tactic| walk_at "call builtin:list.append") => `(tactic| (k_here; (rename SJ _ _ _ _ => zM); (rename News _ _ _ _ => zN); (rename Fr _ _ _ _ => zF); k_dflt (refine k_app zF zN (by assumption) (by assumption) (by assumption) (by assumption) ?_); intro h' F' N'))
local macro_rules | `(tactic| walk_at "compareOp Eq ref ref") => `(tactic| (k_here; (rename SJ _ _ _ _ => zM); (rename News _ _ _ _ => zN); k_dflt (first | refine k_eqE zN (by k_mem) (by k_mem) (by k_units) ?_ | refine k_eqN zN (by k_mem) (by k_mem) (by k_units) ?_)))
local macro_rules | `(tactic| walk_at "compareOp NotEq str str") => `(tactic| (k_here; (with_reducible show wpAny _ _ (compareOp CmpOp.NotEq (Value.str _ _) (Value.str _ _)) _ _ _); k_dflt (refine ne_same ?_)))
local macro_rules | `(tactic| walk_at "compareOp NotEq ref ref") => `(tactic| (k_here; (rename SJ _ _ _ _ => zM); (rename News _ _ _ _ => zN); k_dflt (refine k_lne zN (by k_mem) (by k_mem) (by k_mem) (by k_mem) (by k_units) ?_)))
local macro_rules | `(tactic| walk_at "subscriptTail Name Constant ref int") => `(tactic| (k_here; (with_reducible show wpAny _ _ (subscriptTail _ _ (Value.ref _) (Value.int 0 _)) _ _ _); (rename SJ _ _ _ _ => zM); (rename News _ _ _ _ => zN); k_dflt (refine k_hd0 zN (by k_mem) ?_)))
local macro_rules | `(tactic| walk_at "compareOp Eq ref str") => `(tactic| (k_here; (rename SJ _ _ _ _ => zM); (rename News _ _ _ _ => zN); k_dflt (refine k_eqLS (its := #[.ref _]) zN (by k_mem) (by k_units) ?_)))
local macro_rules | `(tactic| walk_at "eval ListComp") => `(tactic| (k_here; k_dflt (refine ListComp_T (F₀ := by k_asm) (by with_unfolding_all rfl) (by decide) (by rfl) (by decide) (by rfl) ?_)))
local macro_rules | `(tactic| walk_at "SrcT") => `(tactic| refine hold ?_)
local macro_rules | `(tactic| walk_at "KCtEl") => `(tactic| refine hold ?_)
local macro_rules | `(tactic| walk_at "compareOp In str str") => `(tactic| (k_here; (with_reducible show wpAny _ _ (compareOp CmpOp.In (Value.str (sl _) _) (Value.str _ _)) _ _ _); k_dflt (refine k_inD ?_)))
local macro_rules | `(tactic| walk_at "call builtin:str.join") => `(tactic| (k_here; (rename CarriedAll _ _ => zC); (rename News _ _ _ _ => zN); k_dflt (refine k_joinS (News.isList zN (by k_mem)) zC (by omega) ?_); intro t' k'))
local macro_rules | `(tactic| walk_at "subscriptTail") => `(tactic| (k_here; (with_reducible show wpAny _ _ (subscriptTail _ (Expr.Slice none (some _) none _) (Value.str _ _) (Value.ref _)) _ _ _); (rename SJ _ _ _ _ => zM); (rename News _ _ _ _ => zN); (rename Fr _ _ _ _ => zF); k_dflt (first | refine k_to zF zN txtP (by omega) (by decide) ?_ | refine k_to zF zN rfl (by omega) (by first | omega | (rw [List.length_map]; omega)) ?_); intro h' t' k' F' N'))
local macro_rules | `(tactic| walk_at "binaryOp Add str str") => `(tactic| (k_here; (rename SJ _ _ _ _ => zM); (with_reducible show wpAny _ _ (binaryOp Operator.Add (Value.str _ _) (Value.str _ _)) _ _ _); k_dflt (refine' k_catS ?hx txtZ ?hl ?_; (case hx => with_reducible rfl); (case hl => (simp only [List.length_append, List.length_take, List.length_cons, List.length_nil]; omega))); intro t' k'))
local macro_rules | `(tactic| walk_at "compareOp Eq str str") => `(tactic| (k_here; (with_reducible show wpAny _ _ (compareOp CmpOp.Eq (Value.str (sl _) _) (Value.str (sl _) _)) _ _ _); (rename SJ _ _ _ _ => zM); k_dflt (refine k_eqEnd (by assumption) ?_)))
theorem range_ok3 {n : Nat} (h : ¬ ((63 : Nat) : Int) < (n : Int)) : Builtin.Range.small 0 (if (n : Int) > 1 then (n : Int) else 1) 3 = true ∧ 0 ≤ Builtin.Range.rangeSize 0 (if (n : Int) > 1 then (n : Int) else 1) 3 := by
  have hn : n < 64 := by omega
  clear h
  revert n
  decide +kernel
theorem law8 : PySem.Challenge.rw_ko0126_08.Holds := hd08 (by
  w_strict (k_go0; (all_goals try k_fold); generalize hGW : GoodW PySem.Challenge.rw_ko0126_08.row.claim _ _ _ _ = R; k_steps; skip
            rename Below _ _ _ _ => zB
            rename Fr _ _ _ _ => zF
            rename Frag.In _ _ => zX
            rename Top _ _ _ _ _ _ => zT
            refine lk_miss (l := []) zB zF (News.nil) zX zT rfl (by decide +kernel) (by decide) (fails_short (by decide)) ?_
            intro h' tk t F' N'
            clear zF
            k_steps
            rename IsRange _ _ _ _ _ _ _ _ => hR
            rename Fr _ _ _ _ => zF
            rename News _ _ _ _ => zN
            rename Heap.IsList _ _ _ => zL
            rename IntsAre _ _ => zI
            refine' krsGo2 (fun m => SG m _) [] rfl hR ?small ?pos zF zN ⟨rfl, _, rfl⟩ ?sub ?nil ?step
            case small => exact (range_ok3 (by assumption)).1
            case pos => exact (range_ok3 (by assumption)).2
            case sub => k_subL
            case nil =>
              intro m' h' tk' hm' F' N'
              k_steps
              subst hGW
              k_steps
            case step =>
              intro Q' I it m v hv hm t h tk F N hit
              clear hGW
              clear zN zF hR
              obtain ⟨i, hi, rfl⟩ := hv
              have hv0 : (0 : Int) ≤ 0 + (i : Int) * 3 := by omega
              generalize 0 + (i : Int) * 3 = v at hv0 F ⊢
              clear hi
              (try (rename Flt.MathXP _ _ _ => y; clear y))
              (try (rename LooseAre _ _ _ => y; clear y))
              (try (rename Glob _ _ _ _ _ _ _ _ => y; clear y))
              (try (rename Tables _ _ _ _ => y; clear y))
              (try (rename TopE _ _ _ _ => y; clear y))
              (try (rename TopW _ _ _ => y; clear y))
              (try (rename BMod _ _ _ _ _ => y; clear y))
              (try (rename Dflts _ _ _ => y; clear y))
              (try (rename Heap.CodeRec _ _ _ => y; clear y))
              (try (rename ReadsAll _ _ _ _ => y; clear y))
              (try (rename Well _ _ _ _ => y; clear y))
              (try (rename Reads _ _ _ _ => y; clear y))
              (try (rename ReadsAllW _ _ _ _ _ _ => y; clear y))
              (try (rename WShape.hasAll _ _ _ = _ => y; clear y))
              (try (rename WData.layableAll _ _ = _ => y; clear y))
              (try (rename PyData.layable0 _ = _ => y; clear y))
              (try (rename PyData.layableAll0 _ = _ => y; clear y))
              (try (rename Spec.Shape.has _ _ = _ => y; clear y))
              dsimp only
              k_steps
              rename News _ _ _ _ => zN
              rename Fr _ _ _ _ => zF
              rename Three _ => zC
              rename List.length _ = _ + _ => hz
              rename SG _ _ => zM
              show wpAny _ _ _ _ _ _
              refine' innerGo rfl zC zF zN (by k_mem) (I := I) (it := it) ⟨⟨zM.script, zM.signs⟩, ⟨_, rfl⟩⟩ ?len2 ?nil2 ?step2
              case len2 =>
                simp only [List.length_take, List.length_cons, List.length_nil] at hz
                omega
              case nil2 =>
                intro m1 l hM hl h2 tk2 F2 N2
                clear zF zN hz zM
                k_steps
                rename Fr _ _ _ _ => F2
                rename News _ _ _ _ => N2
                delta Hold
                refine' srcT_intro shp rfl F2 N2 (by omega) ?turn3 ?fin3
                case turn3 =>
                  intro c t3 I3 oI C3 oC D3 m3 ys hp h3 tk3 E' hc hC hx F3 N3 off ne
                  (try simp only [LCg.Off3, and_true] at off)
                  clear F2 N2
                  k_steps
                  · exact shp_el (by assumption) rfl
                  · exact shp_eln (by first | assumption | (apply Bool.eq_false_iff.mpr; assumption)) rfl
                case fin3 =>
                  intro hp ys hca D3 h3 tk3 F3 N3 off
                  (try simp only [LCg.Off1, and_true] at off)
                  clear F2 N2
                  dsimp only
                  k_steps
                  rename Fr _ _ _ _ => F4
                  rename News _ _ _ _ => N4
                  rename SH _ _ _ => hM
                  delta Hold
                  refine' endsGo rfl F4 N4 (by k_mem) (by k_mem) (by k_mem) (by (first | omega | exact Nat.ne_of_lt (by omega))) (I := I) (it := it) (l := l) ⟨⟨hM.g.script, hM.g.signs⟩, hM.text, ⟨_, rfl⟩, rfl⟩ ?nil4 ?step4
                  case step4 =>
                    intro Q4 i4 m4 its n4 t4 hi4 hne hJ hin hsz I4 it4 h5 tk5 hit5 F5 N5
                    clear F4 N4 hM
                    dsimp only
                    k_steps
                    all_goals (rename SJ _ _ _ _ => zM)
                    · exact ⟨⟨⟨zM.g.script, zM.g.signs⟩, zM.text, zM.shape, zM.ends⟩, _, _, by rw [endsTo_t (by assumption)]; exact ints_push hin, rfl⟩
                    · exact ⟨⟨⟨zM.g.script, zM.g.signs⟩, zM.text, zM.shape, zM.ends⟩, _, _, by rw [endsTo_f (by first | assumption | (apply Bool.eq_false_iff.mpr; assumption))]; exact hin, rfl⟩
                  case nil4 =>
                    intro m4 its n4 hJ hin h5 tk5 F5 N5
                    clear F4 N4 hM
                    dsimp only
                    rcases res_of (l := l) (by omega) with ⟨run, ne⟩ | ⟨j, hj, parts, here, cut, at_, ne⟩
                    · rw [ends_miss ne] at hin
                      have e := ints_nil hin
                      subst e
                      clear hin
                      k_steps
                      rename Fr _ _ _ _ => F6
                      rename News _ _ _ _ => N6
                      delta Hold
                      refine lk_miss (l := l) zB F6 N6 zX zT rfl rfl (by omega) run ?_
                      intro h6 tk6 t7 F7 N7
                      clear F6 N6
                      k_steps
                      rename Fr _ _ _ _ => zF
                      rename News _ _ _ _ => zN
                      rename SJ _ _ _ _ => zM
                      exact ⟨_, _, _, [], rfl, zF, fun p hp => by rw [List.mem_singleton.mp hp]; exact zN _ (by k_mem), fun _ hp => (nomatch hp), ⟨by with_unfolding_all exact zM.g.script, by with_unfolding_all exact zM.g.signs⟩, rfl⟩
                    · rw [ends_hit hj at_ ne] at hin
                      obtain ⟨t6, e⟩ := ints_one hin
                      subst e
                      clear hin
                      k_steps
                      rename Fr _ _ _ _ => F6
                      rename News _ _ _ _ => N6
                      delta Hold
                      refine lk_tk (l := l) zB F6 N6 zX zT rfl rfl (by omega) here ?_ ?_ ?_
                      · intro h3 h6 tk6 t7 F7 N7
                        clear F6 N6
                        k_steps
                        rename Fr _ _ _ _ => F8
                        rename News _ _ _ _ => N8
                        delta Hold
                        refine' lk_tk (l := l.take (sizeAt j + 1)) zB F8 N8 zX zT rfl rfl (by rw [List.length_take]; omega) cut ?te2 ?ve2 ?ok2
                        case te2 =>
                          intro h3b h9 tk9 t9 F9 N9
                          clear F8 N8
                          k_steps
                          rename Fr _ _ _ _ => zF
                          rename News _ _ _ _ => zN
                          rename SJ _ _ _ _ => zM
                          exact ⟨_, _, _, [], rfl, zF, fun p hp => by rw [List.mem_singleton.mp hp]; exact zN _ (by k_mem), fun _ hp => (nomatch hp), ⟨by with_unfolding_all exact zM.g.script, by with_unfolding_all exact zM.g.signs⟩, rfl⟩
                        case ve2 => exact fun h3b => absurd h3b (by omega)
                        case ok2 => exact fun h3b => absurd h3b (by omega)
                      · intro h3 ho h6 tk6 t7 F7 N7
                        clear F6 N6
                        k_steps
                        rename Fr _ _ _ _ => F8
                        rename News _ _ _ _ => N8
                        delta Hold
                        refine' lk_tk (l := l.take (sizeAt j + 1)) zB F8 N8 zX zT rfl rfl (by rw [List.length_take]; omega) cut ?te2 ?ve2 ?ok2
                        case te2 => exact fun h3b => absurd h3b (by omega)
                        case ve2 =>
                          intro h3b hob h9 tk9 t9 F9 N9
                          clear F8 N8
                          k_steps
                          rename Fr _ _ _ _ => zF
                          rename News _ _ _ _ => zN
                          rename SJ _ _ _ _ => zM
                          exact ⟨_, _, _, [], rfl, zF, fun p hp => by rw [List.mem_singleton.mp hp]; exact zN _ (by k_mem), fun _ hp => (nomatch hp), ⟨by with_unfolding_all exact zM.g.script, by with_unfolding_all exact zM.g.signs⟩, rfl⟩
                        case ok2 => exact fun _ hob => absurd (ho.symm.trans hob) (by decide)
                      · intro h3 ho h6 tk6 l7 a7 n7 F7 N7
                        clear F6 N6
                        k_steps
                        rename Fr _ _ _ _ => F8
                        rename News _ _ _ _ => N8
                        delta Hold
                        refine' lk_tk (l := l.take (sizeAt j + 1)) zB F8 N8 zX zT rfl rfl (by rw [List.length_take]; omega) cut ?te2 ?ve2 ?ok2
                        case te2 => exact fun h3b => absurd h3b (by omega)
                        case ve2 => exact fun _ hob => absurd (ho.symm.trans hob) (by decide)
                        case ok2 =>
                          intro h3b hob h9 tk9 l9 a9 n9 F9 N9
                          clear F8 N8
                          k_steps
                          rename Fr _ _ _ _ => zF
                          rename News _ _ _ _ => zN
                          rename SJ _ _ _ _ => zM
                          exact ⟨_, _, _, [], rfl, zF, fun p hp => by rw [List.mem_singleton.mp hp]; exact zN _ (by k_mem), fun _ hp => (nomatch hp), ⟨by with_unfolding_all exact zM.g.script, by with_unfolding_all exact zM.g.signs⟩, rfl⟩
              case step2 =>
                intro Q2 m1 l k t2 hM hl I2 it2 h2 tk2 hit2 F2 N2
                clear zF zN hz zM
                k_steps
                all_goals (rename SH _ _ _ => zM; exact ⟨_, ⟨⟨zM.g.script, zM.g.signs⟩, ⟨_, rfl⟩⟩, by omega⟩)))
end Mine
end
set_option maxRecDepth 100000 in
set_option maxHeartbeats 8000000 in
theorem PySem.Challenge.cw_ko0126_08_holds : PySem.Challenge.rw_ko0126_08.Holds := by
  exact Mine.law8
