import PyProof.Rows.All
import Wide.All
import OpenK.AllK
import Wide.FinOn
import PySem.Challenge.RW_ew0007_01
set_option Elab.async false
section PartT1
open PySem PySem.W PyProof.Rows
set_option maxRecDepth 100000 in
set_option maxHeartbeats 8000000 in
open_top hd for PySem.Challenge.rw_ew0007_01
end PartT1
section PartS1
open PySem PySem.W
set_option maxRecDepth 100000
namespace Mine
open PySem.Sre

def code : Array Nat := #[14, 4, 0, 1, 4294967295, 17, 0, 26, 5, 0, 4294967295, 3, 1, 17, 1, 17, 2, 13, 11, 9, 4294967295, 132, 268435456, 0, 0, 0, 0, 0, 0, 17, 3, 1]
def spc (c : Nat) : Bool := c < 256 && ((code.getD (20 + c / 32) 0).testBit (c % 32))

theorem in_set (c : Nat) (seen : Seen) : ∃ seen', accepts code 17 c seen = .ok (spc c, seen') := by
  have hw : (17 + 1 < 100) := by decide
  unfold accepts
  simp only [show ops[code.getD 17 0]? = some Op.IN from rfl]
  have e : code.size = 32 := by decide
  rw [e]
  unfold inSet
  simp only [show ops[code.getD (17 + 2 + 0) 0]? = some Op.CHARSET from rfl]
  by_cases h : spc c = true
  · have h' := h
    unfold spc at h'
    have h2 : (decide (c < 256) && (code.getD (17 + 2 + (1 + c / 32)) 0).testBit (c % 32)) = true := by
      rw [show 17 + 2 + (1 + c / 32) = 20 + c / 32 from by omega]; exact h'
    rw [if_pos h2, h]
    exact ⟨_, rfl⟩
  · have h' : spc c = false := by simpa using h
    have h2 : ¬ (decide (c < 256) && (code.getD (17 + 2 + (1 + c / 32)) 0).testBit (c % 32)) = true := by
      rw [show 17 + 2 + (1 + c / 32) = 20 + c / 32 from by omega]; exact h
    rw [if_neg h2]
    unfold inSet
    simp only [show ops[code.getD (17 + 2 + 9 + 0) 0]? = some Op.FAILURE from rfl]
    rw [h']
    exact ⟨_, rfl⟩
def S (text : Array Nat) (lim p c : Nat) (a b : Option Nat) (seen : Seen) : M :=
  { code := code, text := text, lim := lim, start := p, pc := 13, pos := c, handed := c, outermost := true,
    marks := #[some p, a, b, none], lastmark := 0, lastindex := -1,
    frames := [{ wait := .takeMore, pc := 7, pos := c, outermost := true, count := (c : Int) - p, kept := { lastmark := 0, lastindex := -1, whole := false, marks := #[] } }],
    weight := 1, seen := seen }
def S2 (text : Array Nat) (lim p c : Nat) (seen : Seen) : M :=
  { S text lim p c (some c) (some c) seen with pc := 17, lastmark := 2, lastindex := 1 }

theorem two_marks (text : Array Nat) (lim p c : Nat) (a b : Option Nat) (seen : Seen) : ((S text lim p c a b seen).step).step = S2 text lim p c ((seen.add 17).add 17) := by
  kernel_rfl
theorem step_exec {m : M} (h1 : m.outcome = none) (h2 : m.answer = none) (h3 : m.pc < m.code.size) : m.step = m.exec := by
  unfold M.step
  rw [h1, h2]
  simp only [Option.isSome_none, Bool.false_eq_true, if_false, h3, if_true]
theorem step_resume {m : M} {yes : Bool} {f : Sre.Frame} {rest : List Sre.Frame} (h1 : m.outcome = none) (h2 : m.answer = some yes) (h3 : m.frames = f :: rest) :
    m.step = M.resume { m with answer := none, frames := rest, weight := m.weight - (1 + f.kept.marks.size), pc := f.pc, pos := f.pos, outermost := f.outermost } f yes := by
  unfold M.step
  rw [h1, h2, h3]
  simp only [Option.isSome_none, Bool.false_eq_true, if_false]
theorem step_end {m : M} {yes : Bool} (h1 : m.outcome = none) (h2 : m.answer = some yes) (h3 : m.frames = []) :
    m.step = { m with outcome := some (if yes then .matched else .failed) } := by
  unfold M.step
  rw [h1, h2, h3]
  simp only [Option.isSome_none, Bool.false_eq_true, if_false]
theorem exec_in {m : M} (h : ops[m.word 0]? = some .IN) (hl : m.pos < m.lim) {b : Bool} {sn : Seen} (ha : accepts m.code m.pc (m.text.getD m.pos 0) (m.seen.add (m.word 0)) = .ok (b, sn)) :
    m.exec = if b then { m with seen := sn, pc := m.pc + itemWidth m.code m.pc, pos := m.pos + 1 } else { m with seen := sn, answer := some false } := by
  unfold M.exec
  rw [h]
  dsimp only
  rw [if_neg (by omega), ha]
  cases b <;> rfl
theorem exec_in_end {m : M} (h : ops[m.word 0]? = some .IN) (hl : ¬ m.pos < m.lim) : m.exec = { m with seen := m.seen.add (m.word 0), answer := some false } := by
  unfold M.exec
  rw [h]
  dsimp only
  rw [if_pos (by omega)]
  rfl
theorem runFor_stay {m : M} (h : m.outcome.isSome = true) : ∀ n, M.runFor n m = m
  | 0 => rfl
  | n + 1 => by unfold M.runFor; rw [if_pos h]
theorem runFor_succ (n : Nat) (m : M) (h : m.outcome.isSome = false) : M.runFor (n + 1) m = M.runFor n m.step := by
  conv => lhs; unfold M.runFor
  rw [if_neg (by rw [h]; decide)]
theorem runFor_add (b : Nat) : ∀ (a : Nat) (m : M), M.runFor (a + b) m = M.runFor b (M.runFor a m)
  | 0, m => by rw [Nat.zero_add]; rfl
  | a + 1, m => by
    cases h : m.outcome.isSome with
    | true => rw [runFor_stay h, runFor_stay h, runFor_stay h]
    | false => rw [show a + 1 + b = (a + b) + 1 from by omega, runFor_succ _ _ h, runFor_succ _ _ h, runFor_add b a]

theorem resume_more {m : M} {f : Sre.Frame} {sn : Seen} (hw : f.wait = .takeMore) (h3 : m.word 3 = maxRepeat) (hl : f.pos < m.lim) (ha : accepts m.code (m.pc + 4) (m.text.getD f.pos 0) m.seen = .ok (true, sn)) :
    M.resume m f false = M.afterRun { m.putBack f.kept with seen := sn, pos := f.pos + 1 } .takeMore (f.count + 1) f.kept := by
  unfold M.resume
  rw [hw]
  dsimp only
  rw [if_neg (by decide), if_neg (by rw [h3]; simp), if_neg (by omega), ha]
theorem resume_over {m : M} {f : Sre.Frame} (hw : f.wait = .takeMore) (h3 : m.word 3 = maxRepeat) (hl : ¬ f.pos < m.lim) :
    M.resume m f false = (m.putBack f.kept).say false := by
  unfold M.resume
  rw [hw]
  dsimp only
  rw [if_neg (by decide), if_neg (by rw [h3]; simp), if_pos (by omega)]

theorem S_more (text : Array Nat) (lim p c : Nat) (seen sn : Seen) :
    M.afterRun { (M.putBack { S2 text lim p c seen with answer := none, frames := [], weight := 0, pc := 7, pos := c, outermost := true } { lastmark := 0, lastindex := -1, whole := false, marks := #[] }) with seen := sn, pos := c + 1 } .takeMore ((c : Int) - p + 1) { lastmark := 0, lastindex := -1, whole := false, marks := #[] }
      = S text lim p (c + 1) (some c) (some c) sn := by
  have e : ((c + 1 : Nat) : Int) - p = (c : Int) - p + 1 := by omega
  unfold S
  rw [e]
  kernel_rfl
theorem turn_plain {text : Array Nat} {lim p c : Nat} (a b : Option Nat) (seen : Seen) (hl : c < lim) (hs : spc (text.getD c 0) = false) :
    ∃ seen', M.runFor 4 (S text lim p c a b seen) = S text lim p (c + 1) (some c) (some c) seen' := by
  rw [runFor_succ _ _ rfl, runFor_succ _ _ rfl]
  obtain ⟨s2, e2⟩ := in_set (text.getD c 0) (((seen.add 17).add 17).add 13)
  rw [hs] at e2
  have e3 : (S2 text lim p c ((seen.add 17).add 17)).step = { S2 text lim p c s2 with answer := some false } := by
    rw [step_exec rfl rfl (show 17 < code.size from by decide), exec_in (b := false) (sn := s2) rfl hl e2]
    rfl
  have e4 : ({ S2 text lim p c s2 with answer := some false } : M).step = S text lim p (c + 1) (some c) (some c) s2 := by
    rw [step_resume rfl rfl rfl, resume_more (sn := s2) rfl rfl hl rfl]
    exact S_more text lim p c s2 s2
  rw [two_marks, runFor_succ _ _ rfl, e3, runFor_succ _ _ rfl, e4]
  exact ⟨s2, rfl⟩
def Hit (p j : Nat) (m : M) : Prop := m.outcome.isSome = true ∧ (∃ m', m.outcome = some .matched ∧ m' = m) ∧ m.start = p ∧ m.handed = j + 1 ∧ m.marks = #[some p, some j, some j, some (j + 1)] ∧ m.lastmark = 3 ∧ m.lastindex = 2
def Miss (m : M) : Prop := m.outcome.isSome = true ∧ m.outcome = some .failed

theorem turn_hit {text : Array Nat} {lim p c : Nat} (a b : Option Nat) (seen : Seen) (hl : c < lim) (hs : spc (text.getD c 0) = true) :
    ∃ m, M.runFor 8 (S text lim p c a b seen) = m ∧ Hit p c m := by
  obtain ⟨s2, e2⟩ := in_set (text.getD c 0) (((seen.add 17).add 17).add 13)
  rw [hs] at e2
  have e3 : (S2 text lim p c ((seen.add 17).add 17)).step = { S2 text lim p c s2 with pc := 29, pos := c + 1 } := by
    rw [step_exec rfl rfl (show 17 < code.size from by decide), exec_in (b := true) (sn := s2) rfl hl e2]
    kernel_rfl
  rw [runFor_succ _ _ rfl, runFor_succ _ _ rfl, two_marks, runFor_succ _ _ rfl, e3]
  refine ⟨_, rfl, ?_⟩
  refine ⟨by kernel_rfl, ⟨_, by kernel_rfl, rfl⟩, by kernel_rfl, by kernel_rfl, by kernel_rfl, by kernel_rfl, by kernel_rfl⟩

theorem turn_miss {text : Array Nat} {lim p c : Nat} (a b : Option Nat) (seen : Seen) (hl : ¬ c < lim) :
    ∃ m, M.runFor 8 (S text lim p c a b seen) = m ∧ Miss m := by
  have e3 : (S2 text lim p c ((seen.add 17).add 17)).step = { S2 text lim p c (((seen.add 17).add 17).add 13) with answer := some false } := by
    rw [step_exec rfl rfl (show 17 < code.size from by decide), exec_in_end rfl hl]
    rfl
  have e4 : ({ S2 text lim p c (((seen.add 17).add 17).add 13) with answer := some false } : M).step = { S2 text lim p c (((seen.add 17).add 17).add 13) with answer := some false, frames := [], weight := 0, pc := 7, lastmark := 0, lastindex := -1 } := by
    rw [step_resume rfl rfl rfl, resume_over rfl rfl hl]
    kernel_rfl
  rw [runFor_succ _ _ rfl, runFor_succ _ _ rfl, two_marks, runFor_succ _ _ rfl, e3, runFor_succ _ _ rfl, e4]
  exact ⟨_, rfl, by kernel_rfl, by kernel_rfl⟩
theorem run_hit {text : Array Nat} {lim p j : Nat} : ∀ (k c : Nat) (a b : Option Nat) (seen : Seen), c + k = j → j < lim → (∀ i, c ≤ i → i < j → spc (text.getD i 0) = false) → spc (text.getD j 0) = true →
    ∃ m, M.runFor (4 * (k + 2)) (S text lim p c a b seen) = m ∧ Hit p j m
  | 0, c, a, b, seen, hc, hl, _, hs => by
    obtain rfl : c = j := by omega
    exact turn_hit a b seen hl hs
  | k + 1, c, a, b, seen, hc, hl, hn, hs => by
    obtain ⟨s', e⟩ := turn_plain (p := p) a b seen (show c < lim by omega) (hn c (Nat.le_refl _) (by omega))
    rw [show 4 * (k + 1 + 2) = 4 + 4 * (k + 2) from by omega, runFor_add, e]
    exact run_hit k (c + 1) _ _ s' (by omega) hl (fun i h1 h2 => hn i (by omega) h2) hs
theorem run_miss {text : Array Nat} {lim p : Nat} : ∀ (k c : Nat) (a b : Option Nat) (seen : Seen), c + k = lim → (∀ i, c ≤ i → i < lim → spc (text.getD i 0) = false) →
    ∃ m, M.runFor (4 * (k + 2)) (S text lim p c a b seen) = m ∧ Miss m
  | 0, c, a, b, seen, hc, _ => turn_miss a b seen (by omega)
  | k + 1, c, a, b, seen, hc, hn => by
    obtain ⟨s', e⟩ := turn_plain (p := p) a b seen (show c < lim by omega) (hn c (Nat.le_refl _) (by omega))
    rw [show 4 * (k + 1 + 2) = 4 + 4 * (k + 2) from by omega, runFor_add, e]
    exact run_miss k (c + 1) _ _ s' (by omega) (fun i h1 h2 => hn i (by omega) h2)

theorem exec_min {m : M} (h : ops[m.word 0]? = some .MIN_REPEAT_ONE) (h2 : m.word 2 = 0) (hl : m.pos ≤ m.lim) :
    m.exec = M.afterRun { m with seen := (m.seen.add (m.word 0)).add (m.word 4) } .takeMore 0 (({ m with seen := (m.seen.add (m.word 0)).add (m.word 4) } : M).keep m.inner.isSome) := by
  unfold M.exec
  rw [h]
  dsimp only
  rw [show ({ m with seen := m.seen.add (m.word 0) } : M).word 2 = 0 from h2]
  rw [if_neg (by show ¬ (((0 : Nat) : Int) > _); omega)]
  simp only [if_true, Nat.zero_min]
  unfold Sre.run
  dsimp only
  rw [if_neg (by omega)]
  rfl
def S0 (text : Array Nat) (p lim : Nat) : M := { code := code, text := text, lim := lim, start := p, pc := 5, pos := p, handed := p, marks := #[none, none, none, none], seen := ({} : Seen).add 14 }
theorem forMatch_is (text : Array Nat) (p lim : Nat) (h : p < lim) : forMatch code text 2 p lim false false = S0 text p lim := by
  unfold forMatch
  have : (decide (lim - p < (header code).1)) = false := decide_eq_false (by show ¬ lim - p < 1; omega)
  simp only [this, Bool.and_false, Bool.false_eq_true, if_false]
  kernel_rfl
theorem start_run (text : Array Nat) (p lim : Nat) (h : p < lim) : ∃ seen, M.runFor 2 (S0 text p lim) = S text lim p p none none seen := by
  have e1 : (S0 text p lim).step = { S0 text p lim with pc := 7, marks := #[some p, none, none, none], lastmark := 0, seen := (({} : Seen).add 14).add 17 } := by kernel_rfl
  rw [runFor_succ _ _ rfl, e1, runFor_succ _ _ rfl, step_exec rfl rfl (show 7 < code.size from by decide), exec_min rfl rfl (Nat.le_of_lt h)]
  refine ⟨((({} : Seen).add 14).add 17).add 26 |>.add 3, ?_⟩
  unfold S
  rw [show (p : Int) - p = 0 from by omega]
  kernel_rfl
theorem miss_short (text : Array Nat) (p lim : Nat) (h : p = lim) : ∃ m, M.runFor 1 (forMatch code text 2 p lim false false) = m ∧ Miss m := by
  subst h
  refine ⟨_, rfl, ?_⟩
  have e : forMatch code text 2 p p false false = { S0 text p p with answer := some false } := by
    unfold forMatch
    have : (decide (p - p < (header code).1)) = true := decide_eq_true (by show p - p < 1; omega)
    have e2 : decide (p ≤ p) = true := decide_eq_true (Nat.le_refl _)
    simp only [this, e2, Bool.and_true]
    kernel_rfl
  rw [e]
  exact ⟨rfl, rfl⟩
theorem match_hit {text : Array Nat} {p lim j : Nat} (h1 : p ≤ j) (h2 : j < lim) (hn : ∀ i, p ≤ i → i < j → spc (text.getD i 0) = false) (hs : spc (text.getD j 0) = true) :
    ∃ m, M.runFor (4 * (j - p + 3)) (forMatch code text 2 p lim false false) = m ∧ Hit p j m := by
  obtain ⟨sn, e⟩ := start_run text p lim (by omega)
  obtain ⟨m, e2, hm⟩ := run_hit (text := text) (lim := lim) (p := p) (j := j) (j - p) p none none sn (by omega) h2 hn hs
  refine ⟨m, ?_, hm⟩
  rw [forMatch_is text p lim (by omega), show 4 * (j - p + 3) = 2 + (4 * (j - p + 2) + 2) from by omega, runFor_add, e, runFor_add, e2]
  exact runFor_stay hm.1 2
theorem match_miss {text : Array Nat} {p lim : Nat} (h1 : p ≤ lim) (hn : ∀ i, p ≤ i → i < lim → spc (text.getD i 0) = false) :
    ∃ m, M.runFor (4 * (lim - p + 3)) (forMatch code text 2 p lim false false) = m ∧ Miss m := by
  rcases Nat.lt_or_ge p lim with h | h
  · obtain ⟨sn, e⟩ := start_run text p lim h
    obtain ⟨m, e2, hm⟩ := run_miss (text := text) (lim := lim) (p := p) (lim - p) p none none sn (by omega) hn
    refine ⟨m, ?_, hm⟩
    rw [forMatch_is text p lim h, show 4 * (lim - p + 3) = 2 + (4 * (lim - p + 2) + 2) from by omega, runFor_add, e, runFor_add, e2]
    exact runFor_stay hm.1 2
  · obtain ⟨m, e, hm⟩ := miss_short text p lim (by omega)
    refine ⟨m, ?_, hm⟩
    rw [show 4 * (lim - p + 3) = 1 + (4 * (lim - p + 3) - 1) from by omega, runFor_add, e]
    exact runFor_stay hm.1 _

section
open PySem.Builtin.Re
variable {M : Model} {A : Around} {E : Value → Shared → Prop} {s : Shared}
theorem drive_any {Q : Sre.M → Shared → Prop} : ∀ (k T : Nat) (m : Sre.M), k < T → (Sre.M.runFor (4 * (k + 1)) m).outcome.isSome = true → Q (Sre.M.runFor (4 * (k + 1)) m) s → wpAny M A (reDrive T m) Q E s
  | k, 0, _, h, _, _ => absurd h (Nat.not_lt_zero _)
  | k, T + 1, m, h, ho, hq => by
    unfold reDrive
    dsimp only
    show wpAny M A (if (Sre.M.runFor 4 m).outcome.isSome = true then _ else _) Q E s
    cases e : (Sre.M.runFor 4 m).outcome.isSome with
    | true =>
      rw [if_pos rfl]
      refine wpAny_pure ?_
      rw [show 4 * (k + 1) = 4 + 4 * k from by omega, runFor_add, runFor_stay e] at hq
      exact hq
    | false =>
      rw [if_neg (by decide)]
      refine wpAny_bind (wpAny_rule ?_)
      cases k with
      | zero => rw [show 4 * (0 + 1) = 4 from rfl, e] at ho; cases ho
      | succ k =>
        rw [show 4 * (k + 1 + 1) = 4 + 4 * (k + 1) from by omega, runFor_add] at hq ho
        exact drive_any k T _ (by omega) ho hq
theorem rules_any {Q : PUnit → Shared → Prop} {p : Nat → Bool} {f : Nat → String} (hq : Q ⟨⟩ s) : ∀ l : List Nat, wpAny M A (forIn l PUnit.unit (fun i _ => do
      if p i then rule (f i)
      pure (ForInStep.yield PUnit.unit))) Q E s
  | [] => wpAny_pure hq
  | i :: l => by
    rw [List.forIn_cons]
    refine wpAny_bind ?_
    cases p i with
    | true => exact wpAny_bind (wpAny_rule (wpAny_pure (rules_any hq l)))
    | false => exact wpAny_pure (rules_any hq l)
theorem toEnd_any {Q : Option Sre.M → Shared → Prop} {k : Nat} {m m' : Sre.M} (hk : k < 2 ^ 63) (e : Sre.M.runFor (4 * (k + 1)) m = m') (ho : m'.outcome.isSome = true)
    (hq : match m'.outcome with | some .matched => Q (some m') s | some .failed => Q none s | _ => False) : wpAny M A (reRunToEnd m) Q E s := by
  unfold reRunToEnd
  refine wpAny_bind (drive_any k _ m (by omega) (by rw [e]; exact ho) ?_)
  rw [e]
  refine wpAny_bind (rules_any ?_ _)
  split at hq
  · rename_i h; rw [h]; exact wpAny_pure hq
  · rename_i h; rw [h]; exact wpAny_pure hq
  · exact hq.elim
end
end Mine
end PartS1
section PartS2
open PySem PySem.W
set_option maxRecDepth 100000
namespace Mine
open PySem.Builtin.Re

def codeObj : Obj := { cls := .type "tuple", data := .seq (#[.int 14 0, .int 4 0, .int 0 0, .int 1 0, .int 4294967295 0, .int 17 0, .int 0 0, .int 26 0, .int 5 0, .int 0 0, .int 4294967295 0, .int 3 0, .int 1 0, .int 17 0, .int 1 0, .int 17 0, .int 2 0, .int 13 0, .int 11 0, .int 9 0, .int 4294967295 0, .int 132 0, .int 268435456 0, .int 0 0, .int 0 0, .int 0 0, .int 0 0, .int 0 0, .int 0 0, .int 17 0, .int 3 0, .int 1 0]) }
def patObj : Obj := { cls := .type "re.Pattern", data := .fields #[.str (Str.ofString "(?s)(.*?)([\\'\"\\\\\\x00-\\x1f])") 351, .int 48 386, .int 2 0, .none, .none, .ref 73, .int 0 0] }

section
variable {M : Model} {A : Around} {E : Value → Shared → Prop}
theorem if_not {α : Type} {s : Shared} {c : Bool} {a b : Sem α} {Q : α → Shared → Prop} (hc : c = false) (h : wpAny M A b Q E s) : wpAny M A (if c = true then a else b) Q E s := by
  subst hc
  exact h
theorem if_so {α : Type} {s : Shared} {c : Bool} {a b : Sem α} {Q : α → Shared → Prop} (hc : c = true) (h : wpAny M A a Q E s) : wpAny M A (if c = true then a else b) Q E s := by
  subst hc
  exact h
theorem of_same {α : Type} {Q : α → Shared → Prop} {a b : α} {s : Shared} (h : a = b) (hq : Q b s) : Q a s := by rw [h]; exact hq
theorem target_any {h : Heap} {g : Array GenState} {d : Drawn} {tk : Nat} {os : OsState} {x : Str} {t u : Tok} {e : Nat} {Q : ReTarget → Shared → Prop} (hp : h.get? 74 = some patObj) (hc : h.get? 73 = some codeObj) (he : e ≤ x.length) (hx : x.length < 1000000)
    (hq : Q { pattern := .ref 74, string := .str x t, code := code, text := x.cps, kind := 0, groups := 2, pos := e, lim := x.length } ⟨h, g, d, tk, os⟩) :
    wpAny M A (reTarget "re.Pattern.match" "match" ⟨[.ref 74, .str x t, .int (e : Int) u], []⟩) Q E ⟨h, g, d, tk, os⟩ := by
  unfold reTarget
  refine wpAny_bind (wpAny_of_eq (a := [some (.str x t), some (.int (e : Int) u), none]) (by kernel_rfl) ?_)
  wp_walk
  refine if_not (by simp only [Bool.or_eq_false_iff, decide_eq_false_iff_not]; unfold Str.length at he hx; omega) ?_
  wp_walk
  have e1 : min (e : Int).toNat x.cps.size = e := by rw [Int.toNat_natCast]; exact Nat.min_eq_left he
  have e2 : min ((2 ^ 63 - 1 : Int)).toNat x.cps.size = x.length := by
    rw [show ((2 ^ 63 - 1 : Int)).toNat = 9223372036854775807 from by decide]
    exact Nat.min_eq_right (by unfold Str.length at hx; omega)
  dsimp only
  rw [e1, e2]
  exact of_same (by kernel_rfl) hq

def spanObj (p j : Nat) : Obj := { cls := .type "tuple", data := .seq #[rawInt p, rawInt ((j + 1 : Nat) : Int), rawInt p, rawInt j, rawInt j, rawInt ((j + 1 : Nat) : Int)] }
def foundObj (str : Value) (p lim : Nat) (T : Addr) : Obj := { cls := .type "re.Match", data := .fields #[str, .ref 74, rawInt p, rawInt lim, rawInt 2, .ref T] }
theorem new_match {s : Shared} {str : Value} {p j lim : Nat} {m : Sre.M} {Q : Value → Shared → Prop} (hm : Hit p j m)  (hpj : p ≤ j)
    (hq : Q (.ref (s.heap.objs.size + 1)) { s with heap := (s.heap.push (spanObj p j)).push (foundObj str p lim s.heap.objs.size) }) :
    wpAny M A (reNewMatch (.ref 74) str 2 p lim m) Q E s := by
  obtain ⟨_, _, e1, e2, e3, e4, e5⟩ := hm
  unfold reNewMatch
  rw [e1, e2, e3, e4, e5]
  dsimp only
  refine if_not ?_ ?_
  · rw [show List.range 2 = [0, 1] from rfl]
    simp only [List.any_cons, List.any_nil, Bool.or_false]
    show ((decide (((2 * 0 + 1 : Nat) : Int) ≤ 3) && decide (j < p)) || (decide (((2 * 1 + 1 : Nat) : Int) ≤ 3) && decide (j + 1 < j))) = false
    rw [decide_eq_false (show ¬ j < p by omega), decide_eq_false (show ¬ j + 1 < j by omega), Bool.and_false, Bool.and_false]
    rfl
  · wp_walk
    rw [Heap.size_push]
    exact hq

theorem match_hit_any {s : Shared} {x : Str} {t u : Tok} {p j : Nat} {Q : Fin → Shared → Prop} (hp : s.heap.get? 74 = some patObj) (hc : s.heap.get? 73 = some codeObj) (hx : x.length < 1000000)
    (h1 : p ≤ j) (h2 : j < x.length) (hn : ∀ i, p ≤ i → i < j → spc (x.cps.getD i 0) = false) (hs : spc (x.cps.getD j 0) = true)
    (hq : Q (.done (.ret (.ref (s.heap.objs.size + 1)))) { s with heap := (s.heap.push (spanObj p j)).push (foundObj (.str x t) p x.length s.heap.objs.size) }) :
    wpAny M A (Builtin.«re.Pattern.match» ⟨[.ref 74, .str x t, .int (p : Int) u], []⟩) Q E s := by
  unfold Builtin.«re.Pattern.match»
  obtain ⟨h, g, d, tk, os⟩ := s
  refine wpAny_bind (target_any hp hc (by omega) hx ?_)
  unfold reAnswer
  obtain ⟨m, e, hm⟩ := match_hit h1 h2 hn hs
  refine wpAny_bind (toEnd_any (k := j - p + 2) (m' := m) (by omega) e hm.1 ?_)
  obtain ⟨m', e2, _⟩ := hm.2.1
  rw [e2]
  dsimp only
  refine wpAny_bind (new_match hm h1 ?_)
  exact wpAny_pure hq
theorem match_miss_any {s : Shared} {x : Str} {t u : Tok} {p : Nat} {Q : Fin → Shared → Prop} (hp : s.heap.get? 74 = some patObj) (hc : s.heap.get? 73 = some codeObj) (hx : x.length < 1000000)
    (h1 : p ≤ x.length) (hn : ∀ i, p ≤ i → i < x.length → spc (x.cps.getD i 0) = false) (hq : Q (.done (.ret .none)) s) :
    wpAny M A (Builtin.«re.Pattern.match» ⟨[.ref 74, .str x t, .int (p : Int) u], []⟩) Q E s := by
  unfold Builtin.«re.Pattern.match»
  obtain ⟨h, g, d, tk, os⟩ := s
  refine wpAny_bind (target_any hp hc h1 hx ?_)
  unfold reAnswer
  obtain ⟨m, e, hm⟩ := match_miss h1 hn
  refine wpAny_bind (toEnd_any (k := x.length - p + 2) (m' := m) (by omega) e hm.1 ?_)
  rw [hm.2]
  dsimp only
  exact wpAny_pure hq
end
end Mine
end PartS2
section PartS3
open PySem PySem.W
set_option maxRecDepth 100000
namespace Mine
open PySem.Builtin.Re
section
variable {M : Model} {A : Around} {E : Value → Shared → Prop} {h : Heap} {g : Array GenState} {d : Drawn} {tk : Nat} {os : OsState}
theorem found_any {str : Value} {p j lim : Nat} {m T : Addr} {Q : ReFound → Shared → Prop} (hm : h.get? m = some (foundObj str p lim T)) (hT : h.get? T = some (spanObj p j))
    (hq : Q ⟨#[str, .ref 74, rawInt p, rawInt lim, rawInt 2, .ref T], #[(p : Int), ((j + 1 : Nat) : Int), (p : Int), (j : Int), (j : Int), ((j + 1 : Nat) : Int)]⟩ ⟨h, g, d, tk, os⟩) :
    wpAny M A (reFound (.ref m)) Q E ⟨h, g, d, tk, os⟩ := by
  unfold reFound
  wp_walk
  exact of_same (by kernel_rfl) hq
theorem end_any {str : Value} {p j lim : Nat} {m T : Addr} {Q : Fin → Shared → Prop} (hm : h.get? m = some (foundObj str p lim T)) (hT : h.get? T = some (spanObj p j))
    (hq : Q (.done (.ret (.int ((j + 1 : Nat) : Int) tk))) ⟨h, g, d, tk + 1, os⟩) : wpAny M A (Builtin.«re.Match.end» ⟨[.ref m], []⟩) Q E ⟨h, g, d, tk, os⟩ := by
  unfold Builtin.«re.Match.end» reOneGroup
  refine wpAny_bind (wpAny_bind (wpAny_of_eq (a := (.ref m, [])) (by kernel_rfl) ?_))
  refine wpAny_bind (found_any hm hT ?_)
  wp_walk
  exact hq
theorem group_text {x : Str} {t : Tok} {fs : Array Value} {spans : Array Int} {k b e : Nat} {dflt : Value} {Q : Value → Shared → Prop} (hf : fs.getD 0 .none = .str x t) (h1 : spans.getD (2 * k) (-1) = (b : Int)) (h2 : spans.getD (2 * k + 1) (-1) = (e : Int)) (hx : x.length < 1000000)
    (hq : Q (.str ⟨x.cps.extract b e⟩ tk) ⟨h, g, d, tk + 1, os⟩) : wpAny M A (reGroupText ⟨fs, spans⟩ k dflt) Q E ⟨h, g, d, tk, os⟩ := by
  unfold reGroupText
  dsimp only
  rw [h1, h2, hf]
  refine if_not (by simp only [Bool.or_eq_false_iff, decide_eq_false_iff_not]; omega) ?_
  have e1 : reTextOf (.str x t) = pure (x.cps, 0) := by kernel_rfl
  rw [e1, Int.toNat_natCast, Int.toNat_natCast]
  refine wpAny_bind (wpAny_pure ?_)
  show wpAny M A (mkStr ⟨x.cps.extract b e⟩) Q E _
  refine wpAny_mkStr hq ?_
  unfold Str.length at hx ⊢
  rw [PySem.sizeLine_eq]
  simp only [Array.size_extract]
  omega
theorem groups_any {x : Str} {t : Tok} {p j lim : Nat} {m T : Addr} {Q : Fin → Shared → Prop} (hm : h.get? m = some (foundObj (.str x t) p lim T)) (hT : h.get? T = some (spanObj p j)) (hx : x.length < 1000000)
    (hq : Q (.done (.ret (.ref h.objs.size))) ⟨h.push { cls := .type "tuple", data := .seq #[.str ⟨x.cps.extract p j⟩ tk, .str ⟨x.cps.extract j (j + 1)⟩ (tk + 1)] }, g, d, tk + 1 + 1, os⟩) :
    wpAny M A (Builtin.«re.Match.groups» ⟨[.ref m], []⟩) Q E ⟨h, g, d, tk, os⟩ := by
  unfold Builtin.«re.Match.groups» reWithDefault
  refine wpAny_bind (wpAny_bind ?_)
  refine wpAny_of_eq (a := [none]) (by kernel_rfl) ?_
  refine wpAny_bind (found_any hm hT ?_)
  refine wpAny_pure ?_
  dsimp only
  rw [show List.range ((#[(p : Int), ((j + 1 : Nat) : Int), (p : Int), (j : Int), (j : Int), ((j + 1 : Nat) : Int)] : Array Int).size / 2 - 1) = [0, 1] from by kernel_rfl]
  simp only [List.mapM_cons, List.mapM_nil]
  refine wpAny_bind (wpAny_bind ?_)
  refine group_text (k := 0 + 1) (b := p) (e := j) rfl rfl rfl hx ?_
  refine wpAny_bind (wpAny_bind ?_)
  refine group_text (k := 1 + 1) (b := j) (e := j + 1) rfl rfl rfl hx ?_
  wp_walk
  exact hq
end
end Mine
end PartS3
section PartS4
open PySem PySem.W PyProof.Rows
set_option maxRecDepth 100000
namespace Mine
def appObj (l : Addr) : Obj := { cls := .type "builtin_function_or_method", data := .fields #[.builtin "list.append", .ref l] }
theorem look_append : typeLookup (.type "list") "append" = pure (some (.builtin "list.append")) := by rw [typeLookup_type, builtinLookup_eq_fast]; kernel_rfl
theorem type_append : typeOf (.builtin "list.append") = pure (.type "method_descriptor") := by show builtinType _ = _; rw [builtinType_eq_fast]; kernel_rfl
theorem slot_md_get : Slot "method_descriptor" "__get__" "method_descriptor.__get__" :=
  .of (owner := "method_descriptor") (n := "__get__") (by rw [typeLookup_type, builtinLookup_eq_fast]; kernel_rfl) (by decide +kernel) (by decide +kernel) (by decide +kernel)
    (by first | exact .inl (by decide +kernel) | exact .inr (by decide +kernel)) (by rw [isSubtype_type]; kernel_rfl)
theorem entry_md_get : entryFor table "method_descriptor.__get__" = some Builtin.«method_descriptor.__get__» := entryFor_of_tree (by kernel_rfl)
theorem args_md_get (a b c : Value) : argsOk "method_descriptor.__get__" ⟨[a, b, c], []⟩ := by unfold argsOk; kernel_rfl
theorem look_md_set : typeLookup (.type "method_descriptor") "__set__" = pure none := by rw [typeLookup_type, builtinLookup_eq_fast]; kernel_rfl
theorem look_md_del : typeLookup (.type "method_descriptor") "__delete__" = pure none := by rw [typeLookup_type, builtinLookup_eq_fast]; kernel_rfl
theorem sub_list : isSubtype (.type "list") (.type "list") = pure true := by rw [isSubtype_type]; kernel_rfl
section
variable {prog : Program} {w : World} {A : Around} {E : Value → Shared → Prop} {s : Shared}
theorem md_append {hp : Heap} {g : Array GenState} {d : Drawn} {tk : Nat} {os : OsState} (a : Addr) {o : Obj} {Q : Fin → Shared → Prop} (hx : hp.get? a = some o) (hc : o.cls = .type "list")
    (hq : Q (.done (.ret (.ref hp.objs.size))) ⟨hp.push (appObj a), g, d, tk, os⟩) :
    wpAny (model prog w) A (Builtin.«method_descriptor.__get__» ⟨[.builtin "list.append", .ref a, .type "list"], []⟩) Q E ⟨hp, g, d, tk, os⟩ := by
  have hT : (⟨hp, g, d, tk, os⟩ : Shared).TypeIs (.ref a) "list" := ⟨_, hx, hc⟩
  unfold Builtin.«method_descriptor.__get__»
  refine wpAny_bind (wpAny_of_eq (a := (.builtin "list.append", some (.ref a), some (.type "list"))) (by kernel_rfl) ?_)
  dsimp only
  refine if_not (by decide +kernel) ?_
  repeat (any_goals (first | assumption | wp_step))
  rw [show (".".intercalate ("list.append".cutAt '.').dropLast) = "list" from by decide +kernel]
  refine wpAny_of_eq (a := true) sub_list ?_
  wp_walk
  exact hq
theorem ga_append {hp : Heap} {g : Array GenState} {d : Drawn} {tk : Nat} {os : OsState} (a : Addr) (xs : Array Value) (k : Nat) (sl : Array (Option Value)) (u : Tok) {Q : Fin → Shared → Prop}
    (hx : hp.get? a = some { cls := .type "list", dict := none, data := .seq xs k, slots := sl })
    (hq : Q (.done (.ret (.ref hp.objs.size))) ⟨hp.push (appObj a), g, d, tk, os⟩) :
    wpAny (model prog w) A (Builtin.«object.__getattribute__» ⟨[.ref a, .str (Str.ofString "append") u], []⟩) Q E ⟨hp, g, d, tk, os⟩ := by
  have hT : (⟨hp, g, d, tk, os⟩ : Shared).TypeIs (.ref a) "list" := ⟨_, hx, rfl⟩
  have f1 := look_append
  have f2 := type_append
  have f3 := slot_md_get.lookup
  have f4 := look_md_set
  have f5 := look_md_del
  unfold Builtin.«object.__getattribute__»
  repeat (any_goals (first | assumption | ((with_reducible show wpAny _ _ (call (Value.builtin "method_descriptor.__get__") _ _) _ _ _); refine wpAny_call_entry slot_md_get type_append entry_md_get (md_append a hx rfl ⟨_, rfl, ?_⟩) (args_md_get _ _ _)) | wp_step))
theorem getattr_append {h : Heap} {g : Array GenState} {d : Drawn} {tk : Nat} {os : OsState} {a : Addr} {o : Obj} {xs : Array Value} {k : Nat} {Q : Value → Shared → Prop}
    (hx : h.get? a = some o) (hc : o.cls = .type "list") (hdat : o.data = .seq xs k) (hd : o.dict = none)
    (hq : ∀ tk', Q (.ref h.objs.size) ⟨h.push (appObj a), g, d, tk', os⟩) :
    wpAny (model prog w) A (getAttr (.ref a) (Str.ofString "append") true) Q E ⟨h, g, d, tk, os⟩ := by
  obtain ⟨c, dct, dat, sl⟩ := o
  simp only at hc hdat hd
  subst hc hdat hd
  have hT : ∀ tk', (⟨h, g, d, tk', os⟩ : Shared).TypeIs (.ref a) "list" := fun _ => ⟨_, hx, rfl⟩
  have f1 := sub_AttributeError
  have f3 := F.slot_list_getattribute.lookup
  have f4 := F.slot_list_getattribute.bind (.ref a)
  have f5 := am_list_getattr_none
  unfold getAttr getAttrBy
  repeat (any_goals (first | assumption | exact hT _ | ((with_reducible show wpAny _ _ (call (Value.builtin "list.__getattribute__") _ _) _ _ _); refine wpAny_call_entry F.slot_list_getattribute (hT _) am_entry_list_getattribute (ga_append a xs k sl _ hx ⟨_, rfl, ?_⟩) (F.args_list_getattribute_2 _ _)) | wp_step))
  exact hq _
end
end Mine
end PartS4
section PartS4b
open PySem PySem.W PyProof.Rows
set_option maxRecDepth 100000
namespace Mine
theorem sub_list_module : isSubtype (.type "list") (.type "module") = pure false := by rw [isSubtype_type]; kernel_rfl
theorem sub_list_type : isSubtype (.type "list") (.type "type") = pure false := by rw [isSubtype_type]; kernel_rfl
section
variable {prog : Program} {w : World} {A : Around} {E : Value → Shared → Prop} {s : Shared}
theorem quiet_append {as : Args} : (Code.builtin "list.append" as).quiet = true := Code.quiet_builtin _ (by decide +kernel)
theorem call_append {h : Heap} {g : Array GenState} {d : Drawn} {tk : Nat} {os : OsState} {q l : Addr} {its : Array Value} {n : Nat} {x : Value} {Q : Value → Shared → Prop}
    (hb : h.get? q = some (appObj l)) (ho : h.get? l = some { cls := .type "list", data := .seq its n })
    (hq : ∀ h', Heap.SameBut l h h' → h'.get? l = some { cls := .type "list", data := .seq (its.push x) (n + 1) } → Q .none ⟨h', g, d, tk, os⟩) (hsz : its.size ≤ sizeLine := by size_fits) :
    wpAny (model prog w) A (call (.ref q) [x]) Q E ⟨h, g, d, tk, os⟩ := by
  have hT : (⟨h, g, d, tk, os⟩ : Shared).TypeIs (.ref l) "list" := ⟨_, ho, rfl⟩
  refine wpAny_call (codeAny_of_tree ?_)
  show wpAny _ A.in1 (callAny (.ref q) ⟨[x], []⟩) _ _ _
  simp only [callAny]
  refine wpAny_bind (wpAny_load hb ?_)
  simp only [appObj, show (Value.type "builtin_function_or_method" == Value.type "method" || Value.type "builtin_function_or_method" == Value.type "builtin_function_or_method" || Value.type "builtin_function_or_method" == Value.type "method-wrapper") = true by decide, if_true]
  refine if_so (by decide) ?_
  refine wpAny_bind ?_
  unfold checkBoundCall
  rw [show Manifest.signature? "list.append" = Manifest.signature? "list.append" from rfl]
  wp_walk
  dsimp only
  have f1 := sub_list_module
  have f2 := sub_list_type
  repeat (any_goals (first | assumption | wp_step))
  refine ⟨quiet_append, codeAny_builtin entry_list_append ?_⟩
  show wpAny _ _ (updateSeq l (·.push x) >>= fun _ => ret .none) _ _ _
  refine wpAny_bind ?_
  refine wpAny_updateSeq ho rfl (wpAny_pure (hq _ (Heap.SameBut.update ..) ?_))
  rw [Heap.get?_update_self _ ho (by rw [mapSeq_push]; rfl), mapSeq_push]
theorem appended {h₀ : Heap} {L q l : Addr} {m : Str → Option Value} {news news' : List (Addr × Obj)} {its : Array Value} {n : Nat} {x : Value} {Q : Value → Shared → Prop}
    (F : Fr h₀ L s.heap m) (N : News h₀ L s.heap news) (hm : (q, appObj l) ∈ news) (U : Upd l (listOf its n) (listOf (its.push x) (n + 1)) news news')
    (h : ∀ h', Fr h₀ L h' m → News h₀ L h' news' → Q .none { s with heap := h' }) (hsz : its.size ≤ sizeLine := by size_fits) : wpAny (model prog w) A (call (.ref q) [x]) Q E s := by
  obtain ⟨pre, post, rfl, rfl, a, b⟩ := U.split
  have z := N (l, listOf its n) (List.mem_append.mpr (.inr (.head _)))
  obtain ⟨hp, g, d, tk, os⟩ := s
  exact call_append (N _ hm).1 z.1 (fun h' hs ho' => h h' (F.change hs z.2.1 z.2.2) (news_set N a b hs ho')) hsz
theorem append_taken {h₀ : Heap} {L l : Addr} {m : Str → Option Value} {news : List (Addr × Obj)} {its : Array Value} {n : Nat} {Q : Value → Shared → Prop}
    (F : Fr h₀ L s.heap m) (N : News h₀ L s.heap news) (hm : (l, listOf its n) ∈ news)
    (h : ∀ q h' tk', Fr h₀ L h' m → News h₀ L h' ((q, appObj l) :: news) → (∀ p ∈ news, p.1 < q) → Q (.ref q) { s with heap := h', toks := tk' }) :
    wpAny (model prog w) A (getAttr (.ref l) (Str.ofString "append") true) Q E s := by
  obtain ⟨hp, g, d, tk, os⟩ := s
  exact getattr_append (N _ hm).1 rfl rfl rfl fun tk' => h _ _ _ (F.push _) (News.push F N _ rfl) fun p hp => Heap.lt_size (N p hp).1
end
end Mine
end PartS4b
section PartS5
open PySem PySem.W PyProof.Rows
set_option maxRecDepth 100000
namespace Mine
theorem slot_match : Slot "re.Pattern" "match" "re.Pattern.match" :=
  .of (owner := "re.Pattern") (n := "match") (by rw [typeLookup_type, builtinLookup_eq_fast]; kernel_rfl) (by decide +kernel) (by decide +kernel) (by decide +kernel)
    (by first | exact .inl (by decide +kernel) | exact .inr (by decide +kernel)) (by rw [isSubtype_type]; kernel_rfl)
theorem type_match : typeOf (.builtin "re.Pattern.match") = pure (.type "method_descriptor") := by show builtinType _ = _; rw [builtinType_eq_fast]; kernel_rfl
theorem entry_match : entryFor table "re.Pattern.match" = some Builtin.«re.Pattern.match» := entryFor_of_tree (by kernel_rfl)
theorem args_match (a b c : Value) : argsOk "re.Pattern.match" ⟨[a, b, c], []⟩ := by unfold argsOk; kernel_rfl
theorem slot_end : Slot "re.Match" "end" "re.Match.end" :=
  .of (owner := "re.Match") (n := "end") (by rw [typeLookup_type, builtinLookup_eq_fast]; kernel_rfl) (by decide +kernel) (by decide +kernel) (by decide +kernel)
    (by first | exact .inl (by decide +kernel) | exact .inr (by decide +kernel)) (by rw [isSubtype_type]; kernel_rfl)
theorem type_end : typeOf (.builtin "re.Match.end") = pure (.type "method_descriptor") := by show builtinType _ = _; rw [builtinType_eq_fast]; kernel_rfl
theorem entry_end : entryFor table "re.Match.end" = some Builtin.«re.Match.end» := entryFor_of_tree (by kernel_rfl)
theorem args_end (a : Value) : argsOk "re.Match.end" ⟨[a], []⟩ := by unfold argsOk; kernel_rfl
theorem slot_groups : Slot "re.Match" "groups" "re.Match.groups" :=
  .of (owner := "re.Match") (n := "groups") (by rw [typeLookup_type, builtinLookup_eq_fast]; kernel_rfl) (by decide +kernel) (by decide +kernel) (by decide +kernel)
    (by first | exact .inl (by decide +kernel) | exact .inr (by decide +kernel)) (by rw [isSubtype_type]; kernel_rfl)
theorem type_groups : typeOf (.builtin "re.Match.groups") = pure (.type "method_descriptor") := by show builtinType _ = _; rw [builtinType_eq_fast]; kernel_rfl
theorem entry_groups : entryFor table "re.Match.groups" = some Builtin.«re.Match.groups» := entryFor_of_tree (by kernel_rfl)
theorem args_groups (a : Value) : argsOk "re.Match.groups" ⟨[a], []⟩ := by unfold argsOk; kernel_rfl
end Mine
end PartS5
section PartS6
open PySem PySem.W PyProof.Rows
set_option maxRecDepth 100000
namespace Mine
theorem plain_pat : PlainAttrs "re.Pattern" := ⟨⟨"object.__getattribute__", by rw [typeLookup_type, builtinLookup_eq_fast]; kernel_rfl, by decide +kernel⟩, by rw [typeLookup_type, builtinLookup_eq_fast]; kernel_rfl⟩
theorem plain_found : PlainAttrs "re.Match" := ⟨⟨"object.__getattribute__", by rw [typeLookup_type, builtinLookup_eq_fast]; kernel_rfl, by decide +kernel⟩, by rw [typeLookup_type, builtinLookup_eq_fast]; kernel_rfl⟩
section
variable {prog : Program} {w : World} {A : Around} {E : Value → Shared → Prop} {s : Shared} {K : Frag} {h₀ : Heap} {L : Addr} {m : Str → Option Value} {news : List (Addr × Obj)}
theorem pat_method {pl : Sem Bool} {Q : Value × List Value → Shared → Prop} (F : Fr h₀ L s.heap m) (X : K.In h₀) (hp : K.lookup 74 = some patObj) (h : Q (.builtin "re.Pattern.match", [.ref 74]) s) :
    wpAny (model prog w) A (getMethod (.ref 74) (Str.ofString "match") pl) Q E s := by
  have hx := X.keeps F.keep _ _ hp
  exact getMethod_builtin (T := "re.Pattern") ⟨_, hx, rfl⟩ plain_pat slot_match type_match (fun a e => by cases e; exact ⟨_, hx, rfl⟩) h
theorem pat_hit {x : Str} {t u : Tok} {p : Int} {j : Nat} {Q : Value → Shared → Prop} (F : Fr h₀ L s.heap m) (X : K.In h₀) (N : News h₀ L s.heap news) (hp : K.lookup 74 = some patObj) (hc : K.lookup 73 = some codeObj) (h0 : 0 ≤ p) (hx : x.length < 1000000)
    (h1 : p.toNat ≤ j) (h2 : j < x.length) (hn : ∀ i, p.toNat ≤ i → i < j → spc (x.cps.getD i 0) = false) (hs : spc (x.cps.getD j 0) = true)
    (h : ∀ T o h', Fr h₀ L h' m → News h₀ L h' ((o, foundObj (.str x t) p.toNat x.length T) :: (T, spanObj p.toNat j) :: news) → (∀ q ∈ news, q.1 < T) → T < o → Q (.ref o) { s with heap := h' }) :
    wpAny (model prog w) A (call (.builtin "re.Pattern.match") [.ref 74, .str x t, .int p u]) Q E s := by
  have x4 := X.keeps F.keep _ _ hp
  have x3 := X.keeps F.keep _ _ hc
  obtain ⟨n, rfl⟩ := Int.eq_ofNat_of_zero_le h0
  rw [Int.toNat_natCast] at h1 hn h
  refine wpAny_call_entry slot_match ⟨_, x4, rfl⟩ entry_match (match_hit_any x4 x3 hx h1 h2 hn hs ⟨_, rfl, ?_⟩) (args_match _ _ _)
  exact h _ _ _ ((F.push _).push _) (News.push (F.push _) (News.push F N _ rfl) _ rfl |> fun N' => by rw [Heap.size_push] at N'; exact N') (fun q hq => Heap.lt_size (N q hq).1) (Nat.lt_succ_self _)
theorem pat_miss {x : Str} {t u : Tok} {p : Int} {Q : Value → Shared → Prop} (F : Fr h₀ L s.heap m) (X : K.In h₀) (hp : K.lookup 74 = some patObj) (hc : K.lookup 73 = some codeObj) (h0 : 0 ≤ p) (hx : x.length < 1000000)
    (h1 : p.toNat ≤ x.length) (hn : ∀ i, p.toNat ≤ i → i < x.length → spc (x.cps.getD i 0) = false) (h : Q .none s) :
    wpAny (model prog w) A (call (.builtin "re.Pattern.match") [.ref 74, .str x t, .int p u]) Q E s := by
  have x4 := X.keeps F.keep _ _ hp
  have x3 := X.keeps F.keep _ _ hc
  obtain ⟨n, rfl⟩ := Int.eq_ofNat_of_zero_le h0
  rw [Int.toNat_natCast] at h1 hn
  exact wpAny_call_entry slot_match ⟨_, x4, rfl⟩ entry_match (match_miss_any x4 x3 hx h1 hn ⟨_, rfl, h⟩) (args_match _ _ _)
theorem found_method_end {pl : Sem Bool} {Q : Value × List Value → Shared → Prop} {o T : Addr} {str : Value} {p lim : Nat} (N : News h₀ L s.heap news) (hm : (o, foundObj str p lim T) ∈ news) (h : Q (.builtin "re.Match.end", [.ref o]) s) :
    wpAny (model prog w) A (getMethod (.ref o) (Str.ofString "end") pl) Q E s :=
  getMethod_builtin (T := "re.Match") ⟨_, (N _ hm).1, rfl⟩ plain_found slot_end type_end (fun a e => by cases e; exact ⟨_, (N _ hm).1, rfl⟩) h
theorem found_method_groups {pl : Sem Bool} {Q : Value × List Value → Shared → Prop} {o T : Addr} {str : Value} {p lim : Nat} (N : News h₀ L s.heap news) (hm : (o, foundObj str p lim T) ∈ news) (h : Q (.builtin "re.Match.groups", [.ref o]) s) :
    wpAny (model prog w) A (getMethod (.ref o) (Str.ofString "groups") pl) Q E s :=
  getMethod_builtin (T := "re.Match") ⟨_, (N _ hm).1, rfl⟩ plain_found slot_groups type_groups (fun a e => by cases e; exact ⟨_, (N _ hm).1, rfl⟩) h
theorem found_end {Q : Value → Shared → Prop} {o T : Addr} {str : Value} {p lim j : Nat} (N : News h₀ L s.heap news) (hm : (o, foundObj str p lim T) ∈ news) (hT : (T, spanObj p j) ∈ news)
    (h : Q (.int ((j : Int) + 1) s.toks) { s with toks := s.toks + 1 }) : wpAny (model prog w) A (call (.builtin "re.Match.end") [.ref o]) Q E s := by
  obtain ⟨hp, g, d, tk, os⟩ := s
  exact wpAny_call_entry slot_end ⟨_, (N _ hm).1, rfl⟩ entry_end (end_any (N _ hm).1 (N _ hT).1 ⟨_, rfl, h⟩) (args_end _)
theorem found_groups {Q : Value → Shared → Prop} {o T : Addr} {x : Str} {t : Tok} {p lim j : Nat} (F : Fr h₀ L s.heap m) (N : News h₀ L s.heap news) (hm : (o, foundObj (.str x t) p lim T) ∈ news) (hT : (T, spanObj p j) ∈ news) (hx : x.length < 1000000)
    (h : ∀ G t1 t2 h' tk', Fr h₀ L h' m → News h₀ L h' ((G, { cls := .type "tuple", data := .seq #[.str ⟨x.cps.extract p j⟩ t1, .str ⟨x.cps.extract j (j + 1)⟩ t2] }) :: news) → (∀ q ∈ news, q.1 < G) → Q (.ref G) { s with heap := h', toks := tk' }) :
    wpAny (model prog w) A (call (.builtin "re.Match.groups") [.ref o]) Q E s := by
  obtain ⟨hp, g, d, tk, os⟩ := s
  exact wpAny_call_entry slot_groups ⟨_, (N _ hm).1, rfl⟩ entry_groups (groups_any (N _ hm).1 (N _ hT).1 hx ⟨_, rfl, h _ _ _ _ _ (F.push _) (News.push F N _ rfl) fun q hq => Heap.lt_size (N q hq).1⟩) (args_groups _)
end
end Mine
end PartS6
section PartS7
open PySem PySem.W PyProof.Rows
set_option maxRecDepth 100000
namespace Mine
def hexVals : List Nat := [0x61, 0x5a, 0x20, 0x2f, 0xe9, 0x20ac, 0xd83d, 0xde00, 0x27, 0x22, 0x5c, 0x0a, 0x09, 0x01, 0x1f, 0x08, 0xfffd, 0xdbff, 0xdffd, 0x0d, 0x0c, 0x7b]
def dig (up : Bool) (d : Nat) : Nat := if d < 10 then 48 + d else (if up then 55 else 87) + d
def hex4 (up : Bool) (v : Nat) : List Nat := [dig up (v / 4096), dig up (v / 256 % 16), dig up (v / 16 % 16), dig up (v % 16)]
def hexT (up : Bool) (v : Nat) : Str := ⟨(hex4 up v).toArray⟩
theorem wpAny_tree {α : Type} {M : Model} {A : Around} {E : Value → Shared → Prop} {s : Shared} {t t' : Sem α} {Q : α → Shared → Prop} (h : t = t') (hq : wpAny M A t' Q E s) : wpAny M A t Q E s := by rw [h]; exact hq
theorem args_init_3 (a b c : Value) : argsOk "object.__init__" ⟨[a, b, c], []⟩ := by unfold argsOk; kernel_rfl
theorem typeCall_int_2 (a b : Value) : checkTypeCall "int" ⟨[a, b], []⟩ = pure () := by kernel_rfl
theorem newCall_int_2 (a b : Value) : checkBuiltinCall "int.__new__" ⟨[.type "int", a, b], []⟩ = pure () := by kernel_rfl
set_option maxHeartbeats 4000000 in
theorem meets_hex (up : Bool) (t u : Tok) (v : Nat) (hv : v ∈ hexVals) : Meets (Builtin.«int.__new__» ⟨[.type "int", .str (hexT up v) t, .int 16 u], []⟩) (Made.int (v : Int)).spec :=
  Meets.of_wp fun prog w A R s hs => by
    obtain ⟨hp, g, d, tk, os⟩ := s
    have f1 := F.conv_sub_int
    have f2 := F.madeHere_int
    repeat (any_goals (first | assumption | wp_step))
    refine wpAny_tree (t' := mkInt (v : Int)) ?_ (wpAny_mkInt ?_)
    · clear hs
      simp only [hexVals, List.mem_cons, List.not_mem_nil, or_false] at hv
      rcases hv with rfl | rfl | rfl | rfl | rfl | rfl | rfl | rfl | rfl | rfl | rfl | rfl | rfl | rfl | rfl | rfl | rfl | rfl | rfl | rfl | rfl | rfl <;> cases up <;> kernel_rfl
    · wp_walk
      exact ⟨_, rfl, hs⟩
theorem int_hex {prog : Program} {w : World} {A : Around} {E : Value → Shared → Prop} {s : Shared} {up : Bool} {v : Nat} {t u : Tok} {Q : Value → Shared → Prop} (hv : v ∈ hexVals) (h : Q (.int (v : Int) s.toks) { s with toks := s.toks + 1 }) :
    wpAny (model prog w) A (call (.type "int") [.str (hexT up v) t, .int 16 u]) Q E s :=
  callType_new F.called_int F.newNe_int (typeCall_int_2 _ _) (newCall_int_2 _ _) (fun obj => args_init_3 obj _ _) F.entry_int_new (meets_hex up t u v hv) (show (Made.int (v : Int)).post _ s from ⟨rfl, h⟩)
end Mine
end PartS7
section PartC0
open PySem PySem.W PyProof.Rows
namespace Mine
abbrev Led := List (Addr × Obj)
noncomputable abbrev loos : List Str := looseW hd.view_39
        [Str.ofString "HjsonDecodeError", Str.ofString "errmsg", Str.ofString "STRINGCHUNK", Str.ofString "BACKSLASH",
          Str.ofString "scanstring"]
abbrev Says (w : World) (f : Addr) (vs : List Value) (kw : List (Str × Value)) (mean : ExcName → Option Value) (mg mb : Str → Option Value) (cost : Nat)
    (P : Heap → Addr → (Str → Option Value) → Led → Shared → (Value → Shared → Prop) → (Value → Shared → Prop) → Prop) : Prop :=
  ∀ (dp un : Nat) (gd : Option (List Code)) (cn : Str) (cs : Scope) (a : Addr) (ccd : Value) (cl : List (Str × Addr)) (outer : List Env) (A₀ : Around) (base h₀ : Heap) (L : Addr) (m : Str → Option Value) (news : Led) (s : Shared) (Q E : Value → Shared → Prop),
    Below A₀ base outer h₀ → Fr h₀ L s.heap m → (hd.heap_39 w.params).In h₀ → News h₀ L s.heap news → Top hd.view_39 loos mean mg mb h₀ → cs.kind = .function →
    dp + cost < recursionLimit → un + 8 * cost < cLine → P h₀ L m news s Q E →
      wpAny (model PySem.Challenge.rw_ew0007_01.row.prog w) (ktrTop dp un gd cn cs L a ccd cl outer) (call (.ref f) vs kw) Q E s
theorem use {w : World} {f : Addr} {vs : List Value} {kw : List (Str × Value)} {mean : ExcName → Option Value} {mg mb : Str → Option Value} {cost : Nat}
    {P : Heap → Addr → (Str → Option Value) → Led → Shared → (Value → Shared → Prop) → (Value → Shared → Prop) → Prop} (C : Says w f vs kw mean mg mb cost P)
    {dp un : Nat} {gd : Option (List Code)} {cn : Str} {cs : Scope} {a : Addr} {ccd : Value} {cl : List (Str × Addr)} {outer : List Env} {A₀ : Around} {base h₀ : Heap} {L : Addr} {m : Str → Option Value} {news : Led} {s : Shared} {Q E : Value → Shared → Prop}
    (B : Below A₀ base outer h₀) (F : Fr h₀ L s.heap m) (X : (hd.heap_39 w.params).In h₀) (N : News h₀ L s.heap news) (T : Top hd.view_39 loos mean mg mb h₀) (K : cs.kind = .function)
    (d : dp + cost < recursionLimit) (u : un + 8 * cost < cLine) (h : P h₀ L m news s Q E) :
    wpAny (model PySem.Challenge.rw_ew0007_01.row.prog w) (ktrTop dp un gd cn cs L a ccd cl outer) (call (.ref f) vs kw) Q E s :=
  C dp un gd cn cs a ccd cl outer A₀ base h₀ L m news s Q E B F X N T K d u h
end Mine
end PartC0
section PartC1
open PySem PySem.W PyProof.Rows
namespace Mine
local macro_rules | `(tactic| cell_enter) => `(tactic| (refine' code_def ?k1 ?k2 ?k3 ?k4 ?k5 ?kA ?kF ?kK ?k6 ?k7 ?k8 ?k9 ?kB ?_ ?c2 ?c3 ?c4 ?c5; (case kA => exact rfl); (case kF => exact rfl); (case kK => assumption); (case k1 => k_asm); (case k2 => k_asm); (case k3 => k_asm); (case k4 => k_asm); (case k5 => k_asm); (case k6 => k_is); (case k7 => k_is); (case k8 => first | ktr_room | (dsimp only; omega)); (case k9 => first | exact BindsTo.of_eq rfl | exact binds_K (by k_in) rfl (by k_is) rfl rfl rfl); (case c5 => decide); (case kB => exact locs rfl); (case c2 => exact rfl); (case c3 => exact rfl); (case c4 => exact rfl); k_whole; intro g' L' h' FG' F' N' B' X' T'; (try dsimp only); (try k_lift B'); (try k_fold)))
theorem rfind_bounds (x y : Str) : -1 ≤ Txt.rfind x y ∧ Txt.rfind x y ≤ (x.length : Int) := by
  rcases rfind_whole x y with h | ⟨i, h, h2, _⟩
  · omega
  · have := h2.1
    omega
theorem slice_to_len (D : Str) (p : Int) (h1 : 0 ≤ p) (h2 : p ≤ D.length) : ((Txt.slice D none (some p)).length : Int) = p := by
  have e : Txt.slice D none (some p) = _ := StrLaws.sliceText_to (x := D) (j := p) ⟨h1, by unfold Str.length at h2; simpa using h2⟩
  rw [e]
  unfold Str.length at h2 ⊢
  simp only [List.size_toArray, List.length_take, List.drop_zero, Array.length_toList]
  omega
set_option maxHeartbeats 4000000 in
set_option maxRecDepth 100000 in
theorem linecolC {w : World} {mean : ExcName → Option Value} {mg mb : Str → Option Value} (D : Str) (dt : Tok) (p : Int) (pt : Tok) (h1 : 0 ≤ p) (h2 : p ≤ D.length) (hD : D.length < 1000) :
    Says w 61 [.str D dt, .int p pt] [] mean mg mb 1 fun h₀ L m news s Q E =>
      ∀ (G : Addr) (a b : Int) (t1 t2 : Tok) (h' : Heap) (tk' : Nat), 0 ≤ a → a < 3000 → 0 ≤ b → b < 3000 → Fr h₀ L h' m → News h₀ L h' ((G, { cls := .type "tuple", data := .seq #[.int a t1, .int b t2] }) :: news) → (∀ q ∈ news, q.1 < G) → Q (.ref G) { s with heap := h', toks := tk' } := by
  unfold Says
  k_fill
  intros
  rename_i hret
  have b1 := count_bounds (Txt.slice D none (some p)) (Str.ofString "\n")
  have b2 := Txt.slice_le D none (some p)
  have b4 := slice_to_len D p h1 h2
  have b3 := rfind_bounds (Txt.slice D none (some p)) (Str.ofString "\n")
  refine wpAny_call ?_
  k_dflt cell_enter
  k_steps
  all_goals ((rename Fr _ _ _ _ => fE); (rename News _ _ _ _ => nE); refine hret _ _ _ _ _ _ _ ?_ ?_ ?_ ?_ fE nE (by assumption))
  all_goals omega
end Mine
end PartC1
section PartU1
open PySem PySem.W
set_option maxRecDepth 100000
namespace Mine
theorem setGen_toks (s : Shared) (g : Nat) (x : GenState) : (s.setGen g x).toks = s.toks := rfl
theorem runs_toks {M : Model} {Γ : Ctx} {p : Pos} {t : Sem Fin} {fs : List Frame} {s : Shared} {e : End} {s' : Shared} (h : Runs M Γ p t fs s e s') : s.toks ≤ s'.toks := by
  induction h <;> (try simp only [setGen_toks] at *) <;> (try dsimp only at *) <;> omega
theorem wakes_toks {M : Model} {Γ : Ctx} {p : Pos} {g : Nat} {r : Resume} {s : Shared} {res : GenResult} {s' : Shared} (h : Wakes M Γ p g r s res s') : s.toks ≤ s'.toks := by
  unfold Wakes at h
  split at h
  · exact h.elim
  · split at h
    · obtain ⟨e₁, s₁, hr, _, _, rfl⟩ := h
      have := runs_toks hr
      rw [setGen_toks] at this
      exact this
    · rw [h.2]; exact Nat.le_refl _
    · rw [h.2]; exact Nat.le_refl _
  · obtain ⟨e₁, s₁, hr, _, _, rfl⟩ := h
    have := runs_toks hr
    rw [setGen_toks] at this
    exact this
  · rw [h.2]; exact Nat.le_refl _
  · rw [h.2]; exact Nat.le_refl _
theorem wp_toks {α : Type} {M : Model} {Γ : Ctx} {n : Nat} (t : Sem α) : ∀ {Q : α → Pos → Shared → Prop} {E : Value → Pos → Shared → Prop} {p : Pos} {s : Shared}, n ≤ s.toks → Sem.wp M Γ t Q E p s →
    Sem.wp M Γ t (fun a p' s' => Q a p' s' ∧ n ≤ s'.toks) (fun e p' s' => E e p' s' ∧ n ≤ s'.toks) p s := by
  induction t with
  | pure a => intro Q E p s hn h; simp only [Sem.wp] at h ⊢; exact ⟨h, hn⟩
  | raise e => intro Q E p s hn h; simp only [Sem.wp] at h ⊢; exact ⟨h, hn⟩
  | unsupported w => intro Q E p s hn h; simp only [Sem.wp] at h
  | finish e => intro Q E p s hn h; simp only [Sem.wp] at h
  | rule tag k ih => intro Q E p s hn h; simp only [Sem.wp] at h ⊢; exact ih _ hn h
  | «at» pos k ih => intro Q E p s hn h; simp only [Sem.wp] at h ⊢; exact ih _ hn h
  | load a part k ih => intro Q E p s hn h; simp only [Sem.wp] at h ⊢; obtain ⟨o, ho, h⟩ := h; exact ⟨o, ho, ih _ hn h⟩
  | update a part f k ih => intro Q E p s hn h; simp only [Sem.wp] at h ⊢; exact ⟨h.1, ih () (s := { s with heap := s.heap.update a f }) hn h.2⟩
  | alloc o k ih => intro Q E p s hn h; simp only [Sem.wp] at h ⊢; exact ih _ (s := { s with heap := s.heap.push o }) hn h
  | loadIfAlive a k ih => intro Q E p s hn h; simp only [Sem.wp] at h ⊢; exact ih _ hn h
  | point l k ih => intro Q E p s hn h; simp only [Sem.wp] at h ⊢; exact ih _ hn h
  | register a k ih => intro Q E p s hn h; simp only [Sem.wp] at h
  | fresh k ih => intro Q E p s hn h; simp only [Sem.wp] at h ⊢; exact ih _ (s := { s with toks := s.toks + 1 }) (Nat.le_succ_of_le hn) h
  | ask k ih => intro Q E p s hn h; simp only [Sem.wp] at h ⊢; exact ih _ hn h
  | choose src m k ih => intro Q E p s hn h; simp only [Sem.wp] at h ⊢; exact ⟨h.1, ih _ (s := { s with drawn := s.drawn.bump src }) hn h.2⟩
  | os q l k ih => intro Q E p s hn h; simp only [Sem.wp] at h ⊢; exact ih _ (s := { s with os := (Os.step s.os q).1 }) hn h
  | call c hd g l k ih =>
    intro Q E p s hn h
    simp only [Sem.wp] at h ⊢
    unfold wpCode at h ⊢
    obtain ⟨r, s', hr, h⟩ := h
    exact ⟨r, s', hr, ih _ (Nat.le_trans hn (runs_toks hr)) h⟩
  | handled own k ih => intro Q E p s hn h; simp only [Sem.wp] at h ⊢; exact ih _ hn h
  | newGen c k ih => intro Q E p s hn h; simp only [Sem.wp] at h ⊢; exact ih _ (s := { s with gens := s.gens.push (.fresh c) }) hn h
  | genState g k ih => intro Q E p s hn h; simp only [Sem.wp] at h ⊢; obtain ⟨st, hst, h⟩ := h; exact ⟨st, hst, ih _ hn h⟩
  | resume g r l k ih => intro Q E p s hn h; simp only [Sem.wp] at h ⊢; obtain ⟨res, s', hw, h⟩ := h; exact ⟨res, s', hw, ih _ (Nat.le_trans hn (wakes_toks hw)) h⟩
  | yield v g l k ih => intro Q E p s hn h; simp only [Sem.wp] at h
  | stack k ih => intro Q E p s hn h; simp only [Sem.wp] at h ⊢; exact ih _ hn h
  | fork c k ih => intro Q E p s hn h; simp only [Sem.wp] at h
  | thread k ih => intro Q E p s hn h; simp only [Sem.wp] at h ⊢; exact ih _ hn h
  | await a tk td l k ih => intro Q E p s hn h; simp only [Sem.wp] at h
theorem toks_up {α : Type} {M : Model} {A : Around} {t : Sem α} {Q : α → Shared → Prop} {E : Value → Shared → Prop} {s : Shared}
    (h : wpAny M A t (fun a s' => s.toks ≤ s'.toks → Q a s') (fun e s' => s.toks ≤ s'.toks → E e s') s) : wpAny M A t Q E s := fun Γ p hΓ =>
  Sem.wp_mono M Γ t (fun _ _ _ x => x.1 x.2) (fun _ _ _ x => x.1 x.2) p s (wp_toks t (Nat.le_refl _) (h Γ p hΓ))
end Mine
end PartU1
section PartC2f
open PySem PySem.W PyProof.Rows
namespace Mine
set_option maxHeartbeats 4000000 in
set_option maxRecDepth 100000 in
theorem fmt_K {prog : Program} {w : World} {A : Around} {E : Value → Shared → Prop} {s : Shared} {t t1 t2 t3 t4 : Tok} {Q : Value → Shared → Prop} {b L : Addr} {h₀ : Heap} {news : List (Addr × Obj)} {X : Str} {a c p : Int}
    (N : News h₀ L s.heap news) (hb : (b, ({ cls := .type "tuple", data := .seq #[.str X t1, .int a t2, .int c t3, .int p t4] } : Obj)) ∈ news) (hX : X.length ≤ 1000000) (ha0 : 0 ≤ a) (ha : a < 3000) (hc0 : 0 ≤ c) (hc : c < 3000) (hp0 : 0 ≤ p) (hp : p < 3000)
    (h : ∀ T t' k, Q (.str T t') { s with toks := k }) : wpAny (model prog w) A (binaryOp .Mod (.str (Str.ofString "%s: line %d column %d (char %d)") t) (.ref b)) Q E s := by
  refine' KPt.mod_tuple N hb ?kptF ?kptm ?_
  case kptF => kpt_eq
  case kptm =>
    apply KPt.meets_tup
    intro _ _ _ _ _ _ kptH _
    obtain ⟨kptO, kptG, kptC, kptN, kptD⟩ := kptH
    rw [KPt.entry_is_r]
    unfold Builtin.Str.percentFormat
    refine wpAny_bind (wpAny_isInstance (T := "tuple") ⟨kptO, kptG, kptC⟩ KPt.sub_tt ?_)
    refine wpAny_bind (KPt.asStr_ref kptG kptD ?_)
    refine wpAny_bind (KPt.fills_ref ⟨kptO, kptG, kptC⟩ ?_)
    intro _
    kpc_if
    refine wpAny_bind (wpAny_seqItems kptG kptD ?_)
    refine wpAny_bind (wpAny_pure ?_)
    refine wpAny_bind ?_
    rw [KPc.range_list]
    refine KPc.start ?_
    intro _ _
    kpt_turns
  exact fun _ _ => h _ _ _
end Mine
end PartC2f
section PartC2
open PySem PySem.W PyProof.Rows
namespace Mine
local macro_rules | `(tactic| cell_enter) => `(tactic| (refine' code_def ?k1 ?k2 ?k3 ?k4 ?k5 ?kA ?kF ?kK ?k6 ?k7 ?k8 ?k9 ?kB ?_ ?c2 ?c3 ?c4 ?c5; (case kA => exact rfl); (case kF => exact rfl); (case kK => assumption); (case k1 => k_asm); (case k2 => k_asm); (case k3 => k_asm); (case k4 => k_asm); (case k5 => k_asm); (case k6 => k_is); (case k7 => k_is); (case k8 => first | ktr_room | (dsimp only; omega)); (case k9 => first | exact BindsTo.of_eq rfl | exact binds_K (by k_in) rfl (by k_is) rfl rfl rfl); (case c5 => decide); (case kB => exact locs rfl); (case c2 => exact rfl); (case c3 => exact rfl); (case c4 => exact rfl); k_whole; intro g' L' h' FG' F' N' B' X' T'; (try dsimp only); (try k_lift B'); (try k_fold)))
local macro_rules | `(tactic| walk_at "call ref") => `(tactic| (k_here; (with_reducible show wpAny _ _ (call (Value.ref 61) [Value.str _ _, Value.int _ _] []) _ _ _); k_dflt (refine toks_up ?_; refine' use (linecolC _ _ _ _ ?h1 ?h2 ?hD) ?B ?F ?X ?N ?T ?K ?d ?u ?_; (case h1 => omega); (case h2 => omega); (case hD => omega); (case B => k_asm); (case F => k_asm); (case X => k_asm); (case N => k_asm); (case T => k_asm); (case K => exact rfl); (case d => (simp only [depth_under_make, depth_under_kw, depth_in1, depth_deeper, depth_caller]; omega)); (case u => (simp only [units_in1, units_deeper, Around.mark_units, units_caller]; omega)); k_whole); intro G' a' b' t1' t2' h' tk' ha1' ha2' hb1' hb2' F' N' l1 hge'; (try dsimp only at hge'); (try k_fold)))
theorem quote_is (x : Str) : PySem.reprQuote x = 39 ∨ PySem.reprQuote x = 34 := by
  unfold PySem.reprQuote
  split <;> simp
theorem repr_last (x : Str) : (PySem.reprText x).cps.back? = some (PySem.reprQuote x) := Array.back?_push
theorem repr_ne (x : Str) : (Str.ofString "%r" == PySem.reprText x) = false := by
  rw [beq_eq_false_iff_ne]
  intro e
  have e2 := repr_last x
  rw [← e, show (Str.ofString "%r").cps.back? = some 114 from by decide +kernel] at e2
  rcases quote_is x with h | h <;> rw [h] at e2 <;> cases e2
theorem gen_toks {α : Type} {M : Model} {A : Around} {t : Sem α} {Q : α → Shared → Prop} {E : Value → Shared → Prop} {h : Heap} {g : Array GenState} {d : Drawn} {n : Nat} {os : OsState} (h1 : 1 ≤ n)
    (hq : ∀ tk, 1 ≤ tk → wpAny M A t Q E ⟨h, g, d, tk, os⟩) : wpAny M A t Q E ⟨h, g, d, n, os⟩ := hq n h1
theorem replace_len (x y z : Str) (hx : x.length ≤ 50) (hz : z.length ≤ 10100) : (Txt.replace x y z).length ≤ 600000 := by
  unfold Txt.replace
  have h1 := StrLaws.occ_length_le x y 0 x.length (x.length + 1)
  have hy : (Builtin.Str.glued y (Builtin.Str.partsBetween x (Builtin.Str.occurrences x y 0 x.length (x.length + 1)) y.length)).length = x.length := by rw [StrLaws.glued_between_self]
  rw [size_glued, length_partsBetween, Nat.add_sub_cancel] at hy
  split
  · omega
  · rw [size_glued, length_partsBetween, Nat.add_sub_cancel]
    have h2 : (Builtin.Str.occurrences x y 0 x.length (x.length + 1)).length * z.length ≤ 51 * 10100 := Nat.mul_le_mul (by omega) hz
    omega
theorem replace_K {prog : Program} {w : World} {A : Around} {E : Value → Shared → Prop} {s : Shared} {x y z : Str} {t u v : Tok} {Q : Value → Shared → Prop} (hu : @LT.lt Nat _ 0 u) (huv : @LT.lt Nat _ u v) (hyz : (y == z) = false) (hx : x.length ≤ 50) (hz : z.length ≤ 10100)
    (hq : ∀ t' k, (Txt.replace x y z).length ≤ 600000 → Q (.str (Txt.replace x y z) t') { s with toks := k }) : wpAny (model prog w) A (call (.builtin "str.replace") [.str x t, .str y u, .str z v]) Q E s :=
  SC.replace (Nat.ne_of_gt hu) (Nat.ne_of_gt (Nat.lt_trans hu huv)) (Nat.ne_of_lt huv) hyz (by
    have h1 : (x.length + 1) * z.length ≤ 51 * 10100 := Nat.mul_le_mul (by omega) hz
    omega) fun t' k => hq t' k (replace_len x y z hx hz)
theorem slice_mem (x : Str) (l u : Option Int) : ∀ c ∈ (Txt.slice x l u).cps.toList, c ∈ x.cps.toList := by
  unfold Txt.slice
  split
  · exact fun c h => h
  · intro c h
    simp only [List.mem_filterMap] at h
    obtain ⟨i, _, h⟩ := h
    exact Array.mem_toList_iff.mpr (Array.mem_of_getElem? h)
local macro_rules | `(tactic| walk_at "execs cons") => `(tactic| (k_here; (with_reducible show wpAny _ _ _ _ _ ⟨_, _, _, _ + _, _⟩); refine gen_toks (by omega) ?_; intro tk htk))
local macro_rules | `(tactic| walk_at "binaryOp Mod str ref") => `(tactic| (k_here; k_dflt (refine' fmt_K ?N ?hb ?hX ?a0 ?a1 ?c0 ?c1 ?p0 ?p1 ?_; (case N => k_asm); (case hb => k_mem); (case hX => omega); (case a0 => omega); (case a1 => omega); (case c0 => omega); (case c1 => omega); (case p0 => omega); (case p1 => omega); k_whole); intro _ _ _))
local macro_rules | `(tactic| walk_at "call builtin:str.replace") => `(tactic| (refine replace_K (by omega) (by omega) (repr_ne _) (by omega) (by omega) ?_; intro _ _ _))
local macro_rules | `(tactic| walk_at "subscriptTail Name Slice str ref") => `(tactic| ((with_reducible show wpAny _ _ (subscriptTail _ (Expr.Slice (some _) (some _) none _) _ _) _ _ _); (with_reducible rename Fr _ _ _ _ => F'); (with_reducible rename News _ _ _ _ => N'); (refine toks_up ?_); (refine slice_strN_ss (hsz := ?hsz) (s := ⟨_, _, _, _, _⟩) F' N' ?_); (case hsz => size_fits); intro h' t' k F' N' hge'; (try dsimp only at hge')))
set_option maxHeartbeats 4000000 in
set_option maxRecDepth 100000 in
theorem errmsgC {w : World} {mean : ExcName → Option Value} {mg mb : Str → Option Value} (X : Str) (xt : Tok) (D : Str) (dt : Tok) (p : Int) (pt : Tok) (h1 : 0 ≤ p) (h2 : p ≤ D.length) (hD : D.length < 1000) (hX : X.length ≤ 50) (hc : ∀ c ∈ D.cps.toList, c < 16 ^ 8) :
    Says w 69 [.str X xt, .str D dt, .int p pt] [(Str.ofString "end", .none)] mean mg mb 2 fun h₀ L m news s Q E =>
      1 ≤ s.toks ∧ ∀ (R : Str) (t1 : Tok) (h' : Heap) (tk' : Nat), Fr h₀ L h' m → News h₀ L h' news → Q (.str R t1) { s with heap := h', toks := tk' } := by
  unfold Says
  k_fill
  intros
  rename_i hret
  obtain ⟨ht1, hret⟩ := hret
  have r1 := StrLaws.reprText_len (Txt.slice D (some p) (some (p + 1))) (fun c h => hc c (slice_mem _ _ _ c h))
  have r2 := Txt.slice_le D (some p) (some (p + 1))
  refine wpAny_call ?_
  k_dflt cell_enter
  k_steps
  all_goals ((rename Fr _ _ _ _ => fE); (rename News _ _ _ _ => nE); refine hret _ _ _ _ fE ?_)
  all_goals exact fun q hq => nE q (List.mem_cons_of_mem _ (List.mem_cons_of_mem _ hq))
end Mine
end PartC2
section PartE1
open PySem PySem.W PyProof.Rows
open PySem.Builtin.ObjectAttr
set_option maxRecDepth 100000
namespace Mine
def excMro : List Value := [.type "ValueError", .type "Exception", .type "BaseException", .type "object"]
theorem refuse_exc (self : Value) (C : Addr) : refuseLoop self "__setattr__" (.ref C :: excMro) = pure () := by
  rw [refuseLoop_ref]
  kernel_rfl
section
variable {prog : Program} {w : World} {A : Around} {K : Frag} {C x : Addr} {s : Shared} {h₀ : Heap} {L : Addr} {m : Str → Option Value} {news : List (Addr × Obj)} {R : Result → Shared → Prop}
theorem exc_open {ox : Obj} {od : Option Obj} {name : Str} {tk : Tok} {v : Value} {cd : ClassData} (X : K.In s.heap) (I : InstAt s.heap x ox C od) (hc : clsIn K C = some cd) (ho : cd.mro = .ref C :: excMro) (ht : takerIn K C name = some none)
    (h : ∀ b, wpAny (model prog w) A.in1 (storeInOwnDict (.ref x) (.ref C) (.str name tk) name v b)
      (fun fin s' => match fin with | .done f => R (.ok f) s' | .again c' => c'.quiet = true ∧ codeAny (model prog w) A c' R s') (fun e s' => R (.error e) s') s) :
    codeAny (model prog w) A (.call (.builtin "object.__setattr__") ⟨[.ref x, .str name tk, v], []⟩) R s := by
  have SF := PySem.F.store_object
  have ne : cd.mro.isEmpty = false := by rw [ho]; rfl
  have sub : Looks (model prog w) s.heap (isInstance (.ref x) (.type "object")) true := I.type.andThen (looks_mroIn X (by unfold mroIn; rw [hc, Option.bind_some, if_neg (by rw [ne]; decide), ho]; rfl))
  refine codeAny_call_builtin SF.slot.plain SF.entry (@check_slot (model prog w) _ _ s "object.__setattr__" "object" "__setattr__" (.ref x) [.str name tk, v] [] _ SF.kind SF.split sub (SF.args (.ref x) (.str name tk) v) ?_)
  obtain ⟨attr, ha, hr⟩ := Option.bind_eq_some_iff.mp ht
  have hm : Looks (model prog w) s.heap (mroOf (.ref C)) cd.mro := (looks_clsIn X hc).andThen .now
  have L3 : Looks (model prog w) s.heap (storeTaker? attr) none := by
    cases attr with
    | none => cases hr; exact .now
    | some a =>
      obtain ⟨b, hb, hb2⟩ := Option.map_eq_some_iff.mp hr
      refine (looks_takesIn X hb).andThen ?_
      cases b with
      | true => cases hb2
      | false => exact .now
  rw [osa_eq, refuse_eq]
  refine wpAny_bind (wpAny_bind (I.type.here (wpAny_bind (hm.here ?_))))
  rw [ho, refuse_exc]
  refine wpAny_pure (wpAny_bind (I.type.here (wpAny_bind ((looks_findIn X ha).here (wpAny_bind (L3.here ?_))))))
  exact h _
theorem exc_next {ox od od' : Obj} {dx : Addr} {name : Str} {v : Value} {pre post : List (Addr × Obj)} {es : List DictEntry} {n : Nat} {cd : ClassData} {Q : Unit → Shared → Prop} {E : Value → Shared → Prop} (F : Fr h₀ L s.heap m) (N : News h₀ L s.heap (pre ++ (dx, od) :: post)) (X : K.In s.heap)
    (I : InstAt s.heap x ox C (some od)) (hd : ox.dict = some dx) (hc : clsIn K C = some cd) (ho : cd.mro = .ref C :: excMro) (ht : takerIn K C name = some none) (hh : cd.hasDict = true)
    (hs : findIn K (.ref C) "__setattr__" = some (some (.builtin "object.__setattr__")))
    (hl : (lookIn name od).isSome = true) (h1 : ∀ p ∈ pre, p.1 ≠ dx) (h2 : ∀ p ∈ post, p.1 ≠ dx)
    (e : Obj.putName name (PyData.keyHash w.params name) (.str name (s.toks + 1)) v od = od') (e' : od'.data = .dict es.toArray n) (hz : es.length ≤ 1000)
    (h : ∀ h', Fr h₀ L h' m → News h₀ L h' (pre ++ (dx, od') :: post) → Q () { s with heap := h', toks := s.toks + 1 + 1 }) :
    wpAny (model prog w) A (setAttr (.ref x) name v) Q E s := by
  refine set_plain X I hs ?_
  obtain ⟨hp, g, d, tk, os⟩ := s
  have X : K.In hp := X
  refine exc_open (s := ⟨hp, g, d, tk + 1, os⟩) X I hc ho ht fun b => ?_
  obtain ⟨U1, U2⟩ := news_upd (f := Obj.putName name (PyData.keyHash w.params name) (.str name (tk + 1)) v) F N h1 h2 e (by obtain ⟨_, _, dd, _⟩ := od'; cases e'; rfl)
  have D := (N (dx, od) (by simp)).1
  have D' := (U2 (dx, od') (by simp)).1
  obtain ⟨hx, hcl, hn, -⟩ := I
  obtain ⟨oc, odi, oda, osl⟩ := ox
  dsimp only at hcl hd
  subst hcl hd
  refine wpAny_bind (wpAny_pure (wpAny_bind (wpAny_bind (wpAny_loadPart hx (wpAny_bind ((looks_clsIn X hc).here ?_))))))
  rw [hh]
  refine wpAny_pure (a := some dx) (wpAny_bind (wpAny_pure (wpAny_bind ?_)))
  unfold nsSet
  refine wpAny_bind (wpAny_bind (wpAny_askSetting (wpAny_pure (wpAny_bind (wpAny_mkText (wpAny_bind (wpAny_loadPart D ?_)))))))
  unfold lookIn at hl
  split at hl
  · rename_i es₀ n₀ q
    rw [q]
    dsimp only
    have c : (!es₀.any (·.key.isStr name) && es₀.any (·.refKey)) = false := by
      rw [← Array.any_toList, ← Array.any_toList]
      split at hl
      · rename_i en he
        rw [List.any_eq_true.mpr ⟨en, List.mem_of_find?_eq_some he, List.find?_some he⟩]; rfl
      · split at hl
        · cases hl
        · rename_i z; rw [Bool.not_eq_true] at z; rw [z, Bool.and_false]
    rw [aRefKeyMayBeTheName_at, c]
    refine wpAny_updatePart D ?_
    refine wpAny_bind (wpAny_lookBehind D' (by rw [e']; exact pastItsLine_dict (by rw [List.size_toArray, sizeLine_eq]; omega)) ?_)
    exact wpAny_pure (h _ U1 U2)
  · cases hl
theorem exc_first {sl : Array (Option Value)} {dt : Array Value} {name : Str} {v : Value} {ledger : Obj → List (Addr × Obj)} {cd : ClassData} {Q : Unit → Shared → Prop} {E : Value → Shared → Prop} (F : Fr h₀ L s.heap m) (N : News h₀ L s.heap news) (X : K.In s.heap)
    (U : UpdF x ⟨.ref C, none, .fields dt, sl⟩ news ledger) (hc : clsIn K C = some cd) (ho : cd.mro = .ref C :: excMro) (ht : takerIn K C name = some none) (hh : cd.hasDict = true)
    (hs : findIn K (.ref C) "__setattr__" = some (some (.builtin "object.__setattr__")))
    (h : ∀ D h' tk', Fr h₀ L h' m → News h₀ L h' ((D, dictOf [⟨PyData.keyHash w.params name, .str name tk', v⟩] 1) :: ledger ⟨.ref C, some D, .fields dt, sl⟩) → (∀ p ∈ news, p.1 < D) → Q () { s with heap := h', toks := s.toks + 1 + 1 }) :
    wpAny (model prog w) A (setAttr (.ref x) name v) Q E s := by
  obtain ⟨pre, post, rfl, hg, h1, h2⟩ := U.split
  have hx := (N (x, ⟨.ref C, none, .fields dt, sl⟩) (by simp)).1
  have I : InstAt s.heap x ⟨.ref C, none, .fields dt, sl⟩ C none := ⟨hx, rfl, rfl, trivial⟩
  refine set_plain X I hs ?_
  obtain ⟨hp, g, d, tk, os⟩ := s
  have X : K.In hp := X
  have F : Fr h₀ L hp m := F
  have N : News h₀ L hp (pre ++ (x, ⟨.ref C, none, .fields dt, sl⟩) :: post) := N
  refine exc_open (s := ⟨hp, g, d, tk + 1, os⟩) X I hc ho ht fun b => ?_
  refine wpAny_bind (wpAny_pure (wpAny_bind (wpAny_bind (wpAny_loadPart hx (wpAny_bind ((looks_clsIn X hc).here ?_))))))
  rw [hh]
  have lt := fun q hq => Heap.lt_size (N q hq).1
  have F1 : Fr h₀ L (hp.push { cls := .type "dict", data := .dict #[] }) m := F.push _
  have N1 : News h₀ L (hp.push { cls := .type "dict", data := .dict #[] }) ((hp.objs.size, dictOf [] 0) :: (pre ++ (x, ⟨.ref C, none, .fields dt, sl⟩) :: post)) := News.push F N _ rfl
  have hxD : hp.objs.size ≠ x := Nat.ne_of_gt (lt (x, ⟨.ref C, none, .fields dt, sl⟩) (by simp))
  obtain ⟨F2, N2⟩ := news_upd (pre := (hp.objs.size, dictOf [] 0) :: pre) (post := post) (f := fun o => { o with dict := some hp.objs.size }) (o' := ⟨.ref C, some hp.objs.size, .fields dt, sl⟩) F1 N1
    (fun p hq => by rcases List.mem_cons.mp hq with rfl | hq; exact hxD; exact h1 p hq) h2 rfl rfl
  obtain ⟨F3, N3⟩ := news_upd (pre := []) (post := pre ++ (x, ⟨.ref C, some hp.objs.size, .fields dt, sl⟩) :: post) (f := Obj.putName name (PyData.keyHash w.params name) (.str name (tk + 1)) v) (o' := dictOf [⟨PyData.keyHash w.params name, .str name (tk + 1), v⟩] 1) F2 N2
    (fun p hq => nomatch hq) (fun p hq => by
      refine Nat.ne_of_lt ?_
      rcases List.mem_append.mp hq with hq | hq
      · exact lt p (List.mem_append_left _ hq)
      · rcases List.mem_cons.mp hq with rfl | hq
        · exact lt (x, ⟨.ref C, none, .fields dt, sl⟩) (by simp)
        · exact lt p (List.mem_append_right _ (.tail _ hq))) (by rw [putName_dict]; rfl) rfl
  refine wpAny_bind (wpAny_alloc (wpAny_bind (wpAny_update (o := ⟨.ref C, none, .fields dt, sl⟩) (Heap.get?_push_of_some _ hx) (wpAny_pure ?_))))
  dsimp only
  have D := (N2 (hp.objs.size, dictOf [] 0) (by simp)).1
  have D' := (N3 (hp.objs.size, dictOf [⟨PyData.keyHash w.params name, .str name (tk + 1), v⟩] 1) (by simp)).1
  refine wpAny_bind (wpAny_pure (wpAny_bind ?_))
  unfold nsSet
  refine wpAny_bind (wpAny_bind (wpAny_askSetting (wpAny_pure (wpAny_bind (wpAny_mkText (wpAny_bind (wpAny_loadPart D ?_)))))))
  dsimp only
  have c : (!(#[] : Array DictEntry).any (·.key.isStr name) && (#[] : Array DictEntry).any (·.refKey)) = false := by simp
  rw [aRefKeyMayBeTheName_at, c]
  refine wpAny_updatePart D ?_
  refine wpAny_bind (wpAny_lookBehind D' (pastItsLine_dict (Nat.le_add_left 1 _)) ?_)
  refine wpAny_pure (h hp.objs.size _ (tk + 1) F3 ?_ fun p hq => lt p hq)
  rw [hg]
  exact N3
end
end Mine
end PartE1
section PartE1b
open PySem PySem.W PyProof.Rows
set_option maxRecDepth 100000
namespace Mine
section
variable {prog : Program} {w : World} {A : Around} {K : Frag} {C x : Addr} {s : Shared} {h₀ : Heap} {L : Addr} {m : Str → Option Value} {news : List (Addr × Obj)}
theorem exc_set {ox : Obj} {es es' : List DictEntry} {n n' : Nat} {dx : Addr} {name : Str} {v : Value} {news' : List (Addr × Obj)} {cd : ClassData} {Q : Unit → Shared → Prop} {E : Value → Shared → Prop} (F : Fr h₀ L s.heap m) (X₀ : K.In h₀) (N : News h₀ L s.heap news) (I : InstAt s.heap x ox C (some (dictOf es n))) (hd : ox.dict = some dx)
    (hc : clsIn K C = some cd) (ho : cd.mro = .ref C :: excMro) (ht : takerIn K C name = some none) (hh : cd.hasDict = true)
    (hs : findIn K (.ref C) "__setattr__" = some (some (.builtin "object.__setattr__"))) (hl : (getL name es).isSome = true)
    (e : (putL name (PyData.keyHash w.params name) (.str name (s.toks + 1)) v es, putN name es n) = (es', n')) (U : Upd dx (dictOf es n) (dictOf es' n') news news') (hz : es'.length ≤ 1000)
    (h : ∀ h', Fr h₀ L h' m → News h₀ L h' news' → Q () { s with heap := h', toks := s.toks + 1 + 1 }) :
    wpAny (model prog w) A (setAttr (.ref x) name v) Q E s := by
  obtain ⟨pre, post, rfl, rfl, a, b⟩ := U.split
  obtain ⟨e1, e2⟩ := Prod.mk.inj e
  exact exc_next F N (X₀.keeps F.keep) I hd hc ho ht hh hs hl a b (by rw [putName_dict, e1, e2]) rfl hz h
theorem exc_set1 {sl : Array (Option Value)} {dt : Array Value} {name : Str} {v : Value} {ledger : Obj → List (Addr × Obj)} {cd : ClassData} {Q : Unit → Shared → Prop} {E : Value → Shared → Prop} (F : Fr h₀ L s.heap m) (X₀ : K.In h₀) (N : News h₀ L s.heap news)
    (U : UpdF x ⟨.ref C, none, .fields dt, sl⟩ news ledger) (hc : clsIn K C = some cd) (ho : cd.mro = .ref C :: excMro) (ht : takerIn K C name = some none) (hh : cd.hasDict = true)
    (hs : findIn K (.ref C) "__setattr__" = some (some (.builtin "object.__setattr__")))
    (h : ∀ D h' tk', Fr h₀ L h' m → News h₀ L h' ((D, dictOf [⟨PyData.keyHash w.params name, .str name tk', v⟩] 1) :: ledger ⟨.ref C, some D, .fields dt, sl⟩) → (∀ p ∈ news, p.1 < D) → Q () { s with heap := h', toks := s.toks + 1 + 1 }) :
    wpAny (model prog w) A (setAttr (.ref x) name v) Q E s := exc_first F N (X₀.keeps F.keep) U hc ho ht hh hs h
end
end Mine
end PartE1b
section PartE2
open PySem PySem.W PyProof.Rows
set_option maxRecDepth 100000
namespace Mine
def wrapObj (e : Addr) : Obj := { cls := .type "method-wrapper", data := .fields #[.builtin "ValueError.__init__", .ref e] }
theorem type_vinit : typeOf (.builtin "ValueError.__init__") = pure (.type "wrapper_descriptor") := by show builtinType _ = _; rw [builtinType_eq_fast]; kernel_rfl
theorem slot_wd_get : Slot "wrapper_descriptor" "__get__" "wrapper_descriptor.__get__" :=
  .of (owner := "wrapper_descriptor") (n := "__get__") (by rw [typeLookup_type, builtinLookup_eq_fast]; kernel_rfl) (by decide +kernel) (by decide +kernel) (by decide +kernel)
    (by first | exact .inl (by decide +kernel) | exact .inr (by decide +kernel)) (by rw [isSubtype_type]; kernel_rfl)
theorem entry_wd_get : entryFor table "wrapper_descriptor.__get__" = some Builtin.«wrapper_descriptor.__get__» := entryFor_of_tree (by kernel_rfl)
theorem args_wd_get (a b c : Value) : argsOk "wrapper_descriptor.__get__" ⟨[a, b, c], []⟩ := by unfold argsOk; kernel_rfl
section
variable {prog : Program} {w : World} {A : Around} {E : Value → Shared → Prop} {h : Heap} {g : Array GenState} {d : Drawn} {t : Nat} {os : OsState}
theorem wd_vinit {x : Addr} {ox : Obj} {C : Addr} {Q : Fin → Shared → Prop} (hx : h.get? x = some ox) (hc : ox.cls = .ref C) (hsub : Looks (model prog w) h (isSubtype (.ref C) (.type "ValueError")) true)
    (hq : Q (.done (.ret (.ref h.objs.size))) ⟨h.push (wrapObj x), g, d, t, os⟩) :
    wpAny (model prog w) A (Builtin.«wrapper_descriptor.__get__» ⟨[.builtin "ValueError.__init__", .ref x, .ref C], []⟩) Q E ⟨h, g, d, t, os⟩ := by
  unfold Builtin.«wrapper_descriptor.__get__»
  refine wpAny_bind (wpAny_of_eq (a := (.builtin "ValueError.__init__", some (.ref x), some (.ref C))) (by kernel_rfl) ?_)
  dsimp only
  repeat (any_goals (first | assumption | ((with_reducible refine wpAny_loadPart_at hx ?_); rw [hc]) | wp_step))
  rw [show (".".intercalate ("ValueError.__init__".cutAt '.').dropLast) = "ValueError" from by decide +kernel]
  refine Looks.at hsub ?_
  wp_walk
  exact hq
open PySem.W in
theorem super_ga_init {so D x C : Addr} {ox : Obj} {l₀ l : List Value} {K : Frag} {tk : Tok} {Q : Fin → Shared → Prop}
    (hso : h.get? so = some { cls := .type "super", dict := none, data := .fields #[.ref D, .ref x, .ref C], slots := #[] }) (hno : Looks (model prog w) h (opaqueClassAbove (.ref C)) none)
    (hC : Looks (model prog w) h (mroOf (.ref C)) l₀) (hl : (l₀.dropWhile (· != .ref D)).drop 1 = l) (X : K.In h)
    (hf : alongIn K (Str.ofString "__init__") l = some (some (.builtin "ValueError.__init__"))) (hx : h.get? x = some ox) (hc : ox.cls = .ref C) (hsub : Looks (model prog w) h (isSubtype (.ref C) (.type "ValueError")) true) (hxC : x ≠ C)
    (hq : Q (.done (.ret (.ref h.objs.size))) ⟨h.push (wrapObj x), g, d, t, os⟩) :
    wpAny (model prog w) A (Builtin.«super.__getattribute__» ⟨[.ref so, .str (Str.ofString "__init__") tk], []⟩) Q E ⟨h, g, d, t, os⟩ := by
  have hlk := slot_wd_get.lookup
  have hty := type_vinit
  have hne : (Value.ref x == Value.ref C) = false := by simp [hxC]
  have hn : ((Str.ofString "__init__") == ("__class__" : Str)) = false := by decide +kernel
  have hdt : ({ cls := .type "super", dict := none, data := .fields #[.ref D, .ref x, .ref C], slots := #[] } : Obj).data = .fields #[.ref D, .ref x, .ref C] := rfl
  have f0 : (#[.ref D, .ref x, .ref C] : Array Value)[0]? = some (.ref D) := rfl
  have f1 : (#[.ref D, .ref x, .ref C] : Array Value)[1]? = some (.ref x) := rfl
  have f2 : (#[.ref D, .ref x, .ref C] : Array Value)[2]? = some (.ref C) := rfl
  unfold Builtin.«super.__getattribute__»
  repeat (first
    | (with_reducible refine wpAny_field hso hdt f0 ?_) | (with_reducible refine wpAny_field hso hdt f1 ?_) | (with_reducible refine wpAny_field hso hdt f2 ?_)
    | (with_reducible refine ks_wpAny_notOpaque hno ?_)
    | (with_reducible refine Looks.at hC ?_; rw [hl])
    | (refine ks_forIn_along X (fun _ _ => rfl) rfl ?_ hf)
    | (with_reducible refine wpAny_of_eq hty ?_)
    | (with_reducible refine wpAny_of_eq hlk ?_)
    | ((with_reducible show wpAny _ _ (call (Value.builtin "wrapper_descriptor.__get__") _ _) _ _ _); refine wpAny_call_entry slot_wd_get type_vinit entry_wd_get (wd_vinit hx hc hsub ⟨_, rfl, ?_⟩) (args_wd_get _ _ _))
    | (with_reducible refine ⟨_, rfl, ?_⟩)
    | (simp only [hn, hne, Bool.or_false, Bool.false_eq_true, if_false])
    | wp_step
    | dsimp only)
  all_goals exact hq
theorem super_method_init {so D x C : Addr} {ox : Obj} {l₀ l : List Value} {K : Frag} {pl : Sem Bool} {Q : Value × List Value → Shared → Prop}
    (hso : h.get? so = some { cls := .type "super", dict := none, data := .fields #[.ref D, .ref x, .ref C], slots := #[] }) (hno : Looks (model prog w) h (opaqueClassAbove (.ref C)) none)
    (hC : Looks (model prog w) h (mroOf (.ref C)) l₀) (hl : (l₀.dropWhile (· != .ref D)).drop 1 = l) (X : K.In h)
    (hf : alongIn K (Str.ofString "__init__") l = some (some (.builtin "ValueError.__init__"))) (hx : h.get? x = some ox) (hc : ox.cls = .ref C) (hsub : Looks (model prog w) h (isSubtype (.ref C) (.type "ValueError")) true) (hxC : x ≠ C)
    (hq : Q (.ref h.objs.size, []) ⟨h.push (wrapObj x), g, d, t + 1, os⟩) :
    wpAny (model prog w) A (getMethod (.ref so) (Str.ofString "__init__") pl) Q E ⟨h, g, d, t, os⟩ := by
  have hlk := PySem.F.ks_slot_super_ga.lookup
  have hcan := PySem.F.ks_canon_super_ga
  have hT : ∀ t', (⟨h, g, d, t', os⟩ : Shared).TypeIs (.ref so) "super" := fun _ => ⟨_, hso, rfl⟩
  unfold getMethod
  refine wpAny_bind (wpAny_specialOf (hT _) hlk ?_)
  show wpAny _ _ (if (Manifest.canonical "super.__getattribute__" != "object.__getattribute__") = true then _ else _) _ _ _
  rw [if_pos hcan]
  unfold getAttr getAttrBy
  refine wpAny_bind (wpAny_bind (wpAny_mkText (wpAny_holding (wpAny_bind (wpAny_typeOf (hT _) (wpAny_bind (wpAny_of_eq hlk ?_)))))))
  show wpAny _ _ (getAttrByItsOwn (.ref so) (.str (Str.ofString "__init__") t) (.type "super") (.builtin "super.__getattribute__") true false) _ _ _
  unfold getAttrByItsOwn hookBefore callGetattribute boundAndCalled
  refine wpAny_bind (wpAny_of_eq (show (if onTheHeap (.type "super") then typeLookup (.type "super") "__getattr__" else pure none) = pure none from rfl) ?_)
  refine wpAny_bind (wpAny_attempt (wpAny_holding ?_))
  show wpAny _ _ (bindSpecial (.builtin "super.__getattribute__") (.ref so) >>= _) _ _ _
  refine wpAny_bind (wpAny_of_eq (PySem.F.ks_slot_super_ga.bind _) ?_)
  refine wpAny_mono (Q := fun v s' => v = .ref h.objs.size ∧ s' = ⟨h.push (wrapObj x), g, d, t + 1, os⟩) (E := fun _ _ => False)
    (wpAny_call_entry PySem.F.ks_slot_super_ga (hT _) PySem.F.ks_entry_super_ga (super_ga_init hso hno hC hl X hf hx hc hsub hxC ⟨_, rfl, rfl, rfl⟩) (PySem.F.ks_gaArgs_super _ _)) (fun v s' hv => ?_) fun _ _ z => z.elim
  obtain ⟨rfl, rfl⟩ := hv
  exact wpAny_pure (wpAny_pure hq)
end
end Mine
end PartE2
section PartE3
open PySem PySem.W PyProof.Rows
set_option maxRecDepth 100000
namespace Mine
theorem entry_vinit : entryFor table "ValueError.__init__" = some Builtin.«BaseException.__init__» :=
  entryFor_alias (id' := "BaseException.__init__") (by kernel_rfl) (by decide +kernel) (by decide +kernel) (by kernel_rfl)
theorem quiet_vinit {as : Args} : (Code.builtin "ValueError.__init__" as).quiet = true := Code.quiet_builtin _ (by decide +kernel)
abbrev excObj (C T : Addr) : Obj := { cls := .ref C, data := .fields #[.ref T, .none, .none, .none, .bool false, .none] }
section
variable {prog : Program} {w : World} {A : Around} {E : Value → Shared → Prop} {h : Heap} {g : Array GenState} {d : Drawn} {t : Nat} {os : OsState}
theorem call_wrap {q e T C : Addr} {oT : Obj} {a : Value} {Q : Value → Shared → Prop} (hb : h.get? q = some (wrapObj e)) (he : h.get? e = some (excObj C T)) (hT : h.get? T = some oT) {cc : Value} {dd : Option Addr} {cd : ClassData} {csl : Array (Option Value)} (hC : h.get? C = some { cls := cc, dict := dd, data := .cls cd, slots := csl })
    (hq : Q .none ⟨(h.push { cls := .type "tuple", data := .seq #[a] }).update e (Obj.mapFields (·.setIfInBounds 0 (.ref h.objs.size))), g, d, t, os⟩) :
    wpAny (model prog w) A (call (.ref q) [a]) Q E ⟨h, g, d, t, os⟩ := by
  refine wpAny_call (codeAny_of_tree ?_)
  show wpAny _ A.in1 (callAny (.ref q) ⟨[a], []⟩) _ _ _
  simp only [callAny]
  refine wpAny_bind (wpAny_load hb ?_)
  simp only [wrapObj, show (Value.type "method-wrapper" == Value.type "method" || Value.type "method-wrapper" == Value.type "builtin_function_or_method" || Value.type "method-wrapper" == Value.type "method-wrapper") = true by decide, if_true]
  refine if_so (by decide) ?_
  refine wpAny_bind ?_
  unfold checkBoundCall
  wp_walk
  refine ⟨quiet_vinit, codeAny_builtin entry_vinit ?_⟩
  show wpAny _ _ (Builtin.«BaseException.__init__» ⟨[.ref e, a], []⟩) _ _ _
  have he1 : (h.push { cls := .type "tuple", data := .seq #[a] }).get? e = some (excObj C T) := Heap.get?_push_of_some _ he
  unfold Builtin.«BaseException.__init__» Builtin.BaseException.bexcPut
  wp_walk
  exact hq
end
end Mine
end PartE3
section PartE4
open PySem PySem.W PyProof.Rows PySem.Calls
set_option maxRecDepth 100000
namespace Mine
section
variable {prog : Program} {w : World} {A : Around} {E : Value → Shared → Prop} {s : Shared} {K : Frag} {h₀ : Heap} {L : Addr} {m : Str → Option Value} {news : List (Addr × Obj)}
theorem wrapped {q e T C : Addr} {oT : Obj} {a : Value} {ledger : Obj → List (Addr × Obj)} {cd : ClassData} {Q : Value → Shared → Prop} (F : Fr h₀ L s.heap m) (X₀ : K.In h₀) (N : News h₀ L s.heap news) (hm : (q, wrapObj e) ∈ news) (hT : (T, oT) ∈ news)
    (U : UpdF e (excObj C T) news ledger) (hc : clsIn K C = some cd)
    (h : ∀ T2 h', Fr h₀ L h' m → News h₀ L h' ((T2, { cls := .type "tuple", data := .seq #[a] }) :: ledger (excObj C T2)) → (∀ p ∈ news, p.1 < T2) → Q .none { s with heap := h' }) :
    wpAny (model prog w) A (call (.ref q) [a]) Q E s := by
  obtain ⟨pre, post, rfl, hg, h1, h2⟩ := U.split
  have X : K.In s.heap := X₀.keeps F.keep
  obtain ⟨hp, g, d, tk, os⟩ := s
  have F : Fr h₀ L hp m := F
  have N : News h₀ L hp (pre ++ (e, excObj C T) :: post) := N
  have lt := fun q hq => Heap.lt_size (N q hq).1
  have F1 : Fr h₀ L (hp.push { cls := .type "tuple", data := .seq #[a] }) m := F.push _
  have N1 : News h₀ L (hp.push { cls := .type "tuple", data := .seq #[a] }) ((hp.objs.size, { cls := .type "tuple", data := .seq #[a] }) :: (pre ++ (e, excObj C T) :: post)) := News.push F N _ rfl
  have hxD : hp.objs.size ≠ e := Nat.ne_of_gt (lt (e, excObj C T) (by simp))
  obtain ⟨F2, N2⟩ := news_upd (pre := (hp.objs.size, { cls := .type "tuple", data := .seq #[a] }) :: pre) (post := post) (f := Obj.mapFields (·.setIfInBounds 0 (.ref hp.objs.size))) (o' := excObj C hp.objs.size) F1 N1
    (fun p hq => by rcases List.mem_cons.mp hq with rfl | hq; exact hxD; exact h1 p hq) h2 rfl rfl
  obtain ⟨oc, od, sl, hC⟩ : ∃ oc od sl, hp.get? C = some ⟨oc, od, .cls cd, sl⟩ := by
    unfold clsIn at hc
    split at hc
    · rename_i c d cd' sl ho
      cases hc
      exact ⟨_, _, _, X _ _ ho⟩
    · cases hc
  refine call_wrap (N _ hm).1 (N (e, excObj C T) (by simp)).1 (N _ hT).1 hC (h _ _ F2 ?_ fun p hq => lt p hq)
  rw [hg]
  exact N2
theorem super_taken {so D x C : Addr} {ox : Obj} {od : Option Obj} {pl : Sem Bool} {cd : ClassData} {Q : Value × List Value → Shared → Prop} (F : Fr h₀ L s.heap m) (X₀ : K.In h₀) (N : News h₀ L s.heap news) (hso : (so, ks_superObj D x C) ∈ news) (I : InstAt s.heap x ox C od)
    (ho : nsIn K cStatics "thirdparty.any" = some none) (hc : clsIn K C = some cd) (hf : alongIn K (Str.ofString "__init__") ((cd.mro.dropWhile (· != .ref D)).drop 1) = some (some (.builtin "ValueError.__init__"))) (hs : mroIn K C (.type "ValueError") = some true)
    (h : ∀ q h' tk', Fr h₀ L h' m → News h₀ L h' ((q, wrapObj x) :: news) → (∀ p ∈ news, p.1 < q) → Q (.ref q, []) { s with heap := h', toks := tk' }) :
    wpAny (model prog w) A (getMethod (.ref so) (Str.ofString "__init__") pl) Q E s := by
  have X : K.In s.heap := X₀.keeps F.keep
  have nx := ks_ne X I hc
  obtain ⟨hp, g, d, tk, os⟩ := s
  have X : K.In hp := X
  refine super_method_init (N _ hso).1 (looks_opaque X ho) (l₀ := cd.mro) ?_ rfl X hf I.at_ I.cls (looks_mroIn X hs) nx ?_
  · exact fun A Q E s k q => wpAny_bind ((looks_clsIn X hc) A _ E s k (wpAny_pure q))
  · exact h _ _ _ (F.push _) (News.push F N _ rfl) fun p hp => Heap.lt_size (N p hp).1
def WrapAt (x e : Addr) (h : Heap) : Prop := h.get? x = some (wrapObj e)
theorem wrap_of {x e : Addr} {h : Heap} (N : News h₀ L h news) (hm : (x, wrapObj e) ∈ news) : WrapAt x e h := N.get hm
theorem callWith_fields {M : Model} {pos : Pos} {u e : Addr} {first : List Value} {args : List (Bool × Sem Value)} {Q : Value → Shared → Prop} (hplain : args.any (·.1) = false)
    (h : wpAny M A (evalArgs (.ref u) true args []) (fun x s₁ => WrapAt u e s₁.heap ∧ wpAny M A (call (.ref u) (first ++ x.pos) x.kw) Q E s₁) E s) : wpAny M A (callWith pos (.ref u) first args []) Q E s := by
  unfold callWith
  refine wpAny_bind (wpAny_holding (wpAny_mono h (fun x s₁ h₁ => wpAny_bind (wpAny_standAt ?_)) fun _ _ x => x))
  obtain ⟨ho, hcall⟩ := h₁
  simp only [hplain, List.any_nil, Bool.or_false]
  refine wpAny_bind (m := keeperOf (.ref u)) ?_
  unfold keeperOf
  refine wpAny_bind (wpAny_load ho ?_)
  simp only [wrapObj, show (Value.type "method-wrapper" != Value.type "method") = true by decide, show (Value.type "method-wrapper" == Value.type "builtin_function_or_method" || Value.type "method-wrapper" == Value.type "method-wrapper") = true by decide, if_true]
  refine wpAny_pure ?_
  exact wpAny_bind (wpAny_mono hcall (fun r s₂ hr => wpAny_bind (wpAny_holding (wpAny_point (wpAny_pure hr)))) fun _ _ x => x)
theorem callWith_wrap {M : Model} {pos : Pos} {u e : Addr} {first : List Value} {env : Env} {a : Expr} {rest : List Expr} {Q : Value → Shared → Prop} (_N : News h₀ L s.heap news) (_hm : (u, wrapObj e) ∈ news)
    (h : wpAny M A (spliced (backTo pos (starEach (a :: rest) env))) (fun vs s₁ => WrapAt u e s₁.heap ∧ wpAny M A (call (.ref u) (first ++ vs)) Q E s₁) E s)
    (he : starEach (a :: rest) env = (false, eval a env) :: starEach rest env := by rfl) (hplain : (backTo pos (starEach rest env)).any (·.1) = false := by rfl) :
    wpAny M A (callWith pos (.ref u) first (backTo pos (starEach (a :: rest) env)) []) Q E s := by
  rw [he] at h ⊢
  refine callWith_fields (e := e) (by show (false || (backTo pos (starEach rest env)).any (·.1)) = false; rw [hplain]; rfl) ?_
  exact evalArgs_plain h
end
end Mine
end PartE4
section PartE5
open PySem PySem.W PyProof.Rows
namespace Mine
theorem exc_inst {h₀ h : Heap} {L x C : Addr} {news : List (Addr × Obj)} {vs : Array Value} {sl : Array (Option Value)} (N : News h₀ L h news) (h1 : (x, (⟨.ref C, none, .fields vs, sl⟩ : Obj)) ∈ news) :
    InstAt h x ⟨.ref C, none, .fields vs, sl⟩ C none := ⟨(N _ h1).1, rfl, rfl, trivial⟩
theorem exc_inst2 {h₀ h : Heap} {L x C D : Addr} {od : Obj} {news : List (Addr × Obj)} {vs : Array Value} {sl : Array (Option Value)} (N : News h₀ L h news) (h1 : (x, (⟨.ref C, some D, .fields vs, sl⟩ : Obj)) ∈ news) (h2 : (D, od) ∈ news) :
    InstAt h x ⟨.ref C, some D, .fields vs, sl⟩ C (some od) := ⟨(N _ h1).1, rfl, rfl, (N _ h2).1⟩
def Mark (_l : Led) : Prop := True
theorem restOf {rest news : List (Addr × Obj)} {d : Addr} (_m : Mark rest) (l1 : ∀ p ∈ news, p.1 < d) (h : ∀ p ∈ rest, p ∈ news) : ∀ p ∈ rest, p.1 ≠ d := fun p hp => Nat.ne_of_lt (l1 p (h p hp))
theorem news_pick {h₀ h : Heap} {L : Addr} {l rest : List (Addr × Obj)} {a b : Addr × Obj} (N : News h₀ L h l) (hb : b ∈ l) (ha : a ∈ l) (hr : ∀ q ∈ rest, q ∈ l) : News h₀ L h (a :: b :: rest) := fun q hq => by
  rcases List.mem_cons.mp hq with rfl | hq
  · exact N _ ha
  rcases List.mem_cons.mp hq with rfl | hq
  · exact N _ hb
  exact N _ (hr q hq)
local macro_rules | `(tactic| k_all) => `(tactic| assumption)
local macro_rules | `(tactic| k_inst) => `(tactic| first | (refine' exc_inst ?N ?h1; (case N => k_asm); (case h1 => k_mem)) | (refine' exc_inst2 ?N ?h1 ?h2; (case N => k_asm); (case h1 => k_mem); (case h2 => k_mem)))
local macro_rules | `(tactic| cell_enter) => `(tactic| (refine' ks_code_super ?k1 ?k2 ?k3 ?k4 ?k5 ?kA ?kF ?kK ?k6 ?k7 ?k8 ?k9 ?kB ?_ ?c1 ?c2 ?c3 ?c4; (case kA => exact rfl); (case kF => exact rfl); (case kK => assumption); (case k1 => k_asm); (case k2 => k_asm); (case k3 => k_asm); (case k4 => k_asm); (case k5 => k_asm); (case k6 => k_is); (case k7 => k_is); (case k8 => first | ktr_room | (dsimp only; omega)); (case k9 => first | exact BindsTo.of_eq rfl | exact binds_K (by k_in) rfl (by k_is) rfl rfl rfl); (case kB => exact locs rfl); (case c1 => decide); (case c2 => exact rfl); (case c3 => exact rfl); (case c4 => exact rfl); intro g' L' h' FG' F' N' B' X' T' l1; (try k_lt l1); (try dsimp only); (try k_lift B')))
local macro_rules | `(tactic| walk_at "execs cons") => `(tactic| (k_here; (with_reducible show wpAny _ _ _ _ _ ⟨_, _, _, _ + _, _⟩); refine gen_toks (by omega) ?_; intro tk htk))
local macro_rules | `(tactic| walk_at "getMethod ref") => `(tactic| (k_here; (with_reducible show wpAny _ _ (getMethod (Value.ref _) (PySem.Str.ofString "__init__") _) _ _ _); k_dflt (refine toks_up ?_; refine' super_taken ?k1 ?k2 ?k3 ?k4 ?k5 ?k6 ?k7 ?k8 ?k9 ?_; (case k1 => k_asm); (case k2 => k_asm); (case k3 => k_asm); (case k4 => k_mem); (case k5 => k_inst); (case k6 => k_is); (case k7 => k_is); (case k8 => kernel_rfl); (case k9 => k_is); k_whole); intro q' h' tk' F' N' l1 hge'; (try dsimp only at hge'); (try k_lt l1)))
local macro_rules | `(tactic| walk_at "callWith ref") => `(tactic| (k_here; (with_reducible show wpAny _ _ (callWith _ (Value.ref _) _ (backTo _ (starEach (_ :: _) _)) []) _ _ _); k_dflt (refine' callWith_wrap ?N ?M ?_; (case N => k_asm); (case M => k_mem); k_whole)))
local macro_rules | `(tactic| walk_at "And") => `(tactic| ((with_reducible show WrapAt _ _ _ ∧ _); k_dflt (refine ⟨wrap_of (by k_asm) (by k_mem), ?_⟩); (try dsimp only [List.nil_append, List.cons_append])))
local macro_rules | `(tactic| walk_at "call ref") => `(tactic| (k_here; (with_reducible show wpAny _ _ (call (Value.ref 69) [Value.str _ _, Value.str _ _, Value.int _ _] _) _ _ _); k_dflt (refine toks_up ?_; refine' use (errmsgC _ _ _ _ _ _ ?h1 ?h2 ?hD ?hX ?hc) ?B ?F ?X ?N ?T ?K ?d ?u ⟨?t1, ?_⟩; (case h1 => omega); (case h2 => omega); (case hD => omega); (case hX => omega); (case hc => assumption); (case B => k_asm); (case F => k_asm); (case X => k_asm); (case N => k_asm); (case T => k_asm); (case K => exact rfl); (case d => (simp only [depth_under_make, depth_under_kw, depth_in1, depth_deeper, depth_caller]; omega)); (case u => (simp only [units_in1, units_deeper, Around.mark_units, units_caller]; omega)); (case t1 => (dsimp only; omega)); k_whole); intro R' t1' h' tk' F' N' hge'; (try dsimp only at hge'); (try k_fold)))
local macro_rules | `(tactic| walk_at "call ref") => `(tactic| (k_here; (with_reducible show wpAny _ _ (call (Value.ref 61) [Value.str _ _, Value.int _ _] []) _ _ _); k_dflt (refine toks_up ?_; refine' use (linecolC _ _ _ _ ?h1 ?h2 ?hD) ?B ?F ?X ?N ?T ?K ?d ?u ?_; (case h1 => omega); (case h2 => omega); (case hD => omega); (case B => k_asm); (case F => k_asm); (case X => k_asm); (case N => k_asm); (case T => k_asm); (case K => exact rfl); (case d => (simp only [depth_under_make, depth_under_kw, depth_in1, depth_deeper, depth_caller]; omega)); (case u => (simp only [units_in1, units_deeper, Around.mark_units, units_caller]; omega)); k_whole); intro G' a' b' t1' t2' h' tk' ha1' ha2' hb1' hb2' F' N' l1 hge'; (try dsimp only at hge'); (try k_lt l1); (try k_fold)))
local macro_rules | `(tactic| walk_at "call ref") => `(tactic| (k_here; (with_reducible show wpAny _ _ (call (Value.ref _) [Value.str _ _] []) _ _ _); k_dflt (refine' wrapped ?F ?X ?N ?hm ?hT ?U ?hc ?_; (case F => k_asm); (case X => k_asm); (case N => k_asm); (case hm => k_mem); (case U => k_updF); (case hT => k_mem); (case hc => k_is); k_whole); intro T2' h' F' N' l1; (try dsimp only at N'); (try k_lt l1)))
local macro_rules | `(tactic| walk_at "setAttr ref") => `(tactic| (k_here; first
  | (k_dflt (refine' exc_set1 ?F ?X ?N ?U ?hc ?ho ?ht ?hh ?hs ?_; (case F => k_asm); (case X => k_asm); (case N => k_asm); (case U => k_updF); (case hc => k_is); (case ho => exact rfl); (case ht => k_is); (case hh => exact rfl); (case hs => k_is); k_whole); intro D' h' tk' F' N' l1; (try dsimp only at N'); (have l1r := restOf (by assumption) l1 (by intro p hp; repeat (first | exact hp | refine List.mem_cons_of_mem _ ?_))); (try k_lt l1))
  | (k_dflt (refine' exc_set ?F ?X ?N ?I ?hd ?hc ?ho ?ht ?hh ?hs ?hl ?e ?U ?hz ?_; (case F => k_asm); (case X => k_asm); (case N => k_asm); (case I => k_inst); (case hd => exact rfl); (case hc => k_is); (case ho => exact rfl); (case ht => k_is); (case hh => exact rfl); (case hs => k_is); (case hl => k_get); (case e => k_put); (case U => k_upd); (case hz => exact Nat.le_of_ble_eq_true rfl); k_whole); intro h' F' N'; (try dsimp only at N'))))
set_option maxHeartbeats 4000000 in
set_option maxRecDepth 100000 in
theorem initC {w : World} {mean : ExcName → Option Value} {mg mb : Str → Option Value} (e T : Addr) (tp : Obj) (rest : Led) (X : Str) (xt : Tok) (D : Str) (dt : Tok) (p : Int) (pt : Tok) (h1 : 0 ≤ p) (h2 : p ≤ D.length) (hD : D.length < 1000) (hX : X.length ≤ 50) (hc : ∀ c ∈ D.cps.toList, c < 16 ^ 8)
    (l1 : ∀ q ∈ rest, q.1 ≠ e) (l3 : @Ne Nat T e)
    (dp un : Nat) (gd : Option (List Code)) (cn : Str) (cs : Scope) (a : Addr) (ccd : Value) (cl : List (Str × Addr)) (outer : List Env) (A₀ : Around) (base h₀ : Heap) (L : Addr) (m : Str → Option Value) (s : Shared) (Q E : Value → Shared → Prop)
    (B : Below A₀ base outer h₀) (F : Fr h₀ L s.heap m) (X₀ : (hd.heap_39 w.params).In h₀) (N : News h₀ L s.heap ((e, excObj 51 T) :: (T, tp) :: rest)) (TT : Top hd.view_39 loos mean mg mb h₀) (hk : cs.kind = .function)
    (hd : dp + 4 < recursionLimit) (hu : un + 8 * 4 < cLine) (ht : 1 ≤ s.toks)
    (hret : ∀ (T2 dd : Addr) (es : List DictEntry) (n : Nat) (h' : Heap) (tk' : Nat), getL (Str.ofString "pos") es = some (some (.int p pt)) → Fr h₀ L h' m →
      News h₀ L h' ((e, ⟨.ref 51, some dd, .fields #[.ref T2, .none, .none, .none, .bool false, .none], #[]⟩) :: (dd, dictOf es n) :: rest) → dd ≠ e → (∀ q ∈ rest, q.1 ≠ dd) → Q .none { s with heap := h', toks := tk' }) :
    wpAny (model PySem.Challenge.rw_ew0007_01.row.prog w) (ktrTop dp un gd cn cs L a ccd cl outer) (call (.ref 48) [.ref e, .str X xt, .str D dt, .int p pt]) Q E s := by
  revert X₀
  k_fill
  intro X₀
  have mk : Mark rest := trivial
  refine wpAny_call ?_
  k_dflt cell_enter
  k_steps
  all_goals ((rename Fr _ _ _ _ => fE); (rename News _ _ _ _ => nE))
  refine' hret _ _ _ _ _ _ ?g fE (news_pick nE ?b ?a ?r) ?x ?y
  (case a => k_mem)
  (case b => k_mem)
  (case r =>
    intro q hq
    repeat (first | exact hq | refine List.mem_cons_of_mem _ ?_))
  (case g => k_get)
  (case x =>
    show @Ne Nat _ _
    omega)
  (case y => assumption)
end Mine
end PartE5
section PartX1
open PySem PySem.W PyProof.Rows
set_option maxRecDepth 100000
namespace Mine
def Exc (base : Heap) (l : List Env) (e dd : Addr) (c : Value) (fl : Value) (h : Heap) : Prop :=
  base.StaysIn h ∧ base.get? e = none ∧ h.FunFrames base l ∧ ∃ oe vs T oT ts, h.get? e = some oe ∧ (oe.cls = c ∧ oe.dict = some dd) ∧ oe.data = .fields vs ∧ vs[1]? = some (.ref T) ∧ base.get? T = none ∧ T ≠ e ∧ h.get? T = some oT ∧ oT.data = .fields ts ∧ ts[3]? = some fl
section
variable {M : Model} {A : Around} {E : Value → Shared → Prop} {s : Shared} {base : Heap} {env : Env} {outer : List Env} {L e dd : Addr} {c fl : Value}
theorem fields_ne {h : Heap} {b x : Addr} {o ox : Obj} {vs : Array Value} (hx : h.get? x = some ox) (hd : ox.data = .fields vs) (hb : h.get? b = some o) (hn : ∀ vs, o.data ≠ .fields vs) : b ≠ x := by
  rintro rfl
  rw [hx] at hb
  cases hb
  exact hn vs hd
theorem stays_ne {h : Heap} {x : Addr} (hx : base.get? x = none) : ∀ b o, base.get? b = some o → b ≠ x := by
  rintro b o hb rfl
  rw [hx] at hb
  cases hb
theorem entry_new {oe : Obj} {vs : Array Value} {head : Value} {b : Bool} {Q : Unit → Shared → Prop} (hfr : A.frames = some (env :: outer)) (hl : s.heap.FunFrames base (env :: outer)) (hf : env.frame = some L)
    (he : s.heap.get? e = some oe) (hc : oe.cls = c) (hdd : oe.dict = some dd) (hk : base.StaysIn s.heap) (hen : base.get? e = none) (hd : oe.data = .fields vs) (hsz : 1 < vs.size)
    (h : ∀ h', Exc base (env :: outer) e dd c (rawInt L) h' → s.heap.UpToSlots h' → Q () { s with heap := h' }) :
    wpAny M A (do let a ← frameOf env; let pl ← entryPlaceOf L b; let x ← EntryCells.newEntry head a .none (rawInt L) .none pl; setField (.ref e) 1 x) Q E s := by
  have ne : e ∉ (env :: outer).filterMap (·.frame) := fun hm => by
    obtain ⟨_, o, ho, hn⟩ := hl.mem hm
    exact fields_ne he hd ho hn rfl
  refine wpAny_bind (wpAny_frameOf_fun hfr hl hf fun h₁ hs => wpAny_bind (wpAny_entryPlaceOf fun pl hpl => ?_))
  unfold EntryCells.newEntry newFields
  refine wpAny_bind (wpAny_newObj_type ?_ (hpl.sizeOk5 _ _ _ _ _))
  have he1 := (hs.2.1 e ne).trans he
  have kb : base.StaysIn h₁ := fun b o hb => (hs.2.1 b fun hm => by rw [(hl.mem hm).1] at hb; cases hb).trans (hk b o hb)
  generalize ho : ({ cls := .type "traceback", dict := none, data := .fields ([head, .ref L, .none, rawInt L, .none] ++ (if pl.isEmpty then List.replicate 6 Value.none else pl)).toArray } : Obj) = on
  have hdn : on.data = .fields ([head, .ref L, .none, rawInt L, .none] ++ (if pl.isEmpty then List.replicate 6 Value.none else pl)).toArray := by rw [← ho]
  have hfn : on.isFreed = false := by rw [← ho]; rfl
  have he2 := Heap.get?_push_of_some on he1
  have d3 := Obj.data_mapFields hd (·.setIfInBounds 1 (Value.ref h₁.objs.size))
  refine wpAny_setField he2 hd hsz (h _ ?_ ?_)
  · have nT : h₁.objs.size ≠ e := Nat.ne_of_gt (Heap.lt_size he1)
    have keep : ∀ b o, b ≠ e → h₁.get? b = some o → ((h₁.push on).update e (Obj.mapFields (·.setIfInBounds 1 (Value.ref h₁.objs.size)))).get? b = some o := fun b o hb q => by
      rw [Heap.get?_update_other _ _ (Ne.symm hb)]
      exact Heap.get?_push_of_some _ q
    refine ⟨fun b o q => keep b o (stays_ne (h := h₁) hen b o q) (kb b o q), hen, hl.of_keeps fun b o q hn => ?_, _, _, h₁.objs.size, on, _,
      Heap.get?_update_self _ he2 (Obj.isFreed_of_fields d3), ⟨?_, ?_⟩, d3, ?_, kb.fresh, nT, ?_, hdn, ?_⟩
    · obtain ⟨sl, z⟩ := hs.2.2 b o q
      exact ⟨_, keep b _ (fields_ne he hd q hn) z, rfl⟩
    · rw [Obj.cls_mapFields]; exact hc
    · obtain ⟨oc, od, oda, osl⟩ := oe
      dsimp only at hd hdd ⊢
      subst hd
      exact hdd
    · simp [hsz]
    · rw [Heap.get?_update_other _ _ (Ne.symm nT)]
      exact Heap.get?_push_size h₁ hfn
    · simp
  · intro b o q hn
    obtain ⟨sl, z⟩ := hs.2.2 b o q
    refine ⟨sl, ?_⟩
    rw [Heap.get?_update_other _ _ (Ne.symm (fields_ne he hd q hn))]
    exact Heap.get?_push_of_some _ z
theorem note_first {oe : Obj} {vs : Array Value} {Q : Unit → Shared → Prop} (hfr : A.frames = some (env :: outer)) (hl : s.heap.FunFrames base (env :: outer)) (hf : env.frame = some L)
    (he : s.heap.get? e = some oe) (hc : oe.cls = c) (hdd : oe.dict = some dd) (hk : base.StaysIn s.heap) (hen : base.get? e = none) (hd : oe.data = .fields vs) (h1 : vs[1]? = some .none)
    (h : ∀ h', Exc base (env :: outer) e dd c (rawInt L) h' → s.heap.UpToSlots h' → Q () { s with heap := h' }) : wpAny M A (noteFrame (.ref e) env) Q E s := by
  unfold noteFrame
  simp only [hf]
  refine wpAny_bind (wpAny_field he hd h1 ?_)
  rw [if_neg (by decide)]
  exact entry_new hfr hl hf he hc hdd hk hen hd (Array.getElem?_eq_some_iff.mp h1).1 h
theorem note_next {Q : Unit → Shared → Prop} (hfr : A.frames = some (env :: outer)) (hf : env.frame = some L) (X : Exc base (env :: outer) e dd c .none s.heap)
    (h : ∀ h', Exc base (env :: outer) e dd c (rawInt L) h' → s.heap.UpToSlots h' → Q () { s with heap := h' }) : wpAny M A (noteFrame (.ref e) env) Q E s := by
  obtain ⟨hk, hen, hl, oe, vs, T, oT, ts, he, ⟨hc, hdd⟩, hd, h1, hT, nT, gT, dT, h3⟩ := X
  unfold noteFrame
  simp only [hf]
  refine wpAny_bind (wpAny_field he hd h1 ?_)
  rw [if_pos (show (Value.ref T != Value.none) = true from by simp)]
  refine wpAny_bind (wpAny_field gT dT h3 ?_)
  rw [if_neg (show ¬ ((Value.none == rawInt L) = true) from by simp [rawInt])]
  refine wpAny_bind (wpAny_setField gT dT (Array.getElem?_eq_some_iff.mp h3).1 ?_)
  have other : ∀ b, b ≠ T → (s.heap.update T (Obj.mapFields (·.setIfInBounds 3 Value.none))).get? b = s.heap.get? b := fun b hb => Heap.get?_update_other _ _ (Ne.symm hb)
  refine entry_new hfr (hl.of_keeps fun b o q hn => ⟨o, (other b (fields_ne gT dT q hn)).trans q, rfl⟩) hf ((other e (Ne.symm nT)).trans he) hc hdd (fun b o q => (other b (stays_ne (h := s.heap) hT b o q)).trans (hk b o q)) hen hd (Array.getElem?_eq_some_iff.mp h1).1
    fun h' x1 x2 => h h' x1 fun b o q hn => x2 b o ((other b (fields_ne gT dT q hn)).trans q) hn
theorem flight_off {l : List Env} {Q : Unit → Shared → Prop} (X : Exc base l e dd c fl s.heap) (h : ∀ h', Exc base l e dd c .none h' → s.heap.UpToSlots h' → Q () { s with heap := h' }) : wpAny M A (setFlight (.ref e) none) Q E s := by
  obtain ⟨hk, hen, hl, oe, vs, T, oT, ts, he, hc, hd, h1, hT, nT, gT, dT, h3⟩ := X
  have sz : 3 < ts.size := (Array.getElem?_eq_some_iff.mp h3).1
  have other : ∀ b, b ≠ T → (s.heap.update T (Obj.mapFields (·.setIfInBounds 3 ((none : Option Addr).elim Value.none fun f => rawInt f)))).get? b = s.heap.get? b := fun b hb => Heap.get?_update_other _ _ (Ne.symm hb)
  unfold setFlight
  refine wpAny_bind (wpAny_field he hd h1 ?_)
  rw [if_pos (show (Value.ref T != Value.none) = true from by simp)]
  refine wpAny_setField gT dT sz (h _ ⟨fun b o q => (other b (stays_ne (h := s.heap) hT b o q)).trans (hk b o q), hen, hl.of_keeps fun b o q hn => ⟨o, (other b (fields_ne gT dT q hn)).trans q, rfl⟩,
    oe, vs, T, _, _, (other e (Ne.symm nT)).trans he, hc, hd, h1, hT, nT, Heap.get?_update_self _ gT (Obj.isFreed_of_fields (Obj.data_mapFields dT _)), Obj.data_mapFields dT _, by simp [sz]⟩ fun b o q hn => ⟨o.slots, (other b (fields_ne gT dT q hn)).trans q⟩)
theorem leave_first {oe : Obj} {vs : Array Value} {Q : Unit → Shared → Prop} (hfr : A.frames = some (env :: outer)) (hl : s.heap.FunFrames base (env :: outer)) (hf : env.frame = some L)
    (he : s.heap.get? e = some oe) (hc : oe.cls = c) (hdd : oe.dict = some dd) (hk : base.StaysIn s.heap) (hen : base.get? e = none) (hd : oe.data = .fields vs) (h1 : vs[1]? = some .none)
    (h : ∀ h', Exc base outer e dd c .none h' → s.heap.UpToSlots h' → Q () { s with heap := h' }) : wpAny M A (leaving env (.ref e)) Q E s := by
  unfold leaving
  refine wpAny_bind (note_first hfr hl hf he hc hdd hk hen hd h1 fun h1 x1 u1 => flight_off x1 fun h2 x2 u2 => h h2 ?_ (u1.trans u2))
  obtain ⟨a1, a2, ⟨_, _, a3⟩, a4⟩ := x2
  exact ⟨a1, a2, a3, a4⟩
end
end Mine
end PartX1
section PartX2
open PySem PySem.W PyProof.Rows
set_option maxRecDepth 100000
namespace Mine
def RaisedX (base : Heap) (l : List Env) (e dd : Addr) (c : Value) (news : List (Addr × Obj)) (h : Heap) : Prop :=
  ∃ B, base.StaysIn B ∧ (∀ q ∈ news, B.get? q.1 = some q.2 ∧ base.get? q.1 = none) ∧ Exc B l e dd c .none h
theorem exc_base {base B h : Heap} {l : List Env} {e dd : Addr} {c fl : Value} (k : base.StaysIn B) (x : Exc B l e dd c fl h) : Exc base l e dd c fl h := by
  obtain ⟨f1, f2, f3, oe, vs, T, oT, ts, a1, a2, a3, a4, a5, a6⟩ := x
  exact ⟨fun b o q => f1 b o (k b o q), fresh_of_stays k f2, funFrames_base k f3, oe, vs, T, oT, ts, a1, a2, a3, a4, fresh_of_stays k a5, a6⟩
section
variable {M : Model} {A : Around} {E : Value → Shared → Prop} {s' : Shared} {base g : Heap} {outer : List Env} {L a e dd : Addr} {m : Str → Option Value} {name : Str} {scope : Scope} {cd c : Value} {Q : Unit → Shared → Prop} {news : List (Addr × Obj)}
theorem leave_raiseX {vs : Array Value} {sl : Array (Option Value)} (K : Below A base outer g) (F : Fr g L s'.heap m) (N : News g L s'.heap ((e, ⟨c, some dd, .fields vs, sl⟩) :: news)) (hne : ∀ q ∈ news, q.1 ≠ e) (h1 : vs[1]? = some .none)
    (hQ : ∀ h', RaisedX base outer e dd c news h' → g.UpToSlots h' → Q () { s' with heap := h' }) (hk : scope.kind = .function := by rfl) :
    wpAny M (A.deeper (envOf name scope L a cd)) (leaving (envOf name scope L a cd) (.ref e)) Q E s' := by
  have K' := K.push (name := name) (a := a) (cd := cd) F hk
  have off : ∀ q ∈ (e, (⟨c, some dd, .fields vs, sl⟩ : Obj)) :: news, q.1 ∉ (envOf name scope L a cd :: outer).filterMap (·.frame) := fun q hq hm => by
    obtain ⟨env, he, hf⟩ := List.mem_filterMap.mp hm
    rcases List.mem_cons.mp he with rfl | he
    · exact (N q hq).2.1 (Option.some.inj hf).symm
    · obtain ⟨o, ho, _⟩ := (K.frames.mem (List.mem_filterMap.mpr ⟨env, he, hf⟩)).2
      rw [(N q hq).2.2] at ho; cases ho
  have be : base.get? e = none := fresh_of_stays K.stays (N (e, _) (.head _)).2.2
  refine leave_first (base := hideAll s'.heap (e :: (envOf name scope L a cd :: outer).filterMap (·.frame))) K'.stack
    (funFrames_hide K'.frames fun env he b hb => .tail _ (List.mem_filterMap.mpr ⟨env, he, hb⟩)) rfl (N (e, _) (.head _)).1 rfl rfl (fun b o q => of_hideAll _ q) (hideAll_none _ (.head _)) rfl h1 fun h' x u => hQ h' ⟨_, fun b o q => ?_, fun q hq => ⟨?_, ?_⟩, x⟩ ((Heap.UpToSlots.of_keeps F.keep).trans u)
  · refine hideAll_get _ (K'.stays b o q) fun hm => ?_
    rcases List.mem_cons.mp hm with rfl | hm
    · rw [be] at q; cases q
    · rw [(K'.frames.mem hm).1] at q; cases q
  · refine hideAll_get _ (N q (.tail _ hq)).1 fun hm => ?_
    rcases List.mem_cons.mp hm with z | hm
    · exact hne q hq z
    · exact off q (.tail _ hq) hm
  · exact fresh_of_stays K.stays (N q (.tail _ hq)).2.2
end
end Mine
end PartX2
section PartX3
open PySem PySem.W PyProof.Rows
set_option maxRecDepth 100000
namespace Mine
section
variable {w : World}
theorem cls_entry : (hd.heap_39 w.params).lookup 51 = some (excClassObj (Str.ofString "HjsonDecodeError") (Str.ofString "HjsonDecodeError") 51 50 [.type "ValueError"] [.type "ValueError", .type "Exception", .type "BaseException", .type "object"] true [] [] false none none (some (.ref 32)) none (some (.str (Str.ofString "HjsonDecodeError") 284)) (some (.str (Str.ofString "HjsonDecodeError") 292)) (some (.bool true)) "ValueError.__new__") := by kernel_rfl
theorem ns_of {K : Frag} {h : Heap} {N : Addr} {mg : Str → Option Value} {n : Str} {v : Value} (X : K.In h) (G : h.Ns N mg) (e : nsIn K N n = some (some v)) : mg n = some v := by
  obtain ⟨o, es, ep, ho, hd, _, hf⟩ := G
  unfold nsIn at e
  split at e
  · rename_i q
    have z := X _ _ q
    rw [ho] at z
    cases z
    cases hd
    split at e
    · rename_i en he
      cases e
      have z := hf n
      unfold nsFind findBy at z
      rw [← Array.find?_toList, he] at z
      exact z.symm
    · split at e <;> cases e
  · cases e
set_option maxHeartbeats 4000000 in
theorem makeC {mean : ExcName → Option Value} {mg mb : Str → Option Value} (rest : Led) (X : Str) (xt : Tok) (D : Str) (dt : Tok) (p : Int) (pt : Tok) (h1 : 0 ≤ p) (h2 : p ≤ D.length) (hD : D.length < 1000) (hX : X.length ≤ 50) (hc : ∀ c ∈ D.cps.toList, c < 16 ^ 8)
    (dp un : Nat) (gd : Option (List Code)) (cn : Str) (cs : Scope) (a : Addr) (ccd : Value) (cl : List (Str × Addr)) (outer : List Env) (A₀ : Around) (base h₀ : Heap) (L : Addr) (m : Str → Option Value) (s : Shared) (Q E : Value → Shared → Prop)
    (B : Below A₀ base outer h₀) (F : Fr h₀ L s.heap m) (X₀ : (hd.heap_39 w.params).In h₀) (N : News h₀ L s.heap rest) (TT : Top hd.view_39 loos mean mg mb h₀) (hk : cs.kind = .function)
    (hd : dp + 6 < recursionLimit) (hu : un + 8 * 6 < cLine) (ht : 1 ≤ s.toks)
    (hret : ∀ (e T2 dd : Addr) (es : List DictEntry) (n : Nat) (h' : Heap) (tk' : Nat), getL (Str.ofString "pos") es = some (some (.int p pt)) → Fr h₀ L h' m →
      News h₀ L h' ((e, ⟨.ref 51, some dd, .fields #[.ref T2, .none, .none, .none, .bool false, .none], #[]⟩) :: (dd, dictOf es n) :: rest) → (∀ q ∈ (dd, dictOf es n) :: rest, q.1 ≠ e) → Q (.ref e) { s with heap := h', toks := tk' }) :
    wpAny (model PySem.Challenge.rw_ew0007_01.row.prog w) (ktrTop dp un gd cn cs L a ccd cl outer) (call (.ref 51) [.str X xt, .str D dt, .int p pt]) Q E s := by
  have XH := X₀.keeps F.keep
  have NS := Heap.Ns.of_isNs (isNs_of_in XH (N := 50) (by kernel_rfl))
  have hi := ns_of (n := Str.ofString "__init__") (v := .ref 48) XH NS (by kernel_rfl)
  obtain ⟨hp, g, d, tk, os⟩ := s
  refine wpAny_call_exc_init (fI := 48) PySem.F.excBase_ValueError (XH _ _ cls_entry) NS hi (XH 48 _ (by rfl)) (by rfl) (fun h' e hm => ?_) (by show 3 ≤ sizeLine; decide)
  obtain ⟨keeps, new, t, he, tn, ht'⟩ := hm
  have te : t ≠ e := by
    rintro rfl
    rw [he] at ht'
    cases ht'
  have F' : Fr h₀ L h' m := F.keeps keeps
  have N' : News h₀ L h' rest := fun q hq => ⟨keeps _ _ (N q hq).1, (N q hq).2⟩
  have fresh : ∀ b, hp.get? b = none → h₀.get? b = none := fun b hb => fresh_of_stays F.keep hb
  have N'' := News.more F' (News.more F' N' ht' (fun es n q => by cases q) (fresh t tn)) he (fun es n q => by cases q) (fresh e new)
  have re : ∀ q ∈ rest, q.1 ≠ e := fun q hq z => by
    have := (N q hq).1
    rw [z] at this
    rw [show hp.get? e = none from new] at this
    cases this
  refine initC e t _ rest X xt D dt p pt h1 h2 hD hX hc re te _ _ _ _ _ _ _ _ _ A₀ base h₀ L m _ _ _ B F' X₀ N'' TT hk ?_ ?_ ht fun T2 dd es n h'' tk' hp hF hN hne hr => ⟨rfl, hret e T2 dd es n h'' tk' hp hF hN (fun q hq => ?_)⟩
  · show dp + _ + 4 < recursionLimit
    exact Nat.lt_of_le_of_lt (Nat.add_le_add_right (Nat.add_le_add_left (show _ ≤ 2 from Nat.le_of_ble_eq_true (by kernel_rfl)) dp) 4) hd
  · show un + _ + 8 * 4 < cLine
    exact Nat.lt_of_le_of_lt (Nat.add_le_add_right (Nat.add_le_add_left (show _ ≤ 16 from Nat.le_of_ble_eq_true (by kernel_rfl)) un) (8 * 4)) hu
  · rcases List.mem_cons.mp hq with rfl | hq
    · exact hne
    · exact re q hq
end
end Mine
end PartX3
section PartX4
open PySem PySem.W PyProof.Rows
set_option maxRecDepth 100000
namespace Mine
abbrev ownCls : Obj := excClassObj (Str.ofString "HjsonDecodeError") (Str.ofString "HjsonDecodeError") 51 50 [.type "ValueError"] [.type "ValueError", .type "Exception", .type "BaseException", .type "object"] true [] [] false none none (some (.ref 32)) none (some (.str (Str.ofString "HjsonDecodeError") 284)) (some (.str (Str.ofString "HjsonDecodeError") 292)) (some (.bool true)) "ValueError.__new__"
def RaisableX (E : Value → Shared → Prop) (v : Value) (s₁ : Shared) : Prop :=
  ∃ e T2 dd sl, v = .ref e ∧ s₁.heap.get? 51 = some ownCls ∧ s₁.heap.get? e = some (⟨.ref 51, some dd, .fields #[.ref T2, .none, .none, .none, .bool false, .none], sl⟩ : Obj) ∧ E (.ref e) s₁
section
variable {M : Model} {A : Around} {E : Value → Shared → Prop} {env : Env}
theorem raiseStmt_X {s : Shared} {x : Sem Value} {Q : Flow → Shared → Prop} (hh : A.handled = none)
    (h : wpAny M A x (RaisableX E) E s) : wpAny M A (raiseStmt env (some x) none) Q E s := by
  have hcB : (Value.ref 51 :: [Value.type "ValueError", .type "Exception", .type "BaseException", .type "object"]).contains (.type "BaseException") = true := by decide
  unfold raiseStmt
  refine wpAny_bind (wpAny_mono h (fun v s₁ h₁ => ?_) fun _ _ x => x)
  obtain ⟨e, t, dd, sl, rfl, hC, he, hE⟩ := h₁
  obtain ⟨hp, g, d, tk, os⟩ := s₁
  repeat (first | with_reducible refine wpAny_loadPart_at he ?_ | with_reducible refine wpAny_loadPart_at hC ?_ | (with_reducible refine wpAny_isSubtype_exc hC ?_; rw [hcB]) | wp_step)
  exact wpAny_raiseNew_none hh hE
theorem Raise_X {s : Shared} {x : Expr} {pos : Pos} {Q : Flow → Shared → Prop} (hh : A.handled = none) (h : wpAny M A (eval x env) (RaisableX E) E s) : wpAny M A (exec (.Raise (some x) none pos) env) Q E s := by
  show wpAny M A (do standAt pos; raiseStmt env (some (do let v ← eval x env; standAt pos; pure v)) none) Q E s
  refine wpAny_bind (wpAny_standAt (raiseStmt_X hh ?_))
  exact wpAny_bind (wpAny_mono h (fun v s₁ h₁ => wpAny_bind (wpAny_standAt (wpAny_pure h₁))) fun _ _ x => x)
end
theorem raisable_X {E : Value → Shared → Prop} {s : Shared} {e T2 dd L : Addr} {sl : Array (Option Value)} {h₀ : Heap} {m : Str → Option Value} {P : Params} {news : List (Addr × Obj)} (F : Fr h₀ L s.heap m) (X₀ : (hd.heap_39 P).In h₀)
    (N : News h₀ L s.heap news) (hm : (e, (⟨.ref 51, some dd, .fields #[.ref T2, .none, .none, .none, .bool false, .none], sl⟩ : Obj)) ∈ news) (h : E (.ref e) s) : RaisableX E (.ref e) s :=
  ⟨e, T2, dd, sl, rfl, (X₀.keeps F.keep) _ _ (by kernel_rfl), (N _ hm).1, h⟩
end Mine
end PartX4
section PartS8
open PySem PySem.W PyProof.Rows
set_option maxRecDepth 100000
namespace Mine
inductive End where
  | done (place : Nat)
  | unterminated
  | bad (pos : Nat)
def shorts : List (Nat × Nat) := [(34, 34), (39, 39), (92, 92), (47, 47), (98, 8), (102, 12), (110, 10), (114, 13), (116, 9)]
def pairs : List (Nat × Nat × Nat) := [(0xd83d, 0xde00, 0x1f600), (0xdbff, 0xdffd, 0x10fffd)]
structure Upto (D : Str) (i j : Nat) : Prop where
  le : i ≤ j
  lt : j < D.length
  no : ∀ k, i ≤ k → k < j → spc (D.cps.getD k 0) = false
def seg (D : Str) (i j : Nat) : List Nat := (D.cps.extract i j).toList
inductive Scan (D : Str) (q : Nat) (strict : Bool) : Nat → List Nat → End → Prop
  | miss {i : Nat} (hi : i ≤ D.length) (h : ∀ k, i ≤ k → k < D.length → spc (D.cps.getD k 0) = false) : Scan D q strict i [] .unterminated
  | close {i j : Nat} (u : Upto D i j) (hc : D.cps.getD j 0 = q) : Scan D q strict i (seg D i j) (.done (j + 1))
  | quote {i j c : Nat} {t : List Nat} {o : End} (u : Upto D i j) (hc : D.cps.getD j 0 = c) (h1 : c = 34 ∨ c = 39) (h2 : c ≠ q) (r : Scan D q strict (j + 1) t o) : Scan D q strict i (seg D i j ++ c :: t) o
  | ctrl {i j c : Nat} {t : List Nat} {o : End} (u : Upto D i j) (hc : D.cps.getD j 0 = c) (h1 : c < 32) (h2 : strict = false) (r : Scan D q strict (j + 1) t o) : Scan D q strict i (seg D i j ++ c :: t) o
  | bad {i j c : Nat} (u : Upto D i j) (hc : D.cps.getD j 0 = c) (h1 : c < 32) (h2 : strict = true) : Scan D q strict i [] (.bad (j + 1))
  | short {i j k v : Nat} {t : List Nat} {o : End} (u : Upto D i j) (hc : D.cps.getD j 0 = 92) (hl : j + 1 < D.length) (hk : D.cps.getD (j + 1) 0 = k) (h1 : (k, v) ∈ shorts) (r : Scan D q strict (j + 2) t o) : Scan D q strict i (seg D i j ++ v :: t) o
  | hex {i j v : Nat} {up : Bool} {t : List Nat} {o : End} (u : Upto D i j) (hc : D.cps.getD j 0 = 92) (hl : j + 6 ≤ D.length) (hk : D.cps.getD (j + 1) 0 = 117) (hx : seg D (j + 2) (j + 6) = hex4 up v) (h1 : v ∈ hexVals) (h2 : v &&& 64512 ≠ 55296) (r : Scan D q strict (j + 6) t o) : Scan D q strict i (seg D i j ++ v :: t) o
  | pair {i j v v2 x : Nat} {up : Bool} {t : List Nat} {o : End} (u : Upto D i j) (hc : D.cps.getD j 0 = 92) (hl : j + 12 ≤ D.length) (hk : D.cps.getD (j + 1) 0 = 117) (hx : seg D (j + 2) (j + 6) = hex4 up v) (hm : seg D (j + 6) (j + 8) = [92, 117]) (hx2 : seg D (j + 8) (j + 12) = hex4 up v2) (h1 : (v, v2, x) ∈ pairs) (r : Scan D q strict (j + 12) t o) : Scan D q strict i (seg D i j ++ x :: t) o
theorem cut_le (D : Str) (i j : Nat) : (⟨D.cps.extract i j⟩ : Str).length ≤ j - i := by
  unfold Str.length
  simp only [Array.size_extract]
  omega
theorem spc_ctrl {c : Nat} (h : c < 32) : spc c = true := by
  have : ∀ c : Fin 32, spc c.1 = true := by decide
  exact this ⟨c, h⟩
theorem one_ne {c q : Nat} (h : c ≠ q) : ((⟨#[c]⟩ : Str) == ⟨#[q]⟩) = false := by
  rw [beq_eq_false_iff_ne]
  intro e
  injection e with e
  simp only [Array.mk.injEq, List.cons.injEq, and_true] at e
  exact h e
theorem short_ne {k v : Nat} (h : (k, v) ∈ shorts) : k ≠ 117 := by
  have : ∀ p ∈ shorts, p.1 ≠ 117 := by decide
  exact this _ h
theorem item_at {D : Str} {j k : Nat} (h : j + 1 < D.length) (hk : D.cps.getD (j + 1) 0 = k) : Txt.item D ((j : Int) + 1) = ⟨#[k]⟩ := by
  have e : seqIndex? ((j : Int) + 1) D.length = some (j + 1) := by
    unfold seqIndex?
    dsimp only
    simp only [show ¬ ((j : Int) + 1 < 0) by omega, if_false]
    rw [if_pos (by simp only [Bool.and_eq_true, decide_eq_true_eq]; omega)]
    congr 1
  unfold Txt.item Txt.charAt
  rw [e]
  subst hk
  unfold Str.length at h
  simp [Array.getD, h]
theorem ext_one {D : Str} {j : Nat} (h : j < D.length) : (⟨D.cps.extract j (j + 1)⟩ : Str) = ⟨#[D.cps.getD j 0]⟩ := by
  unfold Str.length at h
  rw [Array.extract_succ_right (by omega) h]
  simp [Array.extract_empty_of_stop_le_start, Array.getD, h]
theorem slice_seg {D : Str} {a b : Nat} {A B : Int} (hA : A = a) (hB : B = b) (h1 : a ≤ b) (h2 : b ≤ D.length) : Txt.slice D (some A) (some B) = ⟨(seg D a b).toArray⟩ := by
  subst hA hB
  unfold Str.length at h2
  have e : Txt.slice D (some (a : Int)) (some (b : Int)) = _ := StrLaws.sliceText_plain (x := D) ⟨Int.natCast_nonneg a, by omega, by simpa using h2⟩
  rw [e]
  congr 2
  unfold seg
  rw [Array.toList_extract, List.extract_eq_take_drop]
  congr 1
  omega
theorem hexT_len (up : Bool) (v : Nat) : (hexT up v).length = 4 := rfl
theorem hexT_x (up : Bool) (v : Nat) : Txt.slice (hexT up v) (some 1) (some 2) = ⟨#[dig up (v / 256 % 16)]⟩ := by
  have := slice_seg (D := hexT up v) (a := 1) (b := 2) (A := 1) (B := 2) rfl rfl (by omega) (by rw [hexT_len]; omega)
  rw [this]
  rfl
theorem dig_ne (up : Bool) (d c : Nat) (hd : d < 16) (hc : c = 120 ∨ c = 88) : ((⟨#[dig up d]⟩ : Str) == ⟨#[c]⟩) = false := by
  refine one_ne ?_
  unfold dig
  split
  · omega
  · split <;> omega
theorem hex_slice {D : Str} {up : Bool} {v a b : Nat} {A B : Int} (hx : seg D a b = hex4 up v) (hA : A = a) (hB : B = b) (h1 : a ≤ b) (h2 : b ≤ D.length) : Txt.slice D (some A) (some B) = hexT up v := by
  rw [slice_seg hA hB h1 h2, hx]
  rfl
theorem hex_lt {v : Nat} (h : v ∈ hexVals) : v < 65536 := by
  have : ∀ v ∈ hexVals, v < 65536 := by decide
  exact this v h
theorem hex_and {v : Nat} (h : v ∈ hexVals) (h2 : v &&& 64512 ≠ 55296) : Builtin.bitAnd (v : Int) 64512 ≠ 55296 := by
  have : ∀ v ∈ hexVals, v &&& 64512 ≠ 55296 → Builtin.bitAnd (v : Int) 64512 ≠ 55296 := by decide
  exact this v h h2
theorem pair_facts {v v2 x : Nat} (h : (v, v2, x) ∈ pairs) : v ∈ hexVals ∧ v2 ∈ hexVals ∧ Builtin.bitAnd (v : Int) 64512 = 55296 ∧ Builtin.bitAnd (v2 : Int) 64512 = 56320 ∧ ((v : Int) - 55296).natAbs < 2 ^ 64 ∧ x ≤ 1114111 ∧
    65536 + Builtin.bitOr (((v : Int) - 55296) * 2 ^ (10 : Int).toNat) ((v2 : Int) - 56320) = (x : Int) := by
  simp only [pairs, List.mem_cons, Prod.mk.injEq, List.not_mem_nil, or_false] at h
  rcases h with ⟨rfl, rfl, rfl⟩ | ⟨rfl, rfl, rfl⟩ <;> decide
end Mine
end PartS8
section PartS9
open PySem PySem.W PyProof.Rows
set_option maxRecDepth 100000
namespace Mine
def Hold (p : Prop) : Prop := p
theorem Hold.out {p : Prop} (h : Hold p) : p := h
structure ScanSt where
  p : Int
  pt : Tok
  its : Array Value
  n : Nat
def ScanP (D : Str) (q : Nat) (strict : Bool) (t : List Nat) (o : End) (c : ScanSt) : Prop :=
  ∃ (i : Nat) (t' : List Nat) (ys : List Str), c.p = i ∧ Scan D q strict i t' o ∧ StrsAre c.its.toList ys ∧ ys.flatMap (·.cps.toList) ++ t' = t ∧ (ys.map (·.length)).sum ≤ i ∧ ys.length ≤ 2 * i
def scanLed (qa la : Addr) (rest : List (Addr × Obj)) (c : ScanSt) : List (Addr × Obj) := (qa, appObj la) :: (la, listOf c.its c.n) :: rest
def scanPs (c : ScanSt) : List (Str × Value) := [(Str.ofString "end", .int c.p c.pt)]
def scanStored : List Str := [Str.ofString "chunk", Str.ofString "content", Str.ofString "terminator", Str.ofString "msg", Str.ofString "esc", Str.ofString "char", Str.ofString "escX", Str.ofString "uni", Str.ofString "esc2", Str.ofString "uni2"]
theorem Scan.le {D : Str} {q : Nat} {strict : Bool} {i : Nat} {t : List Nat} {o : End} (h : Scan D q strict i t o) : i ≤ D.length := by
  cases h with
  | miss hi _ => exact hi
  | close u _ => exact Nat.le_of_lt (Nat.lt_of_le_of_lt u.le u.lt)
  | quote u _ _ _ _ => exact Nat.le_of_lt (Nat.lt_of_le_of_lt u.le u.lt)
  | ctrl u _ _ _ _ => exact Nat.le_of_lt (Nat.lt_of_le_of_lt u.le u.lt)
  | bad u _ _ _ => exact Nat.le_of_lt (Nat.lt_of_le_of_lt u.le u.lt)
  | short u _ _ _ _ _ => exact Nat.le_of_lt (Nat.lt_of_le_of_lt u.le u.lt)
  | hex u _ _ _ _ _ _ _ => exact Nat.le_of_lt (Nat.lt_of_le_of_lt u.le u.lt)
  | pair u _ _ _ _ _ _ _ _ => exact Nat.le_of_lt (Nat.lt_of_le_of_lt u.le u.lt)
section
variable {prog : Program} {w : World} {A : Around} {E : Value → Shared → Prop} {Q : Flow → Shared → Prop} {s : Shared} {env : Env} {h₀ : Heap} {L : Addr}
def scanMu (D : Str) (c : ScanSt) : Nat := D.length - c.p.toNat
theorem scan_loop {test : Expr} {body : List Stmt} {pos : Pos} {m₀ : Str → Option Value} {D : Str} {q : Nat} {strict : Bool} {t : List Nat} {o : End} {i n : Nat} {et : Tok} {qa la : Addr} {rest : List (Addr × Obj)}
    (hS : Scan D q strict i t o) (F : Fr h₀ L s.heap m₀) (N : News h₀ L s.heap ((qa, appObj la) :: (la, listOf #[] n) :: rest)) (hend : m₀ (Str.ofString "end") = some (.int (i : Int) et))
    (turn : Hold (∀ (c : ScanSt) (u : Str → Option Value) h tk, ScanP D q strict t o c → Fr h₀ L h (kstB (fun z => if scanStored.contains z then u z else m₀ z) (scanPs c)) → News h₀ L h (scanLed qa la rest c) →
      wpAny (model prog w) A (isTrue test env (eval test env)) (fun b s₂ =>
        if b = true then wpAny (model prog w) A (execs body env) (KswPost h₀ L s (scanLed qa la rest) scanPs (fun _ => True) scanStored m₀ (ScanP D q strict t o) (scanMu D) Q c) E s₂ else Q .next s₂) E { s with heap := h, toks := tk }))
    (hE : PassesOwn (model prog w) A env E := by passes_own) :
    wpAny (model prog w) A (exec (.While test body [] pos) env) Q E s := by
  refine ksw_while (scanLed qa la rest) scanPs (fun _ => True) scanStored (ScanP D q strict t o) (scanMu D) ⟨i, et, #[], n⟩ F N trivial ?_ ?_ (fun c u h tk _ hP F N => turn c u h tk hP F N) hE
  · intro p hp
    simp only [scanPs, List.mem_singleton] at hp
    subst hp
    exact hend
  · exact ⟨i, t, [], rfl, hS, .nil, rfl, Nat.zero_le _, Nat.zero_le _⟩
theorem scan_next {D : Str} {q : Nat} {strict : Bool} {t t2 : List Nat} {o : End} {qa la : Addr} {rest news' : List (Addr × Obj)} {m₀ m' : Str → Option Value} {i i2 n n' : Nat} {pt pt' : Tok} {its its' : Array Value} {ys' : List Str} {p' : Int} {h' : Heap} {tk : Nat}
    (F : Fr h₀ L h' m') (N : News h₀ L h' news') (r : Scan D q strict i2 t2 o) (hk : m' (Str.ofString "end") = some (.int p' pt')) (hi : p' = (i2 : Int)) (h1 : (qa, appObj la) ∈ news') (h2 : (la, listOf its' n') ∈ news') (h3 : ∀ q ∈ rest, q ∈ news')
    (hr : ∀ z, z ≠ Str.ofString "end" → scanStored.contains z = false → m' z = m₀ z) (hY : StrsAre its'.toList ys') (hc : ys'.flatMap (fun x => x.cps.toList) ++ t2 = t) (hs : (ys'.map (·.length)).sum ≤ i2) (hl : ys'.length ≤ 2 * i2) (hm : i < i2) (hd : i < D.length) :
    KswEnd h₀ L s (scanLed qa la rest) scanPs (fun _ => True) scanStored m₀ (ScanP D q strict t o) (scanMu D) ⟨(i : Int), pt, its, n⟩ { s with heap := h', toks := tk } := by
  refine ksw_end ⟨p', pt', its', n'⟩ F N (fun p hp => ?_) trivial (fun p hp => ?_) (fun z hz hc => hr z ?_ hc) ⟨i2, t2, ys', hi, r, hY, hc, hs, hl⟩ ?_
  · rcases List.mem_cons.mp hp with rfl | hp
    · exact h1
    rcases List.mem_cons.mp hp with rfl | hp
    · exact h2
    exact h3 p hp
  · simp only [scanPs, List.mem_singleton] at hp
    subst hp
    exact hk
  · exact hz (Str.ofString "end", .int p' pt') (by simp [scanPs])
  · subst hi
    show D.length - (i2 : Int).toNat < D.length - (i : Int).toNat
    simp only [Int.toNat_natCast]
    omega
end
end Mine
end PartS9
section PartS10
open PySem PySem.W PyProof.Rows
set_option maxRecDepth 100000
namespace Mine
theorem pat_entry (P : Params) : (hd.heap_39 P).lookup 74 = some patObj := by kernel_rfl
theorem code_entry (P : Params) : (hd.heap_39 P).lookup 73 = some codeObj := by kernel_rfl
section
variable {prog : Program} {w : World} {A : Around} {E : Value → Shared → Prop} {s : Shared} {h₀ : Heap} {L : Addr} {m : Str → Option Value} {news : List (Addr × Obj)}
theorem pat_found {x : Str} {t u : Tok} {i j : Nat} {Q : Value → Shared → Prop} (F : Fr h₀ L s.heap m) (X : (hd.heap_39 w.params).In h₀) (N : News h₀ L s.heap news) (hx : x.length < 1000)
    (hu : Upto x i j) (hs : spc (x.cps.getD j 0) = true)
    (h : ∀ T o h', Fr h₀ L h' m → News h₀ L h' ((o, foundObj (.str x t) i x.length T) :: (T, spanObj i j) :: news) → (∀ q ∈ news, q.1 < T) → @LT.lt Nat _ T o → Q (.ref o) { s with heap := h' }) :
    wpAny (model prog w) A (call (.builtin "re.Pattern.match") [.ref 74, .str x t, .int (i : Int) u]) Q E s :=
  pat_hit F X N (pat_entry _) (code_entry _) (Int.natCast_nonneg i) (by omega) hu.le hu.lt hu.no hs h
theorem pat_lost {x : Str} {t u : Tok} {i : Nat} {Q : Value → Shared → Prop} (F : Fr h₀ L s.heap m) (X : (hd.heap_39 w.params).In h₀) (hx : x.length < 1000)
    (hi : i ≤ x.length) (hn : ∀ k, i ≤ k → k < x.length → spc (x.cps.getD k 0) = false) (h : Q .none s) :
    wpAny (model prog w) A (call (.builtin "re.Pattern.match") [.ref 74, .str x t, .int (i : Int) u]) Q E s :=
  pat_miss F X (pat_entry _) (code_entry _) (Int.natCast_nonneg i) (by omega) hi hn h
theorem found_groups2 {Q : Value → Shared → Prop} {o T : Addr} {x y : Str} {t : Tok} {p lim j : Nat} (F : Fr h₀ L s.heap m) (N : News h₀ L s.heap news) (hm : (o, foundObj (.str x t) p lim T) ∈ news) (hT : (T, spanObj p j) ∈ news) (hx : x.length < 1000)
    (e : (⟨x.cps.extract j (j + 1)⟩ : Str) = y)
    (h : ∀ G t1 t2 h' tk', Fr h₀ L h' m → News h₀ L h' ((G, { cls := .type "tuple", data := .seq #[.str ⟨x.cps.extract p j⟩ t1, .str y t2] }) :: news) → (∀ q ∈ news, q.1 < G) → Q (.ref G) { s with heap := h', toks := tk' }) :
    wpAny (model prog w) A (call (.builtin "re.Match.groups") [.ref o]) Q E s := by
  subst e
  exact found_groups F N hm hT (by omega) h
theorem truthy_cut {x : Str} {i j : Nat} {t : Tok} {Q : Bool → Shared → Prop} (hx : x.length < 1000) (h1 : (⟨x.cps.extract i j⟩ : Str).length ≠ 0 → Q true { s with toks := s.toks + 1 + 1 }) (h0 : (⟨x.cps.extract i j⟩ : Str).length = 0 → Q false { s with toks := s.toks + 1 + 1 }) :
    wpAny (model prog w) A (PySem.truthy (.str ⟨x.cps.extract i j⟩ t)) Q E s := by
  have hl : (⟨x.cps.extract i j⟩ : Str).length ≤ x.length := by
    unfold Str.length
    simp only [Array.size_extract]
    omega
  refine PyProof.Rows.SBL.truthy (by omega) ?_
  by_cases h : (⟨x.cps.extract i j⟩ : Str).length = 0
  · rw [show (((⟨x.cps.extract i j⟩ : Str).length : Int) != 0) = false from by simp [h]]
    exact h0 h
  · rw [show (((⟨x.cps.extract i j⟩ : Str).length : Int) != 0) = true from by simp [h]]
    exact h1 h
end
def backEs (P : Params) : Array DictEntry := #[⟨PyData.keyHash P (Str.ofString "\""), .str (Str.ofString "\"") 388, .str (Str.ofString "\"") 389⟩,
  ⟨PyData.keyHash P (Str.ofString "'"), .str (Str.ofString "'") 390, .str (Str.ofString "'") 391⟩,
  ⟨PyData.keyHash P (Str.ofString "\\"), .str (Str.ofString "\\") 392, .str (Str.ofString "\\") 393⟩,
  ⟨PyData.keyHash P (Str.ofString "/"), .str (Str.ofString "/") 394, .str (Str.ofString "/") 395⟩,
  ⟨PyData.keyHash P (Str.ofString "b"), .str (Str.ofString "b") 396, .str (Str.ofString "\x08") 397⟩,
  ⟨PyData.keyHash P (Str.ofString "f"), .str (Str.ofString "f") 398, .str (Str.ofString "\x0c") 399⟩,
  ⟨PyData.keyHash P (Str.ofString "n"), .str (Str.ofString "n") 400, .str (Str.ofString "\n") 401⟩,
  ⟨PyData.keyHash P (Str.ofString "r"), .str (Str.ofString "r") 402, .str (Str.ofString "\x0d") 403⟩,
  ⟨PyData.keyHash P (Str.ofString "t"), .str (Str.ofString "t") 404, .str (Str.ofString "\t") 405⟩]
theorem back_entry (P : Params) : (hd.heap_39 P).lookup 75 = some ⟨.type "dict", none, .dict (backEs P) 9, #[]⟩ := by kernel_rfl
theorem back_keys (P : Params) : KeysLit P (backEs P).toList := by
  show KeysLit P [_, _, _, _, _, _, _, _, _]
  k_keys
theorem back_at {prog : Program} {w : World} {A : Around} {E : Value → Shared → Prop} {s : Shared} {h₀ : Heap} {L : Addr} {m : Str → Option Value} {value slice : Expr} {k v : Nat} {t : Tok} {Q : Value → Shared → Prop} (F : Fr h₀ L s.heap m) (X : (hd.heap_39 w.params).In h₀) (hk : (k, v) ∈ shorts)
    (h : ∀ u, Q (.str ⟨#[v]⟩ u) { s with toks := s.toks + 1 })
    (hs : ∀ x : Str, subscripted slice false (.ref 75) (.str x t) = operate [.ref 75, .str x t] (getItem (.ref 75) (.str x t)) := by intro _; with_unfolding_all rfl) :
    wpAny (model prog w) A (subscriptTail value slice (.ref 75) (.str ⟨#[k]⟩ t)) Q E s := by
  simp only [shorts, List.mem_cons, Prod.mk.injEq, List.not_mem_nil, or_false] at hk
  rcases hk with ⟨rfl, rfl⟩ | ⟨rfl, rfl⟩ | ⟨rfl, rfl⟩ | ⟨rfl, rfl⟩ | ⟨rfl, rfl⟩ | ⟨rfl, rfl⟩ | ⟨rfl, rfl⟩ | ⟨rfl, rfl⟩ | ⟨rfl, rfl⟩
  · exact topItem_K F X (back_entry _) (back_keys _) (v := .str ⟨#[34]⟩ 389) (by kernel_rfl) (h 389) (hs _)
  · exact topItem_K F X (back_entry _) (back_keys _) (v := .str ⟨#[39]⟩ 391) (by kernel_rfl) (h 391) (hs _)
  · exact topItem_K F X (back_entry _) (back_keys _) (v := .str ⟨#[92]⟩ 393) (by kernel_rfl) (h 393) (hs _)
  · exact topItem_K F X (back_entry _) (back_keys _) (v := .str ⟨#[47]⟩ 395) (by kernel_rfl) (h 395) (hs _)
  · exact topItem_K F X (back_entry _) (back_keys _) (v := .str ⟨#[8]⟩ 397) (by kernel_rfl) (h 397) (hs _)
  · exact topItem_K F X (back_entry _) (back_keys _) (v := .str ⟨#[12]⟩ 399) (by kernel_rfl) (h 399) (hs _)
  · exact topItem_K F X (back_entry _) (back_keys _) (v := .str ⟨#[10]⟩ 401) (by kernel_rfl) (h 401) (hs _)
  · exact topItem_K F X (back_entry _) (back_keys _) (v := .str ⟨#[13]⟩ 403) (by kernel_rfl) (h 403) (hs _)
  · exact topItem_K F X (back_entry _) (back_keys _) (v := .str ⟨#[9]⟩ 405) (by kernel_rfl) (h 405) (hs _)
end Mine
end PartS10
section PartS11
open PySem PySem.W PyProof.Rows PySem.Calls
set_option maxRecDepth 100000
namespace Mine
section
variable {prog : Program} {w : World} {A : Around} {E : Value → Shared → Prop} {s : Shared} {h₀ : Heap} {L : Addr} {m : Str → Option Value} {news : List (Addr × Obj)}
def AppAt (x l : Addr) (h : Heap) : Prop := h.get? x = some (appObj l)
theorem app_of {x l : Addr} {h : Heap} (N : News h₀ L h news) (hm : (x, appObj l) ∈ news) : AppAt x l h := N.get hm
theorem callWith_bound {M : Model} {pos : Pos} {u l : Addr} {first : List Value} {args : List (Bool × Sem Value)} {Q : Value → Shared → Prop} (hplain : args.any (·.1) = false)
    (h : wpAny M A (evalArgs (.ref u) true args []) (fun x s₁ => AppAt u l s₁.heap ∧ wpAny M A (call (.ref u) (first ++ x.pos) x.kw) Q E s₁) E s) : wpAny M A (callWith pos (.ref u) first args []) Q E s := by
  unfold callWith
  refine wpAny_bind (wpAny_holding (wpAny_mono h (fun x s₁ h₁ => wpAny_bind (wpAny_standAt ?_)) fun _ _ x => x))
  obtain ⟨ho, hcall⟩ := h₁
  simp only [hplain, List.any_nil, Bool.or_false]
  refine wpAny_bind (m := keeperOf (.ref u)) ?_
  unfold keeperOf
  refine wpAny_bind (wpAny_load ho ?_)
  simp only [appObj, show (Value.type "builtin_function_or_method" != Value.type "method") = true by decide, show (Value.type "builtin_function_or_method" == Value.type "builtin_function_or_method" || Value.type "builtin_function_or_method" == Value.type "method-wrapper") = true by decide, if_true]
  refine wpAny_pure ?_
  exact wpAny_bind (wpAny_mono hcall (fun r s₂ hr => wpAny_bind (wpAny_holding (wpAny_point (wpAny_pure hr)))) fun _ _ x => x)
theorem callWith_app {M : Model} {pos : Pos} {u l : Addr} {first : List Value} {env : Env} {a : Expr} {rest : List Expr} {Q : Value → Shared → Prop} (_N : News h₀ L s.heap news) (_hm : (u, appObj l) ∈ news)
    (h : wpAny M A (spliced (backTo pos (starEach (a :: rest) env))) (fun vs s₁ => AppAt u l s₁.heap ∧ wpAny M A (call (.ref u) (first ++ vs)) Q E s₁) E s)
    (he : starEach (a :: rest) env = (false, eval a env) :: starEach rest env := by rfl) (hplain : (backTo pos (starEach rest env)).any (·.1) = false := by rfl) :
    wpAny M A (callWith pos (.ref u) first (backTo pos (starEach (a :: rest) env)) []) Q E s := by
  rw [he] at h ⊢
  refine callWith_bound (l := l) (by show (false || (backTo pos (starEach rest env)).any (·.1)) = false; rw [hplain]; rfl) ?_
  exact evalArgs_plain h
end
theorem join_flat : ∀ ys : List Str, Str.join (Str.ofString "") ys = ⟨(ys.flatMap (·.cps.toList)).toArray⟩
  | [] => rfl
  | [x] => by
    show x = _
    simp
  | x :: y :: r => by
    show x ++ Str.ofString "" ++ Str.join (Str.ofString "") (y :: r) = _
    rw [join_flat (y :: r)]
    show (⟨x.cps ++ (Str.ofString "").cps ++ _⟩ : Str) = _
    rw [show (Str.ofString "").cps = #[] from by decide +kernel]
    apply congrArg Str.mk
    apply Array.toList_inj.mp
    simp
section
variable {prog : Program} {w : World} {A : Around} {E : Value → Shared → Prop} {s : Shared} {h₀ : Heap} {L : Addr} {m : Str → Option Value} {news : List (Addr × Obj)}
theorem join_all {l : Addr} {its : Array Value} {n : Nat} {ys : List Str} {t : Tok} {Q : Value → Shared → Prop} (N : News h₀ L s.heap news) (hm : (l, listOf its n) ∈ news) (hi : StrsAre its.toList ys) (hs : (ys.map (·.length)).sum ≤ 3000) (hn : ys.length ≤ 3000)
    (h : ∀ t' k, Q (.str (Str.join (Str.ofString "") ys) t') { s with toks := k }) : wpAny (model prog w) A (call (.builtin "str.join") [.str (Str.ofString "") t, .ref l]) Q E s :=
  join_listC (News.isList N hm) hi (by decide) (by omega) fun t k => by rw [show Txt.join (Str.ofString "") ys = Str.join (Str.ofString "") ys from StrLaws.glued_eq_join _ _]; exact h t k
end
section
variable {prog : Program} {w : World} {A : Around} {E : Value → Shared → Prop} {s : Shared} {h₀ : Heap} {L : Addr} {m : Str → Option Value} {news : List (Addr × Obj)}
theorem slice_eq {value slice : Expr} {x y : Str} {t ui uj : Tok} {i j : Int} {Q : Value → Shared → Prop} (hF : Fr h₀ L s.heap m) (hN : News h₀ L s.heap news) (e : Txt.slice x (some i) (some j) = y) (hx : x.length < 1000) (h : ∀ h' t' k, Fr h₀ L h' m → News h₀ L h' news → Q (.str y t') { s with heap := h', toks := k })
    (hs : subscripted slice false (.str x t) (.ref s.heap.objs.size) = operate [.ref s.heap.objs.size, .str x t] (getItem (.str x t) (.ref s.heap.objs.size)) := by with_unfolding_all rfl)
    (ht : ∀ r, letTemporaryGo value (.str x t) r = pure () := by intro _; with_unfolding_all rfl) :
    wpAny (model prog w) A (subscriptTail value slice (.str x t) (.ref s.heap.objs.size)) Q E { s with heap := s.heap.push { cls := .type "slice", data := .fields #[.int i ui, .int j uj, .none] } } := by
  subst e
  exact slice_strN_ss hF hN h hs ht (by rw [sizeLine_eq]; omega)
end
theorem ite_t {b : Bool} {P Q : Prop} (h : b = true) (p : P) : if b = true then P else Q := by rw [if_pos h]; exact p
theorem ite_f {b : Bool} {P Q : Prop} (h : b = false) (p : Q) : if b = true then P else Q := by rw [if_neg (by rw [h]; decide)]; exact p
theorem ite_nt {b : Bool} {P Q : Prop} (h : b = false) (p : P) : if (!b) = true then P else Q := by rw [if_pos (by rw [h]; rfl)]; exact p
theorem ite_nf {b : Bool} {P Q : Prop} (h : b = true) (p : Q) : if (!b) = true then P else Q := by rw [if_neg (by rw [h]; decide)]; exact p
theorem ite_bt {α : Type} [BEq α] {x y : α} {P Q : Prop} (h : (x == y) = false) (p : P) : if (x != y) = true then P else Q := by rw [if_pos (by unfold bne; rw [h]; rfl)]; exact p
theorem ite_bf {α : Type} [BEq α] {x y : α} {P Q : Prop} (h : (x == y) = true) (p : Q) : if (x != y) = true then P else Q := by rw [if_neg (by unfold bne; rw [h]; decide)]; exact p
theorem seg_none {D : Str} {i j : Nat} (h : (⟨D.cps.extract i j⟩ : Str).length = 0) : seg D i j = [] := by
  unfold Str.length at h
  unfold seg
  dsimp only at h
  rw [Array.size_eq_zero_iff.mp h]
theorem flat_one (ys : List Str) (z : Str) : (ys ++ [z]).flatMap (fun x => x.cps.toList) = ys.flatMap (fun x => x.cps.toList) ++ z.cps.toList := by
  rw [List.flatMap_append]
  show _ ++ (_ ++ []) = _
  rw [List.append_nil]
theorem flat_push (ys : List Str) (D : Str) (i j : Nat) : (ys ++ [(⟨D.cps.extract i j⟩ : Str)]).flatMap (fun x => x.cps.toList) = ys.flatMap (fun x => x.cps.toList) ++ seg D i j := flat_one ys _
theorem cat_two {ys : List Str} {D z : Str} {i j c : Nat} {t' t : List Nat} (h : ys.flatMap (fun x => x.cps.toList) ++ (seg D i j ++ c :: t') = t) (hz : z.cps.toList = [c]) :
    (ys ++ [(⟨D.cps.extract i j⟩ : Str)] ++ [z]).flatMap (fun x => x.cps.toList) ++ t' = t := by
  rw [flat_one, flat_push, hz, ← h]
  simp
theorem cat_one {ys : List Str} {D z : Str} {i j c : Nat} {t' t : List Nat} (h : ys.flatMap (fun x => x.cps.toList) ++ (seg D i j ++ c :: t') = t) (hl : (⟨D.cps.extract i j⟩ : Str).length = 0) (hz : z.cps.toList = [c]) :
    (ys ++ [z]).flatMap (fun x => x.cps.toList) ++ t' = t := by
  rw [flat_one, hz, ← h, seg_none hl]
  simp
theorem sum_two {ys : List Str} {D z : Str} {i j k : Nat} (h : (ys.map (·.length)).sum ≤ i) (hz : z.cps.toList.length = 1) (hi : i ≤ j) (hk : j < k) : ((ys ++ [(⟨D.cps.extract i j⟩ : Str)] ++ [z]).map (·.length)).sum ≤ k := by
  have e : z.length = 1 := by simpa [Str.length] using hz
  have c := cut_le D i j
  simp only [List.map_append, List.sum_append, List.map_cons, List.map_nil, List.sum_cons, List.sum_nil, e]
  omega
theorem sum_one {ys : List Str} {z : Str} {i j k : Nat} (h : (ys.map (·.length)).sum ≤ i) (hz : z.cps.toList.length = 1) (hi : i ≤ j) (hk : j < k) : ((ys ++ [z]).map (·.length)).sum ≤ k := by
  have e : z.length = 1 := by simpa [Str.length] using hz
  simp only [List.map_append, List.sum_append, List.map_cons, List.map_nil, List.sum_cons, List.sum_nil, e]
  omega
end Mine
end PartS11
section PartC5
open PySem PySem.W PyProof.Rows
namespace Mine
local macro_rules | `(tactic| cell_enter) => `(tactic| (refine' code_def ?k1 ?k2 ?k3 ?k4 ?k5 ?kA ?kF ?kK ?k6 ?k7 ?k8 ?k9 ?kB ?_ ?c2 ?c3 ?c4 ?c5; (case kA => exact rfl); (case kF => exact rfl); (case kK => assumption); (case k1 => k_asm); (case k2 => k_asm); (case k3 => k_asm); (case k4 => k_asm); (case k5 => k_asm); (case k6 => k_is); (case k7 => k_is); (case k8 => first | ktr_room | (dsimp only; omega)); (case k9 => first | exact BindsTo.of_eq rfl | exact binds_K (by k_in) rfl (by k_is) rfl rfl rfl); (case c5 => decide); (case kB => exact locs rfl); (case c2 => exact rfl); (case c3 => exact rfl); (case c4 => exact rfl); k_whole; intro g' L' h' FG' F' N' B' X' T'; (try dsimp only); (try k_lift B'); (try k_fold)))
local macro_rules | `(tactic| walk_at "getAttr ref") => `(tactic| (k_here; (with_reducible show wpAny _ _ (getAttr (Value.ref _) (Str.ofString "append") true) _ _ _); k_dflt (refine' append_taken ?F ?N ?hm ?_; (case F => k_asm); (case N => k_asm); (case hm => k_mem); k_whole); intro q' h' tk' F' N' l1; (try k_lt l1)))
local macro_rules | `(tactic| walk_at "exec While") => `(tactic| (k_here; k_dflt (refine' scan_loop ?hS ?F ?N ?he ?_; (case hS => assumption); (case F => k_asm); (case N => k_asm); (case he => exact rfl); k_whole)))
theorem fits_small {k : Int} (h1 : 0 ≤ k) (h2 : k < 1000000) : fitsSsize k = true := fitsSsize_of (N := 1000000) (by omega) h2 (by omega)
theorem strs_app {vs : List Value} {ys : List Str} {z : Str} {t : Tok} (h : StrsAre vs ys) : StrsAre (vs ++ [.str z t]) (ys ++ [z]) := by
  induction h with
  | nil => exact .cons _ _ .nil
  | cons y t _ ih => exact .cons y t ih
theorem strs_push {its : Array Value} {ys : List Str} {z : Str} {t : Tok} (h : StrsAre its.toList ys) : StrsAre (its.push (.str z t)).toList (ys ++ [z]) := by
  rw [Array.toList_push]
  exact strs_app h
theorem item_eq {prog : Program} {w : World} {A : Around} {E : Value → Shared → Prop} {s : Shared} {value slice : Expr} {x y : Str} {t u : Tok} {k : Int} {Q : Value → Shared → Prop} (e : Txt.item x k = y) (h1 : 0 ≤ k) (h2 : k < (x.length : Int)) (h3 : x.length < 1000000)
    (h : Q (.str y s.toks) { s with toks := s.toks + 1 })
    (hs : subscripted slice false (.str x t) (.int k u) = operate [.str x t, .int k u] (getItem (.str x t) (.int k u)) := by with_unfolding_all rfl)
    (ht : ∀ r, letTemporaryGo value (.str x t) r = pure () := by intro _; with_unfolding_all rfl) :
    wpAny (model prog w) A (subscriptTail value slice (.str x t) (.int k u)) Q E s := by
  subst e
  exact item_str (fits_small h1 (by omega)) (by omega) h2 (fun _ => h) hs ht
local macro_rules | `(tactic| walk_at "subscriptTail Name Name str int") => `(tactic| (refine item_eq (by assumption) (by omega) (by omega) (by omega) ?_))
local macro_rules | `(tactic| walk_at "getMethod ref") => `(tactic| (k_here; (with_reducible show wpAny _ _ (getMethod (Value.ref 74) (Str.ofString "match") _) _ _ _); k_dflt (refine' pat_method ?F ?X (pat_entry _) ?_; (case F => k_asm); (case X => k_asm); k_whole)))
local macro_rules | `(tactic| walk_at "getMethod ref") => `(tactic| (k_here; (with_reducible show wpAny _ _ (getMethod (Value.ref _) (Str.ofString "end") _) _ _ _); k_dflt (refine' found_method_end ?N ?hm ?_; (case N => k_asm); (case hm => k_mem); k_whole)))
local macro_rules | `(tactic| walk_at "getMethod ref") => `(tactic| (k_here; (with_reducible show wpAny _ _ (getMethod (Value.ref _) (Str.ofString "groups") _) _ _ _); k_dflt (refine' found_method_groups ?N ?hm ?_; (case N => k_asm); (case hm => k_mem); k_whole)))
local macro_rules | `(tactic| walk_at "call builtin:re.Pattern.match") => `(tactic| (k_here; first
  | (k_dflt (refine' pat_found ?F ?X ?N ?hx ?hu ?hs ?_; (case F => k_asm); (case X => k_asm); (case N => k_asm); (case hx => assumption); (case hu => assumption); (case hs => assumption); k_whole); intro T' o' h' F' N' l1 l2; (try k_lt l1))
  | (k_dflt (refine' pat_lost ?F ?X ?hx ?hi ?hn ?_; (case F => k_asm); (case X => k_asm); (case hx => assumption); (case hi => assumption); (case hn => assumption); k_whole))))
local macro_rules | `(tactic| walk_at "call builtin:re.Match.end") => `(tactic| (k_here; k_dflt (refine' found_end ?N ?hm ?hT ?_; (case N => k_asm); (case hm => k_mem); (case hT => k_mem); k_whole)))
local macro_rules | `(tactic| walk_at "call builtin:re.Match.groups") => `(tactic| (k_here; k_dflt (refine' found_groups2 ?F ?N ?hm ?hT ?hx ?e ?_; (case F => k_asm); (case N => k_asm); (case hm => k_mem); (case hT => k_mem); (case hx => assumption); (case e => assumption); k_whole); intro G' t1' t2' h' tk' F' N' l1; (try k_lt l1)))
local macro_rules | `(tactic| walk_at "call ref") => `(tactic| (k_here; (with_reducible show wpAny _ _ (call (Value.ref 51) [Value.str _ _, Value.str _ _, Value.int _ _] []) _ _ _); k_dflt (refine' makeC _ _ _ _ _ _ _ ?h1 ?h2 ?hD ?hX ?hc _ _ _ _ _ _ _ _ _ _ _ _ _ _ _ _ _ ?B ?F ?X ?N ?T ?K ?d ?u ?t ?_; (case h1 => omega); (case h2 => omega); (case hD => omega); (case hX => decide); (case hc => assumption); (case B => k_asm); (case F => k_asm); (case X => k_asm); (case N => k_asm); (case T => k_asm); (case K => exact rfl); (case d => (simp only [depth_under_make, depth_under_kw, depth_in1, depth_deeper, depth_caller]; omega)); (case u => (simp only [units_in1, units_deeper, Around.mark_units, units_caller]; omega)); (case t => (dsimp only; omega)); k_whole); intro e' T2' dd' es' n' h' tk' hpos' F' N' l1x))
local macro_rules | `(tactic| walk_at "exec Raise some none") => `(tactic| (k_here; k_dflt (refine Raise_X rfl ?_)))
local macro_rules | `(tactic| walk_at "RaisableX") => `(tactic| (k_here; k_dflt (refine' raisable_X ?F ?X ?N ?hm ?_; (case F => k_asm); (case X => k_asm); (case N => k_asm); (case hm => k_mem); k_whole)))
local macro_rules | `(tactic| walk_at "leaving ref") => `(tactic| (k_here; k_dflt (refine' leave_raiseX ?K ?F ?N ?ne ?h1 ?_ ?hk; (case K => k_asm); (case F => k_asm); (case N => k_asm); (case ne => assumption); (case h1 => exact rfl); (case hk => exact rfl); k_whole); intro h' R' U'; (try dsimp only at R' U')))
local macro_rules | `(tactic| walk_at "truthy str") => `(tactic| (k_here; (with_reducible show wpAny _ _ (PySem.truthy (Value.str (Str.mk (Array.extract _ _ _)) _)) _ _ _); k_dflt (refine' truthy_cut ?hx ?_ ?_; (case hx => assumption)); all_goals (intro hlen)))
local macro_rules | `(tactic| walk_at "ite") => `(tactic| with_reducible (first | (refine ite_t (by assumption) ?_) | (refine ite_f (by assumption) ?_) | (refine ite_nt (by assumption) ?_) | (refine ite_nf (by assumption) ?_) | (refine ite_bt (by assumption) ?_) | (refine ite_bf (by assumption) ?_)))
local macro_rules | `(tactic| walk_at "callWith ref") => `(tactic| (k_here; (with_reducible show wpAny _ _ (callWith _ (Value.ref _) _ (backTo _ (starEach (_ :: _) _)) []) _ _ _); k_dflt (refine' callWith_app ?N ?M ?_; (case N => k_asm); (case M => k_mem); k_whole)))
local macro_rules | `(tactic| walk_at "And") => `(tactic| ((with_reducible show AppAt _ _ _ ∧ _); k_dflt (refine ⟨app_of (by k_asm) (by k_mem), ?_⟩); (try dsimp only [List.nil_append, List.cons_append])))
local macro_rules | `(tactic| walk_at "call ref") => `(tactic| (k_here; (with_reducible show wpAny _ _ (call (Value.ref _) [Value.str _ _] []) _ _ _); k_dflt (refine' appended ?F ?N ?hm ?U ?_ ?hsz; (case F => k_asm); (case N => k_asm); (case hm => k_mem); (case U => k_upd); (case hsz => first | omega | (simp only [Array.size_push]; omega)); k_whole); intro h' F' N'; (try dsimp only at N')))
local macro_rules | `(tactic| walk_at "call builtin:str.join") => `(tactic| (k_here; k_dflt (refine' join_all ?N ?hm ?hi ?hs ?hn ?_; (case N => k_asm); (case hm => k_mem); (case hi => first | assumption | exact strs_push (by assumption)); (case hs => first | omega | (simp only [List.map_append, List.sum_append, List.map_cons, List.map_nil, List.sum_cons, List.sum_nil]; omega)); (case hn => first | omega | (simp only [List.length_append, List.length_cons, List.length_nil]; omega)); k_whole); intro _ _))
local macro_rules | `(tactic| walk_at "subscriptTail") => `(tactic| (k_here; (with_reducible show wpAny _ _ (subscriptTail _ _ (Value.ref 75) (Value.str _ _)) _ _ _); k_dflt (refine' back_at ?F ?X ?hk ?_; (case F => k_asm); (case X => k_asm); (case hk => assumption); k_whole); intro u'))
local macro_rules | `(tactic| walk_at "subscriptTail Name Slice str ref") => `(tactic| ((with_reducible show wpAny _ _ (subscriptTail _ (Expr.Slice (some _) (some _) none _) _ _) _ _ _); (with_reducible rename Fr _ _ _ _ => F'); (with_reducible rename News _ _ _ _ => N'); (refine' slice_eq (s := ⟨_, _, _, _, _⟩) F' N' ?e ?hx ?_; (case e => assumption); (case hx => assumption)); intro h' t' k F' N'))
local macro_rules | `(tactic| walk_at "call type:int") => `(tactic| (refine int_hex (by assumption) ?_))
theorem and_eq {prog : Program} {w : World} {A : Around} {E : Value → Shared → Prop} {s : Shared} {a b r : Int} {t u : Tok} {Q : Value → Shared → Prop} (e : Builtin.bitAnd a b = r) (h : Q (.int r s.toks) { s with toks := s.toks + 1 }) : wpAny (model prog w) A (binaryOp .BitAnd (.int a t) (.int b u)) Q E s := by
  subst e
  exact and_int h
local macro_rules | `(tactic| walk_at "binaryOp BitAnd int int") => `(tactic| with_reducible (refine and_eq (by assumption) ?_))
theorem or_eq {prog : Program} {w : World} {A : Around} {E : Value → Shared → Prop} {s : Shared} {a b r : Int} {t u : Tok} {Q : Value → Shared → Prop} (e : Builtin.bitOr a b = r) (h : Q (.int r s.toks) { s with toks := s.toks + 1 }) : wpAny (model prog w) A (binaryOp .BitOr (.int a t) (.int b u)) Q E s := by
  subst e
  exact or_int h
theorem shl_eq {prog : Program} {w : World} {A : Around} {E : Value → Shared → Prop} {s : Shared} {a r : Int} {t u : Tok} {Q : Value → Shared → Prop} (ha : a.natAbs < 2 ^ 64) (e : a * 2 ^ (10 : Int).toNat = r) (h : Q (.int r s.toks) { s with toks := s.toks + 1 }) : wpAny (model prog w) A (binaryOp .LShift (.int a t) (.int 10 u)) Q E s := by
  subst e
  exact lshift_int_small (by decide) (by decide) ha h
theorem chr_eq {prog : Program} {w : World} {A : Around} {E : Value → Shared → Prop} {s : Shared} {i : Int} {x : Nat} {t : Tok} {Q : Value → Shared → Prop} (e : i = (x : Int)) (hx : x ≤ 1114111) (h : Q (.str ⟨#[x]⟩ s.toks) { s with toks := s.toks + 1 }) : wpAny (model prog w) A (call (.builtin "chr") [.int i t]) Q E s := by
  subst e
  exact chr_of_range (by omega) (by omega) h
local macro_rules | `(tactic| walk_at "binaryOp BitOr int int") => `(tactic| with_reducible (refine or_eq (by assumption) ?_))
local macro_rules | `(tactic| walk_at "binaryOp LShift int int") => `(tactic| with_reducible (refine shl_eq (by assumption) (by assumption) ?_))
local macro_rules | `(tactic| walk_at "call builtin:chr") => `(tactic| with_reducible (refine chr_eq (by assumption) (by assumption) ?_))
theorem RaisedX.sub {base : Heap} {l : List Env} {e dd : Addr} {c : Value} {news news' : List (Addr × Obj)} {h : Heap} (R : RaisedX base l e dd c news h) (hs : ∀ q ∈ news', q ∈ news) : RaisedX base l e dd c news' h := by
  obtain ⟨B, a, b, c⟩ := R
  exact ⟨B, a, fun q hq => b q (hs q hq), c⟩
theorem RaisedX.keep1 {base : Heap} {l : List Env} {e dd : Addr} {c : Value} {x : Addr × Obj} {news news' : List (Addr × Obj)} {h : Heap} (R : RaisedX base l e dd c (x :: news) h) (hs : ∀ q ∈ news', q ∈ news) : RaisedX base l e dd c (x :: news') h :=
  R.sub fun q hq => by
    rcases List.mem_cons.mp hq with rfl | hq
    · exact .head _
    · exact .tail _ (hs q hq)
theorem done_news {h₀ h : Heap} {L G : Addr} {Z Z' : Str} {P P' : Int} {t1 t2 : Tok} {l news : Led} (N : News h₀ L h ((G, { cls := .type "tuple", data := .seq #[.str Z t1, .int P t2] }) :: l)) (e : Z = Z') (e2 : P = P') (hs : ∀ q ∈ news, q ∈ l) :
    News h₀ L h ((G, { cls := .type "tuple", data := .seq #[.str Z' t1, .int P' t2] }) :: news) := fun q hq => by
  subst e e2
  rcases List.mem_cons.mp hq with rfl | hq
  · exact N _ (.head _)
  · exact N _ (.tail _ (hs q hq))
local macro_rules | `(tactic| walk_at "KswEnd") => `(tactic| ((rename Fr _ _ _ _ => fE); (rename News _ _ _ _ => nE); k_dflt (refine' scan_next fE nE ?r ?k ?hi ?a ?b ?rs ?hr ?hY ?hc ?hs ?hl ?hm ?hd; (case r => assumption); (case k => exact rfl); (case hi => omega); (case a => k_mem); (case b => k_mem); (case rs => (intro p hp; repeat (first | exact hp | refine List.mem_cons_of_mem _ ?_))); (case hr => (intro z h2 h3; (simp only [scanStored, List.contains_cons, List.contains_nil, Bool.or_false, Bool.or_eq_false_iff, beq_eq_false_iff_ne, ne_eq] at h2 h3); (simp [kstB, h2, h3]))); (case hY => first | assumption | exact strs_push (by assumption) | exact strs_push (strs_push (by assumption))); (case hc => first | exact cat_two (by assumption) (by first | rfl | decide) | exact cat_one (by assumption) (by assumption) (by first | rfl | decide)); (case hs => first | exact sum_two (by assumption) (by first | rfl | decide) (by omega) (by omega) | exact sum_one (by assumption) (by first | rfl | decide) (by omega) (by omega)); (case hl => (simp only [List.length_append, List.length_cons, List.length_nil]; omega)); (case hm => omega); (case hd => omega))))
abbrev RaisesAt (base : Heap) (es0 : List Env) (h₀ : Heap) (L : Addr) (m : Str → Option Value) (news : Led) (s : Shared) (E : Value → Shared → Prop) (P : Int) : Prop :=
  ∀ (e dd : Addr) (es : List DictEntry) (n : Nat) (pt : Tok) (h' g : Heap) (tk' : Nat), Fr h₀ L g m → RaisedX base es0 e dd (.ref 51) ((dd, dictOf es n) :: news) h' → g.UpToSlots h' → getL (Str.ofString "pos") es = some (some (.int P pt)) → E (.ref e) { s with heap := h', toks := tk' }
set_option maxHeartbeats 4000000 in
set_option maxRecDepth 100000 in
theorem scanC {w : World} {mean : ExcName → Option Value} {mg mb : Str → Option Value} (D : Str) (dt : Tok) (i : Nat) (et : Tok) (strict : Bool) (q : Nat) (t : List Nat) (o : End) (h1 : 1 ≤ i) (h2 : i ≤ D.length) (hD : D.length < 1000) (Y : Str) (hq : Txt.item D ((i : Int) - 1) = Y) (hq2 : Y = ⟨#[q]⟩) (hq3 : q = 34 ∨ q = 39)
    (hS : Scan D q strict i t o) (hc : ∀ c ∈ D.cps.toList, c < 16 ^ 8)
    (dp un : Nat) (gd : Option (List Code)) (cn : Str) (cs : Scope) (a : Addr) (ccd : Value) (cl : List (Str × Addr)) (outer : List Env) (A₀ : Around) (base h₀ : Heap) (L : Addr) (m : Str → Option Value) (news : Led) (s : Shared) (Q E : Value → Shared → Prop)
    (B : Below A₀ base outer h₀) (F : Fr h₀ L s.heap m) (X₀ : (hd.heap_39 w.params).In h₀) (N : News h₀ L s.heap news) (TT : Top hd.view_39 loos mean mg mb h₀) (hk : cs.kind = .function)
    (hd : dp + 8 < recursionLimit) (hu : un + 8 * 8 < cLine) (ht : 1 ≤ s.toks)
    (hdone : ∀ p, o = .done p → ∀ G t1 t2 h' tk', Fr h₀ L h' m → News h₀ L h' ((G, { cls := .type "tuple", data := .seq #[.str ⟨t.toArray⟩ t1, .int p t2] }) :: news) → Q (.ref G) { s with heap := h', toks := tk' })
    (hopen : o = .unterminated → RaisesAt base (envX cn cs L a ccd cl :: outer) h₀ L m news s E ((i : Int) - 1))
    (hbad : ∀ p, o = .bad p → RaisesAt base (envX cn cs L a ccd cl :: outer) h₀ L m news s E (p : Int)) :
    wpAny (model PySem.Challenge.rw_ew0007_01.row.prog w) (ktrTop dp un gd cn cs L a ccd cl outer) (call (.ref 83) [.str D dt, .int i et, .none, .bool strict]) Q E s := by
  revert X₀
  k_fill
  intro X₀
  refine wpAny_call ?_
  k_dflt cell_enter
  k_steps
  intro c u h tk hP Fk Nk
  clear hS
  obtain ⟨p, pt, its, n⟩ := c
  obtain ⟨i', t', ys, hp, hS', hY, hcat, hz1, hz2⟩ := hP
  dsimp only at hp hY
  subst hp
  dsimp only [scanLed, scanPs, scanStored] at Fk Nk ⊢
  have hle := hS'.le
  have hsz : its.size + 5 ≤ sizeLine := by
    have := hY.length
    rw [sizeLine_eq]
    simp only [Array.length_toList] at this
    omega
  cases hS' with
  | miss hi hno => 
    k_steps
    rename RaisedX _ _ _ _ _ _ _ => R
    rename Heap.UpToSlots _ _ => U
    rename getL _ _ = _ => hpos
    refine hopen rfl _ _ _ _ _ _ _ _ (by assumption) (R.keep1 ?_) U hpos
    intro p hp
    repeat (first | exact hp | refine List.mem_cons_of_mem _ ?_)
  | @close _ j u hc =>
    have hcl := cut_le D i' j
    have hj1 := u.le
    have hj2 := u.lt
    have hYY : (Y == Y) = true := beq_self_eq_true _
    have hT := (ext_one u.lt).trans ((congrArg (fun c => (⟨#[c]⟩ : Str)) hc).trans hq2.symm)
    have hs : spc (D.cps.getD j 0) = true := by rw [hc]; rcases hq3 with rfl | rfl <;> decide
    k_steps
    all_goals
      rename Fr _ _ _ _ => fE
      rename News _ _ _ _ => nE
      refine hdone _ rfl _ _ _ _ _ fE (done_news nE ?_ (by omega) ?_)
    · rw [join_flat, flat_push, hcat]
    · intro p hp
      repeat (first | exact hp | refine List.mem_cons_of_mem _ ?_)
    · rename Str.length _ = 0 => hlen
      rw [join_flat, ← hcat, seg_none hlen, List.append_nil]
    · intro p hp
      repeat (first | exact hp | refine List.mem_cons_of_mem _ ?_)
  | @quote _ j c t' _ u hc h1 h2 r =>
    have hcl := cut_le D i' j
    have hj1 := u.le
    have hj2 := u.lt
    have hs : spc (D.cps.getD j 0) = true := by rw [hc]; rcases h1 with rfl | rfl <;> decide
    have hYF : ((⟨#[c]⟩ : Str) == Y) = false := by
      rw [hq2]
      exact one_ne h2
    rcases h1 with rfl | rfl
    · have hT : (⟨D.cps.extract j (j + 1)⟩ : Str) = Str.ofString "\"" := (ext_one u.lt).trans ((congrArg (fun c => (⟨#[c]⟩ : Str)) hc).trans rfl)
      replace hYF : (Str.ofString "\"" == Y) = false := hYF
      k_steps
    · have hT : (⟨D.cps.extract j (j + 1)⟩ : Str) = Str.ofString "'" := (ext_one u.lt).trans ((congrArg (fun c => (⟨#[c]⟩ : Str)) hc).trans rfl)
      replace hYF : (Str.ofString "'" == Y) = false := hYF
      k_steps
  | @ctrl _ j c t' _ u hc h1 h2 r =>
    subst h2
    have hcl := cut_le D i' j
    have hj1 := u.le
    have hj2 := u.lt
    have hs : spc (D.cps.getD j 0) = true := by rw [hc]; exact spc_ctrl h1
    have hYF : ((⟨#[c]⟩ : Str) == Y) = false := by
      rw [hq2]
      exact one_ne (by omega)
    have hF1 : ((⟨#[c]⟩ : Str) == Str.ofString "\"") = false := one_ne (q := 34) (by omega)
    have hF2 : ((⟨#[c]⟩ : Str) == Str.ofString "'") = false := one_ne (q := 39) (by omega)
    have hF3 : ((⟨#[c]⟩ : Str) == Str.ofString "\\") = false := one_ne (q := 92) (by omega)
    have hT : (⟨D.cps.extract j (j + 1)⟩ : Str) = ⟨#[c]⟩ := (ext_one u.lt).trans (congrArg (fun c => (⟨#[c]⟩ : Str)) hc)
    k_steps
  | @bad _ j c u hc h1 h2 =>
    subst h2
    have hcl := cut_le D i' j
    have hj1 := u.le
    have hj2 := u.lt
    have hs : spc (D.cps.getD j 0) = true := by rw [hc]; exact spc_ctrl h1
    have hYF : ((⟨#[c]⟩ : Str) == Y) = false := by
      rw [hq2]
      exact one_ne (by omega)
    have hF1 : ((⟨#[c]⟩ : Str) == Str.ofString "\"") = false := one_ne (q := 34) (by omega)
    have hF2 : ((⟨#[c]⟩ : Str) == Str.ofString "'") = false := one_ne (q := 39) (by omega)
    have hF3 : ((⟨#[c]⟩ : Str) == Str.ofString "\\") = false := one_ne (q := 92) (by omega)
    have hT : (⟨D.cps.extract j (j + 1)⟩ : Str) = ⟨#[c]⟩ := (ext_one u.lt).trans (congrArg (fun c => (⟨#[c]⟩ : Str)) hc)
    k_steps
    all_goals
      rename RaisedX _ _ _ _ _ _ _ => R
      rename Heap.UpToSlots _ _ => U
      rename getL _ _ = _ => hpos
      refine hbad _ rfl _ _ _ _ _ _ _ _ (by assumption) (R.keep1 ?_) U hpos
      intro p hp
      repeat (first | exact hp | refine List.mem_cons_of_mem _ ?_)
  | @short _ j k v t' _ u hc hl hk h1 r =>
    have hcl := cut_le D i' j
    have hj1 := u.le
    have hj2 := u.lt
    have hs : spc (D.cps.getD j 0) = true := by rw [hc]; decide
    have hYF : (Str.ofString "\\" == Y) = false := by
      rw [hq2]
      exact one_ne (c := 92) (by omega)
    have hT : (⟨D.cps.extract j (j + 1)⟩ : Str) = Str.ofString "\\" := (ext_one u.lt).trans ((congrArg (fun c => (⟨#[c]⟩ : Str)) hc).trans rfl)
    have hE : Txt.item D ((j : Int) + 1) = ⟨#[k]⟩ := item_at hl hk
    have hU : ((⟨#[k]⟩ : Str) == Str.ofString "u") = false := one_ne (q := 117) (short_ne h1)
    k_steps
  | @hex _ j v up t' _ u hc hl hk hx h1 h2 r =>
    have hcl := cut_le D i' j
    have hj1 := u.le
    have hj2 := u.lt
    have hs : spc (D.cps.getD j 0) = true := by rw [hc]; decide
    have hYF : (Str.ofString "\\" == Y) = false := by
      rw [hq2]
      exact one_ne (c := 92) (by omega)
    have hT : (⟨D.cps.extract j (j + 1)⟩ : Str) = Str.ofString "\\" := (ext_one u.lt).trans ((congrArg (fun c => (⟨#[c]⟩ : Str)) hc).trans rfl)
    have hE : Txt.item D ((j : Int) + 1) = Str.ofString "u" := (item_at (by omega) hk).trans rfl
    have hS1 : Txt.slice D (some ((j : Int) + 1 + 1)) (some ((j : Int) + 1 + 5)) = hexT up v := hex_slice hx (by omega) (by omega) (by omega) (by omega)
    have hS2 := hexT_x up v
    have hS3 : (hexT up v).length < 1000 := by rw [hexT_len]; omega
    have hS4 := hexT_len up v
    have hX1 : ((⟨#[dig up (v / 256 % 16)]⟩ : Str) == Str.ofString "x") = false := dig_ne up _ 120 (Nat.mod_lt _ (by omega)) (.inl rfl)
    have hX2 : ((⟨#[dig up (v / 256 % 16)]⟩ : Str) == Str.ofString "X") = false := dig_ne up _ 88 (Nat.mod_lt _ (by omega)) (.inr rfl)
    obtain ⟨rr, hB, hr⟩ : ∃ r : Int, Builtin.bitAnd (v : Int) 64512 = r ∧ r ≠ 55296 := ⟨_, rfl, hex_and h1 h2⟩
    have hv := hex_lt h1
    have hS5 : (((hexT up v).length : Int) == 4) = true := rfl
    have hr1 : (rr == 55296) = false := beq_eq_false_iff_ne.mpr hr
    k_steps
  | @pair _ j v v2 x up t' _ u hc hl hk hx hm hx2 h1 r =>
    have hcl := cut_le D i' j
    have hj1 := u.le
    have hj2 := u.lt
    have hs : spc (D.cps.getD j 0) = true := by rw [hc]; decide
    have hYF : (Str.ofString "\\" == Y) = false := by
      rw [hq2]
      exact one_ne (c := 92) (by omega)
    have hT : (⟨D.cps.extract j (j + 1)⟩ : Str) = Str.ofString "\\" := (ext_one u.lt).trans ((congrArg (fun c => (⟨#[c]⟩ : Str)) hc).trans rfl)
    have hE : Txt.item D ((j : Int) + 1) = Str.ofString "u" := (item_at (by omega) hk).trans rfl
    have hS1 : Txt.slice D (some ((j : Int) + 1 + 1)) (some ((j : Int) + 1 + 5)) = hexT up v := hex_slice hx (by omega) (by omega) (by omega) (by omega)
    have hS2 := hexT_x up v
    have hS3 : (hexT up v).length < 1000 := by rw [hexT_len]; omega
    have hS5 : (((hexT up v).length : Int) == 4) = true := rfl
    have hX1 : ((⟨#[dig up (v / 256 % 16)]⟩ : Str) == Str.ofString "x") = false := dig_ne up _ 120 (Nat.mod_lt _ (by omega)) (.inl rfl)
    have hX2 : ((⟨#[dig up (v / 256 % 16)]⟩ : Str) == Str.ofString "X") = false := dig_ne up _ 88 (Nat.mod_lt _ (by omega)) (.inr rfl)
    have hM : Txt.slice D (some ((j : Int) + 1 + 5)) (some ((j : Int) + 1 + 5 + 2)) = Str.ofString "\\u" := by
      rw [slice_seg (a := j + 6) (b := j + 8) (by omega) (by omega) (by omega) (by omega), hm]
      decide
    have gS1 : Txt.slice D (some ((j : Int) + 1 + 5 + 2)) (some ((j : Int) + 1 + 5 + 6)) = hexT up v2 := hex_slice hx2 (by omega) (by omega) (by omega) (by omega)
    have gS2 := hexT_x up v2
    have gS3 : (hexT up v2).length < 1000 := by rw [hexT_len]; omega
    have gS5 : (((hexT up v2).length : Int) == 4) = true := rfl
    have gX1 : ((⟨#[dig up (v2 / 256 % 16)]⟩ : Str) == Str.ofString "x") = false := dig_ne up _ 120 (Nat.mod_lt _ (by omega)) (.inl rfl)
    have gX2 : ((⟨#[dig up (v2 / 256 % 16)]⟩ : Str) == Str.ofString "X") = false := dig_ne up _ 88 (Nat.mod_lt _ (by omega)) (.inr rfl)
    obtain ⟨m1, m2, a1, a2, ha, hxl, hxx⟩ := pair_facts h1
    generalize e1 : ((v : Int) - 55296) * 2 ^ (10 : Int).toNat = R1 at hxx
    generalize e2 : Builtin.bitOr R1 ((v2 : Int) - 56320) = R2 at hxx
    k_steps
end Mine
end PartC5
section PartS12
open PySem PySem.W PyProof.Rows
set_option maxRecDepth 100000
namespace Mine
theorem fits_one {k : Int} (h1 : 0 ≤ k) (h2 : k < 1000000) : fitsSsize k = true := fitsSsize_of (N := 1000000) (by omega) h2 (by omega)
structure ItemAt (x : Str) (k : Int) (y : Str) : Prop where
  eq : Txt.item x k = y
  lo : 0 ≤ k
  hi : k < (x.length : Int)
theorem item_in {prog : Program} {w : World} {A : Around} {E : Value → Shared → Prop} {s : Shared} {value slice : Expr} {x y : Str} {t u : Tok} {k : Int} {Q : Value → Shared → Prop} (e : ItemAt x k y) (h3 : x.length < 1000000)
    (h : Q (.str y s.toks) { s with toks := s.toks + 1 })
    (hs : subscripted slice false (.str x t) (.int k u) = operate [.str x t, .int k u] (getItem (.str x t) (.int k u)) := by with_unfolding_all rfl)
    (ht : ∀ r, letTemporaryGo value (.str x t) r = pure () := by intro _; with_unfolding_all rfl) :
    wpAny (model prog w) A (subscriptTail value slice (.str x t) (.int k u)) Q E s := by
  obtain ⟨rfl, h1, h2⟩ := e
  exact item_str (fits_one h1 (by omega)) (by omega) h2 (fun _ => h) hs ht
def digs (up : Bool) : Str := if up then Str.ofString "0123456789ABCDEF" else Str.ofString "0123456789abcdef"
theorem digs_len (up : Bool) : (digs up).length = 16 := by cases up <;> decide
theorem digs_at (up : Bool) {d : Nat} (hd : d < 16) {K : Int} (hK : K = d) : ItemAt (digs up) K ⟨#[dig up d]⟩ := by
  subst hK
  refine ⟨?_, by omega, by rw [digs_len]; omega⟩
  have : ∀ d : Fin 16, Txt.item (digs up) (d.1 : Int) = ⟨#[dig up d.1]⟩ := by cases up <;> decide
  exact this ⟨d, hd⟩
def hexU (up : Bool) (v : Nat) : List Nat := 92 :: 117 :: hex4 up v
theorem hexU_eq (up : Bool) (v : Nat) : (Str.ofString "\\u" ++ ⟨#[dig up (v / 4096)]⟩ ++ ⟨#[dig up (v / 256 % 16)]⟩ ++ ⟨#[dig up (v / 16 % 16)]⟩ ++ ⟨#[dig up (v % 16)]⟩ : Str) = ⟨(hexU up v).toArray⟩ := by
  show (⟨(Str.ofString "\\u").cps ++ _ ++ _ ++ _ ++ _⟩ : Str) = _
  rw [show (Str.ofString "\\u").cps = #[92, 117] from by decide +kernel]
  rfl
theorem hex_pos (up : Bool) {v : Nat} (hv : v < 65536) : ItemAt (digs up) ((v : Int).fdiv 4096) ⟨#[dig up (v / 4096)]⟩ ∧ ItemAt (digs up) (((v : Int).fdiv 256).fmod 16) ⟨#[dig up (v / 256 % 16)]⟩ ∧ ItemAt (digs up) (((v : Int).fdiv 16).fmod 16) ⟨#[dig up (v / 16 % 16)]⟩ ∧ ItemAt (digs up) ((v : Int).fmod 16) ⟨#[dig up (v % 16)]⟩ := by
  have f : ∀ a b : Nat, ((a : Int).fdiv (b : Int)) = ((a / b : Nat) : Int) := fun a b => by rw [Int.fdiv_eq_ediv_of_nonneg _ (Int.natCast_nonneg b)]; rfl
  have g : ∀ a b : Nat, ((a : Int).fmod (b : Int)) = ((a % b : Nat) : Int) := fun a b => by rw [Int.fmod_eq_emod_of_nonneg _ (Int.natCast_nonneg b)]; rfl
  refine ⟨digs_at up (by omega) (f v 4096), digs_at up (Nat.mod_lt _ (by omega)) ?_, digs_at up (Nat.mod_lt _ (by omega)) ?_, digs_at up (Nat.mod_lt _ (by omega)) (g v 16)⟩
  · show ((v : Int).fdiv ((256 : Nat) : Int)).fmod ((16 : Nat) : Int) = _
    rw [f, g]
  · show ((v : Int).fdiv ((16 : Nat) : Int)).fmod ((16 : Nat) : Int) = _
    rw [f, g]
theorem ord_one {prog : Program} {w : World} {A : Around} {E : Value → Shared → Prop} {s : Shared} {a : Nat} {t : Tok} {Q : Value → Shared → Prop} (h : Q (.int (a : Int) s.toks) { s with toks := s.toks + 1 }) : wpAny (model prog w) A (call (.builtin "ord") [.str ⟨#[a]⟩ t]) Q E s := ord_of_one rfl h
theorem ite_dt {p : Prop} [Decidable p] {P Q : Prop} (h : p) (x : P) : if decide p = true then P else Q := by rw [if_pos (decide_eq_true h)]; exact x
theorem ite_df {p : Prop} [Decidable p] {P Q : Prop} (h : ¬ p) (x : Q) : if decide p = true then P else Q := by rw [if_neg (by simpa using h)]; exact x
theorem esc_big {a : Nat} (h1 : 65536 ≤ a) (h2 : a < 1114112) : 55296 + ((a : Int) - 65536).fdiv 1024 = ((55296 + (a - 65536) / 1024 : Nat) : Int) ∧ 56320 + ((a : Int) - 65536).fmod 1024 = ((56320 + (a - 65536) % 1024 : Nat) : Int) ∧ 55296 + (a - 65536) / 1024 < 65536 ∧ 56320 + (a - 65536) % 1024 < 65536 := by
  rw [Int.fdiv_eq_ediv_of_nonneg _ (by omega), Int.fmod_eq_emod_of_nonneg _ (by omega)]
  omega
theorem two_app (x y : List Nat) : (⟨x.toArray⟩ ++ ⟨y.toArray⟩ : Str) = ⟨(x ++ y).toArray⟩ := by
  show (⟨x.toArray ++ y.toArray⟩ : Str) = _
  rw [List.append_toArray]
end Mine
end PartS12
section PartC6
open PySem PySem.W PyProof.Rows
namespace Mine
local macro_rules | `(tactic| cell_enter) => `(tactic| (refine' code_def ?k1 ?k2 ?k3 ?k4 ?k5 ?kA ?kF ?kK ?k6 ?k7 ?k8 ?k9 ?kB ?_ ?c2 ?c3 ?c4 ?c5; (case kA => exact rfl); (case kF => exact rfl); (case kK => assumption); (case k1 => k_asm); (case k2 => k_asm); (case k3 => k_asm); (case k4 => k_asm); (case k5 => k_asm); (case k6 => k_is); (case k7 => k_is); (case k8 => first | ktr_room | (dsimp only; omega)); (case k9 => first | exact BindsTo.of_eq rfl | exact binds_K (by k_in) rfl (by k_is) rfl rfl rfl); (case c5 => decide); (case kB => exact locs rfl); (case c2 => exact rfl); (case c3 => exact rfl); (case c4 => exact rfl); k_whole; intro g' L' h' FG' F' N' B' X' T'; (try dsimp only); (try k_lift B'); (try k_fold)))
local macro_rules | `(tactic| walk_at "subscriptTail") => `(tactic| ((with_reducible show wpAny _ _ (subscriptTail _ _ (Value.str _ _) (Value.int _ _)) _ _ _); refine item_in (by assumption) (by omega) ?_))
set_option maxHeartbeats 1000000 in
set_option maxRecDepth 100000 in
theorem hexC {w : World} {mean : ExcName → Option Value} {mg mb : Str → Option Value} (v : Nat) (k : Int) (kt : Tok) (D : Str) (dt : Tok) (up : Bool) (hk : k = (v : Int)) (hk2 : v < 65536) (hDD : D = digs up) :
    Says w 104 [.int k kt, .str D dt] [] mean mg mb 1 fun h₀ L m news s Q E =>
      ∀ (t : Tok) (h' : Heap) (tk' : Nat), Fr h₀ L h' m → News h₀ L h' news → Q (.str ⟨(hexU up v).toArray⟩ t) { s with heap := h', toks := tk' } := by
  subst hk
  unfold Says
  k_fill
  intros
  rename_i hret
  have hD : D.length = 16 := by rw [hDD]; exact digs_len up
  have hp := hex_pos up hk2
  rw [← hDD] at hp
  obtain ⟨p1, p2, p3, p4⟩ := hp
  refine wpAny_call ?_
  k_dflt cell_enter
  k_steps
  rename Fr _ _ _ _ => fE
  rename News _ _ _ _ => nE
  rw [p1.eq, hexU_eq]
  exact hret _ _ _ fE nE
local macro_rules | `(tactic| walk_at "call ref") => `(tactic| (k_here; (with_reducible show wpAny _ _ (call (Value.ref 104) [Value.int _ _, Value.str _ _] []) _ _ _); k_dflt (refine' use (hexC _ _ _ _ _ _ ?hk ?h2 ?hD) ?B ?F ?X ?N ?T ?K ?d ?u ?_; (case hk => assumption); (case h2 => assumption); (case hD => assumption); (case B => k_asm); (case F => k_asm); (case X => k_asm); (case N => k_asm); (case T => k_asm); (case K => exact rfl); (case d => (simp only [depth_under_make, depth_under_kw, depth_in1, depth_deeper, depth_caller]; omega)); (case u => (simp only [units_in1, units_deeper, Around.mark_units, units_caller]; omega)); k_whole); intro t' h' tk' F' N'; (try k_fold)))
local macro_rules | `(tactic| walk_at "ite") => `(tactic| with_reducible (first | (refine ite_t (by assumption) ?_) | (refine ite_f (by assumption) ?_) | (refine ite_nt (by assumption) ?_) | (refine ite_nf (by assumption) ?_) | (refine ite_bt (by assumption) ?_) | (refine ite_bf (by assumption) ?_) | ((show (if decide _ = true then _ else _)); first | (refine ite_dt (by omega) ?_) | (refine ite_df (by omega) ?_))))
local macro_rules | `(tactic| walk_at "call builtin:ord") => `(tactic| (k_here; (with_reducible refine ord_one ?_)))
set_option maxHeartbeats 1000000 in
set_option maxRecDepth 100000 in
theorem escC1 {w : World} {mean : ExcName → Option Value} {mg mb : Str → Option Value} (a : Nat) (ct : Tok) (D : Str) (dt : Tok) (up : Bool) (ha : a < 65536) (hDD : D = digs up) :
    Says w 111 [.str ⟨#[a]⟩ ct, .str D dt] [] mean mg mb 2 fun h₀ L m news s Q E =>
      ∀ (t : Tok) (h' : Heap) (tk' : Nat), Fr h₀ L h' m → News h₀ L h' news → Q (.str ⟨(hexU up a).toArray⟩ t) { s with heap := h', toks := tk' } := by
  unfold Says
  k_fill
  intros
  rename_i hret
  have hrefl : (a : Int) = (a : Int) := rfl
  refine wpAny_call ?_
  k_dflt cell_enter
  k_steps
  rename Fr _ _ _ _ => fE
  rename News _ _ _ _ => nE
  exact hret _ _ _ fE nE
set_option maxHeartbeats 1000000 in
set_option maxRecDepth 100000 in
theorem escC2 {w : World} {mean : ExcName → Option Value} {mg mb : Str → Option Value} (a : Nat) (ct : Tok) (D : Str) (dt : Tok) (up : Bool) (ha : 65536 ≤ a) (ha2 : a < 1114112) (hDD : D = digs up) :
    Says w 111 [.str ⟨#[a]⟩ ct, .str D dt] [] mean mg mb 2 fun h₀ L m news s Q E =>
      ∀ (t : Tok) (h' : Heap) (tk' : Nat), Fr h₀ L h' m → News h₀ L h' news → Q (.str ⟨(hexU up (55296 + (a - 65536) / 1024) ++ hexU up (56320 + (a - 65536) % 1024)).toArray⟩ t) { s with heap := h', toks := tk' } := by
  obtain ⟨b1, b2, b3, b4⟩ := esc_big ha ha2
  generalize 55296 + (a - 65536) / 1024 = x1 at b1 b3 ⊢
  generalize 56320 + (a - 65536) % 1024 = x2 at b2 b4 ⊢
  unfold Says
  k_fill
  intros
  rename_i hret
  refine wpAny_call ?_
  k_dflt cell_enter
  k_steps
  rename Fr _ _ _ _ => fE
  rename News _ _ _ _ => nE
  rw [two_app]
  exact hret _ _ _ fE nE
end Mine
end PartC6
section PartS13
open PySem PySem.W PyProof.Rows
set_option maxRecDepth 100000
namespace Mine
def signs : List Nat := [0x61, 0x5a, 0x20, 0x2f, 0xe9, 0x20ac, 0x1f600, 0x27, 0x22, 0x5c, 0x0a, 0x09, 0x01, 0x1f, 0x08, 0xfffd, 0x10fffd, 0x0d, 0x0c, 0x7b]
def signsL : List Str := ["a", "Z", " ", "/", "é", "€", "😀", "'", "\"", "\\", "\n", "\t", "\x01", "\x1f", "\x08", "\uFFFD", "􏿽", "\x0d", "\x0c", "{"].map Str.ofString
theorem signs_eq : signsL = signs.map fun a => ⟨#[a]⟩ := by decide +kernel
def shortD : List (PyData × PyData) := [(.str (Str.ofString "/"), .str (Str.ofString "/")), (.str (Str.ofString "'"), .str (Str.ofString "'")), (.str (Str.ofString "\""), .str (Str.ofString "\"")), (.str (Str.ofString "\\"), .str (Str.ofString "\\")), (.str (Str.ofString "\n"), .str (Str.ofString "n")), (.str (Str.ofString "\t"), .str (Str.ofString "t")), (.str (Str.ofString "\x08"), .str (Str.ofString "b")), (.str (Str.ofString "\x0d"), .str (Str.ofString "r")), (.str (Str.ofString "\x0c"), .str (Str.ofString "f"))]
def shortOf (a : Nat) : Option Nat := if a = 47 ∨ a = 39 ∨ a = 34 ∨ a = 92 then some a else if a = 10 then some 110 else if a = 9 then some 116 else if a = 8 then some 98 else if a = 13 then some 114 else if a = 12 then some 102 else none
theorem short_look : ∀ a ∈ signs, PySem.Spec.lookup (.str ⟨#[a]⟩) shortD = (shortOf a).map fun k => .str ⟨#[k]⟩ := by
  intro a ha
  simp only [signs, List.mem_cons, List.not_mem_nil, or_false] at ha
  rcases ha with rfl | rfl | rfl | rfl | rfl | rfl | rfl | rfl | rfl | rfl | rfl | rfl | rfl | rfl | rfl | rfl | rfl | rfl | rfl | rfl <;> kernel_rfl
theorem short_in : ∀ a ∈ signs, ∀ k, shortOf a = some k → (k, a) ∈ shorts := by
  intro a ha k hk
  simp only [signs, List.mem_cons, List.not_mem_nil, or_false] at ha
  rcases ha with rfl | rfl | rfl | rfl | rfl | rfl | rfl | rfl | rfl | rfl | rfl | rfl | rfl | rfl | rfl | rfl | rfl | rfl | rfl | rfl <;> revert k <;> decide
end Mine
end PartS13
section PartC7
open PySem PySem.W PyProof.Rows
namespace Mine
local macro_rules | `(tactic| cell_enter) => `(tactic| (refine' code_def ?k1 ?k2 ?k3 ?k4 ?k5 ?kA ?kF ?kK ?k6 ?k7 ?k8 ?k9 ?kB ?_ ?c2 ?c3 ?c4 ?c5; (case kA => exact rfl); (case kF => exact rfl); (case kK => assumption); (case k1 => k_asm); (case k2 => k_asm); (case k3 => k_asm); (case k4 => k_asm); (case k5 => k_asm); (case k6 => k_is); (case k7 => k_is); (case k8 => first | ktr_room | (dsimp only; omega)); (case k9 => first | exact BindsTo.of_eq rfl | exact binds_K (by k_in) rfl (by k_is) rfl rfl rfl); (case c5 => decide); (case kB => exact locs rfl); (case c2 => exact rfl); (case c3 => exact rfl); (case c4 => exact rfl); k_whole; intro g' L' h' FG' F' N' B' X' T'; (try dsimp only); (try k_lift B'); (try k_fold)))
theorem strs_cons {y : Str} {t : Tok} {vs : List Value} {ys : List Str} (h : StrsAre vs ys) : StrsAre (.str y t :: vs) (y :: ys) := .cons y t h
set_option maxHeartbeats 1000000 in
set_option maxRecDepth 100000 in
theorem signsC {w : World} {mean : ExcName → Option Value} {mg mb : Str → Option Value} :
    Says w 90 [] [] mean mg mb 2 fun h₀ L m news s Q _ =>
      ∀ (l : Addr) (its : Array Value) (n : Nat) (h' : Heap) (tk' : Nat), StrsAre its.toList signsL → Fr h₀ L h' m → News h₀ L h' ((l, listOf its n) :: news) → (∀ q ∈ news, q.1 < l) → Q (.ref l) { s with heap := h', toks := tk' } := by
  unfold Says
  k_fill
  intros
  rename_i hret
  refine wpAny_call ?_
  k_dflt cell_enter
  k_steps
  rename Fr _ _ _ _ => fE
  rename News _ _ _ _ => nE
  refine hret _ _ _ _ _ ?_ fE nE (by assumption)
  show StrsAre [_, _, _, _, _, _, _, _, _, _, _, _, _, _, _, _, _, _, _, _] [_, _, _, _, _, _, _, _, _, _, _, _, _, _, _, _, _, _, _, _]
  repeat (first | exact .nil | refine strs_cons ?_)
set_option maxHeartbeats 1000000 in
set_option maxRecDepth 100000 in
theorem shortC {w : World} {mean : ExcName → Option Value} {mg mb : Str → Option Value} :
    Says w 97 [] [] mean mg mb 2 fun h₀ L m news s Q _ =>
      ∀ (d : Addr) (o : Obj) (kvs : List (Str × Value)) (h' : Heap) (tk' : Nat), (d == sysModules) = false → o.IsDictOf (strKind PySem.Challenge.rw_ew0007_01.row.prog w) kvs → PyProof.V.FlatPairs PyData.str kvs shortD → Fr h₀ L h' m → News h₀ L h' ((d, o) :: news) → (∀ q ∈ news, q.1 < d) → Q (.ref d) { s with heap := h', toks := tk' } := by
  unfold Says
  k_fill
  intros
  rename_i hret
  refine wpAny_call ?_
  k_dflt cell_enter
  k_steps
  rename Fr _ _ _ _ => fE
  rename News _ _ _ _ => nE
  exact hret _ _ _ _ _ (by assumption) (by assumption) (by assumption) fE nE (by assumption)
end Mine
end PartC7
section PartS14
open PySem PySem.W PyProof.Rows PySem.Calls
set_option maxRecDepth 100000
namespace Mine
def sgn (n : Int) : Nat := signs.getD (n.fmod 20).toNat 0
def wayOf (n : Int) : Int := (n.fdiv 20).fmod 4
def escU (up : Bool) (a : Nat) : List Nat := if a < 65536 then hexU up a else hexU up (55296 + (a - 65536) / 1024) ++ hexU up (56320 + (a - 65536) % 1024)
def encS (q a : Nat) (w : Int) : List Nat :=
  if w = 0 ∧ a ≠ q ∧ a ≠ 92 then [a] else match (if w = 1 then shortOf a else none) with
    | some k => [92, k]
    | none => escU (decide (w = 3)) a
def encOf (q : Nat) (n : Int) : List Nat := encS q (sgn n) (wayOf n)
def nextFc (q ll : Nat) (fc : Int) (b : Nat) (n : Int) : Int := if wayOf n = 0 ∧ sgn n ≠ q ∧ sgn n ≠ 92 ∧ sgn n < 32 ∧ fc < 0 then (ll : Int) + 1 + b else fc
def fcL (q ll : Nat) (ns : List Int) : Int := (ns.foldl (fun s n => (nextFc q ll s.1 s.2 n, s.2 + (encOf q n).length)) ((-1 : Int), 0)).1
theorem fcL_snd (q ll : Nat) : ∀ (ns : List Int) (s : Int × Nat), (ns.foldl (fun s n => (nextFc q ll s.1 s.2 n, s.2 + (encOf q n).length)) s).2 = s.2 + (ns.flatMap (encOf q)).length
  | [], s => by simp
  | n :: r, s => by
    rw [List.foldl_cons, fcL_snd q ll r]
    simp only [List.flatMap_cons, List.length_append]
    omega
theorem fcL_snoc (q ll : Nat) (ns : List Int) (n : Int) : fcL q ll (ns ++ [n]) = nextFc q ll (fcL q ll ns) (ns.flatMap (encOf q)).length n := by
  unfold fcL
  rw [List.foldl_append]
  show nextFc q ll _ _ n = _
  rw [fcL_snd]
  simp
theorem sgn_mem (n : Int) : sgn n ∈ signs := by
  have h1 := Int.fmod_nonneg_of_pos n (b := 20) (by omega)
  have h2 := Int.fmod_lt_of_pos n (b := 20) (by omega)
  unfold sgn
  have : ∀ i : Fin 20, signs.getD i.1 0 ∈ signs := by decide
  exact this ⟨(n.fmod 20).toNat, by omega⟩
theorem sign_item (n : Int) : signsL.getD (n.fmod 20).toNat Str.empty = ⟨#[sgn n]⟩ := by
  have h1 := Int.fmod_nonneg_of_pos n (b := 20) (by omega)
  have h2 := Int.fmod_lt_of_pos n (b := 20) (by omega)
  unfold sgn
  have : ∀ i : Fin 20, signsL.getD i.1 Str.empty = ⟨#[signs.getD i.1 0]⟩ := by decide +kernel
  exact this ⟨(n.fmod 20).toNat, by omega⟩
theorem way_cases (n : Int) : wayOf n = 0 ∨ wayOf n = 1 ∨ wayOf n = 2 ∨ wayOf n = 3 := by
  have h1 := Int.fmod_nonneg_of_pos (n.fdiv 20) (b := 4) (by omega)
  have h2 := Int.fmod_lt_of_pos (n.fdiv 20) (b := 4) (by omega)
  unfold wayOf
  omega
theorem hexU_len (up : Bool) (v : Nat) : (hexU up v).length = 6 := rfl
theorem escU_len (up : Bool) (a : Nat) : (escU up a).length ≤ 12 := by
  unfold escU
  split
  · rw [hexU_len]; omega
  · rw [List.length_append, hexU_len, hexU_len]; omega
theorem encOf_len (q : Nat) (n : Int) : (encOf q n).length ≤ 12 := by
  unfold encOf encS
  split
  · simp
  · split
    · simp
    · exact escU_len _ _
theorem body_len (q : Nat) : ∀ ns : List Int, (ns.flatMap (encOf q)).length ≤ 12 * ns.length
  | [] => by simp
  | n :: r => by
    have := body_len q r
    have := encOf_len q n
    simp only [List.flatMap_cons, List.length_append, List.length_cons]
    omega
theorem body_len' {q : Nat} {bd : List Nat} {ns : List Int} (h : bd = ns.flatMap (encOf q)) : bd.length ≤ 12 * ns.length := h ▸ body_len q ns
structure LawSt where
  body : List Nat
  text : List Nat
  fc : Int
  tb : Tok
  tt : Tok
  tf : Tok
def lawP (q ll : Nat) (pre : List Int) (c : LawSt) : Prop := c.body = pre.flatMap (encOf q) ∧ c.text = pre.map sgn ∧ c.fc = fcL q ll pre
def lawPs (c : LawSt) : List (Str × Value) := [(Str.ofString "body", .str ⟨c.body.toArray⟩ c.tb), (Str.ofString "text", .str ⟨c.text.toArray⟩ c.tt), (Str.ofString "first_control", .int c.fc c.tf)]
def lawStored : List Str := [Str.ofString "c", Str.ofString "way"]
section
variable {prog : Program} {w : World} {A : Around} {E : Value → Shared → Prop} {Q : Flow → Shared → Prop} {s : Shared} {env : Env} {h₀ : Heap}
theorem law_loop {l : Addr} {vs : List Value} {ns : List Int} {nn q : Nat} {m₀ : Str → Option Value} {news : List (Addr × Obj)} {body : List Stmt} {Ld : Str} {tb tt tf ts tl : Tok}
    (hh : A.handled = none) (hi : IntsAre vs ns) (F : Fr h₀ env.locals s.heap m₀) (N : News h₀ env.locals s.heap news) (hl : (l, listOf vs.toArray nn) ∈ news)
    (hsg : m₀ (Str.ofString "sign") = some (.str ⟨#[q]⟩ ts)) (hld : m₀ (Str.ofString "lead") = some (.str Ld tl))
    (hb : m₀ (Str.ofString "body") = some (.str (Str.ofString "") tb)) (ht : m₀ (Str.ofString "text") = some (.str (Str.ofString "") tt)) (hf : m₀ (Str.ofString "first_control") = some (.int (-1) tf))
    (turn : Hold (∀ (c : LawSt) pre post n t (u : Str → Option Value) h tk own, ns = pre ++ n :: post → lawP q Ld.length pre c →
      Fr h₀ env.locals h (fun y => if y = Str.ofString "n" then some (.int n t) else kstB (fun z => if lawStored.contains z then u z else m₀ z) (lawPs c) y) → News h₀ env.locals h (news ++ own) →
      wpAny (model prog w) A (execs body env) (InvPostN h₀ env.locals (KstS (fun _ => news) lawPs (fun _ => True) (Str.ofString "n") lawStored m₀ (lawP q Ld.length) (pre ++ [n])) own (news.map (·.1)) { s with heap := h, toks := tk } Q) E { s with heap := h, toks := tk }))
    (done : Hold (∀ (c : LawSt) (u : Str → Option Value) h tk, lawP q Ld.length ns c → Fr h₀ env.locals h (fun y => if y = Str.ofString "n" then u y else kstB (fun z => if lawStored.contains z then u z else m₀ z) (lawPs c) y) → News h₀ env.locals h news → Q .next { s with heap := h, toks := tk })) :
    wpAny (model prog w) A (pyIter (.ref l)) (fun it s₂ => LoopAtV prog w A h₀ env (Str.ofString "n") body Q E it s₂) E s := by
  refine kst_listL (fun _ => news) lawPs (fun _ => True) lawStored (lawP q Ld.length) ⟨[], [], -1, tb, tt, tf⟩ hh (fun _ => hl) hi F N trivial ?_ ⟨rfl, rfl, rfl⟩
    (fun c pre post n t u h tk own e _ _ _ hP F N => turn c pre post n t u h tk own e hP F N) (fun c u h tk _ hP F N => done c u h tk hP F N)
  intro p hp
  simp only [lawPs, List.mem_cons, List.not_mem_nil, or_false] at hp
  rcases hp with rfl | rfl | rfl
  · exact hb
  · exact ht
  · exact hf
theorem law_next {L : Addr} {m₀ m' : Str → Option Value} {q ll : Nat} {pre : List Int} {n fc : Int} {own news news' : List (Addr × Obj)} {Bs Ts : Str} {tb tt tf : Tok} {h' : Heap} {tk : Nat}
    (F : Fr h₀ L h' m') (N : News h₀ L h' news') (hb : m' (Str.ofString "body") = some (.str Bs tb)) (ht : m' (Str.ofString "text") = some (.str Ts tt)) (hf : m' (Str.ofString "first_control") = some (.int fc tf))
    (eb : Bs = ⟨((pre ++ [n]).flatMap (encOf q)).toArray⟩) (et : Ts = ⟨((pre ++ [n]).map sgn).toArray⟩) (ef : fc = fcL q ll (pre ++ [n])) (h3 : ∀ q ∈ news, q ∈ news') (h4 : ∀ q ∈ own, q ∈ news')
    (hr : ∀ z, z ≠ Str.ofString "n" → z ≠ Str.ofString "body" → z ≠ Str.ofString "text" → z ≠ Str.ofString "first_control" → lawStored.contains z = false → m' z = m₀ z) :
    InvEndN h₀ L (KstS (fun _ => news) lawPs (fun _ => True) (Str.ofString "n") lawStored m₀ (lawP q ll) (pre ++ [n])) own (news.map (·.1)) s { s with heap := h', toks := tk } := by
  subst eb et ef
  refine InvEndN.intro F N (nx := news) ⟨⟨_, _, _, tb, tt, tf⟩, rfl, trivial, fun p hp => ?_, fun z hz h1 h2 => hr z hz ?_ ?_ ?_ h2, rfl, rfl, rfl⟩ rfl h3 h4
  · simp only [lawPs, List.mem_cons, List.not_mem_nil, or_false] at hp
    rcases hp with rfl | rfl | rfl
    · exact hb
    · exact ht
    · exact hf
  · exact h1 (Str.ofString "body", _) (.head _)
  · exact h1 (Str.ofString "text", _) (.tail _ (.head _))
  · exact h1 (Str.ofString "first_control", _) (.tail _ (.tail _ (.head _)))
theorem forV {x : Str} {px pos : Pos} {iter : Expr} {body : List Stmt} {m : Str → Option Value} (_F : Fr h₀ env.locals s.heap m) (hx : env.kindOf x = some .local) (hp : (env.scope.kind == .class || (env.scope.kind == .module && env.locals != env.globals)) = false)
    (h : wpAny (model prog w) A (eval iter env) (fun xv s₁ => wpAny (model prog w) A (pyIter xv) (fun it s₂ => LoopAtV prog w A h₀ env x body Q E it s₂) E s₁) E s)
    (hs : ∀ x, foldedSetIterable iter env x = pure x := by intro _; rfl)
    (hE : PassesOwn (model prog w) A env E := by passes_own) :
    wpAny (model prog w) A (exec (.For (.Name x px) iter body [] pos) env) Q E s := For_invV h₀ hx hp h hs
theorem sign_ifexp {M : Model} {A : Around} {E : Value → Shared → Prop} {s : Shared} {env : Env} {test : Expr} {k1 k2 : Nat} {p1 p2 pos : Pos} {Q : Value → Shared → Prop}
    (h : wpAny M A (isTrue test env (eval test env)) (fun _ s₁ => ∀ q, (q = 39 ∨ q = 34) → Q (.str ⟨#[q]⟩ s₁.toks) { s₁ with toks := s₁.toks + 1 }) E s) :
    wpAny M A (eval (.IfExp test (.Constant (.str (Str.ofString "'")) k1 p1) (.Constant (.str (Str.ofString "\"")) k2 p2) pos) env) Q E s := by
  refine IfExp_ (wpAny_mono h (fun b s₁ h₁ => ?_) fun _ _ x => x)
  cases b with
  | true => exact PySem.Calls.Constant_str (h₁ 39 (.inl rfl))
  | false => exact PySem.Calls.Constant_str (h₁ 34 (.inr rfl))
inductive TurnCase (q a : Nat) (w fc : Int) : Prop
  | plain (h0 : w = 0) (hq : a ≠ q) (hb : a ≠ 92) (h32 : ¬ a < 32)
  | ctrlNew (h0 : w = 0) (hq : a ≠ q) (hb : a ≠ 92) (h32 : a < 32) (hf : fc < 0)
  | ctrlOld (h0 : w = 0) (hq : a ≠ q) (hb : a ≠ 92) (h32 : a < 32) (hf : ¬ fc < 0)
  | quote (h0 : w = 0) (hq : a = q)
  | slash (h0 : w = 0) (hq : a ≠ q) (hb : a = 92)
  | short (h1 : w = 1) (k : Nat) (hk : shortOf a = some k)
  | noshort (h1 : w = 1) (hk : shortOf a = none)
  | low (h2 : w = 2)
  | up (h3 : w = 3)
theorem turn_case (q a : Nat) {w : Int} (fc : Int) (hw : w = 0 ∨ w = 1 ∨ w = 2 ∨ w = 3) : TurnCase q a w fc := by
  rcases hw with h | h | h | h
  · by_cases h1 : a = q
    · exact .quote h h1
    by_cases h2 : a = 92
    · exact .slash h h1 h2
    by_cases h3 : a < 32
    · by_cases h4 : fc < 0
      · exact .ctrlNew h h1 h2 h3 h4
      · exact .ctrlOld h h1 h2 h3 h4
    · exact .plain h h1 h2 h3
  · cases hk : shortOf a with
    | some k => exact .short h k hk
    | none => exact .noshort h hk
  · exact .low h
  · exact .up h
end
section
variable {prog : Program} {w : World} {A : Around} {E : Value → Shared → Prop} {s : Shared} {h₀ : Heap} {L : Addr}
theorem sign_at {value slice : Expr} {l : Addr} {its : Array Value} {nn : Nat} {news : List (Addr × Obj)} {n : Int} {u : Tok} {Q : Value → Shared → Prop} (N : News h₀ L s.heap news) (hm : (l, listOf its nn) ∈ news) (hi : StrsAre its.toList signsL)
    (h : ∀ t', Q (.str ⟨#[sgn n]⟩ t') s)
    (hs : subscripted slice false (.ref l) (.int (n.fmod 20) u) = operate [.ref l, .int (n.fmod 20) u] (getItem (.ref l) (.int (n.fmod 20) u)) := by with_unfolding_all rfl) :
    wpAny (model prog w) A (subscriptTail value slice (.ref l) (.int (n.fmod 20) u)) Q E s := by
  have h1 := Int.fmod_nonneg_of_pos n (b := 20) (by omega)
  have h2 := Int.fmod_lt_of_pos n (b := 20) (by omega)
  have e : signsL.length = 20 := rfl
  have hlt : (n.fmod 20).toNat < signsL.length := by rw [e]; omega
  have e2 : signsL[(n.fmod 20).toNat]? = some (signsL.getD (n.fmod 20).toNat Str.empty) := by simp [List.getD, hlt]
  obtain ⟨t, ht⟩ := hi.at e2
  rw [sign_item] at ht
  have hl := News.isList N hm
  exact tail_any hl.typeIs slot_list_getitem.lookup (wpAny_getItem_list hl h1 (by omega) (by simpa using ht) (h t)) hs
theorem short_at {value slice : Expr} {d : Addr} {x y : Str} {t : Tok} {Q : Value → Shared → Prop} (T : StrTab prog w s.heap d shortD) (hh : A.handled = none) (hl : PySem.Spec.lookup (.str x) shortD = some (.str y))
    (h : ∀ t', Q (.str y t') { s with toks := s.toks + 1 })
    (hs : subscripted slice false (.ref d) (.str x t) = operate [.ref d, .str x t] (getItem (.ref d) (.str x t)) := by with_unfolding_all rfl) :
    wpAny (model prog w) A (subscriptTail value slice (.ref d) (.str x t)) Q E s := by
  refine item_strTab_split_any T hh (fun dv e v hv => ?_) (fun e => by rw [hl] at e; cases e) hs
  rw [hl] at e
  cases e
  obtain ⟨t', rfl⟩ := PyProof.V.Flat.str_inv hv
  exact h _
end
theorem way_eq (n : Int) (v : Int) (h : wayOf n = v) : (n.fdiv 20).fmod 4 = v := h
theorem short_some {n : Int} {k : Nat} (h : shortOf (sgn n) = some k) : PySem.Spec.lookup (.str ⟨#[sgn n]⟩) shortD = some (.str ⟨#[k]⟩) := by
  rw [short_look _ (sgn_mem n), h]; rfl
theorem short_none {n : Int} (h : shortOf (sgn n) = none) : PySem.Spec.lookup (.str ⟨#[sgn n]⟩) shortD = none := by
  rw [short_look _ (sgn_mem n), h]; rfl
theorem sgn_lt (n : Int) : sgn n < 1114112 := by
  have : ∀ a ∈ signs, a < 1114112 := by decide
  exact this _ (sgn_mem n)
theorem one_eq {a q : Nat} (h : a = q) : ((⟨#[a]⟩ : Str) == ⟨#[q]⟩) = true := by rw [h]; exact beq_self_eq_true _
theorem turn_case' {q : Nat} (_ : q = 39 ∨ q = 34) (n fc : Int) : TurnCase q (sgn n) (wayOf n) fc := turn_case q (sgn n) fc (way_cases n)
theorem body_next {q : Nat} {bd X : List Nat} {pre : List Int} {n : Int} {P : Str} (hbd : bd = pre.flatMap (encOf q)) (hE : encOf q n = X) (hp : P.cps.toList = X) : (⟨bd.toArray⟩ ++ P : Str) = ⟨((pre ++ [n]).flatMap (encOf q)).toArray⟩ := by
  subst hbd
  rw [List.flatMap_append]
  show (⟨_ ++ P.cps⟩ : Str) = ⟨(_ ++ (encOf q n ++ [])).toArray⟩
  rw [hE, List.append_nil, ← hp]
  apply congrArg Str.mk
  apply Array.toList_inj.mp
  simp
theorem text_next {tx : List Nat} {pre : List Int} {n : Int} (h : tx = pre.map sgn) : (⟨tx.toArray⟩ ++ ⟨#[sgn n]⟩ : Str) = ⟨((pre ++ [n]).map sgn).toArray⟩ := by
  subst h
  rw [List.map_append]
  apply congrArg Str.mk
  apply Array.toList_inj.mp
  simp
theorem fc_same {q ll : Nat} {fc : Int} {pre : List Int} {n : Int} (hfc : fc = fcL q ll pre) (hF : ∀ ll b, nextFc q ll fc b n = fc) : fc = fcL q ll (pre ++ [n]) := by
  rw [fcL_snoc, ← hfc, hF]
theorem fc_new {q : Nat} {Ld : Str} {bd : List Nat} {fc : Int} {pre : List Int} {n : Int} (hfc : fc = fcL q Ld.length pre) (hbd : bd = pre.flatMap (encOf q)) (hF : ∀ ll b, nextFc q ll fc b n = (ll : Int) + 1 + b) : ((Ld.length : Int) + 1 + ((⟨bd.toArray⟩ : Str).length : Int)) = fcL q Ld.length (pre ++ [n]) := by
  rw [fcL_snoc, ← hfc, hF, ← hbd]
  rfl
theorem enc_plain {q : Nat} {n : Int} (_ : q = 39 ∨ q = 34) (h0 : wayOf n = 0) (hq : sgn n ≠ q) (hb : sgn n ≠ 92) : encOf q n = [sgn n] := by
  unfold encOf encS
  rw [if_pos ⟨h0, hq, hb⟩]
theorem enc_esc0 {q : Nat} {n : Int} (_ : q = 39 ∨ q = 34) (h0 : wayOf n = 0) (h : sgn n = q ∨ sgn n = 92) : encOf q n = escU false (sgn n) := by
  unfold encOf encS
  rw [if_neg (by rintro ⟨_, a, b⟩; exact h.elim a b), h0]
  rfl
theorem enc_short {q k : Nat} {n : Int} (_ : q = 39 ∨ q = 34) (h1 : wayOf n = 1) (hk : shortOf (sgn n) = some k) : encOf q n = [92, k] := by
  unfold encOf encS
  rw [if_neg (by rintro ⟨a, _⟩; omega), h1, if_pos rfl, hk]
theorem enc_esc1 {q : Nat} {n : Int} (_ : q = 39 ∨ q = 34) (h1 : wayOf n = 1) (hk : shortOf (sgn n) = none) : encOf q n = escU false (sgn n) := by
  unfold encOf encS
  rw [if_neg (by rintro ⟨a, _⟩; omega), h1, if_pos rfl, hk]
  rfl
theorem enc_esc2 {q : Nat} {n : Int} (_ : q = 39 ∨ q = 34) (h1 : wayOf n = 2) : encOf q n = escU false (sgn n) := by
  unfold encOf encS
  rw [if_neg (by rintro ⟨a, _⟩; omega), h1]
  rfl
theorem enc_esc3 {q : Nat} {n : Int} (_ : q = 39 ∨ q = 34) (h1 : wayOf n = 3) : encOf q n = escU true (sgn n) := by
  unfold encOf encS
  rw [if_neg (by rintro ⟨a, _⟩; omega), h1]
  rfl
theorem esc_small {up : Bool} {a : Nat} (h : a < 65536) : escU up a = hexU up a := if_pos h
theorem esc_great {up : Bool} {a : Nat} (h : 65536 ≤ a) : escU up a = hexU up (55296 + (a - 65536) / 1024) ++ hexU up (56320 + (a - 65536) % 1024) := if_neg (by omega)
theorem nf_same {q : Nat} {n fc : Int} (_ : q = 39 ∨ q = 34) (h : ¬ (wayOf n = 0 ∧ sgn n ≠ q ∧ sgn n ≠ 92 ∧ sgn n < 32 ∧ fc < 0)) : ∀ ll b, nextFc q ll fc b n = fc := fun _ _ => if_neg h
theorem nf_new {q : Nat} {n fc : Int} (_ : q = 39 ∨ q = 34) (h : wayOf n = 0 ∧ sgn n ≠ q ∧ sgn n ≠ 92 ∧ sgn n < 32 ∧ fc < 0) : ∀ ll b, nextFc q ll fc b n = (ll : Int) + 1 + b := fun _ _ => if_pos h
def leads : List Str := [Str.ofString "", Str.ofString "x: ", Str.ofString "{\n 'a' : "]
theorem len_tab : ∀ k : Nat, ([0, 3, 9] : List Int).getD k 0 = ((leads.getD k Str.empty).length : Int)
  | 0 => by decide
  | 1 => by decide
  | 2 => by decide
  | _ + 3 => rfl
theorem fc_new' {q k : Nat} {bd : List Nat} {fc : Int} {pre : List Int} {n : Int} (hfc : fc = fcL q (leads.getD k Str.empty).length pre) (hbd : bd = pre.flatMap (encOf q)) (hF : ∀ ll b, nextFc q ll fc b n = (ll : Int) + 1 + b) :
    (([0, 3, 9] : List Int).getD k 0 + 1 + ((⟨bd.toArray⟩ : Str).length : Int)) = fcL q (leads.getD k Str.empty).length (pre ++ [n]) := by
  rw [len_tab]
  exact fc_new hfc hbd hF
end Mine
end PartS14
section PartX5
open PySem PySem.W PyProof.Rows
set_option maxRecDepth 100000
namespace Mine
section
variable {prog : Program} {w : World} {A₀ : Around} {E : Value → Shared → Prop} {s' : Shared} {h₀ h : Heap} {outer : List Env} {L a e dd : Addr} {m : Str → Option Value} {name : Str} {scope : Scope} {cd : Value}
  {n : Str} {b₀ : Stmt} {suite : List Stmt} {pos np : Pos} {rest : List ExceptHandler} {Q : Flow → Shared → Prop} {news : List (Addr × Obj)}
  {p : Program} {loose : List Str} {mg mb : Str → Option Value} {x : Str}
theorem caught_X (K : Below A₀ h₀ outer h₀) (F : Fr h₀ L h m) (hsm : h.UpToSlots s'.heap) (R : RaisedX h₀ (envOf name scope L a cd :: outer) e dd (.ref 51) news s'.heap)
    (X : (hd.heap_39 w.params).In h₀) (T : TopRead p loose mg mb h₀) (ex : nsIn (hd.heap_39 w.params) mainGlobals x = some (some (.ref 51)))
    (k : ∀ h' vs sl tk, Fr h₀ L h' (fun y => if y = n then some (.ref e) else m y) → News h₀ L h' ((e, ⟨.ref 51, some dd, .fields vs, sl⟩) :: news) →
      wpAny (model prog w) ((A₀.deeper (envOf name scope L a cd)).mark (some (.ref e))) (execs (b₀ :: suite) (envOf name scope L a cd))
        (fun f s₄ => wpAny (model prog w) (A₀.deeper (envOf name scope L a cd)) (do bindName (envOf name scope L a cd) n .none; unbindBehindTheSuite (envOf name scope L a cd) n pos) (fun _ s₅ => Q f s₅) E s₄)
        (AsSuiteRaised (model prog w) ((A₀.deeper (envOf name scope L a cd)).mark (some (.ref e))) (envOf name scope L a cd) n pos (notedBy (model prog w) ((A₀.deeper (envOf name scope L a cd)).mark (some (.ref e))) (envOf name scope L a cd) (cameBackBy (model prog w) (A₀.deeper (envOf name scope L a cd)) (envOf name scope L a cd) E)))
        { s' with heap := h', toks := tk })
    (hk : scope.kind = .function := by rfl) (hlo : (envOf name scope L a cd).kindOf n = some .local := by rfl) (hx : (envOf name scope L a cd).kindOf x = some .globalImplicit := by rfl) (hd : (x == ("__debug__" : Str)) = false := by decide) :
    wpAny (model prog w) (A₀.deeper (envOf name scope L a cd)) (noteFrame (.ref e) (envOf name scope L a cd))
      (fun _ s₂ => wpAny (model prog w) (A₀.deeper (envOf name scope L a cd)) (setFlight (.ref e) none) (fun _ s₃ =>
        wpAny (model prog w) (A₀.deeper (envOf name scope L a cd)) (handleBy (.ref e) (envOf name scope L a cd) (.ExceptHandler (some (.Name x np)) (some n) (b₀ :: suite) pos :: rest)) Q E s₃) E s₂) E s' := by
  obtain ⟨B, hB, hl, hfl⟩ := R
  have hL : B.get? L = none := by
    obtain ⟨_, ⟨L', _, hf, hn', _⟩, _⟩ := hfl.2.2.1
    obtain rfl : L = L' := Option.some.inj hf
    exact hn'
  refine note_next (Around.frames_deeper K.stack) rfl hfl fun h₄ x4 u4 => ?_
  refine flight_off x4 fun h₅ x5 u5 => ?_
  have u5 := u4.trans u5
  have x5' := exc_base hB x5
  have F₅ := F.of_stays x5'.1 (hsm.trans u5)
  obtain ⟨oe, _, _, _, _, he, ⟨hc, _⟩, _⟩ := x5'.2.2.2
  refine wpAny_handleBy_cons (codeAny_handlers_test (name_K F₅ X T ex ?_ hk hx hd)) (by intro q; cases q)
  refine wpAny_excMatches_sub_self ((X.keeps F₅.keep) _ _ cls_entry) he hc (by decide) (codeAny_handlers_suite_as ?_)
  refine flight_off x5 fun h₆ x6 u6 => ?_
  have x6' := exc_base hB x6
  have F₆ := F.of_stays x6'.1 ((hsm.trans u5).trans u6)
  obtain ⟨⟨oc, od, oda, osl⟩, ws, _, _, _, he, ⟨hc, hdd⟩, hda, _⟩ := x6'.2.2.2
  dsimp only at hc hdd hda
  subst hc hdd hda
  have N₆ : News h₀ L h₆ ((e, ⟨.ref 51, some dd, .fields ws, osl⟩) :: []) := News.more F₆ News.nil he (fun es n q => by cases q) x6'.2.1
  have Nl : News h₀ L h₆ news := fun q hq => ⟨x6.1 _ _ (hl q hq).1, (fun z => by have := (hl q hq).1; rw [z, hL] at this; cases this), (hl q hq).2⟩
  refine stN F₆ (news := _ ++ news) (fun q hq => (List.mem_append.mp hq).elim (N₆ q) (Nl q)) (fun h₇ F₇ N₇ => ?_) hk hlo
  exact k h₇ _ _ _ F₇ N₇
end
end Mine
end PartX5
section PartP1
open PySem PySem.W PyProof.Rows
set_option maxRecDepth 100000
namespace Mine
def At (D : Str) (i : Nat) (l : List Nat) : Prop := D.cps.toList.drop i = l
theorem At.head {D : Str} {i a : Nat} {l : List Nat} (h : At D i (a :: l)) : i < D.length ∧ D.cps.getD i 0 = a ∧ At D (i + 1) l := by
  unfold At at h ⊢
  have hi : i < D.cps.toList.length := by
    apply Nat.lt_of_not_le
    intro hn
    rw [List.drop_eq_nil_of_le hn] at h
    cases h
  have e := List.drop_eq_getElem_cons hi
  rw [e] at h
  injection h with h1 h2
  have hi' : i < D.cps.size := by simpa using hi
  refine ⟨hi', ?_, h2⟩
  rw [← h1]
  simp [Array.getD, hi']
theorem At.tail {D : Str} {i : Nat} : ∀ {l r : List Nat}, At D i (l ++ r) → At D (i + l.length) r := by
  intro l r h
  unfold At at h ⊢
  rw [← List.drop_drop, h, List.drop_left]
theorem At.seg {D : Str} {i : Nat} {l r : List Nat} (h : At D i (l ++ r)) : seg D i (i + l.length) = l := by
  unfold At at h
  unfold Mine.seg
  rw [Array.toList_extract, List.extract_eq_take_drop, h]
  simp
theorem At.lt {D : Str} {i : Nat} {l r : List Nat} (h : At D i (l ++ r)) (hl : l ≠ []) : i + l.length ≤ D.length := by
  unfold At at h
  have := congrArg List.length h
  simp only [List.length_drop, List.length_append, Array.length_toList] at this
  have : 0 < l.length := by cases l with | nil => exact (hl rfl).elim | cons _ _ => simp
  unfold Str.length
  omega
theorem seg_self (D : Str) (i : Nat) : seg D i i = [] := by simp [seg]
theorem Upto.refl {D : Str} {i : Nat} (h : i < D.length) : Upto D i i := ⟨Nat.le_refl _, h, fun k a b => by omega⟩
theorem Upto.step {D : Str} {i j a : Nat} (u : Upto D (i + 1) j) (ha : D.cps.getD i 0 = a) (hs : spc a = false) : Upto D i j :=
  ⟨Nat.le_of_succ_le u.le, u.lt, fun k h1 h2 => by
    rcases Nat.eq_or_lt_of_le h1 with rfl | h
    · rw [ha]; exact hs
    · exact u.no k h h2⟩
theorem seg_step {D : Str} {i j a : Nat} (h : i < D.length) (ha : D.cps.getD i 0 = a) (hj : i + 1 ≤ j) : seg D i j = a :: seg D (i + 1) j := by
  have hi : i < D.cps.size := h
  have hg : D.cps[i] = a := by rw [← ha]; simp [Array.getD, hi]
  unfold seg
  rw [Array.toList_extract, Array.toList_extract, List.extract_eq_take_drop, List.extract_eq_take_drop, List.drop_eq_getElem_cons (by simpa using hi), show j - i = (j - (i + 1)) + 1 by omega, List.take_succ_cons]
  simp [hg]
theorem Scan.step {D : Str} {q i a : Nat} {s : Bool} {t : List Nat} {o : End} (h : i < D.length) (ha : D.cps.getD i 0 = a) (hs : spc a = false) (r : Scan D q s (i + 1) t o) : ∃ t', Scan D q s i t' o ∧ ∀ p, o = .done p → t' = a :: t := by
  cases r with
  | miss hi hn =>
    refine ⟨[], .miss (by omega) (fun k h1 h2 => ?_), fun p e => by cases e⟩
    rcases Nat.eq_or_lt_of_le h1 with rfl | h
    · rw [ha]; exact hs
    · exact hn k h h2
  | close u hc => exact ⟨_, .close (u.step ha hs) hc, fun p e => seg_step h ha u.le⟩
  | quote u hc h1 h2 r => exact ⟨_, .quote (u.step ha hs) hc h1 h2 r, fun p e => by rw [seg_step h ha u.le]; rfl⟩
  | ctrl u hc h1 h2 r => exact ⟨_, .ctrl (u.step ha hs) hc h1 h2 r, fun p e => by rw [seg_step h ha u.le]; rfl⟩
  | bad u hc h1 h2 => exact ⟨_, .bad (u.step ha hs) hc h1 h2, fun p e => by cases e⟩
  | short u hc hl hk h1 r => exact ⟨_, .short (u.step ha hs) hc hl hk h1 r, fun p e => by rw [seg_step h ha u.le]; rfl⟩
  | hex u hc hl hk hx h1 h2 r => exact ⟨_, .hex (u.step ha hs) hc hl hk hx h1 h2 r, fun p e => by rw [seg_step h ha u.le]; rfl⟩
  | pair u hc hl hk hx hm hx2 h1 r => exact ⟨_, .pair (u.step ha hs) hc hl hk hx hm hx2 h1 r, fun p e => by rw [seg_step h ha u.le]; rfl⟩
def plainCtl (q : Nat) (n : Int) : Bool := decide (wayOf n = 0 ∧ sgn n ≠ q ∧ sgn n ≠ 92 ∧ sgn n < 32)
def firstCtl (q : Nat) : List Int → Option Nat
  | [] => none
  | n :: r => if plainCtl q n = true then some 0 else (firstCtl q r).map (· + (encOf q n).length)
theorem signs_spc : ∀ a ∈ signs, a ≠ 92 → spc a = true → a < 32 ∨ a = 34 ∨ a = 39 := by decide
theorem signs_hex : ∀ a ∈ signs, a < 65536 → a ∈ hexVals ∧ a &&& 64512 ≠ 55296 := by decide
theorem signs_pair : ∀ a ∈ signs, ¬ a < 65536 → (55296 + (a - 65536) / 1024, 56320 + (a - 65536) % 1024, a) ∈ pairs := by decide
theorem Scan.esc {D : Str} {q i a : Nat} {s up : Bool} {l t : List Nat} {o : End} (ha : a ∈ signs) (h : At D i (escU up a ++ l)) (r : Scan D q s (i + (escU up a).length) t o) : Scan D q s i (a :: t) o := by
  by_cases hs : a < 65536
  · obtain ⟨m1, m2⟩ := signs_hex a ha hs
    rw [esc_small hs] at h r
    have h0 := At.lt h (by simp [hexU])
    rw [hexU_len] at r h0
    have k1 := At.head (a := 92) (l := 117 :: (hex4 up a ++ l)) h
    have k2 := k1.2.2.head
    have k3 := At.seg (l := hex4 up a) (r := l) k2.2.2
    have := Scan.hex (D := D) (q := q) (strict := s) (up := up) (Upto.refl k1.1) k1.2.1 (by omega) k2.2.1 k3 m1 m2 r
    rw [seg_self] at this
    exact this
  · have m := signs_pair a ha hs
    rw [esc_great (by omega)] at h r
    have h0 := At.lt h (by simp [hexU])
    rw [List.length_append, hexU_len, hexU_len] at r h0
    generalize 55296 + (a - 65536) / 1024 = v at m h
    generalize 56320 + (a - 65536) % 1024 = v2 at m h
    rw [List.append_assoc] at h
    have k1 := At.head (a := 92) (l := 117 :: (hex4 up v ++ (hexU up v2 ++ l))) h
    have k2 := k1.2.2.head
    have k3 := At.seg (l := hex4 up v) (r := hexU up v2 ++ l) k2.2.2
    have k4 := At.tail (l := hex4 up v) (r := hexU up v2 ++ l) k2.2.2
    have k5 := At.seg (l := [92, 117]) (r := hex4 up v2 ++ l) k4
    have k6 := At.tail (l := [92, 117]) (r := hex4 up v2 ++ l) k4
    have k7 := At.seg (l := hex4 up v2) (r := l) k6
    have := Scan.pair (D := D) (q := q) (strict := s) (up := up) (Upto.refl k1.1) k1.2.1 (by omega) k2.2.1 k3 k5 k7 m r
    rw [seg_self] at this
    exact this
theorem scan_items {D : Str} {q : Nat} {s : Bool} (hq : q = 39 ∨ q = 34) {l : List Nat} {t0 : List Nat} {o0 : End} : ∀ (ns : List Int) (i : Nat), At D i (ns.flatMap (encOf q) ++ l) → Scan D q s (i + (ns.flatMap (encOf q)).length) t0 o0 →
    (∀ b, s = true → firstCtl q ns = some b → ∃ t, Scan D q s i t (.bad (i + b + 1))) ∧ ((s = false ∨ firstCtl q ns = none) → ∃ t, Scan D q s i t o0 ∧ ∀ p, o0 = .done p → t = ns.map sgn ++ t0)
  | [], i, h, r => ⟨(fun b _ e => by cases e), fun _ => ⟨t0, r, fun _ _ => rfl⟩⟩
  | n :: ns, i, h, r => by
    rw [List.flatMap_cons, List.append_assoc] at h
    rw [List.flatMap_cons, List.length_append, ← Nat.add_assoc] at r
    obtain ⟨ih1, ih2⟩ := scan_items hq ns _ (At.tail h) r
    have ha := sgn_mem n
    unfold firstCtl
    
    have put : ∀ (_ : plainCtl q n = false) (_ : ∀ {t : List Nat} {o : End}, Scan D q s (i + (encOf q n).length) t o → ∃ t', Scan D q s i t' o ∧ ∀ p, o = .done p → t' = sgn n :: t),
        (∀ b, s = true → (if plainCtl q n = true then some 0 else (firstCtl q ns).map (· + (encOf q n).length)) = some b → ∃ t, Scan D q s i t (.bad (i + b + 1))) ∧
        ((s = false ∨ (if plainCtl q n = true then some 0 else (firstCtl q ns).map (· + (encOf q n).length)) = none) → ∃ t, Scan D q s i t o0 ∧ ∀ p, o0 = .done p → t = (n :: ns).map sgn ++ t0) := by
      intro hp piece
      rw [hp]
      refine ⟨fun b hs hb => ?_, fun hc => ?_⟩
      · simp only [Bool.false_eq_true, if_false] at hb
        obtain ⟨b', e, rfl⟩ := Option.map_eq_some_iff.mp hb
        obtain ⟨t, ht⟩ := ih1 b' hs e
        obtain ⟨t', h1, _⟩ := piece ht
        rw [show i + (b' + (encOf q n).length) + 1 = i + (encOf q n).length + b' + 1 by omega]
        exact ⟨t', h1⟩
      · simp only [Bool.false_eq_true, if_false, Option.map_eq_none_iff] at hc
        obtain ⟨t, ht, hd⟩ := ih2 hc
        obtain ⟨t', h1, h2⟩ := piece ht
        refine ⟨t', h1, fun p e => ?_⟩
        rw [h2 p e, hd p e]
        rfl
    have np : (wayOf n ≠ 0 ∨ sgn n = q ∨ sgn n = 92) → plainCtl q n = false := by
      intro h
      unfold plainCtl
      rw [decide_eq_false_iff_not]
      rintro ⟨a, b, c, _⟩
      rcases h with h | h | h
      · exact h a
      · exact b h
      · exact c h
    have esc : ∀ up, encOf q n = escU up (sgn n) → ∀ {t : List Nat} {o : End}, Scan D q s (i + (encOf q n).length) t o → ∃ t', Scan D q s i t' o ∧ ∀ p, o = .done p → t' = sgn n :: t := by
      intro up e t o r
      rw [e] at h r
      exact ⟨_, Scan.esc ha h r, fun _ _ => rfl⟩
    cases turn_case' hq n (-1) with
    | quote h0 hq' => exact put (np (.inr (.inl hq'))) (esc false (enc_esc0 hq h0 (.inl hq')))
    | slash h0 _ hb => exact put (np (.inr (.inr hb))) (esc false (enc_esc0 hq h0 (.inr hb)))
    | noshort h1 hk => exact put (np (.inl (by omega))) (esc false (enc_esc1 hq h1 hk))
    | low h1 => exact put (np (.inl (by omega))) (esc false (enc_esc2 hq h1))
    | up h1 => exact put (np (.inl (by omega))) (esc true (enc_esc3 hq h1))
    | short h1 k hk =>
      refine put (np (.inl (by omega))) (fun {t o} r => ?_)
      have e := enc_short hq h1 hk
      rw [e] at h r
      have k1 := At.head (a := 92) (l := k :: _) h
      have k2 := k1.2.2.head
      have := Scan.short (D := D) (q := q) (strict := s) (Upto.refl k1.1) k1.2.1 k2.1 k2.2.1 (short_in _ ha k hk) r
      rw [seg_self] at this
      exact ⟨_, this, fun _ _ => rfl⟩
    | plain h0 hq' hb h32 =>
      have e := enc_plain hq h0 hq' hb
      refine put (by unfold plainCtl; rw [decide_eq_false_iff_not]; rintro ⟨_, _, _, c⟩; exact h32 c) (fun {t o} r => ?_)
      rw [e] at h r
      have k1 := At.head (a := sgn n) h
      cases hs : spc (sgn n) with
      | false => exact Scan.step k1.1 k1.2.1 hs r
      | true =>
        have c := (signs_spc _ ha hb hs).resolve_left h32
        have := Scan.quote (D := D) (q := q) (strict := s) (Upto.refl k1.1) k1.2.1 c hq' r
        rw [seg_self] at this
        exact ⟨_, this, fun _ _ => rfl⟩
    | ctrlOld h0 hq' hb h32 hf => exact (hf (by omega)).elim
    | ctrlNew h0 hq' hb h32 _ =>
      have e := enc_plain hq h0 hq' hb
      have hp : plainCtl q n = true := decide_eq_true ⟨h0, hq', hb, h32⟩
      rw [e] at h ih2
      have k1 := At.head (a := sgn n) h
      rw [hp]
      refine ⟨fun b hs hb => ?_, fun hc => ?_⟩
      · simp only [if_true, Option.some.injEq] at hb
        subst hb
        exact ⟨_, Scan.bad (Upto.refl k1.1) k1.2.1 h32 hs⟩
      · simp only [if_true, reduceCtorEq, or_false] at hc
        obtain ⟨t, ht, hd⟩ := ih2 (.inl hc)
        have := Scan.ctrl (D := D) (q := q) (strict := s) (Upto.refl k1.1) k1.2.1 h32 hc ht
        rw [seg_self] at this
        refine ⟨_, this, fun p e => ?_⟩
        rw [hd p e]
        rfl
end Mine
end PartP1
section PartP2
open PySem PySem.W PyProof.Rows
set_option maxRecDepth 100000
namespace Mine
theorem fold_up (q ll : Nat) : ∀ (ns : List Int) (s : Int × Nat), 0 ≤ s.1 → (ns.foldl (fun s n => (nextFc q ll s.1 s.2 n, s.2 + (encOf q n).length)) s).1 = s.1
  | [], s, _ => rfl
  | n :: r, s, h => by
    have e : nextFc q ll s.1 s.2 n = s.1 := if_neg (by rintro ⟨_, _, _, _, a⟩; omega)
    rw [List.foldl_cons, fold_up q ll r _ (by rw [e]; exact h)]
    exact e
theorem fold_first (q ll : Nat) : ∀ (ns : List Int) (s : Int × Nat), s.1 < 0 → (ns.foldl (fun s n => (nextFc q ll s.1 s.2 n, s.2 + (encOf q n).length)) s).1 = match firstCtl q ns with | none => s.1 | some b => (ll : Int) + 1 + (s.2 + b : Nat)
  | [], s, _ => rfl
  | n :: r, s, h => by
    rw [List.foldl_cons]
    unfold firstCtl
    cases hp : plainCtl q n with
    | true =>
      have hp' := of_decide_eq_true hp
      have e : nextFc q ll s.1 s.2 n = (ll : Int) + 1 + (s.2 : Nat) := if_pos ⟨hp'.1, hp'.2.1, hp'.2.2.1, hp'.2.2.2, h⟩
      rw [fold_up q ll r _ (by rw [e]; omega)]
      simp only [if_true]
      rw [e]
      rfl
    | false =>
      have hp' := of_decide_eq_false hp
      have e : nextFc q ll s.1 s.2 n = s.1 := if_neg (by rintro ⟨a, b, c, d, _⟩; exact hp' ⟨a, b, c, d⟩)
      rw [fold_first q ll r _ (by rw [e]; exact h)]
      simp only [Bool.false_eq_true, if_false]
      cases firstCtl q r with
      | none => exact e
      | some b =>
        show (ll : Int) + 1 + ((s.2 + (encOf q n).length + b : Nat) : Int) = (ll : Int) + 1 + ((s.2 + (b + (encOf q n).length) : Nat) : Int)
        omega
theorem fc_first (q ll : Nat) (ns : List Int) : fcL q ll ns = match firstCtl q ns with | none => (-1 : Int) | some b => (ll : Int) + 1 + (b : Nat) := by
  have := fold_first q ll ns (-1, 0) (by decide)
  unfold fcL
  rw [this]
  cases firstCtl q ns with
  | none => rfl
  | some b => simp
section
variable {q : Nat} {ns : List Int} {bd T : List Nat} {D Ld : Str} {s : Bool}
theorem at_body (hD : D.cps.toList = Ld.cps.toList ++ [q] ++ bd ++ T) : At D (Ld.length + 1) (bd ++ T) := by
  unfold At
  rw [hD, List.append_assoc]
  have e : Ld.length + 1 = (Ld.cps.toList ++ [q]).length := by simp [Str.length]
  rw [e, List.drop_left]
theorem len_of (hD : D.cps.toList = Ld.cps.toList ++ [q] ++ bd ++ T) : D.length = Ld.length + 1 + bd.length + T.length := by
  have := congrArg List.length hD
  simp only [List.length_append, List.length_cons, List.length_nil, Array.length_toList] at this
  exact this
theorem scan_tail (hq : q = 39 ∨ q = 34) (hb : bd = ns.flatMap (encOf q)) (hD : D.cps.toList = Ld.cps.toList ++ [q] ++ bd ++ T) :
    (T = [] → Scan D q s (Ld.length + 1 + bd.length) [] .unterminated) ∧ (∀ r, T = q :: r → Scan D q s (Ld.length + 1 + bd.length) [] (.done (Ld.length + 1 + bd.length + 1))) := by
  have hl := len_of hD
  refine ⟨fun e => ?_, fun r e => ?_⟩
  · subst e
    exact .miss (by simp at hl; omega) (fun k h1 h2 => by simp at hl; omega)
  · subst e
    have h1 := At.tail (at_body hD)
    have k1 := h1.head
    have := Scan.close (D := D) (q := q) (strict := s) (Upto.refl k1.1) k1.2.1
    rw [seg_self] at this
    exact this
theorem plain_bad (hq : q = 39 ∨ q = 34) (hb : bd = ns.flatMap (encOf q)) (hD : D.cps.toList = Ld.cps.toList ++ [q] ++ bd ++ T) (hT : T = [] ∨ ∃ r, T = q :: r) {fc : Int} (hfc : fc = fcL q Ld.length ns) (h0 : 0 ≤ fc) (hs : s = true) :
    ∃ t p, Scan D q s (Ld.length + 1) t (.bad p) ∧ (p : Int) = fc + 1 := by
  obtain ⟨a1, a2⟩ := scan_tail (s := s) hq hb hD
  have hf := fc_first q Ld.length ns
  rw [← hfc] at hf
  have h := at_body hD
  rw [hb] at h a1 a2
  have key : ∃ t0 o0, Scan D q s (Ld.length + 1 + (ns.flatMap (encOf q)).length) t0 o0 := by
    rcases hT with e | ⟨r, e⟩
    · exact ⟨_, _, a1 e⟩
    · exact ⟨_, _, a2 r e⟩
  obtain ⟨t0, o0, k⟩ := key
  cases hc : firstCtl q ns with
  | none => rw [hc] at hf; simp only at hf; omega
  | some b =>
    rw [hc] at hf
    obtain ⟨t, ht⟩ := (scan_items hq ns _ h k).1 b hs hc
    exact ⟨t, _, ht, by simp only at hf; omega⟩
theorem none_of {fc : Int} (hfc : fc = fcL q Ld.length ns) (h : s = false ∨ fc < 0) : s = false ∨ firstCtl q ns = none := by
  rcases h with h | h
  · exact .inl h
  · right
    have hf := fc_first q Ld.length ns
    rw [← hfc] at hf
    cases hc : firstCtl q ns with
    | none => rfl
    | some b => rw [hc] at hf; simp only at hf; omega
theorem plain_open (hq : q = 39 ∨ q = 34) (hb : bd = ns.flatMap (encOf q)) (hD : D.cps.toList = Ld.cps.toList ++ [q] ++ bd ++ T) (hT : T = []) {fc : Int} (hfc : fc = fcL q Ld.length ns) (h : s = false ∨ fc < 0) :
    ∃ t, Scan D q s (Ld.length + 1) t .unterminated := by
  have k := (scan_tail (s := s) hq hb hD).1 hT
  have h1 := at_body hD
  rw [hb] at h1 k
  obtain ⟨t, ht, _⟩ := (scan_items hq ns _ h1 k).2 (none_of hfc h)
  exact ⟨t, ht⟩
theorem plain_done (hq : q = 39 ∨ q = 34) (hb : bd = ns.flatMap (encOf q)) (hD : D.cps.toList = Ld.cps.toList ++ [q] ++ bd ++ T) {r : List Nat} (hT : T = q :: r) {fc : Int} (hfc : fc = fcL q Ld.length ns) (h : s = false ∨ fc < 0) :
    Scan D q s (Ld.length + 1) (ns.map sgn) (.done (Ld.length + 1 + bd.length + 1)) := by
  have k := (scan_tail (s := s) hq hb hD).2 r hT
  have h1 := at_body hD
  rw [hb] at h1 k ⊢
  obtain ⟨t, ht, hd⟩ := (scan_items hq ns _ h1 k).2 (none_of hfc h)
  rw [hd _ rfl, List.append_nil] at ht
  exact ht
end
end Mine
end PartP2
section PartP3
open PySem PySem.W PyProof.Rows
set_option maxRecDepth 100000
namespace Mine
theorem item_nat {D : Str} {j c : Nat} {K : Int} (hK : K = (j : Int)) (h : j < D.length) (hc : D.cps.getD j 0 = c) : Txt.item D K = ⟨#[c]⟩ := by
  subst hK hc
  have e : seqIndex? (j : Int) D.length = some j := by
    unfold seqIndex?
    dsimp only
    simp only [show ¬ ((j : Int) < 0) by omega, if_false]
    rw [if_pos (by simp only [Bool.and_eq_true, decide_eq_true_eq]; omega)]
    congr 1
  unfold Txt.item Txt.charAt
  rw [e]
  unfold Str.length at h
  simp [Array.getD, h]
structure Ready (D : Str) (k : Int) (i q : Nat) : Prop where
  hk : k = (i : Int)
  h1 : 1 ≤ i
  h2 : i ≤ D.length
  hD : D.length < 1000
  hq : Txt.item D ((i : Int) - 1) = ⟨#[q]⟩
  hq3 : q = 34 ∨ q = 39
  hc : ∀ c ∈ D.cps.toList, c < 16 ^ 8
theorem leads_len : ∀ k : Nat, (leads.getD k Str.empty).length ≤ 9
  | 0 => by decide
  | 1 => by decide
  | 2 => by decide
  | _ + 3 => by show 0 ≤ 9; omega
theorem leads_sml : ∀ k : Nat, ∀ c ∈ (leads.getD k Str.empty).cps.toList, c < 16 ^ 8
  | 0 => by decide +kernel
  | 1 => by decide +kernel
  | 2 => by decide +kernel
  | _ + 3 => by
    intro c hc
    cases hc
theorem dig_lt (up : Bool) (d : Nat) (h : d < 16) : dig up d < 16 ^ 8 := by
  unfold dig
  split
  · omega
  · split <;> omega
theorem hexU_sml (up : Bool) (v : Nat) (hv : v < 65536) : ∀ c ∈ hexU up v, c < 16 ^ 8 := by
  intro c hc
  simp only [hexU, hex4, List.mem_cons, List.not_mem_nil, or_false] at hc
  rcases hc with rfl | rfl | rfl | rfl | rfl | rfl
  · omega
  · omega
  · exact dig_lt _ _ (by omega)
  · exact dig_lt _ _ (by omega)
  · exact dig_lt _ _ (by omega)
  · exact dig_lt _ _ (by omega)
theorem esc_sml (up : Bool) (a : Nat) (ha : a < 1114112) : ∀ c ∈ escU up a, c < 16 ^ 8 := by
  intro c hc
  by_cases h : a < 65536
  · rw [esc_small h] at hc
    exact hexU_sml up a h c hc
  · rw [esc_great (by omega)] at hc
    rcases List.mem_append.mp hc with hc | hc
    · exact hexU_sml up _ (by omega) c hc
    · exact hexU_sml up _ (by omega) c hc
theorem short_lt {a k : Nat} (ha : a < 1114112) (h : shortOf a = some k) : k < 16 ^ 8 := by
  unfold shortOf at h
  repeat' split at h
  all_goals first | (cases h; omega) | (cases h)
theorem enc_sml {q : Nat} (hq : q = 39 ∨ q = 34) (n : Int) : ∀ c ∈ encOf q n, c < 16 ^ 8 := by
  have ha := sgn_lt n
  intro c hc
  cases turn_case' hq n (-1) with
  | quote h0 hq' => rw [enc_esc0 hq h0 (.inl hq')] at hc; exact esc_sml _ _ ha c hc
  | slash h0 _ hb => rw [enc_esc0 hq h0 (.inr hb)] at hc; exact esc_sml _ _ ha c hc
  | noshort h1 hk => rw [enc_esc1 hq h1 hk] at hc; exact esc_sml _ _ ha c hc
  | low h1 => rw [enc_esc2 hq h1] at hc; exact esc_sml _ _ ha c hc
  | up h1 => rw [enc_esc3 hq h1] at hc; exact esc_sml _ _ ha c hc
  | short h1 k hk =>
    rw [enc_short hq h1 hk] at hc
    simp only [List.mem_cons, List.not_mem_nil, or_false] at hc
    rcases hc with rfl | rfl
    · omega
    · exact short_lt ha hk
  | plain h0 hq' hb h32 => rw [enc_plain hq h0 hq' hb, List.mem_singleton] at hc; omega
  | ctrlNew h0 hq' hb h32 _ => rw [enc_plain hq h0 hq' hb, List.mem_singleton] at hc; omega
  | ctrlOld h0 hq' hb h32 _ => rw [enc_plain hq h0 hq' hb, List.mem_singleton] at hc; omega
theorem whole_list (Ld T : Str) (q : Nat) (bd : List Nat) : (Ld ++ ⟨#[q]⟩ ++ ⟨bd.toArray⟩ ++ T : Str).cps.toList = Ld.cps.toList ++ [q] ++ bd ++ T.cps.toList := by
  show (Ld.cps ++ #[q] ++ bd.toArray ++ T.cps).toList = _
  simp
theorem ready {q : Nat} (hq : q = 39 ∨ q = 34) {ns : List Int} {bd : List Nat} (hb : bd = ns.flatMap (encOf q)) (hl : bd.length ≤ 300) {k : Nat} {fc : Int} (_ : fc = fcL q (leads.getD k Str.empty).length ns) (T : Str) (hT : T.length ≤ 10) (hT2 : ∀ c ∈ T.cps.toList, c < 16 ^ 8) :
    Ready (leads.getD k Str.empty ++ ⟨#[q]⟩ ++ ⟨bd.toArray⟩ ++ T) (([0, 3, 9] : List Int).getD k 0 + 1) ((leads.getD k Str.empty).length + 1) q := by
  have e := whole_list (leads.getD k Str.empty) T q bd
  have hlen := len_of e
  have h9 := leads_len k
  have hTl : T.cps.toList.length = T.length := by simp [Str.length]
  refine ⟨by rw [len_tab]; omega, by omega, by omega, by omega, ?_, hq.symm, fun c hc => ?_⟩
  · have hat : At (leads.getD k Str.empty ++ ⟨#[q]⟩ ++ ⟨bd.toArray⟩ ++ T) ((leads.getD k Str.empty).length) (q :: (bd ++ T.cps.toList)) := by
      unfold At
      rw [e, List.append_assoc, List.append_assoc, show (leads.getD k Str.empty).length = (leads.getD k Str.empty).cps.toList.length by simp [Str.length], List.drop_left]
      rfl
    have k1 := hat.head
    exact item_nat (by omega) k1.1 k1.2.1
  · rw [e] at hc
    rcases List.mem_append.mp hc with hc | hc
    · rcases List.mem_append.mp hc with hc | hc
      · rcases List.mem_append.mp hc with hc | hc
        · exact leads_sml k c hc
        · rw [List.mem_singleton] at hc; omega
      · rw [hb] at hc
        obtain ⟨n, _, h⟩ := List.mem_flatMap.mp hc
        exact enc_sml hq n c h
    · exact hT2 c hc
theorem leads_len' {q k : Nat} {ns : List Int} {fc : Int} (_ : fc = fcL q (leads.getD k Str.empty).length ns) : (leads.getD k Str.empty).length ≤ 9 := leads_len k
theorem begin_eq {q k : Nat} {ns : List Int} {fc : Int} (_ : fc = fcL q (leads.getD k Str.empty).length ns) : ([0, 3, 9] : List Int).getD k 0 = (((leads.getD k Str.empty).length + 1 : Nat) : Int) - 1 := by rw [len_tab]; omega
theorem bad_scan {q k : Nat} {ns : List Int} {fc : Int} {bd : List Nat} {s : Bool} (hq : q = 39 ∨ q = 34) (hb : bd = ns.flatMap (encOf q)) (hfc : fc = fcL q (leads.getD k Str.empty).length ns) (T : Str) (hT : T.cps.toList = [] ∨ ∃ r, T.cps.toList = q :: r) (h0 : fc ≥ 0) (hs : s = true) :
    ∃ t o, Scan (leads.getD k Str.empty ++ ⟨#[q]⟩ ++ ⟨bd.toArray⟩ ++ T) q s ((leads.getD k Str.empty).length + 1) t o ∧ ((o = .unterminated ∧ fc + 1 = (((leads.getD k Str.empty).length + 1 : Nat) : Int) - 1) ∨ ∃ p : Nat, o = .bad p ∧ fc + 1 = (p : Int)) := by
  obtain ⟨t, p, h, e⟩ := plain_bad (s := s) hq hb (whole_list (leads.getD k Str.empty) T q bd) hT hfc h0 hs
  exact ⟨t, _, h, .inr ⟨p, rfl, e.symm⟩⟩
theorem open_scan {q k : Nat} {ns : List Int} {fc : Int} {bd : List Nat} {s : Bool} (hq : q = 39 ∨ q = 34) (hb : bd = ns.flatMap (encOf q)) (hfc : fc = fcL q (leads.getD k Str.empty).length ns) (h : s = false ∨ fc < 0) :
    ∃ t o, Scan (leads.getD k Str.empty ++ ⟨#[q]⟩ ++ ⟨bd.toArray⟩ ++ Str.ofString "") q s ((leads.getD k Str.empty).length + 1) t o ∧ ((o = .unterminated ∧ ([0, 3, 9] : List Int).getD k 0 = (((leads.getD k Str.empty).length + 1 : Nat) : Int) - 1) ∨ ∃ p : Nat, o = .bad p ∧ ([0, 3, 9] : List Int).getD k 0 = (p : Int)) := by
  have e : (Str.ofString "").cps.toList = [] := by decide +kernel
  have hD := whole_list (leads.getD k Str.empty) (Str.ofString "") q bd
  obtain ⟨t, h⟩ := plain_open (s := s) hq hb hD e hfc h
  exact ⟨t, _, h, .inl ⟨rfl, begin_eq hfc⟩⟩
theorem tail_first (q : Nat) : ∃ r, (⟨#[q]⟩ ++ Str.ofString " tail" : Str).cps.toList = q :: r := ⟨(Str.ofString " tail").cps.toList, by
  show (#[q] ++ (Str.ofString " tail").cps).toList = _
  simp⟩
theorem done_scan {q k : Nat} {ns : List Int} {fc : Int} {bd tx : List Nat} {s : Bool} (hq : q = 39 ∨ q = 34) (hb : bd = ns.flatMap (encOf q)) (hx : tx = ns.map sgn) (hfc : fc = fcL q (leads.getD k Str.empty).length ns) (h : s = false ∨ fc < 0) :
    ∃ p : Nat, Scan (leads.getD k Str.empty ++ ⟨#[q]⟩ ++ ⟨bd.toArray⟩ ++ (⟨#[q]⟩ ++ Str.ofString " tail")) q s ((leads.getD k Str.empty).length + 1) tx (.done p) ∧ (p : Int) = ([0, 3, 9] : List Int).getD k 0 + ((⟨bd.toArray⟩ : Str).length : Int) + 2 := by
  obtain ⟨r, e⟩ := tail_first q
  generalize (⟨#[q]⟩ ++ Str.ofString " tail" : Str) = T at e ⊢
  have := plain_done (s := s) hq hb (whole_list (leads.getD k Str.empty) T q bd) e hfc h
  rw [← hx] at this
  refine ⟨_, this, ?_⟩
  rw [len_tab]
  show _ = _ + ((bd.length : Nat) : Int) + 2
  omega
theorem tail_len (q : Nat) : (⟨#[q]⟩ ++ Str.ofString " tail" : Str).length ≤ 10 := by
  show (#[q] ++ (Str.ofString " tail").cps).size ≤ 10
  rw [Array.size_append, show (Str.ofString " tail").cps.size = 5 from by decide +kernel]
  show 1 + 5 ≤ 10
  omega
theorem tail_sml {q : Nat} (hq : q = 39 ∨ q = 34) : ∀ c ∈ (⟨#[q]⟩ ++ Str.ofString " tail" : Str).cps.toList, c < 16 ^ 8 := by
  intro c hc
  have e : (⟨#[q]⟩ ++ Str.ofString " tail" : Str).cps.toList = q :: (Str.ofString " tail").cps.toList := by
    show (#[q] ++ (Str.ofString " tail").cps).toList = _
    simp
  rw [e] at hc
  rcases List.mem_cons.mp hc with rfl | hc
  · omega
  · have : ∀ c ∈ (Str.ofString " tail").cps.toList, c < 16 ^ 8 := by decide +kernel
    exact this c hc
end Mine
end PartP3
section PartC8
open PySem PySem.W PyProof.Rows
namespace Mine
theorem scan_done {w : World} {mean : ExcName → Option Value} {mg mb : Str → Option Value} (D : Str) (dt : Tok) (i : Nat) (k : Int) (et : Tok) (strict : Bool) (q : Nat) (t : List Nat) (p : Nat) (hk0 : k = (i : Int)) (h1 : 1 ≤ i) (h2 : i ≤ D.length) (hD : D.length < 1000) (Y : Str) (hq : Txt.item D ((i : Int) - 1) = Y) (hq2 : Y = ⟨#[q]⟩) (hq3 : q = 34 ∨ q = 39)
    (hS : Scan D q strict i t (.done p)) (hc : ∀ c ∈ D.cps.toList, c < 16 ^ 8)
    {dp un : Nat} {gd : Option (List Code)} {cn : Str} {cs : Scope} {a : Addr} {ccd : Value} {cl : List (Str × Addr)} {outer : List Env} {A₀ : Around} {base h₀ : Heap} {L : Addr} {m : Str → Option Value} {news : Led} {s : Shared} {Q E : Value → Shared → Prop}
    (B : Below A₀ base outer h₀) (F : Fr h₀ L s.heap m) (X₀ : (hd.heap_39 w.params).In h₀) (N : News h₀ L s.heap news) (TT : Top hd.view_39 loos mean mg mb h₀) (hk : cs.kind = .function)
    (hd : dp + 8 < recursionLimit) (hu : un + 8 * 8 < cLine) (ht : 1 ≤ s.toks)
    (hret : ∀ G t1 t2 h' tk', Fr h₀ L h' m → News h₀ L h' ((G, { cls := .type "tuple", data := .seq #[.str ⟨t.toArray⟩ t1, .int p t2] }) :: news) → Q (.ref G) { s with heap := h', toks := tk' }) :
    wpAny (model PySem.Challenge.rw_ew0007_01.row.prog w) (ktrTop dp un gd cn cs L a ccd cl outer) (call (.ref 83) [.str D dt, .int k et, .none, .bool strict]) Q E s := by
  subst hk0
  exact scanC D dt i et strict q t (.done p) h1 h2 hD Y hq hq2 hq3 hS hc dp un gd cn cs a ccd cl outer A₀ base h₀ L m news s Q E B F X₀ N TT hk hd hu ht (fun p' e => by cases e; exact hret) (fun e => by cases e) (fun p e => by cases e)
theorem scan_raise {w : World} {mean : ExcName → Option Value} {mg mb : Str → Option Value} (D : Str) (dt : Tok) (i : Nat) (k : Int) (et : Tok) (strict : Bool) (q : Nat) (t : List Nat) (o : End) (P : Int) (hk0 : k = (i : Int)) (h1 : 1 ≤ i) (h2 : i ≤ D.length) (hD : D.length < 1000) (Y : Str) (hq : Txt.item D ((i : Int) - 1) = Y) (hq2 : Y = ⟨#[q]⟩) (hq3 : q = 34 ∨ q = 39)
    (hS : Scan D q strict i t o) (hP : (o = .unterminated ∧ P = (i : Int) - 1) ∨ ∃ p : Nat, o = .bad p ∧ P = (p : Int)) (hc : ∀ c ∈ D.cps.toList, c < 16 ^ 8)
    {dp un : Nat} {gd : Option (List Code)} {cn : Str} {cs : Scope} {a : Addr} {ccd : Value} {cl : List (Str × Addr)} {outer : List Env} {A₀ : Around} {base h₀ : Heap} {L : Addr} {m : Str → Option Value} {news : Led} {s : Shared} {Q E : Value → Shared → Prop}
    (B : Below A₀ base outer h₀) (F : Fr h₀ L s.heap m) (X₀ : (hd.heap_39 w.params).In h₀) (N : News h₀ L s.heap news) (TT : Top hd.view_39 loos mean mg mb h₀) (hk : cs.kind = .function)
    (hd : dp + 8 < recursionLimit) (hu : un + 8 * 8 < cLine) (ht : 1 ≤ s.toks)
    (hret : RaisesAt base (envX cn cs L a ccd cl :: outer) h₀ L m news s E P) :
    wpAny (model PySem.Challenge.rw_ew0007_01.row.prog w) (ktrTop dp un gd cn cs L a ccd cl outer) (call (.ref 83) [.str D dt, .int k et, .none, .bool strict]) Q E s := by
  subst hk0
  refine scanC D dt i et strict q t o h1 h2 hD Y hq hq2 hq3 hS hc dp un gd cn cs a ccd cl outer A₀ base h₀ L m news s Q E B F X₀ N TT hk hd hu ht (fun p' e => ?_) (fun e => ?_) (fun p e => ?_)
  · rcases hP with ⟨h, _⟩ | ⟨p, h, _⟩ <;> (rw [h] at e; cases e)
  · rcases hP with ⟨h, rfl⟩ | ⟨p, h, _⟩
    · exact hret
    · rw [h] at e; cases e
  · rcases hP with ⟨h, _⟩ | ⟨p', h, rfl⟩
    · rw [h] at e; cases e
    · rw [h] at e; cases e; exact hret
theorem scan_doneR {dt et : Tok} {w : World} {mean : ExcName → Option Value} {mg mb : Str → Option Value} {D : Str} {i q : Nat} {k : Int} {strict : Bool} {t : List Nat} {p : Nat} (R : Ready D k i q) (hS : Scan D q strict i t (.done p))
    {dp un : Nat} {gd : Option (List Code)} {cn : Str} {cs : Scope} {a : Addr} {ccd : Value} {cl : List (Str × Addr)} {outer : List Env} {A₀ : Around} {base h₀ : Heap} {L : Addr} {m : Str → Option Value} {news : Led} {s : Shared} {Q E : Value → Shared → Prop}
    (B : Below A₀ base outer h₀) (F : Fr h₀ L s.heap m) (X₀ : (hd.heap_39 w.params).In h₀) (N : News h₀ L s.heap news) (TT : Top hd.view_39 loos mean mg mb h₀) (hk : cs.kind = .function)
    (hd : dp + 8 < recursionLimit) (hu : un + 8 * 8 < cLine) (ht : 1 ≤ s.toks)
    (hret : ∀ G t1 t2 h' tk', Fr h₀ L h' m → News h₀ L h' ((G, { cls := .type "tuple", data := .seq #[.str ⟨t.toArray⟩ t1, .int p t2] }) :: news) → Q (.ref G) { s with heap := h', toks := tk' }) :
    wpAny (model PySem.Challenge.rw_ew0007_01.row.prog w) (ktrTop dp un gd cn cs L a ccd cl outer) (call (.ref 83) [.str D dt, .int k et, .none, .bool strict]) Q E s :=
  scan_done D dt i k et strict q t p R.hk R.h1 R.h2 R.hD _ R.hq rfl R.hq3 hS R.hc B F X₀ N TT hk hd hu ht hret
theorem scan_raiseR {dt et : Tok} {w : World} {mean : ExcName → Option Value} {mg mb : Str → Option Value} {D : Str} {i q : Nat} {k : Int} {strict : Bool} {t : List Nat} {o : End} {P : Int} (R : Ready D k i q) (hS : Scan D q strict i t o) (hP : (o = .unterminated ∧ P = (i : Int) - 1) ∨ ∃ p : Nat, o = .bad p ∧ P = (p : Int))
    {dp un : Nat} {gd : Option (List Code)} {cn : Str} {cs : Scope} {a : Addr} {ccd : Value} {cl : List (Str × Addr)} {outer : List Env} {A₀ : Around} {base h₀ : Heap} {L : Addr} {m : Str → Option Value} {news : Led} {s : Shared} {Q E : Value → Shared → Prop}
    (B : Below A₀ base outer h₀) (F : Fr h₀ L s.heap m) (X₀ : (hd.heap_39 w.params).In h₀) (N : News h₀ L s.heap news) (TT : Top hd.view_39 loos mean mg mb h₀) (hk : cs.kind = .function)
    (hd : dp + 8 < recursionLimit) (hu : un + 8 * 8 < cLine) (ht : 1 ≤ s.toks)
    (hret : RaisesAt base (envX cn cs L a ccd cl :: outer) h₀ L m news s E P) :
    wpAny (model PySem.Challenge.rw_ew0007_01.row.prog w) (ktrTop dp un gd cn cs L a ccd cl outer) (call (.ref 83) [.str D dt, .int k et, .none, .bool strict]) Q E s :=
  scan_raise D dt i k et strict q t o P R.hk R.h1 R.h2 R.hD _ R.hq rfl R.hq3 hS hP R.hc B F X₀ N TT hk hd hu ht hret
end Mine
end PartC8
section PartX6
open PySem PySem.W PyProof.Rows
set_option maxRecDepth 100000
namespace Mine
section
variable {prog : Program} {w : World} {A : Around} {E : Value → Shared → Prop} {s : Shared} {K : Frag} {x C : Addr} {ox : Obj} {od : Option Obj} {name : Str} {expr : Bool} {Q : Value → Shared → Prop}
theorem ga_exc : Slot "ValueError" "__getattribute__" "BaseException.__getattribute__" := PySem.F.attr_ValueError.ga
theorem kind_ga : builtinKind "BaseException.__getattribute__" = some .slot := by decide +kernel
theorem split_ga : splitId "BaseException.__getattribute__" = some ("BaseException", "__getattribute__") := by decide +kernel
theorem exc_get {v : Value} (X : K.In s.heap) (I : InstAt s.heap x ox C od) (hga : findIn K (.ref C) "__getattribute__" = some (some (.builtin "BaseException.__getattribute__"))) (hgg : findIn K (.ref C) "__getattr__" = some none) (hb : mroIn K C (.type "BaseException") = some true)
    (hf : findObj K C od name = some (.value v)) (hh : handedIn v = true) (h : Q v { s with toks := s.toks + 1 }) : wpAny (model prog w) A (getAttr (.ref x) name expr) Q E s := by
  obtain ⟨hp, g, d, t, os⟩ := s
  have L0 := I.type (M := model prog w)
  have L1 := looks_findIn (M := model prog w) X hga
  have L2 := looks_findIn (M := model prog w) X hgg
  have L3 := looks_find (M := model prog w) X I hf
  unfold getAttr getAttrBy
  refine wpAny_bind (wpAny_mkText (wpAny_holding (wpAny_bind (L0.at (wpAny_bind (L1.at ?_))))))
  have ne : (Value.builtin "BaseException.__getattribute__" == Value.builtin "object.__getattribute__") = false := by decide +kernel
  show wpAny _ _ (if (onTheHeap (Value.ref C) && Value.builtin "BaseException.__getattribute__" == Value.builtin "object.__getattribute__") = true then _ else _) _ _ _
  rw [if_neg (by rw [ne, Bool.and_false]; decide)]
  unfold getAttrByItsOwn hookBefore
  rw [if_pos (show onTheHeap (Value.ref C) = true from rfl)]
  refine wpAny_bind (L2.at (wpAny_bind (wpAny_attempt (wpAny_holding ?_))))
  unfold callGetattribute
  rw [if_neg (by rw [show onTheHeap (Value.builtin "BaseException.__getattribute__") = false from rfl, Bool.and_false]; decide)]
  unfold boundAndCalled
  rw [ga_exc.bind]
  refine wpAny_bind (wpAny_pure (wpAny_call (codeAny_call_builtin ga_exc.plain PySem.F.entry_bexc_ga ?_)))
  have sub : Looks (model prog w) hp (isInstance (.ref x) (.type "BaseException")) true := L0.andThen (looks_mroIn X hb)
  refine @check_slot (model prog w) _ _ ⟨hp, g, d, t + 1, os⟩ "BaseException.__getattribute__" "BaseException" "__getattribute__" (.ref x) [.str name t] [] _ kind_ga split_ga sub (PySem.F.args_bexc_ga _ _) ?_
  unfold Builtin.«object.__getattribute__»
  refine wpAny_bind (wpAny_of_eq (a := (Value.ref x, [Value.str name t])) rfl ?_)
  refine wpAny_bind (wpAny_of_eq (a := name) rfl ?_)
  refine wpAny_bind (L0.at (wpAny_bind (L3.at ?_)))
  refine wpAny_pure ?_
  show wpAny _ _ (handedOut v) _ _ _
  rw [handedOut_of hh]
  exact wpAny_pure h
end
end Mine
end PartX6
section PartX7
open PySem PySem.W PyProof.Rows
set_option maxRecDepth 100000
namespace Mine
theorem g1 (P : Params) : findIn (hd.heap_39 P) (.ref 51) "__getattribute__" = some (some (.builtin "BaseException.__getattribute__")) := by kernel_rfl
theorem g2 (P : Params) : findIn (hd.heap_39 P) (.ref 51) "__getattr__" = some none := by kernel_rfl
theorem g3 (P : Params) : mroIn (hd.heap_39 P) 51 (.type "BaseException") = some true := by kernel_rfl
theorem g4 (P : Params) : hasDictIn (hd.heap_39 P) 51 = true := by kernel_rfl
theorem g5 (P : Params) : findIn (hd.heap_39 P) (.ref 51) (Str.ofString "pos") = some none := by kernel_rfl
theorem pos_get {prog : Program} {w : World} {A : Around} {E : Value → Shared → Prop} {s : Shared} {h₀ : Heap} {L x : Addr} {m : Str → Option Value} {ox : Obj} {es : List DictEntry} {n : Nat} {expr : Bool} {v : Value} {Q : Value → Shared → Prop} (F : Fr h₀ L s.heap m) (X₀ : (hd.heap_39 w.params).In h₀)
    (I : InstAt s.heap x ox 51 (some (dictOf es n))) (hl : getL (Str.ofString "pos") es = some (some v)) (hv : handedIn v = true) (h : Q v { s with toks := s.toks + 1 }) : wpAny (model prog w) A (getAttr (.ref x) (Str.ofString "pos") expr) Q E s :=
  exc_get (X₀.keeps F.keep) I (g1 _) (g2 _) (g3 _) (findObj_own (g4 _) (g5 _) rfl hl) hv h
end Mine
end PartX7
section PartL1
open PySem PySem.W PyProof.Rows
local macro_rules | `(tactic| walk_at "eval IfExp") => `(tactic| (k_here; refine Mine.sign_ifexp ?_))
local macro_rules | `(tactic| walk_at "exec For") => `(tactic| (k_here; (rename Fr _ _ _ _ => F'); with_unfolding_all refine Mine.forV F' (by rfl) (by rfl) ?_))
local macro_rules | `(tactic| walk_at "pyIter ref") => `(tactic| (k_here; (rename Fr _ _ _ _ => F'); (rename News _ _ _ _ => N'); with_unfolding_all refine' Mine.law_loop ?hh ?hi F' N' ?hl ?hsg ?hld ?hb ?ht ?hf ?_ ?_; (case hh => exact rfl); (case hi => assumption); (case hl => k_mem); (case hsg => exact rfl); (case hld => exact rfl); (case hb => exact rfl); (case ht => exact rfl); (case hf => exact rfl)))
local macro_rules | `(tactic| walk_at "ite") => `(tactic| with_reducible (first | (refine Mine.ite_t (by assumption) ?_) | (refine Mine.ite_f (by assumption) ?_) | (refine Mine.ite_nt (by assumption) ?_) | (refine Mine.ite_nf (by assumption) ?_) | (refine Mine.ite_bt (by assumption) ?_) | (refine Mine.ite_bf (by assumption) ?_) | (refine Mine.ite_dt (by assumption) ?_) | (refine Mine.ite_df (by assumption) ?_)))
local macro_rules | `(tactic| walk_at "call builtin:ord") => `(tactic| (k_here; (with_reducible refine Mine.ord_one ?_)))
local macro_rules | `(tactic| walk_at "call ref") => `(tactic| (k_here; (with_reducible show wpAny _ _ (call (Value.ref 90) _ _) _ _ _); k_dflt (refine' Mine.use Mine.signsC ?B ?F ?X ?N ?T ?K ?d ?u ?_; (case B => k_asm); (case F => k_asm); (case X => k_asm); (case N => k_asm); (case T => k_asm); (case K => exact rfl); (case d => first | decide | ((try simp only [depth_under_make, depth_under_kw, depth_in1, depth_deeper, depth_caller]); first | decide | omega)); (case u => first | decide | ((try simp only [units_in1, units_deeper, Around.mark_units, units_caller]); first | decide | omega)); k_whole); intro l' its' n' h' tk' hS' F' N' l1; (try k_lt l1); (try k_fold)))
local macro_rules | `(tactic| walk_at "call ref") => `(tactic| (k_here; (with_reducible show wpAny _ _ (call (Value.ref 97) _ _) _ _ _); k_dflt (refine' Mine.use Mine.shortC ?B ?F ?X ?N ?T ?K ?d ?u ?_; (case B => k_asm); (case F => k_asm); (case X => k_asm); (case N => k_asm); (case T => k_asm); (case K => exact rfl); (case d => first | decide | ((try simp only [depth_under_make, depth_under_kw, depth_in1, depth_deeper, depth_caller]); first | decide | omega)); (case u => first | decide | ((try simp only [units_in1, units_deeper, Around.mark_units, units_caller]); first | decide | omega)); k_whole); intro d' o' kvs' h' tk' lo' hD' hF' F' N' l1; (try k_lt l1); (try k_fold)))
local macro_rules | `(tactic| walk_at "call ref") => `(tactic| (k_here; (with_reducible show wpAny _ _ (call (Value.ref 111) _ _) _ _ _); k_dflt (first | (refine' Mine.use (Mine.escC1 _ _ _ _ _ ?h1 ?hD) ?B ?F ?X ?N ?T ?K ?d ?u ?_; (case h1 => assumption); (case hD => assumption); (case B => k_asm); (case F => k_asm); (case X => k_asm); (case N => k_asm); (case T => k_asm); (case K => exact rfl); (case d => first | decide | ((try simp only [depth_under_make, depth_under_kw, depth_in1, depth_deeper, depth_caller]); first | decide | omega)); (case u => first | decide | ((try simp only [units_in1, units_deeper, Around.mark_units, units_caller]); first | decide | omega)); k_whole) | (refine' Mine.use (Mine.escC2 _ _ _ _ _ ?h1 ?h2 ?hD) ?B ?F ?X ?N ?T ?K ?d ?u ?_; (case h1 => assumption); (case h2 => assumption); (case hD => assumption); (case B => k_asm); (case F => k_asm); (case X => k_asm); (case N => k_asm); (case T => k_asm); (case K => exact rfl); (case d => first | decide | ((try simp only [depth_under_make, depth_under_kw, depth_in1, depth_deeper, depth_caller]); first | decide | omega)); (case u => first | decide | ((try simp only [units_in1, units_deeper, Around.mark_units, units_caller]); first | decide | omega)); k_whole)); intro t' h' tk' F' N'; (try k_fold)))
local macro_rules | `(tactic| walk_at "InvEndN") => `(tactic| ((rename Fr _ _ _ _ => fE); (rename News _ _ _ _ => nE); k_dflt (refine' Mine.law_next fE nE ?b ?t ?f ?eb ?et ?ef ?h3 ?h4 ?hr; (case b => exact rfl); (case t => exact rfl); (case f => exact rfl); (case eb => exact Mine.body_next (by assumption) (by assumption) (by first | rfl | decide)); (case et => exact Mine.text_next (by assumption)); (case ef => first | exact Mine.fc_same (by assumption) (by assumption) | exact Mine.fc_new (by assumption) (by assumption) (by assumption) | exact Mine.fc_new' (by assumption) (by assumption) (by assumption)); (case h3 => (with_unfolding_all ((try simp only [List.nil_append, List.cons_append]); k_allIn))); (case h4 => (intro p hp; k_ownIn)); (case hr => (intro z h1 h2 h3 h4 h5; (simp only [Mine.lawStored, List.contains_cons, List.contains_nil, Bool.or_false, Bool.or_eq_false_iff, beq_eq_false_iff_ne, ne_eq] at h1 h2 h3 h4 h5); (simp [kstB, h1, h2, h3, h4, h5]))))))
local macro_rules | `(tactic| walk_at "subscriptTail") => `(tactic| (k_here; (with_reducible show wpAny _ _ (subscriptTail _ _ (Value.ref _) (Value.int (Int.fmod _ 20) _)) _ _ _); (with_reducible refine' Mine.sign_at ?N ?hm ?hi ?_); (case N => k_asm); (case hm => k_dflt k_mem); (case hi => assumption); intro t'))
local macro_rules | `(tactic| walk_at "subscriptTail") => `(tactic| (k_here; (with_reducible show wpAny _ _ (subscriptTail _ _ (Value.ref _) (Value.str _ _)) _ _ _); (with_reducible refine' Mine.short_at ?T ?hh ?hl ?_); (case T => k_dflt k_tabat); (case hh => exact rfl); (case hl => assumption); intro t'))
local macro_rules | `(tactic| walk_at "call ref") => `(tactic| (k_here; (with_reducible show wpAny _ _ (call (Value.ref 83) _ _) _ _ _); k_dflt (refine' Mine.scan_doneR ?R ?S ?B ?F ?X ?N ?T ?K ?d ?u ?t ?_; (case R => assumption); (case S => assumption); (case B => k_asm); (case F => k_asm); (case X => k_asm); (case N => k_asm); (case T => k_asm); (case K => exact rfl); (case d => first | decide | ((try simp only [depth_under_make, depth_under_kw, depth_in1, depth_deeper, depth_caller]); first | decide | omega)); (case u => first | decide | ((try simp only [units_in1, units_deeper, Around.mark_units, units_caller]); first | decide | omega)); (case t => (dsimp only; omega)); k_whole); intro G' t1' t2' h' tk' F' N'; (try k_fold)))
local macro_rules | `(tactic| walk_at "call ref") => `(tactic| (k_here; (with_reducible show wpAny _ _ (call (Value.ref 83) _ _) _ _ _); k_dflt (refine' Mine.scan_raiseR ?R ?S ?P ?B ?F ?X ?N ?T ?K ?d ?u ?t ?_; (case R => assumption); (case S => assumption); (case P => assumption); (case B => k_asm); (case F => k_asm); (case X => k_asm); (case N => k_asm); (case T => k_asm); (case K => exact rfl); (case d => first | decide | ((try simp only [depth_under_make, depth_under_kw, depth_in1, depth_deeper, depth_caller]); first | decide | omega)); (case u => first | decide | ((try simp only [units_in1, units_deeper, Around.mark_units, units_caller]); first | decide | omega)); (case t => (dsimp only; omega)); k_whole); intro e' dd' es' n' pt' h' g' tk' F' R' U' hp'; (try k_fold)))
local macro_rules | `(tactic| walk_at "noteFrame ref") => `(tactic| (k_here; k_dflt (refine' Mine.caught_X ?K ?F ?U ?R ?X ?T ?ex ?_ ?hk ?hlo ?hx ?hd; (case K => assumption); (case R => assumption); (case U => assumption); (case F => assumption); (case X => k_asm); (case T => k_asm); (case ex => k_is); (case hk => exact rfl); (case hlo => exact rfl); (case hx => exact rfl); (case hd => decide); k_whole); intro h' vs' sl' tk' F' N'))
local macro_rules | `(tactic| k_inst) => `(tactic| (refine' Mine.exc_inst2 ?N ?h1 ?h2; (case N => k_asm); (case h1 => k_mem); (case h2 => k_mem)))
local macro_rules | `(tactic| walk_at "getAttr ref") => `(tactic| (k_here; (with_reducible show wpAny _ _ (getAttr (Value.ref _) (Str.ofString "pos") _) _ _ _); k_dflt (refine' Mine.pos_get ?F ?X ?I ?hl ?hv ?_; (case F => k_asm); (case X => k_asm); (case I => k_inst); (case hl => assumption); (case hv => exact rfl); k_whole)))
set_option maxRecDepth 100000 in
set_option maxHeartbeats 8000000 in
theorem PySem.Challenge.cw_ew0007_01_holds : PySem.Challenge.rw_ew0007_01.Holds := by
  k_with "table" => skip
  exact hd (by
    k_go0
    (all_goals try k_fold)
    k_steps
    · intro c pre post n t u h tk own hns hP Fk Nk
      obtain ⟨bd, tx, fc, tb, tt, tf⟩ := c
      obtain ⟨hbd, htx, hfc⟩ := hP
      dsimp only at hbd htx hfc
      rename (_ = 39 ∨ _ = 34) => hq3
      dsimp only [Mine.lawPs, Mine.lawStored] at Fk ⊢
      have hlen := congrArg List.length hns
      simp only [List.length_append, List.length_drop, List.length_take, List.length_cons, List.length_nil] at hlen
      have hbl := Mine.body_len' hbd
      have hb1 : (⟨bd.toArray⟩ : Str).length = bd.length := rfl
      have ht1 : (⟨tx.toArray⟩ : Str).length = tx.length := rfl
      have ht2 : tx.length = pre.length := by rw [htx, List.length_map]
      have hzA : (⟨(Mine.hexU false (Mine.sgn n)).toArray⟩ : Str).length = 6 := rfl
      have hzB : (⟨(Mine.hexU true (Mine.sgn n)).toArray⟩ : Str).length = 6 := rfl
      have hzC : (⟨(Mine.hexU false (55296 + (Mine.sgn n - 65536) / 1024) ++ Mine.hexU false (56320 + (Mine.sgn n - 65536) % 1024)).toArray⟩ : Str).length = 12 := rfl
      have hzD : (⟨(Mine.hexU true (55296 + (Mine.sgn n - 65536) / 1024) ++ Mine.hexU true (56320 + (Mine.sgn n - 65536) % 1024)).toArray⟩ : Str).length = 12 := rfl
      have hd1 : Str.ofString "0123456789ABCDEF" = Mine.digs true := rfl
      have hd2 : Str.ofString "0123456789abcdef" = Mine.digs false := rfl
      cases Mine.turn_case' hq3 n fc with
      | plain h0 hq hb h32 =>
        have hW := Mine.way_eq n 0 h0
        have hW0 : ((n.fdiv 20).fmod 4 == 0) = true := by rw [hW]; decide
        have hW1 : ((n.fdiv 20).fmod 4 == 1) = false := by rw [hW]; decide
        have hW3 : ((n.fdiv 20).fmod 4 == 3) = false := by rw [hW]; decide
        have hY := Mine.one_ne hq
        have hB : ((⟨#[Mine.sgn n]⟩ : Str) == Str.ofString "\\") = false := Mine.one_ne (q := 92) hb
        have h33 : ¬ ((Mine.sgn n : Int) < 32) := by omega
        have hE := Mine.enc_plain hq3 h0 hq hb
        have hN := Mine.nf_same hq3 (n := n) (fc := fc) (by rintro ⟨a1, a2, a3, a4, a5⟩; omega)
        k_steps
      | ctrlNew h0 hq hb h32 hf =>
        have hW := Mine.way_eq n 0 h0
        have hW0 : ((n.fdiv 20).fmod 4 == 0) = true := by rw [hW]; decide
        have hW1 : ((n.fdiv 20).fmod 4 == 1) = false := by rw [hW]; decide
        have hW3 : ((n.fdiv 20).fmod 4 == 3) = false := by rw [hW]; decide
        have hY := Mine.one_ne hq
        have hB : ((⟨#[Mine.sgn n]⟩ : Str) == Str.ofString "\\") = false := Mine.one_ne (q := 92) hb
        have h33 : ((Mine.sgn n : Int) < 32) := by omega
        have hE := Mine.enc_plain hq3 h0 hq hb
        have hN := Mine.nf_new hq3 ⟨h0, hq, hb, h32, hf⟩
        k_steps
      | ctrlOld h0 hq hb h32 hf =>
        have hW := Mine.way_eq n 0 h0
        have hW0 : ((n.fdiv 20).fmod 4 == 0) = true := by rw [hW]; decide
        have hW1 : ((n.fdiv 20).fmod 4 == 1) = false := by rw [hW]; decide
        have hW3 : ((n.fdiv 20).fmod 4 == 3) = false := by rw [hW]; decide
        have hY := Mine.one_ne hq
        have hB : ((⟨#[Mine.sgn n]⟩ : Str) == Str.ofString "\\") = false := Mine.one_ne (q := 92) hb
        have h33 : ((Mine.sgn n : Int) < 32) := by omega
        have hE := Mine.enc_plain hq3 h0 hq hb
        have hN := Mine.nf_same hq3 (n := n) (fc := fc) (by rintro ⟨a1, a2, a3, a4, a5⟩; omega)
        k_steps
      | quote h0 hq =>
        have hW := Mine.way_eq n 0 h0
        have hW0 : ((n.fdiv 20).fmod 4 == 0) = true := by rw [hW]; decide
        have hW1 : ((n.fdiv 20).fmod 4 == 1) = false := by rw [hW]; decide
        have hW3 : ((n.fdiv 20).fmod 4 == 3) = false := by rw [hW]; decide
        have hY := Mine.one_eq hq
        have h16 : Mine.sgn n < 65536 := by omega
        have hE := (Mine.enc_esc0 hq3 h0 (.inl hq)).trans (Mine.esc_small h16)
        have hN := Mine.nf_same hq3 (n := n) (fc := fc) (by rintro ⟨a1, a2, a3, a4, a5⟩; omega)
        k_steps
      | slash h0 hq hb =>
        have hW := Mine.way_eq n 0 h0
        have hW0 : ((n.fdiv 20).fmod 4 == 0) = true := by rw [hW]; decide
        have hW1 : ((n.fdiv 20).fmod 4 == 1) = false := by rw [hW]; decide
        have hW3 : ((n.fdiv 20).fmod 4 == 3) = false := by rw [hW]; decide
        have hY := Mine.one_ne hq
        have hB : ((⟨#[Mine.sgn n]⟩ : Str) == Str.ofString "\\") = true := Mine.one_eq (q := 92) hb
        have h16 : Mine.sgn n < 65536 := by omega
        have hE := (Mine.enc_esc0 hq3 h0 (.inr hb)).trans (Mine.esc_small h16)
        have hN := Mine.nf_same hq3 (n := n) (fc := fc) (by rintro ⟨a1, a2, a3, a4, a5⟩; omega)
        k_steps
      | short h1 k hk =>
        have hW := Mine.way_eq n 1 h1
        have hW0 : ((n.fdiv 20).fmod 4 == 0) = false := by rw [hW]; decide
        have hW1 : ((n.fdiv 20).fmod 4 == 1) = true := by rw [hW]; decide
        have hW3 : ((n.fdiv 20).fmod 4 == 3) = false := by rw [hW]; decide
        have hl := Mine.short_some hk
        have hs : (PySem.Spec.lookup (.str ⟨#[Mine.sgn n]⟩) Mine.shortD).isSome = true := by rw [hl]; rfl
        have hE := Mine.enc_short hq3 h1 hk
        have hN := Mine.nf_same hq3 (n := n) (fc := fc) (by rintro ⟨a1, a2, a3, a4, a5⟩; omega)
        k_steps
      | noshort h1 hk =>
        have hW := Mine.way_eq n 1 h1
        have hW0 : ((n.fdiv 20).fmod 4 == 0) = false := by rw [hW]; decide
        have hW1 : ((n.fdiv 20).fmod 4 == 1) = true := by rw [hW]; decide
        have hW3 : ((n.fdiv 20).fmod 4 == 3) = false := by rw [hW]; decide
        have hl := Mine.short_none hk
        have hs : (PySem.Spec.lookup (.str ⟨#[Mine.sgn n]⟩) Mine.shortD).isSome = false := by rw [hl]; rfl
        have hN := Mine.nf_same hq3 (n := n) (fc := fc) (by rintro ⟨a1, a2, a3, a4, a5⟩; omega)
        rcases Nat.lt_or_ge (Mine.sgn n) 65536 with h16 | h16
        · have hE := (Mine.enc_esc1 hq3 h1 hk).trans (Mine.esc_small h16)
          k_steps
        · have h17 := Mine.sgn_lt n
          have hE := (Mine.enc_esc1 hq3 h1 hk).trans (Mine.esc_great h16)
          k_steps
      | low h2 =>
        have hW := Mine.way_eq n 2 h2
        have hW0 : ((n.fdiv 20).fmod 4 == 0) = false := by rw [hW]; decide
        have hW1 : ((n.fdiv 20).fmod 4 == 1) = false := by rw [hW]; decide
        have hW3 : ((n.fdiv 20).fmod 4 == 3) = false := by rw [hW]; decide
        have hN := Mine.nf_same hq3 (n := n) (fc := fc) (by rintro ⟨a1, a2, a3, a4, a5⟩; omega)
        rcases Nat.lt_or_ge (Mine.sgn n) 65536 with h16 | h16
        · have hE := (Mine.enc_esc2 hq3 h2).trans (Mine.esc_small h16)
          k_steps
        · have h17 := Mine.sgn_lt n
          have hE := (Mine.enc_esc2 hq3 h2).trans (Mine.esc_great h16)
          k_steps
      | up h3 =>
        have hW := Mine.way_eq n 3 h3
        have hW0 : ((n.fdiv 20).fmod 4 == 0) = false := by rw [hW]; decide
        have hW1 : ((n.fdiv 20).fmod 4 == 1) = false := by rw [hW]; decide
        have hW3 : ((n.fdiv 20).fmod 4 == 3) = true := by rw [hW]; decide
        have hN := Mine.nf_same hq3 (n := n) (fc := fc) (by rintro ⟨a1, a2, a3, a4, a5⟩; omega)
        rcases Nat.lt_or_ge (Mine.sgn n) 65536 with h16 | h16
        · have hE := (Mine.enc_esc3 hq3 h3).trans (Mine.esc_small h16)
          k_steps
        · have h17 := Mine.sgn_lt n
          have hE := (Mine.enc_esc3 hq3 h3).trans (Mine.esc_great h16)
          k_steps
    · intro c u h tk hP Fk Nk
      obtain ⟨bd, tx, fc, tb, tt, tf⟩ := c
      obtain ⟨hbd, htx, hfc⟩ := hP
      dsimp only at hbd htx hfc
      rename (_ = 39 ∨ _ = 34) => hq3
      rename List Int => wns
      dsimp only [Mine.lawPs, Mine.lawStored] at Fk ⊢
      have hbl := Mine.body_len' hbd
      simp only [List.length_append, List.length_drop, List.length_take, List.length_cons, List.length_nil] at hbl
      have hbl2 : bd.length ≤ 300 := by omega
      have hb1 : (⟨bd.toArray⟩ : Str).length = bd.length := rfl
      have ht1 : (⟨tx.toArray⟩ : Str).length = tx.length := rfl
      have hl9 := Mine.leads_len' hfc
      dsimp only [Mine.leads] at hl9
      have r1 := Mine.ready hq3 hbd hbl2 hfc (Str.ofString "") (by decide) (by decide +kernel)
      have r2 := Mine.ready hq3 hbd hbl2 hfc _ (Mine.tail_len _) (Mine.tail_sml hq3)
      dsimp only [Mine.leads] at r1 r2
      rcases (show fc < 0 ∨ fc ≥ 0 by omega) with h0 | h0
      · have h0' : ¬ fc ≥ 0 := by omega
        rcases Bool.eq_false_or_eq_true (((List.take 24 wns ++ [0, 0, 0, 0]).getD (Int.toNat 3) 0).fmod 5 == 4) with hO | hO
        · obtain ⟨t, o, hS, hP⟩ := Mine.open_scan (s := (((List.take 24 wns ++ [0, 0, 0, 0]).getD (Int.toNat 1) 0).fmod 3 != 0)) hq3 hbd hfc (.inr h0)
          dsimp only [Mine.leads] at hS hP
          k_steps
        · obtain ⟨p, hS, hP⟩ := Mine.done_scan (s := (((List.take 24 wns ++ [0, 0, 0, 0]).getD (Int.toNat 1) 0).fmod 3 != 0)) hq3 hbd htx hfc (.inr h0)
          dsimp only [Mine.leads] at hS hP
          k_steps
      · rcases Bool.eq_false_or_eq_true (((List.take 24 wns ++ [0, 0, 0, 0]).getD (Int.toNat 1) 0).fmod 3 != 0) with hs | hs
        · rcases Bool.eq_false_or_eq_true (((List.take 24 wns ++ [0, 0, 0, 0]).getD (Int.toNat 3) 0).fmod 5 == 4) with hO | hO
          · obtain ⟨t, o, hS, hP⟩ := Mine.bad_scan hq3 hbd hfc (Str.ofString "") (.inl (by decide +kernel)) h0 hs
            dsimp only [Mine.leads] at hS hP
            k_steps
          · obtain ⟨t, o, hS, hP⟩ := Mine.bad_scan hq3 hbd hfc _ (.inr (Mine.tail_first _)) h0 hs
            dsimp only [Mine.leads] at hS hP
            k_steps
        · rcases Bool.eq_false_or_eq_true (((List.take 24 wns ++ [0, 0, 0, 0]).getD (Int.toNat 3) 0).fmod 5 == 4) with hO | hO
          · obtain ⟨t, o, hS, hP⟩ := Mine.open_scan (s := (((List.take 24 wns ++ [0, 0, 0, 0]).getD (Int.toNat 1) 0).fmod 3 != 0)) hq3 hbd hfc (.inl hs)
            dsimp only [Mine.leads] at hS hP
            k_steps
          · obtain ⟨p, hS, hP⟩ := Mine.done_scan (s := (((List.take 24 wns ++ [0, 0, 0, 0]).getD (Int.toNat 1) 0).fmod 3 != 0)) hq3 hbd htx hfc (.inl hs)
            dsimp only [Mine.leads] at hS hP
            k_steps)
end PartL1
