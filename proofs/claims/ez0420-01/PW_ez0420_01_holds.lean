import PyProof.Rows.All
import Wide.All
import OpenK.AllK
import Wide.FinOn
import Lean
import PySem.Challenge.RW_ez0420_01
set_option Elab.async false
set_option maxRecDepth 100000
set_option maxHeartbeats 0
set_option linter.all false
section
open PySem PySem.W PyProof.Rows
namespace Mine
open_top hd1 for PySem.Challenge.rw_ez0420_01
end Mine
end
theorem Mine.quiet : True := by
  w_top off
  trivial
section
open PySem PySem.W PyProof.Rows
namespace Mine

def PureR (s : Shared) (Q : Value → Heap → Prop) (r : Result) (s' : Shared) : Prop :=
  ∃ v h' tk', r = .ok (.ret v) ∧ s' = { s with heap := h', toks := tk' } ∧ (∀ b o, s.heap.get? b = some o → h'.get? b = some o) ∧ Q v h'

theorem enterP {prog : Program} {w : World} {A : Around} {s : Shared} {K : Frag} {f : Addr} {oc : Value} {od : Option Addr} {name qual : Str} {params : Arguments} {body : List Stmt} {scope : Scope}
    {dV kV doc pm : Value} {an : Option Addr} {cdv ct : Value} {osl : Array (Option Value)} {args : Args} {binds : List (Str × Value)} {Q : Value → Heap → Prop}
    (X : K.In s.heap) (NL : s.heap.NoLimit) (hroom : A.depth < recursionLimit)
    (ho : K.lookup f = some ⟨oc, od, .func (fnOf name qual params body scope dV kV doc pm an cdv ct), osl⟩) (hcd : codeIn K cdv qual = true)
    (hbind : BindsTo s (fnOf name qual params body scope dV kV doc pm an cdv ct) args binds) (hloc : ∀ y ∈ binds, scope.names.lookup y.1 = some .local)
    (hco : scope.isCoroutine = false) (hgen : scope.isGenerator = false) (hk : scope.kind = .function)
    (hcell : ∀ x ∈ scope.names, x.2 ≠ .cell)
    (h : ∀ L' h₁, L' = s.heap.objs.size → Fr s.heap L' h₁ (fun y => binds.reverse.lookup y) → News s.heap L' h₁ [] →
      wpAny (model prog w) (A.deeper (envOf qual scope L' f cdv)) (execs body (envOf qual scope L' f cdv))
        (fun fl s' => PureR s Q (.ok (.ret (match fl with | .ret v => v | _ => .none))) s') (fun _ _ => False)
        { s with heap := h₁, toks := s.toks + binds.length }) :
    codeAny (model prog w) A (.call (.ref f) args) (PureR s Q) s := by
  refine codeAny_call_def (fd := fnOf name qual params body scope dV kV doc pm an cdv ct) (body := body) (binds := binds) hroom (X _ _ ho) rfl NL (codeRec_of X hcd) rfl hbind hcell hloc (fun h₁ hns hk₁ => ?_) hco hgen hk
  refine wpAny_mono (h s.heap.objs.size h₁ rfl ⟨hns, hk₁, Nat.le_refl _⟩ News.nil) (fun fl s' hl => hl) fun _ _ y => y.elim

theorem PureR.intro {s : Shared} {L : Addr} {h' : Heap} {m : Str → Option Value} {tk : Tok} {v : Value} {Q : Value → Heap → Prop} (F : Fr s.heap L h' m) (q : Q v h') :
    PureR s Q (.ok (.ret v)) { s with heap := h', toks := tk } := ⟨v, h', tk, rfl, rfl, F.keep, q⟩

abbrev prog1 : Program := PySem.Challenge.rw_ez0420_01.row.prog
end Mine
end
section
namespace Mine
open PySem PySem.Sre

def Reach (k : Nat) (m m' : M) : Prop := ∀ s0, ∃ n, n ≤ k ∧ ∃ s1, M.runFor n { m with seen := s0 } = { m' with seen := s1 }

theorem runFor_done {m : M} (h : m.outcome.isSome = true) : ∀ n, M.runFor n m = m
  | 0 => rfl
  | n + 1 => by unfold M.runFor; rw [if_pos h]

theorem runFor_add : ∀ (a b : Nat) (m : M), M.runFor (a + b) m = M.runFor b (M.runFor a m)
  | 0, b, m => by rw [Nat.zero_add]; rfl
  | a + 1, b, m => by
    by_cases h : m.outcome.isSome = true
    · rw [runFor_done h, runFor_done h, runFor_done h]
    · rw [Nat.add_right_comm]
      show (if m.outcome.isSome then m else M.runFor (a + b) m.step) = M.runFor b (if m.outcome.isSome then m else M.runFor a m.step)
      rw [if_neg h, if_neg h]; exact runFor_add a b _

theorem Reach.refl (m : M) : Reach 0 m m := fun s0 => ⟨0, Nat.le_refl _, s0, rfl⟩
theorem Reach.trans {a b : Nat} {m m₁ m₂ : M} (h : Reach a m m₁) (g : Reach b m₁ m₂) : Reach (a + b) m m₂ := fun s0 => by
  obtain ⟨n, hn, s1, e⟩ := h s0
  obtain ⟨n', hn', s2, e'⟩ := g s1
  exact ⟨n + n', Nat.add_le_add hn hn', s2, by rw [runFor_add, e, e']⟩
theorem Reach.mono {a b : Nat} {m m' : M} (h : Reach a m m') (l : a ≤ b) : Reach b m m' := fun s0 => by
  obtain ⟨n, hn, r⟩ := h s0; exact ⟨n, Nat.le_trans hn l, r⟩

/-- one step, whatever is seen -/
theorem Reach.one {m m' : M} (ho : m.outcome = none) (h : ∀ s0, ∃ s1, M.step { m with seen := s0 } = { m' with seen := s1 }) : Reach 1 m m' := fun s0 => by
  obtain ⟨s1, e⟩ := h s0
  refine ⟨1, Nat.le_refl _, s1, ?_⟩
  show (if ({ m with seen := s0 } : M).outcome.isSome then _ else M.step { m with seen := s0 }) = _
  rw [if_neg (by show ¬ m.outcome.isSome = true; rw [ho]; exact Bool.false_ne_true), e]

theorem step_exec {m : M} (ho : m.outcome = none) (ha : m.answer = none) (hc : m.pc < m.code.size) : M.step m = M.exec m := by
  unfold M.step
  rw [ho, ha]
  simp [hc]

/-- the word at the counter -/
abbrev At (m : M) (op : Op) : Prop := ops[m.code.getD m.pc 0]? = some op ∧ m.pc < m.code.size ∧ m.outcome = none ∧ m.answer = none

theorem Reach.ex {m m' : M} {op : Op} (h : At m op) (g : ∀ s0, ∃ s1, M.exec { m with seen := s0 } = { m' with seen := s1 }) : Reach 1 m m' :=
  Reach.one h.2.2.1 fun s0 => by
    rw [step_exec (m := { m with seen := s0 }) h.2.2.1 h.2.2.2 h.2.1]; exact g s0

section
variable {m : M}

theorem r_lit (h : At m .LITERAL) (hl : m.pos < m.lim) (hw : m.text.getD m.pos 0 = m.code.getD (m.pc + 1) 0) : Reach 1 m { m with pc := m.pc + 2, pos := m.pos + 1 } := by
  refine Reach.ex h fun s0 => ?_
  unfold M.exec
  rw [show ops[({ m with seen := s0 } : M).word 0]? = some .LITERAL from h.1]
  dsimp only
  rw [if_neg (by omega)]
  unfold accepts itemWidth
  dsimp only
  rw [h.1]
  dsimp only
  rw [hw, beq_self_eq_true]
  exact ⟨_, rfl⟩

theorem r_lit_no (h : At m .LITERAL) (hw : m.pos < m.lim → m.text.getD m.pos 0 ≠ m.code.getD (m.pc + 1) 0) : Reach 1 m { m with answer := some false } := by
  refine Reach.ex h fun s0 => ?_
  unfold M.exec
  rw [show ops[({ m with seen := s0 } : M).word 0]? = some .LITERAL from h.1]
  dsimp only
  by_cases hl : m.pos ≥ m.lim
  · rw [if_pos hl]; exact ⟨_, rfl⟩
  · rw [if_neg hl]
    unfold accepts
    dsimp only
    rw [h.1]
    dsimp only
    have : (m.text.getD m.pos 0 == m.code.getD (m.pc + 1) 0) = false := by simpa using hw (by omega)
    rw [this]
    exact ⟨_, rfl⟩

theorem r_mark (h : At m .MARK) : Reach 1 m (m.mark (m.code.getD (m.pc + 1) 0)) := by
  refine Reach.ex h fun s0 => ?_
  unfold M.exec
  rw [show ops[({ m with seen := s0 } : M).word 0]? = some .MARK from h.1]
  exact ⟨_, rfl⟩

theorem r_jump (h : At m .JUMP) : Reach 1 m { m with pc := m.pc + 1 + m.code.getD (m.pc + 1) 0 } := by
  refine Reach.ex h fun s0 => ?_
  unfold M.exec
  rw [show ops[({ m with seen := s0 } : M).word 0]? = some .JUMP from h.1]
  exact ⟨_, rfl⟩

theorem r_success (h : At m .SUCCESS) (hw : m.wholeText = true → m.pos = m.lim) (hm : m.mustAdvance = false) : Reach 1 m { m with handed := m.pos, answer := some true } := by
  refine Reach.ex h fun s0 => ?_
  unfold M.exec
  rw [show ops[({ m with seen := s0 } : M).word 0]? = some .SUCCESS from h.1]
  dsimp only
  rw [if_neg (by
    rw [hm]
    cases q : m.wholeText with
    | false => simp
    | true => simp [hw q])]
  exact ⟨_, rfl⟩

theorem r_at_end (h : At m .AT) (hk : m.code.getD (m.pc + 1) 0 = 7) : Reach 1 m (if m.pos = m.lim then { m with pc := m.pc + 2 } else { m with answer := some false }) := by
  refine Reach.ex h fun s0 => ?_
  unfold M.exec
  rw [show ops[({ m with seen := s0 } : M).word 0]? = some .AT from h.1]
  dsimp only
  rw [show ∀ s2, ({ m with seen := s2 } : M).word 1 = 7 from fun _ => hk]
  unfold M.isAt
  dsimp only
  by_cases hp : m.pos = m.lim
  · rw [if_pos hp, hp, beq_self_eq_true]; exact ⟨_, rfl⟩
  · rw [if_neg hp]
    have : (m.pos == m.lim) = false := by simpa using hp
    rw [this]; exact ⟨_, rfl⟩

theorem attempt_seen (m : M) (f : Sre.Frame) (t fr : Nat) (o : Bool) (s : Seen) : M.attempt { m with seen := s } f t fr o = { M.attempt m f t fr o with seen := s } := by
  unfold M.attempt
  by_cases h : m.weight + 1 + f.kept.marks.size > 16777216
  · simp only [if_pos h]; rfl
  · simp only [if_neg h]
theorem afterRun_seen (m : M) (w : Wait) (c : Int) (k : Sre.Kept) (s : Seen) : M.afterRun { m with seen := s } w c k = { M.afterRun m w c k with seen := s } := attempt_seen ..
theorem alternative_seen (m : M) (a : Nat) (k : Sre.Kept) (s : Seen) : M.alternative { m with seen := s } a k = { M.alternative m a k with seen := s } := by
  unfold M.alternative
  by_cases h : (m.code.getD a 0 == 0) = true
  · simp only [if_pos h]; rfl
  · simp only [if_neg h]; exact attempt_seen ..
theorem afterLoop_seen (m : M) (w : Wait) (i : Nat) (c : Int) (g : Option Nat → Bool) (s : Seen) : M.afterLoop { m with seen := s } w i c g = { M.afterLoop m w i c g with seen := s } :=
  attempt_seen { m with inner := (m.loopAt i).outer } _ _ _ _ s
theorem round_seen (m : M) (w : Wait) (i : Nat) (c : Int) (g : Bool) (k : Sre.Kept) (s : Seen) : M.round { m with seen := s } w i c g k = { M.round m w i c g k with seen := s } :=
  attempt_seen (m.setLoop i fun l => { l with count := c, began := if g then some m.pos else l.began }) _ _ _ _ s
theorem until_seen (m : M) (g : Bool) (s : Seen) : M.until_ { m with seen := s } g = { M.until_ m g with seen := s } := by
  unfold M.until_
  rcases m with ⟨code, text, lim, start, lastStart, wholeText, mustAdvance, pc, pos, handed, outermost, marks, lastmark, lastindex, loops, inner, frames, weight, answer, seen, outcome⟩
  cases inner with
  | none => rfl
  | some i =>
    dsimp only [M.loopAt]
    generalize loops.getD i { pc := 0, outer := none } = l
    by_cases h1 : (l.count + 1 : Int) < (code.getD (l.pc + 2) 0 : Nat)
    · simp only [if_pos h1]; exact round_seen ⟨code, text, lim, start, lastStart, wholeText, mustAdvance, pc, pos, handed, outermost, marks, lastmark, lastindex, loops, some i, frames, weight, answer, seen, outcome⟩ _ _ _ _ _ _
    · simp only [if_neg h1]
      cases g with
      | false => simp only [Bool.not_false, if_true]; exact afterLoop_seen ⟨code, text, lim, start, lastStart, wholeText, mustAdvance, pc, pos, handed, outermost, marks, lastmark, lastindex, loops, some i, frames, weight, answer, seen, outcome⟩ _ _ _ _ _
      | true =>
        simp only [Bool.not_true, Bool.false_eq_true, if_false]
        by_cases h3 : ((decide (l.count + 1 < ((code.getD (l.pc + 3) 0 : Nat) : Int)) || code.getD (l.pc + 3) 0 == maxRepeat) && l.began != some pos) = true
        · simp only [if_pos h3]; exact round_seen ⟨code, text, lim, start, lastStart, wholeText, mustAdvance, pc, pos, handed, outermost, marks, lastmark, lastindex, loops, some i, frames, weight, answer, seen, outcome⟩ _ _ _ _ _ _
        · simp only [if_neg h3]; exact afterLoop_seen ⟨code, text, lim, start, lastStart, wholeText, mustAdvance, pc, pos, handed, outermost, marks, lastmark, lastindex, loops, some i, frames, weight, answer, seen, outcome⟩ _ _ _ _ _

/-- one sign against one item of the code, whatever is seen -/
def Acc (code : Array Nat) (i c : Nat) (b : Bool) : Prop := ∀ s0, ∃ s1, accepts code i c s0 = .ok (b, s1)
def SetIs (code : Array Nat) (c fuel i : Nat) (yes b : Bool) : Prop := ∀ s0, ∃ s1, inSet code c fuel i yes s0 = .ok (b, s1)

theorem SetIs.fail {code : Array Nat} {c fuel i : Nat} {yes : Bool} (h : ops[code.getD i 0]? = some .FAILURE) : SetIs code c (fuel + 1) i yes (!yes) := fun s0 => by
  unfold inSet; simp only [Nat.add_zero]; rw [h]; exact ⟨_, rfl⟩
theorem SetIs.neg {code : Array Nat} {c fuel i : Nat} {yes b : Bool} (h : ops[code.getD i 0]? = some .NEGATE) (g : SetIs code c fuel (i + 1) (!yes) b) : SetIs code c (fuel + 1) i yes b := fun s0 => by
  unfold inSet; simp only [Nat.add_zero]; rw [h]; exact g _
theorem SetIs.lit {code : Array Nat} {c fuel i : Nat} {yes b : Bool} (h : ops[code.getD i 0]? = some .LITERAL) (g : SetIs code c fuel (i + 2) yes b) :
    SetIs code c (fuel + 1) i yes (if c = code.getD (i + 1) 0 then yes else b) := fun s0 => by
  unfold inSet; simp only [Nat.add_zero]; rw [h]
  by_cases q : c = code.getD (i + 1) 0
  · dsimp only; rw [if_pos (by rw [q]; exact beq_self_eq_true _), if_pos q]; exact ⟨_, rfl⟩
  · dsimp only; rw [if_neg (by simpa using q), if_neg q]; exact g _
theorem SetIs.range {code : Array Nat} {c fuel i : Nat} {yes b : Bool} (h : ops[code.getD i 0]? = some .RANGE) (g : SetIs code c fuel (i + 3) yes b) :
    SetIs code c (fuel + 1) i yes (if code.getD (i + 1) 0 ≤ c ∧ c ≤ code.getD (i + 2) 0 then yes else b) := fun s0 => by
  unfold inSet; simp only [Nat.add_zero]; rw [h]
  by_cases q : code.getD (i + 1) 0 ≤ c ∧ c ≤ code.getD (i + 2) 0
  · dsimp only; rw [if_pos (by rw [Bool.and_eq_true]; exact ⟨decide_eq_true q.1, decide_eq_true q.2⟩), if_pos q]; exact ⟨_, rfl⟩
  · dsimp only; rw [if_neg (by rw [Bool.and_eq_true]; exact fun z => q ⟨of_decide_eq_true z.1, of_decide_eq_true z.2⟩), if_neg q]; exact g _
theorem SetIs.charset {code : Array Nat} {c fuel i : Nat} {yes b : Bool} (h : ops[code.getD i 0]? = some .CHARSET) (g : SetIs code c fuel (i + 9) yes b) :
    SetIs code c (fuel + 1) i yes (if (c < 256 && (code.getD (i + (1 + c / 32)) 0).testBit (c % 32)) = true then yes else b) := fun s0 => by
  unfold inSet; simp only [Nat.add_zero]; rw [h]
  dsimp only
  split
  · exact ⟨_, rfl⟩
  · exact g _

theorem Acc.in {code : Array Nat} {i c : Nat} {b : Bool} (h : ops[code.getD i 0]? = some .IN) (g : SetIs code c code.size (i + 2) true b) : Acc code i c b := fun s0 => by
  unfold accepts; rw [h]; exact g _
theorem Acc.lit {code : Array Nat} {i c : Nat} (h : ops[code.getD i 0]? = some .LITERAL) : Acc code i c (c == code.getD (i + 1) 0) := fun s0 => by
  unfold accepts; rw [h]; exact ⟨_, rfl⟩
theorem Acc.notLit {code : Array Nat} {i c : Nat} (h : ops[code.getD i 0]? = some .NOT_LITERAL) : Acc code i c (c != code.getD (i + 1) 0) := fun s0 => by
  unfold accepts; rw [h]; exact ⟨_, rfl⟩
theorem Acc.any {code : Array Nat} {i c : Nat} (h : ops[code.getD i 0]? = some .ANY) : Acc code i c (c != 10) := fun s0 => by
  unfold accepts; rw [h]; exact ⟨_, rfl⟩

/-- a run of k signs -/
theorem run_is {code text : Array Nat} {i : Nat} : ∀ (k n p found : Nat), k ≤ n → (∀ j, j < k → Acc code i (text.getD (p + j) 0) true) → (k < n → Acc code i (text.getD (p + k) 0) false) →
    ∀ s0, ∃ s1, run code text i n p found s0 = .ok (found + k, s1)
  | 0, 0, p, found, _, _, _, s0 => ⟨s0, rfl⟩
  | 0, n + 1, p, found, _, _, hno, s0 => by
    obtain ⟨s1, e⟩ := hno (Nat.zero_lt_succ _) s0
    refine ⟨s1, ?_⟩
    unfold Sre.run
    rw [Nat.add_zero] at e
    rw [e]; rfl
  | k + 1, n + 1, p, found, hk, hy, hno, s0 => by
    obtain ⟨s1, e⟩ := hy 0 (Nat.zero_lt_succ _) s0
    obtain ⟨s2, e2⟩ := run_is (code := code) (text := text) (i := i) k n (p + 1) (found + 1) (Nat.le_of_succ_le_succ hk) (fun j hj => by
      have := hy (j + 1) (Nat.succ_lt_succ hj); rwa [show p + (j + 1) = p + 1 + j by omega] at this) (fun hl => by
      have := hno (Nat.succ_lt_succ hl); rwa [show p + (k + 1) = p + 1 + k by omega] at this) s1
    refine ⟨s2, ?_⟩
    unfold Sre.run
    rw [Nat.add_zero] at e
    rw [e]
    show run code text i n (p + 1) (found + 1) s1 = _
    rw [e2, show found + 1 + k = found + (k + 1) by omega]

abbrev One (o : Op) : Prop := o = .IN ∨ o = .NOT_LITERAL ∨ o = .ANY

theorem r_in (h : At m .IN) (hl : m.pos < m.lim) (hw : Acc m.code m.pc (m.text.getD m.pos 0) true) : Reach 1 m { m with pc := m.pc + (1 + m.code.getD (m.pc + 1) 0), pos := m.pos + 1 } := by
  refine Reach.ex h fun s0 => ?_
  unfold M.exec
  rw [show ops[({ m with seen := s0 } : M).word 0]? = some .IN from h.1]
  dsimp only
  rw [if_neg (by omega)]
  obtain ⟨s1, e⟩ := hw (s0.add (({ m with seen := s0 } : M).word 0))
  rw [e]
  dsimp only
  unfold itemWidth
  rw [h.1]
  exact ⟨_, rfl⟩
theorem r_in_no (h : At m .IN) (hw : m.pos < m.lim → Acc m.code m.pc (m.text.getD m.pos 0) false) : Reach 1 m { m with answer := some false } := by
  refine Reach.ex h fun s0 => ?_
  unfold M.exec
  rw [show ops[({ m with seen := s0 } : M).word 0]? = some .IN from h.1]
  dsimp only
  by_cases hl : m.pos ≥ m.lim
  · rw [if_pos hl]; exact ⟨_, rfl⟩
  · rw [if_neg hl]
    obtain ⟨s1, e⟩ := hw (by omega) (s0.add (({ m with seen := s0 } : M).word 0))
    rw [e]
    exact ⟨_, rfl⟩
theorem r_any (h : At m .ANY) (hl : m.pos < m.lim) (hw : m.text.getD m.pos 0 ≠ 10) : Reach 1 m { m with pc := m.pc + 1, pos := m.pos + 1 } := by
  refine Reach.ex h fun s0 => ?_
  unfold M.exec
  rw [show ops[({ m with seen := s0 } : M).word 0]? = some .ANY from h.1]
  dsimp only
  rw [if_neg (by omega)]
  unfold accepts itemWidth
  dsimp only
  rw [h.1]
  dsimp only
  rw [show (m.text.getD m.pos 0 != 10) = true by simpa using hw]
  exact ⟨_, rfl⟩

/-- a greedy run of single signs: k of them are taken -/
theorem r_rep1 (h : At m .REPEAT_ONE) (k : Nat) (hroom : m.pos + k ≤ m.lim) (hleast : m.code.getD (m.pc + 2) 0 ≤ k) (hmost : m.code.getD (m.pc + 3) 0 = 4294967295) (hlim : m.lim < 4294967295)
    (hy : ∀ j, j < k → Acc m.code (m.pc + 4) (m.text.getD (m.pos + j) 0) true) (hno : m.pos + k < m.lim → Acc m.code (m.pc + 4) (m.text.getD (m.pos + k) 0) false) :
    Reach 1 m (({ m with pos := m.pos + k } : M).afterRun .giveBack k (m.keep m.inner.isSome)) := by
  refine Reach.ex h fun s0 => ?_
  unfold M.exec
  rw [show ops[({ m with seen := s0 } : M).word 0]? = some .REPEAT_ONE from h.1]
  dsimp only
  simp only [show ∀ s2, ({ m with seen := s2 } : M).word 2 = m.code.getD (m.pc + 2) 0 from fun _ => rfl, show ∀ s2, ({ m with seen := s2 } : M).word 3 = m.code.getD (m.pc + 3) 0 from fun _ => rfl, hmost]
  rw [if_neg (by omega)]
  simp only [Bool.false_eq_true, if_false]
  have hmin : min 4294967295 ((m.lim : Int) - (m.pos : Int)).toNat = m.lim - m.pos := by omega
  rw [hmin]
  obtain ⟨s1, e⟩ := run_is (code := m.code) (text := m.text) (i := m.pc + 4) k (m.lim - m.pos) m.pos 0 (by omega) hy (fun hl => hno (by omega)) (Seen.add (s0.add (({ m with seen := s0 } : M).word 0)) (({ m with seen := s0.add (({ m with seen := s0 } : M).word 0) } : M).word 4))
  rw [e]
  dsimp only
  rw [Nat.zero_add, if_neg (by omega)]
  exact ⟨_, afterRun_seen { m with pos := m.pos + k } _ _ _ _⟩
theorem r_rep1_no (h : At m .REPEAT_ONE) (k : Nat) (hroom : m.pos + k ≤ m.lim) (hleast : k < m.code.getD (m.pc + 2) 0) (hmost : m.code.getD (m.pc + 3) 0 = 4294967295) (hlim : m.lim < 4294967295)
    (hy : ∀ j, j < k → Acc m.code (m.pc + 4) (m.text.getD (m.pos + j) 0) true) (hno : m.pos + k < m.lim → Acc m.code (m.pc + 4) (m.text.getD (m.pos + k) 0) false) :
    Reach 1 m { m with answer := some false } := by
  refine Reach.ex h fun s0 => ?_
  unfold M.exec
  rw [show ops[({ m with seen := s0 } : M).word 0]? = some .REPEAT_ONE from h.1]
  dsimp only
  simp only [show ∀ s2, ({ m with seen := s2 } : M).word 2 = m.code.getD (m.pc + 2) 0 from fun _ => rfl, show ∀ s2, ({ m with seen := s2 } : M).word 3 = m.code.getD (m.pc + 3) 0 from fun _ => rfl, hmost]
  by_cases hl : ((m.code.getD (m.pc + 2) 0 : Nat) : Int) > (m.lim : Int) - (m.pos : Int)
  · rw [if_pos hl]; exact ⟨_, rfl⟩
  · rw [if_neg hl]
    simp only [Bool.false_eq_true, if_false]
    have hmin : min 4294967295 ((m.lim : Int) - (m.pos : Int)).toNat = m.lim - m.pos := by omega
    rw [hmin]
    obtain ⟨s1, e⟩ := run_is (code := m.code) (text := m.text) (i := m.pc + 4) k (m.lim - m.pos) m.pos 0 (by omega) hy (fun hl => hno (by omega)) (Seen.add (s0.add (({ m with seen := s0 } : M).word 0)) (({ m with seen := s0.add (({ m with seen := s0 } : M).word 0) } : M).word 4))
    rw [e]
    dsimp only
    rw [Nat.zero_add, if_pos hleast]
    exact ⟨_, rfl⟩

theorem r_branch (h : At m .BRANCH) : Reach 1 m (m.alternative (m.pc + 1) (m.keep m.inner.isSome)) := by
  refine Reach.ex h fun s0 => ?_
  unfold M.exec
  rw [show ops[({ m with seen := s0 } : M).word 0]? = some .BRANCH from h.1]
  dsimp only
  exact ⟨_, alternative_seen ..⟩

theorem r_repeat (h : At m .REPEAT) : Reach 1 m (M.attempt { m with loops := m.loops.push { pc := m.pc, outer := m.inner }, inner := some m.loops.size } { ({ m with loops := m.loops.push { pc := m.pc, outer := m.inner }, inner := some m.loops.size } : M).frame .closeLoop with loop := m.loops.size } (m.pc + 1 + m.code.getD (m.pc + 1) 0) m.pos m.outermost) := by
  refine Reach.ex h fun s0 => ?_
  unfold M.exec
  rw [show ops[({ m with seen := s0 } : M).word 0]? = some .REPEAT from h.1]
  dsimp only
  exact ⟨_, attempt_seen { m with loops := m.loops.push { pc := m.pc, outer := m.inner }, inner := some m.loops.size } _ _ _ _ _⟩

theorem r_maxUntil (h : At m .MAX_UNTIL) : Reach 1 m (({ m with pc := m.pc + 1 } : M).until_ true) := by
  refine Reach.ex h fun s0 => ?_
  unfold M.exec
  rw [show ops[({ m with seen := s0 } : M).word 0]? = some .MAX_UNTIL from h.1]
  dsimp only
  exact ⟨_, until_seen { m with pc := m.pc + 1 } true _⟩

/-- a frame is taken up again -/
theorem r_resume {f : Sre.Frame} {rest : List Sre.Frame} {yes : Bool} {m' : M} (ho : m.outcome = none) (ha : m.answer = some yes) (hf : m.frames = f :: rest)
    (g : ∀ s0, ∃ s1, M.resume { m with seen := s0, answer := none, frames := rest, weight := m.weight - (1 + f.kept.marks.size), pc := f.pc, pos := f.pos, outermost := f.outermost } f yes = { m' with seen := s1 }) : Reach 1 m m' := by
  refine Reach.one ho fun s0 => ?_
  rcases m with ⟨code, text, lim, start, lastStart, wholeText, mustAdvance, pc, pos, handed, outermost, marks, lastmark, lastindex, loops, inner, frames, weight, answer, seen, outcome⟩
  dsimp only at ho ha hf
  subst ho ha hf
  exact g s0
theorem r_end {yes : Bool} (ho : m.outcome = none) (ha : m.answer = some yes) (hf : m.frames = []) : Reach 1 m { m with outcome := some (if yes then .matched else .failed) } := by
  refine Reach.one ho fun s0 => ?_
  rcases m with ⟨code, text, lim, start, lastStart, wholeText, mustAdvance, pc, pos, handed, outermost, marks, lastmark, lastindex, loops, inner, frames, weight, answer, seen, outcome⟩
  dsimp only at ho ha hf
  subst ho ha hf
  exact ⟨_, rfl⟩

/-- the frames that hand a yes on as it is -/
def yesOn (m : M) (f : Sre.Frame) (rest : List Sre.Frame) : M :=
  let m1 : M := { m with answer := some true, frames := rest, weight := m.weight - (1 + f.kept.marks.size), pc := f.pc, pos := f.pos, outermost := f.outermost }
  match f.wait with
  | .closeLoop => { m1 with inner := (m1.loopAt f.loop).outer, loops := m1.loops.pop }
  | .maxMore => m1.setLoop f.loop fun l => { l with began := f.began }
  | .maxTail => { m1 with inner := some f.loop }
  | _ => m1
theorem r_yes {f : Sre.Frame} {rest : List Sre.Frame} (ho : m.outcome = none) (ha : m.answer = some true) (hf : m.frames = f :: rest)
    (hw : f.wait = .giveBack ∨ f.wait = .nextBranch ∨ f.wait = .closeLoop ∨ f.wait = .maxMore ∨ f.wait = .maxTail ∨ f.wait = .nextStart) : Reach 1 m (yesOn m f rest) := by
  refine r_resume ho ha hf fun s0 => ?_
  unfold M.resume yesOn
  rcases hw with e | e | e | e | e | e <;> rw [e] <;> exact ⟨_, rfl⟩

theorem r_branch_next {f : Sre.Frame} {rest : List Sre.Frame} (ho : m.outcome = none) (ha : m.answer = some false) (hf : m.frames = f :: rest) (hw : f.wait = .nextBranch) :
    Reach 1 m (M.alternative (M.putBack { m with answer := none, frames := rest, weight := m.weight - (1 + f.kept.marks.size), pc := f.pc, pos := f.pos, outermost := f.outermost } f.kept) (f.pc + m.code.getD f.pc 0) f.kept) := by
  refine r_resume ho ha hf fun s0 => ?_
  unfold M.resume
  rw [hw]
  simp only [Bool.false_eq_true, if_false]
  exact ⟨_, alternative_seen (M.putBack { m with answer := none, frames := rest, weight := m.weight - (1 + f.kept.marks.size), pc := f.pc, pos := f.pos, outermost := f.outermost } f.kept) _ _ _⟩

theorem r_max_no {f : Sre.Frame} {rest : List Sre.Frame} (ho : m.outcome = none) (ha : m.answer = some false) (hf : m.frames = f :: rest) (hw : f.wait = .maxMore) :
    Reach 1 m (M.afterLoop ((M.putBack (M.setLoop { m with answer := none, frames := rest, weight := m.weight - (1 + f.kept.marks.size), pc := f.pc, pos := f.pos, outermost := f.outermost } f.loop fun l => { l with began := f.began }) f.kept).setLoop f.loop fun l => { l with count := f.count - 1 }) .maxTail f.loop f.count fun _ => false) := by
  refine r_resume ho ha hf fun s0 => ?_
  unfold M.resume
  rw [hw]
  simp only [Bool.false_eq_true, if_false]
  exact ⟨_, afterLoop_seen ((M.putBack (M.setLoop { m with answer := none, frames := rest, weight := m.weight - (1 + f.kept.marks.size), pc := f.pc, pos := f.pos, outermost := f.outermost } f.loop fun l => { l with began := f.began }) f.kept).setLoop f.loop fun l => { l with count := f.count - 1 }) _ _ _ _ _⟩

theorem r_give_less {f : Sre.Frame} {rest : List Sre.Frame} (ho : m.outcome = none) (ha : m.answer = some false) (hf : m.frames = f :: rest) (hw : f.wait = .giveBack) (hl : f.count - 1 < (m.code.getD (f.pc + 2) 0 : Nat)) :
    Reach 1 m { M.putBack { m with answer := none, frames := rest, weight := m.weight - (1 + f.kept.marks.size), pc := f.pc, pos := f.pos, outermost := f.outermost } f.kept with answer := some false } := by
  refine r_resume ho ha hf fun s0 => ?_
  unfold M.resume
  rw [hw]
  dsimp only
  simp only [Bool.false_eq_true, if_false]
  rw [if_pos (by exact hl)]
  exact ⟨_, rfl⟩
theorem r_give_back {f : Sre.Frame} {rest : List Sre.Frame} (ho : m.outcome = none) (ha : m.answer = some false) (hf : m.frames = f :: rest) (hw : f.wait = .giveBack) (hl : ¬ f.count - 1 < (m.code.getD (f.pc + 2) 0 : Nat)) :
    Reach 1 m (M.afterRun { M.putBack { m with answer := none, frames := rest, weight := m.weight - (1 + f.kept.marks.size), pc := f.pc, pos := f.pos, outermost := f.outermost } f.kept with pos := f.pos - 1 } .giveBack (f.count - 1) f.kept) := by
  refine r_resume ho ha hf fun s0 => ?_
  unfold M.resume
  rw [hw]
  dsimp only
  simp only [Bool.false_eq_true, if_false]
  rw [if_neg (by exact hl)]
  exact ⟨_, afterRun_seen { M.putBack { m with answer := none, frames := rest, weight := m.weight - (1 + f.kept.marks.size), pc := f.pc, pos := f.pos, outermost := f.outermost } f.kept with pos := f.pos - 1 } _ _ _ _⟩
end
end Mine
end
section
namespace Mine
open PySem PySem.Sre

section
variable {m : M}

theorem attempt_is {f : Sre.Frame} {t fr wt : Nat} {o : Bool} (hw : m.weight + 1 + f.kept.marks.size = wt) (hl : wt ≤ 16777216) :
    m.attempt f t fr o = { m with frames := f :: m.frames, weight := wt, pc := t, pos := fr, handed := fr, outermost := o } := by
  subst hw
  unfold M.attempt
  rw [if_neg (by omega)]

theorem alternative_is {a : Nat} {k : Sre.Kept} (hc : (m.code.getD a 0 == 0) = false) : m.alternative a k = m.attempt { m.frame .nextBranch with pc := a, kept := k } (a + 1) m.pos m.outermost :=
  if_neg (by rw [hc]; exact Bool.false_ne_true)
theorem alternative_no {a : Nat} {k : Sre.Kept} (hc : (m.code.getD a 0 == 0) = true) : m.alternative a k = m.say false := if_pos hc

theorem q_rep1 (t wt : Nat) (kept : Sre.Kept) (k : Nat) (h : At m .REPEAT_ONE) (hk : m.keep m.inner.isSome = kept) (ht : m.pc + 1 + m.code.getD (m.pc + 1) 0 = t) (hw : m.weight + 1 + kept.marks.size = wt) (hwl : wt ≤ 16777216)
    (hroom : m.pos + k ≤ m.lim) (hleast : m.code.getD (m.pc + 2) 0 ≤ k) (hmost : m.code.getD (m.pc + 3) 0 = 4294967295) (hlim : m.lim < 4294967295)
    (hy : ∀ j, j < k → Acc m.code (m.pc + 4) (m.text.getD (m.pos + j) 0) true) (hno : m.pos + k < m.lim → Acc m.code (m.pc + 4) (m.text.getD (m.pos + k) 0) false) :
    Reach 1 m { m with frames := { wait := .giveBack, pc := m.pc, pos := m.pos + k, outermost := m.outermost, count := k, kept } :: m.frames, weight := wt, pc := t, pos := m.pos + k, handed := m.pos + k } := by
  have := r_rep1 h k hroom hleast hmost hlim hy hno
  unfold M.afterRun at this
  rw [attempt_is (m := { m with pos := m.pos + k }) (wt := wt) (by rw [hk]; exact hw) hwl] at this
  subst hk ht
  exact this

theorem q_repeat (t wt : Nat) (h : At m .REPEAT) (ht : m.pc + 1 + m.code.getD (m.pc + 1) 0 = t) (hw : m.weight + 1 = wt) (hwl : wt ≤ 16777216) :
    Reach 1 m { m with loops := m.loops.push { pc := m.pc, outer := m.inner }, inner := some m.loops.size, frames := { wait := .closeLoop, pc := m.pc, pos := m.pos, outermost := m.outermost, loop := m.loops.size } :: m.frames, weight := wt, pc := t, handed := m.pos } := by
  have r := r_repeat h
  dsimp only [M.frame] at r
  rw [attempt_is (wt := wt) (by exact hw) hwl] at r
  subst ht
  exact r

/-- one more turn of a greedy loop that may end here -/
theorem q_more (i : Nat) (l : Loop) (kept : Sre.Kept) (t wt : Nat) (count : Int) (loops : Array Loop) (h : At m .MAX_UNTIL) (hi : m.inner = some i) (hl : m.loops.getD i { pc := 0, outer := none } = l) (hc : l.count + 1 = count)
    (hmin : m.code.getD (l.pc + 2) 0 = 0) (h0 : 0 ≤ count) (hmax : ((count < (m.code.getD (l.pc + 3) 0 : Nat) || m.code.getD (l.pc + 3) 0 == maxRepeat) && l.began != some m.pos) = true)
    (hk : m.keep true = kept) (ht : l.pc + 4 = t) (hw : m.weight + 1 + kept.marks.size = wt) (hwl : wt ≤ 16777216) (hls : m.loops.modify i (fun l => { l with count, began := some m.pos }) = loops) :
    Reach 1 m { m with loops, frames := { wait := .maxMore, pc := m.pc + 1, pos := m.pos, outermost := m.outermost, count, kept, loop := i, began := l.began } :: m.frames, weight := wt, pc := t, handed := m.pos } := by
  subst hl hc
  have e : ({ m with pc := m.pc + 1 } : M).until_ true = ({ m with pc := m.pc + 1 } : M).round .maxMore i ((m.loops.getD i { pc := 0, outer := none }).count + 1) true (m.keep true) := by
    unfold M.until_
    dsimp only
    rw [hi]
    have hlt : ¬ ((m.loops.getD i { pc := 0, outer := none }).count + 1 < ((m.code.getD ((m.loops.getD i { pc := 0, outer := none }).pc + 2) 0 : Nat) : Int)) := by rw [hmin]; omega
    refine (if_neg hlt).trans ((if_neg Bool.false_ne_true).trans ((if_pos hmax).trans ?_))
    rfl
  have r := r_maxUntil h
  rw [e] at r
  unfold M.round at r
  rw [attempt_is (wt := wt) (by rw [hk]; exact hw) hwl] at r
  subst hk ht hls
  exact r

/-- a greedy loop goes on behind itself -/
theorem q_tail (i : Nat) (l : Loop) (kept : Sre.Kept) (wt : Nat) (count : Int) (h : At m .MAX_UNTIL) (hi : m.inner = some i) (hl : m.loops.getD i { pc := 0, outer := none } = l) (hc : l.count + 1 = count)
    (hmin : m.code.getD (l.pc + 2) 0 = 0) (h0 : 0 ≤ count) (hmax : ((count < (m.code.getD (l.pc + 3) 0 : Nat) || m.code.getD (l.pc + 3) 0 == maxRepeat) && l.began != some m.pos) = false)
    (hk : m.keep false = kept) (hw : m.weight + 1 + kept.marks.size = wt) (hwl : wt ≤ 16777216) :
    Reach 1 m { m with inner := l.outer, frames := { wait := .maxTail, pc := m.pc + 1, pos := m.pos, outermost := m.outermost, count, kept, loop := i } :: m.frames, weight := wt, pc := m.pc + 1, handed := m.pos } := by
  subst hl hc
  have e : ({ m with pc := m.pc + 1 } : M).until_ true = ({ m with pc := m.pc + 1 } : M).afterLoop .maxTail i ((m.loops.getD i { pc := 0, outer := none }).count + 1) fun _ => false := by
    unfold M.until_
    dsimp only
    rw [hi]
    have hlt : ¬ ((m.loops.getD i { pc := 0, outer := none }).count + 1 < ((m.code.getD ((m.loops.getD i { pc := 0, outer := none }).pc + 2) 0 : Nat) : Int)) := by rw [hmin]; omega
    refine (if_neg hlt).trans ((if_neg Bool.false_ne_true).trans (if_neg fun z => Bool.false_ne_true (hmax.symm.trans z)))
  have r := r_maxUntil h
  rw [e] at r
  unfold M.afterLoop at r
  dsimp only [M.loopAt] at r
  rw [attempt_is (wt := wt) (by exact (by rw [← hk] at hw; exact hw)) hwl] at r
  subst hk
  exact r

/-- the turn of a greedy loop failed: on behind it -/
theorem q_max_no {f : Sre.Frame} {rest : List Sre.Frame} (l : Loop) (kept : Sre.Kept) (wt : Nat) (marks : Array (Option Nat)) (loops : Array Loop) (ho : m.outcome = none) (ha : m.answer = some false) (hf : m.frames = f :: rest) (hw : f.wait = .maxMore)
    (hls : (m.loops.modify f.loop fun l => { l with began := f.began }).modify f.loop (fun l => { l with count := f.count - 1 }) = loops) (hl : (loops.getD f.loop { pc := 0, outer := none }) = l)
    (hm : (if f.kept.whole then f.kept.marks ++ m.marks.extract f.kept.marks.size m.marks.size else m.marks) = marks)
    (hk : ({ lastmark := f.kept.lastmark, lastindex := f.kept.lastindex, whole := false, marks := #[] } : Sre.Kept) = kept) (hwt : m.weight - (1 + f.kept.marks.size) + 1 = wt) (hwl : wt ≤ 16777216) :
    Reach 1 m { m with answer := none, lastmark := f.kept.lastmark, lastindex := f.kept.lastindex, marks, loops, inner := l.outer, frames := { wait := .maxTail, pc := f.pc, pos := f.pos, outermost := f.outermost, count := f.count, kept, loop := f.loop } :: rest, weight := wt, pc := f.pc, pos := f.pos, handed := f.pos, outermost := f.outermost } := by
  have := r_max_no ho ha hf hw
  unfold M.afterLoop at this
  dsimp only [M.setLoop, M.putBack, M.loopAt, M.keep, M.frame] at this
  rw [hls, hl] at this
  rw [attempt_is (wt := wt) (by simpa using hwt) hwl] at this
  subst hk hm
  exact this

theorem q_branch (kept : Sre.Kept) (wt : Nat) (h : At m .BRANCH) (hk : m.keep m.inner.isSome = kept) (hc : (m.code.getD (m.pc + 1) 0 == 0) = false) (hw : m.weight + 1 + kept.marks.size = wt) (hwl : wt ≤ 16777216) :
    Reach 1 m { m with frames := { wait := .nextBranch, pc := m.pc + 1, pos := m.pos, outermost := m.outermost, kept } :: m.frames, weight := wt, pc := m.pc + 2, handed := m.pos } := by
  have r := r_branch h
  rw [alternative_is hc, hk] at r
  dsimp only [M.frame] at r
  rw [attempt_is (wt := wt) hw hwl] at r
  exact r

theorem q_branch_next {f : Sre.Frame} {rest : List Sre.Frame} (alt wt : Nat) (marks : Array (Option Nat)) (ho : m.outcome = none) (ha : m.answer = some false) (hf : m.frames = f :: rest) (hw : f.wait = .nextBranch)
    (hal : f.pc + m.code.getD f.pc 0 = alt) (hc : (m.code.getD alt 0 == 0) = false) (hm : (if f.kept.whole then f.kept.marks ++ m.marks.extract f.kept.marks.size m.marks.size else m.marks) = marks)
    (hwt : m.weight - (1 + f.kept.marks.size) + 1 + f.kept.marks.size = wt) (hwl : wt ≤ 16777216) :
    Reach 1 m { m with answer := none, lastmark := f.kept.lastmark, lastindex := f.kept.lastindex, marks, frames := { wait := .nextBranch, pc := alt, pos := f.pos, outermost := f.outermost, kept := f.kept } :: rest, weight := wt, pc := alt + 1, pos := f.pos, handed := f.pos, outermost := f.outermost } := by
  have r := r_branch_next ho ha hf hw
  rw [hal, alternative_is (by exact hc)] at r
  dsimp only [M.putBack, M.frame] at r
  rw [attempt_is (wt := wt) hwt hwl] at r
  subst hm
  exact r
theorem q_branch_none {f : Sre.Frame} {rest : List Sre.Frame} (alt : Nat) (marks : Array (Option Nat)) (ho : m.outcome = none) (ha : m.answer = some false) (hf : m.frames = f :: rest) (hw : f.wait = .nextBranch)
    (hal : f.pc + m.code.getD f.pc 0 = alt) (hc : (m.code.getD alt 0 == 0) = true) (hm : (if f.kept.whole then f.kept.marks ++ m.marks.extract f.kept.marks.size m.marks.size else m.marks) = marks) :
    Reach 1 m { m with answer := some false, lastmark := f.kept.lastmark, lastindex := f.kept.lastindex, marks, frames := rest, weight := m.weight - (1 + f.kept.marks.size), pc := f.pc, pos := f.pos, outermost := f.outermost } := by
  have r := r_branch_next ho ha hf hw
  rw [hal, alternative_no (by exact hc)] at r
  subst hm
  exact r

theorem q_lit (c : Nat) (h : At m .LITERAL) (hl : m.pos < m.lim) (hc : m.code.getD (m.pc + 1) 0 = c) (hw : m.text.getD m.pos 0 = c) : Reach 1 m { m with pc := m.pc + 2, pos := m.pos + 1 } := r_lit h hl (hw.trans hc.symm)
theorem q_lit_no (c : Nat) (h : At m .LITERAL) (hc : m.code.getD (m.pc + 1) 0 = c) (hw : m.pos < m.lim → m.text.getD m.pos 0 ≠ c) : Reach 1 m { m with answer := some false } := r_lit_no h (fun l => hc ▸ hw l)
theorem q_mark (i : Nat) (marks : Array (Option Nat)) (lastmark lastindex : Int) (h : At m .MARK) (hi : m.code.getD (m.pc + 1) 0 = i) (hm : (m.mark i).marks = marks) (h1 : (m.mark i).lastmark = lastmark) (h2 : (m.mark i).lastindex = lastindex) :
    Reach 1 m { m with marks, lastmark, lastindex, pc := m.pc + 2 } := by
  have := r_mark h
  rw [hi] at this
  subst hm h1 h2
  exact this
theorem q_jump (t : Nat) (h : At m .JUMP) (ht : m.pc + 1 + m.code.getD (m.pc + 1) 0 = t) : Reach 1 m { m with pc := t } := by
  have := r_jump h
  rw [ht] at this
  exact this
theorem q_in (n : Nat) (h : At m .IN) (hl : m.pos < m.lim) (hn : m.pc + (1 + m.code.getD (m.pc + 1) 0) = n) (hw : Acc m.code m.pc (m.text.getD m.pos 0) true) : Reach 1 m { m with pc := n, pos := m.pos + 1 } := by
  have := r_in h hl hw
  rw [hn] at this
  exact this
theorem q_at_yes (h : At m .AT) (hk : m.code.getD (m.pc + 1) 0 = 7) (hp : m.pos = m.lim) : Reach 1 m { m with pc := m.pc + 2 } := by
  have := r_at_end h hk
  rwa [if_pos hp] at this
theorem q_at_no (h : At m .AT) (hk : m.code.getD (m.pc + 1) 0 = 7) (hp : m.pos ≠ m.lim) : Reach 1 m { m with answer := some false } := by
  have := r_at_end h hk
  rwa [if_neg hp] at this
end

def yesKind : Wait → Bool
  | .giveBack | .nextBranch | .closeLoop | .maxMore | .maxTail | .nextStart => true
  | _ => false
theorem yes_all : ∀ (fs : List Sre.Frame) {m : M}, m.outcome = none → m.answer = some true → m.frames = fs → (fs.all fun f => yesKind f.wait) = true →
    ∃ m', Reach (fs.length + 1) m m' ∧ m'.outcome = some .matched ∧ m'.start = m.start ∧ m'.handed = m.handed ∧ m'.marks = m.marks ∧ m'.lastmark = m.lastmark ∧ m'.lastindex = m.lastindex
  | [], m, ho, ha, hf, _ => ⟨_, r_end ho ha hf, rfl, rfl, rfl, rfl, rfl, rfl⟩
  | f :: fs, m, ho, ha, hf, hy => by
    rw [List.all_cons, Bool.and_eq_true] at hy
    have hk : f.wait = .giveBack ∨ f.wait = .nextBranch ∨ f.wait = .closeLoop ∨ f.wait = .maxMore ∨ f.wait = .maxTail ∨ f.wait = .nextStart := by
      have := hy.1
      unfold yesKind at this
      cases q : f.wait <;> rw [q] at this <;> simp at this ⊢
    have keep : (yesOn m f fs).outcome = none ∧ (yesOn m f fs).answer = some true ∧ (yesOn m f fs).frames = fs ∧ (yesOn m f fs).start = m.start ∧ (yesOn m f fs).handed = m.handed ∧ (yesOn m f fs).marks = m.marks ∧ (yesOn m f fs).lastmark = m.lastmark ∧ (yesOn m f fs).lastindex = m.lastindex := by
      unfold yesOn
      rcases hk with e | e | e | e | e | e <;> rw [e] <;> exact ⟨ho, rfl, rfl, rfl, rfl, rfl, rfl, rfl⟩
    obtain ⟨k1, k2, k3, k4, k5, k6, k7, k8⟩ := keep
    obtain ⟨m', r, e1, e2, e3, e4, e5, e6⟩ := yes_all fs k1 k2 k3 hy.2
    exact ⟨m', (Reach.trans (r_yes ho ha hf hk) r).mono (by simp; omega), e1, e2.trans k4, e3.trans k5, e4.trans k6, e5.trans k7, e6.trans k8⟩

/-- what a match is asked for -/
def Matched (k : Nat) (m : M) (s e : Nat) (lastindex : Int) (spans : List (Option (Nat × Nat))) : Prop :=
  ∃ m', Reach k m m' ∧ m'.outcome = some .matched ∧ m'.start = s ∧ m'.handed = e ∧ m'.lastindex = lastindex ∧ (List.range spans.length).map (fun g => if ((2 * g + 1 : Nat) : Int) ≤ m'.lastmark then (m'.marks.getD (2 * g) none, m'.marks.getD (2 * g + 1) none) else (none, none)) = spans.map fun x => match x with | some (b, e) => (some b, some e) | none => (none, none)
theorem Matched.one {k : Nat} {m m₁ : M} {s e : Nat} {li : Int} {spans : List (Option (Nat × Nat))} (h : Reach 1 m m₁) (g : Matched k m₁ s e li spans) : Matched (k + 1) m s e li spans := by
  obtain ⟨m', r, x⟩ := g
  exact ⟨m', (Reach.trans h r).mono (by omega), x⟩
theorem Matched.done {k : Nat} {m : M} {s e : Nat} {li : Int} {spans : List (Option (Nat × Nat))} (ho : m.outcome = none) (ha : m.answer = some true) (hf : (m.frames.all fun f => yesKind f.wait) = true) (hk : m.frames.length + 1 ≤ k) (h1 : m.start = s) (h2 : m.handed = e) (h4 : m.lastindex = li)
    (h3 : (List.range spans.length).map (fun g => if ((2 * g + 1 : Nat) : Int) ≤ m.lastmark then (m.marks.getD (2 * g) none, m.marks.getD (2 * g + 1) none) else (none, none)) = spans.map fun x => match x with | some (b, e) => (some b, some e) | none => (none, none)) : Matched k m s e li spans := by
  obtain ⟨m', r, e1, e2, e3, e4, e5, e6⟩ := yes_all m.frames ho ha rfl hf
  exact ⟨m', r.mono hk, e1, e2.trans h1, e3.trans h2, e6.trans h4, by rw [e4, e5]; exact h3⟩
def Failed (k : Nat) (m : M) : Prop := ∃ m', Reach k m m' ∧ m'.outcome = some .failed
theorem Failed.one {k : Nat} {m m₁ : M} (h : Reach 1 m m₁) (g : Failed k m₁) : Failed (k + 1) m := by
  obtain ⟨m', r, x⟩ := g
  exact ⟨m', (Reach.trans h r).mono (by omega), x⟩
theorem Failed.done {k : Nat} {m : M} (ho : m.outcome = none) (ha : m.answer = some false) (hf : m.frames = []) : Failed (k + 1) m := ⟨_, (r_end ho ha hf).mono (by omega), rfl⟩
end Mine
end
section
namespace Mine
open PySem PySem.Sre

def etagCode : Array Nat := #[14, 4, 0, 1, 4294967295, 24, 11, 0, 4294967295, 13, 6, 16, 32, 16, 9, 0, 1, 23, 16, 0, 1, 17, 0, 13, 6, 16, 87, 16, 119, 0, 16, 47, 17, 1, 18, 7, 18, 16, 34, 17, 2, 24, 6, 0, 4294967295, 20, 34, 1, 17, 3, 16, 34, 15, 27, 25, 17, 4, 24, 17, 1, 4294967295, 13, 12, 21, 9, 512, 4101, 0, 0, 0, 0, 0, 0, 0, 1, 17, 5, 15, 2, 0, 24, 11, 0, 4294967295, 13, 6, 16, 32, 16, 9, 0, 1, 7, 5, 16, 44, 15, 7, 5, 6, 7, 15, 2, 0, 1]

theorem acc_ws (i c : Nat) (h : i = 9 ∨ i = 84) : Acc etagCode i c (if c = 32 then true else if c = 9 then true else false) := by
  rcases h with rfl | rfl
  · exact Acc.in rfl (SetIs.lit (fuel := 104) rfl (SetIs.lit rfl (SetIs.fail rfl)))
  · exact Acc.in rfl (SetIs.lit (fuel := 104) rfl (SetIs.lit rfl (SetIs.fail rfl)))
theorem acc_w (c : Nat) : Acc etagCode 23 c (if c = 87 then true else if c = 119 then true else false) := 
  Acc.in rfl (SetIs.lit (fuel := 104) rfl (SetIs.lit rfl (SetIs.fail rfl)))
theorem acc_nq (c : Nat) : Acc etagCode 45 c (c != 34) := Acc.notLit rfl
theorem acc_key (c : Nat) (h : c = 34 ∨ c = 32 ∨ c = 9 ∨ c = 44) : Acc etagCode 61 c false := by
  have := Acc.in (code := etagCode) (i := 61) (c := c) rfl (SetIs.neg (fuel := 104) rfl (SetIs.charset rfl (SetIs.fail rfl)))
  rcases h with rfl | rfl | rfl | rfl <;> exact this

def isWs (c : Nat) : Prop := c = 32 ∨ c = 9
theorem acc_ws_yes {i c : Nat} (h : i = 9 ∨ i = 84) (hc : isWs c) : Acc etagCode i c true := by
  have := acc_ws i c h
  rcases hc with rfl | rfl <;> exact this
theorem acc_ws_no {i c : Nat} (h : i = 9 ∨ i = 84) (hc : ¬ isWs c) : Acc etagCode i c false := by
  have := acc_ws i c h
  have h1 : c ≠ 32 := fun e => hc (.inl e)
  have h2 : c ≠ 9 := fun e => hc (.inr e)
  rwa [if_neg h1, if_neg h2] at this
theorem nws {c : Nat} (h : c ≠ 32 ∧ c ≠ 9) : ¬ isWs c := fun x => x.elim h.1 h.2

theorem etag_start {text : Array Nat} {p : Nat} (h : p < text.size) : forMatch etagCode text 3 p text.size false false = { code := etagCode, text, lim := text.size, start := p, pc := 5, pos := p, handed := p, marks := #[none, none, none, none, none, none], seen := ({} : Seen).add 14 } := by
  unfold forMatch
  rw [if_neg (by
    show ¬ (((1 : Nat) != 0 && decide (p ≤ text.size) && decide (text.size - p < 1)) = true)
    simp; omega)]
  rfl


/-- how a tag ends: blanks, then a comma or the text's end -/
structure TagEnd (text : Array Nat) (q b e : Nat) : Prop where
  ws : ∀ j, j < b → isWs (text.getD (q + j) 0)
  fits : q + b ≤ text.size
  stop : (q + b < text.size ∧ text.getD (q + b) 0 = 44 ∧ e = q + b + 1) ∨ (q + b = text.size ∧ e = text.size)

theorem etag_tail {text : Array Nat} {p q b e hd k wt : Nat} {marks : Array (Option Nat)} {lastmark lastindex : Int} {loops : Array Loop} {frames : List Sre.Frame} {sn : Seen} {spans : List (Option (Nat × Nat))} (hs : text.size < 4294967295)
    (E : TagEnd text q b e) (hf : (frames.all fun f => yesKind f.wait) = true) (hk : frames.length + 12 ≤ k) (hw : wt ≤ 1000)
    (h3 : (List.range spans.length).map (fun g => if ((2 * g + 1 : Nat) : Int) ≤ lastmark then (marks.getD (2 * g) none, marks.getD (2 * g + 1) none) else (none, none)) = spans.map fun x => match x with | some (b, e) => (some b, some e) | none => (none, none)) :
    Matched k { code := etagCode, text, lim := text.size, start := p, pc := 80, pos := q, handed := hd, marks, lastmark, lastindex, loops, frames, weight := wt, seen := sn } p e lastindex spans := by
  obtain ⟨k', rfl⟩ : ∃ k', k = k' + 9 := ⟨k - 9, by omega⟩
  have hx : {q' : Nat} → (frames' : List Sre.Frame) → (∀ f ∈ frames', yesKind f.wait = true) → (frames'.all fun f => yesKind f.wait) = true := fun _ h => List.all_eq_true.mpr h
  have hno : q + b < text.size → Acc etagCode 84 (text.getD (q + b) 0) false := fun hl => by
    rcases E.stop with ⟨_, h, _⟩ | ⟨h, _⟩
    · rw [h]; exact acc_ws_no (.inr rfl) (nws (by decide))
    · omega
  refine Matched.one (q_rep1 92 (wt + 1) { lastmark, lastindex, whole := false, marks := #[] } b ⟨rfl, Nat.le_of_ble_eq_true rfl, rfl, rfl⟩ rfl rfl rfl (by omega) E.fits (Nat.zero_le _) rfl hs (fun j hj => acc_ws_yes (.inr rfl) (E.ws j hj)) hno) ?_
  dsimp only
  refine Matched.one (q_branch { lastmark, lastindex, whole := false, marks := #[] } (wt + 2) ⟨rfl, Nat.le_of_ble_eq_true rfl, rfl, rfl⟩ rfl rfl rfl (by omega)) ?_
  dsimp only
  rcases E.stop with ⟨h1, h2, rfl⟩ | ⟨h1, rfl⟩
  · refine Matched.one (q_lit 44 ⟨rfl, Nat.le_of_ble_eq_true rfl, rfl, rfl⟩ h1 rfl h2) ?_
    dsimp only
    refine Matched.one (q_jump 104 ⟨rfl, Nat.le_of_ble_eq_true rfl, rfl, rfl⟩ rfl) ?_
    dsimp only
    refine Matched.one (r_success ⟨rfl, Nat.le_of_ble_eq_true rfl, rfl, rfl⟩ (fun e => nomatch e) rfl) ?_
    dsimp only
    exact Matched.done rfl rfl (by simpa [yesKind] using hf) (by simp only [List.length_cons]; omega) rfl rfl rfl h3
  · refine Matched.one (q_lit_no 44 ⟨rfl, Nat.le_of_ble_eq_true rfl, rfl, rfl⟩ rfl (fun l => absurd l (by show ¬ q + b < text.size; omega))) ?_
    dsimp only
    refine Matched.one (q_branch_next 98 (wt + 2) marks rfl rfl rfl rfl rfl rfl rfl (by show wt + 2 - (1 + 0) + 1 + 0 = wt + 2; omega) (by omega)) ?_
    dsimp only
    refine Matched.one (q_at_yes ⟨rfl, Nat.le_of_ble_eq_true rfl, rfl, rfl⟩ rfl h1) ?_
    dsimp only
    refine Matched.one (q_jump 104 ⟨rfl, Nat.le_of_ble_eq_true rfl, rfl, rfl⟩ rfl) ?_
    dsimp only
    refine Matched.one (r_success ⟨rfl, Nat.le_of_ble_eq_true rfl, rfl, rfl⟩ (fun e => nomatch e) rfl) ?_
    dsimp only
    exact Matched.done rfl rfl (by simpa [yesKind] using hf) (by simp only [List.length_cons]; omega) rfl h1 rfl h3

theorem etag_strong {text : Array Nat} {p a n b e : Nat} (hs : text.size < 4294967295) (ha : ∀ j, j < a → isWs (text.getD (p + j) 0)) (hq : text.getD (p + a) 0 = 34) (hn : ∀ j, j < n → text.getD (p + a + 1 + j) 0 ≠ 34)
    (hq2 : text.getD (p + a + 1 + n) 0 = 34) (E : TagEnd text (p + a + 1 + n + 1) b e) :
    Matched 100 (forMatch etagCode text 3 p text.size false false) p e 2 [none, some (p + a + 1, p + a + 1 + n), none] := by
  have hl := E.fits
  rw [etag_start (by omega)]
  refine Matched.one (q_rep1 17 1 { lastmark := -1, lastindex := -1, whole := false, marks := #[] } a ⟨rfl, Nat.le_of_ble_eq_true rfl, rfl, rfl⟩ rfl rfl rfl (by decide) (by show p + a ≤ text.size; omega) (Nat.zero_le _) rfl hs (fun j hj => acc_ws_yes (.inl rfl) (ha j hj)) (fun _ => acc_ws_no (.inl rfl) (by show ¬ isWs (text.getD (p + a) 0); rw [hq]; exact nws (by decide)))) ?_
  dsimp only
  refine Matched.one (q_repeat 34 2 ⟨rfl, Nat.le_of_ble_eq_true rfl, rfl, rfl⟩ rfl rfl (by decide)) ?_
  dsimp only
  refine Matched.one (q_more 0 { pc := 17, outer := none } { lastmark := -1, lastindex := -1, whole := true, marks := #[] } 21 3 0 #[{ pc := 17, count := 0, began := some (p + a), outer := none }] ⟨rfl, Nat.le_of_ble_eq_true rfl, rfl, rfl⟩ rfl rfl rfl rfl (by decide) rfl rfl rfl rfl (by decide) rfl) ?_
  dsimp only
  refine Matched.one (q_mark 0 #[some (p + a), none, none, none, none, none] 0 (-1) ⟨rfl, Nat.le_of_ble_eq_true rfl, rfl, rfl⟩ rfl rfl rfl rfl) ?_
  dsimp only
  refine Matched.one (r_in_no ⟨rfl, Nat.le_of_ble_eq_true rfl, rfl, rfl⟩ (fun _ => by show Acc etagCode 23 (text.getD (p + a) 0) false; rw [hq]; exact acc_w 34)) ?_
  dsimp only
  refine Matched.one (q_max_no { pc := 17, count := -1, began := none, outer := none } { lastmark := -1, lastindex := -1, whole := false, marks := #[] } 3 #[some (p + a), none, none, none, none, none] #[{ pc := 17, count := -1, began := none, outer := none }] rfl rfl rfl rfl rfl rfl rfl rfl rfl (by decide)) ?_
  dsimp only
  refine Matched.one (q_branch { lastmark := -1, lastindex := -1, whole := false, marks := #[] } 4 ⟨rfl, Nat.le_of_ble_eq_true rfl, rfl, rfl⟩ rfl rfl rfl (by decide)) ?_
  dsimp only
  refine Matched.one (q_lit 34 ⟨rfl, Nat.le_of_ble_eq_true rfl, rfl, rfl⟩ (by show p + a < text.size; omega) rfl hq) ?_
  dsimp only
  refine Matched.one (q_mark 2 #[none, none, some (p + a + 1), none, none, none] 2 (-1) ⟨rfl, Nat.le_of_ble_eq_true rfl, rfl, rfl⟩ rfl rfl rfl rfl) ?_
  dsimp only
  refine Matched.one (q_rep1 48 5 { lastmark := 2, lastindex := -1, whole := false, marks := #[] } n ⟨rfl, Nat.le_of_ble_eq_true rfl, rfl, rfl⟩ rfl rfl rfl (by decide) (by show p + a + 1 + n ≤ text.size; omega) (Nat.zero_le _) rfl hs (fun j hj => by have := acc_nq (text.getD (p + a + 1 + j) 0); rwa [show (text.getD (p + a + 1 + j) 0 != 34) = true by simpa using hn j hj] at this) (fun _ => by show Acc etagCode 45 (text.getD (p + a + 1 + n) 0) false; rw [hq2]; exact acc_nq 34)) ?_
  dsimp only
  refine Matched.one (q_mark 3 #[none, none, some (p + a + 1), some (p + a + 1 + n), none, none] 3 2 ⟨rfl, Nat.le_of_ble_eq_true rfl, rfl, rfl⟩ rfl rfl rfl rfl) ?_
  dsimp only
  refine Matched.one (q_lit 34 ⟨rfl, Nat.le_of_ble_eq_true rfl, rfl, rfl⟩ (by show p + a + 1 + n < text.size; omega) rfl hq2) ?_
  dsimp only
  refine Matched.one (q_jump 80 ⟨rfl, Nat.le_of_ble_eq_true rfl, rfl, rfl⟩ rfl) ?_
  dsimp only
  exact etag_tail hs E rfl (Nat.le_of_ble_eq_true rfl) (by decide) rfl

theorem etag_weak {text : Array Nat} {p a n b e : Nat} (hs : text.size < 4294967295) (ha : ∀ j, j < a → isWs (text.getD (p + j) 0)) (hW : text.getD (p + a) 0 = 87 ∨ text.getD (p + a) 0 = 119) (hsl : text.getD (p + a + 1) 0 = 47) (hq : text.getD (p + a + 1 + 1) 0 = 34)
    (hn : ∀ j, j < n → text.getD (p + a + 1 + 1 + 1 + j) 0 ≠ 34) (hq2 : text.getD (p + a + 1 + 1 + 1 + n) 0 = 34) (E : TagEnd text (p + a + 1 + 1 + 1 + n + 1) b e) :
    Matched 100 (forMatch etagCode text 3 p text.size false false) p e 2 [some (p + a, p + a + 1 + 1), some (p + a + 1 + 1 + 1, p + a + 1 + 1 + 1 + n), none] := by
  have hl := E.fits
  rw [etag_start (by omega)]
  refine Matched.one (q_rep1 17 1 { lastmark := -1, lastindex := -1, whole := false, marks := #[] } a ⟨rfl, Nat.le_of_ble_eq_true rfl, rfl, rfl⟩ rfl rfl rfl (by decide) (by show p + a ≤ text.size; omega) (Nat.zero_le _) rfl hs (fun j hj => acc_ws_yes (.inl rfl) (ha j hj)) (fun _ => acc_ws_no (.inl rfl) (by show ¬ isWs (text.getD (p + a) 0); unfold isWs; omega))) ?_
  dsimp only
  refine Matched.one (q_repeat 34 2 ⟨rfl, Nat.le_of_ble_eq_true rfl, rfl, rfl⟩ rfl rfl (by decide)) ?_
  dsimp only
  refine Matched.one (q_more 0 { pc := 17, outer := none } { lastmark := -1, lastindex := -1, whole := true, marks := #[] } 21 3 0 #[{ pc := 17, count := 0, began := some (p + a), outer := none }] ⟨rfl, Nat.le_of_ble_eq_true rfl, rfl, rfl⟩ rfl rfl rfl rfl (by decide) rfl rfl rfl rfl (by decide) rfl) ?_
  dsimp only
  refine Matched.one (q_mark 0 #[some (p + a), none, none, none, none, none] 0 (-1) ⟨rfl, Nat.le_of_ble_eq_true rfl, rfl, rfl⟩ rfl rfl rfl rfl) ?_
  dsimp only
  refine Matched.one (q_in 30 ⟨rfl, Nat.le_of_ble_eq_true rfl, rfl, rfl⟩ (by show p + a < text.size; omega) rfl (by show Acc etagCode 23 (text.getD (p + a) 0) true; rcases hW with h | h <;> rw [h] <;> exact acc_w _)) ?_
  dsimp only
  refine Matched.one (q_lit 47 ⟨rfl, Nat.le_of_ble_eq_true rfl, rfl, rfl⟩ (by show p + a + 1 < text.size; omega) rfl hsl) ?_
  dsimp only
  refine Matched.one (q_mark 1 #[some (p + a), some (p + a + 1 + 1), none, none, none, none] 1 1 ⟨rfl, Nat.le_of_ble_eq_true rfl, rfl, rfl⟩ rfl rfl rfl rfl) ?_
  dsimp only
  refine Matched.one (q_tail 0 { pc := 17, count := 0, began := some (p + a), outer := none } { lastmark := 1, lastindex := 1, whole := false, marks := #[] } 4 1 ⟨rfl, Nat.le_of_ble_eq_true rfl, rfl, rfl⟩ rfl rfl rfl rfl (by decide) rfl rfl rfl (by decide)) ?_
  dsimp only
  refine Matched.one (q_branch { lastmark := 1, lastindex := 1, whole := false, marks := #[] } 5 ⟨rfl, Nat.le_of_ble_eq_true rfl, rfl, rfl⟩ rfl rfl rfl (by decide)) ?_
  dsimp only
  refine Matched.one (q_lit 34 ⟨rfl, Nat.le_of_ble_eq_true rfl, rfl, rfl⟩ (by show p + a + 1 + 1 < text.size; omega) rfl hq) ?_
  dsimp only
  refine Matched.one (q_mark 2 #[some (p + a), some (p + a + 1 + 1), some (p + a + 1 + 1 + 1), none, none, none] 2 1 ⟨rfl, Nat.le_of_ble_eq_true rfl, rfl, rfl⟩ rfl rfl rfl rfl) ?_
  dsimp only
  refine Matched.one (q_rep1 48 6 { lastmark := 2, lastindex := 1, whole := false, marks := #[] } n ⟨rfl, Nat.le_of_ble_eq_true rfl, rfl, rfl⟩ rfl rfl rfl (by decide) (by show p + a + 1 + 1 + 1 + n ≤ text.size; omega) (Nat.zero_le _) rfl hs (fun j hj => by have := acc_nq (text.getD (p + a + 1 + 1 + 1 + j) 0); rwa [show (text.getD (p + a + 1 + 1 + 1 + j) 0 != 34) = true by simpa using hn j hj] at this) (fun _ => by show Acc etagCode 45 (text.getD (p + a + 1 + 1 + 1 + n) 0) false; rw [hq2]; exact acc_nq 34)) ?_
  dsimp only
  refine Matched.one (q_mark 3 #[some (p + a), some (p + a + 1 + 1), some (p + a + 1 + 1 + 1), some (p + a + 1 + 1 + 1 + n), none, none] 3 2 ⟨rfl, Nat.le_of_ble_eq_true rfl, rfl, rfl⟩ rfl rfl rfl rfl) ?_
  dsimp only
  refine Matched.one (q_lit 34 ⟨rfl, Nat.le_of_ble_eq_true rfl, rfl, rfl⟩ (by show p + a + 1 + 1 + 1 + n < text.size; omega) rfl hq2) ?_
  dsimp only
  refine Matched.one (q_jump 80 ⟨rfl, Nat.le_of_ble_eq_true rfl, rfl, rfl⟩ rfl) ?_
  dsimp only
  exact etag_tail hs E rfl (Nat.le_of_ble_eq_true rfl) (by decide) rfl

theorem etag_none {text : Array Nat} : Failed 10 (forMatch etagCode text 3 text.size text.size false false) := by
  have e : forMatch etagCode text 3 text.size text.size false false = { code := etagCode, text, lim := text.size, start := text.size, pc := 5, pos := text.size, handed := text.size, marks := #[none, none, none, none, none, none], seen := ({} : Seen).add 14, answer := some false } := by
    unfold forMatch
    rw [if_pos (by
      show ((1 : Nat) != 0 && decide (text.size ≤ text.size) && decide (text.size - text.size < 1)) = true
      simp)]
    rfl
  rw [e]
  exact Failed.done rfl rfl rfl
end Mine
end
section
namespace Mine
open PySem PySem.Sre

/-- the signs l stand at q -/
def Seg (text : Array Nat) (q : Nat) (l : List Nat) : Prop := ∀ i, (h : i < l.length) → text.getD (q + i) 0 = l[i] ∧ q + i < text.size
theorem Seg.of_drop {text : Array Nat} {q : Nat} {l r : List Nat} (h : text.toList.drop q = l ++ r) : Seg text q l := fun i hi => by
  have e : (text.toList.drop q)[i]? = some l[i] := by rw [h, List.getElem?_append_left hi, List.getElem?_eq_getElem hi]
  rw [List.getElem?_drop, Array.getElem?_toList] at e
  obtain ⟨hs, e⟩ := Array.getElem?_eq_some_iff.mp e
  exact ⟨by rw [Array.getD_eq_getD_getElem?, Array.getElem?_eq_getElem hs, Option.getD_some, e], hs⟩
theorem Seg.left {text : Array Nat} {q : Nat} {l r : List Nat} (h : Seg text q (l ++ r)) : Seg text q l := fun i hi => by
  have := h i (by rw [List.length_append]; omega)
  rwa [List.getElem_append_left hi] at this
theorem Seg.right {text : Array Nat} {q : Nat} {l r : List Nat} (h : Seg text q (l ++ r)) : Seg text (q + l.length) r := fun i hi => by
  have := h (l.length + i) (by rw [List.length_append]; omega)
  rw [List.getElem_append_right (by omega)] at this
  simpa [Nat.add_assoc] using this
theorem Seg.head {text : Array Nat} {q c : Nat} {r : List Nat} (h : Seg text q (c :: r)) : text.getD q 0 = c ∧ q < text.size := by
  have := h 0 (by simp)
  simpa using this
theorem Seg.tail {text : Array Nat} {q c : Nat} {r : List Nat} (h : Seg text q (c :: r)) : Seg text (q + 1) r := by
  have : Seg text q ([c] ++ r) := h
  simpa using this.right

def preL : Nat → List Nat
  | 0 => []
  | 1 => [87, 47]
  | _ => [119, 47]
/-- a told tag: how it is marked, its text -/
def toldL (t : Nat × List Nat) : List Nat := preL t.1 ++ 34 :: (t.2 ++ [34])
def restL (w1 w2 : List Nat) : List (Nat × List Nat) → List Nat
  | [] => []
  | [t] => toldL t
  | t :: u :: r => toldL t ++ (w1 ++ 44 :: (w2 ++ restL w1 w2 (u :: r)))

theorem drop_drop' {l : List Nat} {p : Nat} {a b : List Nat} (h : l.drop p = a ++ b) : l.drop (p + a.length) = b := by
  rw [← List.drop_drop, h, List.drop_left]
theorem extract_of_drop {text : Array Nat} {q : Nat} {l r : List Nat} (h : text.toList.drop q = l ++ r) : text.extract q (q + l.length) = l.toArray := by
  apply Array.ext'
  rw [Array.toList_extract, List.extract_eq_drop_take, h]
  simp

/-- where the next tag's match ends -/
theorem etag_step {text : Array Nat} {p : Nat} {w1 w2 lead : List Nat} {t : Nat × List Nat} {ts : List (Nat × List Nat)} (hs : text.size < 4294967295) (h1 : ∀ c ∈ w1, isWs c) (hl : ∀ c ∈ lead, isWs c) (hq : ∀ c ∈ t.2, c ≠ 34)
    (hd : text.toList.drop p = lead ++ restL w1 w2 (t :: ts)) :
    ∃ e b, p ≤ e ∧ e ≤ text.size ∧ ((ts = [] ∧ e = text.size) ∨ (ts ≠ [] ∧ text.toList.drop e = w2 ++ restL w1 w2 ts)) ∧ text.extract b (b + t.2.length) = t.2.toArray ∧
      ((t.1 = 0 ∧ Matched 100 (forMatch etagCode text 3 p text.size false false) p e 2 [none, some (b, b + t.2.length), none]) ∨
       (t.1 ≠ 0 ∧ ∃ c, c + 1 + 1 ≤ text.size ∧ Matched 100 (forMatch etagCode text 3 p text.size false false) p e 2 [some (c, c + 1 + 1), some (b, b + t.2.length), none])) := by
  obtain ⟨tail, hrest, htail⟩ : ∃ tail, restL w1 w2 (t :: ts) = toldL t ++ tail ∧ ((ts = [] ∧ tail = []) ∨ (ts ≠ [] ∧ tail = w1 ++ 44 :: (w2 ++ restL w1 w2 ts))) := by
    cases ts with
    | nil => exact ⟨[], by simp [restL], .inl ⟨rfl, rfl⟩⟩
    | cons u r => exact ⟨_, rfl, .inr ⟨by simp, rfl⟩⟩
  have hlen := congrArg List.length hd
  rw [List.length_drop, Array.length_toList, hrest] at hlen
  -- the place where the told tag begins
  have hd1 : text.toList.drop (p + lead.length) = preL t.1 ++ (34 :: (t.2 ++ (34 :: tail))) := by
    rw [drop_drop' hd, hrest]; simp [toldL]
  have hlead : ∀ j, j < lead.length → isWs (text.getD (p + j) 0) := fun j hj => by
    have := (Seg.of_drop hd) j hj
    rw [this.1]; exact hl _ (List.getElem_mem hj)
  -- from the quote on
  have core : ∀ q, text.toList.drop q = 34 :: (t.2 ++ (34 :: tail)) → text.getD q 0 = 34 ∧ (∀ j, j < t.2.length → text.getD (q + 1 + j) 0 ≠ 34) ∧ text.getD (q + 1 + t.2.length) 0 = 34 ∧
      text.extract (q + 1) (q + 1 + t.2.length) = t.2.toArray ∧
      ∃ b e, TagEnd text (q + 1 + t.2.length + 1) b e ∧ q ≤ e ∧ e ≤ text.size ∧ ((ts = [] ∧ e = text.size) ∨ (ts ≠ [] ∧ text.toList.drop e = w2 ++ restL w1 w2 ts)) := by
    intro q hq0
    have s0 : Seg text q (34 :: (t.2 ++ (34 :: tail))) := Seg.of_drop (r := []) (by rw [hq0]; simp)
    have d1 : text.toList.drop (q + 1) = t.2 ++ (34 :: tail) := drop_drop' (a := [34]) hq0
    have s1 := s0.tail
    have s2 := s1.right
    have d3 : text.toList.drop (q + 1 + t.2.length + 1) = tail := by
      have := drop_drop' d1
      exact drop_drop' (a := [34]) this
    have lenq := congrArg List.length hq0
    rw [List.length_drop, Array.length_toList] at lenq
    simp only [List.length_cons, List.length_append] at lenq
    refine ⟨s0.head.1, fun j hj => ?_, s2.head.1, extract_of_drop d1, ?_⟩
    · rw [(s1.left j hj).1]; exact hq _ (List.getElem_mem hj)
    · rcases htail with ⟨h0, rfl⟩ | ⟨h0, rfl⟩
      · refine ⟨0, text.size, ⟨fun j hj => absurd hj (Nat.not_lt_zero _), by simp at lenq; omega, .inr ⟨by simp at lenq; omega, rfl⟩⟩, by omega, Nat.le_refl _, .inl ⟨h0, rfl⟩⟩
      · have s3 : Seg text (q + 1 + t.2.length + 1) (w1 ++ 44 :: (w2 ++ restL w1 w2 ts)) := Seg.of_drop (r := []) (by rw [d3]; simp)
        have d4 : text.toList.drop (q + 1 + t.2.length + 1 + w1.length + 1) = w2 ++ restL w1 w2 ts := by
          have := drop_drop' d3
          exact drop_drop' (a := [44]) this
        have s4 := s3.right.head
        refine ⟨w1.length, q + 1 + t.2.length + 1 + w1.length + 1, ⟨fun j hj => ?_, by omega, .inl ⟨s4.2, s4.1, rfl⟩⟩, by omega, by omega, .inr ⟨h0, d4⟩⟩
        rw [(s3.left j hj).1]; exact h1 _ (List.getElem_mem hj)
  by_cases hf : t.1 = 0
  · rw [hf] at hd1
    obtain ⟨c1, c2, c3, c4, b, e, c5, c6, c7, c8⟩ := core (p + lead.length) hd1
    exact ⟨e, p + lead.length + 1, by omega, c7, c8, c4, .inl ⟨hf, etag_strong hs hlead c1 c2 c3 c5⟩⟩
  · have hp : ∃ W, (W = 87 ∨ W = 119) ∧ preL t.1 = [W, 47] := by
      unfold preL
      split
      · exact absurd (by assumption) hf
      · exact ⟨87, .inl rfl, rfl⟩
      · exact ⟨119, .inr rfl, rfl⟩
    obtain ⟨W, hW, hp⟩ := hp
    rw [hp] at hd1
    have s0 : Seg text (p + lead.length) (W :: 47 :: (34 :: (t.2 ++ (34 :: tail)))) := Seg.of_drop (r := []) (by rw [hd1]; simp)
    have d2 : text.toList.drop (p + lead.length + 1 + 1) = 34 :: (t.2 ++ (34 :: tail)) := drop_drop' (a := [W, 47]) hd1
    obtain ⟨c1, c2, c3, c4, b, e, c5, c6, c7, c8⟩ := core _ d2
    refine ⟨e, p + lead.length + 1 + 1 + 1, by omega, c7, c8, c4, .inr ⟨hf, p + lead.length, by omega, etag_weak hs hlead (by rw [s0.head.1]; exact hW) s0.tail.head.1 c1 c2 c3 c5⟩⟩
end Mine
end
section
namespace Mine
open PySem PySem.W PyProof.Rows

theorem plainAttrs_pattern : PlainAttrs "re.Pattern" :=
  ⟨⟨"object.__getattribute__", by rw [typeLookup_type, builtinLookup_eq_fast]; kernel_rfl, by decide +kernel⟩, by rw [typeLookup_type, builtinLookup_eq_fast]; kernel_rfl⟩
theorem plainAttrs_match : PlainAttrs "re.Match" :=
  ⟨⟨"object.__getattribute__", by rw [typeLookup_type, builtinLookup_eq_fast]; kernel_rfl, by decide +kernel⟩, by rw [typeLookup_type, builtinLookup_eq_fast]; kernel_rfl⟩
theorem slot_pattern_match : Slot "re.Pattern" "match" "re.Pattern.match" :=
  .of (owner := "re.Pattern") (n := "match") (by rw [typeLookup_type, builtinLookup_eq_fast]; kernel_rfl) (by decide +kernel) (by decide +kernel) (by decide +kernel)
    (by first | exact .inl (by decide +kernel) | exact .inr (by decide +kernel)) (by rw [isSubtype_type]; kernel_rfl)
theorem entry_pattern_match : entryFor table "re.Pattern.match" = some Builtin.«re.Pattern.match» := entryFor_of_tree (by kernel_rfl)
theorem args_pattern_match (a b c : Value) : argsOk "re.Pattern.match" ⟨[a, b, c], []⟩ := by unfold argsOk; kernel_rfl
theorem type_pattern_match : typeOf (.builtin "re.Pattern.match") = pure (.type "method_descriptor") := by show builtinType _ = _; rw [builtinType_eq_fast]; kernel_rfl
theorem slot_pattern_fullmatch : Slot "re.Pattern" "fullmatch" "re.Pattern.fullmatch" :=
  .of (owner := "re.Pattern") (n := "fullmatch") (by rw [typeLookup_type, builtinLookup_eq_fast]; kernel_rfl) (by decide +kernel) (by decide +kernel) (by decide +kernel)
    (by first | exact .inl (by decide +kernel) | exact .inr (by decide +kernel)) (by rw [isSubtype_type]; kernel_rfl)
theorem entry_pattern_fullmatch : entryFor table "re.Pattern.fullmatch" = some Builtin.«re.Pattern.fullmatch» := entryFor_of_tree (by kernel_rfl)
theorem args_pattern_fullmatch (a b : Value) : argsOk "re.Pattern.fullmatch" ⟨[a, b], []⟩ := by unfold argsOk; kernel_rfl
theorem type_pattern_fullmatch : typeOf (.builtin "re.Pattern.fullmatch") = pure (.type "method_descriptor") := by show builtinType _ = _; rw [builtinType_eq_fast]; kernel_rfl
theorem slot_pattern_search : Slot "re.Pattern" "search" "re.Pattern.search" :=
  .of (owner := "re.Pattern") (n := "search") (by rw [typeLookup_type, builtinLookup_eq_fast]; kernel_rfl) (by decide +kernel) (by decide +kernel) (by decide +kernel)
    (by first | exact .inl (by decide +kernel) | exact .inr (by decide +kernel)) (by rw [isSubtype_type]; kernel_rfl)
theorem entry_pattern_search : entryFor table "re.Pattern.search" = some Builtin.«re.Pattern.search» := entryFor_of_tree (by kernel_rfl)
theorem args_pattern_search (a b c : Value) : argsOk "re.Pattern.search" ⟨[a, b, c], []⟩ := by unfold argsOk; kernel_rfl
theorem type_pattern_search : typeOf (.builtin "re.Pattern.search") = pure (.type "method_descriptor") := by show builtinType _ = _; rw [builtinType_eq_fast]; kernel_rfl
theorem slot_match_groups : Slot "re.Match" "groups" "re.Match.groups" :=
  .of (owner := "re.Match") (n := "groups") (by rw [typeLookup_type, builtinLookup_eq_fast]; kernel_rfl) (by decide +kernel) (by decide +kernel) (by decide +kernel)
    (by first | exact .inl (by decide +kernel) | exact .inr (by decide +kernel)) (by rw [isSubtype_type]; kernel_rfl)
theorem entry_match_groups : entryFor table "re.Match.groups" = some Builtin.«re.Match.groups» := entryFor_of_tree (by kernel_rfl)
theorem args_match_groups (a : Value) : argsOk "re.Match.groups" ⟨[a], []⟩ := by unfold argsOk; kernel_rfl
theorem type_match_groups : typeOf (.builtin "re.Match.groups") = pure (.type "method_descriptor") := by show builtinType _ = _; rw [builtinType_eq_fast]; kernel_rfl
theorem slot_match_end : Slot "re.Match" "end" "re.Match.end" :=
  .of (owner := "re.Match") (n := "end") (by rw [typeLookup_type, builtinLookup_eq_fast]; kernel_rfl) (by decide +kernel) (by decide +kernel) (by decide +kernel)
    (by first | exact .inl (by decide +kernel) | exact .inr (by decide +kernel)) (by rw [isSubtype_type]; kernel_rfl)
theorem entry_match_end : entryFor table "re.Match.end" = some Builtin.«re.Match.end» := entryFor_of_tree (by kernel_rfl)
theorem args_match_end (a : Value) : argsOk "re.Match.end" ⟨[a], []⟩ := by unfold argsOk; kernel_rfl
theorem type_match_end : typeOf (.builtin "re.Match.end") = pure (.type "method_descriptor") := by show builtinType _ = _; rw [builtinType_eq_fast]; kernel_rfl
theorem slot_match_start : Slot "re.Match" "start" "re.Match.start" :=
  .of (owner := "re.Match") (n := "start") (by rw [typeLookup_type, builtinLookup_eq_fast]; kernel_rfl) (by decide +kernel) (by decide +kernel) (by decide +kernel)
    (by first | exact .inl (by decide +kernel) | exact .inr (by decide +kernel)) (by rw [isSubtype_type]; kernel_rfl)
theorem entry_match_start : entryFor table "re.Match.start" = some Builtin.«re.Match.start» := entryFor_of_tree (by kernel_rfl)
theorem args_match_start (a : Value) : argsOk "re.Match.start" ⟨[a], []⟩ := by unfold argsOk; kernel_rfl
theorem type_match_start : typeOf (.builtin "re.Match.start") = pure (.type "method_descriptor") := by show builtinType _ = _; rw [builtinType_eq_fast]; kernel_rfl
theorem slot_match_group : Slot "re.Match" "group" "re.Match.group" :=
  .of (owner := "re.Match") (n := "group") (by rw [typeLookup_type, builtinLookup_eq_fast]; kernel_rfl) (by decide +kernel) (by decide +kernel) (by decide +kernel)
    (by first | exact .inl (by decide +kernel) | exact .inr (by decide +kernel)) (by rw [isSubtype_type]; kernel_rfl)
theorem entry_match_group : entryFor table "re.Match.group" = some Builtin.«re.Match.group» := entryFor_of_tree (by kernel_rfl)
theorem args_match_group (a b : Value) : argsOk "re.Match.group" ⟨[a, b], []⟩ := by unfold argsOk; kernel_rfl
theorem type_match_group : typeOf (.builtin "re.Match.group") = pure (.type "method_descriptor") := by show builtinType _ = _; rw [builtinType_eq_fast]; kernel_rfl
end Mine
end
section
namespace Mine
open PySem PySem.W PyProof.Rows

section
variable {M : Model} {A : Around} {E : Value → Shared → Prop} {s : Shared}

theorem wp_reDrive {Q : Sre.M → Shared → Prop} : ∀ (turns : Nat) (N : Nat) (m : Sre.M), (Sre.M.runFor N m).outcome.isSome = true → N ≤ 4 * turns → 0 < turns → Q (Sre.M.runFor N m) s →
    wpAny M A (Builtin.Re.reDrive turns m) Q E s
  | 0, _, _, _, _, h, _ => absurd h (Nat.lt_irrefl _)
  | turns + 1, N, m, ho, hN, _, hQ => by
    unfold Builtin.Re.reDrive
    dsimp only
    by_cases h4 : (Sre.M.runFor Builtin.Re.reTurnSteps m).outcome.isSome = true
    · rw [if_pos h4]
      have e : Sre.M.runFor N m = Sre.M.runFor Builtin.Re.reTurnSteps m := by
        rcases Nat.le_total N 4 with l | l
        · have : Sre.M.runFor 4 m = Sre.M.runFor (4 - N) (Sre.M.runFor N m) := by rw [← runFor_add]; congr 1; omega
          show _ = Sre.M.runFor 4 m
          rw [this, runFor_done ho]
        · have : Sre.M.runFor N m = Sre.M.runFor (N - 4) (Sre.M.runFor 4 m) := by rw [← runFor_add]; congr 1; omega
          rw [this]
          exact runFor_done h4 _
      rw [e] at hQ
      exact wpAny_pure hQ
    · rw [if_neg h4]
      have l : 4 < N := by
        apply Nat.lt_of_not_le
        intro l
        apply h4
        have : Sre.M.runFor 4 m = Sre.M.runFor (4 - N) (Sre.M.runFor N m) := by rw [← runFor_add]; congr 1; omega
        show (Sre.M.runFor 4 m).outcome.isSome = true
        rw [this, runFor_done ho]
        exact ho
      have e : Sre.M.runFor N m = Sre.M.runFor (N - 4) (Sre.M.runFor 4 m) := by rw [← runFor_add]; congr 1; omega
      rw [e] at ho hQ
      exact wpAny_bind (wpAny_rule (wp_reDrive turns (N - 4) _ ho (by omega) (by omega) hQ))

theorem wp_rules {m : Sre.M} {Q : PUnit → Shared → Prop} (hQ : Q ⟨⟩ s) : ∀ l : List Nat, wpAny M A (forIn (m := Sem) l PUnit.unit fun i _ => do
      if m.seen.has i = true then do rule (Sre.names.getD i ""); pure (ForInStep.yield PUnit.unit) else pure (ForInStep.yield PUnit.unit)) Q E s
  | [] => wpAny_pure hQ
  | i :: l => by
    rw [List.forIn_cons]
    refine wpAny_bind ?_
    split
    · exact wpAny_bind (wpAny_rule (wpAny_pure (wp_rules hQ l)))
    · exact wpAny_pure (wp_rules hQ l)

theorem wp_run {m m' : Sre.M} {k : Nat} {Q : Option Sre.M → Shared → Prop} (h : Reach k m m') (hk : k ≤ 4 * 2 ^ 64) (ho : m'.outcome = some .matched) (hQ : ∀ sn, Q (some { m' with seen := sn }) s) :
    wpAny M A (Builtin.Re.reRunToEnd m) Q E s := by
  obtain ⟨n, hn, sn, e⟩ := h m.seen
  have e' : Sre.M.runFor n m = { m' with seen := sn } := e
  have q : (Sre.M.runFor n m).outcome = some .matched := by rw [e']; exact ho
  unfold Builtin.Re.reRunToEnd
  refine wpAny_bind (wp_reDrive _ n m (by rw [q]; rfl) (by omega) (Nat.two_pow_pos 64) ?_)
  refine wpAny_bind (wp_rules ?_ _)
  rw [q]
  refine wpAny_pure ?_
  rw [e']
  exact hQ sn
theorem wp_run_no {m : Sre.M} {k : Nat} {Q : Option Sre.M → Shared → Prop} (h : Failed k m) (hk : k ≤ 4 * 2 ^ 64) (hQ : Q none s) :
    wpAny M A (Builtin.Re.reRunToEnd m) Q E s := by
  obtain ⟨m', h, ho⟩ := h
  obtain ⟨n, hn, sn, e⟩ := h m.seen
  have e' : Sre.M.runFor n m = { m' with seen := sn } := e
  have q : (Sre.M.runFor n m).outcome = some .failed := by rw [e']; exact ho
  unfold Builtin.Re.reRunToEnd
  refine wpAny_bind (wp_reDrive _ n m (by rw [q]; rfl) (by omega) (Nat.two_pow_pos 64) ?_)
  refine wpAny_bind (wp_rules ?_ _)
  rw [q]
  exact wpAny_pure hQ
end
end Mine
end
section
namespace Mine
open PySem PySem.W PyProof.Rows
open PySem.Builtin.Re

structure PatAt (h : Heap) (P : Addr) (code : Array Nat) (groups want : Nat) : Prop where
  at_ : ∃ o fs C oc items n, h.get? P = some o ∧ o.cls = .type "re.Pattern" ∧ o.dict = none ∧ o.data = .fields fs ∧ fs.getD 5 .none = .ref C ∧ h.get? C = some oc ∧ oc.data = .seq items n ∧
    (items.map reRawOf).map (·.toNat) = code ∧ reRawNat (fs.getD 2 .none) = groups ∧ reRawNat (fs.getD 6 .none) = want
theorem PatAt.keeps {h h' : Heap} {P : Addr} {code : Array Nat} {groups want : Nat} (x : PatAt h P code groups want) (k : ∀ b o, h.get? b = some o → h'.get? b = some o) : PatAt h' P code groups want := by
  obtain ⟨o, fs, C, oc, items, n, h1, h2, h3, h4, h5, h6, h7⟩ := x.at_
  exact ⟨o, fs, C, oc, items, n, k _ _ h1, h2, h3, h4, h5, k _ _ h6, h7⟩
theorem PatAt.typeIs {s : Shared} {P : Addr} {code : Array Nat} {groups want : Nat} (x : PatAt s.heap P code groups want) : s.TypeIs (.ref P) "re.Pattern" := by
  obtain ⟨o, fs, C, oc, items, n, h1, h2, _⟩ := x.at_
  exact ⟨o, h1, h2⟩

section
variable {M : Model} {A : Around} {E : Value → Shared → Prop} {s : Shared} {P : Addr} {code : Array Nat} {groups : Nat}

theorem wp_field {fs : Array Value} {o : Obj} {a : Addr} {Q : Array Value → Shared → Prop} (ho : s.heap.get? a = some o) (hd : o.data = .fields fs) (h : Q fs s) : wpAny M A (fieldsOf (.ref a)) Q E s := wpAny_fieldsOf ho hd h

theorem wp_rawItems {C : Addr} {oc : Obj} {items : Array Value} {n : Nat} {Q : Array Int → Shared → Prop} (ho : s.heap.get? C = some oc) (hd : oc.data = .seq items n) (h : Q (items.map reRawOf) s) : wpAny M A (reRawItems (.ref C)) Q E s := by
  unfold reRawItems
  exact wpAny_bind (wpAny_seqItems ho hd (wpAny_pure h))

theorem wp_ssize {p : Int} {u : Tok} {Q : Int → Shared → Prop} (h1 : -(2 ^ 63) ≤ p) (h2 : p < 2 ^ 63) (h : Q p s) : wpAny M A (reSsize (.int p u)) Q E s := by
  unfold reSsize
  refine wpAny_bind (m := asIndex (.int p u)) (Q := Q) (wpAny_bind (m := asInt? (.int p u)) (wpAny_pure (wpAny_pure ?_)))
  rw [if_neg (by simp; omega)]
  exact wpAny_pure h

/-- pattern.method(text, pos) -/
theorem wp_target_pos {id f : String} {x : Str} {t u : Tok} {p : Nat} {Q : ReTarget → Shared → Prop} (hP : PatAt s.heap P code groups 0) (hp : p < 2 ^ 63) (hx : x.cps.size < 2 ^ 63)
    (h : Q { pattern := .ref P, string := .str x t, code, text := x.cps, kind := 0, groups, pos := min p x.cps.size, lim := x.cps.size } s) :
    wpAny M A (reTarget id f ⟨[.ref P, .str x t, .int p u], []⟩) Q E s := by
  obtain ⟨o, fs, C, oc, items, n, h1, h2, h3, h4, h5, h6, h7, h8, h9, h10⟩ := hP.at_
  have e : reNamed id f ["string", "pos", "endpos"] 1 [.str x t, .int p u] [] = pure [some (.str x t), some (.int p u), none] := rfl
  unfold reTarget
  dsimp only
  rw [e]
  refine wpAny_bind (wpAny_pure ?_)
  refine wpAny_bind (wp_ssize (by omega) (by omega) ?_)
  refine wpAny_bind (wpAny_pure ?_)
  refine wpAny_bind (wpAny_fieldsOf h1 h4 ?_)
  refine wpAny_bind (m := reTextOf (.str x t)) (wpAny_pure ?_)
  dsimp only
  rw [h10, if_neg (by decide), if_neg (by decide)]
  refine wpAny_bind (m := reNoCollectionInside (.str x t) 0) (wpAny_pure ?_)
  rw [h5]
  refine wpAny_bind (wp_rawItems h6 h7 (wpAny_pure ?_))
  rw [h8, h9]
  have e1 : min ((p : Int)).toNat x.cps.size = min p x.cps.size := by simp
  have e2 : min ((2 ^ 63 - 1 : Int)).toNat x.cps.size = x.cps.size := by omega
  rw [e1, e2]
  exact h
end
end Mine
end
section
namespace Mine
open PySem PySem.W PyProof.Rows
open PySem.Builtin.Re

def spanOf (x : Option (Nat × Nat)) : List Value := match x with | some (b, e) => [rawInt b, rawInt e] | none => [rawInt (-1), rawInt (-1)]
def SpansOk (l : List (Option (Nat × Nat))) : Prop := ∀ b e, some (b, e) ∈ l → b ≤ e
abbrev tupObj (vs : List Value) : Obj := { cls := .type "tuple", data := .seq vs.toArray }
abbrev matchObj (P : Addr) (str : Value) (pos lim : Nat) (li : Int) (T : Addr) : Obj := { cls := .type "re.Match", data := .fields #[str, .ref P, rawInt pos, rawInt lim, rawInt li, .ref T] }

section
variable {M : Model} {A : Around} {E : Value → Shared → Prop} {s : Shared}

theorem wp_newMatch {P : Addr} {str : Value} {pos lim st en : Nat} {li : Int} {m : Sre.M} {spans : List (Option (Nat × Nat))} {Q : Value → Shared → Prop} (hst : m.start = st) (hen : m.handed = en) (hli : m.lastindex = li)
    (hsp : (List.range spans.length).map (fun g => if ((2 * g + 1 : Nat) : Int) ≤ m.lastmark then (m.marks.getD (2 * g) none, m.marks.getD (2 * g + 1) none) else (none, none)) = spans.map fun x => match x with | some (b, e) => (some b, some e) | none => (none, none))
    (hok : SpansOk spans) (hlen : spans.length ≤ 100)
    (h : Q (.ref (s.heap.objs.size + 1)) { s with heap := (s.heap.push (tupObj (rawInt st :: rawInt en :: spans.flatMap spanOf))).push (matchObj P str pos lim li s.heap.objs.size) }) :
    wpAny M A (reNewMatch (.ref P) str spans.length pos lim m) Q E s := by
  unfold reNewMatch
  have e1 : ((List.range spans.length).flatMap fun g =>
      match if ((2 * g + 1 : Nat) : Int) ≤ m.lastmark then (m.marks.getD (2 * g) none, m.marks.getD (2 * g + 1) none) else (none, none) with
      | (some b, some e) => [rawInt b, rawInt e]
      | _ => [rawInt (-1), rawInt (-1)]) = spans.flatMap spanOf := by
    have : ∀ (l : List Nat), (l.flatMap fun g =>
      match if ((2 * g + 1 : Nat) : Int) ≤ m.lastmark then (m.marks.getD (2 * g) none, m.marks.getD (2 * g + 1) none) else (none, none) with
      | (some b, some e) => [rawInt b, rawInt e]
      | _ => [rawInt (-1), rawInt (-1)]) = (l.map fun g => if ((2 * g + 1 : Nat) : Int) ≤ m.lastmark then (m.marks.getD (2 * g) none, m.marks.getD (2 * g + 1) none) else (none, none)).flatMap fun x : Option Nat × Option Nat => match x with
      | (some b, some e) => [rawInt b, rawInt e]
      | _ => [rawInt (-1), rawInt (-1)] := fun l => by rw [List.flatMap_map]
    rw [this, hsp, List.flatMap_map]
    congr 1
    funext x
    cases x with
    | none => rfl
    | some x => rfl
  have e2 : ((List.range spans.length).any fun g => match m.marks.getD (2 * g) none, m.marks.getD (2 * g + 1) none with | some b, some e => decide (((2 * g + 1 : Nat) : Int) ≤ m.lastmark) && decide (e < b) | _, _ => false) = false := by
    rw [List.any_eq_false]
    intro g hg
    have hg' : g < spans.length := List.mem_range.mp hg
    have hx := congrArg (fun l => l[g]?) hsp
    simp only [List.getElem?_map, List.getElem?_range hg', Option.map_some, List.getElem?_eq_getElem hg'] at hx
    split
    · rename_i b e h1 h2
      rw [h1, h2] at hx
      by_cases hl : ((2 * g + 1 : Nat) : Int) ≤ m.lastmark
      · rw [if_pos hl] at hx
        have hmem : spans[g] ∈ spans := List.getElem_mem hg'
        cases q : spans[g] with
        | none => rw [q] at hx; simp at hx
        | some z =>
          obtain ⟨b', e'⟩ := z
          rw [q] at hx hmem
          simp at hx
          have := hok _ _ hmem
          simp [hl]; omega
      · rw [decide_eq_false hl]; simp
    · simp
  dsimp only
  generalize hF : List.flatMap _ (List.range spans.length) = L
  obtain rfl : L = spans.flatMap spanOf := hF.symm.trans e1
  clear hF
  rw [if_neg (by exact fun z => Bool.false_ne_true (e2.symm.trans z))]
  have hlen2 : (spans.flatMap spanOf).length ≤ 2 * spans.length := by
    have : ∀ l : List (Option (Nat × Nat)), (l.flatMap spanOf).length ≤ 2 * l.length := by
      intro l
      induction l with
      | nil => simp
      | cons x l ih =>
        rw [List.flatMap_cons, List.length_append, List.length_cons]
        have : (spanOf x).length = 2 := by cases x <;> rfl
        omega
    exact this spans
  refine wpAny_bind (m := newTuple _) ?_
  rw [hst, hen, hli]
  refine wpAny_newObj_type ?_ (by show (rawInt st :: rawInt en :: spans.flatMap spanOf).toArray.size ≤ sizeLine; rw [List.size_toArray, List.length_cons, List.length_cons]; have : sizeLine = 16777216 := rfl; omega)
  refine wpAny_newObj_type ?_ (by show 6 ≤ sizeLine + 2; decide)
  rw [Heap.size_push]
  exact h
end

section
variable {prog : Program} {w : World} {A : Around} {E : Value → Shared → Prop} {s : Shared} {P : Addr} {code : Array Nat}

theorem re_match_yes {x : Str} {t u : Tok} {p st en k : Nat} {li : Int} {spans : List (Option (Nat × Nat))} {Q : Value → Shared → Prop} (hP : PatAt s.heap P code spans.length 0) (hp : p ≤ x.cps.size) (hx : x.cps.size < 2 ^ 62)
    (hm : Matched k (Sre.forMatch code x.cps spans.length p x.cps.size false false) st en li spans) (hk : k ≤ 4 * 2 ^ 64) (hok : SpansOk spans) (hlen : spans.length ≤ 100)
    (h : Q (.ref (s.heap.objs.size + 1)) { s with heap := (s.heap.push (tupObj (rawInt st :: rawInt en :: spans.flatMap spanOf))).push (matchObj P (.str x t) p x.cps.size li s.heap.objs.size) }) :
    wpAny (model prog w) A (call (.builtin "re.Pattern.match") [.ref P, .str x t, .int p u]) Q E s := by
  refine wpAny_call_entry slot_pattern_match hP.typeIs entry_pattern_match ?_ (args_pattern_match _ _ _)
  unfold Builtin.«re.Pattern.match»
  refine wpAny_bind (wp_target_pos hP (by omega) (by omega) ?_)
  unfold reAnswer
  dsimp only
  rw [Nat.min_eq_left hp]
  obtain ⟨m', r, ho, h1, h2, h3, h4⟩ := hm
  refine wpAny_bind (wp_run r hk ho fun sn => ?_)
  dsimp only
  refine wpAny_bind (wp_newMatch (m := { m' with seen := sn }) h1 h2 h3 h4 hok hlen ?_)
  exact wpAny_pure ⟨_, rfl, h⟩
theorem re_match_no {x : Str} {t u : Tok} {p k groups : Nat} {Q : Value → Shared → Prop} (hP : PatAt s.heap P code groups 0) (hp : p ≤ x.cps.size) (hx : x.cps.size < 2 ^ 62)
    (hm : Failed k (Sre.forMatch code x.cps groups p x.cps.size false false)) (hk : k ≤ 4 * 2 ^ 64) (h : Q .none s) :
    wpAny (model prog w) A (call (.builtin "re.Pattern.match") [.ref P, .str x t, .int p u]) Q E s := by
  refine wpAny_call_entry slot_pattern_match hP.typeIs entry_pattern_match ?_ (args_pattern_match _ _ _)
  unfold Builtin.«re.Pattern.match»
  refine wpAny_bind (wp_target_pos hP (by omega) (by omega) ?_)
  unfold reAnswer
  dsimp only
  rw [Nat.min_eq_left hp]
  refine wpAny_bind (wp_run_no hm hk ?_)
  exact wpAny_pure ⟨_, rfl, h⟩

/-- the found parts -/
structure FoundAt (h : Heap) (a : Addr) (x : Str) (st en : Nat) (spans : List (Option (Nat × Nat))) : Prop where
  at_ : ∃ P t pos lim li T, h.get? a = some (matchObj P (.str x t) pos lim li T) ∧ h.get? T = some (tupObj (rawInt st :: rawInt en :: spans.flatMap spanOf))
theorem FoundAt.keeps {h h' : Heap} {a : Addr} {x : Str} {st en : Nat} {spans : List (Option (Nat × Nat))} (f : FoundAt h a x st en spans) (k : ∀ b o, h.get? b = some o → h'.get? b = some o) : FoundAt h' a x st en spans := by
  obtain ⟨P, t, pos, lim, li, T, h1, h2⟩ := f.at_
  exact ⟨P, t, pos, lim, li, T, k _ _ h1, k _ _ h2⟩
theorem FoundAt.typeIs {s : Shared} {a : Addr} {x : Str} {st en : Nat} {spans : List (Option (Nat × Nat))} (f : FoundAt s.heap a x st en spans) : s.TypeIs (.ref a) "re.Match" := by
  obtain ⟨P, t, pos, lim, li, T, h1, h2⟩ := f.at_
  exact ⟨_, h1, rfl⟩

theorem wp_found {a : Addr} {x : Str} {st en : Nat} {spans : List (Option (Nat × Nat))} {Q : ReFound → Shared → Prop} (f : FoundAt s.heap a x st en spans)
    (h : ∀ t rest, Q ⟨#[.str x t] ++ rest, ((rawInt st :: rawInt en :: spans.flatMap spanOf).map reRawOf).toArray⟩ s) : wpAny (model prog w) A (reFound (.ref a)) Q E s := by
  obtain ⟨P, t, pos, lim, li, T, h1, h2⟩ := f.at_
  unfold reFound
  refine wpAny_bind (wpAny_fieldsOf h1 rfl ?_)
  refine wpAny_bind (m := reRawItems (.ref T)) (wp_rawItems h2 rfl (wpAny_pure ?_))
  have := h t #[.ref P, rawInt pos, rawInt lim, rawInt li, .ref T]
  rw [List.map_toArray]
  exact this

theorem re_end {a : Addr} {x : Str} {st en : Nat} {spans : List (Option (Nat × Nat))} {Q : Value → Shared → Prop} (f : FoundAt s.heap a x st en spans) (h : Q (.int en s.toks) { s with toks := s.toks + 1 }) :
    wpAny (model prog w) A (call (.builtin "re.Match.end") [.ref a]) Q E s := by
  refine wpAny_call_entry slot_match_end f.typeIs entry_match_end ?_ (args_match_end _)
  unfold Builtin.«re.Match.end» reOneGroup
  refine wpAny_bind (wpAny_bind (m := selfAndSome "Match.end" "end" 0 1 ⟨[.ref a], []⟩) (wpAny_pure ?_))
  refine wpAny_bind (wp_found f fun t rest => ?_)
  refine wpAny_bind (wpAny_pure (wpAny_pure ?_))
  refine wpAny_bind (wpAny_mkInt (wpAny_pure ⟨_, rfl, ?_⟩))
  exact h
theorem re_start {a : Addr} {x : Str} {st en : Nat} {spans : List (Option (Nat × Nat))} {Q : Value → Shared → Prop} (f : FoundAt s.heap a x st en spans) (h : Q (.int st s.toks) { s with toks := s.toks + 1 }) :
    wpAny (model prog w) A (call (.builtin "re.Match.start") [.ref a]) Q E s := by
  refine wpAny_call_entry slot_match_start f.typeIs entry_match_start ?_ (args_match_start _)
  unfold Builtin.«re.Match.start» reOneGroup
  refine wpAny_bind (wpAny_bind (m := selfAndSome "Match.start" "start" 0 1 ⟨[.ref a], []⟩) (wpAny_pure ?_))
  refine wpAny_bind (wp_found f fun t rest => ?_)
  refine wpAny_bind (wpAny_pure (wpAny_pure ?_))
  refine wpAny_bind (wpAny_mkInt (wpAny_pure ⟨_, rfl, ?_⟩))
  exact h
end
end Mine
end
section
namespace Mine
open PySem PySem.W PyProof.Rows
open PySem.Builtin.Re

def partOf (x : Str) (sp : Option (Nat × Nat)) (t : Tok) : Value := match sp with | none => .none | some (b, e) => .str ⟨x.cps.extract b e⟩ t

def spB (sp : Option (Nat × Nat)) : Int := match sp with | some (b, _) => b | none => -1
def spE (sp : Option (Nat × Nat)) : Int := match sp with | some (_, e) => e | none => -1

section
variable {prog : Program} {w : World} {A : Around} {E : Value → Shared → Prop} {s : Shared} {P : Addr} {code : Array Nat}

theorem wp_groupText {x : Str} {t : Tok} {rest : Array Value} {spans : Array Int} {g : Nat} {sp : Option (Nat × Nat)} {Q : Value → Shared → Prop} (hx : x.cps.size ≤ 1000000)
    (h1 : spans.getD (2 * g) (-1) = spB sp) (h2 : spans.getD (2 * g + 1) (-1) = spE sp)
    (h : ∀ t tk, Q (partOf x sp t) { s with toks := tk }) : wpAny (model prog w) A (reGroupText ⟨#[.str x t] ++ rest, spans⟩ g .none) Q E s := by
  unfold reGroupText
  dsimp only
  rw [h1, h2]
  cases sp with
  | none =>
    rw [if_pos (by rfl)]
    have := h 0 s.toks
    exact wpAny_pure this
  | some z =>
    obtain ⟨b, e⟩ := z
    rw [if_neg (by unfold spB spE; simp)]
    show wpAny (model prog w) A (do let (text, kind) ← reTextOf ((#[Value.str x t] ++ rest).getD 0 .none); reSlice text kind (b : Int).toNat (e : Int).toNat) Q E s
    have e0 : (#[Value.str x t] ++ rest).getD 0 .none = .str x t := by
      rw [Array.getD_eq_getD_getElem?, Array.getElem?_append_left (by simp)]; rfl
    rw [e0]
    refine wpAny_bind (m := reTextOf (.str x t)) (wpAny_pure ?_)
    dsimp only
    unfold reSlice
    rw [if_pos (by rfl)]
    unfold mkStr
    rw [if_neg (by
      have : (Str.mk (x.cps.extract (b : Int).toNat (e : Int).toNat)).length ≤ x.cps.size := by
        show (x.cps.extract (b : Int).toNat (e : Int).toNat).size ≤ _
        rw [Array.size_extract]; omega
      have e3 : sizeLine = 16777216 := rfl
      omega)]
    refine wpAny_bind (m := fresh) (wpAny_fresh (wpAny_pure ?_))
    exact h s.toks (s.toks + 1)

theorem re_groups3 {a : Addr} {x : Str} {st en : Nat} {s1 s2 s3 : Option (Nat × Nat)} {Q : Value → Shared → Prop} (f : FoundAt s.heap a x st en [s1, s2, s3]) (hx : x.cps.size ≤ 1000000)
    (h : ∀ t1 t2 t3 tk, Q (.ref s.heap.objs.size) { s with heap := s.heap.push (tupObj [partOf x s1 t1, partOf x s2 t2, partOf x s3 t3]), toks := tk }) :
    wpAny (model prog w) A (call (.builtin "re.Match.groups") [.ref a]) Q E s := by
  refine wpAny_call_entry slot_match_groups f.typeIs entry_match_groups ?_ (args_match_groups _)
  unfold Builtin.«re.Match.groups» reWithDefault
  have e : reNamed "re.Match.groups" "groups" ["default"] 0 [] [] = pure [none] := rfl
  dsimp only
  rw [e]
  refine wpAny_bind (wpAny_bind (wpAny_pure ?_))
  refine wpAny_bind (wp_found f fun t rest => ?_)
  refine wpAny_pure ?_
  dsimp only [Option.getD]
  have hs : (List.map reRawOf (rawInt st :: rawInt en :: [s1, s2, s3].flatMap spanOf)).toArray = #[(st : Int), (en : Int), spB s1, spE s1, spB s2, spE s2, spB s3, spE s3] := by
    cases s1 <;> cases s2 <;> cases s3 <;> rfl
  rw [hs]
  refine wpAny_bind ?_
  rw [show List.range (#[(st : Int), (en : Int), spB s1, spE s1, spB s2, spE s2, spB s3, spE s3].size / 2 - 1) = [0, 1, 2] from by simp only [List.size_toArray, List.length_cons, List.length_nil]; rfl]
  simp only [List.mapM_cons, List.mapM_nil]
  refine wpAny_bind (wp_groupText (sp := s1) hx rfl rfl fun t1 tk1 => ?_)
  refine wpAny_bind (wpAny_bind (wp_groupText (sp := s2) hx rfl rfl fun t2 tk2 => ?_))
  refine wpAny_bind (wpAny_bind (wp_groupText (sp := s3) hx rfl rfl fun t3 tk3 => ?_))
  refine wpAny_bind (wpAny_pure (wpAny_pure (wpAny_pure (wpAny_pure ?_))))
  refine wpAny_bind (m := newTuple _) (wpAny_newObj_type (data := .seq #[partOf x s1 t1, partOf x s2 t2, partOf x s3 t3]) ?_ (by show 3 ≤ sizeLine; decide))
  exact wpAny_pure ⟨_, rfl, h t1 t2 t3 tk3⟩
end
end Mine
end
section
namespace Mine
open PySem PySem.W PyProof.Rows

/-- a frozenset of texts -/
def FSet (prog : Program) (w : World) (h : Heap) (a : Addr) (S : Str → Bool) (n : Nat) : Prop :=
  ∃ es ep t, h.get? a = some { cls := .type "frozenset", dict := none, data := .set es ep t } ∧ ElemsOf (strKind prog w) es.toList ∧
    (∀ k, S k = true ↔ ∃ e ∈ es.toList, (strKind prog w).is k e.2 = true) ∧ es.size ≤ n ∧ t.fits es.size = true

section
variable {prog : Program} {w : World} {A : Around} {E : Value → Shared → Prop} {s : Shared} {a : Addr} {S : Str → Bool} {n : Nat}

theorem FSet.keeps {h h' : Heap} (f : FSet prog w h a S n) (k : ∀ b o, h.get? b = some o → h'.get? b = some o) : FSet prog w h' a S n := by
  obtain ⟨es, ep, t, h1, h2⟩ := f
  exact ⟨es, ep, t, k _ _ h1, h2⟩
theorem FSet.typeIs (f : FSet prog w s.heap a S n) : s.TypeIs (.ref a) "frozenset" := by
  obtain ⟨es, ep, t, h1, h2⟩ := f
  exact ⟨_, h1, rfl⟩

/-- storing other elements into the set at a -/
theorem fset_store {h : Heap} {es es' : Array (Int × Value)} {ep : Nat} {t t' : SetTable} (ho : h.get? a = some { cls := .type "frozenset", dict := none, data := .set es ep t }) :
    (h.update a (Obj.putSet es' t')).get? a = some { cls := .type "frozenset", dict := none, data := .set es' (ep + 1) t' } := by
  have := Heap.get?_update_self (Obj.putSet es' t') ho rfl
  exact this

theorem fset_find {x : Str} {t : Tok} {Q : Option Nat → Shared → Prop} (f : FSet prog w s.heap a S n) (hn : n < scanBound) (h : ∀ r : Option Nat, r.isSome = S x → Q r s) :
    wpAny (model prog w) A (setFind a (.str x t) ((strKind prog w).hash x)) Q E s := by
  obtain ⟨es, ep, tb, ho, hel, hmem, hb, hf⟩ := f
  have hkey : (strKind prog w).is x (.str x t) = true := strKind_is prog w x t
  unfold setFind setFindIn
  refine wpAny_bind (wpAny_setState_of ho rfl hf ?_)
  dsimp only
  rw [byScan_of (x := .str x t) rfl (by omega) hel, if_pos rfl]
  refine wpAny_bind (wpAny_rule (wpAny_bind (wpAny_setScan_of hkey ho rfl hf hel ?_)))
  cases hr : List.findIdx? (fun e => (strKind prog w).is x e.2) es.toList with
  | none =>
    refine wpAny_pure (h none ?_)
    cases hS : S x with
    | false => rfl
    | true =>
      obtain ⟨e, he, hp⟩ := (hmem x).mp hS
      exact absurd hp (by rw [List.findIdx?_eq_none_iff.mp hr e he]; exact Bool.false_ne_true)
  | some j =>
    refine wpAny_pure (h _ ?_)
    obtain ⟨hj, hp, _⟩ := List.findIdx?_eq_some_iff_getElem.mp hr
    exact ((hmem x).mpr ⟨_, List.getElem_mem hj, hp⟩).symm

theorem fset_add {x : Str} {t : Tok} {Q : Bool → Shared → Prop} (f : FSet prog w s.heap a S n) (hn : n + 1 < scanBound)
    (h : ∀ b h', Heap.SameBut a s.heap h' → FSet prog w h' a (fun k => S k || decide (k = x)) (n + 1) → Q b { s with heap := h' }) :
    wpAny (model prog w) A (setAddHashed a (.str x t) ((strKind prog w).hash x)) Q E s := by
  obtain ⟨es, ep, tb, ho, hel, hmem, hb, hf⟩ := f
  have hkey : (strKind prog w).is x (.str x t) = true := strKind_is prog w x t
  have hrule : ∀ (b : Bool) (s₁ : Shared) (Q' : Unit → Shared → Prop), Q' () s₁ → wpAny (model prog w) A (match b with | true => rule "set.scan.the-table-gave-way" | false => pure ()) Q' E s₁ := fun b s₁ Q' hq => by
    cases b
    · exact wpAny_pure hq
    · exact wpAny_rule hq
  unfold setAddHashed setAddHashedIn
  refine wpAny_holding (wpAny_bind (wpAny_setState_of ho rfl hf ?_))
  dsimp only
  rw [byScan_of (x := .str x t) rfl (by omega) hel, if_pos rfl]
  unfold setAddByScan
  refine wpAny_bind (wpAny_bind (wpAny_rule (wpAny_bind (wpAny_setScan_of hkey ho rfl hf hel ?_))))
  cases hr : List.findIdx? (fun e => (strKind prog w).is x e.2) es.toList with
  | some j =>
    obtain ⟨hj, hp, _⟩ := List.findIdx?_eq_some_iff_getElem.mp hr
    refine wpAny_pure (wpAny_pure ?_)
    have hx : S x = true := (hmem x).mpr ⟨_, List.getElem_mem hj, hp⟩
    exact h _ s.heap (Heap.SameBut.refl a s.heap) ⟨es, ep, tb, ho, hel, fun k => by
      rw [← hmem k, Bool.or_eq_true, decide_eq_true_eq]
      exact ⟨fun q => q.elim id fun e => e ▸ hx, .inl⟩, by omega, hf⟩
  | none =>
    dsimp only
    have hperm := layNew_perm tb es ((strKind prog w).hash x) (.str x t)
    have hfits := layNew_fits tb es ((strKind prog w).hash x) (.str x t)
    generalize layNew tb es ((strKind prog w).hash x) (.str x t) = L at hperm hfits ⊢
    obtain ⟨es1, t1, dummy, gave⟩ := L
    dsimp only at hperm hfits ⊢
    rw [Array.toList_push] at hperm
    have hel1 : ElemsOf (strKind prog w) es1.toList := (hel.push hkey rfl).perm hperm
    have hmem1 : ∀ k, (S k || decide (k = x)) = true ↔ ∃ e ∈ es1.toList, (strKind prog w).is k e.2 = true := mem_push_iff hkey hmem hperm
    have hsz : es1.size = es.size + 1 := by rw [← Array.length_toList, hperm.length_eq, List.length_append, Array.length_toList]; rfl
    have hb1 : es1.size < scanBound := by omega
    refine wpAny_bind (hrule _ _ _ ?_)
    have last : ∀ t2 : SetTable, t2.fits es1.size = true → wpAny (model prog w) A (do
        storeSet a es1 t2
        if (!dummy && t2.tooFull) = true then do
            (match (relayAll t2 es1 (SetTable.grown es1.size)).2.2 with | true => rule "set.scan.the-table-gave-way" | false => pure ())
            storeSet a (relayAll t2 es1 (SetTable.grown es1.size)).1 (relayAll t2 es1 (SetTable.grown es1.size)).2.1
            pure (some true)
          else pure (some true)) (fun r s' => wpAny (model prog w) A (match r with | some added => pure added | none => setAddHashedIn a (.str x t) ((strKind prog w).hash x) 99999) Q E s') E s := by
      intro t2 hf2
      refine wpAny_bind (wpAny_storeSet_of ho rfl ?_ (fits_of_scanBound hb1))
      have ho1 := fset_store (es' := es1) (t' := t2) ho
      have hsb := Heap.SameBut.update s.heap a (Obj.putSet es1 t2)
      split
      · have hp2 := relayAll_perm t2 es1 (SetTable.grown es1.size)
        have hf3 := relayAll_fits t2 es1 (SetTable.grown es1.size)
        generalize relayAll t2 es1 (SetTable.grown es1.size) = L2 at hp2 hf3 ⊢
        obtain ⟨es2, t3, gave2⟩ := L2
        dsimp only at hp2 hf3 ⊢
        have hsz2 : es2.size = es1.size := by rw [← Array.length_toList, hp2.length_eq, Array.length_toList]
        refine wpAny_bind (hrule _ _ _ (wpAny_bind (wpAny_storeSet_of ho1 rfl ?_ (fits_of_scanBound (by omega)))))
        refine wpAny_pure (wpAny_pure (h _ _ (hsb.trans (Heap.SameBut.update _ a _)) ⟨es2, _, t3, fset_store ho1, hel1.perm hp2, fun k => (hmem1 k).trans ?_, by omega, hf3⟩))
        exact ⟨fun ⟨e, he, q⟩ => ⟨e, hp2.mem_iff.mpr he, q⟩, fun ⟨e, he, q⟩ => ⟨e, hp2.mem_iff.mp he, q⟩⟩
      · exact wpAny_pure (wpAny_pure (h _ _ hsb ⟨es1, _, t2, ho1, hel1, hmem1, by omega, hf2⟩))
    split
    · refine wpAny_bind ?_
      rw [hashByValue_scannable 8 (x := .str x t) rfl]
      exact wpAny_pure (last _ (by split <;> first | exact hfits | exact SetTable.fits_plain_off hfits))
    · exact wpAny_bind (wpAny_pure (last _ hfits))
end
end Mine
end
section
namespace Mine
open PySem PySem.W PyProof.Rows

def upTo (val : Nat → Str) (n : Nat) (x : Str) : Bool := (List.range n).any fun j => decide (x = val j)
theorem upTo_succ (val : Nat → Str) (n : Nat) : upTo val (n + 1) = fun x => upTo val n x || decide (x = val n) := by
  funext x; unfold upTo; rw [List.range_succ, List.any_append]; simp

section
variable {prog : Program} {w : World} {A : Around} {E : Value → Shared → Prop} {s : Shared} {R : Result → Shared → Prop} {I : Addr} {fp wr : List Addr} {n : Nat} {P : Nat → Value → Prop} {St : Nat → Heap → Prop}

theorem fset_loop (W : Walks prog w A.in1 I fp wr n P St) (Sa : Addr) (hSf : Sa ∉ fp) (val : Nat → Str) (hval : ∀ i v, P i v → ∃ t, v = .str (val i) t) (hb : n + 1 < scanBound) :
    ∀ (k i : Nat) (s : Shared), n - i = k → i ≤ n → St i s.heap → FSet prog w s.heap Sa (upTo val i) i →
      (∀ h' tk, (∀ b o, b ∉ Sa :: wr → s.heap.get? b = some o → h'.get? b = some o) → FSet prog w h' Sa (upTo val n) n → R (.ok (.ret .none)) { s with heap := h', toks := tk }) →
      codeAny (model prog w) A (.builtin "set.update.loop" ⟨[.ref Sa, .ref I], []⟩) R s := by
  have hSw : Sa ∉ wr := fun h => hSf (W.sub _ h)
  intro k
  induction k with
  | zero =>
    intro i s hk hi hst hS hR
    obtain rfl : i = n := by omega
    refine codeAny_builtin F.entry_set_update_loop ?_
    rw [Around.under_plainId F.plain_set_update_loop _]
    show wpAny _ A.in1 (pyNext (.ref I) >>= _) _ _ s
    refine wpAny_bind (W.done s _ _ hst fun h' tk hk' => ?_)
    show wpAny _ A.in1 (ret Value.none) _ _ _
    exact wpAny_pure (hR h' tk (fun b o hb e => hk' b o (fun z => hb (.tail _ z)) e) (by
      obtain ⟨es, ep, t, h1, h2⟩ := hS
      exact ⟨es, ep, t, hk' _ _ hSw h1, h2⟩))
  | succ k ih =>
    intro i s hk hi hst hS hR
    refine codeAny_builtin F.entry_set_update_loop ?_
    rw [Around.under_plainId F.plain_set_update_loop _]
    show wpAny _ A.in1 (pyNext (.ref I) >>= _) _ _ s
    refine wpAny_bind (W.item i s _ _ (by omega) hst fun v h1 tk1 hP hst1 hk1 => ?_)
    obtain ⟨t, rfl⟩ := hval i v hP
    have hS1 : FSet prog w h1 Sa (upTo val i) i := by
      obtain ⟨es, ep, t, h1, h2⟩ := hS
      exact ⟨es, ep, t, hk1 _ _ hSw h1, h2⟩
    show wpAny _ A.in1 (holding [Value.str (val i) t] (setAdd Sa (.str (val i) t)) >>= _) _ _ _
    refine wpAny_bind (wpAny_holding ?_)
    unfold setAdd
    refine wpAny_holding (wpAny_bind ((strKind prog w).pyHash (strKind_is prog w (val i) t) ?_))
    refine fset_add (s := { s with heap := h1, toks := tk1 + 1 }) hS1 (by omega) fun b h2 hsb hS2 => ?_
    refine wpAny_pure ⟨plainId_quiet F.plain_set_update_loop _, ih (i + 1) { s with heap := h2, toks := tk1 + 1 } (by omega) (by omega) (W.frame _ _ _ hst1 fun b hb o e => ?_) (by rw [upTo_succ]; exact hS2) fun h3 tk3 hk3 hS3 => ?_⟩
    · rw [hsb.2 b (fun h : b = Sa => hSf (h ▸ hb))]; exact e
    · refine hR h3 tk3 (fun b o hb e => hk3 b o hb ?_) hS3
      show h2.get? b = some o
      rw [hsb.2 b (fun h : b = Sa => hb (by rw [h]; exact .head _))]
      exact hk1 b o (fun z => hb (.tail _ z)) e
end

theorem mro_fset : mroOf (.type "frozenset") = pure [.type "frozenset", .type "object"] := by rw [mroOf_type]; kernel_rfl
theorem lookup_fset_new : typeLookup (.type "frozenset") "__new__" = pure (some (.builtin "frozenset.__new__")) := by rw [typeLookup_type, builtinLookup_eq_fast]; kernel_rfl
theorem slot_fset_init : Slot "frozenset" "__init__" "object.__init__" :=
  .of (owner := "object") (n := "__init__") (by rw [typeLookup_type, builtinLookup_eq_fast]; kernel_rfl) (by decide +kernel) (by decide +kernel) (by decide +kernel)
    (by first | exact .inl (by decide +kernel) | exact .inr (by decide +kernel)) (by rw [isSubtype_type]; kernel_rfl)
theorem called_fset : TypeCalled "frozenset" "frozenset.__new__" "object.__init__" :=
  ⟨by decide +kernel, by decide +kernel, ⟨_, _, mro_fset⟩, madeBy_type mro_fset lookup_fset_new (by decide +kernel), by decide +kernel, by rw [isSubtype_type]; kernel_rfl, slot_fset_init⟩
theorem typeCall_fset_0 : checkTypeCall "frozenset" ⟨[], []⟩ = pure () := by kernel_rfl
theorem typeCall_fset_1 (a : Value) : checkTypeCall "frozenset" ⟨[a], []⟩ = pure () := by kernel_rfl
theorem newCall_fset_0 : checkBuiltinCall "frozenset.__new__" ⟨[.type "frozenset"], []⟩ = pure () := by kernel_rfl
theorem newCall_fset_1 (a : Value) : checkBuiltinCall "frozenset.__new__" ⟨[.type "frozenset", a], []⟩ = pure () := by kernel_rfl
theorem entry_fset_new : entryFor table "frozenset.__new__" = some Builtin.«frozenset.__new__» := entryFor_of_tree (by kernel_rfl)
theorem plain_fset_new : plainId "frozenset.__new__" = true := by decide +kernel
theorem sub_fset_self : isSubtype (.type "frozenset") (.type "frozenset") = pure true := by rw [isSubtype_type]; kernel_rfl
theorem sub_tuple_set : isSubtype (.type "tuple") (.type "set") = pure false := by rw [isSubtype_type]; kernel_rfl
theorem sub_tuple_fset : isSubtype (.type "tuple") (.type "frozenset") = pure false := by rw [isSubtype_type]; kernel_rfl
theorem args_init_0 (a : Value) : argsOk "object.__init__" ⟨[a], []⟩ := by unfold argsOk; kernel_rfl
theorem args_init_1 (a b : Value) : argsOk "object.__init__" ⟨[a, b], []⟩ := by unfold argsOk; kernel_rfl
end Mine
end
section
namespace Mine
open PySem PySem.W PyProof.Rows

section
variable {prog : Program} {w : World} {A : Around} {E : Value → Shared → Prop} {s : Shared}

abbrev newFs (led : Bool) : Obj := { cls := .type "frozenset", dict := none, data := .set #[] 0 (.fresh 0 0 led) }
theorem fset_fresh {h : Heap} {a : Addr} {led : Bool} {val : Nat → Str} (e : h.get? a = some (newFs led)) : FSet prog w h a (upTo val 0) 0 :=
  ⟨#[], 0, _, e, fun e he => by simp at he, fun k => by simp [upTo], Nat.le_refl _, rfl⟩

theorem init_fset (obj : Value) (rest : List Value) {Q : Value → Shared → Prop} {s : Shared} (hT : s.TypeIs obj "frozenset") (h : Q obj s) :
    wpAny (model prog w) A.in1 (Builtin.«object.__init__» ⟨obj :: rest, []⟩)
        (fun fin s' => match fin with | .done f => wants (fun r s₂ => r = .none ∧ Q obj s₂) E (.ok f) s' | .again c' => c'.quiet = true ∧ codeAny (model prog w) A c' (wants (fun r s₂ => r = .none ∧ Q obj s₂) E) s')
        (fun e s' => wants (fun r s₂ => r = .none ∧ Q obj s₂) E (.error e) s') s :=
  object_init_meets called_fset.init.lookup called_fset.made (by decide) prog w A (wants (fun r s₂ => r = .none ∧ Q obj s₂) E) s ⟨hT, rfl, h⟩

theorem call_fset_0 {Q : Value → Shared → Prop} (h : ∀ led, Q (.ref s.heap.objs.size) { s with heap := s.heap.push (newFs led) }) :
    wpAny (model prog w) A (call (.type "frozenset") []) Q E s := by
  refine callType_codes (Q₁ := fun obj s₁ => ∃ led, obj = .ref s.heap.objs.size ∧ s₁ = { s with heap := s.heap.push (newFs led) }) called_fset typeCall_fset_0 F.entry_object_init ?_ ?_
  · refine codeAny_of_tree ?_
    show wpAny _ A.in1.in1 (do checkBuiltinCall "frozenset.__new__" ⟨[.type "frozenset"], []⟩; again (.builtin "frozenset.__new__" ⟨[.type "frozenset"], []⟩)) _ _ s
    refine wpAny_bind (wpAny_of_eq newCall_fset_0 (wpAny_pure ⟨plainId_quiet plain_fset_new _, codeAny_builtin entry_fset_new ?_⟩))
    rw [Around.under_plainId plain_fset_new _]
    unfold Builtin.«frozenset.__new__» Builtin.Frozenset.newClass
    have hsub := sub_fset_self
    have hinit := slot_fset_init.lookup
    obtain ⟨hp, g, d, tk, os⟩ := s
    dsimp only
    wp_walk
    refine wpAny_askSetting (wpAny_pure ?_)
    dsimp only
    simp only [newObj]
    refine wpAny_bind (wpAny_alloc (wpAny_pure ?_))
    exact wpAny_pure ⟨_, rfl, rfl⟩
  · rintro obj s₁ ⟨led, rfl, rfl⟩
    have hT : Shared.TypeIs { s with heap := s.heap.push (newFs led) } (.ref s.heap.objs.size) "frozenset" := ⟨_, Heap.get?_push_size _ rfl, rfl⟩
    exact ⟨hT, args_init_0 _, init_fset _ _ hT (h led)⟩

end
end Mine
end
section
namespace Mine
open PySem PySem.W PyProof.Rows

section
variable {prog : Program} {w : World} {A : Around} {E : Value → Shared → Prop} {s : Shared}

theorem call_fset_list {l : Addr} {items : Array Value} {val : Nat → Str} {Q : Value → Shared → Prop} (hh : A.handled = none) (hl : s.heap.IsList l items) (hval : ∀ (i : Nat) (v : Value), items[i]? = some v → ∃ t, v = .str (val i) t) (hb : items.size + 1 < scanBound)
    (h : ∀ h' tk, (∀ b o, s.heap.get? b = some o → h'.get? b = some o) → FSet prog w h' s.heap.objs.size (upTo val items.size) items.size → Q (.ref s.heap.objs.size) { s with heap := h', toks := tk }) :
    wpAny (model prog w) A (call (.type "frozenset") [.ref l]) Q E s := by
  refine callType_codes (Q₁ := fun obj s₁ => ∃ h' tk, obj = .ref s.heap.objs.size ∧ s₁ = { s with heap := h', toks := tk } ∧ (∀ b o, s.heap.get? b = some o → h'.get? b = some o) ∧ FSet prog w h' s.heap.objs.size (upTo val items.size) items.size) called_fset (typeCall_fset_1 _) F.entry_object_init ?_ ?_
  · refine codeAny_of_tree ?_
    show wpAny _ A.in1.in1 (do checkBuiltinCall "frozenset.__new__" ⟨[.type "frozenset", .ref l], []⟩; again (.builtin "frozenset.__new__" ⟨[.type "frozenset", .ref l], []⟩)) _ _ s
    refine wpAny_bind (wpAny_of_eq (newCall_fset_1 _) (wpAny_pure ⟨plainId_quiet plain_fset_new _, codeAny_builtin entry_fset_new ?_⟩))
    rw [Around.under_plainId plain_fset_new _]
    obtain ⟨ol, hol, hcl, nl, hdl⟩ := hl
    obtain ⟨ocls, odict, odata, oslots⟩ := ol
    simp only at hcl hdl
    subst hcl; subst hdl
    unfold Builtin.«frozenset.__new__» Builtin.Frozenset.newClass Builtin.Frozenset.newFrom Builtin.Frozenset.updateFrom
    have hsub := sub_fset_self
    have hinit := slot_fset_init.lookup
    have hsls := F.sub_list_set
    have hslf := F.sub_list_frozenset
    have hne : (Value.type "list" == Value.type "dict") = false := by decide
    have hne2 : (Value.type "list" == Value.type "frozenset") = false := by decide
    obtain ⟨hp, g, d, tk, os⟩ := s
    dsimp only at hol ⊢
    generalize hPI : pyIter = PI
    wp_walk
    refine wpAny_askSetting (wpAny_pure ?_)
    dsimp only
    simp only [newObj]
    refine wpAny_bind (wpAny_alloc (wpAny_pure ?_))
    have hol' : ∀ o : Obj, (hp.push o).get? l = some { cls := Value.type "list", dict := odict, data := Data.seq items nl, slots := oslots } := fun o => Heap.get?_push_of_some _ hol
    dsimp only
    wp_walk using wpAny_loadPart (hol' _)
    have hl1 : (hp.push (newFs !w.params.followText "set-order")).IsList l items := ⟨_, hol' _, rfl, nl, rfl⟩
    subst hPI
    refine wpAny_pyIter_list hl1 ?_
    refine wpAny_bind (wpAny_runValue ?_)
    have hh3 : A.in1.in1.in1.handled = none := by simp [hh]
    have hlS : l < hp.objs.size := Heap.lt_size hol
    have hne3 : l ≠ (hp.push (newFs !w.params.followText "set-order")).objs.size := by rw [Heap.size_push]; exact Nat.ne_of_lt (Nat.lt_succ_of_lt hlS)
    have hSf : hp.objs.size ∉ [(hp.push (newFs !w.params.followText "set-order")).objs.size, l] := by
      rw [Heap.size_push]
      intro z
      rcases List.mem_cons.mp z with z | z
      · exact absurd z (Nat.ne_of_lt (Nat.lt_succ_self _))
      · exact absurd (List.mem_singleton.mp z) (Nat.ne_of_gt hlS)
    refine fset_loop (Walks.list hh3 _ l hne3 items) hp.objs.size hSf val hval hb (items.size - 0) 0 _ (by omega) (Nat.zero_le _)
      ⟨⟨_, Heap.get?_push_size _ rfl, rfl, rfl⟩, hl1.push _⟩ (fset_fresh (led := !w.params.followText "set-order") (Heap.get?_push_of_some _ (Heap.get?_push_size _ rfl))) fun h' tk' hk hS => ?_
    refine wpAny_pure (wpAny_pure (wpAny_pure ⟨h', tk', rfl, rfl, fun b o e => ?_, hS⟩))
    have hb0 := Heap.lt_size e
    refine hk b o (fun z => ?_) (Heap.get?_push_of_some _ (Heap.get?_push_of_some _ e))
    rcases List.mem_cons.mp z with z | z
    · exact absurd z (Nat.ne_of_lt hb0)
    · have := List.mem_singleton.mp z
      rw [Heap.size_push] at this
      exact absurd this (Nat.ne_of_lt (Nat.lt_succ_of_lt hb0))
  · rintro obj s₁ ⟨h', tk, rfl, rfl, he, hS⟩
    exact ⟨hS.typeIs (s := { s with heap := h', toks := tk }), args_init_1 _ _, init_fset _ _ hS.typeIs (h h' tk he hS)⟩
theorem call_fset_tuple {l : Addr} {items : Array Value} {val : Nat → Str} {Q : Value → Shared → Prop} (hh : A.handled = none) (hl : s.heap.IsTuple l items) (hval : ∀ (i : Nat) (v : Value), items[i]? = some v → ∃ t, v = .str (val i) t) (hb : items.size + 1 < scanBound)
    (h : ∀ h' tk, (∀ b o, s.heap.get? b = some o → h'.get? b = some o) → FSet prog w h' s.heap.objs.size (upTo val items.size) items.size → Q (.ref s.heap.objs.size) { s with heap := h', toks := tk }) :
    wpAny (model prog w) A (call (.type "frozenset") [.ref l]) Q E s := by
  refine callType_codes (Q₁ := fun obj s₁ => ∃ h' tk, obj = .ref s.heap.objs.size ∧ s₁ = { s with heap := h', toks := tk } ∧ (∀ b o, s.heap.get? b = some o → h'.get? b = some o) ∧ FSet prog w h' s.heap.objs.size (upTo val items.size) items.size) called_fset (typeCall_fset_1 _) F.entry_object_init ?_ ?_
  · refine codeAny_of_tree ?_
    show wpAny _ A.in1.in1 (do checkBuiltinCall "frozenset.__new__" ⟨[.type "frozenset", .ref l], []⟩; again (.builtin "frozenset.__new__" ⟨[.type "frozenset", .ref l], []⟩)) _ _ s
    refine wpAny_bind (wpAny_of_eq (newCall_fset_1 _) (wpAny_pure ⟨plainId_quiet plain_fset_new _, codeAny_builtin entry_fset_new ?_⟩))
    rw [Around.under_plainId plain_fset_new _]
    obtain ⟨ol, hol, hcl, nl, hdl⟩ := hl
    obtain ⟨ocls, odict, odata, oslots⟩ := ol
    simp only at hcl hdl
    subst hcl; subst hdl
    unfold Builtin.«frozenset.__new__» Builtin.Frozenset.newClass Builtin.Frozenset.newFrom Builtin.Frozenset.updateFrom
    have hsub := sub_fset_self
    have hinit := slot_fset_init.lookup
    have hsls := sub_tuple_set
    have hslf := sub_tuple_fset
    have hne : (Value.type "tuple" == Value.type "dict") = false := by decide
    have hne2 : (Value.type "tuple" == Value.type "frozenset") = false := by decide
    obtain ⟨hp, g, d, tk, os⟩ := s
    dsimp only at hol ⊢
    generalize hPI : pyIter = PI
    wp_walk
    refine wpAny_askSetting (wpAny_pure ?_)
    dsimp only
    simp only [newObj]
    refine wpAny_bind (wpAny_alloc (wpAny_pure ?_))
    have hol' : ∀ o : Obj, (hp.push o).get? l = some { cls := Value.type "tuple", dict := odict, data := Data.seq items nl, slots := oslots } := fun o => Heap.get?_push_of_some _ hol
    dsimp only
    wp_walk using wpAny_loadPart (hol' _)
    have hl1 : (hp.push (newFs !w.params.followText "set-order")).IsTuple l items := ⟨_, hol' _, rfl, nl, rfl⟩
    subst hPI
    refine wpAny_pyIter_tuple hl1 ?_
    refine wpAny_bind (wpAny_runValue ?_)
    have hh3 : A.in1.in1.in1.handled = none := by simp [hh]
    have hlS : l < hp.objs.size := Heap.lt_size hol
    have hne3 : l ≠ (hp.push (newFs !w.params.followText "set-order")).objs.size := by rw [Heap.size_push]; exact Nat.ne_of_lt (Nat.lt_succ_of_lt hlS)
    have hSf : hp.objs.size ∉ [(hp.push (newFs !w.params.followText "set-order")).objs.size, l] := by
      rw [Heap.size_push]
      intro z
      rcases List.mem_cons.mp z with z | z
      · exact absurd z (Nat.ne_of_lt (Nat.lt_succ_self _))
      · exact absurd (List.mem_singleton.mp z) (Nat.ne_of_gt hlS)
    refine fset_loop (Walks.tuple hh3 _ l hne3 items) hp.objs.size hSf val hval hb (items.size - 0) 0 _ (by omega) (Nat.zero_le _)
      ⟨⟨_, Heap.get?_push_size _ rfl, rfl, rfl⟩, hl1.push _⟩ (fset_fresh (led := !w.params.followText "set-order") (Heap.get?_push_of_some _ (Heap.get?_push_size _ rfl))) fun h' tk' hk hS => ?_
    refine wpAny_pure (wpAny_pure (wpAny_pure ⟨h', tk', rfl, rfl, fun b o e => ?_, hS⟩))
    have hb0 := Heap.lt_size e
    refine hk b o (fun z => ?_) (Heap.get?_push_of_some _ (Heap.get?_push_of_some _ e))
    rcases List.mem_cons.mp z with z | z
    · exact absurd z (Nat.ne_of_lt hb0)
    · have := List.mem_singleton.mp z
      rw [Heap.size_push] at this
      exact absurd this (Nat.ne_of_lt (Nat.lt_succ_of_lt hb0))
  · rintro obj s₁ ⟨h', tk, rfl, rfl, he, hS⟩
    exact ⟨hS.typeIs (s := { s with heap := h', toks := tk }), args_init_1 _ _, init_fset _ _ hS.typeIs (h h' tk he hS)⟩
end
end Mine
end
section
namespace Mine
open PySem PySem.W PyProof.Rows

theorem slot_fset_contains : Slot "frozenset" "__contains__" "frozenset.__contains__" :=
  .of (owner := "frozenset") (n := "__contains__") (by rw [typeLookup_type, builtinLookup_eq_fast]; kernel_rfl) (by decide +kernel) (by decide +kernel) (by decide +kernel)
    (by first | exact .inl (by decide +kernel) | exact .inr (by decide +kernel)) (by rw [isSubtype_type]; kernel_rfl)
theorem entry_fset_contains : entryFor table "frozenset.__contains__" = some Builtin.«frozenset.__contains__» := entryFor_of_tree (by kernel_rfl)
theorem args_fset_contains (a b : Value) : argsOk "frozenset.__contains__" ⟨[a, b], []⟩ := by unfold argsOk; kernel_rfl
theorem slot_fset_len : Slot "frozenset" "__len__" "frozenset.__len__" :=
  .of (owner := "frozenset") (n := "__len__") (by rw [typeLookup_type, builtinLookup_eq_fast]; kernel_rfl) (by decide +kernel) (by decide +kernel) (by decide +kernel)
    (by first | exact .inl (by decide +kernel) | exact .inr (by decide +kernel)) (by rw [isSubtype_type]; kernel_rfl)
theorem entry_fset_len : entryFor table "frozenset.__len__" = some Builtin.«frozenset.__len__» := entryFor_of_tree (by kernel_rfl)
theorem args_fset_len (a : Value) : argsOk "frozenset.__len__" ⟨[a], []⟩ := by unfold argsOk; kernel_rfl
theorem noBool_fset : typeLookup (.type "frozenset") "__bool__" = pure none := by rw [typeLookup_type, builtinLookup_eq_fast]; kernel_rfl

section
variable {prog : Program} {w : World} {A : Around} {E : Value → Shared → Prop} {s : Shared} {a : Addr} {S : Str → Bool} {n : Nat}

theorem fset_in {x : Str} {t : Tok} {Q : Value → Shared → Prop} (f : FSet prog w s.heap a S n) (hn : n < scanBound) (h : ∀ tk, Q (.bool (S x)) { s with toks := tk }) :
    wpAny (model prog w) A (compareOp .In (.str x t) (.ref a)) Q E s := by
  show wpAny _ _ (do return .bool (← contains (.ref a) (.str x t))) Q E s
  refine wpAny_bind ?_
  unfold contains
  refine wpAny_holding (wpAny_bind (wpAny_specialOf f.typeIs slot_fset_contains.lookup ?_))
  show wpAny _ _ (if (some (Value.builtin "frozenset.__contains__") == some Value.none) = true then _ else _) _ E s
  rw [if_neg (by rw [beq_builtin_none]; exact Bool.false_ne_true)]
  refine wpAny_bind (wpAny_callSpecialUnlessNone?_slot (name := Str.ofString "__contains__") f.typeIs slot_fset_contains
    (wpAny_call_entry slot_fset_contains f.typeIs entry_fset_contains ?_ (args_fset_contains _ _)))
  unfold Builtin.«frozenset.__contains__»
  refine wpAny_bind (m := Builtin.Frozenset.oneOther _ _) (wpAny_bind (m := Builtin.Frozenset.addrOf _) (wpAny_pure (wpAny_pure ?_)))
  dsimp only
  unfold Builtin.Frozenset.withSetAsKey setContains
  refine wpAny_bind (wpAny_tryCatch (wpAny_holding (wpAny_bind ((strKind prog w).pyHash (strKind_is prog w x t) ?_))))
  refine wpAny_bind (fset_find (s := { s with toks := s.toks + 1 }) f hn fun r hr => ?_)
  refine wpAny_pure ?_
  show wpAny _ _ (ret (Value.bool r.isSome)) _ _ _
  rw [hr]
  exact wpAny_pure ⟨_, rfl, wpAny_truthy_bool (wpAny_pure (h _))⟩

theorem fset_truthy {Q : Bool → Shared → Prop} (f : FSet prog w s.heap a S n) (hn : n < scanBound) (h : ∀ b tk, (b = true ↔ ∃ x, S x = true) → Q b { s with toks := tk }) :
    wpAny (model prog w) A (truthy (.ref a)) Q E s := by
  obtain ⟨es, ep, tb, ho, hel, hmem, hb, hf⟩ := id f
  have hfit : (es.size : Int) < 2 ^ 63 := by have : scanBound = 4096 := rfl; omega
  have hiff : ((es.size : Int) != 0) = true ↔ ∃ x, S x = true := by
    constructor
    · intro z
      have hpos : 0 < es.toList.length := by
        rw [Array.length_toList]
        exact Nat.pos_of_ne_zero fun e => by rw [e] at z; exact absurd z (by decide)
      obtain ⟨⟨k, hk, _⟩, _⟩ := hel es.toList[0] (List.getElem_mem hpos)
      exact ⟨k, (hmem k).mpr ⟨_, List.getElem_mem hpos, hk⟩⟩
    · rintro ⟨x, hx⟩
      obtain ⟨e, he, _⟩ := (hmem x).mp hx
      have : 0 < es.toList.length := List.length_pos_of_mem he
      rw [Array.length_toList] at this
      exact bne_iff_ne.mpr (by omega)
  have len : wpAny (model prog w) A (runValue (.builtin "len" ⟨[.ref a], []⟩)) (fun r s' => (∃ t, r = .int es.size t) ∧ ∃ tk, s' = { s with toks := tk }) E s := by
    refine wpAny_runValue (codeAny_builtin entry_len ?_)
    rw [Around.under_plainId plain_len _]
    unfold Builtin.«len»
    refine wpAny_bind (m := oneArg "len" _) (wpAny_pure ?_)
    refine wpAny_bind (m := callSpecial? (.ref a) (Str.ofString "__len__")) (wpAny_callSpecial?_slot (name := Str.ofString "__len__") f.typeIs slot_fset_len
      (wpAny_call_entry slot_fset_len f.typeIs entry_fset_len ?_ (args_fset_len _)))
    unfold Builtin.«frozenset.__len__» Builtin.Frozenset.slot0 slotArgs
    simp only [List.isEmpty_nil, Bool.not_true, Bool.false_eq_true, ↓reduceIte, bind_assoc, List.length_nil, bne_self_eq_false]
    unfold Builtin.Frozenset.addrOf Builtin.Frozenset.sizeOf
    refine wpAny_bind (wpAny_pure (wpAny_bind (wpAny_pure (wpAny_bind (wpAny_bind (wpAny_setEntries_of ho rfl hf (wpAny_pure ?_)))))))
    show wpAny _ _ (retInt _) _ _ _
    unfold retInt
    refine wpAny_bind (wpAny_mkInt (wpAny_pure ⟨_, rfl, ?_⟩))
    refine wpAny_bind (wpAny_holding (wpAny_pure (wpAny_bind (wpAny_letGo ?_))))
    show wpAny _ _ (if ((es.size : Nat) : Int) < 0 then _ else _) _ _ _
    rw [if_neg (by omega)]
    show wpAny _ _ (if ((es.size : Nat) : Int) ≥ 2 ^ 63 then _ else _) _ _ _
    rw [if_neg (by omega)]
    exact wpAny_bind (wpAny_mkInt (wpAny_pure ⟨⟨_, rfl⟩, _, rfl⟩))
  unfold truthy
  refine wpAny_bind (wpAny_callSpecial?_none (name := Str.ofString "__bool__") f.typeIs noBool_fset ?_)
  refine wpAny_bind (wpAny_specialOf (name := Str.ofString "__len__") f.typeIs slot_fset_len.lookup ?_)
  refine wpAny_bind (wpAny_mono len (fun r s' h' => ?_) fun _ _ e => e)
  obtain ⟨⟨t, rfl⟩, tk, rfl⟩ := h'
  exact wpAny_pure (h _ tk hiff)
end
end Mine
end
section
open PySem PySem.W PyProof.Rows
namespace Mine

/-- entering a def, the frames below told -/
theorem enterB {prog : Program} {w : World} {ah : Option Value} {ad : Nat} {ag : Option (List Code)} {au : Nat} {base : Heap} {outer : List Env} {s : Shared} {K : Frag} {f : Addr} {oc : Value} {od : Option Addr} {name qual : Str} {params : Arguments} {body : List Stmt} {scope : Scope}
    {dV kV doc pm : Value} {an : Option Addr} {cdv ct : Value} {osl : Array (Option Value)} {args : Args} {binds : List (Str × Value)} {Q : Value → Heap → Prop}
    (B : Below ⟨ah, ad, some outer, ag, au⟩ base outer s.heap) (X : K.In s.heap) (NL : s.heap.NoLimit) (hroom : ad < recursionLimit)
    (ho : K.lookup f = some ⟨oc, od, .func (fnOf name qual params body scope dV kV doc pm an cdv ct), osl⟩) (hcd : codeIn K cdv qual = true)
    (hbind : BindsTo s (fnOf name qual params body scope dV kV doc pm an cdv ct) args binds) (hloc : ∀ y ∈ binds, scope.names.lookup y.1 = some .local)
    (hco : scope.isCoroutine = false) (hgen : scope.isGenerator = false) (hk : scope.kind = .function)
    (hcell : ∀ x ∈ scope.names, x.2 ≠ .cell)
    (h : ∀ L' h₁, Fr s.heap L' h₁ (fun y => binds.reverse.lookup y) → News s.heap L' h₁ [] → Below ⟨ah, ad, some outer, ag, au⟩ base outer s.heap →
      wpAny (model prog w) (Around.deeper ⟨ah, ad, some outer, ag, au⟩ (envOf qual scope L' f cdv)) (execs body (envOf qual scope L' f cdv))
        (fun fl s' => PureR s Q (.ok (.ret (match fl with | .ret v => v | _ => .none))) s') (fun _ _ => False)
        { s with heap := h₁, toks := s.toks + binds.length }) :
    codeAny (model prog w) ⟨ah, ad, some outer, ag, au⟩ (.call (.ref f) args) (PureR s Q) s := by
  refine codeAny_call_def (fd := fnOf name qual params body scope dV kV doc pm an cdv ct) (body := body) (binds := binds) hroom (X _ _ ho) rfl NL (codeRec_of X hcd) rfl hbind hcell hloc (fun h₁ hns hk₁ => ?_) hco hgen hk
  refine wpAny_mono (h s.heap.objs.size h₁ ⟨hns, hk₁, Nat.le_refl _⟩ News.nil B) (fun fl s' hl => hl) fun _ _ y => y.elim

theorem frGrow {h₀ h h' : Heap} {L : Addr} {m : Str → Option Value} (F : Fr h₀ L h m) (k : ∀ b o, h.get? b = some o → h'.get? b = some o) : Fr h₀ L h' m :=
  ⟨F.ns.keeps k, fun b o e => k _ _ (F.keep b o e), F.above⟩
theorem newsGrow {h₀ h h' : Heap} {L : Addr} {news : List (Addr × Obj)} (N : News h₀ L h news) (k : ∀ b o, h.get? b = some o → h'.get? b = some o) : News h₀ L h' news :=
  fun p hp => ⟨k _ _ (N p hp).1, (N p hp).2⟩
theorem whileBrk {h₀ : Heap} {L : Addr} {s s₃ : Shared} {J : Nat → (Str → Option Value) → List (Addr × Obj) → Prop} {Q : Flow → Shared → Prop} {n : Nat} (h : Q .next s₃) : WhileStep2 h₀ L s J Q n .brk s₃ := h
theorem newsSub {h₀ h : Heap} {L : Addr} {news news' : List (Addr × Obj)} (N : News h₀ L h news) (hs : ∀ p ∈ news', p ∈ news) : News h₀ L h news' := fun p hp => N p (hs p hp)
/-- a new object of a callee joins the ledger -/
theorem newsJoin {h₀ h h' : Heap} {L a : Addr} {o : Obj} {m : Str → Option Value} {news : List (Addr × Obj)} (F : Fr h₀ L h m) (N : News h₀ L h' news) (e : h'.get? a = some o) (n : h.get? a = none) : News h₀ L h' ((a, o) :: news) := fun p hp => by
  rcases List.mem_cons.mp hp with rfl | hp
  · refine ⟨e, fun z => ?_, ?_⟩
    · obtain ⟨oL, _, _, hL, _⟩ := F.ns
      have z' : a = L := z
      rw [z'] at n
      exact nomatch n.symm.trans hL
    · cases q : h₀.get? a with
      | none => rfl
      | some o' => exact nomatch n.symm.trans (F.keep _ _ q)
  · exact N p hp

section
variable {prog : Program} {w : World} {A : Around} {E : Value → Shared → Prop} {s : Shared} {h₀ : Heap} {L : Addr} {m : Str → Option Value} {news : List (Addr × Obj)} {P : Addr} {code : Array Nat}

theorem meth_pattern {groups want : Nat} {name : Str} {id : String} {pl : Sem Bool} {Q : Value × List Value → Shared → Prop} (hP : PatAt s.heap P code groups want) (slot : Slot "re.Pattern" name id) (ty : typeOf (.builtin id) = pure (.type "method_descriptor"))
    (h : Q (.builtin id, [.ref P]) s) : wpAny (model prog w) A (getMethod (.ref P) name pl) Q E s := by
  refine getMethod_builtin hP.typeIs plainAttrs_pattern slot ty (fun a e => ?_) h
  cases e
  obtain ⟨o, fs, C, oc, items, n, h1, h2, h3, _⟩ := hP.at_
  exact ⟨o, h1, h3⟩
theorem meth_match {a : Addr} {x : Str} {st en : Nat} {spans : List (Option (Nat × Nat))} {name : Str} {id : String} {pl : Sem Bool} {Q : Value × List Value → Shared → Prop} (f : FoundAt s.heap a x st en spans) (slot : Slot "re.Match" name id) (ty : typeOf (.builtin id) = pure (.type "method_descriptor"))
    (h : Q (.builtin id, [.ref a]) s) : wpAny (model prog w) A (getMethod (.ref a) name pl) Q E s := by
  refine getMethod_builtin f.typeIs plainAttrs_match slot ty (fun b e => ?_) h
  cases e
  obtain ⟨P, t, pos, lim, li, T, h1, h2⟩ := f.at_
  exact ⟨_, h1, rfl⟩

theorem matchK_yes {x : Str} {t u : Tok} {p st en k groups : Nat} {li : Int} {spans : List (Option (Nat × Nat))} {Q : Value → Shared → Prop} (F : Fr h₀ L s.heap m) (N : News h₀ L s.heap news) (hP : PatAt h₀ P code groups 0) (hg : spans.length = groups) (hp : p ≤ x.cps.size) (hx : x.cps.size < 2 ^ 62)
    (hm : Matched k (Sre.forMatch code x.cps groups p x.cps.size false false) st en li spans) (hk : k ≤ 1000000) (hok : SpansOk spans) (hlen : spans.length ≤ 100)
    (h : ∀ a T h', Fr h₀ L h' m → News h₀ L h' ((a, matchObj P (.str x t) p x.cps.size li T) :: (T, tupObj (rawInt st :: rawInt en :: spans.flatMap spanOf)) :: news) → (∀ q ∈ news, q.1 < T) → T < a → Q (.ref a) { s with heap := h' }) :
    wpAny (model prog w) A (call (.builtin "re.Pattern.match") [.ref P, .str x t, .int p u]) Q E s := by
  subst hg
  refine re_match_yes (hP.keeps F.keep) hp hx hm (by omega) hok hlen (h _ s.heap.objs.size _ ((F.push _).push _) ?_ (fun q hq => Heap.lt_size (N q hq).1) (Nat.lt_succ_self _))
  have := (N.push F (tupObj (rawInt st :: rawInt en :: spans.flatMap spanOf))).push (F.push _) (matchObj P (.str x t) p x.cps.size li s.heap.objs.size)
  rw [Heap.size_push] at this
  exact this
theorem foundN {h : Heap} {a T : Addr} {x : Str} {t : Tok} {P pos lim st en : Nat} {li : Int} {spans : List (Option (Nat × Nat))} (N : News h₀ L h news) (h1 : (a, matchObj P (.str x t) pos lim li T) ∈ news) (h2 : (T, tupObj (rawInt st :: rawInt en :: spans.flatMap spanOf)) ∈ news) :
    FoundAt h a x st en spans := ⟨P, t, pos, lim, li, T, (N _ h1).1, (N _ h2).1⟩

theorem groupsK3 {a : Addr} {x : Str} {st en : Nat} {s1 s2 s3 : Option (Nat × Nat)} {Q : Value → Shared → Prop} (F : Fr h₀ L s.heap m) (N : News h₀ L s.heap news) (f : FoundAt s.heap a x st en [s1, s2, s3]) (hx : x.cps.size ≤ 1000000)
    (h : ∀ T t1 t2 t3 h' tk, Fr h₀ L h' m → News h₀ L h' ((T, tupObj [partOf x s1 t1, partOf x s2 t2, partOf x s3 t3]) :: news) → (∀ p ∈ news, p.1 < T) → Q (.ref T) { s with heap := h', toks := tk }) :
    wpAny (model prog w) A (call (.builtin "re.Match.groups") [.ref a]) Q E s :=
  re_groups3 f hx fun t1 t2 t3 tk => h _ t1 t2 t3 _ tk (F.push _) (N.push F _) fun p hp => Heap.lt_size (N p hp).1
end
end Mine
end
section
open PySem PySem.W PyProof.Rows
namespace Mine

/-- a halt of the walk -/
def Stop (P : Prop) : Prop := P
theorem Stop.go {P : Prop} (h : Stop P) : P := h

def FSetObj (prog : Program) (w : World) (o : Obj) (S : Str → Bool) (n : Nat) : Prop :=
  ∃ es ep t, o = { cls := .type "frozenset", dict := none, data := .set es ep t } ∧ ElemsOf (strKind prog w) es.toList ∧
    (∀ k, S k = true ↔ ∃ e ∈ es.toList, (strKind prog w).is k e.2 = true) ∧ es.size ≤ n ∧ t.fits es.size = true
theorem FSetObj.at {prog : Program} {w : World} {o : Obj} {S : Str → Bool} {n : Nat} {h : Heap} {a : Addr} (f : FSetObj prog w o S n) (e : h.get? a = some o) : FSet prog w h a S n := by
  obtain ⟨es, ep, t, rfl, r⟩ := f; exact ⟨es, ep, t, e, r⟩
theorem FSet.obj {prog : Program} {w : World} {S : Str → Bool} {n : Nat} {h : Heap} {a : Addr} (f : FSet prog w h a S n) : ∃ o, h.get? a = some o ∧ FSetObj prog w o S n := by
  obtain ⟨es, ep, t, e, r⟩ := f; exact ⟨_, e, es, ep, t, rfl, r⟩
theorem FSetObj.free {prog : Program} {w : World} {o : Obj} {S : Str → Bool} {n : Nat} (f : FSetObj prog w o S n) : o.isFreed = false := by
  obtain ⟨es, ep, t, rfl, r⟩ := f; rfl

section
variable {prog : Program} {w : World} {A : Around} {E : Value → Shared → Prop} {s : Shared} {h₀ : Heap} {L : Addr} {m : Str → Option Value} {news : List (Addr × Obj)}

theorem fset0_K {Q : Value → Shared → Prop} (F : Fr h₀ L s.heap m) (N : News h₀ L s.heap news)
    (h : ∀ a h' o, Fr h₀ L h' m → News h₀ L h' ((a, o) :: news) → FSetObj prog w o (upTo (fun _ => Str.empty) 0) 0 → (∀ p ∈ news, p.1 < a) → Q (.ref a) { s with heap := h' }) :
    wpAny (model prog w) A (call (.type "frozenset") []) Q E s :=
  call_fset_0 fun led => h _ _ _ (F.push _) (N.push F _) (by
    obtain ⟨o, e, f⟩ := (fset_fresh (prog := prog) (w := w) (val := fun _ => Str.empty) (led := led) (Heap.get?_push_size s.heap rfl)).obj
    rw [Heap.get?_push_size s.heap rfl] at e
    cases e
    exact f) fun p hp => Heap.lt_size (N p hp).1

/-- a list of texts -/
def StrsIn (vs : List Value) (xs : List Str) : Prop := vs.length = xs.length ∧ ∀ (i : Nat) (v : Value), vs[i]? = some v → ∃ t, v = .str (xs.getD i Str.empty) t
theorem StrsIn.nil : StrsIn [] [] := ⟨rfl, fun i v h => by simp at h⟩
theorem StrsIn.snoc {vs : List Value} {xs : List Str} {x : Str} {t : Tok} (h : StrsIn vs xs) : StrsIn (vs ++ [.str x t]) (xs ++ [x]) := by
  refine ⟨by rw [List.length_append, List.length_append, h.1]; rfl, fun i v hv => ?_⟩
  by_cases hi : i < vs.length
  · rw [List.getElem?_append_left hi] at hv
    obtain ⟨t', e⟩ := h.2 i v hv
    refine ⟨t', ?_⟩
    rw [e, List.getD_eq_getElem?_getD, List.getD_eq_getElem?_getD, List.getElem?_append_left (by rw [← h.1]; exact hi)]
  · rw [List.getElem?_append_right (Nat.le_of_not_lt hi)] at hv
    have h0 : i - vs.length = 0 := by
      apply Nat.eq_zero_of_not_pos
      intro hp
      rw [List.getElem?_eq_none (by simp; omega)] at hv
      cases hv
    rw [h0] at hv
    cases hv
    refine ⟨t, ?_⟩
    have : i = xs.length := by rw [← h.1]; omega
    rw [this]; simp

theorem StrsIn.push {vs : Array Value} {xs : List Str} {x y : Str} {t : Tok} (h : StrsIn vs.toList xs) (e : y = x) : StrsIn (vs.push (.str y t)).toList (xs ++ [x]) := by
  rw [Array.toList_push, e]; exact h.snoc

theorem upTo_list (xs : List Str) (x : Str) : upTo (fun i => xs.getD i Str.empty) xs.length x = decide (x ∈ xs) := by
  unfold upTo
  have : ((List.range xs.length).any fun j => decide (x = xs.getD j Str.empty)) = true ↔ x ∈ xs := by
    rw [List.any_eq_true]
    constructor
    · rintro ⟨i, hi, he⟩
      have hi' := List.mem_range.mp hi
      have he' := of_decide_eq_true he
      rw [he', List.getD_eq_getElem?_getD, List.getElem?_eq_getElem hi']
      exact List.getElem_mem hi'
    · intro hx
      obtain ⟨i, hi, he⟩ := List.getElem_of_mem hx
      refine ⟨i, List.mem_range.mpr hi, decide_eq_true ?_⟩
      rw [List.getD_eq_getElem?_getD, List.getElem?_eq_getElem hi, Option.getD_some, he]
  by_cases hx : x ∈ xs
  · rw [decide_eq_true hx]; exact this.mpr hx
  · rw [decide_eq_false hx]
    cases q : ((List.range xs.length).any fun j => decide (x = xs.getD j Str.empty)) with
    | false => rfl
    | true => exact absurd (this.mp q) hx

theorem fsetL_K {l : Addr} {vs : Array Value} {n : Nat} {xs : List Str} {Q : Value → Shared → Prop} (F : Fr h₀ L s.heap m) (N : News h₀ L s.heap news) (hl : (l, listOf vs n) ∈ news) (hx : StrsIn vs.toList xs) (hh : A.handled = none) (hb : xs.length ≤ 1000)
    (h : ∀ a h' tk o, Fr h₀ L h' m → News h₀ L h' ((a, o) :: news) → FSetObj prog w o (fun x => decide (x ∈ xs)) xs.length → (∀ p ∈ news, p.1 < a) → Q (.ref a) { s with heap := h', toks := tk }) :
    wpAny (model prog w) A (call (.type "frozenset") [.ref l]) Q E s := by
  have hsz : vs.size = xs.length := by rw [← Array.length_toList, hx.1]
  refine call_fset_list (items := vs) (val := fun i => xs.getD i Str.empty) hh ⟨_, (N _ hl).1, rfl, n, rfl⟩ (fun i v hv => hx.2 i v (by rw [Array.getElem?_toList]; exact hv)) (by rw [hsz]; show _ < 4096; omega) fun h' tk he hS => ?_
  rw [hsz] at hS
  have e : upTo (fun i => xs.getD i Str.empty) xs.length = fun x => decide (x ∈ xs) := funext fun x => upTo_list xs x
  rw [e] at hS
  obtain ⟨o, e1, f⟩ := hS.obj
  have hn : s.heap.get? s.heap.objs.size = none := by
    cases q : s.heap.get? s.heap.objs.size with
    | none => rfl
    | some o => exact absurd (Heap.lt_size q) (Nat.lt_irrefl _)
  exact h _ h' tk o (frGrow F he) (newsJoin F (newsGrow N he) e1 hn) f fun p hp => Heap.lt_size (N p hp).1
theorem fsetT_K {l : Addr} {Q : Value → Shared → Prop} (F : Fr h₀ L s.heap m) (N : News h₀ L s.heap news) (hl : IsTup s.heap l #[]) (hh : A.handled = none)
    (h : ∀ a h' tk o, Fr h₀ L h' m → News h₀ L h' ((a, o) :: news) → FSetObj prog w o (fun x => decide (x ∈ ([] : List Str))) 0 → (∀ p ∈ news, p.1 < a) → Q (.ref a) { s with heap := h', toks := tk }) :
    wpAny (model prog w) A (call (.type "frozenset") [.ref l]) Q E s := by
  refine call_fset_tuple (items := #[]) (val := fun i => ([] : List Str).getD i Str.empty) hh hl (fun i v hv => by simp at hv) (by show 1 < 4096; decide) fun h' tk he hS => ?_
  have e : upTo (fun i => ([] : List Str).getD i Str.empty) 0 = fun x => decide (x ∈ ([] : List Str)) := funext fun x => upTo_list [] x
  have hS' : FSet prog w h' s.heap.objs.size (fun x => decide (x ∈ ([] : List Str))) 0 := e ▸ hS
  obtain ⟨o, e1, f⟩ := hS'.obj
  have hn : s.heap.get? s.heap.objs.size = none := by
    cases q : s.heap.get? s.heap.objs.size with
    | none => rfl
    | some o => exact absurd (Heap.lt_size q) (Nat.lt_irrefl _)
  exact h _ h' tk o (frGrow F he) (newsJoin F (newsGrow N he) e1 hn) f fun p hp => Heap.lt_size (N p hp).1
theorem fset0_K' {Q : Value → Shared → Prop} (F : Fr h₀ L s.heap m) (N : News h₀ L s.heap news)
    (h : ∀ a h' o, Fr h₀ L h' m → News h₀ L h' ((a, o) :: news) → FSetObj prog w o (fun x => decide (x ∈ ([] : List Str))) 0 → (∀ p ∈ news, p.1 < a) → Q (.ref a) { s with heap := h' }) :
    wpAny (model prog w) A (call (.type "frozenset") []) Q E s :=
  fset0_K F N fun a h' o F' N' f l => h a h' o F' N' (by
    have e : upTo (fun _ => Str.empty) 0 = fun x => decide (x ∈ ([] : List Str)) := funext fun x => by simp [upTo]
    exact e ▸ f) l
theorem fset_in_K {a : Addr} {o : Obj} {S : Str → Bool} {n : Nat} {x : Str} {t : Tok} {Q : Value → Shared → Prop} (N : News h₀ L s.heap news) (ha : (a, o) ∈ news) (f : FSetObj prog w o S n) (hn : n < 4096) (h : ∀ tk, Q (.bool (S x)) { s with toks := tk }) :
    wpAny (model prog w) A (compareOp .In (.str x t) (.ref a)) Q E s := fset_in (f.at (N _ ha).1) hn h
theorem fset_truthy_K {a : Addr} {o : Obj} {S : Str → Bool} {n : Nat} {Q : Bool → Shared → Prop} (N : News h₀ L s.heap news) (ha : (a, o) ∈ news) (f : FSetObj prog w o S n) (hn : n < 4096) (h : ∀ b tk, (b = true ↔ ∃ x, S x = true) → Q b { s with toks := tk }) :
    wpAny (model prog w) A (truthy (.ref a)) Q E s := fset_truthy (f.at (N _ ha).1) hn h

theorem matchK_no {P : Addr} {code : Array Nat} {x : Str} {t u : Tok} {p k groups : Nat} {Q : Value → Shared → Prop} (F : Fr h₀ L s.heap m) (hP : PatAt h₀ P code groups 0) (hp : p ≤ x.cps.size) (hx : x.cps.size < 2 ^ 62)
    (hm : Failed k (Sre.forMatch code x.cps groups p x.cps.size false false)) (hk : k ≤ 1000000) (h : Q .none s) :
    wpAny (model prog w) A (call (.builtin "re.Pattern.match") [.ref P, .str x t, .int p u]) Q E s :=
  re_match_no (hP.keeps F.keep) hp hx hm (by omega) h
theorem endK {a : Addr} {x : Str} {st en : Nat} {spans : List (Option (Nat × Nat))} {Q : Value → Shared → Prop} (f : FoundAt s.heap a x st en spans) (h : Q (.int en s.toks) { s with toks := s.toks + 1 }) :
    wpAny (model prog w) A (call (.builtin "re.Match.end") [.ref a]) Q E s := re_end f h
theorem truthy_text {x : Str} {t : Tok} {Q : Bool → Shared → Prop} (h1 : 1 ≤ x.length) (h2 : x.length ≤ 16777216) (h : ∀ tk, Q true { s with toks := tk }) : wpAny (model prog w) A (truthy (.str x t)) Q E s := by
  refine P.truthy_str (by omega) ?_
  have : (((x.length : Nat) : Int) != 0) = true := bne_iff_ne.mpr (by omega)
  rw [this]
  exact h _

theorem truthy_listK {l : Addr} {vs : Array Value} {n : Nat} {Q : Bool → Shared → Prop} (N : News h₀ L s.heap news) (hm : (l, listOf vs n) ∈ news) (hb : vs.size ≤ 100000) (h : ∀ tk, Q (!vs.isEmpty) { s with toks := tk }) :
    wpAny (model prog w) A (truthy (.ref l)) Q E s :=
  wpAny_truthy_list (items := vs) ⟨_, (N _ hm).1, rfl, n, rfl⟩ (by omega) (h _)
theorem StrsIn.isNil {vs : Array Value} {xs : List Str} (h : StrsIn vs.toList xs) (e : (!vs.isEmpty) = false) : xs = [] := by
  have h1 : vs.size = 0 := by simpa using e
  have := h.1
  rw [Array.length_toList, h1] at this
  exact List.eq_nil_of_length_eq_zero this.symm

theorem etEmpty {vs : Array Value} {xs : List Str} {o : Obj} {n : Nat} (h : StrsIn vs.toList xs) (e : vs.isEmpty = true) (f : FSetObj prog w o (fun x => decide (x ∈ ([] : List Str))) n) : FSetObj prog w o (fun x => decide (x ∈ xs)) n := by
  rw [h.isNil (by rw [e]; rfl)]; exact f
/-- an ETags that a callee has made: what it holds -/
def EtagsAt (prog : Program) (w : World) (h0 h : Heap) (v : Value) (S W : List Str) : Prop :=
  ∃ (e d a b : Addr) (oa ob : Obj) (t1 t2 t3 n nS nW : Nat), v = .ref e ∧
    (∀ p ∈ ([(e, instObj 207 d), (d, dictOf [⟨PyData.keyHash w.params (Str.ofString "_strong"), .str (Str.ofString "_strong") t1, .ref a⟩, ⟨PyData.keyHash w.params (Str.ofString "_weak"), .str (Str.ofString "_weak") t2, .ref b⟩, ⟨PyData.keyHash w.params (Str.ofString "star_tag"), .str (Str.ofString "star_tag") t3, .bool false⟩] n), (a, oa), (b, ob)] : List (Addr × Obj)), h.get? p.1 = some p.2 ∧ h0.get? p.1 = none) ∧
    FSetObj prog w oa (fun x => decide (x ∈ S)) nS ∧ FSetObj prog w ob (fun x => decide (x ∈ W)) nW ∧ nS ≤ 1000 ∧ nW ≤ 1000
theorem EtagsAt.of {h' : Heap} {e d a b : Addr} {oa ob : Obj} {t1 t2 t3 n nS nW : Nat} {S W : List Str} (N : News h₀ L h' news) (h1 : (e, instObj 207 d) ∈ news)
    (h2 : (d, dictOf [⟨PyData.keyHash w.params (Str.ofString "_strong"), .str (Str.ofString "_strong") t1, .ref a⟩, ⟨PyData.keyHash w.params (Str.ofString "_weak"), .str (Str.ofString "_weak") t2, .ref b⟩, ⟨PyData.keyHash w.params (Str.ofString "star_tag"), .str (Str.ofString "star_tag") t3, .bool false⟩] n) ∈ news)
    (h3 : (a, oa) ∈ news) (h4 : (b, ob) ∈ news) (f1 : FSetObj prog w oa (fun x => decide (x ∈ S)) nS) (f2 : FSetObj prog w ob (fun x => decide (x ∈ W)) nW) (l1 : nS ≤ 1000) (l2 : nW ≤ 1000) : EtagsAt prog w h₀ h' (.ref e) S W := by
  refine ⟨e, d, a, b, oa, ob, t1, t2, t3, n, nS, nW, rfl, fun p hp => ?_, f1, f2, l1, l2⟩
  have : p ∈ news := by
    rcases List.mem_cons.mp hp with rfl | hp
    · exact h1
    rcases List.mem_cons.mp hp with rfl | hp
    · exact h2
    rcases List.mem_cons.mp hp with rfl | hp
    · exact h3
    rcases List.mem_cons.mp hp with rfl | hp
    · exact h4
    · cases hp
  exact ⟨(N p this).1, (N p this).2.2⟩
end
end Mine
end
section
open PySem PySem.W PyProof.Rows
namespace Mine
local macro_rules | `(tactic| walk_at "mine pad 0") => `(tactic| fail "pad")
local macro_rules | `(tactic| walk_at "mine pad 1") => `(tactic| fail "pad")
local macro_rules | `(tactic| walk_at "mine pad 2") => `(tactic| fail "pad")
local macro_rules | `(tactic| walk_at "mine pad 3") => `(tactic| fail "pad")
local macro_rules | `(tactic| walk_at "mine pad 4") => `(tactic| fail "pad")
local macro_rules | `(tactic| walk_at "mine pad 5") => `(tactic| fail "pad")
local macro_rules | `(tactic| walk_at "mine pad 6") => `(tactic| fail "pad")
local macro_rules | `(tactic| walk_at "mine pad 7") => `(tactic| fail "pad")
local macro_rules | `(tactic| walk_at "mine pad 8") => `(tactic| fail "pad")
local macro_rules | `(tactic| walk_at "mine pad 9") => `(tactic| fail "pad")
local macro_rules | `(tactic| walk_at "mine pad 10") => `(tactic| fail "pad")
local macro_rules | `(tactic| walk_at "mine pad 11") => `(tactic| fail "pad")
local macro_rules | `(tactic| walk_at "mine pad 12") => `(tactic| fail "pad")
local macro_rules | `(tactic| walk_at "mine pad 13") => `(tactic| fail "pad")
local macro_rules | `(tactic| walk_at "mine pad 14") => `(tactic| fail "pad")
local macro_rules | `(tactic| walk_at "mine pad 15") => `(tactic| fail "pad")
local macro_rules | `(tactic| walk_at "mine pad 16") => `(tactic| fail "pad")
local macro_rules | `(tactic| walk_at "mine pad 17") => `(tactic| fail "pad")
local macro_rules | `(tactic| walk_at "mine pad 18") => `(tactic| fail "pad")
local macro_rules | `(tactic| walk_at "mine pad 19") => `(tactic| fail "pad")
local macro_rules | `(tactic| walk_at "mine pad 20") => `(tactic| fail "pad")
local macro_rules | `(tactic| walk_at "mine pad 21") => `(tactic| fail "pad")
local macro_rules | `(tactic| walk_at "mine pad 22") => `(tactic| fail "pad")
local macro_rules | `(tactic| walk_at "mine pad 23") => `(tactic| fail "pad")
local macro_rules | `(tactic| walk_at "mine pad 24") => `(tactic| fail "pad")
local macro_rules | `(tactic| walk_at "mine pad 25") => `(tactic| fail "pad")
local macro_rules | `(tactic| walk_at "mine pad 26") => `(tactic| fail "pad")
local macro_rules | `(tactic| walk_at "mine pad 27") => `(tactic| fail "pad")
local macro_rules | `(tactic| walk_at "mine pad 28") => `(tactic| fail "pad")
local macro_rules | `(tactic| walk_at "mine pad 29") => `(tactic| fail "pad")
local macro_rules | `(tactic| walk_at "mine pad 30") => `(tactic| fail "pad")
local macro_rules | `(tactic| walk_at "mine pad 31") => `(tactic| fail "pad")
local macro_rules | `(tactic| walk_at "mine pad 32") => `(tactic| fail "pad")
local macro_rules | `(tactic| walk_at "mine pad 33") => `(tactic| fail "pad")
local macro_rules | `(tactic| walk_at "mine pad 34") => `(tactic| fail "pad")
local macro_rules | `(tactic| walk_at "mine pad 35") => `(tactic| fail "pad")
local macro_rules | `(tactic| walk_at "mine pad 36") => `(tactic| fail "pad")
local macro_rules | `(tactic| walk_at "mine pad 37") => `(tactic| fail "pad")
local macro_rules | `(tactic| walk_at "mine pad 38") => `(tactic| fail "pad")
local macro_rules | `(tactic| walk_at "mine pad 39") => `(tactic| fail "pad")
local macro_rules | `(tactic| walk_at "mine pad 40") => `(tactic| fail "pad")
local macro_rules | `(tactic| walk_at "mine pad 41") => `(tactic| fail "pad")
local macro_rules | `(tactic| walk_at "mine pad 42") => `(tactic| fail "pad")
local macro_rules | `(tactic| walk_at "mine pad 43") => `(tactic| fail "pad")
local macro_rules | `(tactic| walk_at "mine pad 44") => `(tactic| fail "pad")
local macro_rules | `(tactic| walk_at "mine pad 45") => `(tactic| fail "pad")
local macro_rules | `(tactic| walk_at "mine pad 46") => `(tactic| fail "pad")
local macro_rules | `(tactic| walk_at "mine pad 47") => `(tactic| fail "pad")
local macro_rules | `(tactic| walk_at "mine pad 48") => `(tactic| fail "pad")
local macro_rules | `(tactic| walk_at "mine pad 49") => `(tactic| fail "pad")
local macro_rules | `(tactic| walk_at "exec While") => `(tactic| (k_here; refine Mine.Stop.go ?_))
local macro_rules | `(tactic| k_room) => `(tactic| ((try simp only [depth_under_make, depth_under_kw, depth_in1, depth_deeper, depth_caller]); show _ < 1000; omega))
local macro_rules | `(tactic| k_units) => `(tactic| (show _ < 9900; (try simp only [Around.in1_units, Around.deeper_units, Around.mark_units]); omega))
local macro_rules | `(tactic| walk_at "call type:frozenset nil nil") => `(tactic| (k_here; k_dflt (refine' fset0_K' ?F ?N ?_; (case F => k_asm); (case N => k_asm); k_whole); intro a' h' o' F' N' S' l1; (try k_lt l1); (try k_sweep)))
local macro_rules | `(tactic| walk_at "call type:frozenset cons nil") => `(tactic| (k_here; k_dflt (first
  | (refine' fsetL_K ?F ?N ?m ?x ?hh ?hb ?_; (case F => k_asm); (case N => k_asm); (case m => k_mem); (case x => assumption); (case hh => rfl); (case hb => omega); k_whole)
  | (refine' fsetT_K ?F ?N ?t ?hh ?_; (case F => k_asm); (case N => k_asm); (case t => exact ⟨_, News.get (by k_asm) (by k_mem), rfl, _, rfl⟩); (case hh => rfl); k_whole)); intro a' h' tk' o' F' N' S' l1; (try k_lt l1); (try k_sweep)))
local macro_rules | `(tactic| walk_at "truthy ref") => `(tactic| (k_here; k_dflt (refine' fset_truthy_K ?N ?m ?f ?hn ?_; (case N => k_asm); (case m => k_mem); (case f => assumption); (case hn => omega); k_whole); intro b' tk' hb'))
local macro_rules | `(tactic| walk_at "compareOp In str ref") => `(tactic| (k_here; k_dflt (refine' fset_in_K ?N ?m ?f ?hn ?_; (case N => k_asm); (case m => k_mem); (case f => assumption); (case hn => omega); k_whole); intro tk'))
local macro_rules | `(tactic| walk_at "getMethod ref") => `(tactic| (k_here; k_dflt (first
  | (refine' meth_pattern ?P slot_pattern_match type_pattern_match ?_; (case P => exact PatAt.keeps (by assumption) (Fr.keep (by k_asm))); k_whole)
  | (refine' meth_match ?f slot_match_groups type_match_groups ?_; (case f => exact foundN (by k_asm) (by k_mem) (by k_mem)); k_whole)
  | (refine' meth_match ?f slot_match_end type_match_end ?_; (case f => exact foundN (by k_asm) (by k_mem) (by k_mem)); k_whole))))
local macro_rules | `(tactic| walk_at "call builtin:re.Pattern.match") => `(tactic| (k_here; k_dflt (first
  | (refine' matchK_yes ?F ?N ?P ?g ?hp ?hx ?hm ?hk ?ok ?len ?_; (case F => k_asm); (case N => k_asm); (case hm => assumption); (case P => assumption); (case g => rfl); (case hp => omega); (case hx => omega); (case hk => decide); (case ok => assumption); (case len => exact Nat.le_of_ble_eq_true rfl); k_whole; intro a' T' h' F' N' l1 l2; (try k_lt l1); (try k_lt2 l2); (try k_sweep))
  | (refine' matchK_no ?F ?P ?hp ?hx ?hm ?hk ?_; (case F => k_asm); (case hm => assumption); (case P => assumption); (case hp => omega); (case hx => omega); (case hk => decide); k_whole))))
local macro_rules | `(tactic| walk_at "call builtin:re.Match.groups") => `(tactic| (k_here; k_dflt (refine' groupsK3 ?F ?N ?f ?hx ?_; (case F => k_asm); (case N => k_asm); (case f => exact foundN (by k_asm) (by k_mem) (by k_mem)); (case hx => omega); k_whole); intro T' t1' t2' t3' h' tk' F' N' l1; (try dsimp only [partOf] at N'); (try k_lt l1); (try k_sweep)))
local macro_rules | `(tactic| walk_at "call builtin:re.Match.end") => `(tactic| (k_here; k_dflt (refine' endK ?f ?_; (case f => exact foundN (by k_asm) (by k_mem) (by k_mem)); k_whole)))
local macro_rules | `(tactic| walk_at "truthy str") => `(tactic| (k_here; k_dflt (refine' truthy_text ?a ?b ?_; (case a => omega); (case b => omega); k_whole); intro tk'))
local macro_rules | `(tactic| walk_at "truthy ref") => `(tactic| (k_here; k_dflt (refine' truthy_listK ?N ?m ?hb ?_; (case N => k_asm); (case m => k_mem); (case hb => omega); k_whole); intro tk'))

def mapE (ls lw : Addr) (x : Str) (t : Tok) (p : Int) (tp : Tok) (u : Str → Option Value) : Str → Option Value := fun y =>
  if y = "pos" then some (.int p tp) else if y = "weak" then some (.ref lw) else if y = "strong" then some (.ref ls) else if y = "value" then some (.str x t) else u y
theorem mapE_of {ls lw : Addr} {x : Str} {t : Tok} {p : Int} {tp : Tok} {m : Str → Option Value} (h1 : m "pos" = some (.int p tp)) (h2 : m "weak" = some (.ref lw)) (h3 : m "strong" = some (.ref ls)) (h4 : m "value" = some (.str x t)) :
    m = mapE ls lw x t p tp m := by
  funext y
  unfold mapE
  by_cases e1 : y = "pos"
  · rw [if_pos e1, e1, h1]
  · by_cases e2 : y = "weak"
    · rw [if_neg e1, if_pos e2, e2, h2]
    · by_cases e3 : y = "strong"
      · rw [if_neg e1, if_neg e2, if_pos e3, e3, h3]
      · by_cases e4 : y = "value"
        · rw [if_neg e1, if_neg e2, if_neg e3, if_pos e4, e4, h4]
        · rw [if_neg e1, if_neg e2, if_neg e3, if_neg e4]

theorem find_end (x : Str) (n : Int) (h : n = (x.cps.size : Nat)) : Txt.find3 x (Str.ofString ",") n + 1 = 0 := by
  have e : Str.ofString "," = ⟨#[44]⟩ := by rfl
  rw [e]
  rcases StrLaws.find3_spec x 44 n with ⟨h1, _⟩ | ⟨k, h1, h2, h3, _⟩
  · rw [h1]; rfl
  · exfalso
    have h4 : fromIndex x.length n = x.length := by
      subst h
      unfold fromIndex
      show _ = x.cps.size
      rw [if_neg (by omega)]
      omega
    omega

abbrev strongs (l : List (Nat × Str)) : List Str := (l.filter fun t => t.1 == 0).map (·.2)
abbrev weaks (l : List (Nat × Str)) : List Str := (l.filter fun t => t.1 != 0).map (·.2)
abbrev bare (l : List (Nat × Str)) : List (Nat × List Nat) := l.map fun t => (t.1, t.2.cps.toList)

/-- how far the text is read -/
def JE (ls lw : Addr) (x : Str) (t : Tok) (w1 w2 : List Nat) (told : List (Nat × Str)) (n : Nat) (m : Str → Option Value) (news : List (Addr × Obj)) : Prop :=
  ∃ (done rest : List (Nat × Str)) (p : Nat) (tp : Tok) (sv wv : Array Value) (ns nw : Nat) (u : Str → Option Value) (lead : List Nat), told = done ++ rest ∧ n = rest.length ∧ m = mapE ls lw x t p tp u ∧
    news = [(lw, listOf wv nw), (ls, listOf sv ns)] ∧ StrsIn sv.toList (strongs done) ∧ StrsIn wv.toList (weaks done) ∧ p ≤ x.cps.size ∧
    ((rest = [] ∧ p = x.cps.size) ∨ (rest ≠ [] ∧ x.cps.toList.drop p = lead ++ restL w1 w2 (bare rest) ∧ ∀ c ∈ lead, isWs c))

theorem parse_etags_some {w : World} {ad : Nat} {ag : Option (List Code)} {au : Nat} {base : Heap} {outer : List Env} {s : Shared} {lz : List Str} {mean : ExcName → Option Value} {mg mb : Str → Option Value} {x : Str} {t : Tok} {w1 w2 : List Nat} {told : List (Nat × Str)}
    (B : Below ⟨none, ad, some outer, ag, au⟩ base outer s.heap) (X : (hd1.heap_39 w.params).In s.heap) (T : Top hd1.view_39 lz mean mg mb s.heap) (hA : ad < 500) (hu : au < 500) (hx2 : x.length ≤ 10000) (hstar : (x == Str.ofString "*") = false) (hws1 : ∀ c ∈ w1, isWs c) (hws2 : ∀ c ∈ w2, isWs c) (hnq : ∀ t ∈ told, ∀ c ∈ t.2.cps.toList, c ≠ 34) (hne : ∀ t ∈ told, 1 ≤ t.2.length) (htn : told ≠ []) (htl : told.length ≤ 100)
    (hxt : x.cps.toList = restL w1 w2 (bare told)) (HP : PatAt s.heap 85 etagCode 3 0) (hx1 : 1 ≤ x.length) :
    codeAny (model PySem.Challenge.rw_ez0420_01.row.prog w) ⟨none, ad, some outer, ag, au⟩ (.call (.ref 92) ⟨[.str x t], []⟩) (PureR s fun v h => EtagsAt PySem.Challenge.rw_ez0420_01.row.prog w s.heap h v (strongs told) (weaks told)) s := by
  revert X; k_fill; intro X
  refine' enterB (binds := [("value", .str x t)]) B X T.nolimit ?k1 ?k6 ?k7 ?k9 ?kB ?c2 ?c3 ?c4 ?c5 ?_
  case k6 => k_is
  case k7 => k_is
  case k1 => show _ < 1000; omega
  case k9 => first | exact BindsTo.of_eq rfl | exact binds_K (by k_in) rfl (by k_is) rfl rfl rfl | fail "k_enter: no rule for these arguments"
  case kB => exact locs rfl
  case c2 => exact rfl
  case c3 => exact rfl
  case c4 => exact rfl
  case c5 => decide
  intro L' h' F' N' B'
  (try dsimp only)
  (try k_fold)
  have hxs : x.cps.size ≤ 10000 := hx2
  k_steps
  rename_i ls _ _ _ _ lw _ l12 _ _ F1 N1
  unfold Stop
  refine While_inv2 (JE ls lw x t w1 w2 told) (n₀ := told.length) F1 N1 ?_ ?_
  · exact ⟨[], told, 0, _, #[], #[], 0, 0, _, [], rfl, rfl, mapE_of rfl rfl rfl rfl, rfl, StrsIn.nil, StrsIn.nil, Nat.zero_le _, .inr ⟨htn, by rw [List.drop_zero, hxt]; rfl, fun _ h => nomatch h⟩⟩
  rintro n m₁ news₁ h₁ tk₁ F₁ N₁ ⟨done, rest, p, tp, sv, wv, ns, nw, u, lead, rfl, rfl, rfl, rfl, hsv, hwv, hp, hcase⟩
  unfold mapE at F₁
  have hsl : sv.size ≤ 100 := by
    rw [← Array.length_toList, hsv.1, List.length_map]
    have h1 := List.length_filter_le (fun t : Nat × Str => t.1 == 0) done
    rw [List.length_append] at htl
    omega
  have hwl : wv.size ≤ 100 := by
    rw [← Array.length_toList, hwv.1, List.length_map]
    have h1 := List.length_filter_le (fun t : Nat × Str => t.1 != 0) done
    rw [List.length_append] at htl
    omega
  have hsl2 : (strongs done).length ≤ 1000 := by rw [← hsv.1, Array.length_toList]; omega
  have hwl2 : (weaks done).length ≤ 1000 := by rw [← hwv.1, Array.length_toList]; omega
  rcases hcase with ⟨rfl, rfl⟩ | ⟨hrn, hdrop, hlead⟩
  · have hm := etag_none (text := x.cps)
    replace hsv : StrsIn sv.toList (strongs (done ++ [])) := by rw [List.append_nil]; exact hsv
    replace hwv : StrsIn wv.toList (weaks (done ++ [])) := by rw [List.append_nil]; exact hwv
    replace hsl2 : (strongs (done ++ [])).length ≤ 1000 := by rw [List.append_nil]; exact hsl2
    replace hwl2 : (weaks (done ++ [])).length ≤ 1000 := by rw [List.append_nil]; exact hwl2
    have hfind := find_end x ((x.cps.size : Nat) : Int) rfl
    k_steps
    rotate_left
    · exact absurd hfind (by assumption)
    dsimp only
    refine whileBrk ?_
    dsimp only
    k_steps
    all_goals (first
      | exact PureR.intro (by assumption) (EtagsAt.of (by assumption) (by k_mem) (by k_mem) (by k_mem) (by k_mem) (etEmpty hsv (by assumption) (by assumption)) (etEmpty hwv (by assumption) (by assumption)) (by omega) (by omega))
      | exact PureR.intro (by assumption) (EtagsAt.of (by assumption) (by k_mem) (by k_mem) (by k_mem) (by k_mem) (etEmpty hsv (by assumption) (by assumption)) (by assumption) (by omega) (by omega))
      | exact PureR.intro (by assumption) (EtagsAt.of (by assumption) (by k_mem) (by k_mem) (by k_mem) (by k_mem) (by assumption) (etEmpty hwv (by assumption) (by assumption)) (by omega) (by omega))
      | exact PureR.intro (by assumption) (EtagsAt.of (by assumption) (by k_mem) (by k_mem) (by k_mem) (by k_mem) (by assumption) (by assumption) (by omega) (by omega)))
  · obtain ⟨r0, rs, rfl⟩ : ∃ r0 rs, rest = r0 :: rs := by cases rest with
      | nil => exact absurd rfl hrn
      | cons a b => exact ⟨a, b, rfl⟩
    have hr0 : r0 ∈ done ++ r0 :: rs := List.mem_append_right _ (.head _)
    have hn0 := hne _ hr0
    obtain ⟨e, b, he1, he2, he3, he4, he5⟩ := etag_step (w1 := w1) (w2 := w2) (t := (r0.1, r0.2.cps.toList)) (ts := bare rs) (by omega) hws1 hlead (hnq _ hr0) hdrop
    obtain ⟨b2, hb2⟩ : ∃ b2, b2 = b + r0.2.cps.toList.length := ⟨_, rfl⟩
    have hex : (Str.mk (x.cps.extract b b2)) = r0.2 := by
      rw [hb2]
      have : x.cps.extract b (b + r0.2.cps.toList.length) = r0.2.cps := he4
      rw [this]
    have hl1 : 1 ≤ (Str.mk (x.cps.extract b b2)).length := by rw [hex]; exact hn0
    have hl2 : (Str.mk (x.cps.extract b b2)).length ≤ 10000 := by
      show (x.cps.extract b b2).size ≤ 10000
      rw [Array.size_extract]; omega
    dsimp only at he5
    rw [← hb2] at he5
    rcases he5 with ⟨hz, hm⟩ | ⟨hz, c, hcl, hm⟩
    · have hok : SpansOk [none, some (b, b2), none] := by
        intro b' e' hbe
        simp at hbe
        omega
      k_steps
      refine ⟨_, _, _, [(lw, listOf wv nw), (ls, listOf (sv.push (.str (Str.mk (x.cps.extract b b2)) _)) (ns + 1))], rs.length, rfl, by assumption, newsSub (by assumption) (by (repeat' first | exact List.forall_mem_nil _ | refine List.forall_mem_cons.mpr ⟨by k_mem, ?_⟩)), by simp, done ++ [r0], rs, e, _, _, _, _, _, _, w2, by simp, rfl, mapE_of rfl rfl rfl rfl, rfl, ?_, ?_, he2, ?_⟩
      · rw [show strongs (done ++ [r0]) = strongs done ++ [r0.2] by simp [strongs, List.filter_append, hz]]
        exact hsv.push hex
      · rw [show weaks (done ++ [r0]) = weaks done by simp [weaks, List.filter_append, hz]]
        exact hwv
      · rcases he3 with ⟨h1, h2⟩ | ⟨h1, h2⟩
        · exact .inl ⟨by simpa [bare] using h1, h2⟩
        · exact .inr ⟨fun z => h1 (by simp [bare, z]), h2, hws2⟩
    · have hw1 : 1 ≤ (Str.mk (x.cps.extract c (c + 1 + 1))).length ∧ (Str.mk (x.cps.extract c (c + 1 + 1))).length ≤ 2 := by
        show 1 ≤ (x.cps.extract c (c + 1 + 1)).size ∧ (x.cps.extract c (c + 1 + 1)).size ≤ 2
        rw [Array.size_extract]; omega
      have hok : SpansOk [some (c, c + 1 + 1), some (b, b2), none] := by
        intro b' e' hbe
        simp at hbe
        omega
      k_steps
      refine ⟨_, _, _, [(lw, listOf (wv.push (.str (Str.mk (x.cps.extract b b2)) _)) (nw + 1)), (ls, listOf sv ns)], rs.length, rfl, by assumption, newsSub (by assumption) (by (repeat' first | exact List.forall_mem_nil _ | refine List.forall_mem_cons.mpr ⟨by k_mem, ?_⟩)), by simp, done ++ [r0], rs, e, _, _, _, _, _, _, w2, by simp, rfl, mapE_of rfl rfl rfl rfl, rfl, ?_, ?_, he2, ?_⟩
      · rw [show strongs (done ++ [r0]) = strongs done by simp [strongs, List.filter_append, hz]]
        exact hsv
      · rw [show weaks (done ++ [r0]) = weaks done ++ [r0.2] by simp [weaks, List.filter_append, hz]]
        exact hwv.push hex
      · rcases he3 with ⟨h1, h2⟩ | ⟨h1, h2⟩
        · exact .inl ⟨by simpa [bare] using h1, h2⟩
        · exact .inr ⟨fun z => h1 (by simp [bare, z]), h2, hws2⟩

theorem parse_etags_none {w : World} {ad : Nat} {ag : Option (List Code)} {au : Nat} {base : Heap} {outer : List Env} {s : Shared} {lz : List Str} {mean : ExcName → Option Value} {mg mb : Str → Option Value} 
    (B : Below ⟨none, ad, some outer, ag, au⟩ base outer s.heap) (X : (hd1.heap_39 w.params).In s.heap) (T : Top hd1.view_39 lz mean mg mb s.heap) (hA : ad < 500) (hu : au < 500)  :
    codeAny (model PySem.Challenge.rw_ez0420_01.row.prog w) ⟨none, ad, some outer, ag, au⟩ (.call (.ref 92) ⟨[.none], []⟩) (PureR s fun v h => EtagsAt PySem.Challenge.rw_ez0420_01.row.prog w s.heap h v [] []) s := by
  revert X; k_fill; intro X
  refine' enterB (binds := [("value", .none)]) B X T.nolimit ?k1 ?k6 ?k7 ?k9 ?kB ?c2 ?c3 ?c4 ?c5 ?_
  case k6 => k_is
  case k7 => k_is
  case k1 => show _ < 1000; omega
  case k9 => first | exact BindsTo.of_eq rfl | exact binds_K (by k_in) rfl (by k_is) rfl rfl rfl | fail "k_enter: no rule for these arguments"
  case kB => exact locs rfl
  case c2 => exact rfl
  case c3 => exact rfl
  case c4 => exact rfl
  case c5 => decide
  intro L' h' F' N' B'
  (try dsimp only)
  (try k_fold)
  k_steps
  exact PureR.intro (by assumption) (EtagsAt.of (by assumption) (by k_mem) (by k_mem) (by k_mem) (by k_mem) (by assumption) (by assumption) (by omega) (by omega))
end Mine
end
section
namespace Mine
open PySem PySem.W PyProof.Rows
section
variable {prog : Program} {w : World} {A : Around} {E : Value → Shared → Prop} {s : Shared}
theorem startswith_tup {x y z : Str} {t u v : Tok} {a : Addr} {Q : Value → Shared → Prop} (h : s.heap.IsTuple a #[.str y u, .str z v])
    (hq : Q (.bool (Txt.startswith x y || Txt.startswith x z)) s) : wpAny (model prog w) A (call (.builtin "str.startswith") [.str x t, .ref a]) Q E s := by
  refine wpAny_call_entry F.slot_str_startswith (typeIs_str _ _ _) F.entry_str_startswith ?_ (F.args_str_startswith_2 _ _)
  obtain ⟨o, ho, hc, n, hd⟩ := h
  unfold Builtin.«str.startswith» Builtin.Str.affixEntry
  refine wpAny_bind (m := Builtin.Str.strSomeArgs _ _ _ _) (Q := _) ?_
  refine wpAny_pure ?_
  dsimp only
  refine wpAny_bind (m := Builtin.Str.searchRange _ _) (Q := _) ?_
  show wpAny _ _ (Builtin.Str.searchRange x.length []) _ _ _
  rw [PySem.searchRange_nil]
  refine wpAny_pure ?_
  dsimp only [List.headD_cons]
  refine wpAny_bind ?_
  unfold asStr?
  refine wpAny_bind (wpAny_load ho ?_)
  rw [hd]
  refine wpAny_pure ?_
  dsimp only
  refine wpAny_bind (wpAny_isInstance (b := true) ⟨o, ho, hc⟩ (by rw [isSubtype_type]; kernel_rfl) ?_)
  rw [if_pos rfl]
  refine wpAny_bind (wpAny_rule ?_)
  refine wpAny_bind (wpAny_seqItems ho hd ?_)
  dsimp only
  have e : ∀ y, (decide (0 + y.length ≤ x.length) && Builtin.Str.subAt x y 0) = Txt.startswith x y := fun _ => rfl
  refine wpAny_bind ?_
  rw [← Array.forIn_toList]
  rw [List.forIn_cons]
  refine wpAny_bind (wpAny_bind (m := pure (some y)) (wpAny_pure ?_))
  dsimp only
  cases hy : Txt.startswith x y with
  | true =>
    rw [if_pos (show (decide (0 + y.length ≤ x.length) && Builtin.Str.subAt x y 0) = true from hy)]
    refine wpAny_bind (m := ret _) (wpAny_pure (wpAny_pure ?_))
    refine wpAny_pure (wpAny_pure ⟨_, rfl, ?_⟩)
    rw [hy] at hq
    exact hq
  | false =>
    rw [if_neg (show ¬ (decide (0 + y.length ≤ x.length) && Builtin.Str.subAt x y 0) = true from ne_true_of_eq_false hy)]
    refine wpAny_pure ?_
    dsimp only
    rw [List.forIn_cons]
    refine wpAny_bind (wpAny_bind (m := pure (some z)) (wpAny_pure ?_))
    dsimp only
    rw [hy, Bool.false_or] at hq
    cases hz : Txt.startswith x z with
    | true =>
      rw [if_pos (show (decide (0 + z.length ≤ x.length) && Builtin.Str.subAt x z 0) = true from hz)]
      refine wpAny_bind (m := ret _) (wpAny_pure (wpAny_pure ?_))
      refine wpAny_pure (wpAny_pure ⟨_, rfl, ?_⟩)
      rw [hz] at hq
      exact hq
    | false =>
      rw [if_neg (show ¬ (decide (0 + z.length ≤ x.length) && Builtin.Str.subAt x z 0) = true from ne_true_of_eq_false hz)]
      refine wpAny_pure ?_
      dsimp only
      rw [List.forIn_nil]
      refine wpAny_pure (wpAny_pure ⟨_, rfl, ?_⟩)
      rw [hz] at hq
      exact hq

def endsFrom (x y : Str) (i : Int) : Bool := fromIndex x.length i + y.length ≤ x.length && Builtin.Str.subAt x y (x.length - y.length)
theorem gives_ends_from (x y : Str) (i : Int) (t u v : Tok) : Gives (Builtin.«str.endswith» ⟨[.str x t, .str y u, .int i v], []⟩) (.val (.bool (endsFrom x y i))) := by
  show Gives (ret (.bool (fromIndex x.length i + y.length ≤ min x.length x.length && Builtin.Str.subAt x y (min x.length x.length - y.length)))) _
  rw [Nat.min_self]
  exact .of_eq rfl
theorem args_ends_3 (a b c : Value) : argsOk "str.endswith" ⟨[a, b, c], []⟩ := by unfold argsOk; kernel_rfl
theorem ends_true {x y : Str} {t u v : Tok} {i : Int} {Q : Value → Shared → Prop} (he : endsFrom x y i = true) (hq : Q (.bool true) s) :
    wpAny (model prog w) A (call (.builtin "str.endswith") [.str x t, .str y u, .int i v]) Q E s :=
  call_gives F.slot_str_endswith (typeIs_str _ _ _) F.entry_str_endswith (args_ends_3 _ _ _) (gives_ends_from x y i t u v) (he ▸ hq)
end

/-- a tag in quotes -/
structure QTag (y tag : Str) : Prop where
  small : y.length ≤ 10000
  pos : 1 ≤ y.length
  nw : (Txt.startswith y (Str.ofString "W/") || Txt.startswith y (Str.ofString "w/")) = false
  st : Txt.startswith3 y (Str.ofString "\"") 0 = true
  en : endsFrom y (Str.ofString "\"") 0 = true
  tag : Txt.slice y (some (0 + 1)) (some (-1)) = tag
end Mine
end
section
namespace Mine
open PySem PySem.W PyProof.Rows
section
variable {prog : Program} {w : World} {A : Around} {E : Value → Shared → Prop} {s : Shared} {h₀ : Heap} {L : Addr} {m : Str → Option Value} {news : List (Addr × Obj)}

theorem bool_new_fset (a : Addr) (S : Str → Bool) (n : Nat) (hn : n < scanBound) : MeetsIn prog w (Builtin.«bool.__new__» ⟨[.type "bool", .ref a], []⟩) (fun _ R s => FSet prog w s.heap a S n ∧ ∀ b tk, (b = true ↔ ∃ x, S x = true) → R (.ok (.ret (.bool b))) { s with toks := tk }) :=
  .of_wp fun A R s h => by
    have hsub := F.conv_sub_bool
    unfold Builtin.«bool.__new__»
    dsimp only
    refine wpAny_bind (m := isType _) (wpAny_pure ?_)
    rw [if_neg (by decide)]
    refine wpAny_bind (m := isSubtype _ _) (wpAny_of_eq hsub ?_)
    rw [if_neg (by decide)]
    refine wpAny_bind (m := someArgs _ _ _ _) (wpAny_pure ?_)
    dsimp only
    refine wpAny_bind (fset_truthy h.1 hn fun b tk hb => ?_)
    exact wpAny_pure ⟨_, rfl, h.2 b tk hb⟩
theorem bool_fset {a : Addr} {o : Obj} {S : Str → Bool} {n : Nat} {Q : Value → Shared → Prop} (N : News h₀ L s.heap news) (ha : (a, o) ∈ news) (f : FSetObj prog w o S n) (hn : n < 4096)
    (h : ∀ b tk, (b = true ↔ ∃ x, S x = true) → Q (.bool b) { s with toks := tk }) :
    wpAny (model prog w) A (call (.type "bool") [.ref a]) Q E s :=
  callType_newIn F.called_bool F.newNe_bool (F.typeCall_bool_1 _) (F.newCall_bool_1 _) (fun obj => F.args_object_init_2 obj _) F.entry_bool_new (bool_new_fset a S n hn)
    ⟨f.at (N _ ha).1, fun b tk hb => ⟨rfl, h b tk hb⟩⟩
theorem bool_fset0 {a : Addr} {o : Obj} {n : Nat} {Q : Value → Shared → Prop} (N : News h₀ L s.heap news) (ha : (a, o) ∈ news) (f : FSetObj prog w o (fun x => decide (x ∈ ([] : List Str))) n) (hn : n < 4096)
    (h : ∀ tk, Q (.bool false) { s with toks := tk }) :
    wpAny (model prog w) A (call (.type "bool") [.ref a]) Q E s :=
  bool_fset N ha f hn fun b tk hb => by
    cases b with
    | false => exact h tk
    | true => obtain ⟨x, hx⟩ := hb.mp rfl; simp at hx
theorem truthy_fset0 {a : Addr} {o : Obj} {n : Nat} {Q : Bool → Shared → Prop} (N : News h₀ L s.heap news) (ha : (a, o) ∈ news) (f : FSetObj prog w o (fun x => decide (x ∈ ([] : List Str))) n) (hn : n < 4096)
    (h : ∀ tk, Q false { s with toks := tk }) :
    wpAny (model prog w) A (truthy (.ref a)) Q E s :=
  fset_truthy_K N ha f hn fun b tk hb => by
    cases b with
    | false => exact h tk
    | true => obtain ⟨x, hx⟩ := hb.mp rfl; simp at hx
theorem anyIn {xs : List Str} {b : Bool} (h : b = true ↔ ∃ x, decide (x ∈ xs) = true) : b = (!xs.isEmpty) := by
  cases xs with
  | nil =>
    cases b with
    | false => rfl
    | true => obtain ⟨x, hx⟩ := h.mp rfl; simp at hx
  | cons a l => rw [h.mpr ⟨a, by simp⟩]; rfl
theorem bool_fsetL {a : Addr} {o : Obj} {n : Nat} {xs : List Str} {Q : Value → Shared → Prop} (N : News h₀ L s.heap news) (ha : (a, o) ∈ news) (f : FSetObj prog w o (fun x => decide (x ∈ xs)) n) (hn : n < 4096)
    (h : ∀ tk, Q (.bool (!xs.isEmpty)) { s with toks := tk }) :
    wpAny (model prog w) A (call (.type "bool") [.ref a]) Q E s :=
  bool_fset N ha f hn fun b tk hb => by rw [anyIn hb]; exact h tk
theorem truthy_fsetL {a : Addr} {o : Obj} {n : Nat} {xs : List Str} {Q : Bool → Shared → Prop} (N : News h₀ L s.heap news) (ha : (a, o) ∈ news) (f : FSetObj prog w o (fun x => decide (x ∈ xs)) n) (hn : n < 4096)
    (h : ∀ tk, Q (!xs.isEmpty) { s with toks := tk }) :
    wpAny (model prog w) A (truthy (.ref a)) Q E s :=
  fset_truthy_K N ha f hn fun b tk hb => by rw [anyIn hb]; exact h tk
end
theorem mrA {t : Str} {W S : List Str} (h : t ∈ W) : (!decide (t ∈ W)) = (!(decide (t ∈ W) || decide (t ∈ S))) := by simp [h]
theorem mrB {t : Str} {W S : List Str} (h : ¬ t ∈ W) : (!decide (t ∈ S)) = (!(decide (t ∈ W) || decide (t ∈ S))) := by simp [h]
theorem mrC {t : Str} {W S : List Str} (h1 : W.isEmpty = true) (h2 : S.isEmpty = true) : (!false) = (!(decide (t ∈ W) || decide (t ∈ S))) := by
  cases W with
  | nil =>
    cases S with
    | nil => rfl
    | cons a l => cases h2
  | cons a l => cases h1
theorem mrN {told : List (Nat × Str)} (hn : told ≠ []) (h1 : (weaks told).isEmpty = true) (h2 : (strongs told).isEmpty = true) : False := by
  cases told with
  | nil => exact hn rfl
  | cons a l =>
    by_cases e : a.1 = 0
    · simp [strongs, e] at h2
    · simp [weaks, e] at h1
end Mine
end
section
open PySem PySem.W PyProof.Rows
namespace Mine

theorem anyAround {M : Model} {A : Around} {c : Code} {R : Result → Shared → Prop} {s : Shared} {outer : List Env} (hh : A.handled = none) (hf : A.frames = some outer)
    (h : ∀ ad ag au, A = ⟨none, ad, some outer, ag, au⟩ → codeAny M ⟨none, ad, some outer, ag, au⟩ c R s) : codeAny M A c R s := by
  obtain ⟨a, b, c', d, e⟩ := A
  cases hh; cases hf
  exact h _ _ _ rfl

/-- a text that tells tags -/
structure ToldText (x : Str) (told : List (Nat × Str)) : Prop where
  small : x.length ≤ 10000
  pos : 1 ≤ x.length
  star : (x == Str.ofString "*") = false
  noquote : ∀ t ∈ told, ∀ c ∈ t.2.cps.toList, c ≠ 34
  some_ : ∀ t ∈ told, 1 ≤ t.2.length
  ne : told ≠ []
  few : told.length ≤ 100
  is : ∃ w1 w2, (∀ c ∈ w1, isWs c) ∧ (∀ c ∈ w2, isWs c) ∧ x.cps.toList = restL w1 w2 (bare told)

section
variable {w : World} {A₀ A : Around} {s : Shared} {base h₀ : Heap} {outer : List Env} {L : Addr} {m : Str → Option Value} {env : Env} {news : List (Addr × Obj)}
  {lz : List Str} {mean : ExcName → Option Value} {mg mb : Str → Option Value} {Q : Value → Shared → Prop} {E : Value → Shared → Prop}

theorem belowAt (B : Below A₀ base outer h₀) (F : Fr h₀ L s.heap m) (hA : A.frames = some (env :: outer)) (hf : env.frame = some L) (hke : env.scope.kind = .function) : Below A base (env :: outer) s.heap := by
  have := pushX B F hf hke
  exact ⟨hA, this.stays, this.frames⟩

/-- a pure contract in a walk -/
theorem pureK {f : Value} {pos : List Value} {kw : List (Str × Value)} {R : Value → Heap → Prop} (F : Fr h₀ L s.heap m) (N : News h₀ L s.heap news)
    (hc : codeAny (model PySem.Challenge.rw_ez0420_01.row.prog w) A (.call f ⟨pos, kw⟩) (PureR s R) s)
    (h : ∀ v h' tk, Fr h₀ L h' m → News h₀ L h' news → R v h' → Q v { s with heap := h', toks := tk }) :
    wpAny (model PySem.Challenge.rw_ez0420_01.row.prog w) A (call f pos kw) Q E s := by
  refine wpAny_call (codeAny_mono hc ?_)
  rintro r s' ⟨v, h', tk, rfl, rfl, k, r⟩
  exact h v h' tk (frGrow F k) (newsGrow N k) r

theorem etagsJoin {h h' : Heap} {v : Value} {S W : List Str} (F : Fr h₀ L h m) (N : News h₀ L h' news) (f : EtagsAt PySem.Challenge.rw_ez0420_01.row.prog w h h' v S W) :
    ∃ (e d a b : Addr) (oa ob : Obj) (t1 t2 t3 n nS nW : Nat), v = .ref e ∧
      News h₀ L h' ((e, instObj 207 d) :: (d, dictOf [⟨PyData.keyHash w.params (Str.ofString "_strong"), .str (Str.ofString "_strong") t1, .ref a⟩, ⟨PyData.keyHash w.params (Str.ofString "_weak"), .str (Str.ofString "_weak") t2, .ref b⟩, ⟨PyData.keyHash w.params (Str.ofString "star_tag"), .str (Str.ofString "star_tag") t3, .bool false⟩] n) :: (a, oa) :: (b, ob) :: news) ∧
      FSetObj PySem.Challenge.rw_ez0420_01.row.prog w oa (fun x => decide (x ∈ S)) nS ∧ FSetObj PySem.Challenge.rw_ez0420_01.row.prog w ob (fun x => decide (x ∈ W)) nW ∧ nS ≤ 1000 ∧ nW ≤ 1000 := by
  obtain ⟨e, d, a, b, oa, ob, t1, t2, t3, n, nS, nW, rfl, g, r⟩ := f
  refine ⟨e, d, a, b, oa, ob, t1, t2, t3, n, nS, nW, rfl, ?_, r⟩
  have g1 := g _ (.head _)
  have g2 := g _ (.tail _ (.head _))
  have g3 := g _ (.tail _ (.tail _ (.head _)))
  have g4 := g _ (.tail _ (.tail _ (.tail _ (.head _))))
  exact newsJoin F (newsJoin F (newsJoin F (newsJoin F N g4.1 g4.2) g3.1 g3.2) g2.1 g2.2) g1.1 g1.2

theorem etags_someK {x : Str} {t : Tok} {told : List (Nat × Str)} (B : Below A₀ base outer h₀) (F : Fr h₀ L s.heap m) (N : News h₀ L s.heap news) (X : (hd1.heap_39 w.params).In h₀) (T : Top hd1.view_39 lz mean mg mb h₀) (HP : PatAt h₀ 85 etagCode 3 0)
    (hA : A.frames = some (env :: outer)) (hf : env.frame = some L) (hke : env.scope.kind = .function) (hh : A.handled = none) (hd : A.depth < 500) (hu : A.units < 500) (ht : ToldText x told)
    (h : ∀ (h' : Heap) (tk : Nat) (e d a b : Addr) (oa ob : Obj) (t1 t2 t3 n nS nW : Nat), Fr h₀ L h' m →
      News h₀ L h' ((e, instObj 207 d) :: (d, dictOf [⟨PyData.keyHash w.params (Str.ofString "_strong"), .str (Str.ofString "_strong") t1, .ref a⟩, ⟨PyData.keyHash w.params (Str.ofString "_weak"), .str (Str.ofString "_weak") t2, .ref b⟩, ⟨PyData.keyHash w.params (Str.ofString "star_tag"), .str (Str.ofString "star_tag") t3, .bool false⟩] n) :: (a, oa) :: (b, ob) :: news) →
      FSetObj PySem.Challenge.rw_ez0420_01.row.prog w oa (fun x => decide (x ∈ strongs told)) nS → FSetObj PySem.Challenge.rw_ez0420_01.row.prog w ob (fun x => decide (x ∈ weaks told)) nW → nS ≤ 1000 → nW ≤ 1000 → Q (.ref e) { s with heap := h', toks := tk }) :
    wpAny (model PySem.Challenge.rw_ez0420_01.row.prog w) A (call (.ref 92) [.str x t]) Q E s := by
  have B' := belowAt (s := s) B F hA hf hke
  obtain ⟨w1, w2, h1, h2, h3⟩ := ht.is
  refine pureK (R := fun v h => EtagsAt PySem.Challenge.rw_ez0420_01.row.prog w s.heap h v (strongs told) (weaks told)) F N (anyAround hh hA fun ad ag au e => ?_) fun v h' tk F' N' f => ?_
  · subst e
    exact parse_etags_some B' (X.keeps F.keep) (T.keeps F.keep) hd hu ht.small ht.star h1 h2 ht.noquote ht.some_ ht.ne ht.few h3 (HP.keeps F.keep) ht.pos
  · obtain ⟨e, d, a, b, oa, ob, t1, t2, t3, n, nS, nW, rfl, g, f1, f2, f3, f4⟩ := etagsJoin F N' f
    exact h h' tk e d a b oa ob t1 t2 t3 n nS nW F' g f1 f2 f3 f4
theorem etags_noneK (B : Below A₀ base outer h₀) (F : Fr h₀ L s.heap m) (N : News h₀ L s.heap news) (X : (hd1.heap_39 w.params).In h₀) (T : Top hd1.view_39 lz mean mg mb h₀)
    (hA : A.frames = some (env :: outer)) (hf : env.frame = some L) (hke : env.scope.kind = .function) (hh : A.handled = none) (hd : A.depth < 500) (hu : A.units < 500)
    (h : ∀ (h' : Heap) (tk : Nat) (e d a b : Addr) (oa ob : Obj) (t1 t2 t3 n nS nW : Nat), Fr h₀ L h' m →
      News h₀ L h' ((e, instObj 207 d) :: (d, dictOf [⟨PyData.keyHash w.params (Str.ofString "_strong"), .str (Str.ofString "_strong") t1, .ref a⟩, ⟨PyData.keyHash w.params (Str.ofString "_weak"), .str (Str.ofString "_weak") t2, .ref b⟩, ⟨PyData.keyHash w.params (Str.ofString "star_tag"), .str (Str.ofString "star_tag") t3, .bool false⟩] n) :: (a, oa) :: (b, ob) :: news) →
      FSetObj PySem.Challenge.rw_ez0420_01.row.prog w oa (fun x => decide (x ∈ ([] : List Str))) nS → FSetObj PySem.Challenge.rw_ez0420_01.row.prog w ob (fun x => decide (x ∈ ([] : List Str))) nW → nS ≤ 1000 → nW ≤ 1000 → Q (.ref e) { s with heap := h', toks := tk }) :
    wpAny (model PySem.Challenge.rw_ez0420_01.row.prog w) A (call (.ref 92) [.none]) Q E s := by
  have B' := belowAt (s := s) B F hA hf hke
  refine pureK (R := fun v h => EtagsAt PySem.Challenge.rw_ez0420_01.row.prog w s.heap h v [] []) F N (anyAround hh hA fun ad ag au e => ?_) fun v h' tk F' N' f => ?_
  · subst e
    exact parse_etags_none B' (X.keeps F.keep) (T.keeps F.keep) hd hu
  · obtain ⟨e, d, a, b, oa, ob, t1, t2, t3, n, nS, nW, rfl, g, f1, f2, f3, f4⟩ := etagsJoin F N' f
    exact h h' tk e d a b oa ob t1 t2 t3 n nS nW F' g f1 f2 f3 f4
end
end Mine
end
section
open PySem PySem.W PyProof.Rows
namespace Mine
local macro_rules | `(tactic| walk_at "mine pad 0") => `(tactic| fail "pad")
local macro_rules | `(tactic| walk_at "mine pad 1") => `(tactic| fail "pad")
local macro_rules | `(tactic| walk_at "mine pad 2") => `(tactic| fail "pad")
local macro_rules | `(tactic| walk_at "mine pad 3") => `(tactic| fail "pad")
local macro_rules | `(tactic| walk_at "mine pad 4") => `(tactic| fail "pad")
local macro_rules | `(tactic| walk_at "mine pad 5") => `(tactic| fail "pad")
local macro_rules | `(tactic| walk_at "mine pad 6") => `(tactic| fail "pad")
local macro_rules | `(tactic| walk_at "mine pad 7") => `(tactic| fail "pad")
local macro_rules | `(tactic| walk_at "mine pad 8") => `(tactic| fail "pad")
local macro_rules | `(tactic| walk_at "mine pad 9") => `(tactic| fail "pad")
local macro_rules | `(tactic| walk_at "mine pad 10") => `(tactic| fail "pad")
local macro_rules | `(tactic| walk_at "mine pad 11") => `(tactic| fail "pad")
local macro_rules | `(tactic| walk_at "mine pad 12") => `(tactic| fail "pad")
local macro_rules | `(tactic| walk_at "mine pad 13") => `(tactic| fail "pad")
local macro_rules | `(tactic| walk_at "mine pad 14") => `(tactic| fail "pad")
local macro_rules | `(tactic| walk_at "mine pad 15") => `(tactic| fail "pad")
local macro_rules | `(tactic| walk_at "mine pad 16") => `(tactic| fail "pad")
local macro_rules | `(tactic| walk_at "mine pad 17") => `(tactic| fail "pad")
local macro_rules | `(tactic| walk_at "mine pad 18") => `(tactic| fail "pad")
local macro_rules | `(tactic| walk_at "mine pad 19") => `(tactic| fail "pad")
local macro_rules | `(tactic| walk_at "mine pad 20") => `(tactic| fail "pad")
local macro_rules | `(tactic| walk_at "mine pad 21") => `(tactic| fail "pad")
local macro_rules | `(tactic| walk_at "mine pad 22") => `(tactic| fail "pad")
local macro_rules | `(tactic| walk_at "mine pad 23") => `(tactic| fail "pad")
local macro_rules | `(tactic| walk_at "mine pad 24") => `(tactic| fail "pad")
local macro_rules | `(tactic| walk_at "mine pad 25") => `(tactic| fail "pad")
local macro_rules | `(tactic| walk_at "mine pad 26") => `(tactic| fail "pad")
local macro_rules | `(tactic| walk_at "mine pad 27") => `(tactic| fail "pad")
local macro_rules | `(tactic| walk_at "mine pad 28") => `(tactic| fail "pad")
local macro_rules | `(tactic| walk_at "mine pad 29") => `(tactic| fail "pad")
local macro_rules | `(tactic| walk_at "mine pad 30") => `(tactic| fail "pad")
local macro_rules | `(tactic| walk_at "mine pad 31") => `(tactic| fail "pad")
local macro_rules | `(tactic| walk_at "mine pad 32") => `(tactic| fail "pad")
local macro_rules | `(tactic| walk_at "mine pad 33") => `(tactic| fail "pad")
local macro_rules | `(tactic| walk_at "mine pad 34") => `(tactic| fail "pad")
local macro_rules | `(tactic| walk_at "mine pad 35") => `(tactic| fail "pad")
local macro_rules | `(tactic| walk_at "mine pad 36") => `(tactic| fail "pad")
local macro_rules | `(tactic| walk_at "mine pad 37") => `(tactic| fail "pad")
local macro_rules | `(tactic| walk_at "mine pad 38") => `(tactic| fail "pad")
local macro_rules | `(tactic| walk_at "mine pad 39") => `(tactic| fail "pad")
local macro_rules | `(tactic| walk_at "mine pad 40") => `(tactic| fail "pad")
local macro_rules | `(tactic| walk_at "mine pad 41") => `(tactic| fail "pad")
local macro_rules | `(tactic| walk_at "mine pad 42") => `(tactic| fail "pad")
local macro_rules | `(tactic| walk_at "mine pad 43") => `(tactic| fail "pad")
local macro_rules | `(tactic| walk_at "exec While") => `(tactic| (k_here; refine Mine.Stop.go ?_))
local macro_rules | `(tactic| k_room) => `(tactic| ((try simp only [depth_under_make, depth_under_kw, depth_in1, depth_deeper, depth_caller]); show _ < 1000; omega))
local macro_rules | `(tactic| k_units) => `(tactic| (show _ < 9900; (try simp only [Around.in1_units, Around.deeper_units, Around.mark_units]); omega))
local macro_rules | `(tactic| walk_at "call type:frozenset nil nil") => `(tactic| (k_here; k_dflt (refine' fset0_K' ?F ?N ?_; (case F => k_asm); (case N => k_asm); k_whole); intro a' h' o' F' N' S' l1; (try k_lt l1); (try k_sweep)))
local macro_rules | `(tactic| walk_at "call type:frozenset cons nil") => `(tactic| (k_here; k_dflt (first
  | (refine' fsetL_K ?F ?N ?m ?x ?hh ?hb ?_; (case F => k_asm); (case N => k_asm); (case m => k_mem); (case x => assumption); (case hh => rfl); (case hb => omega); k_whole)
  | (refine' fsetT_K ?F ?N ?t ?hh ?_; (case F => k_asm); (case N => k_asm); (case t => exact ⟨_, News.get (by k_asm) (by k_mem), rfl, _, rfl⟩); (case hh => rfl); k_whole)); intro a' h' tk' o' F' N' S' l1; (try k_lt l1); (try k_sweep)))
local macro_rules | `(tactic| walk_at "truthy ref") => `(tactic| (k_here; k_dflt (refine' fset_truthy_K ?N ?m ?f ?hn ?_; (case N => k_asm); (case m => k_mem); (case f => assumption); (case hn => omega); k_whole); intro b' tk' hb'))
local macro_rules | `(tactic| walk_at "compareOp In str ref") => `(tactic| (k_here; k_dflt (refine' fset_in_K ?N ?m ?f ?hn ?_; (case N => k_asm); (case m => k_mem); (case f => assumption); (case hn => omega); k_whole); intro tk'))
local macro_rules | `(tactic| walk_at "getMethod ref") => `(tactic| (k_here; k_dflt (first
  | (refine' meth_pattern ?P slot_pattern_match type_pattern_match ?_; (case P => exact PatAt.keeps (by assumption) (Fr.keep (by k_asm))); k_whole)
  | (refine' meth_match ?f slot_match_groups type_match_groups ?_; (case f => exact foundN (by k_asm) (by k_mem) (by k_mem)); k_whole)
  | (refine' meth_match ?f slot_match_end type_match_end ?_; (case f => exact foundN (by k_asm) (by k_mem) (by k_mem)); k_whole))))
local macro_rules | `(tactic| walk_at "call builtin:re.Pattern.match") => `(tactic| (k_here; k_dflt (first
  | (refine' matchK_yes ?F ?N ?P ?g ?hp ?hx ?hm ?hk ?ok ?len ?_; (case F => k_asm); (case N => k_asm); (case hm => assumption); (case P => assumption); (case g => rfl); (case hp => omega); (case hx => omega); (case hk => decide); (case ok => assumption); (case len => exact Nat.le_of_ble_eq_true rfl); k_whole; intro a' T' h' F' N' l1 l2; (try k_lt l1); (try k_lt2 l2); (try k_sweep))
  | (refine' matchK_no ?F ?P ?hp ?hx ?hm ?hk ?_; (case F => k_asm); (case hm => assumption); (case P => assumption); (case hp => omega); (case hx => omega); (case hk => decide); k_whole))))
local macro_rules | `(tactic| walk_at "call builtin:re.Match.groups") => `(tactic| (k_here; k_dflt (refine' groupsK3 ?F ?N ?f ?hx ?_; (case F => k_asm); (case N => k_asm); (case f => exact foundN (by k_asm) (by k_mem) (by k_mem)); (case hx => omega); k_whole); intro T' t1' t2' t3' h' tk' F' N' l1; (try dsimp only [partOf] at N'); (try k_lt l1); (try k_sweep)))
local macro_rules | `(tactic| walk_at "call builtin:re.Match.end") => `(tactic| (k_here; k_dflt (refine' endK ?f ?_; (case f => exact foundN (by k_asm) (by k_mem) (by k_mem)); k_whole)))
local macro_rules | `(tactic| walk_at "truthy str") => `(tactic| (k_here; k_dflt (refine' truthy_text ?a ?b ?_; (case a => omega); (case b => omega); k_whole); intro tk'))
local macro_rules | `(tactic| walk_at "truthy ref") => `(tactic| (k_here; k_dflt (refine' truthy_listK ?N ?m ?hb ?_; (case N => k_asm); (case m => k_mem); (case hb => omega); k_whole); intro tk'))
local macro_rules | `(tactic| walk_at "call ref") => `(tactic| (k_here; k_dflt (first
  | (refine' etags_someK ?B ?F ?N ?X ?T ?P ?hA ?hf ?hke ?hh ?hd ?hu ?ht ?_; (case ht => assumption); (case hA => exact rfl); (case hf => exact rfl); (case hke => exact rfl); (case B => k_asm); (case F => k_asm); (case N => k_asm); (case X => k_asm); (case T => k_asm); (case P => first | assumption | exact PatAt.keeps (by assumption) (Fr.keep (by k_asm))); (case hh => rfl); (case hd => ((try simp only [depth_in1, depth_deeper, depth_caller]); show _ < 500; omega)); (case hu => ((try simp only [Around.in1_units, Around.deeper_units]); show _ < 500; omega)); k_whole; intro h' tk' e' d' a' b' oa' ob' t1' t2' t3' n' nS' nW' F' N' f1' f2' f3' f4'; (try k_sweep))
  | (refine' etags_noneK ?B ?F ?N ?X ?T ?hA ?hf ?hke ?hh ?hd ?hu ?_; (case hA => exact rfl); (case hf => exact rfl); (case hke => exact rfl); (case B => k_asm); (case F => k_asm); (case N => k_asm); (case X => k_asm); (case T => k_asm); (case hh => rfl); (case hd => ((try simp only [depth_in1, depth_deeper, depth_caller]); show _ < 500; omega)); (case hu => ((try simp only [Around.in1_units, Around.deeper_units]); show _ < 500; omega)); k_whole; intro h' tk' e' d' a' b' oa' ob' t1' t2' t3' n' nS' nW' F' N' f1' f2' f3' f4'; (try k_sweep)))))
local macro_rules | `(tactic| walk_at "call builtin:str.startswith") => `(tactic| (k_here; k_dflt (refine' startswith_tup ?h ?_; (case h => exact ⟨_, News.get (by k_asm) (by k_mem), rfl, _, rfl⟩); k_whole)))
local macro_rules | `(tactic| walk_at "call builtin:str.endswith") => `(tactic| (k_here; k_dflt (refine' ends_true ?h ?_; (case h => assumption); k_whole)))
local macro_rules | `(tactic| walk_at "call type:bool") => `(tactic| (k_here; k_dflt (refine' bool_fsetL ?N ?m ?f ?hn ?_; (case N => k_asm); (case m => k_mem); (case f => with_reducible assumption); (case hn => omega); k_whole); intro tk'))
local macro_rules | `(tactic| walk_at "truthy ref") => `(tactic| (k_here; k_dflt (refine' truthy_fsetL ?N ?m ?f ?hn ?_; (case N => k_asm); (case m => k_mem); (case f => with_reducible assumption); (case hn => omega); k_whole); intro tk'))
local macro_rules | `(tactic| walk_at "call type:bool") => `(tactic| (k_here; k_dflt (refine' bool_fset0 ?N ?m ?f ?hn ?_; (case N => k_asm); (case m => k_mem); (case f => with_reducible assumption); (case hn => omega); k_whole); intro tk'))
local macro_rules | `(tactic| walk_at "truthy ref") => `(tactic| (k_here; k_dflt (refine' truthy_fset0 ?N ?m ?f ?hn ?_; (case N => k_asm); (case m => k_mem); (case f => with_reducible assumption); (case hn => omega); k_whole); intro tk'))

theorem mod_read {w : World} {ad : Nat} {ag : Option (List Code)} {au : Nat} {base : Heap} {outer : List Env} {s : Shared} {lz : List Str} {mean : ExcName → Option Value} {mg mb : Str → Option Value} {x y tag : Str} {t u : Tok} {told : List (Nat × Str)}
    (B : Below ⟨none, ad, some outer, ag, au⟩ base outer s.heap) (X : (hd1.heap_39 w.params).In s.heap) (T : Top hd1.view_39 lz mean mg mb s.heap) (hA : ad < 450) (hu : au < 450) (ht : ToldText x told) (HP : PatAt s.heap 85 etagCode 3 0) (hy : QTag y tag) :
    codeAny (model PySem.Challenge.rw_ez0420_01.row.prog w) ⟨none, ad, some outer, ag, au⟩ (.call (.ref 325) ⟨[], [("http_if_none_match", .str x t), ("etag", .str y u)]⟩) (PureR s fun v h => v = .bool (!(decide (tag ∈ weaks told) || decide (tag ∈ strongs told)))) s := by
  revert X; k_fill; intro X
  refine' enterB (binds := [("http_range", .none), ("http_if_range", .none), ("http_if_none_match", .str x t), ("http_if_match", .none), ("etag", .str y u), ("ignore_if_range", .bool true)]) B X T.nolimit ?k1 ?k6 ?k7 ?k9 ?kB ?c2 ?c3 ?c4 ?c5 ?_
  case k6 => k_is
  case k7 => k_is
  case k1 => show _ < 1000; omega
  case k9 => first | exact BindsTo.of_eq rfl | exact binds_K (by k_in) rfl (by k_is) rfl rfl rfl | fail "k_enter: no rule for these arguments"
  case kB => exact locs rfl
  case c2 => exact rfl
  case c3 => exact rfl
  case c4 => exact rfl
  case c5 => decide
  intro L' h' F' N' B'
  (try dsimp only)
  (try k_fold)
  obtain ⟨hy1, hy2, hy3, hy4, hy5, hy6⟩ := hy
  have hx1 := ht.pos
  have hx2 := ht.small
  k_steps
  all_goals (refine PureR.intro (by assumption) ?_)
  all_goals (subst hy6)
  all_goals (first | exact congrArg Value.bool (mrA (by assumption)) | exact congrArg Value.bool (mrB (by assumption)) | exact congrArg Value.bool (mrC (by assumption) (by assumption)))

theorem mod_none {w : World} {ad : Nat} {ag : Option (List Code)} {au : Nat} {base : Heap} {outer : List Env} {s : Shared} {lz : List Str} {mean : ExcName → Option Value} {mg mb : Str → Option Value} {y tag : Str} {u : Tok}
    (B : Below ⟨none, ad, some outer, ag, au⟩ base outer s.heap) (X : (hd1.heap_39 w.params).In s.heap) (T : Top hd1.view_39 lz mean mg mb s.heap) (hA : ad < 450) (hu : au < 450) (hy : QTag y tag) :
    codeAny (model PySem.Challenge.rw_ez0420_01.row.prog w) ⟨none, ad, some outer, ag, au⟩ (.call (.ref 325) ⟨[], [("http_if_none_match", .none), ("etag", .str y u)]⟩) (PureR s fun v h => v = .bool true) s := by
  revert X; k_fill; intro X
  refine' enterB (binds := [("http_range", .none), ("http_if_range", .none), ("http_if_none_match", .none), ("http_if_match", .none), ("etag", .str y u), ("ignore_if_range", .bool true)]) B X T.nolimit ?k1 ?k6 ?k7 ?k9 ?kB ?c2 ?c3 ?c4 ?c5 ?_
  case k6 => k_is
  case k7 => k_is
  case k1 => show _ < 1000; omega
  case k9 => first | exact BindsTo.of_eq rfl | exact binds_K (by k_in) rfl (by k_is) rfl rfl rfl | fail "k_enter: no rule for these arguments"
  case kB => exact locs rfl
  case c2 => exact rfl
  case c3 => exact rfl
  case c4 => exact rfl
  case c5 => decide
  intro L' h' F' N' B'
  (try dsimp only)
  (try k_fold)
  obtain ⟨hy1, hy2, hy3, hy4, hy5, hy6⟩ := hy
  k_steps
  all_goals exact PureR.intro (by assumption) rfl

theorem mod_write {w : World} {ad : Nat} {ag : Option (List Code)} {au : Nat} {base : Heap} {outer : List Env} {s : Shared} {lz : List Str} {mean : ExcName → Option Value} {mg mb : Str → Option Value} {x y tag : Str} {t u : Tok} {told : List (Nat × Str)}
    (B : Below ⟨none, ad, some outer, ag, au⟩ base outer s.heap) (X : (hd1.heap_39 w.params).In s.heap) (T : Top hd1.view_39 lz mean mg mb s.heap) (hA : ad < 450) (hu : au < 450) (ht : ToldText x told) (HP : PatAt s.heap 85 etagCode 3 0) (hy : QTag y tag) :
    codeAny (model PySem.Challenge.rw_ez0420_01.row.prog w) ⟨none, ad, some outer, ag, au⟩ (.call (.ref 325) ⟨[], [("http_if_match", .str x t), ("etag", .str y u)]⟩) (PureR s fun v h => v = .bool (decide (tag ∈ strongs told))) s := by
  revert X; k_fill; intro X
  refine' enterB (binds := [("http_range", .none), ("http_if_range", .none), ("http_if_none_match", .none), ("http_if_match", .str x t), ("etag", .str y u), ("ignore_if_range", .bool true)]) B X T.nolimit ?k1 ?k6 ?k7 ?k9 ?kB ?c2 ?c3 ?c4 ?c5 ?_
  case k6 => k_is
  case k7 => k_is
  case k1 => show _ < 1000; omega
  case k9 => first | exact BindsTo.of_eq rfl | exact binds_K (by k_in) rfl (by k_is) rfl rfl rfl | fail "k_enter: no rule for these arguments"
  case kB => exact locs rfl
  case c2 => exact rfl
  case c3 => exact rfl
  case c4 => exact rfl
  case c5 => decide
  intro L' h' F' N' B'
  (try dsimp only)
  (try k_fold)
  obtain ⟨hy1, hy2, hy3, hy4, hy5, hy6⟩ := hy
  have hx1 := ht.pos
  have hx2 := ht.small
  k_steps
  all_goals (refine PureR.intro (by assumption) ?_)
  all_goals (subst hy6)
  all_goals (first | exact congrArg Value.bool (Bool.not_not _) | exact (mrN ht.ne (by assumption) (by assumption)).elim)

theorem mod_range {w : World} {ad : Nat} {ag : Option (List Code)} {au : Nat} {base : Heap} {outer : List Env} {s : Shared} {lz : List Str} {mean : ExcName → Option Value} {mg mb : Str → Option Value} {x y q tag tag2 : Str} {t u t2 : Tok}
    (B : Below ⟨none, ad, some outer, ag, au⟩ base outer s.heap) (X : (hd1.heap_39 w.params).In s.heap) (T : Top hd1.view_39 lz mean mg mb s.heap) (hA : ad < 450) (hu : au < 450) (hy : QTag y tag) (hq : QTag q tag2) :
    codeAny (model PySem.Challenge.rw_ez0420_01.row.prog w) ⟨none, ad, some outer, ag, au⟩ (.call (.ref 325) ⟨[], [("http_range", .str x t), ("http_if_range", .str q t2), ("etag", .str y u), ("ignore_if_range", .bool false)]⟩) (PureR s fun v h => v = .bool (!(tag2 == tag))) s := by
  revert X; k_fill; intro X
  refine' enterB (binds := [("http_range", .str x t), ("http_if_range", .str q t2), ("http_if_none_match", .none), ("http_if_match", .none), ("etag", .str y u), ("ignore_if_range", .bool false)]) B X T.nolimit ?k1 ?k6 ?k7 ?k9 ?kB ?c2 ?c3 ?c4 ?c5 ?_
  case k6 => k_is
  case k7 => k_is
  case k1 => show _ < 1000; omega
  case k9 => first | exact BindsTo.of_eq rfl | exact binds_K (by k_in) rfl (by k_is) rfl rfl rfl | fail "k_enter: no rule for these arguments"
  case kB => exact locs rfl
  case c2 => exact rfl
  case c3 => exact rfl
  case c4 => exact rfl
  case c5 => decide
  intro L' h' F' N' B'
  (try dsimp only)
  (try k_fold)
  obtain ⟨hy1, hy2, hy3, hy4, hy5, hy6⟩ := hy
  obtain ⟨hq1, hq2, hq3, hq4, hq5, hq6⟩ := hq
  k_steps
  all_goals (subst hy6; subst hq6; exact PureR.intro (by assumption) rfl)
end Mine
end
section
namespace Mine
open PySem PySem.W PyProof.Rows
open PySem.Builtin.Re

section
variable {M : Model} {A : Around} {E : Value → Shared → Prop} {s : Shared} {P : Addr} {code : Array Nat} {groups : Nat}
/-- pattern.method(text) -/
theorem wp_target0 {id f : String} {x : Str} {t : Tok} {Q : ReTarget → Shared → Prop} (hP : PatAt s.heap P code groups 0) (hx : x.cps.size < 2 ^ 63)
    (h : Q { pattern := .ref P, string := .str x t, code, text := x.cps, kind := 0, groups, pos := 0, lim := x.cps.size } s) :
    wpAny M A (reTarget id f ⟨[.ref P, .str x t], []⟩) Q E s := by
  obtain ⟨o, fs, C, oc, items, n, h1, h2, h3, h4, h5, h6, h7, h8, h9, h10⟩ := hP.at_
  have e : reNamed id f ["string", "pos", "endpos"] 1 [.str x t] [] = pure [some (.str x t), none, none] := rfl
  unfold reTarget
  dsimp only
  rw [e]
  refine wpAny_bind (wpAny_pure ?_)
  refine wpAny_bind (wpAny_pure ?_)
  refine wpAny_bind (wpAny_pure ?_)
  refine wpAny_bind (wpAny_fieldsOf h1 h4 ?_)
  refine wpAny_bind (m := reTextOf (.str x t)) (wpAny_pure ?_)
  dsimp only
  rw [h10, if_neg (by decide), if_neg (by decide)]
  refine wpAny_bind (m := reNoCollectionInside (.str x t) 0) (wpAny_pure ?_)
  rw [h5]
  refine wpAny_bind (wp_rawItems h6 h7 (wpAny_pure ?_))
  rw [h8, h9]
  have e1 : min (0 : Int).toNat x.cps.size = 0 := by simp
  have e2 : min ((2 ^ 63 - 1 : Int)).toNat x.cps.size = x.cps.size := by omega
  rw [e1, e2]
  exact h

theorem wp_run_c {m : Sre.M} {n : Nat} {Q : Option Sre.M → Shared → Prop} (q : (Sre.M.runFor n m).outcome = some .matched) (hn : n ≤ 4 * 2 ^ 64) (hQ : Q (some (Sre.M.runFor n m)) s) :
    wpAny M A (Builtin.Re.reRunToEnd m) Q E s := by
  unfold Builtin.Re.reRunToEnd
  refine wpAny_bind (wp_reDrive _ n m (by rw [q]; rfl) (by omega) (Nat.two_pow_pos 64) ?_)
  refine wpAny_bind (wp_rules ?_ _)
  rw [q]
  exact wpAny_pure hQ
end
section
variable {prog : Program} {w : World} {A : Around} {E : Value → Shared → Prop} {s : Shared} {P : Addr} {code : Array Nat} {h₀ : Heap} {L : Addr} {m : Str → Option Value} {news : List (Addr × Obj)}

theorem fullK_c {x : Str} {t : Tok} {n st en : Nat} {li : Int} {Q : Value → Shared → Prop} (F : Fr h₀ L s.heap m) (N : News h₀ L s.heap news) (hP : PatAt h₀ P code 0 0) (hx : x.cps.size < 2 ^ 62)
    (hn : n ≤ 1000) (h0 : (Sre.M.runFor n (Sre.forMatch code x.cps 0 0 x.cps.size true false)).outcome = some .matched)
    (h1 : (Sre.M.runFor n (Sre.forMatch code x.cps 0 0 x.cps.size true false)).start = st) (h2 : (Sre.M.runFor n (Sre.forMatch code x.cps 0 0 x.cps.size true false)).handed = en)
    (h3 : (Sre.M.runFor n (Sre.forMatch code x.cps 0 0 x.cps.size true false)).lastindex = li)
    (h : ∀ a h', Fr h₀ L h' m → News h₀ L h' news → Q (.ref a) { s with heap := h' }) :
    wpAny (model prog w) A (call (.builtin "re.Pattern.fullmatch") [.ref P, .str x t]) Q E s := by
  have hP' := hP.keeps F.keep
  refine wpAny_call_entry slot_pattern_fullmatch hP'.typeIs entry_pattern_fullmatch ?_ (args_pattern_fullmatch _ _)
  unfold Builtin.«re.Pattern.fullmatch»
  refine wpAny_bind (wp_target0 hP' (by omega) ?_)
  unfold reAnswer
  dsimp only
  refine wpAny_bind (wp_run_c h0 (by omega) ?_)
  dsimp only
  refine wpAny_bind (wp_newMatch (spans := []) h1 h2 h3 rfl (fun b e hb => by cases hb) (by decide) ?_)
  exact wpAny_pure ⟨_, rfl, h _ _ ((F.push _).push _) (newsGrow (newsGrow N fun b o e => (Heap.get?_push_ne _ _ _ (Nat.ne_of_lt (Heap.lt_size e))).trans e) fun b o e => (Heap.get?_push_ne _ _ _ (Nat.ne_of_lt (Heap.lt_size e))).trans e)⟩
end
def intCode : Array Nat := #[14, 4, 0, 1, 4294967295, 24, 6, 0, 1, 16, 45, 1, 24, 10, 1, 4294967295, 13, 5, 22, 48, 57, 0, 1, 1]
end Mine
end
section
namespace Mine
open PySem PySem.W PyProof.Rows
/-- a Range that a callee has made: from n on -/
def RangeAt (w : World) (h0 h : Heap) (v : Value) (n : Int) : Prop :=
  ∃ (x d l D : Addr) (t1 t2 t3 t4 k k2 : Nat), v = .ref x ∧
    (∀ p ∈ ([(x, instObj 313 d), (d, dictOf [⟨PyData.keyHash w.params (Str.ofString "units"), .str (Str.ofString "units") t1, .str (Str.ofString "bytes") t2⟩, ⟨PyData.keyHash w.params (Str.ofString "ranges"), .str (Str.ofString "ranges") t3, .ref l⟩] k), (l, listOf #[.ref D] k2), (D, { cls := .type "tuple", data := .seq #[.int n t4, .none] })] : List (Addr × Obj)), h.get? p.1 = some p.2 ∧ h0.get? p.1 = none)
theorem RangeAt.of {w : World} {h₀ h' : Heap} {L : Addr} {news : List (Addr × Obj)} {x d l D : Addr} {t1 t2 t3 t4 k k2 : Nat} {n : Int} (N : News h₀ L h' news) (h1 : (x, instObj 313 d) ∈ news)
    (h2 : (d, dictOf [⟨PyData.keyHash w.params (Str.ofString "units"), .str (Str.ofString "units") t1, .str (Str.ofString "bytes") t2⟩, ⟨PyData.keyHash w.params (Str.ofString "ranges"), .str (Str.ofString "ranges") t3, .ref l⟩] k) ∈ news)
    (h3 : (l, listOf (Array.push #[] (.ref D)) k2) ∈ news) (h4 : (D, { cls := .type "tuple", data := .seq #[.int n t4, .none] }) ∈ news) : RangeAt w h₀ h' (.ref x) n := by
  refine ⟨x, d, l, D, t1, t2, t3, t4, k, k2, rfl, fun p hp => ?_⟩
  have : p ∈ news := by
    rcases List.mem_cons.mp hp with rfl | hp
    · exact h1
    rcases List.mem_cons.mp hp with rfl | hp
    · exact h2
    rcases List.mem_cons.mp hp with rfl | hp
    · exact h3
    rcases List.mem_cons.mp hp with rfl | hp
    · exact h4
    · cases hp
  exact ⟨(N p this).1, (N p this).2.2⟩
end Mine
end
section
open PySem PySem.W PyProof.Rows
namespace Mine
local macro_rules | `(tactic| walk_at "mine pad 0") => `(tactic| fail "pad")
local macro_rules | `(tactic| walk_at "mine pad 1") => `(tactic| fail "pad")
local macro_rules | `(tactic| walk_at "mine pad 2") => `(tactic| fail "pad")
local macro_rules | `(tactic| walk_at "mine pad 3") => `(tactic| fail "pad")
local macro_rules | `(tactic| walk_at "mine pad 4") => `(tactic| fail "pad")
local macro_rules | `(tactic| walk_at "mine pad 5") => `(tactic| fail "pad")
local macro_rules | `(tactic| walk_at "mine pad 6") => `(tactic| fail "pad")
local macro_rules | `(tactic| walk_at "mine pad 7") => `(tactic| fail "pad")
local macro_rules | `(tactic| walk_at "mine pad 8") => `(tactic| fail "pad")
local macro_rules | `(tactic| walk_at "mine pad 9") => `(tactic| fail "pad")
local macro_rules | `(tactic| walk_at "mine pad 10") => `(tactic| fail "pad")
local macro_rules | `(tactic| walk_at "mine pad 11") => `(tactic| fail "pad")
local macro_rules | `(tactic| walk_at "mine pad 12") => `(tactic| fail "pad")
local macro_rules | `(tactic| walk_at "mine pad 13") => `(tactic| fail "pad")
local macro_rules | `(tactic| walk_at "mine pad 14") => `(tactic| fail "pad")
local macro_rules | `(tactic| walk_at "mine pad 15") => `(tactic| fail "pad")
local macro_rules | `(tactic| walk_at "mine pad 16") => `(tactic| fail "pad")
local macro_rules | `(tactic| walk_at "mine pad 17") => `(tactic| fail "pad")
local macro_rules | `(tactic| walk_at "mine pad 18") => `(tactic| fail "pad")
local macro_rules | `(tactic| walk_at "mine pad 19") => `(tactic| fail "pad")
local macro_rules | `(tactic| walk_at "mine pad 20") => `(tactic| fail "pad")
local macro_rules | `(tactic| walk_at "mine pad 21") => `(tactic| fail "pad")
local macro_rules | `(tactic| walk_at "mine pad 22") => `(tactic| fail "pad")
local macro_rules | `(tactic| walk_at "mine pad 23") => `(tactic| fail "pad")
local macro_rules | `(tactic| walk_at "mine pad 24") => `(tactic| fail "pad")
local macro_rules | `(tactic| walk_at "mine pad 25") => `(tactic| fail "pad")
local macro_rules | `(tactic| walk_at "mine pad 26") => `(tactic| fail "pad")
local macro_rules | `(tactic| walk_at "mine pad 27") => `(tactic| fail "pad")
local macro_rules | `(tactic| walk_at "mine pad 28") => `(tactic| fail "pad")
local macro_rules | `(tactic| walk_at "mine pad 29") => `(tactic| fail "pad")
local macro_rules | `(tactic| walk_at "mine pad 30") => `(tactic| fail "pad")
local macro_rules | `(tactic| walk_at "mine pad 31") => `(tactic| fail "pad")
local macro_rules | `(tactic| walk_at "mine pad 32") => `(tactic| fail "pad")
local macro_rules | `(tactic| walk_at "mine pad 33") => `(tactic| fail "pad")
local macro_rules | `(tactic| walk_at "mine pad 34") => `(tactic| fail "pad")
local macro_rules | `(tactic| walk_at "mine pad 35") => `(tactic| fail "pad")
local macro_rules | `(tactic| walk_at "mine pad 36") => `(tactic| fail "pad")
local macro_rules | `(tactic| walk_at "mine pad 37") => `(tactic| fail "pad")
local macro_rules | `(tactic| walk_at "mine pad 38") => `(tactic| fail "pad")
local macro_rules | `(tactic| walk_at "mine pad 39") => `(tactic| fail "pad")
local macro_rules | `(tactic| walk_at "mine pad 40") => `(tactic| fail "pad")
local macro_rules | `(tactic| walk_at "mine pad 41") => `(tactic| fail "pad")
local macro_rules | `(tactic| walk_at "mine pad 42") => `(tactic| fail "pad")
local macro_rules | `(tactic| walk_at "exec While") => `(tactic| (k_here; refine Mine.Stop.go ?_))
local macro_rules | `(tactic| k_room) => `(tactic| ((try simp only [depth_under_make, depth_under_kw, depth_in1, depth_deeper, depth_caller]); show _ < 1000; omega))
local macro_rules | `(tactic| k_units) => `(tactic| (show _ < 9900; (try simp only [Around.in1_units, Around.deeper_units, Around.mark_units]); omega))
local macro_rules | `(tactic| walk_at "call type:frozenset nil nil") => `(tactic| (k_here; k_dflt (refine' fset0_K' ?F ?N ?_; (case F => k_asm); (case N => k_asm); k_whole); intro a' h' o' F' N' S' l1; (try k_lt l1); (try k_sweep)))
local macro_rules | `(tactic| walk_at "call type:frozenset cons nil") => `(tactic| (k_here; k_dflt (first
  | (refine' fsetL_K ?F ?N ?m ?x ?hh ?hb ?_; (case F => k_asm); (case N => k_asm); (case m => k_mem); (case x => assumption); (case hh => rfl); (case hb => omega); k_whole)
  | (refine' fsetT_K ?F ?N ?t ?hh ?_; (case F => k_asm); (case N => k_asm); (case t => exact ⟨_, News.get (by k_asm) (by k_mem), rfl, _, rfl⟩); (case hh => rfl); k_whole)); intro a' h' tk' o' F' N' S' l1; (try k_lt l1); (try k_sweep)))
local macro_rules | `(tactic| walk_at "truthy ref") => `(tactic| (k_here; k_dflt (refine' fset_truthy_K ?N ?m ?f ?hn ?_; (case N => k_asm); (case m => k_mem); (case f => assumption); (case hn => omega); k_whole); intro b' tk' hb'))
local macro_rules | `(tactic| walk_at "compareOp In str ref") => `(tactic| (k_here; k_dflt (refine' fset_in_K ?N ?m ?f ?hn ?_; (case N => k_asm); (case m => k_mem); (case f => assumption); (case hn => omega); k_whole); intro tk'))
local macro_rules | `(tactic| walk_at "getMethod ref") => `(tactic| (k_here; k_dflt (first
  | (refine' meth_pattern ?P slot_pattern_match type_pattern_match ?_; (case P => exact PatAt.keeps (by assumption) (Fr.keep (by k_asm))); k_whole)
  | (refine' meth_match ?f slot_match_groups type_match_groups ?_; (case f => exact foundN (by k_asm) (by k_mem) (by k_mem)); k_whole)
  | (refine' meth_match ?f slot_match_end type_match_end ?_; (case f => exact foundN (by k_asm) (by k_mem) (by k_mem)); k_whole))))
local macro_rules | `(tactic| walk_at "call builtin:re.Pattern.match") => `(tactic| (k_here; k_dflt (first
  | (refine' matchK_yes ?F ?N ?P ?g ?hp ?hx ?hm ?hk ?ok ?len ?_; (case F => k_asm); (case N => k_asm); (case hm => assumption); (case P => assumption); (case g => rfl); (case hp => omega); (case hx => omega); (case hk => decide); (case ok => assumption); (case len => exact Nat.le_of_ble_eq_true rfl); k_whole; intro a' T' h' F' N' l1 l2; (try k_lt l1); (try k_lt2 l2); (try k_sweep))
  | (refine' matchK_no ?F ?P ?hp ?hx ?hm ?hk ?_; (case F => k_asm); (case hm => assumption); (case P => assumption); (case hp => omega); (case hx => omega); (case hk => decide); k_whole))))
local macro_rules | `(tactic| walk_at "call builtin:re.Match.groups") => `(tactic| (k_here; k_dflt (refine' groupsK3 ?F ?N ?f ?hx ?_; (case F => k_asm); (case N => k_asm); (case f => exact foundN (by k_asm) (by k_mem) (by k_mem)); (case hx => omega); k_whole); intro T' t1' t2' t3' h' tk' F' N' l1; (try dsimp only [partOf] at N'); (try k_lt l1); (try k_sweep)))
local macro_rules | `(tactic| walk_at "call builtin:re.Match.end") => `(tactic| (k_here; k_dflt (refine' endK ?f ?_; (case f => exact foundN (by k_asm) (by k_mem) (by k_mem)); k_whole)))
local macro_rules | `(tactic| walk_at "truthy str") => `(tactic| (k_here; k_dflt (refine' truthy_text ?a ?b ?_; (case a => omega); (case b => omega); k_whole); intro tk'))
local macro_rules | `(tactic| walk_at "truthy ref") => `(tactic| (k_here; k_dflt (refine' truthy_listK ?N ?m ?hb ?_; (case N => k_asm); (case m => k_mem); (case hb => omega); k_whole); intro tk'))
local macro_rules | `(tactic| walk_at "call ref") => `(tactic| (k_here; k_dflt (first
  | (refine' etags_someK ?B ?F ?N ?X ?T ?P ?hA ?hf ?hke ?hh ?hd ?hu ?ht ?_; (case ht => assumption); (case hA => exact rfl); (case hf => exact rfl); (case hke => exact rfl); (case B => k_asm); (case F => k_asm); (case N => k_asm); (case X => k_asm); (case T => k_asm); (case P => first | assumption | exact PatAt.keeps (by assumption) (Fr.keep (by k_asm))); (case hh => rfl); (case hd => ((try simp only [depth_in1, depth_deeper, depth_caller]); show _ < 500; omega)); (case hu => ((try simp only [Around.in1_units, Around.deeper_units]); show _ < 500; omega)); k_whole; intro h' tk' e' d' a' b' oa' ob' t1' t2' t3' n' nS' nW' F' N' f1' f2' f3' f4'; (try k_sweep))
  | (refine' etags_noneK ?B ?F ?N ?X ?T ?hA ?hf ?hke ?hh ?hd ?hu ?_; (case hA => exact rfl); (case hf => exact rfl); (case hke => exact rfl); (case B => k_asm); (case F => k_asm); (case N => k_asm); (case X => k_asm); (case T => k_asm); (case hh => rfl); (case hd => ((try simp only [depth_in1, depth_deeper, depth_caller]); show _ < 500; omega)); (case hu => ((try simp only [Around.in1_units, Around.deeper_units]); show _ < 500; omega)); k_whole; intro h' tk' e' d' a' b' oa' ob' t1' t2' t3' n' nS' nW' F' N' f1' f2' f3' f4'; (try k_sweep)))))
local macro_rules | `(tactic| walk_at "call builtin:str.startswith") => `(tactic| (k_here; k_dflt (refine' startswith_tup ?h ?_; (case h => exact ⟨_, News.get (by k_asm) (by k_mem), rfl, _, rfl⟩); k_whole)))
local macro_rules | `(tactic| walk_at "call builtin:str.endswith") => `(tactic| (k_here; k_dflt (refine' ends_true ?h ?_; (case h => assumption); k_whole)))
local macro_rules | `(tactic| walk_at "call type:bool") => `(tactic| (k_here; k_dflt (refine' bool_fsetL ?N ?m ?f ?hn ?_; (case N => k_asm); (case m => k_mem); (case f => with_reducible assumption); (case hn => omega); k_whole); intro tk'))
local macro_rules | `(tactic| walk_at "truthy ref") => `(tactic| (k_here; k_dflt (refine' truthy_fsetL ?N ?m ?f ?hn ?_; (case N => k_asm); (case m => k_mem); (case f => with_reducible assumption); (case hn => omega); k_whole); intro tk'))
local macro_rules | `(tactic| walk_at "call type:bool") => `(tactic| (k_here; k_dflt (refine' bool_fset0 ?N ?m ?f ?hn ?_; (case N => k_asm); (case m => k_mem); (case f => with_reducible assumption); (case hn => omega); k_whole); intro tk'))
local macro_rules | `(tactic| walk_at "truthy ref") => `(tactic| (k_here; k_dflt (refine' truthy_fset0 ?N ?m ?f ?hn ?_; (case N => k_asm); (case m => k_mem); (case f => with_reducible assumption); (case hn => omega); k_whole); intro tk'))
local macro_rules | `(tactic| walk_at "getMethod ref") => `(tactic| (k_here; k_dflt (refine' meth_pattern ?P slot_pattern_fullmatch type_pattern_fullmatch ?_; (case P => first | exact PatAt.keeps (by assumption) (Fr.keep (by k_asm)) | exact PatAt.keeps (PatAt.keeps (by assumption) (Fr.keep (by assumption))) (Fr.keep (by k_asm))); k_whole)))
local macro_rules | `(tactic| walk_at "call builtin:re.Pattern.fullmatch") => `(tactic| (k_here; k_dflt (refine' fullK_c (n := 12) ?F ?N ?P ?hx ?hn ?h0 ?h1 ?h2 ?h3 ?_; (case F => k_asm); (case N => k_asm); (case P => first | assumption | exact PatAt.keeps (by assumption) (Fr.keep (by assumption))); (case hx => decide +kernel); (case hn => decide); (case h0 => first | kernel_rfl | rfl); (case h1 => rfl); (case h2 => rfl); (case h3 => rfl); k_whole; intro a' h' F' N')))

theorem prange0 {w : World} {ad : Nat} {ag : Option (List Code)} {au : Nat} {base : Heap} {outer : List Env} {s : Shared} {lz : List Str} {mean : ExcName → Option Value} {mg mb : Str → Option Value} {t : Tok}
    (B : Below ⟨none, ad, some outer, ag, au⟩ base outer s.heap) (X : (hd1.heap_39 w.params).In s.heap) (T : Top hd1.view_39 lz mean mg mb s.heap) (hA : ad < 450) (hu : au < 450) (HP : PatAt s.heap 43 intCode 0 0) :
    codeAny (model PySem.Challenge.rw_ez0420_01.row.prog w) ⟨none, ad, some outer, ag, au⟩ (.call (.ref 65) ⟨[.str (Str.ofString "bytes=0-") t], []⟩) (PureR s fun v h => RangeAt w s.heap h v 0) s := by
  revert X; k_fill; intro X
  refine' enterB (binds := [("value", .str (Str.ofString "bytes=0-") t), ("make_inclusive", .bool true)]) B X T.nolimit ?k1 ?k6 ?k7 ?k9 ?kB ?c2 ?c3 ?c4 ?c5 ?_
  case k6 => k_is
  case k7 => k_is
  case k1 => show _ < 1000; omega
  case k9 => first | exact BindsTo.of_eq rfl | exact binds_K (by k_in) rfl (by k_is) rfl rfl rfl | fail "k_enter: no rule for these arguments"
  case kB => exact locs rfl
  case c2 => exact rfl
  case c3 => exact rfl
  case c4 => exact rfl
  case c5 => decide
  intro L' h' F' N' B'
  (try dsimp only)
  (try k_fold)
  k_steps
  · exfalso
    have e1 : (Builtin.Str.occurrences (Str.ofString "bytes=0-") (Str.ofString "=") 0 (Str.length (Str.ofString "bytes=0-")) 1).isEmpty = false := by decide +kernel
    exact Bool.false_ne_true (e1.symm.trans (by assumption))
  · exfalso
    have e1 : (Builtin.Str.occurrences (Str.ofString "0-") (Str.ofString "-") 0 (Str.length (Str.ofString "0-")) 1).isEmpty = false := by decide +kernel
    exact Bool.false_ne_true (e1.symm.trans (by assumption))
  · exfalso
    have e1 : (Builtin.Str.occurrences (Str.ofString "0-") (Str.ofString "-") 0 (Str.length (Str.ofString "0-")) 1).isEmpty = false := by decide +kernel
    exact Bool.false_ne_true (e1.symm.trans (by assumption))
  · exact PureR.intro (by assumption) (RangeAt.of (by assumption) (by k_mem) (by k_mem) (by k_mem) (by k_mem))

theorem prange1 {w : World} {ad : Nat} {ag : Option (List Code)} {au : Nat} {base : Heap} {outer : List Env} {s : Shared} {lz : List Str} {mean : ExcName → Option Value} {mg mb : Str → Option Value} {t : Tok}
    (B : Below ⟨none, ad, some outer, ag, au⟩ base outer s.heap) (X : (hd1.heap_39 w.params).In s.heap) (T : Top hd1.view_39 lz mean mg mb s.heap) (hA : ad < 450) (hu : au < 450) (HP : PatAt s.heap 43 intCode 0 0) :
    codeAny (model PySem.Challenge.rw_ez0420_01.row.prog w) ⟨none, ad, some outer, ag, au⟩ (.call (.ref 65) ⟨[.str (Str.ofString "bytes=1-") t], []⟩) (PureR s fun v h => RangeAt w s.heap h v 1) s := by
  revert X; k_fill; intro X
  refine' enterB (binds := [("value", .str (Str.ofString "bytes=1-") t), ("make_inclusive", .bool true)]) B X T.nolimit ?k1 ?k6 ?k7 ?k9 ?kB ?c2 ?c3 ?c4 ?c5 ?_
  case k6 => k_is
  case k7 => k_is
  case k1 => show _ < 1000; omega
  case k9 => first | exact BindsTo.of_eq rfl | exact binds_K (by k_in) rfl (by k_is) rfl rfl rfl | fail "k_enter: no rule for these arguments"
  case kB => exact locs rfl
  case c2 => exact rfl
  case c3 => exact rfl
  case c4 => exact rfl
  case c5 => decide
  intro L' h' F' N' B'
  (try dsimp only)
  (try k_fold)
  k_steps
  · exfalso
    have e1 : (Builtin.Str.occurrences (Str.ofString "bytes=1-") (Str.ofString "=") 0 (Str.length (Str.ofString "bytes=1-")) 1).isEmpty = false := by decide +kernel
    exact Bool.false_ne_true (e1.symm.trans (by assumption))
  · exfalso
    have e1 : (Builtin.Str.occurrences (Str.ofString "1-") (Str.ofString "-") 0 (Str.length (Str.ofString "1-")) 1).isEmpty = false := by decide +kernel
    exact Bool.false_ne_true (e1.symm.trans (by assumption))
  · exfalso
    have e1 : (Builtin.Str.occurrences (Str.ofString "1-") (Str.ofString "-") 0 (Str.length (Str.ofString "1-")) 1).isEmpty = false := by decide +kernel
    exact Bool.false_ne_true (e1.symm.trans (by assumption))
  · exact PureR.intro (by assumption) (RangeAt.of (by assumption) (by k_mem) (by k_mem) (by k_mem) (by k_mem))

theorem prange2 {w : World} {ad : Nat} {ag : Option (List Code)} {au : Nat} {base : Heap} {outer : List Env} {s : Shared} {lz : List Str} {mean : ExcName → Option Value} {mg mb : Str → Option Value} {t : Tok}
    (B : Below ⟨none, ad, some outer, ag, au⟩ base outer s.heap) (X : (hd1.heap_39 w.params).In s.heap) (T : Top hd1.view_39 lz mean mg mb s.heap) (hA : ad < 450) (hu : au < 450) (HP : PatAt s.heap 43 intCode 0 0) :
    codeAny (model PySem.Challenge.rw_ez0420_01.row.prog w) ⟨none, ad, some outer, ag, au⟩ (.call (.ref 65) ⟨[.str (Str.ofString "bytes=2-") t], []⟩) (PureR s fun v h => RangeAt w s.heap h v 2) s := by
  revert X; k_fill; intro X
  refine' enterB (binds := [("value", .str (Str.ofString "bytes=2-") t), ("make_inclusive", .bool true)]) B X T.nolimit ?k1 ?k6 ?k7 ?k9 ?kB ?c2 ?c3 ?c4 ?c5 ?_
  case k6 => k_is
  case k7 => k_is
  case k1 => show _ < 1000; omega
  case k9 => first | exact BindsTo.of_eq rfl | exact binds_K (by k_in) rfl (by k_is) rfl rfl rfl | fail "k_enter: no rule for these arguments"
  case kB => exact locs rfl
  case c2 => exact rfl
  case c3 => exact rfl
  case c4 => exact rfl
  case c5 => decide
  intro L' h' F' N' B'
  (try dsimp only)
  (try k_fold)
  k_steps
  · exfalso
    have e1 : (Builtin.Str.occurrences (Str.ofString "bytes=2-") (Str.ofString "=") 0 (Str.length (Str.ofString "bytes=2-")) 1).isEmpty = false := by decide +kernel
    exact Bool.false_ne_true (e1.symm.trans (by assumption))
  · exfalso
    have e1 : (Builtin.Str.occurrences (Str.ofString "2-") (Str.ofString "-") 0 (Str.length (Str.ofString "2-")) 1).isEmpty = false := by decide +kernel
    exact Bool.false_ne_true (e1.symm.trans (by assumption))
  · exfalso
    have e1 : (Builtin.Str.occurrences (Str.ofString "2-") (Str.ofString "-") 0 (Str.length (Str.ofString "2-")) 1).isEmpty = false := by decide +kernel
    exact Bool.false_ne_true (e1.symm.trans (by assumption))
  · exact PureR.intro (by assumption) (RangeAt.of (by assumption) (by k_mem) (by k_mem) (by k_mem) (by k_mem))

theorem prange3 {w : World} {ad : Nat} {ag : Option (List Code)} {au : Nat} {base : Heap} {outer : List Env} {s : Shared} {lz : List Str} {mean : ExcName → Option Value} {mg mb : Str → Option Value} {t : Tok}
    (B : Below ⟨none, ad, some outer, ag, au⟩ base outer s.heap) (X : (hd1.heap_39 w.params).In s.heap) (T : Top hd1.view_39 lz mean mg mb s.heap) (hA : ad < 450) (hu : au < 450) (HP : PatAt s.heap 43 intCode 0 0) :
    codeAny (model PySem.Challenge.rw_ez0420_01.row.prog w) ⟨none, ad, some outer, ag, au⟩ (.call (.ref 65) ⟨[.str (Str.ofString "bytes=3-") t], []⟩) (PureR s fun v h => RangeAt w s.heap h v 3) s := by
  revert X; k_fill; intro X
  refine' enterB (binds := [("value", .str (Str.ofString "bytes=3-") t), ("make_inclusive", .bool true)]) B X T.nolimit ?k1 ?k6 ?k7 ?k9 ?kB ?c2 ?c3 ?c4 ?c5 ?_
  case k6 => k_is
  case k7 => k_is
  case k1 => show _ < 1000; omega
  case k9 => first | exact BindsTo.of_eq rfl | exact binds_K (by k_in) rfl (by k_is) rfl rfl rfl | fail "k_enter: no rule for these arguments"
  case kB => exact locs rfl
  case c2 => exact rfl
  case c3 => exact rfl
  case c4 => exact rfl
  case c5 => decide
  intro L' h' F' N' B'
  (try dsimp only)
  (try k_fold)
  k_steps
  · exfalso
    have e1 : (Builtin.Str.occurrences (Str.ofString "bytes=3-") (Str.ofString "=") 0 (Str.length (Str.ofString "bytes=3-")) 1).isEmpty = false := by decide +kernel
    exact Bool.false_ne_true (e1.symm.trans (by assumption))
  · exfalso
    have e1 : (Builtin.Str.occurrences (Str.ofString "3-") (Str.ofString "-") 0 (Str.length (Str.ofString "3-")) 1).isEmpty = false := by decide +kernel
    exact Bool.false_ne_true (e1.symm.trans (by assumption))
  · exfalso
    have e1 : (Builtin.Str.occurrences (Str.ofString "3-") (Str.ofString "-") 0 (Str.length (Str.ofString "3-")) 1).isEmpty = false := by decide +kernel
    exact Bool.false_ne_true (e1.symm.trans (by assumption))
  · exact PureR.intro (by assumption) (RangeAt.of (by assumption) (by k_mem) (by k_mem) (by k_mem) (by k_mem))

theorem prange4 {w : World} {ad : Nat} {ag : Option (List Code)} {au : Nat} {base : Heap} {outer : List Env} {s : Shared} {lz : List Str} {mean : ExcName → Option Value} {mg mb : Str → Option Value} {t : Tok}
    (B : Below ⟨none, ad, some outer, ag, au⟩ base outer s.heap) (X : (hd1.heap_39 w.params).In s.heap) (T : Top hd1.view_39 lz mean mg mb s.heap) (hA : ad < 450) (hu : au < 450) (HP : PatAt s.heap 43 intCode 0 0) :
    codeAny (model PySem.Challenge.rw_ez0420_01.row.prog w) ⟨none, ad, some outer, ag, au⟩ (.call (.ref 65) ⟨[.str (Str.ofString "bytes=4-") t], []⟩) (PureR s fun v h => RangeAt w s.heap h v 4) s := by
  revert X; k_fill; intro X
  refine' enterB (binds := [("value", .str (Str.ofString "bytes=4-") t), ("make_inclusive", .bool true)]) B X T.nolimit ?k1 ?k6 ?k7 ?k9 ?kB ?c2 ?c3 ?c4 ?c5 ?_
  case k6 => k_is
  case k7 => k_is
  case k1 => show _ < 1000; omega
  case k9 => first | exact BindsTo.of_eq rfl | exact binds_K (by k_in) rfl (by k_is) rfl rfl rfl | fail "k_enter: no rule for these arguments"
  case kB => exact locs rfl
  case c2 => exact rfl
  case c3 => exact rfl
  case c4 => exact rfl
  case c5 => decide
  intro L' h' F' N' B'
  (try dsimp only)
  (try k_fold)
  k_steps
  · exfalso
    have e1 : (Builtin.Str.occurrences (Str.ofString "bytes=4-") (Str.ofString "=") 0 (Str.length (Str.ofString "bytes=4-")) 1).isEmpty = false := by decide +kernel
    exact Bool.false_ne_true (e1.symm.trans (by assumption))
  · exfalso
    have e1 : (Builtin.Str.occurrences (Str.ofString "4-") (Str.ofString "-") 0 (Str.length (Str.ofString "4-")) 1).isEmpty = false := by decide +kernel
    exact Bool.false_ne_true (e1.symm.trans (by assumption))
  · exfalso
    have e1 : (Builtin.Str.occurrences (Str.ofString "4-") (Str.ofString "-") 0 (Str.length (Str.ofString "4-")) 1).isEmpty = false := by decide +kernel
    exact Bool.false_ne_true (e1.symm.trans (by assumption))
  · exact PureR.intro (by assumption) (RangeAt.of (by assumption) (by k_mem) (by k_mem) (by k_mem) (by k_mem))
end Mine
end
section
namespace Mine
open PySem PySem.W PySem.Calls PyProof.Rows PyProof.V PySem.Spec
section
variable {prog : Program} {w : World} {A : Around} {E : Value → Shared → Prop} {s : Shared} {env : Env} {h₀ : Heap} {x : Str} {body : List Stmt} {Q : Flow → Shared → Prop}

/-- the end of a turn -/
def TurnJ (h₀ : Heap) (L I : Addr) (oI : Obj) (J : (Str → Option Value) → List (Addr × Obj) → Prop) (s : Shared) (f : Flow) (s₂ : Shared) : Prop :=
  f = .next ∧ ∃ h' tk m' news', s₂ = { s with heap := h', toks := tk } ∧ Fr h₀ L h' m' ∧ News h₀ L h' ((I, oI) :: news') ∧ (∀ p ∈ news', p.1 ≠ I) ∧ J m' news'

/-- a loop over a range, any ledger between the turns -/
theorem iter_rangeJ {r : Addr} {b₀ : Int} {t₀ u₀ v₀ : Tok} {n : Nat} {m₀ : Str → Option Value} {news : List (Addr × Obj)} (J : Nat → (Str → Option Value) → List (Addr × Obj) → Prop)
    (hh : A.handled = none) (hr : IsRange s.heap r 0 b₀ 1 t₀ u₀ v₀) (hsmall : Builtin.Range.small 0 b₀ 1 = true) (hn : Builtin.Range.rangeSize 0 b₀ 1 = (n : Int)) (F : Fr h₀ env.locals s.heap m₀) (N : News h₀ env.locals s.heap news)
    (hj : J 0 m₀ news)
    (turn : ∀ i t m₁ news₁ h tk I oI, i < n → J i m₁ news₁ → Fr h₀ env.locals h (fun y => if y = x then some (.int (i : Nat) t) else m₁ y) → News h₀ env.locals h ((I, oI) :: news₁) → (∀ p ∈ news₁, p.1 ≠ I) →
      wpAny (model prog w) A (execs body env) (TurnJ h₀ env.locals I oI (J (i + 1)) { s with heap := h, toks := tk }) E { s with heap := h, toks := tk })
    (done : ∀ m₁ news₁ h tk, J n m₁ news₁ → Fr h₀ env.locals h m₁ → News h₀ env.locals h news₁ → Q .next { s with heap := h, toks := tk }) :
    wpAny (model prog w) A (pyIter (.ref r)) (fun it s₂ => LoopAtV prog w A h₀ env x body Q E it s₂) E s := by
  refine wpAny_pyIter_range hr hsmall ?_
  have W : Walks prog w A s.heap.objs.size [s.heap.objs.size] [s.heap.objs.size] n (fun i v => i < n ∧ ∃ t, v = .int ((0 : Int) + i * 1) t)
      (fun i h => IsRangeIter h s.heap.objs.size ((0 : Int) + (i : Nat) * 1) ((n : Int) - (i : Nat)) 1) := (Walks.range hh _ 0 1 n).bound
  refine ⟨_, _, _, n, _, _, m₀, news, J, rfl, W, ?_, ?_, ?_, (by show IsRangeIter _ _ _ _ _; rw [hn]; simpa using Heap.get?_push_size _ rfl), F.push _, (fun p hp => ⟨Heap.get?_push_of_some _ (N p hp).1, (N p hp).2⟩), hj, ?_, ?_⟩
  · intro hm
    exact absurd F.ns.lt ((List.mem_singleton.mp hm) ▸ Nat.lt_irrefl _)
  · intro b hb
    rw [List.mem_singleton.mp hb]
    exact next_is_new F
  · intro p hp hI
    exact absurd (Heap.lt_size (N p hp).1) ((List.mem_singleton.mp hI) ▸ Nat.lt_irrefl _)
  · rintro i v m₁ news₁ s₁ own ⟨hh', tk', rfl⟩ hin ⟨_, t, rfl⟩ hJ hoff hown _ hall hst' F₁ N₁
    have hI0 : h₀.get? s.heap.objs.size = none := next_is_new F
    obtain ⟨o, ho⟩ : ∃ o, hh'.get? s.heap.objs.size = some o := ⟨_, hst'⟩
    have hio : (s.heap.objs.size, o) ∈ own := hall _ (List.mem_singleton.mpr rfl) hI0 o ho
    have hone : ∀ p ∈ own, p = (s.heap.objs.size, o) := own_one hown (fun b hb => .inl (List.mem_singleton.mp hb)) ho N₁
    have e0 : (0 : Int) + (i : Nat) * 1 = (i : Nat) := by omega
    rw [e0] at F₁
    refine wpAny_mono (turn i t m₁ news₁ hh' tk' s.heap.objs.size o hin hJ F₁ (news_one hio N₁) (fun p hp e => hoff p hp (List.mem_singleton.mpr e))) (fun f s₂ p => ?_) fun _ _ e => e
    obtain ⟨rfl, h', tk, m', news', rfl, F', N', hd, hJ'⟩ := p
    refine .next ⟨rfl, h', tk, m', news', rfl, F', fun p hp => ?_, fun p hp hm => hd p hp (List.mem_singleton.mp hm), hJ'⟩
    rcases List.mem_append.mp hp with h | h
    · rw [hone p h]; exact N' _ (.head _)
    · exact N' _ (.tail _ h)
  · rintro h' tk m' news' F' N' _ hJ
    exact done m' news' h' tk hJ F' N'
end
end Mine
end
section
namespace Mine
open PySem PySem.W PyProof.Rows

/-- the list at a holds the ints xs -/
def LI (rest : List (Addr × Obj)) (a : Addr) (xs : List Int) : Prop := ∃ vs n, (a, listOf (List.toArray vs) n) ∈ rest ∧ IntsAre vs xs
theorem LI.mono {r r' : List (Addr × Obj)} {a : Addr} {xs : List Int} (h : LI r a xs) (s : ∀ p ∈ r, p ∈ r') : LI r' a xs := by
  obtain ⟨vs, n, h1, h2⟩ := h; exact ⟨vs, n, s _ h1, h2⟩

def DictOk (prog : Program) (w : World) (H : Nat → List Int) (v : Nat) (rest : List (Addr × Obj)) (o : Obj) (kvs : List (Int × Value)) : Prop :=
  o.IsDictOf (intKind prog w) kvs ∧ ∀ kv ∈ kvs, ∃ (j : Nat) (a : Addr), kv.1 = (j : Int) ∧ j ≤ v ∧ kv.2 = .ref a ∧ LI rest a (H j)
def BaseOk (kvs : List (Int × Value)) (b : Value) : Prop := ∃ z t, b = .int z t ∧ (z = -1 ∨ ∃ kv ∈ kvs, kv.1 = z)
def PartOk (H : Nat → List Int) (v : Nat) (rest : List (Addr × Obj)) (p : Value) : Prop :=
  ∃ a, p = .ref a ∧ ((a, listOf #[] 0) ∈ rest ∨ ∃ (j : Nat) (t : Tok) (f : Addr) (n : Nat), j ≤ v ∧ n ≤ 4 ∧ (a, listOf #[.int (j : Int) t, .ref f] 0) ∈ rest ∧ LI rest f ((H j).take n))

/-- the locals at the loop's head -/
def mapL (Pa Ba Sa pg lt D : Addr) (vz : Int) (tv : Tok) (u : Str → Option Value) : Str → Option Value := fun y =>
  if y = "good" then some (.bool true) else if y = "parts" then some (.ref Pa) else if y = "bases" then some (.ref Ba) else if y = "stores" then some (.ref Sa) else if y = "page" then some (.ref pg) else
  if y = "version" then some (.int vz tv) else if y = "let" then some (.ref lt) else if y = "cells" then some (.ref D) else u y
theorem mapL_of {Pa Ba Sa pg lt D : Addr} {vz : Int} {tv : Tok} {m : Str → Option Value} (h1 : m "good" = some (.bool true)) (h2 : m "parts" = some (.ref Pa)) (h3 : m "bases" = some (.ref Ba)) (h4 : m "stores" = some (.ref Sa))
    (h5 : m "page" = some (.ref pg)) (h6 : m "version" = some (.int vz tv)) (h7 : m "let" = some (.ref lt)) (h8 : m "cells" = some (.ref D)) : m = mapL Pa Ba Sa pg lt D vz tv m := by
  funext y
  unfold mapL
  by_cases e1 : y = "good"
  · rw [if_pos e1, e1, h1]
  rw [if_neg e1]
  by_cases e2 : y = "parts"
  · rw [if_pos e2, e2, h2]
  rw [if_neg e2]
  by_cases e3 : y = "bases"
  · rw [if_pos e3, e3, h3]
  rw [if_neg e3]
  by_cases e4 : y = "stores"
  · rw [if_pos e4, e4, h4]
  rw [if_neg e4]
  by_cases e5 : y = "page"
  · rw [if_pos e5, e5, h5]
  rw [if_neg e5]
  by_cases e6 : y = "version"
  · rw [if_pos e6, e6, h6]
  rw [if_neg e6]
  by_cases e7 : y = "let"
  · rw [if_pos e7, e7, h7]
  rw [if_neg e7]
  by_cases e8 : y = "cells"
  · rw [if_pos e8, e8, h8]
  rw [if_neg e8]

/-- what stands at client c's places -/
structure ClientOk (prog : Program) (w : World) (H : Nat → List Int) (v : Nat) (rest : List (Addr × Obj)) (o : Obj) (b p : Value) : Prop where
  ex : ∃ kvs, DictOk prog w H v rest o kvs ∧ BaseOk kvs b ∧ kvs.length ≤ 20
  part : PartOk H v rest p

/-- the state at the loop's head -/
def JL (prog : Program) (w : World) (c1 c2 D Sa Ba Pa d0 d1 d2 : Nat) (oH oD : Obj) (i : Nat) (m : Str → Option Value) (news : List (Addr × Obj)) : Prop :=
  ∃ (pg lt : Addr) (o2 q0 q1 q2 : Obj) (b0 b1 b2 p0 p1 p2 : Value) (nS nb np : Nat) (rest : List (Addr × Obj)) (H : Nat → List Int) (v : Nat) (tv : Tok) (u : Str → Option Value) (x2 : Option Value),
    m = mapL Pa Ba Sa pg lt D (v : Int) tv u ∧
    news = (c2, o2) :: (c1, oH) :: (D, oD) :: (Sa, listOf #[.ref d0, .ref d1, .ref d2] nS) :: (Ba, listOf #[b0, b1, b2] nb) :: (Pa, listOf #[p0, p1, p2] np) :: (d0, q0) :: (d1, q1) :: (d2, q2) :: rest ∧
    o2.data = .cell x2 ∧ v ≤ i ∧ (∀ j, j ≤ v → (H j).length = 3 + j) ∧ LI rest pg (H v) ∧ LI rest lt (H v) ∧
    ClientOk prog w H v rest q0 b0 p0 ∧ ClientOk prog w H v rest q1 b1 p1 ∧ ClientOk prog w H v rest q2 b2 p2 ∧
    (∀ p ∈ rest, p.1 ≠ c2 ∧ p.1 ≠ Ba ∧ p.1 ≠ Pa ∧ p.1 ≠ d0 ∧ p.1 ≠ d1 ∧ p.1 ≠ d2)

/-- the picked client -/
theorem pickClient {h₀ h : Heap} {L I : Addr} {oI : Obj} {prog : Program} {w : World} {H : Nat → List Int} {v : Nat} {rest : List (Addr × Obj)} {c1 c2 D Sa Ba Pa d0 d1 d2 : Nat} {o2 oH oD q0 q1 q2 : Obj} {b0 b1 b2 p0 p1 p2 : Value} {nS nb np : Nat}
    (N : News h₀ L h ((I, oI) :: (c2, o2) :: (c1, oH) :: (D, oD) :: (Sa, listOf #[.ref d0, .ref d1, .ref d2] nS) :: (Ba, listOf #[b0, b1, b2] nb) :: (Pa, listOf #[p0, p1, p2] np) :: (d0, q0) :: (d1, q1) :: (d2, q2) :: rest))
    (g0 : ClientOk prog w H v rest q0 b0 p0) (g1 : ClientOk prog w H v rest q1 b1 p1) (g2 : ClientOk prog w H v rest q2 b2 p2) (o01 : d0 ≠ d1) (o12 : d1 ≠ d2) (o02 : d0 ≠ d2) (c : Int) (hc : 0 ≤ c) (hc3 : c < 3) :
    ∃ (d da db : Nat) (q qa qb : Obj) (sv bv pv : List Value) (b p ba pa bb pb : Value),
      News h₀ L h ((I, oI) :: (c2, o2) :: (c1, oH) :: (D, oD) :: (Sa, listOf sv.toArray nS) :: (Ba, listOf bv.toArray nb) :: (Pa, listOf pv.toArray np) :: (d, q) :: (da, qa) :: (db, qb) :: rest) ∧
      sv.length = 3 ∧ bv.length = 3 ∧ pv.length = 3 ∧ sv[c.toNat]? = some (.ref d) ∧ bv[c.toNat]? = some b ∧ pv[c.toNat]? = some p ∧
      ClientOk prog w H v rest q b p ∧ d ≠ da ∧ d ≠ db ∧ da ≠ db ∧ (∀ a : Nat, a ≠ d0 ∧ a ≠ d1 ∧ a ≠ d2 ↔ a ≠ d ∧ a ≠ da ∧ a ≠ db) ∧
      (ClientOk prog w H v rest qa ba pa ∧ ClientOk prog w H v rest qb bb pb) ∧
      (∀ (b' p' : Value) (q' : Obj) (r' : List (Addr × Obj)) (h' : Heap) (o2' : Obj) (H' : Nat → List Int) (v' nb' np' : Nat), ClientOk prog w H' v' r' q' b' p' → ClientOk prog w H' v' r' qa ba pa → ClientOk prog w H' v' r' qb bb pb →
        News h₀ L h' ((I, oI) :: (c2, o2') :: (c1, oH) :: (D, oD) :: (Sa, listOf sv.toArray nS) :: (Ba, listOf (bv.set c.toNat b').toArray nb') :: (Pa, listOf (pv.set c.toNat p').toArray np') :: (d, q') :: (da, qa) :: (db, qb) :: r') →
        ∃ (e0 e1 e2 : Obj) (x0 x1 x2 y0 y1 y2 : Value), News h₀ L h' ((I, oI) :: (c2, o2') :: (c1, oH) :: (D, oD) :: (Sa, listOf #[.ref d0, .ref d1, .ref d2] nS) :: (Ba, listOf #[x0, x1, x2] nb') :: (Pa, listOf #[y0, y1, y2] np') :: (d0, e0) :: (d1, e1) :: (d2, e2) :: r') ∧
          ClientOk prog w H' v' r' e0 x0 y0 ∧ ClientOk prog w H' v' r' e1 x1 y1 ∧ ClientOk prog w H' v' r' e2 x2 y2) := by
  obtain rfl | rfl | rfl : c = 0 ∨ c = 1 ∨ c = 2 := by omega
  · refine ⟨d0, d1, d2, q0, q1, q2, [.ref d0, .ref d1, .ref d2], [b0, b1, b2], [p0, p1, p2], b0, p0, b1, p1, b2, p2, N, rfl, rfl, rfl, rfl, rfl, rfl, g0, by omega, by omega, by omega, fun a => Iff.rfl, ⟨g1, g2⟩, ?_⟩
    intro b' p' q' r' h' o2' H' v' nb' np' k kA kB N'
    exact ⟨q', q1, q2, b', b1, b2, p', p1, p2, N', k, kA, kB⟩
  · refine ⟨d1, d0, d2, q1, q0, q2, [.ref d0, .ref d1, .ref d2], [b0, b1, b2], [p0, p1, p2], b1, p1, b0, p0, b2, p2, ?_, rfl, rfl, rfl, rfl, rfl, rfl, g1, by omega, by omega, by omega, fun a => ⟨fun ha => ⟨ha.2.1, ha.1, ha.2.2⟩, fun ha => ⟨ha.2.1, ha.1, ha.2.2⟩⟩, ⟨g0, g2⟩, ?_⟩
    · intro p hp
      refine N p ?_
      simp only [List.mem_cons] at hp ⊢
      rcases hp with h | h | h | h | h | h | h | h | h | h | h <;> simp [h]
    intro b' p' q' r' h' o2' H' v' nb' np' k kA kB N'
    refine ⟨q0, q', q2, b0, b', b2, p0, p', p2, ?_, kA, k, kB⟩
    intro p hp
    refine N' p ?_
    simp only [List.mem_cons] at hp ⊢
    rcases hp with h | h | h | h | h | h | h | h | h | h | h <;> simp [h]
  · refine ⟨d2, d0, d1, q2, q0, q1, [.ref d0, .ref d1, .ref d2], [b0, b1, b2], [p0, p1, p2], b2, p2, b0, p0, b1, p1, ?_, rfl, rfl, rfl, rfl, rfl, rfl, g2, by omega, by omega, by omega, fun a => ⟨fun ha => ⟨ha.2.2, ha.1, ha.2.1⟩, fun ha => ⟨ha.2.1, ha.2.2, ha.1⟩⟩, ⟨g0, g1⟩, ?_⟩
    · intro p hp
      refine N p ?_
      simp only [List.mem_cons] at hp ⊢
      rcases hp with h | h | h | h | h | h | h | h | h | h | h <;> simp [h]
    intro b' p' q' r' h' o2' H' v' nb' np' k kA kB N'
    refine ⟨q0, q1, q', b0, b1, b', p0, p1, p', ?_, kA, kB, k⟩
    intro p hp
    refine N' p ?_
    simp only [List.mem_cons] at hp ⊢
    rcases hp with h | h | h | h | h | h | h | h | h | h | h <;> simp [h]

theorem apart {h₀ h : Heap} {L a b : Addr} {o o' : Obj} {news : List (Addr × Obj)} (N : News h₀ L h news) (ha : (a, o) ∈ news) (hb : (b, o') ∈ news) (hd : o.data ≠ o'.data) : a ≠ b := fun e => by
  have h1 := (N _ ha).1
  have h2 := (N _ hb).1
  dsimp only at h1 h2
  rw [e, h2] at h1
  cases h1
  exact hd rfl
theorem dictNe {prog : Program} {w : World} {o : Obj} {kvs : List (Int × Value)} (h : o.IsDictOf (intKind prog w) kvs) (vs : Array Value) (n : Nat) : o.data ≠ (listOf vs n).data := fun e => by
  obtain ⟨es, ep, _, h2, _⟩ := h
  rw [h2] at e; cases e

/-- what keeps the places of the loop apart -/
structure Apart (c1 c2 D Sa Ba Pa d0 d1 d2 : Nat) : Prop where
  c : c2 ≠ c1 ∧ c2 ≠ D ∧ c2 ≠ Sa ∧ c2 ≠ Ba ∧ c2 ≠ Pa ∧ c2 ≠ d0 ∧ c2 ≠ d1 ∧ c2 ≠ d2
  B : Ba ≠ c1 ∧ Ba ≠ D ∧ Ba ≠ Sa ∧ Ba ≠ Pa ∧ Ba ≠ d0 ∧ Ba ≠ d1 ∧ Ba ≠ d2
  P : Pa ≠ c1 ∧ Pa ≠ D ∧ Pa ≠ Sa ∧ Pa ≠ d0 ∧ Pa ≠ d1 ∧ Pa ≠ d2
  d : d0 ≠ c1 ∧ d0 ≠ D ∧ d0 ≠ Sa ∧ d1 ≠ c1 ∧ d1 ≠ D ∧ d1 ≠ Sa ∧ d2 ≠ c1 ∧ d2 ≠ D ∧ d2 ≠ Sa
  dd : d0 ≠ d1 ∧ d1 ≠ d2 ∧ d0 ≠ d2

theorem startJ {prog : Program} {w : World} {h₀ h : Heap} {L : Nat} {m : Str → Option Value} {news r1 r2 : List (Addr × Obj)} {D Sa Ba Pa d0 d1 d2 pg lt p0 p1 p2 : Nat} {q0 q1 q2 oH o2 : Obj} {vc : List Value} {nc n1 n2 nS nb np : Nat} {x1 x2 : Option Value}
    {tv a1 a2 a3 a4 a5 a6 t0 t1 t2 : Tok} (N : News h₀ L h news)
    (hm1 : m "good" = some (.bool true)) (hm2 : m "parts" = some (.ref Pa)) (hm3 : m "bases" = some (.ref Ba)) (hm4 : m "stores" = some (.ref Sa)) (hm5 : m "page" = some (.ref pg)) (hm6 : m "version" = some (.int 0 tv)) (hm7 : m "let" = some (.ref lt)) (hm8 : m "cells" = some (.ref D))
    (mS : (Sa, listOf #[.ref d0, .ref d1, .ref d2] nS) ∈ news) (mB : (Ba, listOf #[.int (-1) t0, .int (-1) t1, .int (-1) t2] nb) ∈ news) (mP : (Pa, listOf #[.ref p0, .ref p1, .ref p2] np) ∈ news)
    (md0 : (d0, q0) ∈ news) (md1 : (d1, q1) ∈ news) (md2 : (d2, q2) ∈ news) (k0 : q0.IsDictOf (intKind prog w) []) (k1 : q1.IsDictOf (intKind prog w) []) (k2 : q2.IsDictOf (intKind prog w) [])
    (mp0 : (p0, listOf #[] 0) ∈ news) (mp1 : (p1, listOf #[] 0) ∈ news) (mp2 : (p2, listOf #[] 0) ∈ news)
    (mpg : (pg, listOf #[.int 70 a1, .int 80 a2, .int 90 a3] n1) ∈ news) (mlt : (lt, listOf #[.int 70 a4, .int 80 a5, .int 90 a6] n2) ∈ news)
    (mc1 : (L + 1, oH) ∈ news) (mc2 : (L + 1 + 1, o2) ∈ news) (mD : (D, listOf vc.toArray nc) ∈ news) (hH : oH.data = .cell x1) (ho2 : o2.data = .cell x2)
    (n01 : ∀ p ∈ (d0, q0) :: r1, p.1 ≠ d1) (n12 : ∀ p ∈ (d1, q1) :: (d0, q0) :: r2, p.1 ≠ d2)
    (nB : Ba ≠ D ∧ Ba ≠ Sa ∧ Ba ≠ Pa ∧ Ba ≠ pg ∧ Ba ≠ lt ∧ Ba ≠ p0 ∧ Ba ≠ p1 ∧ Ba ≠ p2) (nP : Pa ≠ D ∧ Pa ≠ Sa ∧ Pa ≠ pg ∧ Pa ≠ lt ∧ Pa ≠ p0 ∧ Pa ≠ p1 ∧ Pa ≠ p2) :
    Apart (L + 1) (L + 1 + 1) D Sa Ba Pa d0 d1 d2 ∧ ∃ news', News h₀ L h news' ∧ JL prog w (L + 1) (L + 1 + 1) D Sa Ba Pa d0 d1 d2 oH (listOf vc.toArray nc) 0 m news' := by
  have cl : ∀ {b : Addr} {vs : Array Value} {n : Nat}, (b, listOf vs n) ∈ news → L + 1 + 1 ≠ b := fun hb => apart N mc2 hb (by rw [ho2]; exact fun e => nomatch e)
  have hl : ∀ {b : Addr} {vs : Array Value} {n : Nat}, (b, listOf vs n) ∈ news → L + 1 ≠ b := fun hb => apart N mc1 hb (by rw [hH]; exact fun e => nomatch e)
  have dl : ∀ {d b : Addr} {q : Obj} {vs : Array Value} {n : Nat}, (d, q) ∈ news → q.IsDictOf (intKind prog w) [] → (b, listOf vs n) ∈ news → d ≠ b := fun hd hk hb => apart N hd hb (dictNe hk _ _)
  have cd : ∀ {d : Addr} {q : Obj}, (d, q) ∈ news → q.IsDictOf (intKind prog w) [] → L + 1 + 1 ≠ d ∧ L + 1 ≠ d := fun hd hk => by
    obtain ⟨es, ep, _, h2, _⟩ := hk
    exact ⟨apart N mc2 hd (by rw [ho2, h2]; exact fun e => nomatch e), apart N mc1 hd (by rw [hH, h2]; exact fun e => nomatch e)⟩
  have e01 : d0 ≠ d1 := n01 _ (.head _)
  have e12 : d1 ≠ d2 := n12 _ (.head _)
  have e02 : d0 ≠ d2 := n12 _ (.tail _ (.head _))
  refine ⟨⟨⟨by omega, cl mD, cl mS, cl mB, cl mP, (cd md0 k0).1, (cd md1 k1).1, (cd md2 k2).1⟩,
    ⟨(hl mB).symm, nB.1, nB.2.1, nB.2.2.1, (dl md0 k0 mB).symm, (dl md1 k1 mB).symm, (dl md2 k2 mB).symm⟩,
    ⟨(hl mP).symm, nP.1, nP.2.1, (dl md0 k0 mP).symm, (dl md1 k1 mP).symm, (dl md2 k2 mP).symm⟩,
    ⟨(cd md0 k0).2.symm, dl md0 k0 mD, dl md0 k0 mS, (cd md1 k1).2.symm, dl md1 k1 mD, dl md1 k1 mS, (cd md2 k2).2.symm, dl md2 k2 mD, dl md2 k2 mS⟩, ⟨e01, e12, e02⟩⟩, ?_⟩
  refine ⟨(L + 1 + 1, o2) :: (L + 1, oH) :: (D, listOf vc.toArray nc) :: (Sa, listOf #[.ref d0, .ref d1, .ref d2] nS) :: (Ba, listOf #[.int (-1) t0, .int (-1) t1, .int (-1) t2] nb) :: (Pa, listOf #[.ref p0, .ref p1, .ref p2] np) :: (d0, q0) :: (d1, q1) :: (d2, q2) ::
    [(pg, listOf #[.int 70 a1, .int 80 a2, .int 90 a3] n1), (lt, listOf #[.int 70 a4, .int 80 a5, .int 90 a6] n2), (p0, listOf #[] 0), (p1, listOf #[] 0), (p2, listOf #[] 0)], newsSub N ?_, ?_⟩
  · intro p hp
    simp only [List.mem_cons, List.not_mem_nil, or_false] at hp
    rcases hp with e | e | e | e | e | e | e | e | e | e | e | e | e | e <;> rw [e] <;> assumption
  · have client : ∀ {q : Obj} {p : Nat} {t : Tok}, q.IsDictOf (intKind prog w) [] → (p, listOf #[] 0) ∈ [(pg, listOf #[.int 70 a1, .int 80 a2, .int 90 a3] n1), (lt, listOf #[.int 70 a4, .int 80 a5, .int 90 a6] n2), (p0, listOf #[] 0), (p1, listOf #[] 0), (p2, listOf #[] 0)] →
        ClientOk prog w (fun _ => [70, 80, 90]) 0 [(pg, listOf #[.int 70 a1, .int 80 a2, .int 90 a3] n1), (lt, listOf #[.int 70 a4, .int 80 a5, .int 90 a6] n2), (p0, listOf #[] 0), (p1, listOf #[] 0), (p2, listOf #[] 0)] q (.int (-1) t) (.ref p) := fun hk hp =>
      ⟨⟨[], ⟨hk, fun kv hkv => nomatch hkv⟩, ⟨-1, _, rfl, .inl rfl⟩, Nat.zero_le _⟩, ⟨_, rfl, .inl hp⟩⟩
    refine ⟨pg, lt, o2, q0, q1, q2, _, _, _, _, _, _, nS, nb, np, _, fun _ => [70, 80, 90], 0, tv, m, x2, mapL_of hm1 hm2 hm3 hm4 hm5 hm6 hm7 hm8, rfl, ho2, Nat.le_refl _, ?_, ?_, ?_, client k0 (by simp), client k1 (by simp), client k2 (by simp), ?_⟩
    · intro j hj
      have : j = 0 := by omega
      rw [this]; rfl
    · exact ⟨[.int 70 a1, .int 80 a2, .int 90 a3], n1, .head _, .cons _ _ (.cons _ _ (.cons _ _ .nil))⟩
    · exact ⟨[.int 70 a4, .int 80 a5, .int 90 a6], n2, .tail _ (.head _), .cons _ _ (.cons _ _ (.cons _ _ .nil))⟩
    · intro p hp
      simp only [List.mem_cons, List.not_mem_nil, or_false] at hp
      rcases hp with e | e | e | e | e <;> rw [e]
      · exact ⟨(cl mpg).symm, nB.2.2.2.1.symm, nP.2.2.1.symm, (dl md0 k0 mpg).symm, (dl md1 k1 mpg).symm, (dl md2 k2 mpg).symm⟩
      · exact ⟨(cl mlt).symm, nB.2.2.2.2.1.symm, nP.2.2.2.1.symm, (dl md0 k0 mlt).symm, (dl md1 k1 mlt).symm, (dl md2 k2 mlt).symm⟩
      · exact ⟨(cl mp0).symm, nB.2.2.2.2.2.1.symm, nP.2.2.2.2.1.symm, (dl md0 k0 mp0).symm, (dl md1 k1 mp0).symm, (dl md2 k2 mp0).symm⟩
      · exact ⟨(cl mp1).symm, nB.2.2.2.2.2.2.1.symm, nP.2.2.2.2.2.1.symm, (dl md0 k0 mp1).symm, (dl md1 k1 mp1).symm, (dl md2 k2 mp1).symm⟩
      · exact ⟨(cl mp2).symm, nB.2.2.2.2.2.2.2.symm, nP.2.2.2.2.2.2.symm, (dl md0 k0 mp2).symm, (dl md1 k1 mp2).symm, (dl md2 k2 mp2).symm⟩

theorem range_small (n : Nat) (h : n ≤ 16) : Builtin.Range.small 0 (n : Int) 1 = true ∧ Builtin.Range.rangeSize 0 (n : Int) 1 = (n : Int) := by
  have : ∀ k : Fin 17, Builtin.Range.small 0 ((k.val : Nat) : Int) 1 = true ∧ Builtin.Range.rangeSize 0 ((k.val : Nat) : Int) 1 = ((k.val : Nat) : Int) := by decide +kernel
  exact this ⟨n, by omega⟩

theorem lawLoop {prog : Program} {w : World} {A : Around} {E : Value → Shared → Prop} {s : Shared} {env : Env} {x : Str} {body : List Stmt} {Q : Flow → Shared → Prop} {h₀ : Heap} {L : Nat} {m : Str → Option Value} {news r1 r2 : List (Addr × Obj)} {D Sa Ba Pa d0 d1 d2 pg lt p0 p1 p2 r : Nat} {q0 q1 q2 oH o2 : Obj} {vc : List Value} {nc n1 n2 nS nb np n : Nat} {x1 x2 : Option Value}
    {tv a1 a2 a3 a4 a5 a6 t0 t1 t2 t₀ u₀ v₀ : Tok} (F : Fr h₀ L s.heap m) (N : News h₀ L s.heap news) (hL : env.locals = L) (hh : A.handled = none) (hr : IsRange s.heap r 0 (n : Int) 1 t₀ u₀ v₀) (hn : n ≤ 16)
    (hm1 : m "good" = some (.bool true)) (hm2 : m "parts" = some (.ref Pa)) (hm3 : m "bases" = some (.ref Ba)) (hm4 : m "stores" = some (.ref Sa)) (hm5 : m "page" = some (.ref pg)) (hm6 : m "version" = some (.int 0 tv)) (hm7 : m "let" = some (.ref lt)) (hm8 : m "cells" = some (.ref D))
    (mS : (Sa, listOf #[.ref d0, .ref d1, .ref d2] nS) ∈ news) (mB : (Ba, listOf #[.int (-1) t0, .int (-1) t1, .int (-1) t2] nb) ∈ news) (mP : (Pa, listOf #[.ref p0, .ref p1, .ref p2] np) ∈ news)
    (md0 : (d0, q0) ∈ news) (md1 : (d1, q1) ∈ news) (md2 : (d2, q2) ∈ news) (k0 : q0.IsDictOf (intKind prog w) []) (k1 : q1.IsDictOf (intKind prog w) []) (k2 : q2.IsDictOf (intKind prog w) [])
    (mp0 : (p0, listOf #[] 0) ∈ news) (mp1 : (p1, listOf #[] 0) ∈ news) (mp2 : (p2, listOf #[] 0) ∈ news)
    (mpg : (pg, listOf #[.int 70 a1, .int 80 a2, .int 90 a3] n1) ∈ news) (mlt : (lt, listOf #[.int 70 a4, .int 80 a5, .int 90 a6] n2) ∈ news)
    (mc1 : (L + 1, oH) ∈ news) (mc2 : (L + 1 + 1, o2) ∈ news) (mD : (D, listOf vc.toArray nc) ∈ news) (hH : oH.data = .cell x1) (ho2 : o2.data = .cell x2)
    (n01 : ∀ p ∈ (d0, q0) :: r1, p.1 ≠ d1) (n12 : ∀ p ∈ (d1, q1) :: (d0, q0) :: r2, p.1 ≠ d2)
    (nB : Ba ≠ D ∧ Ba ≠ Sa ∧ Ba ≠ Pa ∧ Ba ≠ pg ∧ Ba ≠ lt ∧ Ba ≠ p0 ∧ Ba ≠ p1 ∧ Ba ≠ p2) (nP : Pa ≠ D ∧ Pa ≠ Sa ∧ Pa ≠ pg ∧ Pa ≠ lt ∧ Pa ≠ p0 ∧ Pa ≠ p1 ∧ Pa ≠ p2)
    (turn : Apart (L + 1) (L + 1 + 1) D Sa Ba Pa d0 d1 d2 → ∀ i t m₁ news₁ h tk I oI, i < n → JL prog w (L + 1) (L + 1 + 1) D Sa Ba Pa d0 d1 d2 oH (listOf vc.toArray nc) i m₁ news₁ → Fr h₀ L h (fun y => if y = x then some (.int (i : Nat) t) else m₁ y) → News h₀ L h ((I, oI) :: news₁) → (∀ p ∈ news₁, p.1 ≠ I) →
      wpAny (model prog w) A (execs body env) (TurnJ h₀ L I oI (JL prog w (L + 1) (L + 1 + 1) D Sa Ba Pa d0 d1 d2 oH (listOf vc.toArray nc) (i + 1)) { s with heap := h, toks := tk }) E { s with heap := h, toks := tk })
    (done : ∀ m₁ news₁ h tk, JL prog w (L + 1) (L + 1 + 1) D Sa Ba Pa d0 d1 d2 oH (listOf vc.toArray nc) n m₁ news₁ → Fr h₀ L h m₁ → News h₀ L h news₁ → Q .next { s with heap := h, toks := tk }) :
    wpAny (model prog w) A (pyIter (.ref r)) (fun it s₂ => LoopAtV prog w A h₀ env x body Q E it s₂) E s := by
  subst hL
  obtain ⟨hA, news', N', hj⟩ := startJ N hm1 hm2 hm3 hm4 hm5 hm6 hm7 hm8 mS mB mP md0 md1 md2 k0 k1 k2 mp0 mp1 mp2 mpg mlt mc1 mc2 mD hH ho2 n01 n12 nB nP
  exact iter_rangeJ _ hh hr (range_small n hn).1 (range_small n hn).2 F N' hj (turn hA) done

theorem restNews {h₀ h : Heap} {L : Addr} {n1 n2 n3 n4 n5 n6 n7 n8 n9 : Addr × Obj} {rest : List (Addr × Obj)} (N : News h₀ L h (n1 :: n2 :: n3 :: n4 :: n5 :: n6 :: n7 :: n8 :: n9 :: rest)) : News h₀ L h rest := fun p hp =>
  N p (.tail _ (.tail _ (.tail _ (.tail _ (.tail _ (.tail _ (.tail _ (.tail _ (.tail _ hp)))))))))
theorem news2 {h₀ h : Heap} {L : Addr} {a b : Addr × Obj} {rest : List (Addr × Obj)} (N : News h₀ L h rest) (h1 : a ∈ rest) (h2 : b ∈ rest) : News h₀ L h [a, b] := fun p hp => by
  rcases List.mem_cons.mp hp with e | hp
  · rw [e]; exact N _ h1
  · rcases List.mem_cons.mp hp with e | hp
    · rw [e]; exact N _ h2
    · cases hp

theorem pickR {prog : Program} {w : World} {A : Around} {E : Value → Shared → Prop} {s : Shared} {value slice : PySem.Expr} {l : Addr} {vs : List Value} {k : Int} {u : Tok} {x : Value} {Q : Value → Shared → Prop} (hl : s.heap.IsList l vs.toArray) (hx : vs[k.toNat]? = some x)
    (h0 : 0 ≤ k) (h1 : k < 1000) (h : Q x s)
    (hs : subscripted slice false (.ref l) (.int k u) = operate [.ref l, .int k u] (getItem (.ref l) (.int k u)) := by with_unfolding_all rfl) :
    wpAny (model prog w) A (subscriptTail value slice (.ref l) (.int k u)) Q E s :=
  tail_any hl.typeIs slot_list_getitem.lookup (wpAny_getItem_list hl h0 (by omega) (x := x) (by simpa using hx) h) hs
/-- the places of a turn, apart -/
structure Apart1 (I c1 c2 D Sa Ba Pa d da db : Nat) : Prop where
  I : I ≠ c1 ∧ I ≠ c2 ∧ I ≠ D ∧ I ≠ Sa ∧ I ≠ Ba ∧ I ≠ Pa ∧ I ≠ d ∧ I ≠ da ∧ I ≠ db
  c : c2 ≠ c1 ∧ c2 ≠ D ∧ c2 ≠ Sa ∧ c2 ≠ Ba ∧ c2 ≠ Pa ∧ c2 ≠ d ∧ c2 ≠ da ∧ c2 ≠ db
  B : Ba ≠ c1 ∧ Ba ≠ D ∧ Ba ≠ Sa ∧ Ba ≠ Pa ∧ Ba ≠ d ∧ Ba ≠ da ∧ Ba ≠ db
  P : Pa ≠ c1 ∧ Pa ≠ D ∧ Pa ≠ Sa ∧ Pa ≠ d ∧ Pa ≠ da ∧ Pa ≠ db
  d : d ≠ c1 ∧ d ≠ D ∧ d ≠ Sa ∧ d ≠ da ∧ d ≠ db
theorem Apart.turn {I c1 c2 D Sa Ba Pa d0 d1 d2 d da db : Nat} (h : Apart c1 c2 D Sa Ba Pa d0 d1 d2) (hI : I ≠ c1 ∧ I ≠ c2 ∧ I ≠ D ∧ I ≠ Sa ∧ I ≠ Ba ∧ I ≠ Pa ∧ I ≠ d0 ∧ I ≠ d1 ∧ I ≠ d2)
    (ne : ∀ a : Nat, a ≠ d0 ∧ a ≠ d1 ∧ a ≠ d2 → a ≠ d ∧ a ≠ da ∧ a ≠ db) (n1 : d ≠ da) (n2 : d ≠ db) : Apart1 I c1 c2 D Sa Ba Pa d da db := by
  obtain ⟨c, B, P, dd, _⟩ := h
  have hi := ne I hI.2.2.2.2.2.2
  have hc := ne c2 ⟨c.2.2.2.2.2.1, c.2.2.2.2.2.2.1, c.2.2.2.2.2.2.2⟩
  have hB := ne Ba ⟨B.2.2.2.2.1, B.2.2.2.2.2.1, B.2.2.2.2.2.2⟩
  have hP := ne Pa ⟨P.2.2.2.1, P.2.2.2.2.1, P.2.2.2.2.2⟩
  have hc1 := ne c1 ⟨dd.1.symm, dd.2.2.2.1.symm, dd.2.2.2.2.2.2.1.symm⟩
  have hD := ne D ⟨dd.2.1.symm, dd.2.2.2.2.1.symm, dd.2.2.2.2.2.2.2.1.symm⟩
  have hS := ne Sa ⟨dd.2.2.1.symm, dd.2.2.2.2.2.1.symm, dd.2.2.2.2.2.2.2.2.symm⟩
  exact ⟨⟨hI.1, hI.2.1, hI.2.2.1, hI.2.2.2.1, hI.2.2.2.2.1, hI.2.2.2.2.2.1, hi.1, hi.2.1, hi.2.2⟩,
    ⟨c.1, c.2.1, c.2.2.1, c.2.2.2.1, c.2.2.2.2.1, hc.1, hc.2.1, hc.2.2⟩, ⟨B.1, B.2.1, B.2.2.1, B.2.2.2.1, hB.1, hB.2.1, hB.2.2⟩, ⟨P.1, P.2.1, P.2.2.1, hP.1, hP.2.1, hP.2.2⟩, ⟨hc1.1.symm, hD.1.symm, hS.1.symm, n1, n2⟩⟩

theorem listN {h₀ h : Heap} {L l : Addr} {vs : List Value} {n : Nat} {news : List (Addr × Obj)} (N : News h₀ L h news) (hm : (l, listOf vs.toArray n) ∈ news) : h.IsList l vs.toArray := ⟨_, (N _ hm).1, rfl, n, rfl⟩

/-- apart, hidden from omega -/
def Ap (a b : Nat) : Prop := a ≠ b
theorem Ap.of {a b : Nat} (h : a ≠ b) : Ap a b := h
theorem Ap.ne {a b : Nat} (h : Ap a b) : a ≠ b := h
theorem Ap.ne' {a b : Nat} (h : Ap a b) : b ≠ a := Ne.symm h
theorem Apart1.hide {I c1 c2 D Sa Ba Pa d da db : Nat} (h : Apart1 I c1 c2 D Sa Ba Pa d da db) :
    (Ap I c1 ∧ Ap I c2 ∧ Ap I D ∧ Ap I Sa ∧ Ap I Ba ∧ Ap I Pa ∧ Ap I d ∧ Ap I da ∧ Ap I db) ∧ (Ap c2 c1 ∧ Ap c2 D ∧ Ap c2 Sa ∧ Ap c2 Ba ∧ Ap c2 Pa ∧ Ap c2 d ∧ Ap c2 da ∧ Ap c2 db) ∧
    (Ap Ba c1 ∧ Ap Ba D ∧ Ap Ba Sa ∧ Ap Ba Pa ∧ Ap Ba d ∧ Ap Ba da ∧ Ap Ba db) ∧ (Ap Pa c1 ∧ Ap Pa D ∧ Ap Pa Sa ∧ Ap Pa d ∧ Ap Pa da ∧ Ap Pa db) ∧ (Ap d c1 ∧ Ap d D ∧ Ap d Sa ∧ Ap d da ∧ Ap d db) := ⟨h.I, h.c, h.B, h.P, h.d⟩
end Mine
end
section
namespace Mine
open PySem PySem.W PyProof.Rows

def HeadOk (x : Str) : Prop := x = Str.ofString "v" ∨ x = Str.ofString "v, " ∨ x = Str.ofString "W/" ∨ x = Str.ofString "*" ∨ x = Str.ofString "a=;"
/-- the tag of a version -/
abbrev tagOf (x : Str) (v : Nat) : Str := x ++ Str.ofString (toString (v : Int))
theorem tag_small {x : Str} {v : Nat} (h : HeadOk x) (hv : v ≤ 16) : x.length + (Str.ofString (toString (v : Int))).length ≤ 10 ∧ 1 ≤ x.length := by
  have hf : v < 17 := by omega
  rcases h with rfl | rfl | rfl | rfl | rfl
  · exact (by decide +kernel : ∀ k : Fin 17, (Str.ofString "v").length + (Str.ofString (toString ((k.val : Nat) : Int))).length ≤ 10 ∧ 1 ≤ (Str.ofString "v").length) ⟨v, hf⟩
  · exact (by decide +kernel : ∀ k : Fin 17, (Str.ofString "v, ").length + (Str.ofString (toString ((k.val : Nat) : Int))).length ≤ 10 ∧ 1 ≤ (Str.ofString "v, ").length) ⟨v, hf⟩
  · exact (by decide +kernel : ∀ k : Fin 17, (Str.ofString "W/").length + (Str.ofString (toString ((k.val : Nat) : Int))).length ≤ 10 ∧ 1 ≤ (Str.ofString "W/").length) ⟨v, hf⟩
  · exact (by decide +kernel : ∀ k : Fin 17, (Str.ofString "*").length + (Str.ofString (toString ((k.val : Nat) : Int))).length ≤ 10 ∧ 1 ≤ (Str.ofString "*").length) ⟨v, hf⟩
  · exact (by decide +kernel : ∀ k : Fin 17, (Str.ofString "a=;").length + (Str.ofString (toString ((k.val : Nat) : Int))).length ≤ 10 ∧ 1 ≤ (Str.ofString "a=;").length) ⟨v, hf⟩
/-- a fact of the tags, head by head and version by version -/
theorem tag_all {P : Str → Nat → Prop} [∀ x v, Decidable (P x v)] (hd : ([Str.ofString "v", Str.ofString "v, ", Str.ofString "W/", Str.ofString "*", Str.ofString "a=;"].all fun x => (List.range 17).all fun v => decide (P x v)) = true) {x : Str} {v : Nat} (h : HeadOk x) (hv : v ≤ 16) : P x v := by
  have hx : x ∈ [Str.ofString "v", Str.ofString "v, ", Str.ofString "W/", Str.ofString "*", Str.ofString "a=;"] := by
    rcases h with rfl | rfl | rfl | rfl | rfl <;> simp
  exact of_decide_eq_true (List.all_eq_true.mp (List.all_eq_true.mp hd x hx) v (List.mem_range.mpr (by omega)))
theorem tag_noquote {x : Str} {v : Nat} (h : HeadOk x) (hv : v ≤ 16) : ∀ c ∈ (tagOf x v).cps.toList, c ≠ 34 :=
  tag_all (P := fun x v => ∀ c ∈ (tagOf x v).cps.toList, c ≠ 34) (by decide +kernel) h hv
theorem tag_none {x : Str} {v : Nat} (h : HeadOk x) (hv : v ≤ 16) : tagOf x v ≠ Str.ofString "none" :=
  tag_all (P := fun x v => tagOf x v ≠ Str.ofString "none") (by decide +kernel) h hv
theorem tag_inj {x : Str} {v u : Nat} (h : HeadOk x) (hv : v ≤ 16) (hu : u ≤ 16) (e : tagOf x v = tagOf x u) : v = u :=
  tag_all (P := fun x v => ∀ u ∈ List.range 17, tagOf x v = tagOf x u → v = u) (by decide +kernel) h hv u (List.mem_range.mpr (by omega)) e
theorem add_ok {x : Str} {v : Nat} (h : HeadOk x) (hv : v ≤ 16) : x.length + (Str.ofString (toString (v : Int))).length ≤ sizeLine := Nat.le_trans (tag_small h hv).1 (by decide)
theorem tag_occ {x : Str} {v : Nat} (h : HeadOk x) (hv : v ≤ 16) : (Builtin.Str.occurrences (x ++ Str.ofString (toString (v : Int))) (Str.ofString "\"") 0 (x ++ Str.ofString (toString (v : Int))).length 1).isEmpty = true := by
  have e : Str.ofString "\"" = ⟨#[34]⟩ := rfl
  have := StrLaws.found_one (x ++ Str.ofString (toString (v : Int))) 34
  rw [← e] at this
  have hn : ¬ (34 ∈ (x ++ Str.ofString (toString (v : Int))).cps.toList) := fun hm => tag_noquote h hv 34 hm rfl
  rw [decide_eq_false hn] at this
  simpa using this
theorem tag_len {x : Str} {v : Nat} (h : HeadOk x) (hv : v ≤ 16) : (x ++ Str.ofString (toString (v : Int))).length ≤ 10 ∧ 1 ≤ (x ++ Str.ofString (toString (v : Int))).length :=
  tag_all (P := fun x v => (tagOf x v).length ≤ 10 ∧ 1 ≤ (tagOf x v).length) (by decide +kernel) h hv
end Mine
end
section
open PySem PySem.W PyProof.Rows
namespace Mine
local macro_rules | `(tactic| walk_at "mine pad 0") => `(tactic| fail "pad")
local macro_rules | `(tactic| walk_at "mine pad 1") => `(tactic| fail "pad")
local macro_rules | `(tactic| walk_at "mine pad 2") => `(tactic| fail "pad")
local macro_rules | `(tactic| walk_at "mine pad 3") => `(tactic| fail "pad")
local macro_rules | `(tactic| walk_at "mine pad 4") => `(tactic| fail "pad")
local macro_rules | `(tactic| walk_at "mine pad 5") => `(tactic| fail "pad")
local macro_rules | `(tactic| walk_at "mine pad 6") => `(tactic| fail "pad")
local macro_rules | `(tactic| walk_at "mine pad 7") => `(tactic| fail "pad")
local macro_rules | `(tactic| walk_at "mine pad 8") => `(tactic| fail "pad")
local macro_rules | `(tactic| walk_at "mine pad 9") => `(tactic| fail "pad")
local macro_rules | `(tactic| walk_at "mine pad 10") => `(tactic| fail "pad")
local macro_rules | `(tactic| walk_at "mine pad 11") => `(tactic| fail "pad")
local macro_rules | `(tactic| walk_at "mine pad 12") => `(tactic| fail "pad")
local macro_rules | `(tactic| walk_at "mine pad 13") => `(tactic| fail "pad")
local macro_rules | `(tactic| walk_at "mine pad 14") => `(tactic| fail "pad")
local macro_rules | `(tactic| walk_at "mine pad 15") => `(tactic| fail "pad")
local macro_rules | `(tactic| walk_at "mine pad 16") => `(tactic| fail "pad")
local macro_rules | `(tactic| walk_at "mine pad 17") => `(tactic| fail "pad")
local macro_rules | `(tactic| walk_at "mine pad 18") => `(tactic| fail "pad")
local macro_rules | `(tactic| walk_at "mine pad 19") => `(tactic| fail "pad")
local macro_rules | `(tactic| walk_at "mine pad 20") => `(tactic| fail "pad")
local macro_rules | `(tactic| walk_at "mine pad 21") => `(tactic| fail "pad")
local macro_rules | `(tactic| walk_at "mine pad 22") => `(tactic| fail "pad")
local macro_rules | `(tactic| walk_at "mine pad 23") => `(tactic| fail "pad")
local macro_rules | `(tactic| walk_at "mine pad 24") => `(tactic| fail "pad")
local macro_rules | `(tactic| walk_at "mine pad 25") => `(tactic| fail "pad")
local macro_rules | `(tactic| walk_at "mine pad 26") => `(tactic| fail "pad")
local macro_rules | `(tactic| walk_at "mine pad 27") => `(tactic| fail "pad")
local macro_rules | `(tactic| walk_at "mine pad 28") => `(tactic| fail "pad")
local macro_rules | `(tactic| walk_at "mine pad 29") => `(tactic| fail "pad")
local macro_rules | `(tactic| walk_at "mine pad 30") => `(tactic| fail "pad")
local macro_rules | `(tactic| walk_at "mine pad 31") => `(tactic| fail "pad")
local macro_rules | `(tactic| walk_at "mine pad 32") => `(tactic| fail "pad")
local macro_rules | `(tactic| walk_at "mine pad 33") => `(tactic| fail "pad")
local macro_rules | `(tactic| walk_at "mine pad 34") => `(tactic| fail "pad")
local macro_rules | `(tactic| walk_at "mine pad 35") => `(tactic| fail "pad")
local macro_rules | `(tactic| walk_at "mine pad 36") => `(tactic| fail "pad")
local macro_rules | `(tactic| walk_at "mine pad 37") => `(tactic| fail "pad")
local macro_rules | `(tactic| walk_at "mine pad 38") => `(tactic| fail "pad")
local macro_rules | `(tactic| walk_at "mine pad 39") => `(tactic| fail "pad")
local macro_rules | `(tactic| walk_at "mine pad 40") => `(tactic| fail "pad")
local macro_rules | `(tactic| walk_at "mine pad 41") => `(tactic| fail "pad")
local macro_rules | `(tactic| walk_at "mine pad 42") => `(tactic| fail "pad")
local macro_rules | `(tactic| walk_at "mine pad 43") => `(tactic| fail "pad")
local macro_rules | `(tactic| walk_at "mine pad 44") => `(tactic| fail "pad")
local macro_rules | `(tactic| walk_at "mine pad 45") => `(tactic| fail "pad")
local macro_rules | `(tactic| walk_at "mine pad 46") => `(tactic| fail "pad")
local macro_rules | `(tactic| walk_at "mine pad 47") => `(tactic| fail "pad")
local macro_rules | `(tactic| walk_at "mine pad 48") => `(tactic| fail "pad")
local macro_rules | `(tactic| walk_at "mine pad 49") => `(tactic| fail "pad")
local macro_rules | `(tactic| walk_at "mine pad 50") => `(tactic| fail "pad")
local macro_rules | `(tactic| walk_at "mine pad 51") => `(tactic| fail "pad")
local macro_rules | `(tactic| walk_at "mine pad 52") => `(tactic| fail "pad")
local macro_rules | `(tactic| walk_at "exec While") => `(tactic| (k_here; refine Mine.Stop.go ?_))
local macro_rules | `(tactic| k_room) => `(tactic| ((try simp only [depth_under_make, depth_under_kw, depth_in1, depth_deeper, depth_caller]); show _ < 1000; omega))
local macro_rules | `(tactic| k_units) => `(tactic| (show _ < 9900; (try simp only [Around.in1_units, Around.deeper_units, Around.mark_units]); omega))
local macro_rules | `(tactic| walk_at "call type:frozenset nil nil") => `(tactic| (k_here; k_dflt (refine' fset0_K' ?F ?N ?_; (case F => k_asm); (case N => k_asm); k_whole); intro a' h' o' F' N' S' l1; (try k_lt l1); (try k_sweep)))
local macro_rules | `(tactic| walk_at "call type:frozenset cons nil") => `(tactic| (k_here; k_dflt (first
  | (refine' fsetL_K ?F ?N ?m ?x ?hh ?hb ?_; (case F => k_asm); (case N => k_asm); (case m => k_mem); (case x => assumption); (case hh => rfl); (case hb => omega); k_whole)
  | (refine' fsetT_K ?F ?N ?t ?hh ?_; (case F => k_asm); (case N => k_asm); (case t => exact ⟨_, News.get (by k_asm) (by k_mem), rfl, _, rfl⟩); (case hh => rfl); k_whole)); intro a' h' tk' o' F' N' S' l1; (try k_lt l1); (try k_sweep)))
local macro_rules | `(tactic| walk_at "truthy ref") => `(tactic| (k_here; k_dflt (refine' fset_truthy_K ?N ?m ?f ?hn ?_; (case N => k_asm); (case m => k_mem); (case f => assumption); (case hn => omega); k_whole); intro b' tk' hb'))
local macro_rules | `(tactic| walk_at "compareOp In str ref") => `(tactic| (k_here; k_dflt (refine' fset_in_K ?N ?m ?f ?hn ?_; (case N => k_asm); (case m => k_mem); (case f => assumption); (case hn => omega); k_whole); intro tk'))
local macro_rules | `(tactic| walk_at "getMethod ref") => `(tactic| (k_here; k_dflt (first
  | (refine' meth_pattern ?P slot_pattern_match type_pattern_match ?_; (case P => exact PatAt.keeps (by assumption) (Fr.keep (by k_asm))); k_whole)
  | (refine' meth_match ?f slot_match_groups type_match_groups ?_; (case f => exact foundN (by k_asm) (by k_mem) (by k_mem)); k_whole)
  | (refine' meth_match ?f slot_match_end type_match_end ?_; (case f => exact foundN (by k_asm) (by k_mem) (by k_mem)); k_whole))))
local macro_rules | `(tactic| walk_at "call builtin:re.Pattern.match") => `(tactic| (k_here; k_dflt (first
  | (refine' matchK_yes ?F ?N ?P ?g ?hp ?hx ?hm ?hk ?ok ?len ?_; (case F => k_asm); (case N => k_asm); (case hm => assumption); (case P => assumption); (case g => rfl); (case hp => omega); (case hx => omega); (case hk => decide); (case ok => assumption); (case len => exact Nat.le_of_ble_eq_true rfl); k_whole; intro a' T' h' F' N' l1 l2; (try k_lt l1); (try k_lt2 l2); (try k_sweep))
  | (refine' matchK_no ?F ?P ?hp ?hx ?hm ?hk ?_; (case F => k_asm); (case hm => assumption); (case P => assumption); (case hp => omega); (case hx => omega); (case hk => decide); k_whole))))
local macro_rules | `(tactic| walk_at "call builtin:re.Match.groups") => `(tactic| (k_here; k_dflt (refine' groupsK3 ?F ?N ?f ?hx ?_; (case F => k_asm); (case N => k_asm); (case f => exact foundN (by k_asm) (by k_mem) (by k_mem)); (case hx => omega); k_whole); intro T' t1' t2' t3' h' tk' F' N' l1; (try dsimp only [partOf] at N'); (try k_lt l1); (try k_sweep)))
local macro_rules | `(tactic| walk_at "call builtin:re.Match.end") => `(tactic| (k_here; k_dflt (refine' endK ?f ?_; (case f => exact foundN (by k_asm) (by k_mem) (by k_mem)); k_whole)))
local macro_rules | `(tactic| walk_at "truthy str") => `(tactic| (k_here; k_dflt (refine' truthy_text ?a ?b ?_; (case a => omega); (case b => omega); k_whole); intro tk'))
local macro_rules | `(tactic| walk_at "truthy ref") => `(tactic| (k_here; k_dflt (refine' truthy_listK ?N ?m ?hb ?_; (case N => k_asm); (case m => k_mem); (case hb => omega); k_whole); intro tk'))

/-- a told tag, as the law writes it -/
def markS (k : Int) : Str := if k = 0 then Str.ofString "" else if k = 1 then Str.ofString "W/" else Str.ofString "w/"
def toldS (k : Int) (g : Str) : Str := markS k ++ Str.ofString "\"" ++ g ++ Str.ofString "\""
theorem told_fit {k : Int} {g : Str} (hg : g.length ≤ 100) : (markS k).length + (Str.ofString "\"").length ≤ sizeLine ∧ (markS k ++ Str.ofString "\"").length + g.length ≤ sizeLine ∧ (markS k ++ Str.ofString "\"" ++ g).length + (Str.ofString "\"").length ≤ sizeLine := by
  have e1 : (Str.ofString "\"").length = 1 := rfl
  have e2 : (markS k).length ≤ 2 := by unfold markS; split; · decide
                                       split <;> decide
  simp only [Str.length_append, e1, sizeLine_eq]
  omega

theorem told_K {w : World} {ad : Nat} {ag : Option (List Code)} {au : Nat} {base : Heap} {outer : List Env} {s : Shared} {lz : List Str} {mean : ExcName → Option Value} {mg mb : Str → Option Value} {g : Str} {k : Int} {t u : Tok}
    (B : Below ⟨none, ad, some outer, ag, au⟩ base outer s.heap) (X : (hd1.heap_39 w.params).In s.heap) (T : Top hd1.view_39 lz mean mg mb s.heap) (hA : ad < 450) (hu : au < 450) (hg : g.length ≤ 100) :
    codeAny (model PySem.Challenge.rw_ez0420_01.row.prog w) ⟨none, ad, some outer, ag, au⟩ (.call (.ref 346) ⟨[.str g t, .int k u], []⟩) (PureR s fun v h => ∃ t', v = .str (toldS k g) t') s := by
  revert X; k_fill; intro X
  refine' enterB (binds := [("tag", .str g t), ("weak", .int k u)]) B X T.nolimit ?k1 ?k6 ?k7 ?k9 ?kB ?c2 ?c3 ?c4 ?c5 ?_
  case k6 => k_is
  case k7 => k_is
  case k1 => show _ < 1000; omega
  case k9 => first | exact BindsTo.of_eq rfl | exact binds_K (by k_in) rfl (by k_is) rfl rfl rfl | fail "k_enter: no rule for these arguments"
  case kB => exact locs rfl
  case c2 => exact rfl
  case c3 => exact rfl
  case c4 => exact rfl
  case c5 => decide
  intro L' h' F' N' B'
  (try dsimp only)
  (try k_fold)
  obtain ⟨f1, f2, f3⟩ := told_fit (k := k) hg
  by_cases k0 : k = 0
  · subst k0
    k_steps
    all_goals exact PureR.intro (by assumption) ⟨_, rfl⟩
  · by_cases k1 : k = 1
    · subst k1
      k_steps
      all_goals exact PureR.intro (by assumption) ⟨_, rfl⟩
    · have em : markS k = Str.ofString "w/" := by unfold markS; rw [if_neg k0, if_neg k1]
      have et : toldS k g = Str.ofString "w/" ++ Str.ofString "\"" ++ g ++ Str.ofString "\"" := by unfold toldS; rw [em]
      rw [em] at f1 f2 f3
      k_steps
      all_goals first | exact PureR.intro (by assumption) ⟨_, congrArg (Value.str · _) et.symm⟩ | (exfalso; omega)
/-- the told tag in a walk -/
theorem told_W {w : World} {A₀ A : Around} {s : Shared} {base h₀ : Heap} {outer : List Env} {L : Addr} {m : Str → Option Value} {env : Env} {news : List (Addr × Obj)}
    {lz : List Str} {mean : ExcName → Option Value} {mg mb : Str → Option Value} {Q : Value → Shared → Prop} {E : Value → Shared → Prop} {g : Str} {k : Int} {t u : Tok} (B : Below A₀ base outer h₀) (F : Fr h₀ L s.heap m) (N : News h₀ L s.heap news) (X : (hd1.heap_39 w.params).In h₀) (T : Top hd1.view_39 lz mean mg mb h₀)
    (hA : A.frames = some (env :: outer)) (hf : env.frame = some L) (hke : env.scope.kind = .function) (hh : A.handled = none) (hd : A.depth < 450) (hu : A.units < 450) (hg : g.length ≤ 100)
    (h : ∀ (h' : Heap) (tk : Nat) (t' : Tok), Fr h₀ L h' m → News h₀ L h' news → Q (.str (toldS k g) t') { s with heap := h', toks := tk }) :
    wpAny (model PySem.Challenge.rw_ez0420_01.row.prog w) A (call (.ref 346) [.str g t, .int k u]) Q E s := by
  have B' := belowAt (s := s) B F hA hf hke
  refine pureK (R := fun v h => ∃ t', v = .str (toldS k g) t') F N (anyAround hh hA fun ad ag au e => ?_) fun v h' tk F' N' f => ?_
  · subst e
    exact told_K B' (X.keeps F.keep) (T.keeps F.keep) hd hu hg
  · obtain ⟨t', rfl⟩ := f
    exact h h' tk t' F' N'
end Mine
end
section
namespace Mine
open PySem PySem.W PyProof.Rows

/-- the law's own text, taken from the program by its place -/
def lastOf : List Stmt → Stmt
  | [] => .Pass default
  | [a] => a
  | _ :: b :: r => lastOf (b :: r)
def defBody : Stmt → List Stmt
  | .FunctionDef _ _ b _ _ _ _ _ _ _ => b
  | _ => []
def defScope : Stmt → Scope
  | .FunctionDef _ _ _ _ _ _ s _ _ _ => s
  | _ => default
def forBody : Stmt → List Stmt
  | .For _ _ b _ _ => b
  | _ => []
def ifBody : Stmt → List Stmt
  | .If _ b _ _ => b
  | _ => []
def ifElse : Stmt → List Stmt
  | .If _ _ b _ => b
  | _ => []
def fstOf : List Stmt → Stmt
  | a :: _ => a
  | _ => .Pass default
def sndOf : List Stmt → Stmt
  | _ :: a :: _ => a
  | _ => .Pass default
def third : List Stmt → Stmt
  | _ :: _ :: a :: _ => a
  | _ => .Pass default
def sixth : List Stmt → Stmt
  | _ :: _ :: _ :: _ :: _ :: a :: _ => a
  | _ => .Pass default
def lawDef : Stmt := lastOf PySem.Challenge.pw_ez0420_01.main.body
def lawScope : Scope := defScope lawDef
def deedIf : Stmt := third (forBody (sixth (defBody lawDef)))
def body0 : List Stmt := ifBody deedIf
def if1 : Stmt := fstOf (ifElse deedIf)
def body1 : List Stmt := ifBody if1
def if2 : Stmt := fstOf (ifElse if1)
def body2 : List Stmt := ifBody if2
def if3 : Stmt := fstOf (ifElse if2)
def body3 : List Stmt := ifBody if3
example : ∃ t b o p, deedIf = .If t b o p := ⟨_, _, _, _, rfl⟩
example : ∃ t b o p, if3 = .If t b o p := ⟨_, _, _, _, rfl⟩
example : ∃ a b, body3 = a :: b := ⟨_, _, rfl⟩
def drop3 : List Stmt → List Stmt
  | _ :: _ :: _ :: r => r
  | _ => []
def rest0 : List Stmt := drop3 body0
example : ∃ a b c, body0 = a :: b :: c :: rest0 := ⟨_, _, _, rfl⟩
end Mine
end
section
namespace Mine
open PySem PySem.W PyProof.Rows

/-- what a deed must leave behind -/
def FinT (prog : Program) (w : World) (h₀ : Heap) (L I D Sa Ba Pa d da db : Nat) (oI oH oD qa qb : Obj) (sv bv pv : List Value) (ba pa bb pb : Value) (nS i : Nat) (c : Int) (s : Shared) (Q : Flow → Shared → Prop) : Prop :=
  ∀ (b' p' : Value) (q' : Obj) (r' : List (Addr × Obj)) (h' : Heap) (tk' : Nat) (m' : Str → Option Value) (o2' : Obj) (x2' : Option Value) (H' : Nat → List Int) (v' nb' np' : Nat) (pg' lt' : Addr) (tv' : Tok) (all : List (Addr × Obj)),
    v' ≤ i + 1 → (∀ j, j ≤ v' → (H' j).length = 3 + j) → o2'.data = .cell x2' →
    m' "good" = some (.bool true) → m' "parts" = some (.ref Pa) → m' "bases" = some (.ref Ba) → m' "stores" = some (.ref Sa) → m' "page" = some (.ref pg') → m' "version" = some (.int (v' : Int) tv') → m' "let" = some (.ref lt') → m' "cells" = some (.ref D) →
    Fr h₀ L h' m' → News h₀ L h' all →
    (I, oI) ∈ all → (L + 1 + 1, o2') ∈ all → (L + 1, oH) ∈ all → (D, oD) ∈ all → (Sa, listOf sv.toArray nS) ∈ all → (Ba, listOf (bv.set c.toNat b').toArray nb') ∈ all → (Pa, listOf (pv.set c.toNat p').toArray np') ∈ all → (d, q') ∈ all → (da, qa) ∈ all → (db, qb) ∈ all → (∀ p ∈ r', p ∈ all) →
    LI r' pg' (H' v') → LI r' lt' (H' v') → ClientOk prog w H' v' r' q' b' p' → ClientOk prog w H' v' r' qa ba pa → ClientOk prog w H' v' r' qb bb pb →
    (∀ p ∈ r', p.1 ≠ I ∧ p.1 ≠ L + 1 + 1 ∧ p.1 ≠ Ba ∧ p.1 ≠ Pa ∧ p.1 ≠ d ∧ p.1 ≠ da ∧ p.1 ≠ db) →
    Q .next { s with heap := h', toks := tk' }
end Mine
namespace Mine
open PySem PySem.W PyProof.Rows
theorem FinT.to {prog : Program} {w : World} {h₀ : Heap} {L I D Sa Ba Pa d da db : Nat} {oI oH oD qa qb : Obj} {sv bv pv : List Value} {ba pa bb pb : Value} {nS i : Nat} {c : Int} {s s' : Shared} {Q Q' : Flow → Shared → Prop}
    (f : FinT prog w h₀ L I D Sa Ba Pa d da db oI oH oD qa qb sv bv pv ba pa bb pb nS i c s Q) (e : ∀ h t, ({ s' with heap := h, toks := t } : Shared) = { s with heap := h, toks := t }) (g : ∀ s, Q .next s → Q' .next s) :
    FinT prog w h₀ L I D Sa Ba Pa d da db oI oH oD qa qb sv bv pv ba pa bb pb nS i c s' Q' := by
  intro b' p' q' r' h' tk' m' o2' x2' H' v' nb' np' pg' lt' tv' all a1 a2 a3 a4 a5 a6 a7 a8 a9 a10 a11 a12 a13 a14 a15 a16 a17 a18 a19 a20 a21 a22 a23 a24 a25 a26 a27 a28 a29 a30
  rw [e]
  exact g _ (f b' p' q' r' h' tk' m' o2' x2' H' v' nb' np' pg' lt' tv' all a1 a2 a3 a4 a5 a6 a7 a8 a9 a10 a11 a12 a13 a14 a15 a16 a17 a18 a19 a20 a21 a22 a23 a24 a25 a26 a27 a28 a29 a30)
end Mine
end
section
namespace Mine
open PySem PySem.W PySem.Calls PyProof.Rows

theorem subT {a : Addr × Obj} {r l : List (Addr × Obj)} (h : ∀ p ∈ r, p ∈ l) : ∀ p ∈ r, p ∈ a :: l := fun p hp => .tail _ (h p hp)
theorem subR {r : List (Addr × Obj)} : ∀ p ∈ r, p ∈ r := fun _ hp => hp
section
variable {prog : Program} {w : World} {A : Around} {E : Value → Shared → Prop} {s : Shared} {h₀ h : Heap} {L l a b : Addr} {m : Str → Option Value} {news news' rest : List (Addr × Obj)} {value slice : PySem.Expr} {xs ys : List Int} {Q : Value → Shared → Prop}

theorem LI.list (N : News h₀ L h news) (hs : ∀ p ∈ rest, p ∈ news) (li : LI rest l xs) : ∃ vs, h.IsList l vs.toArray ∧ IntsAre vs xs := by
  obtain ⟨vs, n, hm, hi⟩ := li
  exact ⟨vs, listN N (hs _ hm), hi⟩
theorem sliceUpLI {y : Int} {t : Tok} (F : Fr h₀ L s.heap m) (N : News h₀ L s.heap news) (hs : ∀ p ∈ rest, p ∈ news) (li : LI rest l xs) (hy : 0 ≤ y) (hx : xs.length ≤ 1000)
    (h : ∀ D h' zs, Fr h₀ L h' m → News h₀ L h' ((D, listOf (List.toArray zs) 0) :: news) → (∀ p ∈ news, p.1 < D) → IntsAre zs (xs.take y.toNat) → Q (.ref D) { s with heap := h' })
    (hsb : subscripted slice false (.ref l) (.ref s.heap.objs.size) = operate [.ref s.heap.objs.size, .ref l] (getItem (.ref l) (.ref s.heap.objs.size))) (ht : ∀ r, letTemporaryGo value (.ref l) r = pure ()) :
    wpAny (model prog w) A (subscriptTail value slice (.ref l) (.ref s.heap.objs.size)) Q E { s with heap := s.heap.push { cls := .type "slice", data := .fields #[.none, .int y t, .none] } } := by
  obtain ⟨vs, hl, hi⟩ := li.list N hs
  refine kmk_slice_ints F N hl .none (.int _ _) hi (slice_ints_uptoW hi hy) rfl (fun D ws h' F' N' l1 i1 _ _ => h D h' ws F' N' l1 i1) hsb ht ?_
  rw [List.size_toArray, hi.length, sizeLine_eq]; omega
theorem sliceLI {x y : Int} {t u : Tok} (F : Fr h₀ L s.heap m) (N : News h₀ L s.heap news) (hs : ∀ p ∈ rest, p ∈ news) (li : LI rest l xs) (hx : xs.length ≤ 1000)
    (h : ∀ D h' zs, Fr h₀ L h' m → News h₀ L h' ((D, listOf (List.toArray zs) 0) :: news) → (∀ p ∈ news, p.1 < D) → IntsAre zs ((xs.drop (clipAt xs.length x)).take (clipAt xs.length y - clipAt xs.length x)) → Q (.ref D) { s with heap := h' })
    (hsb : subscripted slice false (.ref l) (.ref s.heap.objs.size) = operate [.ref s.heap.objs.size, .ref l] (getItem (.ref l) (.ref s.heap.objs.size))) (ht : ∀ r, letTemporaryGo value (.ref l) r = pure ()) :
    wpAny (model prog w) A (subscriptTail value slice (.ref l) (.ref s.heap.objs.size)) Q E { s with heap := s.heap.push { cls := .type "slice", data := .fields #[.int x t, .int y u, .none] } } := by
  obtain ⟨vs, hl, hi⟩ := li.list N hs
  refine kmk_slice_ints F N hl (.int _ _) (.int _ _) hi (slice_ints_plain hi x y) rfl (fun D ws h' F' N' l1 i1 _ _ => h D h' ws F' N' l1 i1) hsb ht ?_
  rw [List.size_toArray, hi.length, sizeLine_eq]; omega
theorem addLI1 {k : Int} {t : Tok} {n : Nat} (F : Fr h₀ L s.heap m) (N : News h₀ L s.heap news) (hs : ∀ p ∈ rest, p ∈ news) (li : LI rest a xs) (hb : (b, listOf #[.int k t] n) ∈ news) (hx : xs.length ≤ 1000)
    (h : ∀ D h' zs, Fr h₀ L h' m → News h₀ L h' ((D, listOf (List.toArray zs) 0) :: news) → (∀ p ∈ news, p.1 < D) → IntsAre zs (xs ++ [k]) → Q (.ref D) { s with heap := h' }) :
    wpAny (model prog w) A (binaryOp .Add (.ref a) (.ref b)) Q E s := by
  obtain ⟨vs, hl, hi⟩ := li.list N hs
  refine kmk_add_ints F N hl (listN (vs := [.int k t]) N hb) hi (.cons k t .nil) (fun D us h' F' N' l1 i1 => h D h' us F' N' l1 i1) ?_
  rw [sizeLine_eq]; simp only [List.length_cons, List.length_nil]; omega
theorem addLI2 {vs : List Value} {n : Nat} (F : Fr h₀ L s.heap m) (N : News h₀ L s.heap news) (hs : ∀ p ∈ rest, p ∈ news) (li : LI rest a xs) (hb : (b, listOf vs.toArray n) ∈ news) (hi' : IntsAre vs ys) (hx : xs.length ≤ 1000) (hy : ys.length ≤ 1000)
    (h : ∀ D h' zs, Fr h₀ L h' m → News h₀ L h' ((D, listOf (List.toArray zs) 0) :: news) → (∀ p ∈ news, p.1 < D) → IntsAre zs (xs ++ ys) → Q (.ref D) { s with heap := h' }) :
    wpAny (model prog w) A (binaryOp .Add (.ref a) (.ref b)) Q E s := by
  obtain ⟨us, hl, hi⟩ := li.list N hs
  refine kmk_add_ints F N hl (listN N hb) hi hi' (fun D us h' F' N' l1 i1 => h D h' us F' N' l1 i1) ?_
  rw [sizeLine_eq]; omega
theorem eqLI (N : News h₀ L s.heap news) (hs : ∀ p ∈ rest, p ∈ news) (la : LI rest a xs) (lb : LI rest b ys) (e : xs = ys) (hu : A.units + 64 < cLine) (h : Q (.bool true) s) :
    wpAny (model prog w) A (compareOp .Eq (.ref a) (.ref b)) Q E s := by
  obtain ⟨us, hl, hi⟩ := la.list N hs
  obtain ⟨vs, hl', hi'⟩ := lb.list N hs
  exact ke_eq_ints hl hl' hi hi' hu (by rw [decide_eq_true e]; exact h)
theorem eqLIv {vs : List Value} {n : Nat} (N : News h₀ L s.heap news) (hs : ∀ p ∈ rest, p ∈ news) (hb : (a, listOf vs.toArray n) ∈ news) (hi' : IntsAre vs xs) (lb : LI rest b ys) (e : xs = ys) (hu : A.units + 64 < cLine) (h : Q (.bool true) s) :
    wpAny (model prog w) A (compareOp .Eq (.ref a) (.ref b)) Q E s := by
  obtain ⟨us, hl, hi⟩ := lb.list N hs
  exact ke_eq_ints (listN N hb) hl hi' hi hu (by rw [decide_eq_true e]; exact h)
theorem lenLI (N : News h₀ L s.heap news) (hs : ∀ p ∈ rest, p ∈ news) (li : LI rest l xs) (hx : xs.length ≤ 1000)
    (h : Q (.int xs.length (s.toks + 1)) { s with toks := s.toks + 1 + 1 }) : wpAny (model prog w) A (call (.builtin "len") [.ref l]) Q E s := by
  obtain ⟨vs, hl, hi⟩ := li.list N hs
  have e : vs.toArray.size = xs.length := by rw [List.size_toArray]; exact hi.length
  refine len_list hl (by omega) ?_
  rw [e]; exact h
theorem setLst {k : Int} {t : Tok} {v : Value} {vs : List Value} {n : Nat} {Q : Unit → Shared → Prop} (F : Fr h₀ L s.heap m) (N : News h₀ L s.heap news) (h0 : 0 ≤ k) (h1 : k < 3) (hl : vs.length = 3) (U : Upd l (listOf vs.toArray n) (listOf (vs.set k.toNat v).toArray n) news news')
    (h : ∀ h', Fr h₀ L h' m → News h₀ L h' news' → Q () { s with heap := h' }) : wpAny (model prog w) A (setItem (.ref l) (.int k t) v) Q E s := by
  refine ki_set F N h0 (by omega) ?_ U h
  have e : vs.toArray.toList = vs := by simp
  rw [e]
  obtain ⟨x, y, z, rfl⟩ : ∃ x y z, vs = [x, y, z] := by
    match vs, hl with
    | [x, y, z], _ => exact ⟨x, y, z, rfl⟩
  obtain rfl | rfl | rfl : k = 0 ∨ k = 1 ∨ k = 2 := by omega
  · rfl
  · rfl
  · rfl
/-- a dict of the ledger: read, look, store -/
theorem dictGet {q : Obj} {kvs : List (Int × Value)} {k : Int} {t : Tok} {v : Value} (N : News h₀ L s.heap news) (hp : (l, q) ∈ news) (hd : q.IsDictOf (intKind prog w) kvs) (hl : valueAt kvs k = some v) (h : Q v { s with toks := s.toks + 1 })
    (hs : subscripted slice false (.ref l) (.int k t) = operate [.ref l, .int k t] (getItem (.ref l) (.int k t)) := by with_unfolding_all rfl) (hg : ∀ r, letTemporaryGo value (.ref l) r = pure () := by intro _; with_unfolding_all rfl) :
    wpAny (model prog w) A (subscriptTail value slice (.ref l) (.int k t)) Q E s := kda_item (knd := intKind prog w) N hp hd (intKind_is _ _ _ _) hl h hs hg
theorem dictIn {q : Obj} {kvs : List (Int × Value)} {k : Int} {t : Tok} (N : News h₀ L s.heap news) (hp : (l, q) ∈ news) (hd : q.IsDictOf (intKind prog w) kvs) (h1 : l ≠ 1) (h : Q (.bool (valueAt kvs k).isSome) { s with toks := s.toks + 1 }) :
    wpAny (model prog w) A (compareOp .In (.int k t) (.ref l)) Q E s := kda_in (knd := intKind prog w) N hp hd (beq_false_of_ne h1) (intKind_is _ _ _ _) _ rfl h
theorem dictNotIn {q : Obj} {kvs : List (Int × Value)} {k : Int} {t : Tok} (N : News h₀ L s.heap news) (hp : (l, q) ∈ news) (hd : q.IsDictOf (intKind prog w) kvs) (h1 : l ≠ 1) (h : Q (.bool (!(valueAt kvs k).isSome)) { s with toks := s.toks + 1 }) :
    wpAny (model prog w) A (compareOp .NotIn (.int k t) (.ref l)) Q E s := wpAny_notIn_of (knd := intKind prog w) (intKind_is _ _ _ _) (beq_false_of_ne h1) (kda_dict N hp hd).mapOf h
theorem dictSet {q : Obj} {kvs : List (Int × Value)} {k : Int} {t : Tok} {v : Value} {g : Obj → List (Addr × Obj)} {Q : Unit → Shared → Prop} (F : Fr h₀ L s.heap m) (N : News h₀ L s.heap news) (U : UpdF l q news g) (hd : q.IsDictOf (intKind prog w) kvs) (hsz : kvs.length ≤ 1000)
    (h : ∀ h' o', Fr h₀ L h' m → News h₀ L h' (g o') → o'.IsDictOf (intKind prog w) (stored kvs k v) → Q () { s with heap := h', toks := s.toks + 1 }) : wpAny (model prog w) A (setItem (.ref l) (.int k t) v) Q E s :=
  kda_set (knd := intKind prog w) F N U hd (intKind_is _ _ _ _) (by rw [sizeLine_eq]; omega) h
end
end Mine
end
section
namespace Mine
open PySem PySem.W PySem.Calls PyProof.Rows
variable {prog : Program} {w : World} {H H' : Nat → List Int} {v v' : Nat} {r r' : List (Addr × Obj)} {o : Obj} {b p : Value}

theorem DictOk.mono {kvs : List (Int × Value)} (h : DictOk prog w H v r o kvs) (s : ∀ p ∈ r, p ∈ r') (hv : v ≤ v') (hH : ∀ j, j ≤ v → H' j = H j) : DictOk prog w H' v' r' o kvs :=
  ⟨h.1, fun kv hkv => by
    obtain ⟨j, a, e1, e2, e3, e4⟩ := h.2 kv hkv
    exact ⟨j, a, e1, Nat.le_trans e2 hv, e3, by rw [hH j e2]; exact e4.mono s⟩⟩
theorem PartOk.mono (h : PartOk H v r p) (s : ∀ p ∈ r, p ∈ r') (hv : v ≤ v') (hH : ∀ j, j ≤ v → H' j = H j) : PartOk H' v' r' p := by
  obtain ⟨a, e, h | ⟨j, t, f, n, h1, h2, h3, h4⟩⟩ := h
  · exact ⟨a, e, .inl (s _ h)⟩
  · exact ⟨a, e, .inr ⟨j, t, f, n, Nat.le_trans h1 hv, h2, s _ h3, by rw [hH j h1]; exact h4.mono s⟩⟩
theorem ClientOk.mono (h : ClientOk prog w H v r o b p) (s : ∀ p ∈ r, p ∈ r') (hv : v ≤ v') (hH : ∀ j, j ≤ v → H' j = H j) : ClientOk prog w H' v' r' o b p := by
  obtain ⟨⟨kvs, h1, h2, h3⟩, h4⟩ := h
  exact ⟨⟨kvs, h1.mono s hv hH, h2, h3⟩, h4.mono s hv hH⟩
theorem ClientOk.more (h : ClientOk prog w H v r o b p) (s : ∀ p ∈ r, p ∈ r') : ClientOk prog w H v r' o b p := h.mono s (Nat.le_refl _) fun _ _ => rfl
theorem ClientOk.setPart {p' : Value} (h : ClientOk prog w H v r o b p) (s : ∀ p ∈ r, p ∈ r') (hp : PartOk H v r' p') : ClientOk prog w H v r' o b p' := ⟨(h.more s).ex, hp⟩
theorem set_same {vs : List Value} {k : Nat} {x : Value} (h : vs[k]? = some x) : vs.set k x = vs := by
  obtain ⟨hk, e⟩ := List.getElem?_eq_some_iff.mp h
  rw [← e]
  exact List.set_getElem_self hk
/-- an element stored keeps the dict in order -/
theorem stored_len (kvs : List (Int × Value)) (k : Int) (x : Value) : (stored kvs k x).length ≤ kvs.length + 1 := by
  unfold stored
  split
  · rw [List.length_map]; omega
  · rw [List.length_append]; simp
theorem stored_mem {kvs : List (Int × Value)} {k : Int} {x : Value} {kv : Int × Value} (h : kv ∈ stored kvs k x) : kv = (k, x) ∨ kv ∈ kvs := by
  unfold stored at h
  split at h
  · obtain ⟨y, hy, e⟩ := List.mem_map.mp h
    split at e
    · rename_i hk
      left; rw [← e, ← hk]
    · right; rw [← e]; exact hy
  · rcases List.mem_append.mp h with h | h
    · exact .inr h
    · exact .inl (List.mem_singleton.mp h)
theorem stored_has (kvs : List (Int × Value)) (k : Int) (x : Value) : (k, x) ∈ stored kvs k x := by
  unfold stored
  split
  · rename_i h
    obtain ⟨y, hy, e⟩ := List.any_eq_true.mp h
    have e := of_decide_eq_true e
    exact List.mem_map.mpr ⟨y, hy, by rw [if_pos e, e]⟩
  · exact List.mem_append.mpr (.inr (.head _))
theorem stored_keeps {kvs : List (Int × Value)} {k : Int} {x : Value} {z : Int} (h : ∃ kv ∈ kvs, kv.1 = z) : ∃ kv ∈ stored kvs k x, kv.1 = z := by
  obtain ⟨kv, hkv, rfl⟩ := h
  by_cases e : kv.1 = k
  · exact ⟨(k, x), stored_has _ _ _, e.symm⟩
  · unfold stored
    split
    · exact ⟨kv, List.mem_map.mpr ⟨kv, hkv, by rw [if_neg e]⟩, rfl⟩
    · exact ⟨kv, List.mem_append.mpr (.inl hkv), rfl⟩
theorem valueAt_some {kvs : List (Int × Value)} {k : Int} {x : Value} (h : valueAt kvs k = some x) : (k, x) ∈ kvs := by
  unfold valueAt at h
  obtain ⟨kv, h1, rfl⟩ := Option.map_eq_some_iff.mp h
  have h2 : kv.1 = k := by simpa using List.find?_some h1
  rw [← h2]
  exact List.mem_of_find?_eq_some h1
theorem valueAt_has {kvs : List (Int × Value)} {k : Int} (h : ∃ kv ∈ kvs, kv.1 = k) : ∃ x, valueAt kvs k = some x := by
  unfold valueAt
  cases e : kvs.find? fun kv => decide (kv.1 = k) with
  | some kv => exact ⟨kv.2, rfl⟩
  | none =>
    obtain ⟨kv, hkv, hk⟩ := h
    have := List.find?_eq_none.mp e kv hkv
    exact absurd (decide_eq_true hk) this
theorem valueAt_stored (kvs : List (Int × Value)) (k : Int) (x : Value) : valueAt (stored kvs k x) k = some x := by
  obtain ⟨y, hy⟩ := valueAt_has (k := k) ⟨(k, x), stored_has kvs k x, rfl⟩
  rw [hy]
  have hm := valueAt_some hy
  rcases stored_mem hm with e | e
  · exact congrArg some (Prod.mk.inj e).2
  · -- the key stands: its value was turned
    unfold stored at hm
    split at hm
    · obtain ⟨z, hz, e2⟩ := List.mem_map.mp hm
      split at e2
      · exact congrArg some (Prod.mk.inj e2).2.symm
      · rename_i hne
        exact absurd (by rw [e2]) hne
    · rename_i hne
      exact absurd (List.any_eq_true.mpr ⟨(k, y), e, by simp⟩) hne
/-- the entry at a key of the dict -/
theorem DictOk.at {kvs : List (Int × Value)} (h : DictOk prog w H v r o kvs) {j : Nat} {x : Value} (hx : valueAt kvs (j : Int) = some x) : j ≤ v ∧ ∃ a, x = .ref a ∧ LI r a (H j) := by
  obtain ⟨j', a, e1, e2, e3, e4⟩ := h.2 _ (valueAt_some hx)
  have : j' = j := by dsimp only at e1; omega
  subst this
  exact ⟨e2, a, e3, e4⟩
theorem DictOk.store {o' : Obj} {kvs : List (Int × Value)} {a : Addr} (h : DictOk prog w H v r o kvs) (hd : o'.IsDictOf (intKind prog w) (stored kvs (v : Int) (.ref a))) (hl : LI r a (H v)) : DictOk prog w H v r o' (stored kvs (v : Int) (.ref a)) :=
  ⟨hd, fun kv hkv => by
    rcases stored_mem hkv with e | e
    · exact ⟨v, a, by rw [e], Nat.le_refl _, by rw [e], hl⟩
    · exact h.2 kv e⟩
end Mine
namespace Mine
open PySem PySem.W PySem.Calls PyProof.Rows
theorem nodup_le : ∀ (n : Nat) (l : List Int), l.Nodup → (∀ z ∈ l, ∃ j : Nat, z = (j : Int) ∧ j < n) → l.length ≤ n
  | 0, [], _, _ => Nat.le_refl _
  | 0, z :: _, _, h => by obtain ⟨j, _, h⟩ := h z (.head _); omega
  | n + 1, l, hn, h => by
    have h1 := nodup_le n (l.filter fun z => decide (z ≠ (n : Int))) (List.Sublist.nodup List.filter_sublist hn) fun z hz => by
      obtain ⟨h2, h3⟩ := List.mem_filter.mp hz
      obtain ⟨j, e, hj⟩ := h z h2
      have h3 := of_decide_eq_true h3
      exact ⟨j, e, by omega⟩
    have h2 : l.length ≤ (l.filter fun z => decide (z ≠ (n : Int))).length + 1 := by
      clear h1 h
      induction l with
      | nil => simp
      | cons a r ih =>
        rw [List.nodup_cons] at hn
        by_cases e : a = (n : Int)
        · have : (a :: r).filter (fun z => decide (z ≠ (n : Int))) = r := by
            rw [List.filter_cons, if_neg (by simp [e])]
            refine List.filter_eq_self.mpr fun z hz => decide_eq_true fun e2 => hn.1 ?_
            rw [e, ← e2]; exact hz
          rw [this]; simp
        · have := ih hn.2
          rw [List.filter_cons, if_pos (by simp [e])]
          simp only [List.length_cons]; omega
    omega
theorem DictOk.len {prog : Program} {w : World} {H : Nat → List Int} {v : Nat} {r : List (Addr × Obj)} {o : Obj} {kvs : List (Int × Value)} (h : DictOk prog w H v r o kvs) : kvs.length ≤ v + 1 := by
  obtain ⟨⟨es, ep, _, _, _, _, hn⟩, h2⟩ := h
  have := nodup_le (v + 1) (kvs.map (·.1)) hn fun z hz => by
    obtain ⟨kv, hkv, rfl⟩ := List.mem_map.mp hz
    obtain ⟨j, _, e, hj, _⟩ := h2 kv hkv
    exact ⟨j, e, by omega⟩
  simpa using this
end Mine
namespace Mine
theorem grown_len {H : Nat → List Int} {j : Nat} {z : Int} (hH : ∀ n, n ≤ j → (H n).length = 3 + n) : ∀ n, n ≤ j + 1 → ((fun n => if n = j + 1 then H j ++ [z] else H n) n).length = 3 + n := fun n hn => by
  by_cases e : n = j + 1
  · subst e
    show (if j + 1 = j + 1 then H j ++ [z] else H (j + 1)).length = _
    rw [if_pos rfl, List.length_append, hH j (Nat.le_refl _)]
    simp only [List.length_cons, List.length_nil]
    omega
  · show (if n = j + 1 then H j ++ [z] else H n).length = _
    rw [if_neg e]
    exact hH n (by omega)
end Mine
end
section
open PySem PySem.W PyProof.Rows
namespace Mine
theorem pat85 {w : World} {h : Heap} (X : (hd1.heap_39 w.params).In h) (g : PySem.Challenge.rw_ez0420_01.name = PySem.Challenge.rw_ez0420_01.name) : PatAt h 85 etagCode 3 0 := by
  revert X g
  k_fill
  intro X _
  exact ⟨_, _, 84, _, _, _, X _ _ (by k_is), rfl, rfl, rfl, rfl, X _ _ (by k_is), rfl, by decide +kernel, rfl, rfl⟩
theorem pat43 {w : World} {h : Heap} (X : (hd1.heap_39 w.params).In h) (g : PySem.Challenge.rw_ez0420_01.name = PySem.Challenge.rw_ez0420_01.name) : PatAt h 43 intCode 0 0 := by
  revert X g
  k_fill
  intro X _
  exact ⟨_, _, 42, _, _, _, X _ _ (by k_is), rfl, rfl, rfl, rfl, X _ _ (by k_is), rfl, by decide +kernel, rfl, rfl⟩

theorem mod_writeW {w : World} {A₀ A : Around} {s : Shared} {base h₀ : Heap} {outer : List Env} {L : Addr} {m : Str → Option Value} {env : Env} {news : List (Addr × Obj)}
    {lz : List Str} {mean : ExcName → Option Value} {mg mb : Str → Option Value} {Q : Value → Shared → Prop} {E : Value → Shared → Prop} {x y tag : Str} {t u : Tok} {told : List (Nat × Str)} {r : Bool}
    (B : Below A₀ base outer h₀) (F : Fr h₀ L s.heap m) (N : News h₀ L s.heap news) (X : (hd1.heap_39 w.params).In h₀) (T : Top hd1.view_39 lz mean mg mb h₀)
    (hA : A.frames = some (env :: outer)) (hf : env.frame = some L) (hke : env.scope.kind = .function) (hh : A.handled = none) (hd : A.depth < 450) (hu : A.units < 450) (ht : ToldText x told) (hy : QTag y tag) (hr : decide (tag ∈ strongs told) = r)
    (h : ∀ (h' : Heap) (tk : Nat), Fr h₀ L h' m → News h₀ L h' news → Q (.bool r) { s with heap := h', toks := tk }) :
    wpAny (model PySem.Challenge.rw_ez0420_01.row.prog w) A (call (.ref 325) [] [("http_if_match", .str x t), ("etag", .str y u)]) Q E s := by
  have B' := belowAt (s := s) B F hA hf hke
  refine pureK (R := fun v h => v = .bool (decide (tag ∈ strongs told))) F N (anyAround hh hA fun ad ag au e => ?_) fun v h' tk F' N' f => ?_
  · subst e
    exact mod_write B' (X.keeps F.keep) (T.keeps F.keep) hd hu ht ((pat85 X rfl).keeps F.keep) hy
  · subst f
    rw [hr]; exact h h' tk F' N'

theorem mod_readW {w : World} {A₀ A : Around} {s : Shared} {base h₀ : Heap} {outer : List Env} {L : Addr} {m : Str → Option Value} {env : Env} {news : List (Addr × Obj)}
    {lz : List Str} {mean : ExcName → Option Value} {mg mb : Str → Option Value} {Q : Value → Shared → Prop} {E : Value → Shared → Prop} {x y tag : Str} {t u : Tok} {told : List (Nat × Str)} {r : Bool}
    (B : Below A₀ base outer h₀) (F : Fr h₀ L s.heap m) (N : News h₀ L s.heap news) (X : (hd1.heap_39 w.params).In h₀) (T : Top hd1.view_39 lz mean mg mb h₀)
    (hA : A.frames = some (env :: outer)) (hf : env.frame = some L) (hke : env.scope.kind = .function) (hh : A.handled = none) (hd : A.depth < 450) (hu : A.units < 450) (ht : ToldText x told) (hy : QTag y tag) (hr : (!(decide (tag ∈ weaks told) || decide (tag ∈ strongs told))) = r)
    (h : ∀ (h' : Heap) (tk : Nat), Fr h₀ L h' m → News h₀ L h' news → Q (.bool r) { s with heap := h', toks := tk }) :
    wpAny (model PySem.Challenge.rw_ez0420_01.row.prog w) A (call (.ref 325) [] [("http_if_none_match", .str x t), ("etag", .str y u)]) Q E s := by
  have B' := belowAt (s := s) B F hA hf hke
  refine pureK (R := fun v h => v = .bool (!(decide (tag ∈ weaks told) || decide (tag ∈ strongs told)))) F N (anyAround hh hA fun ad ag au e => ?_) fun v h' tk F' N' f => ?_
  · subst e
    exact mod_read B' (X.keeps F.keep) (T.keeps F.keep) hd hu ht ((pat85 X rfl).keeps F.keep) hy
  · subst f
    rw [hr]; exact h h' tk F' N'

theorem mod_noneW {w : World} {A₀ A : Around} {s : Shared} {base h₀ : Heap} {outer : List Env} {L : Addr} {m : Str → Option Value} {env : Env} {news : List (Addr × Obj)}
    {lz : List Str} {mean : ExcName → Option Value} {mg mb : Str → Option Value} {Q : Value → Shared → Prop} {E : Value → Shared → Prop} {y tag : Str} {u : Tok}
    (B : Below A₀ base outer h₀) (F : Fr h₀ L s.heap m) (N : News h₀ L s.heap news) (X : (hd1.heap_39 w.params).In h₀) (T : Top hd1.view_39 lz mean mg mb h₀)
    (hA : A.frames = some (env :: outer)) (hf : env.frame = some L) (hke : env.scope.kind = .function) (hh : A.handled = none) (hd : A.depth < 450) (hu : A.units < 450) (hy : QTag y tag)
    (h : ∀ (h' : Heap) (tk : Nat), Fr h₀ L h' m → News h₀ L h' news → Q (.bool true) { s with heap := h', toks := tk }) :
    wpAny (model PySem.Challenge.rw_ez0420_01.row.prog w) A (call (.ref 325) [] [("http_if_none_match", .none), ("etag", .str y u)]) Q E s := by
  have B' := belowAt (s := s) B F hA hf hke
  refine pureK (R := fun v h => v = .bool true) F N (anyAround hh hA fun ad ag au e => ?_) fun v h' tk F' N' f => ?_
  · subst e
    exact mod_none B' (X.keeps F.keep) (T.keeps F.keep) hd hu hy
  · subst f
    exact h h' tk F' N'

theorem mod_rangeW {w : World} {A₀ A : Around} {s : Shared} {base h₀ : Heap} {outer : List Env} {L : Addr} {m : Str → Option Value} {env : Env} {news : List (Addr × Obj)}
    {lz : List Str} {mean : ExcName → Option Value} {mg mb : Str → Option Value} {Q : Value → Shared → Prop} {E : Value → Shared → Prop} {x y q tag tag2 : Str} {t u t2 : Tok} {r : Bool}
    (B : Below A₀ base outer h₀) (F : Fr h₀ L s.heap m) (N : News h₀ L s.heap news) (X : (hd1.heap_39 w.params).In h₀) (T : Top hd1.view_39 lz mean mg mb h₀)
    (hA : A.frames = some (env :: outer)) (hf : env.frame = some L) (hke : env.scope.kind = .function) (hh : A.handled = none) (hd : A.depth < 450) (hu : A.units < 450) (hy : QTag y tag) (hq : QTag q tag2) (hr : (!(tag2 == tag)) = r)
    (h : ∀ (h' : Heap) (tk : Nat), Fr h₀ L h' m → News h₀ L h' news → Q (.bool r) { s with heap := h', toks := tk }) :
    wpAny (model PySem.Challenge.rw_ez0420_01.row.prog w) A (call (.ref 325) [] [("http_range", .str x t), ("http_if_range", .str q t2), ("etag", .str y u), ("ignore_if_range", .bool false)]) Q E s := by
  have B' := belowAt (s := s) B F hA hf hke
  refine pureK (R := fun v h => v = .bool (!(tag2 == tag))) F N (anyAround hh hA fun ad ag au e => ?_) fun v h' tk F' N' f => ?_
  · subst e
    exact mod_range B' (X.keeps F.keep) (T.keeps F.keep) hd hu hy hq
  · subst f
    rw [hr]; exact h h' tk F' N'

/-- the quoted tag of a version -/
abbrev qtag (x : Str) (v : Nat) : Str := Str.ofString "\"" ++ (x ++ Str.ofString (toString (v : Int))) ++ Str.ofString "\""
theorem tag_q {x : Str} {v : Nat} (h : HeadOk x) (hv : v ≤ 16) : QTag (qtag x v) (tagOf x v) := by
  obtain ⟨h1, h2, h3, h4, h5, h6⟩ := tag_all (P := fun x v => (qtag x v).length ≤ 10000 ∧ 1 ≤ (qtag x v).length ∧ (Txt.startswith (qtag x v) (Str.ofString "W/") || Txt.startswith (qtag x v) (Str.ofString "w/")) = false ∧
    Txt.startswith3 (qtag x v) (Str.ofString "\"") 0 = true ∧ endsFrom (qtag x v) (Str.ofString "\"") 0 = true ∧ Txt.slice (qtag x v) (some (0 + 1)) (some (-1)) = tagOf x v) (by decide +kernel) h hv
  exact ⟨h1, h2, h3, h4, h5, h6⟩
theorem told0_q {x : Str} {v : Nat} (h : HeadOk x) (hv : v ≤ 16) : QTag (toldS 0 (tagOf x v)) (tagOf x v) := by
  obtain ⟨h1, h2, h3, h4, h5, h6⟩ := tag_all (P := fun x v => (toldS 0 (tagOf x v)).length ≤ 10000 ∧ 1 ≤ (toldS 0 (tagOf x v)).length ∧ (Txt.startswith (toldS 0 (tagOf x v)) (Str.ofString "W/") || Txt.startswith (toldS 0 (tagOf x v)) (Str.ofString "w/")) = false ∧
    Txt.startswith3 (toldS 0 (tagOf x v)) (Str.ofString "\"") 0 = true ∧ endsFrom (toldS 0 (tagOf x v)) (Str.ofString "\"") 0 = true ∧ Txt.slice (toldS 0 (tagOf x v)) (some (0 + 1)) (some (-1)) = tagOf x v) (by decide +kernel) h hv
  exact ⟨h1, h2, h3, h4, h5, h6⟩
theorem told_one {x : Str} {v k : Nat} (h : HeadOk x) (hv : v ≤ 16) (hk : k < 3) : ToldText (toldS (k : Int) (tagOf x v)) [(k, tagOf x v)] := by
  have := tag_all (P := fun x v => ∀ k ∈ List.range 3, (toldS (k : Int) (tagOf x v)).length ≤ 10000 ∧ 1 ≤ (toldS (k : Int) (tagOf x v)).length ∧ (toldS (k : Int) (tagOf x v) == Str.ofString "*") = false ∧
    (toldS (k : Int) (tagOf x v)).cps.toList = restL [] [] (bare [(k, tagOf x v)])) (by decide +kernel) h hv k (List.mem_range.mpr hk)
  obtain ⟨h1, h2, h3, h4⟩ := this
  refine ⟨h1, h2, h3, ?_, ?_, (fun e => nomatch e), Nat.le_of_ble_eq_true rfl, ⟨[], [], (fun c hc => nomatch hc), (fun c hc => nomatch hc), h4⟩⟩
  · intro t ht
    rw [List.mem_singleton.mp ht]
    exact tag_noquote h hv
  · intro t ht
    rw [List.mem_singleton.mp ht]
    exact (tag_len h hv).2
theorem tag_ne {x : Str} {v u : Nat} (h : HeadOk x) (hv : v ≤ 16) (hu : u ≤ 16) (e : v ≠ u) : tagOf x v ≠ tagOf x u := fun a => e (tag_inj h hv hu a)
/-- whether a write is let -/
theorem let_yes {x : Str} {v : Nat} : decide (tagOf x v ∈ strongs [(0, tagOf x v)]) = true := by simp [strongs]
theorem let_old {x : Str} {v j : Nat} (h : HeadOk x) (hv : v ≤ 16) (hj : j ≤ 16) (e : j ≠ v) : decide (tagOf x v ∈ strongs [(0, tagOf x j)]) = false := by
  have := tag_ne h hv hj (Ne.symm e)
  simpa [strongs] using this
theorem let_weak {x : Str} {v j k : Nat} (hk : k ≠ 0) : decide (tagOf x v ∈ strongs [(k, tagOf x j)]) = false := by simp [strongs, hk]
/-- whether a part is of an older version -/
theorem whole_old {x : Str} {v j : Nat} (h : HeadOk x) (hv : v ≤ 16) (hj : j ≤ 16) (e : j ≠ v) : (!(tagOf x j == tagOf x v)) = true := by
  have := tag_ne h hj hv e
  simpa using this
theorem whole_same {x : Str} {v : Nat} : (!(tagOf x v == tagOf x v)) = false := by simp
theorem told_len {x : Str} {v : Nat} (h : HeadOk x) (hv : v ≤ 16) : (x ++ Str.ofString (toString (v : Int))).length ≤ 100 := Nat.le_trans (tag_len h hv).1 (by decide)
theorem modK {prog : Program} {w : World} {A : Around} {s : Shared} {Q : Value → Shared → Prop} {E : Value → Shared → Prop} {k n r : Int} {t u : Tok} (e : Int.fmod k n = r) (hn : n ≠ 0) (h : Q (.int r s.toks) { s with toks := s.toks + 1 }) :
    wpAny (model prog w) A (binaryOp .Mod (.int k t) (.int n u)) Q E s := mod_int hn (by rw [e]; exact h)
theorem Rows_add {prog : Program} {w : World} {A : Around} {E : Value → Shared → Prop} {s : Shared} {x y : Str} {t u : Tok} {Q : Value → Shared → Prop} (h : ∀ t' tk, Q (.str (x ++ y) t') { s with toks := tk }) (hsz : x.length + y.length ≤ sizeLine) : wpAny (model prog w) A (binaryOp .Add (.str x t) (.str y u)) Q E s := PyProof.Rows.add_str h hsz
end Mine
end
section
namespace Mine
open PySem PySem.W PySem.Calls PyProof.Rows
theorem apN {h₀ h : Heap} {L x : Addr} {news : List (Addr × Obj)} (N : News h₀ L h news) (hx : h.get? x = none) : ∀ p ∈ news, Ap p.1 x := fun p hp => Ap.of fun e => by
  have := (N p hp).1
  rw [e, hx] at this
  cases this
theorem apMem {x a : Nat} {o : Obj} {news : List (Addr × Obj)} (h : ∀ p ∈ news, Ap p.1 x) (hm : (a, o) ∈ news) : a ≠ x := h _ hm
theorem apMem' {x a : Nat} {o : Obj} {news : List (Addr × Obj)} (h : ∀ p ∈ news, Ap p.1 x) (hm : (a, o) ∈ news) : x ≠ a := Ne.symm (h _ hm)
theorem rangeW {w : World} {A₀ A : Around} {s : Shared} {base h₀ : Heap} {outer : List Env} {L : Addr} {m : Str → Option Value} {env : Env} {news : List (Addr × Obj)}
    {lz : List Str} {mean : ExcName → Option Value} {mg mb : Str → Option Value} {Q : Value → Shared → Prop} {E : Value → Shared → Prop} {k : Nat} {t : Tok}
    (B : Below A₀ base outer h₀) (F : Fr h₀ L s.heap m) (N : News h₀ L s.heap news) (X : (hd1.heap_39 w.params).In h₀) (T : Top hd1.view_39 lz mean mg mb h₀)
    (hA : A.frames = some (env :: outer)) (hf : env.frame = some L) (hke : env.scope.kind = .function) (hh : A.handled = none) (hd : A.depth < 450) (hu : A.units < 450) (hk : k ≤ 4)
    (h : ∀ (h' : Heap) (tk : Nat) (x d l D : Addr) (t1 t2 t3 t4 k1 k2 : Nat), Fr h₀ L h' m →
      News h₀ L h' ((x, instObj 313 d) :: (d, dictOf [⟨PyData.keyHash w.params (Str.ofString "units"), .str (Str.ofString "units") t1, .str (Str.ofString "bytes") t2⟩, ⟨PyData.keyHash w.params (Str.ofString "ranges"), .str (Str.ofString "ranges") t3, .ref l⟩] k1) :: (l, listOf #[.ref D] k2) :: (D, { cls := .type "tuple", data := .seq #[.int (k : Int) t4, .none] }) :: news) →
      (∀ p ∈ news, Ap p.1 x) → (∀ p ∈ news, Ap p.1 d) → (∀ p ∈ news, Ap p.1 l) → (∀ p ∈ news, Ap p.1 D) → Q (.ref x) { s with heap := h', toks := tk }) :
    wpAny (model PySem.Challenge.rw_ez0420_01.row.prog w) A (call (.ref 65) [.str (Str.ofString "bytes=" ++ Str.ofString (toString (k : Int)) ++ Str.ofString "-") t]) Q E s := by
  have B' := belowAt (s := s) B F hA hf hke
  refine pureK (R := fun v h => RangeAt w s.heap h v (k : Int)) F N (anyAround hh hA fun ad ag au e => ?_) fun v h' tk F' N' f => ?_
  · subst e
    have P := (pat43 X rfl).keeps F.keep
    obtain rfl | rfl | rfl | rfl | rfl : k = 0 ∨ k = 1 ∨ k = 2 ∨ k = 3 ∨ k = 4 := by omega
    · exact prange0 B' (X.keeps F.keep) (T.keeps F.keep) hd hu P
    · exact prange1 B' (X.keeps F.keep) (T.keeps F.keep) hd hu P
    · exact prange2 B' (X.keeps F.keep) (T.keeps F.keep) hd hu P
    · exact prange3 B' (X.keeps F.keep) (T.keeps F.keep) hd hu P
    · exact prange4 B' (X.keeps F.keep) (T.keeps F.keep) hd hu P
  · obtain ⟨x, d, l, D, t1, t2, t3, t4, k1, k2, rfl, g⟩ := f
    have g1 := g _ (.head _)
    have g2 := g _ (.tail _ (.head _))
    have g3 := g _ (.tail _ (.tail _ (.head _)))
    have g4 := g _ (.tail _ (.tail _ (.tail _ (.head _))))
    exact h h' tk x d l D t1 t2 t3 t4 k1 k2 F' (newsJoin F (newsJoin F (newsJoin F (newsJoin F N' g4.1 g4.2) g3.1 g3.2) g2.1 g2.2) g1.1 g1.2) (apN N g1.2) (apN N g2.2) (apN N g3.2) (apN N g4.2)
theorem lenLIm {prog : Program} {w : World} {A : Around} {E : Value → Shared → Prop} {s : Shared} {h₀ : Heap} {L l : Addr} {news rest : List (Addr × Obj)} {xs : List Int} {Q : Value → Shared → Prop} {k : Nat} (N : News h₀ L s.heap news) (hs : ∀ p ∈ rest, p ∈ news) (li : LI rest l xs) (e : xs.length = k) (hx : k ≤ 1000)
    (h : Q (.int (k : Int) (s.toks + 1)) { s with toks := s.toks + 1 + 1 }) : wpAny (model prog w) A (call (.builtin "len") [.ref l]) Q E s := by
  subst e
  exact lenLI N hs li hx h
theorem bytes_fit {k : Nat} (hk : k ≤ 4) : (Str.ofString "bytes=").length + (Str.ofString (toString (k : Int))).length ≤ sizeLine ∧ (Str.ofString "bytes=" ++ Str.ofString (toString (k : Int))).length + (Str.ofString "-").length ≤ sizeLine := by
  have e : ∀ k : Fin 5, (Str.ofString "bytes=").length + (Str.ofString (toString ((k.val : Nat) : Int))).length ≤ 20 ∧ (Str.ofString "bytes=" ++ Str.ofString (toString ((k.val : Nat) : Int))).length + (Str.ofString "-").length ≤ 20 := by decide +kernel
  obtain ⟨h1, h2⟩ := e ⟨k, by omega⟩
  exact ⟨Nat.le_trans h1 (by decide), Nat.le_trans h2 (by decide)⟩
theorem News.more {h₀ h : Heap} {L : Addr} {news : List (Addr × Obj)} {p : Addr × Obj} (N : News h₀ L h news) (hp : p ∈ news) : News h₀ L h (p :: news) := fun q hq => by
  rcases List.mem_cons.mp hq with rfl | hq
  · exact N _ hp
  · exact N _ hq
theorem glue {l : List Int} {n m : Nat} (hm : (l.take n).length = m) : l.take n ++ (l.drop (clipAt l.length (m : Int))).take (clipAt l.length (l.length : Int) - clipAt l.length (m : Int)) = l := by
  have h1 : m ≤ l.length := by rw [← hm, List.length_take]; omega
  rw [clipAt_in (by omega) (by omega), clipAt_in (by omega) (by omega)]
  have e : l.take n = l.take m := by
    rw [List.length_take] at hm
    rcases Nat.le_total n l.length with h | h
    · rw [Nat.min_eq_left h] at hm; rw [hm]
    · rw [List.take_of_length_le h, List.take_of_length_le (by omega)]
  rw [e]
  simp only [Int.toNat_natCast]
  have e2 : (l.drop m).take (l.length - m) = l.drop m := List.take_of_length_le (by rw [List.length_drop]; omega)
  rw [e2]
  exact List.take_append_drop m l
end Mine
namespace Mine
open PySem PySem.W PySem.Calls PyProof.Rows
theorem allLt_to {d : Addr} : ∀ {l : List (Addr × Obj)}, AllLt d l → ∀ p ∈ l, p.1 < d
  | [], _, _, hp => nomatch hp
  | _ :: _, h, _, hp => by
    rcases List.mem_cons.mp hp with rfl | hp
    · exact h.1
    · exact allLt_to h.2 _ hp
theorem span_yes {k n : Nat} (h : (if (n : Int) ≤ (k : Int) then false else decide ((k : Int) < (n : Int))) = true) : k < n := by
  by_cases e : (n : Int) ≤ (k : Int)
  · rw [if_pos e] at h; cases h
  · omega
theorem span_no {k n : Nat} (h : (if (n : Int) ≤ (k : Int) then false else decide ((k : Int) < (n : Int))) = false) : n ≤ k := by
  by_cases e : (n : Int) ≤ (k : Int)
  · omega
  · rw [if_neg e] at h
    have := of_decide_eq_false h
    omega
theorem same_if (n : Int) : (if n < n then n else n) = n := by split <;> rfl
end Mine
end
section
namespace Mine
open PySem PySem.W PySem.Calls PyProof.Rows
theorem ints_of_keys {prog : Program} {w : World} : ∀ {vs : List Value} {ks : List Int}, vs.length = ks.length → (∀ (j : Nat) (v : Value), vs[j]? = some v → ∃ k, ks[j]? = some k ∧ (intKind prog w).is k v = true) → IntsAre vs ks
  | [], [], _, _ => .nil
  | v :: vs, k :: ks, hl, h => by
    obtain ⟨k', e, hk⟩ := h 0 v rfl
    obtain rfl : k = k' := Option.some.inj e
    obtain ⟨t, rfl⟩ := Value.isInt_shape hk
    exact .cons k t (ints_of_keys (by simpa using hl) fun j v' hv => h (j + 1) v' hv)
  | [], _ :: _, hl, _ => by simp at hl
  | _ :: _, [], hl, _ => by simp at hl
theorem sortedDictK {prog : Program} {w : World} {A : Around} {E : Value → Shared → Prop} {s : Shared} {h₀ : Heap} {L d : Addr} {m : Str → Option Value} {news : List (Addr × Obj)} {q : Obj} {kvs : List (Int × Value)} {Q : Value → Shared → Prop}
    (hh : A.handled = none) (F : Fr h₀ L s.heap m) (N : News h₀ L s.heap news) (hm : (d, q) ∈ news) (hd : q.IsDictOf (intKind prog w) kvs) (h1 : d ≠ 1) (hn : kvs.length ≤ 60)
    (h : ∀ D vs ks c h' tk, Fr h₀ L h' m → News h₀ L h' ((D, listOf (List.toArray vs) c) :: news) → (∀ p ∈ news, p.1 < D) → IntsAre vs ks → ks.Perm (kvs.map (·.1)) → Q (.ref D) { s with heap := h', toks := tk }) :
    wpAny (model prog w) A (call (.builtin "sorted") [.ref d]) Q E s := by
  obtain ⟨ep, hat⟩ := KdkAt.of hd
  refine kdu_sorted (kdl_dict (knd := intKind prog w) (kvs := kvs) (ep := ep) (beq_false_of_ne h1)) hh F N (hat.dictAt (N _ hm).1) (kdl_size (by omega)) fun D h' tk vs F' N' l1 hl hv => ?_
  have hI : IntsAre vs (kvs.map (·.1)) := ints_of_keys (prog := prog) (w := w) (by rw [hl, List.length_map]) fun j v hj => by
    obtain ⟨k, x, e, hk⟩ := hv j v hj
    exact ⟨k, by rw [List.getElem?_map, e]; rfl, hk⟩
  have hD := (N' _ (.head _)).1
  dsimp only at hD
  refine wpAny_call_entry slot_list_sort ⟨_, hD, rfl⟩ entry_list_sort (list_sort_tree hD hI (by rw [hl]; omega) fun out ns' a1 a2 a3 => ⟨_, rfl, ?_⟩) (args_list_sort _)
  obtain ⟨e, he⟩ := sortedHeap_at (vs := vs) (out := out) hD
  have keep : ∀ b o, b ≠ D → h'.get? b = some o → (sortedHeap h' D vs out).get? b = some o := fun b o hb ho => by
    rw [sortedHeap_old hb (Heap.lt_size ho)]; exact ho
  have hDL := (N' _ (.head _)).2
  dsimp only at hDL
  refine h D out.toList ns' e (sortedHeap h' D vs out) tk ?_ ?_ l1 a1 a2
  · obtain ⟨oL, b1, b2, hL, b3⟩ := F'.ns
    exact ⟨⟨oL, b1, b2, keep _ _ (Ne.symm hDL.1) hL, b3⟩, fun b o ho => keep b o (fun e => by rw [e, hDL.2] at ho; cases ho) (F'.keep b o ho), F'.above⟩
  · intro p hp
    rcases List.mem_cons.mp hp with rfl | hp
    · exact ⟨by rw [Array.toArray_toList]; exact he, hDL⟩
    · have hp' := N' p (.tail _ hp)
      exact ⟨keep _ _ (Nat.ne_of_lt (l1 p hp)) hp'.1, hp'.2⟩
end Mine
namespace Mine
open PySem PySem.W PySem.Calls PyProof.Rows
theorem off1_mem {D : Addr} : ∀ {l : List (Addr × Obj)}, LCg.Off1 D l → ∀ p ∈ l, Ap p.1 D
  | [], _, _, hp => nomatch hp
  | _ :: _, x, p, hp => by
    rcases List.mem_cons.mp hp with rfl | hp
    · exact x.1
    · exact off1_mem x.2 p hp
end Mine
end
section
namespace Mine
open PySem PySem.W PySem.Calls PyProof.Rows

/-- the told text of an old version -/
def toldF (x : Str) (dr : Int) (k : Int) : Str := toldS (Int.fmod (Int.fdiv dr 2 + k) 3) (x ++ Str.ofString (toString k))
def SepOk (y : Str) : Prop := y = Str.ofString ", " ∨ y = Str.ofString "," ∨ y = Str.ofString " ,\t"
def quoteS (t : Nat × Str) : Str := toldS (t.1 : Int) t.2
/-- the tags behind a list of versions -/
def tellF (x : Str) (dr : Int) (k : Int) : Nat × Str := ((Int.fmod (Int.fdiv dr 2 + k) 3).toNat, x ++ Str.ofString (toString k))
theorem quote_tell (x : Str) (dr k : Int) : quoteS (tellF x dr k) = toldF x dr k := by
  unfold quoteS tellF toldF
  rw [Int.toNat_of_nonneg (Int.fmod_nonneg_of_pos _ (by decide))]
theorem told_cps {k : Nat} {g : Str} (hk : k < 3) : (quoteS (k, g)).cps.toList = toldL (k, g.cps.toList) := by
  unfold quoteS toldS toldL
  simp only [Str.cps_append, Array.toList_append]
  have q : (Str.ofString "\"").cps.toList = [34] := by decide
  obtain rfl | rfl | rfl : k = 0 ∨ k = 1 ∨ k = 2 := by omega
  · have m : (markS ((0 : Nat) : Int)).cps.toList = [] := by decide
    rw [m, q]
    simp [preL]
  · have m : (markS ((1 : Nat) : Int)).cps.toList = [87, 47] := by decide
    rw [m, q]
    simp [preL]
  · have m : (markS ((2 : Nat) : Int)).cps.toList = [119, 47] := by decide
    rw [m, q]
    simp [preL]
theorem join_told {sep : Str} {w1 w2 : List Nat} (hs : sep.cps.toList = w1 ++ 44 :: w2) : ∀ told : List (Nat × Str), (∀ t ∈ told, t.1 < 3) → (Str.join sep (told.map quoteS)).cps.toList = restL w1 w2 (bare told)
  | [], _ => rfl
  | [t], h => told_cps (g := t.2) (h t (.head _))
  | t :: u :: r, h => by
    have ih := join_told hs (u :: r) fun z hz => h z (.tail _ hz)
    have e := told_cps (g := t.2) (h t (.head _))
    show (quoteS t ++ sep ++ Str.join sep ((u :: r).map quoteS)).cps.toList = toldL (t.1, t.2.cps.toList) ++ (w1 ++ 44 :: (w2 ++ restL w1 w2 (bare (u :: r))))
    simp only [Str.cps_append, Array.toList_append]
    rw [ih, e, hs]
    simp
theorem sep_parts {y : Str} (h : SepOk y) : y.length ≤ 16 ∧ ∃ w1 w2, (∀ c ∈ w1, isWs c) ∧ (∀ c ∈ w2, isWs c) ∧ y.cps.toList = w1 ++ 44 :: w2 := by
  rcases h with rfl | rfl | rfl
  · exact ⟨by decide, [], [32], (fun c hc => nomatch hc), (fun c hc => by rw [List.mem_singleton.mp hc]; exact .inl rfl), by decide⟩
  · exact ⟨by decide, [], [], (fun c hc => nomatch hc), (fun c hc => nomatch hc), by decide⟩
  · exact ⟨by decide, [32], [9], (fun c hc => by rw [List.mem_singleton.mp hc]; exact .inl rfl), (fun c hc => by rw [List.mem_singleton.mp hc]; exact .inr rfl), by decide⟩
theorem quote_len (t : Nat × Str) : 2 ≤ (quoteS t).length ∧ (quoteS t).length ≤ t.2.length + 4 := by
  have e1 : (Str.ofString "\"").length = 1 := rfl
  have e2 : (markS (t.1 : Int)).length ≤ 2 := by
    unfold markS
    split
    · decide
    · split <;> decide
  unfold quoteS toldS
  simp only [Str.length_append, e1]
  omega
theorem sum_le (l : List (Nat × Str)) (h : ∀ t ∈ l, t.2.length ≤ 10) : ((l.map quoteS).map (·.length)).sum ≤ l.length * 14 := by
  induction l with
  | nil => simp
  | cons t r ih =>
    have h1 := (quote_len t).2
    have h2 := h t (.head _)
    have h3 := ih fun z hz => h z (.tail _ hz)
    simp only [List.map_cons, List.sum_cons, List.length_cons] at h3 ⊢
    omega
/-- joined tags tell the tags -/
theorem told_join {sep : Str} (hs : SepOk sep) (told : List (Nat × Str)) (h3 : ∀ t ∈ told, t.1 < 3) (hq : ∀ t ∈ told, ∀ c ∈ t.2.cps.toList, c ≠ 34) (h1 : ∀ t ∈ told, 1 ≤ t.2.length) (h10 : ∀ t ∈ told, t.2.length ≤ 10)
    (hn : told ≠ []) (hl : told.length ≤ 30) : ToldText (Txt.join sep (told.map quoteS)) told := by
  obtain ⟨hs1, w1, w2, hw1, hw2, hsc⟩ := sep_parts hs
  have e : Txt.join sep (told.map quoteS) = Str.join sep (told.map quoteS) := StrLaws.glued_eq_join sep _
  rw [e]
  have hc := join_told hsc told h3
  obtain ⟨t, r, rfl⟩ : ∃ t r, told = t :: r := by
    cases told with
    | nil => exact absurd rfl hn
    | cons t r => exact ⟨t, r, rfl⟩
  have hmem : 34 ∈ (Str.join sep ((t :: r).map quoteS)).cps.toList := by
    rw [hc]
    cases r with
    | nil => simp [restL, toldL]
    | cons u r => simp [restL, toldL]
  refine ⟨?_, ?_, ?_, hq, h1, hn, Nat.le_trans hl (by decide), w1, w2, hw1, hw2, hc⟩
  · have h5 := StrLaws.join_length_le sep ((t :: r).map quoteS)
    have h6 := sum_le (t :: r) h10
    have h7 : ((t :: r).map quoteS).length * sep.length ≤ 30 * 16 := Nat.mul_le_mul (by rw [List.length_map]; exact hl) hs1
    omega
  · show 1 ≤ (Str.join sep ((t :: r).map quoteS)).cps.size
    rw [← Array.length_toList]
    exact List.length_pos_of_mem hmem
  · refine beq_false_of_ne fun e2 => ?_
    rw [e2] at hmem
    exact absurd hmem (by decide)
theorem beq_false_of_ne' {a b : Str} (h : a ≠ b) : (a == b) = false := beq_false_of_ne h
/-- the told list of the law -/
def tolds (pre : Bool) (x : Str) (dr : Int) (ks : List Int) : List (Nat × Str) := (if pre then [(0, Str.ofString "none")] else []) ++ ks.map (tellF x dr)
theorem tolds_text {pre : Bool} {x : Str} {dr : Int} {ks : List Int} {sep : Str} (hs : SepOk sep) (hx : HeadOk x) (hk : ∀ k ∈ ks, ∃ j : Nat, k = (j : Int) ∧ j ≤ 16) (hl : ks.length ≤ 20) (hn : tolds pre x dr ks ≠ []) :
    ToldText (Txt.join sep ((tolds pre x dr ks).map quoteS)) (tolds pre x dr ks) := by
  have key : ∀ t ∈ tolds pre x dr ks, t = (0, Str.ofString "none") ∨ ∃ j : Nat, j ≤ 16 ∧ t = tellF x dr (j : Int) := by
    intro t ht
    rcases List.mem_append.mp ht with ht | ht
    · cases pre with
      | true => exact .inl (List.mem_singleton.mp ht)
      | false => cases ht
    · obtain ⟨k, hk', rfl⟩ := List.mem_map.mp ht
      obtain ⟨j, rfl, hj⟩ := hk k hk'
      exact .inr ⟨j, hj, rfl⟩
  refine told_join hs _ ?_ ?_ ?_ ?_ hn ?_
  · intro t ht
    rcases key t ht with rfl | ⟨j, hj, rfl⟩
    · decide
    · show (Int.fmod (Int.fdiv dr 2 + (j : Int)) 3).toNat < 3
      have h1 := Int.fmod_nonneg_of_pos (Int.fdiv dr 2 + (j : Int)) (b := 3) (by decide)
      have h2 := Int.fmod_lt_of_pos (Int.fdiv dr 2 + (j : Int)) (b := 3) (by decide)
      omega
  · intro t ht
    rcases key t ht with rfl | ⟨j, hj, rfl⟩
    · decide
    · exact tag_noquote hx hj
  · intro t ht
    rcases key t ht with rfl | ⟨j, hj, rfl⟩
    · decide
    · exact (tag_len hx hj).2
  · intro t ht
    rcases key t ht with rfl | ⟨j, hj, rfl⟩
    · decide
    · exact (tag_len hx hj).1
  · unfold tolds
    rw [List.length_append, List.length_map]
    cases pre <;> simp <;> omega
/-- a read gets the page just when its version is not told -/
theorem tolds_fresh {pre : Bool} {x : Str} {dr : Int} {ks : List Int} {v : Nat} (hx : HeadOk x) (hv : v ≤ 16) (hk : ∀ k ∈ ks, ∃ j : Nat, k = (j : Int) ∧ j ≤ 16) :
    (!(decide (tagOf x v ∈ weaks (tolds pre x dr ks)) || decide (tagOf x v ∈ strongs (tolds pre x dr ks)))) = !(decide ((v : Int) ∈ ks)) := by
  congr 1
  have key : (∃ t ∈ tolds pre x dr ks, t.2 = tagOf x v) ↔ (v : Int) ∈ ks := by
    constructor
    · rintro ⟨t, ht, e⟩
      rcases List.mem_append.mp ht with ht | ht
      · cases pre with
        | true =>
          rw [List.mem_singleton.mp ht] at e
          exact absurd e.symm (tag_none hx hv)
        | false => cases ht
      · obtain ⟨k, hk', rfl⟩ := List.mem_map.mp ht
        obtain ⟨j, rfl, hj⟩ := hk k hk'
        have := tag_inj hx hj hv e
        rw [← this]; exact hk'
    · intro h
      exact ⟨_, List.mem_append.mpr (.inr (List.mem_map.mpr ⟨_, h, rfl⟩)), rfl⟩
  have h2 : ((tagOf x v ∈ weaks (tolds pre x dr ks)) ∨ (tagOf x v ∈ strongs (tolds pre x dr ks))) ↔ (v : Int) ∈ ks := by
    rw [← key]
    unfold weaks strongs
    constructor
    · rintro (h | h)
      · obtain ⟨t, ht, e⟩ := List.mem_map.mp h
        exact ⟨t, (List.mem_filter.mp ht).1, e⟩
      · obtain ⟨t, ht, e⟩ := List.mem_map.mp h
        exact ⟨t, (List.mem_filter.mp ht).1, e⟩
    · rintro ⟨t, ht, e⟩
      by_cases h : t.1 = 0
      · exact .inr (List.mem_map.mpr ⟨t, List.mem_filter.mpr ⟨ht, by simp [h]⟩, e⟩)
      · exact .inl (List.mem_map.mpr ⟨t, List.mem_filter.mpr ⟨ht, by simp [h]⟩, e⟩)
  rw [← Bool.decide_or]
  exact decide_eq_decide.mpr h2
theorem in_keys {kvs : List (Int × Value)} {ks : List Int} (hp : ks.Perm (kvs.map (·.1))) (k : Int) : decide (k ∈ ks) = (valueAt kvs k).isSome := by
  cases e : valueAt kvs k with
  | some y => exact decide_eq_true (hp.mem_iff.mpr (List.mem_map.mpr ⟨_, valueAt_some e, rfl⟩))
  | none =>
    refine decide_eq_false fun h => ?_
    obtain ⟨kv, h1, h2⟩ := List.mem_map.mp (hp.mem_iff.mp h)
    obtain ⟨y, hy⟩ := valueAt_has (k := k) ⟨kv, h1, h2⟩
    rw [e] at hy; cases hy
section
variable {prog : Program} {w : World} {A : Around} {E : Value → Shared → Prop} {s : Shared} {a b : Addr} {xs : List Value} {ss : List Str} {Q : Value → Shared → Prop}
theorem layS : ∀ ss : List Str, (∀ y ∈ ss, PyData.strOk y = true) → PyData.canLayAll0 (ss.map PyData.str) = true
  | [], _ => rfl
  | y :: r, h => by
    have h1 := h y (.head _)
    have h2 := layS r fun z hz => h z (.tail _ hz)
    simp [PyData.canLayAll0, PyData.canLay0, h1, h2]
theorem depS : ∀ ss : List Str, PyData.depthAll (ss.map PyData.str) = 0
  | [] => rfl
  | _ :: r => by simp [PyData.depthAll, PyData.depth, depS r]
theorem shapedS (ss : List Str) (h : ∀ y ∈ ss, PyData.strOk y = true) : SeqAt.shaped (.list (ss.map PyData.str)) = true := by simp [SeqAt.shaped, PyData.canLay0, PyData.depth, layS ss h, depS]
theorem told_strOk {x : Str} {dr : Int} {j : Nat} (hx : HeadOk x) (hj : j ≤ 16) : PyData.strOk (toldF x dr (j : Int)) = true := by
  have h := tag_all (P := fun x v => PyData.strOk (toldS 0 (tagOf x v)) = true ∧ PyData.strOk (toldS 1 (tagOf x v)) = true ∧ PyData.strOk (toldS 2 (tagOf x v)) = true) (by decide +kernel) hx hj
  unfold toldF
  have h1 := Int.fmod_nonneg_of_pos (Int.fdiv dr 2 + (j : Int)) (b := 3) (by decide)
  have h2 := Int.fmod_lt_of_pos (Int.fdiv dr 2 + (j : Int)) (b := 3) (by decide)
  obtain e | e | e : Int.fmod (Int.fdiv dr 2 + (j : Int)) 3 = 0 ∨ Int.fmod (Int.fdiv dr 2 + (j : Int)) 3 = 1 ∨ Int.fmod (Int.fdiv dr 2 + (j : Int)) 3 = 2 := by omega
  · rw [e]; exact h.1
  · rw [e]; exact h.2.1
  · rw [e]; exact h.2.2
theorem neS (ha : s.heap.IsList a xs.toArray) (hb : s.heap.IsList b #[]) (hi : StrsAre xs ss) {r : Bool} (hr : (!ss.isEmpty) = r) (ho : ∀ y ∈ ss, PyData.strOk y = true) (hu : A.units + 64 < cLine) (h : Q (.bool r) s) :
    wpAny (model prog w) A (compareOp .NotEq (.ref a) (.ref b)) Q E s :=
  ne_dataH_same (reads_newData ha hi.carried) (reads_newData (ys := []) hb .nil) (shapedS _ ho) (shapedS [] (fun _ h => nomatch h)) hu (SeqAt.noMix_of_shape (.list .str) rfl _ _ (list_map_has fun _ => rfl) (list_map_has (l := ([] : List Str)) (g := PyData.str) fun _ => rfl)) (by
    have e : PySem.Spec.same (.list (ss.map PyData.str)) (.list []) = ss.isEmpty := by
      cases ss with
      | nil => simp [PySem.Spec.same, PySem.Spec.sameAll]
      | cons y r => simp [PySem.Spec.same, PySem.Spec.sameAll]
    rw [e, hr]; exact h)
end
theorem lst_eq (ys : List Value) : LCg.lst ys = listOf ys.toArray ys.length := rfl
end Mine
namespace Mine
open PySem PySem.W PySem.Calls PyProof.Rows
section
variable {prog : Program} {w : World} {A : Around} {E : Value → Shared → Prop} {s : Shared} {h₀ : Heap} {L a b D : Addr} {m : Str → Option Value} {news : List (Addr × Obj)} {zs : List Value} {ss : List Str} {y : Str} {t : Tok} {n k : Nat} {Q : Value → Shared → Prop}
theorem StrsAre.len : ∀ {vs : List Value} {ss : List Str}, StrsAre vs ss → vs.length = ss.length
  | _, _, .nil => rfl
  | _, _, .cons _ _ r => by simp [StrsAre.len r]
theorem addS (F : Fr h₀ L s.heap m) (N : News h₀ L s.heap news) (ha : (a, listOf #[.str y t] n) ∈ news) (hb : (b, listOf zs.toArray k) ∈ news) (hi : StrsAre zs ss) (hl : ss.length ≤ 1000)
    (h : ∀ D h' us, Fr h₀ L h' m → News h₀ L h' ((D, listOf (List.toArray us) 0) :: news) → (∀ p ∈ news, p.1 < D) → StrsAre us (y :: ss) → Q (.ref D) { s with heap := h' }) :
    wpAny (model prog w) A (binaryOp .Add (.ref a) (.ref b)) Q E s :=
  add_lists (vs := [.str y t]) (ws := zs) F N (listN (vs := [.str y t]) N ha) (listN N hb) (fun h' F' N' => h _ h' (.str y t :: zs) F' N' (fun p hp => Heap.lt_size (N p hp).1) (.cons y t hi)) (by rw [StrsAre.len hi, sizeLine_eq]; simp only [List.length_cons, List.length_nil]; omega)
theorem joinS {sep : Str} {items : List Value} (hl : s.heap.IsList D items.toArray) (hi : StrsAre items ss) (hs : SepOk sep) (hw : (ss.map (·.length)).sum + ss.length ≤ 1048576)
    (h : ∀ t' tk, Q (.str (Txt.join sep ss) t') { s with toks := tk }) : wpAny (model prog w) A (call (.builtin "str.join") [.str sep t, .ref D]) Q E s :=
  join_listW hl (by simpa using hi) (sep_parts hs).1 hw h
theorem sepK {value slice : PySem.Expr} {l : Addr} {i : Int} {u t1 t2 t3 : Tok} (hl : s.heap.IsList l #[.str (Str.ofString ", ") t1, .str (Str.ofString ",") t2, .str (Str.ofString " ,\t") t3])
    (h0 : 0 ≤ i) (h1 : i < 3) (h : ∀ x t, SepOk x → Q (.str x t) s)
    (hs : subscripted slice false (.ref l) (.int i u) = operate [.ref l, .int i u] (getItem (.ref l) (.int i u)) := by with_unfolding_all rfl) :
    wpAny (model prog w) A (subscriptTail value slice (.ref l) (.int i u)) Q E s := by
  obtain rfl | rfl | rfl : i = 0 ∨ i = 1 ∨ i = 2 := by omega
  · exact tail_any hl.typeIs slot_list_getitem.lookup (wpAny_getItem_list hl (by decide) (by decide) (x := .str (Str.ofString ", ") t1) rfl (h _ _ (.inl rfl))) hs
  · exact tail_any hl.typeIs slot_list_getitem.lookup (wpAny_getItem_list hl (by decide) (by decide) (x := .str (Str.ofString ",") t2) rfl (h _ _ (.inr (.inl rfl)))) hs
  · exact tail_any hl.typeIs slot_list_getitem.lookup (wpAny_getItem_list hl (by decide) (by decide) (x := .str (Str.ofString " ,\t") t3) rfl (h _ _ (.inr (.inr rfl)))) hs
end
theorem ask_twice {h₀ h : Heap} {L : Addr} {a b c : Option Value} {m : Str → Option Value} (F : Fr h₀ L h (fun y => if y = "asked" then a else if y = "told" then b else if y = "told" then c else m y)) : Fr h₀ L h (fun y => if y = "asked" then a else if y = "told" then b else m y) := by
  have e : (fun y : Str => if y = "asked" then a else if y = "told" then b else if y = "told" then c else m y) = fun (y : Str) => if y = "asked" then a else if y = "told" then b else m y := by
    funext y
    by_cases h1 : y = "asked"
    · rw [if_pos h1, if_pos h1]
    · rw [if_neg h1, if_neg h1]
      by_cases h2 : y = "told"
      · rw [if_pos h2, if_pos h2]
      · rw [if_neg h2, if_neg h2, if_neg h2]
  exact e ▸ F
theorem told_map (pre : Bool) (x : Str) (dr : Int) (ks : List Int) : (tolds pre x dr ks).map quoteS = (if pre then [Str.ofString "\"none\""] else []) ++ ks.map (toldF x dr) := by
  unfold tolds
  rw [List.map_append, List.map_map]
  have e : (quoteS ∘ tellF x dr) = toldF x dr := by funext k; exact quote_tell x dr k
  rw [e]
  cases pre with
  | true => rfl
  | false => rfl
theorem told_weight {pre : Bool} {x : Str} {dr : Int} {ks : List Int} (hx : HeadOk x) (hk : ∀ k ∈ ks, ∃ j : Nat, k = (j : Int) ∧ j ≤ 16) (hl : ks.length ≤ 20) : (((tolds pre x dr ks).map quoteS).map (·.length)).sum + ((tolds pre x dr ks).map quoteS).length ≤ 1048576 := by
  have h := sum_le (tolds pre x dr ks) (fun t ht => by
    rcases List.mem_append.mp ht with ht | ht
    · cases pre with
      | true => rw [List.mem_singleton.mp ht]; decide
      | false => cases ht
    · obtain ⟨k, hk', rfl⟩ := List.mem_map.mp ht
      obtain ⟨j, rfl, hj⟩ := hk k hk'
      exact (tag_len hx hj).1)
  have h2 : (tolds pre x dr ks).length ≤ 21 := by
    unfold tolds
    rw [List.length_append, List.length_map]
    cases pre <;> simp <;> omega
  rw [List.length_map]
  omega
theorem told_ok {pre : Bool} {x : Str} {dr : Int} {ks : List Int} (hx : HeadOk x) (hk : ∀ k ∈ ks, ∃ j : Nat, k = (j : Int) ∧ j ≤ 16) : ∀ y ∈ (if pre then [Str.ofString "\"none\""] else []) ++ ks.map (toldF x dr), PyData.strOk y = true := by
  intro y hy
  rcases List.mem_append.mp hy with hy | hy
  · cases pre with
    | true => rw [List.mem_singleton.mp hy]; decide +kernel
    | false => cases hy
  · obtain ⟨k, hk', rfl⟩ := List.mem_map.mp hy
    obtain ⟨j, rfl, hj⟩ := hk k hk'
    exact told_strOk hx hj
end Mine
namespace Mine
open PySem PySem.W PySem.Calls PyProof.Rows
section
variable {prog : Program} {w : World} {A : Around} {E : Value → Shared → Prop} {s : Shared} {h₀ : Heap} {L l : Addr} {news : List (Addr × Obj)} {Q : Value → Shared → Prop}
theorem dictInR {q : Obj} {kvs : List (Int × Value)} {k : Int} {t : Tok} {r : Bool} (N : News h₀ L s.heap news) (hp : (l, q) ∈ news) (hd : q.IsDictOf (intKind prog w) kvs) (h1 : l ≠ 1) (hr : (valueAt kvs k).isSome = r) (h : Q (.bool r) { s with toks := s.toks + 1 }) :
    wpAny (model prog w) A (compareOp .In (.int k t) (.ref l)) Q E s := dictIn N hp hd h1 (by rw [hr]; exact h)
theorem dictNotInR {q : Obj} {kvs : List (Int × Value)} {k : Int} {t : Tok} {r : Bool} (N : News h₀ L s.heap news) (hp : (l, q) ∈ news) (hd : q.IsDictOf (intKind prog w) kvs) (h1 : l ≠ 1) (hr : (valueAt kvs k).isSome = !r) (h : Q (.bool r) { s with toks := s.toks + 1 }) :
    wpAny (model prog w) A (compareOp .NotIn (.int k t) (.ref l)) Q E s := dictNotIn N hp hd h1 (by rw [hr, Bool.not_not]; exact h)
end
end Mine
end
section
open PySem PySem.W PyProof.Rows
namespace Mine
local macro_rules | `(tactic| walk_at "mine pad 0") => `(tactic| fail "pad")
local macro_rules | `(tactic| walk_at "mine pad 1") => `(tactic| fail "pad")
local macro_rules | `(tactic| walk_at "mine pad 2") => `(tactic| fail "pad")
local macro_rules | `(tactic| walk_at "mine pad 3") => `(tactic| fail "pad")
local macro_rules | `(tactic| walk_at "mine pad 4") => `(tactic| fail "pad")
local macro_rules | `(tactic| walk_at "mine pad 5") => `(tactic| fail "pad")
local macro_rules | `(tactic| walk_at "mine pad 6") => `(tactic| fail "pad")
local macro_rules | `(tactic| walk_at "mine pad 7") => `(tactic| fail "pad")
local macro_rules | `(tactic| walk_at "mine pad 8") => `(tactic| fail "pad")
local macro_rules | `(tactic| walk_at "mine pad 9") => `(tactic| fail "pad")
local macro_rules | `(tactic| walk_at "mine pad 10") => `(tactic| fail "pad")
local macro_rules | `(tactic| walk_at "mine pad 11") => `(tactic| fail "pad")
local macro_rules | `(tactic| walk_at "mine pad 12") => `(tactic| fail "pad")
local macro_rules | `(tactic| walk_at "mine pad 13") => `(tactic| fail "pad")
local macro_rules | `(tactic| walk_at "mine pad 14") => `(tactic| fail "pad")
local macro_rules | `(tactic| walk_at "mine pad 15") => `(tactic| fail "pad")
local macro_rules | `(tactic| walk_at "mine pad 16") => `(tactic| fail "pad")
local macro_rules | `(tactic| walk_at "mine pad 17") => `(tactic| fail "pad")
local macro_rules | `(tactic| walk_at "mine pad 18") => `(tactic| fail "pad")
local macro_rules | `(tactic| walk_at "mine pad 19") => `(tactic| fail "pad")
local macro_rules | `(tactic| walk_at "mine pad 20") => `(tactic| fail "pad")
local macro_rules | `(tactic| walk_at "mine pad 21") => `(tactic| fail "pad")
local macro_rules | `(tactic| walk_at "mine pad 22") => `(tactic| fail "pad")
local macro_rules | `(tactic| walk_at "mine pad 23") => `(tactic| fail "pad")
local macro_rules | `(tactic| walk_at "mine pad 24") => `(tactic| fail "pad")
local macro_rules | `(tactic| walk_at "mine pad 25") => `(tactic| fail "pad")
local macro_rules | `(tactic| walk_at "mine pad 26") => `(tactic| fail "pad")
local macro_rules | `(tactic| walk_at "mine pad 27") => `(tactic| fail "pad")
local macro_rules | `(tactic| walk_at "mine pad 28") => `(tactic| fail "pad")
local macro_rules | `(tactic| walk_at "mine pad 29") => `(tactic| fail "pad")
local macro_rules | `(tactic| walk_at "mine pad 30") => `(tactic| fail "pad")
local macro_rules | `(tactic| walk_at "mine pad 31") => `(tactic| fail "pad")
local macro_rules | `(tactic| walk_at "mine pad 32") => `(tactic| fail "pad")
local macro_rules | `(tactic| walk_at "mine pad 33") => `(tactic| fail "pad")
local macro_rules | `(tactic| walk_at "mine pad 34") => `(tactic| fail "pad")
local macro_rules | `(tactic| walk_at "mine pad 35") => `(tactic| fail "pad")
local macro_rules | `(tactic| walk_at "exec While") => `(tactic| (k_here; refine Mine.Stop.go ?_))
local macro_rules | `(tactic| k_room) => `(tactic| ((try simp only [depth_under_make, depth_under_kw, depth_in1, depth_deeper, depth_caller]); show _ < 1000; omega))
local macro_rules | `(tactic| k_units) => `(tactic| (show _ < 9900; (try simp only [Around.in1_units, Around.deeper_units, Around.mark_units]); omega))
local macro_rules | `(tactic| walk_at "call type:frozenset nil nil") => `(tactic| (k_here; k_dflt (refine' fset0_K' ?F ?N ?_; (case F => k_asm); (case N => k_asm); k_whole); intro a' h' o' F' N' S' l1; (try k_lt l1); (try k_sweep)))
local macro_rules | `(tactic| walk_at "call type:frozenset cons nil") => `(tactic| (k_here; k_dflt (first
  | (refine' fsetL_K ?F ?N ?m ?x ?hh ?hb ?_; (case F => k_asm); (case N => k_asm); (case m => k_mem); (case x => assumption); (case hh => rfl); (case hb => omega); k_whole)
  | (refine' fsetT_K ?F ?N ?t ?hh ?_; (case F => k_asm); (case N => k_asm); (case t => exact ⟨_, News.get (by k_asm) (by k_mem), rfl, _, rfl⟩); (case hh => rfl); k_whole)); intro a' h' tk' o' F' N' S' l1; (try k_lt l1); (try k_sweep)))
local macro_rules | `(tactic| walk_at "truthy ref") => `(tactic| (k_here; k_dflt (refine' fset_truthy_K ?N ?m ?f ?hn ?_; (case N => k_asm); (case m => k_mem); (case f => assumption); (case hn => omega); k_whole); intro b' tk' hb'))
local macro_rules | `(tactic| walk_at "compareOp In str ref") => `(tactic| (k_here; k_dflt (refine' fset_in_K ?N ?m ?f ?hn ?_; (case N => k_asm); (case m => k_mem); (case f => assumption); (case hn => omega); k_whole); intro tk'))
local macro_rules | `(tactic| walk_at "getMethod ref") => `(tactic| (k_here; k_dflt (first
  | (refine' meth_pattern ?P slot_pattern_match type_pattern_match ?_; (case P => exact PatAt.keeps (by assumption) (Fr.keep (by k_asm))); k_whole)
  | (refine' meth_match ?f slot_match_groups type_match_groups ?_; (case f => exact foundN (by k_asm) (by k_mem) (by k_mem)); k_whole)
  | (refine' meth_match ?f slot_match_end type_match_end ?_; (case f => exact foundN (by k_asm) (by k_mem) (by k_mem)); k_whole))))
local macro_rules | `(tactic| walk_at "call builtin:re.Pattern.match") => `(tactic| (k_here; k_dflt (first
  | (refine' matchK_yes ?F ?N ?P ?g ?hp ?hx ?hm ?hk ?ok ?len ?_; (case F => k_asm); (case N => k_asm); (case hm => assumption); (case P => assumption); (case g => rfl); (case hp => omega); (case hx => omega); (case hk => decide); (case ok => assumption); (case len => exact Nat.le_of_ble_eq_true rfl); k_whole; intro a' T' h' F' N' l1 l2; (try k_lt l1); (try k_lt2 l2); (try k_sweep))
  | (refine' matchK_no ?F ?P ?hp ?hx ?hm ?hk ?_; (case F => k_asm); (case hm => assumption); (case P => assumption); (case hp => omega); (case hx => omega); (case hk => decide); k_whole))))
local macro_rules | `(tactic| walk_at "call builtin:re.Match.groups") => `(tactic| (k_here; k_dflt (refine' groupsK3 ?F ?N ?f ?hx ?_; (case F => k_asm); (case N => k_asm); (case f => exact foundN (by k_asm) (by k_mem) (by k_mem)); (case hx => omega); k_whole); intro T' t1' t2' t3' h' tk' F' N' l1; (try dsimp only [partOf] at N'); (try k_lt l1); (try k_sweep)))
local macro_rules | `(tactic| walk_at "call builtin:re.Match.end") => `(tactic| (k_here; k_dflt (refine' endK ?f ?_; (case f => exact foundN (by k_asm) (by k_mem) (by k_mem)); k_whole)))
local macro_rules | `(tactic| walk_at "truthy str") => `(tactic| (k_here; k_dflt (refine' truthy_text ?a ?b ?_; (case a => omega); (case b => omega); k_whole); intro tk'))
local macro_rules | `(tactic| walk_at "truthy ref") => `(tactic| (k_here; k_dflt (refine' truthy_listK ?N ?m ?hb ?_; (case N => k_asm); (case m => k_mem); (case hb => omega); k_whole); intro tk'))
local macro_rules | `(tactic| walk_at "call ref") => `(tactic| (k_here; k_dflt (first
  | (refine' etags_someK ?B ?F ?N ?X ?T ?P ?hA ?hf ?hke ?hh ?hd ?hu ?ht ?_; (case ht => assumption); (case hA => exact rfl); (case hf => exact rfl); (case hke => exact rfl); (case B => k_asm); (case F => k_asm); (case N => k_asm); (case X => k_asm); (case T => k_asm); (case P => first | assumption | exact PatAt.keeps (by assumption) (Fr.keep (by k_asm))); (case hh => rfl); (case hd => ((try simp only [depth_in1, depth_deeper, depth_caller]); show _ < 500; omega)); (case hu => ((try simp only [Around.in1_units, Around.deeper_units]); show _ < 500; omega)); k_whole; intro h' tk' e' d' a' b' oa' ob' t1' t2' t3' n' nS' nW' F' N' f1' f2' f3' f4'; (try k_sweep))
  | (refine' etags_noneK ?B ?F ?N ?X ?T ?hA ?hf ?hke ?hh ?hd ?hu ?_; (case hA => exact rfl); (case hf => exact rfl); (case hke => exact rfl); (case B => k_asm); (case F => k_asm); (case N => k_asm); (case X => k_asm); (case T => k_asm); (case hh => rfl); (case hd => ((try simp only [depth_in1, depth_deeper, depth_caller]); show _ < 500; omega)); (case hu => ((try simp only [Around.in1_units, Around.deeper_units]); show _ < 500; omega)); k_whole; intro h' tk' e' d' a' b' oa' ob' t1' t2' t3' n' nS' nW' F' N' f1' f2' f3' f4'; (try k_sweep)))))
local macro_rules | `(tactic| walk_at "call builtin:str.startswith") => `(tactic| (k_here; k_dflt (refine' startswith_tup ?h ?_; (case h => exact ⟨_, News.get (by k_asm) (by k_mem), rfl, _, rfl⟩); k_whole)))
local macro_rules | `(tactic| walk_at "call builtin:str.endswith") => `(tactic| (k_here; k_dflt (refine' ends_true ?h ?_; (case h => assumption); k_whole)))
local macro_rules | `(tactic| walk_at "call type:bool") => `(tactic| (k_here; k_dflt (refine' bool_fsetL ?N ?m ?f ?hn ?_; (case N => k_asm); (case m => k_mem); (case f => with_reducible assumption); (case hn => omega); k_whole); intro tk'))
local macro_rules | `(tactic| walk_at "truthy ref") => `(tactic| (k_here; k_dflt (refine' truthy_fsetL ?N ?m ?f ?hn ?_; (case N => k_asm); (case m => k_mem); (case f => with_reducible assumption); (case hn => omega); k_whole); intro tk'))
local macro_rules | `(tactic| walk_at "call type:bool") => `(tactic| (k_here; k_dflt (refine' bool_fset0 ?N ?m ?f ?hn ?_; (case N => k_asm); (case m => k_mem); (case f => with_reducible assumption); (case hn => omega); k_whole); intro tk'))
local macro_rules | `(tactic| walk_at "truthy ref") => `(tactic| (k_here; k_dflt (refine' truthy_fset0 ?N ?m ?f ?hn ?_; (case N => k_asm); (case m => k_mem); (case f => with_reducible assumption); (case hn => omega); k_whole); intro tk'))
local macro_rules | `(tactic| walk_at "getMethod ref") => `(tactic| (k_here; k_dflt (refine' meth_pattern ?P slot_pattern_fullmatch type_pattern_fullmatch ?_; (case P => first | exact PatAt.keeps (by assumption) (Fr.keep (by k_asm)) | exact PatAt.keeps (PatAt.keeps (by assumption) (Fr.keep (by assumption))) (Fr.keep (by k_asm))); k_whole)))
local macro_rules | `(tactic| walk_at "call builtin:re.Pattern.fullmatch") => `(tactic| (k_here; k_dflt (refine' fullK_c (n := 12) ?F ?N ?P ?hx ?hn ?h0 ?h1 ?h2 ?h3 ?_; (case F => k_asm); (case N => k_asm); (case P => first | assumption | exact PatAt.keeps (by assumption) (Fr.keep (by assumption))); (case hx => decide +kernel); (case hn => decide); (case h0 => first | kernel_rfl | rfl); (case h1 => rfl); (case h2 => rfl); (case h3 => rfl); k_whole; intro a' h' F' N')))

local macro_rules | `(tactic| k_ne) => `(tactic| (refine neN ?_; (try dsimp only); first | exact Ap.ne (by with_reducible assumption) | exact Ap.ne' (by with_reducible assumption) | fail "no"))
local macro_rules | `(tactic| k_all) => `(tactic| with_reducible assumption)
local macro_rules | `(tactic| walk_at "subscriptTail Name Slice ref ref") => `(tactic| (k_here; k_dflt (refine' sliceUpLI ?F ?N ?s ?li ?y ?x ?_ ?sb ?t; (case F => k_asm); (case N => k_asm); (case li => with_reducible assumption); (case s => ((repeat (with_reducible refine subT ?_)); exact subR)); (case y => exact Int.fmod_nonneg_of_pos _ (by decide)); (case x => omega); (case sb => with_unfolding_all rfl); (case t => (intro _; with_unfolding_all rfl)); k_whole); intro D' h' zs' F' N' l1 hI'; (try k_lt l1)))
local macro_rules | `(tactic| walk_at "setItem ref int") => `(tactic| (k_here; k_dflt (refine' setLst ?F ?N ?a ?b ?l ?U ?_; (case F => k_asm); (case N => k_asm); (case U => k_upd); (case a => assumption); (case b => assumption); (case l => first | assumption | (rw [List.length_set]; assumption)); k_whole); intro h' F' N'))
local macro_rules | `(tactic| walk_at "subscriptTail Name Name ref int") => `(tactic| (k_here; k_dflt (refine' pickR ?k1 ?k2 ?k3 ?k4 ?_ ?k6; (case k1 => exact listN (by k_asm) (by k_mem)); (case k2 => with_reducible assumption); (case k3 => assumption); (case k4 => omega); (case k6 => with_unfolding_all rfl); k_whole)))

local macro_rules | `(tactic| walk_at "binaryOp Add str str") => `(tactic| (k_here; k_dflt (refine' Rows_add ?_ ?z; (case z => exact add_ok (by assumption) (by omega)); intro t' tk')))
local macro_rules | `(tactic| walk_at "ite") => `(tactic| (k_here; (with_reducible refine ite_pos ?e ?_); (case e => with_reducible assumption)))
local macro_rules | `(tactic| walk_at "binaryOp Mod int int") => `(tactic| (k_here; k_dflt (refine' modK ?e ?n ?_; (case e => with_reducible assumption); (case n => decide); k_whole)))
local macro_rules | `(tactic| walk_at "subscriptTail Name Name ref int") => `(tactic| (k_here; k_dflt (first
  | (refine' pickR ?k1 ?k2 ?k3 ?k4 ?_ ?k6; (case k1 => exact listN (by k_asm) (by k_mem)); (case k2 => with_reducible assumption); (case k3 => assumption); (case k4 => omega); (case k6 => with_unfolding_all rfl); k_whole)
  | (refine' dictGet ?N ?p ?d ?l ?_ ?s ?g; (case N => k_asm); (case p => k_mem); (case d => with_reducible assumption); (case l => with_reducible assumption); (case s => with_unfolding_all rfl); (case g => (intro _; with_unfolding_all rfl)); k_whole)
  | fail "no pick")))
local macro_rules | `(tactic| walk_at "binaryOp Add ref ref") => `(tactic| (k_here; k_dflt (refine' addLI1 ?F ?N ?s ?li ?b ?x ?_; (case F => k_asm); (case N => k_asm); (case li => with_reducible assumption); (case s => ((repeat (with_reducible refine subT ?_)); exact subR)); (case b => k_mem); (case x => omega); k_whole); intro D' h' zs' F' N' l1 hI'; (try k_lt l1)))
local macro_rules | `(tactic| walk_at "setItem ref int") => `(tactic| (k_here; k_dflt (first
  | (refine' setLst ?F ?N ?a ?b ?l ?U ?_; (case F => k_asm); (case N => k_asm); (case U => k_upd); (case a => assumption); (case b => assumption); (case l => first | assumption | (rw [List.length_set]; assumption)); k_whole; intro h' F' N')
  | (refine' dictSet ?F ?N ?U ?d ?z ?_; (case F => k_asm); (case N => k_asm); (case U => k_updF); (case d => with_reducible assumption); (case z => omega); k_whole; intro h' o' F' N' hd'; (try dsimp only at N'))
  | fail "no set")))

theorem deed2K {w : World} {h₀ : Heap} {s : Shared} {lz : List Str} {mean : ExcName → Option Value} {mg mb : Str → Option Value} {fa : Addr} {cd : Value} {E : Value → Shared → Prop} {Q : Flow → Shared → Prop}
    {L I D Sa Ba Pa d da db pg lt : Nat} {oI o2 oH oD q qa qb : Obj} {sv bv pv : List Value} {b p ba pa bb pb : Value} {nS nb np i v : Nat} {rest : List (Addr × Obj)} {H : Nat → List Int} {tv tc td tx tn tdr tk : Tok} {u : Str → Option Value} {c dr de : Int} {x : Str}
    (B : Below callerA h₀ [] h₀) (X : (hd1.heap_39 w.params).In h₀) (T : Top hd1.view_39 lz mean mg mb h₀)
    (F : Fr h₀ L s.heap fun y => if y = "store" then some (.ref d) else if y = "now" then some (.str (Str.ofString "\"" ++ (x ++ Str.ofString (toString (v : Int))) ++ Str.ofString "\"") tn) else if y = "deed" then some (.int de td) else if y = "client" then some (.int c tc) else if y = "k" then some (.int (i : Int) tk) else
      if y = "good" then some (.bool true) else if y = "parts" then some (.ref Pa) else if y = "bases" then some (.ref Ba) else if y = "stores" then some (.ref Sa) else if y = "page" then some (.ref pg) else
      if y = "version" then some (.int (v : Int) tv) else if y = "let" then some (.ref lt) else if y = "cells" then some (.ref D) else u y)
    (N : News h₀ L s.heap ((I, oI) :: (L + 1 + 1, o2) :: (L + 1, oH) :: (D, oD) :: (Sa, listOf sv.toArray nS) :: (Ba, listOf bv.toArray nb) :: (Pa, listOf pv.toArray np) :: (d, q) :: (da, qa) :: (db, qb) :: rest))
    (hoH : oH.data = .cell (some (.str x tx))) (ho2 : o2.data = .cell (some (.int dr tdr))) (hx : HeadOk x) (hc0 : 0 ≤ c) (hc3 : c < 3) (hi : i < 16) (hv : v ≤ i)
    (hH : ∀ j, j ≤ v → (H j).length = 3 + j) (hpg : LI rest pg (H v)) (hlt : LI rest lt (H v))
    (gq : ClientOk PySem.Challenge.rw_ez0420_01.row.prog w H v rest q b p) (ga : ClientOk PySem.Challenge.rw_ez0420_01.row.prog w H v rest qa ba pa) (gb : ClientOk PySem.Challenge.rw_ez0420_01.row.prog w H v rest qb bb pb)
    (sl : sv.length = 3) (bl : bv.length = 3) (pl : pv.length = 3) (hs : sv[c.toNat]? = some (.ref d)) (hb : bv[c.toNat]? = some b) (hp : pv[c.toNat]? = some p)
    (hA : Apart1 I (L + 1) (L + 1 + 1) D Sa Ba Pa d da db) (hd1' : d ≠ 1) (hrest : ∀ p ∈ rest, p.1 ≠ I ∧ p.1 ≠ L + 1 + 1 ∧ p.1 ≠ Ba ∧ p.1 ≠ Pa ∧ p.1 ≠ d ∧ p.1 ≠ da ∧ p.1 ≠ db)
    (fin : FinT PySem.Challenge.rw_ez0420_01.row.prog w h₀ L I D Sa Ba Pa d da db oI oH oD qa qb sv bv pv ba pa bb pb nS i c s Q)  :
    wpAny (model PySem.Challenge.rw_ez0420_01.row.prog w) (callerA.deeper (envOfC (Str.ofString "law") lawScope L fa cd)) (execs body2 (envOfC (Str.ofString "law") lawScope L fa cd)) Q E s := by
  show wpAny _ (callerA.deeper (envOfC _ (Scope.mk _ _ _ _ _) _ _ _)) (execs (_ :: _) (envOfC _ (Scope.mk _ _ _ _ _) _ _ _)) _ _ _

  revert X; k_fill; intro X
  obtain ⟨⟨aI1, aI2, aI3, aI4, aI5, aI6, aI7, aI8, aI9⟩, ⟨ac1, ac2, ac3, ac4, ac5, ac6, ac7, ac8⟩, ⟨aB1, aB2, aB3, aB4, aB5, aB6, aB7⟩, ⟨aP1, aP2, aP3, aP4, aP5, aP6⟩, ⟨ad1, ad2, ad3, ad4, ad5⟩⟩ := hA.hide
  clear hA
  have z0 := ltN (Heap.lt_size (N _ (.head _)).1)
  have z1 := ltN (Heap.lt_size (N _ (.tail _ (.head _))).1)
  have z2 := ltN (Heap.lt_size (N _ (.tail _ (.tail _ (.head _)))).1)
  have z3 := ltN (Heap.lt_size (N _ (.tail _ (.tail _ (.tail _ (.head _))))).1)
  have z4 := ltN (Heap.lt_size (N _ (.tail _ (.tail _ (.tail _ (.tail _ (.head _)))))).1)
  have z5 := ltN (Heap.lt_size (N _ (.tail _ (.tail _ (.tail _ (.tail _ (.tail _ (.head _))))))).1)
  have z6 := ltN (Heap.lt_size (N _ (.tail _ (.tail _ (.tail _ (.tail _ (.tail _ (.tail _ (.head _)))))))).1)
  have z7 := ltN (Heap.lt_size (N _ (.tail _ (.tail _ (.tail _ (.tail _ (.tail _ (.tail _ (.tail _ (.head _))))))))).1)
  have z8 := ltN (Heap.lt_size (N _ (.tail _ (.tail _ (.tail _ (.tail _ (.tail _ (.tail _ (.tail _ (.tail _ (.head _)))))))))).1)
  have z9 := ltN (Heap.lt_size (N _ (.tail _ (.tail _ (.tail _ (.tail _ (.tail _ (.tail _ (.tail _ (.tail _ (.tail _ (.head _))))))))))).1)
  dsimp only at z0 z1 z2 z3 z4 z5 z6 z7 z8 z9
  have rI := fun p hp => (hrest p hp).1
  have r2 := fun p hp => (hrest p hp).2.1
  have rB := fun p hp => (hrest p hp).2.2.1
  have rP := fun p hp => (hrest p hp).2.2.2.1
  have rd := fun p hp => (hrest p hp).2.2.2.2.1
  have hlv := hH v (Nat.le_refl _)

  have eb := set_same hb
  k_steps
  rename News _ _ _ _ => lN
  rename_i D' _ zs' iz _ l' _ _ _ _ _ lF
  refine fin b (.ref l') q ((l', listOf #[.int (v : Int) tv, .ref D'] 0) :: (D', listOf zs'.toArray 0) :: rest) _ _ _ o2 _ H v nb np pg lt tv _ ?a1 hH ho2 rfl rfl rfl rfl rfl rfl rfl rfl lF lN ?m1 ?m2 ?m3 ?m4 ?m5 ?m6 ?m7 ?m8 ?m9 ?m10 ?m11 ?l1 ?l2 ?g1 ?g2 ?g3 ?ap
  (case a1 => omega)
  (case m1 => k_mem); (case m2 => k_mem); (case m3 => k_mem); (case m4 => k_mem); (case m5 => k_mem); (case m6 => rw [eb]; k_mem); (case m7 => k_mem); (case m8 => k_mem); (case m9 => k_mem); (case m10 => k_mem)
  (case m11 => refine List.forall_mem_cons.mpr ⟨by k_mem, List.forall_mem_cons.mpr ⟨by k_mem, ?_⟩⟩; ((repeat (with_reducible refine subT ?_)); exact subR))
  (case l1 => exact hpg.mono (subT (subT subR))); (case l2 => exact hlt.mono (subT (subT subR)))
  (case g2 => exact ga.more (subT (subT subR))); (case g3 => exact gb.more (subT (subT subR)))
  (case g1 => refine gq.setPart (subT (subT subR)) ⟨l', rfl, .inr ⟨v, tv, D', (Int.fmod dr 5).toNat, Nat.le_refl _, ?_, .head _, ⟨zs', 0, .tail _ (.head _), iz⟩⟩⟩; (have := Int.fmod_lt_of_pos dr (b := 5) (by decide)); omega)
  (case ap => refine List.forall_mem_cons.mpr ⟨?_, List.forall_mem_cons.mpr ⟨?_, hrest⟩⟩ <;> (dsimp only; refine ⟨?_, ?_, ?_, ?_, ?_, ?_, ?_⟩ <;> k_ne))
end Mine
end
section
open PySem PySem.W PyProof.Rows
namespace Mine
local macro_rules | `(tactic| walk_at "mine pad 0") => `(tactic| fail "pad")
local macro_rules | `(tactic| walk_at "mine pad 1") => `(tactic| fail "pad")
local macro_rules | `(tactic| walk_at "mine pad 2") => `(tactic| fail "pad")
local macro_rules | `(tactic| walk_at "mine pad 3") => `(tactic| fail "pad")
local macro_rules | `(tactic| walk_at "mine pad 4") => `(tactic| fail "pad")
local macro_rules | `(tactic| walk_at "mine pad 5") => `(tactic| fail "pad")
local macro_rules | `(tactic| walk_at "mine pad 6") => `(tactic| fail "pad")
local macro_rules | `(tactic| walk_at "mine pad 7") => `(tactic| fail "pad")
local macro_rules | `(tactic| walk_at "mine pad 8") => `(tactic| fail "pad")
local macro_rules | `(tactic| walk_at "mine pad 9") => `(tactic| fail "pad")
local macro_rules | `(tactic| walk_at "mine pad 10") => `(tactic| fail "pad")
local macro_rules | `(tactic| walk_at "mine pad 11") => `(tactic| fail "pad")
local macro_rules | `(tactic| walk_at "mine pad 12") => `(tactic| fail "pad")
local macro_rules | `(tactic| walk_at "mine pad 13") => `(tactic| fail "pad")
local macro_rules | `(tactic| walk_at "mine pad 14") => `(tactic| fail "pad")
local macro_rules | `(tactic| walk_at "mine pad 15") => `(tactic| fail "pad")
local macro_rules | `(tactic| walk_at "mine pad 16") => `(tactic| fail "pad")
local macro_rules | `(tactic| walk_at "mine pad 17") => `(tactic| fail "pad")
local macro_rules | `(tactic| walk_at "mine pad 18") => `(tactic| fail "pad")
local macro_rules | `(tactic| walk_at "mine pad 19") => `(tactic| fail "pad")
local macro_rules | `(tactic| walk_at "mine pad 20") => `(tactic| fail "pad")
local macro_rules | `(tactic| walk_at "mine pad 21") => `(tactic| fail "pad")
local macro_rules | `(tactic| walk_at "mine pad 22") => `(tactic| fail "pad")
local macro_rules | `(tactic| walk_at "mine pad 23") => `(tactic| fail "pad")
local macro_rules | `(tactic| walk_at "mine pad 24") => `(tactic| fail "pad")
local macro_rules | `(tactic| walk_at "mine pad 25") => `(tactic| fail "pad")
local macro_rules | `(tactic| walk_at "mine pad 26") => `(tactic| fail "pad")
local macro_rules | `(tactic| walk_at "mine pad 27") => `(tactic| fail "pad")
local macro_rules | `(tactic| walk_at "mine pad 28") => `(tactic| fail "pad")
local macro_rules | `(tactic| walk_at "mine pad 29") => `(tactic| fail "pad")
local macro_rules | `(tactic| walk_at "mine pad 30") => `(tactic| fail "pad")
local macro_rules | `(tactic| walk_at "mine pad 31") => `(tactic| fail "pad")
local macro_rules | `(tactic| walk_at "mine pad 32") => `(tactic| fail "pad")
local macro_rules | `(tactic| walk_at "mine pad 33") => `(tactic| fail "pad")
local macro_rules | `(tactic| walk_at "mine pad 34") => `(tactic| fail "pad")
local macro_rules | `(tactic| walk_at "mine pad 35") => `(tactic| fail "pad")
local macro_rules | `(tactic| walk_at "exec While") => `(tactic| (k_here; refine Mine.Stop.go ?_))
local macro_rules | `(tactic| k_room) => `(tactic| ((try simp only [depth_under_make, depth_under_kw, depth_in1, depth_deeper, depth_caller]); show _ < 1000; omega))
local macro_rules | `(tactic| k_units) => `(tactic| (show _ < 9900; (try simp only [Around.in1_units, Around.deeper_units, Around.mark_units]); omega))
local macro_rules | `(tactic| walk_at "call type:frozenset nil nil") => `(tactic| (k_here; k_dflt (refine' fset0_K' ?F ?N ?_; (case F => k_asm); (case N => k_asm); k_whole); intro a' h' o' F' N' S' l1; (try k_lt l1); (try k_sweep)))
local macro_rules | `(tactic| walk_at "call type:frozenset cons nil") => `(tactic| (k_here; k_dflt (first
  | (refine' fsetL_K ?F ?N ?m ?x ?hh ?hb ?_; (case F => k_asm); (case N => k_asm); (case m => k_mem); (case x => assumption); (case hh => rfl); (case hb => omega); k_whole)
  | (refine' fsetT_K ?F ?N ?t ?hh ?_; (case F => k_asm); (case N => k_asm); (case t => exact ⟨_, News.get (by k_asm) (by k_mem), rfl, _, rfl⟩); (case hh => rfl); k_whole)); intro a' h' tk' o' F' N' S' l1; (try k_lt l1); (try k_sweep)))
local macro_rules | `(tactic| walk_at "truthy ref") => `(tactic| (k_here; k_dflt (refine' fset_truthy_K ?N ?m ?f ?hn ?_; (case N => k_asm); (case m => k_mem); (case f => assumption); (case hn => omega); k_whole); intro b' tk' hb'))
local macro_rules | `(tactic| walk_at "compareOp In str ref") => `(tactic| (k_here; k_dflt (refine' fset_in_K ?N ?m ?f ?hn ?_; (case N => k_asm); (case m => k_mem); (case f => assumption); (case hn => omega); k_whole); intro tk'))
local macro_rules | `(tactic| walk_at "getMethod ref") => `(tactic| (k_here; k_dflt (first
  | (refine' meth_pattern ?P slot_pattern_match type_pattern_match ?_; (case P => exact PatAt.keeps (by assumption) (Fr.keep (by k_asm))); k_whole)
  | (refine' meth_match ?f slot_match_groups type_match_groups ?_; (case f => exact foundN (by k_asm) (by k_mem) (by k_mem)); k_whole)
  | (refine' meth_match ?f slot_match_end type_match_end ?_; (case f => exact foundN (by k_asm) (by k_mem) (by k_mem)); k_whole))))
local macro_rules | `(tactic| walk_at "call builtin:re.Pattern.match") => `(tactic| (k_here; k_dflt (first
  | (refine' matchK_yes ?F ?N ?P ?g ?hp ?hx ?hm ?hk ?ok ?len ?_; (case F => k_asm); (case N => k_asm); (case hm => assumption); (case P => assumption); (case g => rfl); (case hp => omega); (case hx => omega); (case hk => decide); (case ok => assumption); (case len => exact Nat.le_of_ble_eq_true rfl); k_whole; intro a' T' h' F' N' l1 l2; (try k_lt l1); (try k_lt2 l2); (try k_sweep))
  | (refine' matchK_no ?F ?P ?hp ?hx ?hm ?hk ?_; (case F => k_asm); (case hm => assumption); (case P => assumption); (case hp => omega); (case hx => omega); (case hk => decide); k_whole))))
local macro_rules | `(tactic| walk_at "call builtin:re.Match.groups") => `(tactic| (k_here; k_dflt (refine' groupsK3 ?F ?N ?f ?hx ?_; (case F => k_asm); (case N => k_asm); (case f => exact foundN (by k_asm) (by k_mem) (by k_mem)); (case hx => omega); k_whole); intro T' t1' t2' t3' h' tk' F' N' l1; (try dsimp only [partOf] at N'); (try k_lt l1); (try k_sweep)))
local macro_rules | `(tactic| walk_at "call builtin:re.Match.end") => `(tactic| (k_here; k_dflt (refine' endK ?f ?_; (case f => exact foundN (by k_asm) (by k_mem) (by k_mem)); k_whole)))
local macro_rules | `(tactic| walk_at "truthy str") => `(tactic| (k_here; k_dflt (refine' truthy_text ?a ?b ?_; (case a => omega); (case b => omega); k_whole); intro tk'))
local macro_rules | `(tactic| walk_at "truthy ref") => `(tactic| (k_here; k_dflt (refine' truthy_listK ?N ?m ?hb ?_; (case N => k_asm); (case m => k_mem); (case hb => omega); k_whole); intro tk'))
local macro_rules | `(tactic| walk_at "call ref") => `(tactic| (k_here; k_dflt (first
  | (refine' etags_someK ?B ?F ?N ?X ?T ?P ?hA ?hf ?hke ?hh ?hd ?hu ?ht ?_; (case ht => assumption); (case hA => exact rfl); (case hf => exact rfl); (case hke => exact rfl); (case B => k_asm); (case F => k_asm); (case N => k_asm); (case X => k_asm); (case T => k_asm); (case P => first | assumption | exact PatAt.keeps (by assumption) (Fr.keep (by k_asm))); (case hh => rfl); (case hd => ((try simp only [depth_in1, depth_deeper, depth_caller]); show _ < 500; omega)); (case hu => ((try simp only [Around.in1_units, Around.deeper_units]); show _ < 500; omega)); k_whole; intro h' tk' e' d' a' b' oa' ob' t1' t2' t3' n' nS' nW' F' N' f1' f2' f3' f4'; (try k_sweep))
  | (refine' etags_noneK ?B ?F ?N ?X ?T ?hA ?hf ?hke ?hh ?hd ?hu ?_; (case hA => exact rfl); (case hf => exact rfl); (case hke => exact rfl); (case B => k_asm); (case F => k_asm); (case N => k_asm); (case X => k_asm); (case T => k_asm); (case hh => rfl); (case hd => ((try simp only [depth_in1, depth_deeper, depth_caller]); show _ < 500; omega)); (case hu => ((try simp only [Around.in1_units, Around.deeper_units]); show _ < 500; omega)); k_whole; intro h' tk' e' d' a' b' oa' ob' t1' t2' t3' n' nS' nW' F' N' f1' f2' f3' f4'; (try k_sweep)))))
local macro_rules | `(tactic| walk_at "call builtin:str.startswith") => `(tactic| (k_here; k_dflt (refine' startswith_tup ?h ?_; (case h => exact ⟨_, News.get (by k_asm) (by k_mem), rfl, _, rfl⟩); k_whole)))
local macro_rules | `(tactic| walk_at "call builtin:str.endswith") => `(tactic| (k_here; k_dflt (refine' ends_true ?h ?_; (case h => assumption); k_whole)))
local macro_rules | `(tactic| walk_at "call type:bool") => `(tactic| (k_here; k_dflt (refine' bool_fsetL ?N ?m ?f ?hn ?_; (case N => k_asm); (case m => k_mem); (case f => with_reducible assumption); (case hn => omega); k_whole); intro tk'))
local macro_rules | `(tactic| walk_at "truthy ref") => `(tactic| (k_here; k_dflt (refine' truthy_fsetL ?N ?m ?f ?hn ?_; (case N => k_asm); (case m => k_mem); (case f => with_reducible assumption); (case hn => omega); k_whole); intro tk'))
local macro_rules | `(tactic| walk_at "call type:bool") => `(tactic| (k_here; k_dflt (refine' bool_fset0 ?N ?m ?f ?hn ?_; (case N => k_asm); (case m => k_mem); (case f => with_reducible assumption); (case hn => omega); k_whole); intro tk'))
local macro_rules | `(tactic| walk_at "truthy ref") => `(tactic| (k_here; k_dflt (refine' truthy_fset0 ?N ?m ?f ?hn ?_; (case N => k_asm); (case m => k_mem); (case f => with_reducible assumption); (case hn => omega); k_whole); intro tk'))
local macro_rules | `(tactic| walk_at "getMethod ref") => `(tactic| (k_here; k_dflt (refine' meth_pattern ?P slot_pattern_fullmatch type_pattern_fullmatch ?_; (case P => first | exact PatAt.keeps (by assumption) (Fr.keep (by k_asm)) | exact PatAt.keeps (PatAt.keeps (by assumption) (Fr.keep (by assumption))) (Fr.keep (by k_asm))); k_whole)))
local macro_rules | `(tactic| walk_at "call builtin:re.Pattern.fullmatch") => `(tactic| (k_here; k_dflt (refine' fullK_c (n := 12) ?F ?N ?P ?hx ?hn ?h0 ?h1 ?h2 ?h3 ?_; (case F => k_asm); (case N => k_asm); (case P => first | assumption | exact PatAt.keeps (by assumption) (Fr.keep (by assumption))); (case hx => decide +kernel); (case hn => decide); (case h0 => first | kernel_rfl | rfl); (case h1 => rfl); (case h2 => rfl); (case h3 => rfl); k_whole; intro a' h' F' N')))

local macro_rules | `(tactic| k_ne) => `(tactic| (refine neN ?_; (try dsimp only); first | exact Ap.ne (by with_reducible assumption) | exact Ap.ne' (by with_reducible assumption) | fail "no"))
local macro_rules | `(tactic| k_all) => `(tactic| with_reducible assumption)
local macro_rules | `(tactic| walk_at "subscriptTail Name Slice ref ref") => `(tactic| (k_here; k_dflt (refine' sliceUpLI ?F ?N ?s ?li ?y ?x ?_ ?sb ?t; (case F => k_asm); (case N => k_asm); (case li => with_reducible assumption); (case s => ((repeat (with_reducible refine subT ?_)); exact subR)); (case y => exact Int.fmod_nonneg_of_pos _ (by decide)); (case x => omega); (case sb => with_unfolding_all rfl); (case t => (intro _; with_unfolding_all rfl)); k_whole); intro D' h' zs' F' N' l1 hI'; (try k_lt l1)))
local macro_rules | `(tactic| walk_at "setItem ref int") => `(tactic| (k_here; k_dflt (refine' setLst ?F ?N ?a ?b ?l ?U ?_; (case F => k_asm); (case N => k_asm); (case U => k_upd); (case a => assumption); (case b => assumption); (case l => first | assumption | (rw [List.length_set]; assumption)); k_whole); intro h' F' N'))
local macro_rules | `(tactic| walk_at "subscriptTail Name Name ref int") => `(tactic| (k_here; k_dflt (refine' pickR ?k1 ?k2 ?k3 ?k4 ?_ ?k6; (case k1 => exact listN (by k_asm) (by k_mem)); (case k2 => with_reducible assumption); (case k3 => assumption); (case k4 => omega); (case k6 => with_unfolding_all rfl); k_whole)))

local macro_rules | `(tactic| walk_at "binaryOp Add str str") => `(tactic| (k_here; k_dflt (refine' Rows_add ?_ ?z; (case z => exact add_ok (by assumption) (by omega)); intro t' tk')))
local macro_rules | `(tactic| walk_at "ite") => `(tactic| (k_here; (with_reducible refine ite_pos ?e ?_); (case e => with_reducible assumption)))
local macro_rules | `(tactic| walk_at "binaryOp Mod int int") => `(tactic| (k_here; k_dflt (refine' modK ?e ?n ?_; (case e => with_reducible assumption); (case n => decide); k_whole)))
local macro_rules | `(tactic| walk_at "subscriptTail Name Name ref int") => `(tactic| (k_here; k_dflt (first
  | (refine' pickR ?k1 ?k2 ?k3 ?k4 ?_ ?k6; (case k1 => exact listN (by k_asm) (by k_mem)); (case k2 => with_reducible assumption); (case k3 => assumption); (case k4 => omega); (case k6 => with_unfolding_all rfl); k_whole)
  | (refine' dictGet ?N ?p ?d ?l ?_ ?s ?g; (case N => k_asm); (case p => k_mem); (case d => with_reducible assumption); (case l => with_reducible assumption); (case s => with_unfolding_all rfl); (case g => (intro _; with_unfolding_all rfl)); k_whole)
  | fail "no pick")))
local macro_rules | `(tactic| walk_at "binaryOp Add ref ref") => `(tactic| (k_here; k_dflt (refine' addLI1 ?F ?N ?s ?li ?b ?x ?_; (case F => k_asm); (case N => k_asm); (case li => with_reducible assumption); (case s => ((repeat (with_reducible refine subT ?_)); exact subR)); (case b => k_mem); (case x => omega); k_whole); intro D' h' zs' F' N' l1 hI'; (try k_lt l1)))
local macro_rules | `(tactic| walk_at "setItem ref int") => `(tactic| (k_here; k_dflt (first
  | (refine' setLst ?F ?N ?a ?b ?l ?U ?_; (case F => k_asm); (case N => k_asm); (case U => k_upd); (case a => assumption); (case b => assumption); (case l => first | assumption | (rw [List.length_set]; assumption)); k_whole; intro h' F' N')
  | (refine' dictSet ?F ?N ?U ?d ?z ?_; (case F => k_asm); (case N => k_asm); (case U => k_updF); (case d => with_reducible assumption); (case z => omega); k_whole; intro h' o' F' N' hd'; (try dsimp only at N'))
  | fail "no set")))

local macro_rules | `(tactic| walk_at "call ref") => `(tactic| (k_here; k_dflt (first
  | (refine' told_W ?B ?F ?N ?X ?T ?hA ?hf ?hke ?hh ?hd ?hu ?hg ?_; (case hg => exact told_len (by assumption) (by omega)); (case hA => exact rfl); (case hf => exact rfl); (case hke => exact rfl); (case B => k_asm); (case F => k_asm); (case N => k_asm); (case X => k_asm); (case T => k_asm); (case hh => rfl); (case hd => ((try simp only [depth_in1, depth_deeper, depth_caller]); show _ < 450; first | omega | decide)); (case hu => ((try simp only [Around.in1_units, Around.deeper_units]); show _ < 450; first | omega | decide)); k_whole; intro h' tk' t' F' N')
  | (refine' mod_writeW ?B ?F ?N ?X ?T ?hA ?hf ?hke ?hh ?hd ?hu ?ht ?hy ?hr ?_; (case ht => with_reducible assumption); (case hy => with_reducible assumption); (case hr => with_reducible assumption); (case hA => exact rfl); (case hf => exact rfl); (case hke => exact rfl); (case B => k_asm); (case F => k_asm); (case N => k_asm); (case X => k_asm); (case T => k_asm); (case hh => rfl); (case hd => ((try simp only [depth_in1, depth_deeper, depth_caller]); show _ < 450; first | omega | decide)); (case hu => ((try simp only [Around.in1_units, Around.deeper_units]); show _ < 450; first | omega | decide)); k_whole; intro h' tk' F' N')
  | fail "no call")))

theorem deed1a {w : World} {h₀ : Heap} {s : Shared} {lz : List Str} {mean : ExcName → Option Value} {mg mb : Str → Option Value} {fa : Addr} {cd : Value} {E : Value → Shared → Prop} {Q : Flow → Shared → Prop}
    {L I D Sa Ba Pa d da db pg lt : Nat} {oI o2 oH oD q qa qb : Obj} {sv bv pv : List Value} {b p ba pa bb pb : Value} {nS nb np i v : Nat} {rest : List (Addr × Obj)} {H : Nat → List Int} {tv tc td tx tn tdr tk : Tok} {u : Str → Option Value} {c dr de : Int} {x : Str}
    (B : Below callerA h₀ [] h₀) (X : (hd1.heap_39 w.params).In h₀) (T : Top hd1.view_39 lz mean mg mb h₀)
    (F : Fr h₀ L s.heap fun y => if y = "store" then some (.ref d) else if y = "now" then some (.str (Str.ofString "\"" ++ (x ++ Str.ofString (toString (v : Int))) ++ Str.ofString "\"") tn) else if y = "deed" then some (.int de td) else if y = "client" then some (.int c tc) else if y = "k" then some (.int (i : Int) tk) else
      if y = "good" then some (.bool true) else if y = "parts" then some (.ref Pa) else if y = "bases" then some (.ref Ba) else if y = "stores" then some (.ref Sa) else if y = "page" then some (.ref pg) else
      if y = "version" then some (.int (v : Int) tv) else if y = "let" then some (.ref lt) else if y = "cells" then some (.ref D) else u y)
    (N : News h₀ L s.heap ((I, oI) :: (L + 1 + 1, o2) :: (L + 1, oH) :: (D, oD) :: (Sa, listOf sv.toArray nS) :: (Ba, listOf bv.toArray nb) :: (Pa, listOf pv.toArray np) :: (d, q) :: (da, qa) :: (db, qb) :: rest))
    (hoH : oH.data = .cell (some (.str x tx))) (ho2 : o2.data = .cell (some (.int dr tdr))) (hx : HeadOk x) (hc0 : 0 ≤ c) (hc3 : c < 3) (hi : i < 16) (hv : v ≤ i)
    (hH : ∀ j, j ≤ v → (H j).length = 3 + j) (hpg : LI rest pg (H v)) (hlt : LI rest lt (H v))
    (gq : ClientOk PySem.Challenge.rw_ez0420_01.row.prog w H v rest q b p) (ga : ClientOk PySem.Challenge.rw_ez0420_01.row.prog w H v rest qa ba pa) (gb : ClientOk PySem.Challenge.rw_ez0420_01.row.prog w H v rest qb bb pb)
    (sl : sv.length = 3) (bl : bv.length = 3) (pl : pv.length = 3) (hs : sv[c.toNat]? = some (.ref d)) (hb : bv[c.toNat]? = some b) (hp : pv[c.toNat]? = some p)
    (hA : Apart1 I (L + 1) (L + 1 + 1) D Sa Ba Pa d da db) (hd1' : d ≠ 1) (hrest : ∀ p ∈ rest, p.1 ≠ I ∧ p.1 ≠ L + 1 + 1 ∧ p.1 ≠ Ba ∧ p.1 ≠ Pa ∧ p.1 ≠ d ∧ p.1 ≠ da ∧ p.1 ≠ db)
    (fin : FinT PySem.Challenge.rw_ez0420_01.row.prog w h₀ L I D Sa Ba Pa d da db oI oH oD qa qb sv bv pv ba pa bb pb nS i c s Q) {j : Nat} {tb : Tok} (hbj : b = .int (j : Int) tb) (hj : j ≤ v) (hw : Int.fmod dr 3 = 0) (ej : j = v) :
    wpAny (model PySem.Challenge.rw_ez0420_01.row.prog w) (callerA.deeper (envOfC (Str.ofString "law") lawScope L fa cd)) (execs body1 (envOfC (Str.ofString "law") lawScope L fa cd)) Q E s := by
  show wpAny _ (callerA.deeper (envOfC _ (Scope.mk _ _ _ _ _) _ _ _)) (execs (_ :: _) (envOfC _ (Scope.mk _ _ _ _ _) _ _ _)) _ _ _

  revert X; k_fill; intro X
  obtain ⟨⟨aI1, aI2, aI3, aI4, aI5, aI6, aI7, aI8, aI9⟩, ⟨ac1, ac2, ac3, ac4, ac5, ac6, ac7, ac8⟩, ⟨aB1, aB2, aB3, aB4, aB5, aB6, aB7⟩, ⟨aP1, aP2, aP3, aP4, aP5, aP6⟩, ⟨ad1, ad2, ad3, ad4, ad5⟩⟩ := hA.hide
  clear hA
  have z0 := ltN (Heap.lt_size (N _ (.head _)).1)
  have z1 := ltN (Heap.lt_size (N _ (.tail _ (.head _))).1)
  have z2 := ltN (Heap.lt_size (N _ (.tail _ (.tail _ (.head _)))).1)
  have z3 := ltN (Heap.lt_size (N _ (.tail _ (.tail _ (.tail _ (.head _))))).1)
  have z4 := ltN (Heap.lt_size (N _ (.tail _ (.tail _ (.tail _ (.tail _ (.head _)))))).1)
  have z5 := ltN (Heap.lt_size (N _ (.tail _ (.tail _ (.tail _ (.tail _ (.tail _ (.head _))))))).1)
  have z6 := ltN (Heap.lt_size (N _ (.tail _ (.tail _ (.tail _ (.tail _ (.tail _ (.tail _ (.head _)))))))).1)
  have z7 := ltN (Heap.lt_size (N _ (.tail _ (.tail _ (.tail _ (.tail _ (.tail _ (.tail _ (.tail _ (.head _))))))))).1)
  have z8 := ltN (Heap.lt_size (N _ (.tail _ (.tail _ (.tail _ (.tail _ (.tail _ (.tail _ (.tail _ (.tail _ (.head _)))))))))).1)
  have z9 := ltN (Heap.lt_size (N _ (.tail _ (.tail _ (.tail _ (.tail _ (.tail _ (.tail _ (.tail _ (.tail _ (.tail _ (.head _))))))))))).1)
  dsimp only at z0 z1 z2 z3 z4 z5 z6 z7 z8 z9
  have rI := fun p hp => (hrest p hp).1
  have r2 := fun p hp => (hrest p hp).2.1
  have rB := fun p hp => (hrest p hp).2.2.1
  have rP := fun p hp => (hrest p hp).2.2.2.1
  have rd := fun p hp => (hrest p hp).2.2.2.2.1
  have hlv := hH v (Nat.le_refl _)

  subst hbj
  obtain ⟨⟨kvs, hD, hB, hl⟩, hP⟩ := gq
  obtain ⟨a, va⟩ : ∃ a, valueAt kvs (j : Int) = some a := by
    obtain ⟨z, t, e, hz⟩ := hB
    have e2 := (Value.int.inj e).1
    rcases hz with hz | hz
    · omega
    · rw [← e2] at hz; exact valueAt_has hz
  obtain ⟨_, a, rfl, la⟩ := hD.at va
  have hDd := hD.1
  have hq : QTag (Str.ofString "\"" ++ (x ++ Str.ofString (toString (v : Int))) ++ Str.ofString "\"") _ := tag_q hx (by omega)

  subst ej
  have ep := set_same hp
  have ht : ToldText (toldS 0 (x ++ Str.ofString (toString (j : Int)))) _ := told_one (k := 0) hx (by omega) (by omega)
  have hr := let_yes (x := x) (v := j)
  k_steps
  rename News _ _ _ _ => lN
  rename Fr _ _ _ _ => lF
  rename_i Dp _ zp ip _ _ _ _ _ _ Dl _ zl il _ _ _ _ _ _ o' _ _ hd' _
  have hlen := hD.len
  have hsl := stored_len kvs ((j : Int) + 1) (.ref Dp)
  have hlp : LI ((Dl, listOf zl.toArray 0) :: (Dp, listOf zp.toArray 0) :: rest) Dp (H j ++ [(i : Int)]) := ⟨zp, 0, .tail _ (.head _), ip⟩
  have hll : LI ((Dl, listOf zl.toArray 0) :: (Dp, listOf zp.toArray 0) :: rest) Dl (H j ++ [(i : Int)]) := ⟨zl, 0, .head _, il⟩
  have hsame : ∀ n, n ≤ j → (fun n => if n = j + 1 then H j ++ [(i : Int)] else H n) n = H n := fun n hn => if_neg (by omega)
  have hnew : (fun n => if n = j + 1 then H j ++ [(i : Int)] else H n) (j + 1) = H j ++ [(i : Int)] := if_pos rfl
  refine' fin (.int ((j : Int) + 1) ?tz) p o' ((Dl, listOf zl.toArray 0) :: (Dp, listOf zp.toArray 0) :: rest) _ _ _ o2 _ (fun n => if n = j + 1 then H j ++ [(i : Int)] else H n) (j + 1) nb np Dp Dl ?tv _ ?a1 ?hH ho2 (congrArg (fun b => some (Value.bool b)) (by simp)) rfl rfl rfl rfl rfl rfl rfl lF lN ?m1 ?m2 ?m3 ?m4 ?m5 ?m6 ?m7 ?m8 ?m9 ?m10 ?m11 ?l1 ?l2 ?g1 ?g2 ?g3 ?ap
  (case m1 => k_mem); (case m2 => k_mem); (case m3 => k_mem); (case m4 => k_mem); (case m5 => k_mem); (case m6 => k_mem); (case m7 => rw [ep]; k_mem); (case m8 => k_mem); (case m9 => k_mem); (case m10 => k_mem)
  (case m11 => refine List.forall_mem_cons.mpr ⟨by k_mem, List.forall_mem_cons.mpr ⟨by k_mem, ?_⟩⟩; ((repeat (with_reducible refine subT ?_)); exact subR))
  (case a1 => omega)
  (case hH => exact grown_len hH)
  (case l1 => exact (congrArg (LI _ Dp) hnew).mpr hlp); (case l2 => exact (congrArg (LI _ Dl) hnew).mpr hll)
  (case g2 => exact ga.mono (subT (subT subR)) (Nat.le_succ _) hsame); (case g3 => exact gb.mono (subT (subT subR)) (Nat.le_succ _) hsame)
  (case g1 => exact ⟨⟨_, DictOk.store (v := j + 1) (hD.mono (subT (subT subR)) (Nat.le_succ _) hsame) hd' ((congrArg (LI _ Dp) hnew).mpr hlp), ⟨_, _, rfl, .inr ⟨_, stored_has _ _ _, rfl⟩⟩, Nat.le_trans hsl (by omega)⟩, hP.mono (subT (subT subR)) (Nat.le_succ _) hsame⟩)
  (case ap => refine List.forall_mem_cons.mpr ⟨?_, List.forall_mem_cons.mpr ⟨?_, hrest⟩⟩ <;> (dsimp only; refine ⟨?_, ?_, ?_, ?_, ?_, ?_, ?_⟩ <;> k_ne))
end Mine
end
section
open PySem PySem.W PyProof.Rows
namespace Mine
local macro_rules | `(tactic| walk_at "mine pad 0") => `(tactic| fail "pad")
local macro_rules | `(tactic| walk_at "mine pad 1") => `(tactic| fail "pad")
local macro_rules | `(tactic| walk_at "mine pad 2") => `(tactic| fail "pad")
local macro_rules | `(tactic| walk_at "mine pad 3") => `(tactic| fail "pad")
local macro_rules | `(tactic| walk_at "mine pad 4") => `(tactic| fail "pad")
local macro_rules | `(tactic| walk_at "mine pad 5") => `(tactic| fail "pad")
local macro_rules | `(tactic| walk_at "mine pad 6") => `(tactic| fail "pad")
local macro_rules | `(tactic| walk_at "mine pad 7") => `(tactic| fail "pad")
local macro_rules | `(tactic| walk_at "mine pad 8") => `(tactic| fail "pad")
local macro_rules | `(tactic| walk_at "mine pad 9") => `(tactic| fail "pad")
local macro_rules | `(tactic| walk_at "mine pad 10") => `(tactic| fail "pad")
local macro_rules | `(tactic| walk_at "mine pad 11") => `(tactic| fail "pad")
local macro_rules | `(tactic| walk_at "mine pad 12") => `(tactic| fail "pad")
local macro_rules | `(tactic| walk_at "mine pad 13") => `(tactic| fail "pad")
local macro_rules | `(tactic| walk_at "mine pad 14") => `(tactic| fail "pad")
local macro_rules | `(tactic| walk_at "mine pad 15") => `(tactic| fail "pad")
local macro_rules | `(tactic| walk_at "mine pad 16") => `(tactic| fail "pad")
local macro_rules | `(tactic| walk_at "mine pad 17") => `(tactic| fail "pad")
local macro_rules | `(tactic| walk_at "mine pad 18") => `(tactic| fail "pad")
local macro_rules | `(tactic| walk_at "mine pad 19") => `(tactic| fail "pad")
local macro_rules | `(tactic| walk_at "mine pad 20") => `(tactic| fail "pad")
local macro_rules | `(tactic| walk_at "mine pad 21") => `(tactic| fail "pad")
local macro_rules | `(tactic| walk_at "mine pad 22") => `(tactic| fail "pad")
local macro_rules | `(tactic| walk_at "mine pad 23") => `(tactic| fail "pad")
local macro_rules | `(tactic| walk_at "mine pad 24") => `(tactic| fail "pad")
local macro_rules | `(tactic| walk_at "mine pad 25") => `(tactic| fail "pad")
local macro_rules | `(tactic| walk_at "mine pad 26") => `(tactic| fail "pad")
local macro_rules | `(tactic| walk_at "mine pad 27") => `(tactic| fail "pad")
local macro_rules | `(tactic| walk_at "mine pad 28") => `(tactic| fail "pad")
local macro_rules | `(tactic| walk_at "mine pad 29") => `(tactic| fail "pad")
local macro_rules | `(tactic| walk_at "mine pad 30") => `(tactic| fail "pad")
local macro_rules | `(tactic| walk_at "mine pad 31") => `(tactic| fail "pad")
local macro_rules | `(tactic| walk_at "mine pad 32") => `(tactic| fail "pad")
local macro_rules | `(tactic| walk_at "mine pad 33") => `(tactic| fail "pad")
local macro_rules | `(tactic| walk_at "mine pad 34") => `(tactic| fail "pad")
local macro_rules | `(tactic| walk_at "mine pad 35") => `(tactic| fail "pad")
local macro_rules | `(tactic| walk_at "mine pad 36") => `(tactic| fail "pad")
local macro_rules | `(tactic| walk_at "exec While") => `(tactic| (k_here; refine Mine.Stop.go ?_))
local macro_rules | `(tactic| k_room) => `(tactic| ((try simp only [depth_under_make, depth_under_kw, depth_in1, depth_deeper, depth_caller]); show _ < 1000; omega))
local macro_rules | `(tactic| k_units) => `(tactic| (show _ < 9900; (try simp only [Around.in1_units, Around.deeper_units, Around.mark_units]); omega))
local macro_rules | `(tactic| walk_at "call type:frozenset nil nil") => `(tactic| (k_here; k_dflt (refine' fset0_K' ?F ?N ?_; (case F => k_asm); (case N => k_asm); k_whole); intro a' h' o' F' N' S' l1; (try k_lt l1); (try k_sweep)))
local macro_rules | `(tactic| walk_at "call type:frozenset cons nil") => `(tactic| (k_here; k_dflt (first
  | (refine' fsetL_K ?F ?N ?m ?x ?hh ?hb ?_; (case F => k_asm); (case N => k_asm); (case m => k_mem); (case x => assumption); (case hh => rfl); (case hb => omega); k_whole)
  | (refine' fsetT_K ?F ?N ?t ?hh ?_; (case F => k_asm); (case N => k_asm); (case t => exact ⟨_, News.get (by k_asm) (by k_mem), rfl, _, rfl⟩); (case hh => rfl); k_whole)); intro a' h' tk' o' F' N' S' l1; (try k_lt l1); (try k_sweep)))
local macro_rules | `(tactic| walk_at "truthy ref") => `(tactic| (k_here; k_dflt (refine' fset_truthy_K ?N ?m ?f ?hn ?_; (case N => k_asm); (case m => k_mem); (case f => assumption); (case hn => omega); k_whole); intro b' tk' hb'))
local macro_rules | `(tactic| walk_at "compareOp In str ref") => `(tactic| (k_here; k_dflt (refine' fset_in_K ?N ?m ?f ?hn ?_; (case N => k_asm); (case m => k_mem); (case f => assumption); (case hn => omega); k_whole); intro tk'))
local macro_rules | `(tactic| walk_at "getMethod ref") => `(tactic| (k_here; k_dflt (first
  | (refine' meth_pattern ?P slot_pattern_match type_pattern_match ?_; (case P => exact PatAt.keeps (by assumption) (Fr.keep (by k_asm))); k_whole)
  | (refine' meth_match ?f slot_match_groups type_match_groups ?_; (case f => exact foundN (by k_asm) (by k_mem) (by k_mem)); k_whole)
  | (refine' meth_match ?f slot_match_end type_match_end ?_; (case f => exact foundN (by k_asm) (by k_mem) (by k_mem)); k_whole))))
local macro_rules | `(tactic| walk_at "call builtin:re.Pattern.match") => `(tactic| (k_here; k_dflt (first
  | (refine' matchK_yes ?F ?N ?P ?g ?hp ?hx ?hm ?hk ?ok ?len ?_; (case F => k_asm); (case N => k_asm); (case hm => assumption); (case P => assumption); (case g => rfl); (case hp => omega); (case hx => omega); (case hk => decide); (case ok => assumption); (case len => exact Nat.le_of_ble_eq_true rfl); k_whole; intro a' T' h' F' N' l1 l2; (try k_lt l1); (try k_lt2 l2); (try k_sweep))
  | (refine' matchK_no ?F ?P ?hp ?hx ?hm ?hk ?_; (case F => k_asm); (case hm => assumption); (case P => assumption); (case hp => omega); (case hx => omega); (case hk => decide); k_whole))))
local macro_rules | `(tactic| walk_at "call builtin:re.Match.groups") => `(tactic| (k_here; k_dflt (refine' groupsK3 ?F ?N ?f ?hx ?_; (case F => k_asm); (case N => k_asm); (case f => exact foundN (by k_asm) (by k_mem) (by k_mem)); (case hx => omega); k_whole); intro T' t1' t2' t3' h' tk' F' N' l1; (try dsimp only [partOf] at N'); (try k_lt l1); (try k_sweep)))
local macro_rules | `(tactic| walk_at "call builtin:re.Match.end") => `(tactic| (k_here; k_dflt (refine' endK ?f ?_; (case f => exact foundN (by k_asm) (by k_mem) (by k_mem)); k_whole)))
local macro_rules | `(tactic| walk_at "truthy str") => `(tactic| (k_here; k_dflt (refine' truthy_text ?a ?b ?_; (case a => omega); (case b => omega); k_whole); intro tk'))
local macro_rules | `(tactic| walk_at "truthy ref") => `(tactic| (k_here; k_dflt (refine' truthy_listK ?N ?m ?hb ?_; (case N => k_asm); (case m => k_mem); (case hb => omega); k_whole); intro tk'))
local macro_rules | `(tactic| walk_at "call ref") => `(tactic| (k_here; k_dflt (first
  | (refine' etags_someK ?B ?F ?N ?X ?T ?P ?hA ?hf ?hke ?hh ?hd ?hu ?ht ?_; (case ht => assumption); (case hA => exact rfl); (case hf => exact rfl); (case hke => exact rfl); (case B => k_asm); (case F => k_asm); (case N => k_asm); (case X => k_asm); (case T => k_asm); (case P => first | assumption | exact PatAt.keeps (by assumption) (Fr.keep (by k_asm))); (case hh => rfl); (case hd => ((try simp only [depth_in1, depth_deeper, depth_caller]); show _ < 500; omega)); (case hu => ((try simp only [Around.in1_units, Around.deeper_units]); show _ < 500; omega)); k_whole; intro h' tk' e' d' a' b' oa' ob' t1' t2' t3' n' nS' nW' F' N' f1' f2' f3' f4'; (try k_sweep))
  | (refine' etags_noneK ?B ?F ?N ?X ?T ?hA ?hf ?hke ?hh ?hd ?hu ?_; (case hA => exact rfl); (case hf => exact rfl); (case hke => exact rfl); (case B => k_asm); (case F => k_asm); (case N => k_asm); (case X => k_asm); (case T => k_asm); (case hh => rfl); (case hd => ((try simp only [depth_in1, depth_deeper, depth_caller]); show _ < 500; omega)); (case hu => ((try simp only [Around.in1_units, Around.deeper_units]); show _ < 500; omega)); k_whole; intro h' tk' e' d' a' b' oa' ob' t1' t2' t3' n' nS' nW' F' N' f1' f2' f3' f4'; (try k_sweep)))))
local macro_rules | `(tactic| walk_at "call builtin:str.startswith") => `(tactic| (k_here; k_dflt (refine' startswith_tup ?h ?_; (case h => exact ⟨_, News.get (by k_asm) (by k_mem), rfl, _, rfl⟩); k_whole)))
local macro_rules | `(tactic| walk_at "call builtin:str.endswith") => `(tactic| (k_here; k_dflt (refine' ends_true ?h ?_; (case h => assumption); k_whole)))
local macro_rules | `(tactic| walk_at "call type:bool") => `(tactic| (k_here; k_dflt (refine' bool_fsetL ?N ?m ?f ?hn ?_; (case N => k_asm); (case m => k_mem); (case f => with_reducible assumption); (case hn => omega); k_whole); intro tk'))
local macro_rules | `(tactic| walk_at "truthy ref") => `(tactic| (k_here; k_dflt (refine' truthy_fsetL ?N ?m ?f ?hn ?_; (case N => k_asm); (case m => k_mem); (case f => with_reducible assumption); (case hn => omega); k_whole); intro tk'))
local macro_rules | `(tactic| walk_at "call type:bool") => `(tactic| (k_here; k_dflt (refine' bool_fset0 ?N ?m ?f ?hn ?_; (case N => k_asm); (case m => k_mem); (case f => with_reducible assumption); (case hn => omega); k_whole); intro tk'))
local macro_rules | `(tactic| walk_at "truthy ref") => `(tactic| (k_here; k_dflt (refine' truthy_fset0 ?N ?m ?f ?hn ?_; (case N => k_asm); (case m => k_mem); (case f => with_reducible assumption); (case hn => omega); k_whole); intro tk'))
local macro_rules | `(tactic| walk_at "getMethod ref") => `(tactic| (k_here; k_dflt (refine' meth_pattern ?P slot_pattern_fullmatch type_pattern_fullmatch ?_; (case P => first | exact PatAt.keeps (by assumption) (Fr.keep (by k_asm)) | exact PatAt.keeps (PatAt.keeps (by assumption) (Fr.keep (by assumption))) (Fr.keep (by k_asm))); k_whole)))
local macro_rules | `(tactic| walk_at "call builtin:re.Pattern.fullmatch") => `(tactic| (k_here; k_dflt (refine' fullK_c (n := 12) ?F ?N ?P ?hx ?hn ?h0 ?h1 ?h2 ?h3 ?_; (case F => k_asm); (case N => k_asm); (case P => first | assumption | exact PatAt.keeps (by assumption) (Fr.keep (by assumption))); (case hx => decide +kernel); (case hn => decide); (case h0 => first | kernel_rfl | rfl); (case h1 => rfl); (case h2 => rfl); (case h3 => rfl); k_whole; intro a' h' F' N')))

local macro_rules | `(tactic| k_ne) => `(tactic| (refine neN ?_; (try dsimp only); first | exact Ap.ne (by with_reducible assumption) | exact Ap.ne' (by with_reducible assumption) | fail "no"))
local macro_rules | `(tactic| k_all) => `(tactic| with_reducible assumption)
local macro_rules | `(tactic| walk_at "subscriptTail Name Slice ref ref") => `(tactic| (k_here; k_dflt (refine' sliceUpLI ?F ?N ?s ?li ?y ?x ?_ ?sb ?t; (case F => k_asm); (case N => k_asm); (case li => with_reducible assumption); (case s => ((repeat (with_reducible refine subT ?_)); exact subR)); (case y => exact Int.fmod_nonneg_of_pos _ (by decide)); (case x => omega); (case sb => with_unfolding_all rfl); (case t => (intro _; with_unfolding_all rfl)); k_whole); intro D' h' zs' F' N' l1 hI'; (try k_lt l1)))
local macro_rules | `(tactic| walk_at "setItem ref int") => `(tactic| (k_here; k_dflt (refine' setLst ?F ?N ?a ?b ?l ?U ?_; (case F => k_asm); (case N => k_asm); (case U => k_upd); (case a => assumption); (case b => assumption); (case l => first | assumption | (rw [List.length_set]; assumption)); k_whole); intro h' F' N'))
local macro_rules | `(tactic| walk_at "subscriptTail Name Name ref int") => `(tactic| (k_here; k_dflt (refine' pickR ?k1 ?k2 ?k3 ?k4 ?_ ?k6; (case k1 => exact listN (by k_asm) (by k_mem)); (case k2 => with_reducible assumption); (case k3 => assumption); (case k4 => omega); (case k6 => with_unfolding_all rfl); k_whole)))

local macro_rules | `(tactic| walk_at "binaryOp Add str str") => `(tactic| (k_here; k_dflt (refine' Rows_add ?_ ?z; (case z => exact add_ok (by assumption) (by omega)); intro t' tk')))
local macro_rules | `(tactic| walk_at "ite") => `(tactic| (k_here; (with_reducible refine ite_pos ?e ?_); (case e => with_reducible assumption)))
local macro_rules | `(tactic| walk_at "binaryOp Mod int int") => `(tactic| (k_here; k_dflt (refine' modK ?e ?n ?_; (case e => with_reducible assumption); (case n => decide); k_whole)))
local macro_rules | `(tactic| walk_at "subscriptTail Name Name ref int") => `(tactic| (k_here; k_dflt (first
  | (refine' pickR ?k1 ?k2 ?k3 ?k4 ?_ ?k6; (case k1 => exact listN (by k_asm) (by k_mem)); (case k2 => with_reducible assumption); (case k3 => assumption); (case k4 => omega); (case k6 => with_unfolding_all rfl); k_whole)
  | (refine' dictGet ?N ?p ?d ?l ?_ ?s ?g; (case N => k_asm); (case p => k_mem); (case d => with_reducible assumption); (case l => with_reducible assumption); (case s => with_unfolding_all rfl); (case g => (intro _; with_unfolding_all rfl)); k_whole)
  | fail "no pick")))
local macro_rules | `(tactic| walk_at "binaryOp Add ref ref") => `(tactic| (k_here; k_dflt (refine' addLI1 ?F ?N ?s ?li ?b ?x ?_; (case F => k_asm); (case N => k_asm); (case li => with_reducible assumption); (case s => ((repeat (with_reducible refine subT ?_)); exact subR)); (case b => k_mem); (case x => omega); k_whole); intro D' h' zs' F' N' l1 hI'; (try k_lt l1)))
local macro_rules | `(tactic| walk_at "setItem ref int") => `(tactic| (k_here; k_dflt (first
  | (refine' setLst ?F ?N ?a ?b ?l ?U ?_; (case F => k_asm); (case N => k_asm); (case U => k_upd); (case a => assumption); (case b => assumption); (case l => first | assumption | (rw [List.length_set]; assumption)); k_whole; intro h' F' N')
  | (refine' dictSet ?F ?N ?U ?d ?z ?_; (case F => k_asm); (case N => k_asm); (case U => k_updF); (case d => with_reducible assumption); (case z => omega); k_whole; intro h' o' F' N' hd'; (try dsimp only at N'))
  | fail "no set")))

local macro_rules | `(tactic| walk_at "call ref") => `(tactic| (k_here; k_dflt (first
  | (refine' told_W ?B ?F ?N ?X ?T ?hA ?hf ?hke ?hh ?hd ?hu ?hg ?_; (case hg => exact told_len (by assumption) (by omega)); (case hA => exact rfl); (case hf => exact rfl); (case hke => exact rfl); (case B => k_asm); (case F => k_asm); (case N => k_asm); (case X => k_asm); (case T => k_asm); (case hh => rfl); (case hd => ((try simp only [depth_in1, depth_deeper, depth_caller]); show _ < 450; first | omega | decide)); (case hu => ((try simp only [Around.in1_units, Around.deeper_units]); show _ < 450; first | omega | decide)); k_whole; intro h' tk' t' F' N')
  | (refine' mod_writeW ?B ?F ?N ?X ?T ?hA ?hf ?hke ?hh ?hd ?hu ?ht ?hy ?hr ?_; (case ht => with_reducible assumption); (case hy => with_reducible assumption); (case hr => with_reducible assumption); (case hA => exact rfl); (case hf => exact rfl); (case hke => exact rfl); (case B => k_asm); (case F => k_asm); (case N => k_asm); (case X => k_asm); (case T => k_asm); (case hh => rfl); (case hd => ((try simp only [depth_in1, depth_deeper, depth_caller]); show _ < 450; first | omega | decide)); (case hu => ((try simp only [Around.in1_units, Around.deeper_units]); show _ < 450; first | omega | decide)); k_whole; intro h' tk' F' N')
  | fail "no call")))

theorem deed1b {w : World} {h₀ : Heap} {s : Shared} {lz : List Str} {mean : ExcName → Option Value} {mg mb : Str → Option Value} {fa : Addr} {cd : Value} {E : Value → Shared → Prop} {Q : Flow → Shared → Prop}
    {L I D Sa Ba Pa d da db pg lt : Nat} {oI o2 oH oD q qa qb : Obj} {sv bv pv : List Value} {b p ba pa bb pb : Value} {nS nb np i v : Nat} {rest : List (Addr × Obj)} {H : Nat → List Int} {tv tc td tx tn tdr tk : Tok} {u : Str → Option Value} {c dr de : Int} {x : Str}
    (B : Below callerA h₀ [] h₀) (X : (hd1.heap_39 w.params).In h₀) (T : Top hd1.view_39 lz mean mg mb h₀)
    (F : Fr h₀ L s.heap fun y => if y = "store" then some (.ref d) else if y = "now" then some (.str (Str.ofString "\"" ++ (x ++ Str.ofString (toString (v : Int))) ++ Str.ofString "\"") tn) else if y = "deed" then some (.int de td) else if y = "client" then some (.int c tc) else if y = "k" then some (.int (i : Int) tk) else
      if y = "good" then some (.bool true) else if y = "parts" then some (.ref Pa) else if y = "bases" then some (.ref Ba) else if y = "stores" then some (.ref Sa) else if y = "page" then some (.ref pg) else
      if y = "version" then some (.int (v : Int) tv) else if y = "let" then some (.ref lt) else if y = "cells" then some (.ref D) else u y)
    (N : News h₀ L s.heap ((I, oI) :: (L + 1 + 1, o2) :: (L + 1, oH) :: (D, oD) :: (Sa, listOf sv.toArray nS) :: (Ba, listOf bv.toArray nb) :: (Pa, listOf pv.toArray np) :: (d, q) :: (da, qa) :: (db, qb) :: rest))
    (hoH : oH.data = .cell (some (.str x tx))) (ho2 : o2.data = .cell (some (.int dr tdr))) (hx : HeadOk x) (hc0 : 0 ≤ c) (hc3 : c < 3) (hi : i < 16) (hv : v ≤ i)
    (hH : ∀ j, j ≤ v → (H j).length = 3 + j) (hpg : LI rest pg (H v)) (hlt : LI rest lt (H v))
    (gq : ClientOk PySem.Challenge.rw_ez0420_01.row.prog w H v rest q b p) (ga : ClientOk PySem.Challenge.rw_ez0420_01.row.prog w H v rest qa ba pa) (gb : ClientOk PySem.Challenge.rw_ez0420_01.row.prog w H v rest qb bb pb)
    (sl : sv.length = 3) (bl : bv.length = 3) (pl : pv.length = 3) (hs : sv[c.toNat]? = some (.ref d)) (hb : bv[c.toNat]? = some b) (hp : pv[c.toNat]? = some p)
    (hA : Apart1 I (L + 1) (L + 1 + 1) D Sa Ba Pa d da db) (hd1' : d ≠ 1) (hrest : ∀ p ∈ rest, p.1 ≠ I ∧ p.1 ≠ L + 1 + 1 ∧ p.1 ≠ Ba ∧ p.1 ≠ Pa ∧ p.1 ≠ d ∧ p.1 ≠ da ∧ p.1 ≠ db)
    (fin : FinT PySem.Challenge.rw_ez0420_01.row.prog w h₀ L I D Sa Ba Pa d da db oI oH oD qa qb sv bv pv ba pa bb pb nS i c s Q) {j : Nat} {tb : Tok} (hbj : b = .int (j : Int) tb) (hj : j ≤ v) (hw : Int.fmod dr 3 = 0) (ej : j ≠ v) :
    wpAny (model PySem.Challenge.rw_ez0420_01.row.prog w) (callerA.deeper (envOfC (Str.ofString "law") lawScope L fa cd)) (execs body1 (envOfC (Str.ofString "law") lawScope L fa cd)) Q E s := by
  show wpAny _ (callerA.deeper (envOfC _ (Scope.mk _ _ _ _ _) _ _ _)) (execs (_ :: _) (envOfC _ (Scope.mk _ _ _ _ _) _ _ _)) _ _ _

  revert X; k_fill; intro X
  obtain ⟨⟨aI1, aI2, aI3, aI4, aI5, aI6, aI7, aI8, aI9⟩, ⟨ac1, ac2, ac3, ac4, ac5, ac6, ac7, ac8⟩, ⟨aB1, aB2, aB3, aB4, aB5, aB6, aB7⟩, ⟨aP1, aP2, aP3, aP4, aP5, aP6⟩, ⟨ad1, ad2, ad3, ad4, ad5⟩⟩ := hA.hide
  clear hA
  have z0 := ltN (Heap.lt_size (N _ (.head _)).1)
  have z1 := ltN (Heap.lt_size (N _ (.tail _ (.head _))).1)
  have z2 := ltN (Heap.lt_size (N _ (.tail _ (.tail _ (.head _)))).1)
  have z3 := ltN (Heap.lt_size (N _ (.tail _ (.tail _ (.tail _ (.head _))))).1)
  have z4 := ltN (Heap.lt_size (N _ (.tail _ (.tail _ (.tail _ (.tail _ (.head _)))))).1)
  have z5 := ltN (Heap.lt_size (N _ (.tail _ (.tail _ (.tail _ (.tail _ (.tail _ (.head _))))))).1)
  have z6 := ltN (Heap.lt_size (N _ (.tail _ (.tail _ (.tail _ (.tail _ (.tail _ (.tail _ (.head _)))))))).1)
  have z7 := ltN (Heap.lt_size (N _ (.tail _ (.tail _ (.tail _ (.tail _ (.tail _ (.tail _ (.tail _ (.head _))))))))).1)
  have z8 := ltN (Heap.lt_size (N _ (.tail _ (.tail _ (.tail _ (.tail _ (.tail _ (.tail _ (.tail _ (.tail _ (.head _)))))))))).1)
  have z9 := ltN (Heap.lt_size (N _ (.tail _ (.tail _ (.tail _ (.tail _ (.tail _ (.tail _ (.tail _ (.tail _ (.tail _ (.head _))))))))))).1)
  dsimp only at z0 z1 z2 z3 z4 z5 z6 z7 z8 z9
  have rI := fun p hp => (hrest p hp).1
  have r2 := fun p hp => (hrest p hp).2.1
  have rB := fun p hp => (hrest p hp).2.2.1
  have rP := fun p hp => (hrest p hp).2.2.2.1
  have rd := fun p hp => (hrest p hp).2.2.2.2.1
  have hlv := hH v (Nat.le_refl _)

  subst hbj
  obtain ⟨⟨kvs, hD, hB, hl⟩, hP⟩ := gq
  obtain ⟨a, va⟩ : ∃ a, valueAt kvs (j : Int) = some a := by
    obtain ⟨z, t, e, hz⟩ := hB
    have e2 := (Value.int.inj e).1
    rcases hz with hz | hz
    · omega
    · rw [← e2] at hz; exact valueAt_has hz
  obtain ⟨_, a, rfl, la⟩ := hD.at va
  have hDd := hD.1
  have hq : QTag (Str.ofString "\"" ++ (x ++ Str.ofString (toString (v : Int))) ++ Str.ofString "\"") _ := tag_q hx (by omega)

  have eb := set_same hb
  have ep := set_same hp
  have ht : ToldText (toldS 0 (x ++ Str.ofString (toString (j : Int)))) _ := told_one (k := 0) hx (by omega) (by omega)
  have hr := let_old hx (v := v) (j := j) (by omega) (by omega) ej
  have ej' : (decide ((j : Int) = (v : Int))) = false := decide_eq_false (by omega)
  k_steps

  rename News _ _ _ _ => lN
  rename Fr _ _ _ _ => lF
  rename_i D' _ _ _ _ _ _ _ _ _ _ _ _ _ _
  refine fin (.int (j : Int) tb) p q rest _ _ _ o2 _ H v nb np pg lt tv _ ?a1 hH ho2 (congrArg (fun b => some (Value.bool b)) (by (have e9 : ((j : Int) == (v : Int)) = false := beq_eq_false_iff_ne.mpr (by omega)); rw [e9]; rfl)) rfl rfl rfl rfl rfl rfl rfl lF lN ?m1 ?m2 ?m3 ?m4 ?m5 ?m6 ?m7 ?m8 ?m9 ?m10 ?m11 ?l1 ?l2 ?g1 ?g2 ?g3 ?ap
  (case a1 => omega)
  (case m1 => k_mem); (case m2 => k_mem); (case m3 => k_mem); (case m4 => k_mem); (case m5 => k_mem); (case m6 => rw [eb]; k_mem); (case m7 => rw [ep]; k_mem); (case m8 => k_mem); (case m9 => k_mem); (case m10 => k_mem)
  (case m11 => ((repeat (with_reducible refine subT ?_)); exact subR))
  (case l1 => exact hpg); (case l2 => exact hlt)
  (case g2 => exact ga); (case g3 => exact gb)
  (case g1 => exact ⟨⟨kvs, hD, hB, hl⟩, hP⟩)
  (case ap => exact hrest)

theorem deed1c {w : World} {h₀ : Heap} {s : Shared} {lz : List Str} {mean : ExcName → Option Value} {mg mb : Str → Option Value} {fa : Addr} {cd : Value} {E : Value → Shared → Prop} {Q : Flow → Shared → Prop}
    {L I D Sa Ba Pa d da db pg lt : Nat} {oI o2 oH oD q qa qb : Obj} {sv bv pv : List Value} {b p ba pa bb pb : Value} {nS nb np i v : Nat} {rest : List (Addr × Obj)} {H : Nat → List Int} {tv tc td tx tn tdr tk : Tok} {u : Str → Option Value} {c dr de : Int} {x : Str}
    (B : Below callerA h₀ [] h₀) (X : (hd1.heap_39 w.params).In h₀) (T : Top hd1.view_39 lz mean mg mb h₀)
    (F : Fr h₀ L s.heap fun y => if y = "store" then some (.ref d) else if y = "now" then some (.str (Str.ofString "\"" ++ (x ++ Str.ofString (toString (v : Int))) ++ Str.ofString "\"") tn) else if y = "deed" then some (.int de td) else if y = "client" then some (.int c tc) else if y = "k" then some (.int (i : Int) tk) else
      if y = "good" then some (.bool true) else if y = "parts" then some (.ref Pa) else if y = "bases" then some (.ref Ba) else if y = "stores" then some (.ref Sa) else if y = "page" then some (.ref pg) else
      if y = "version" then some (.int (v : Int) tv) else if y = "let" then some (.ref lt) else if y = "cells" then some (.ref D) else u y)
    (N : News h₀ L s.heap ((I, oI) :: (L + 1 + 1, o2) :: (L + 1, oH) :: (D, oD) :: (Sa, listOf sv.toArray nS) :: (Ba, listOf bv.toArray nb) :: (Pa, listOf pv.toArray np) :: (d, q) :: (da, qa) :: (db, qb) :: rest))
    (hoH : oH.data = .cell (some (.str x tx))) (ho2 : o2.data = .cell (some (.int dr tdr))) (hx : HeadOk x) (hc0 : 0 ≤ c) (hc3 : c < 3) (hi : i < 16) (hv : v ≤ i)
    (hH : ∀ j, j ≤ v → (H j).length = 3 + j) (hpg : LI rest pg (H v)) (hlt : LI rest lt (H v))
    (gq : ClientOk PySem.Challenge.rw_ez0420_01.row.prog w H v rest q b p) (ga : ClientOk PySem.Challenge.rw_ez0420_01.row.prog w H v rest qa ba pa) (gb : ClientOk PySem.Challenge.rw_ez0420_01.row.prog w H v rest qb bb pb)
    (sl : sv.length = 3) (bl : bv.length = 3) (pl : pv.length = 3) (hs : sv[c.toNat]? = some (.ref d)) (hb : bv[c.toNat]? = some b) (hp : pv[c.toNat]? = some p)
    (hA : Apart1 I (L + 1) (L + 1 + 1) D Sa Ba Pa d da db) (hd1' : d ≠ 1) (hrest : ∀ p ∈ rest, p.1 ≠ I ∧ p.1 ≠ L + 1 + 1 ∧ p.1 ≠ Ba ∧ p.1 ≠ Pa ∧ p.1 ≠ d ∧ p.1 ≠ da ∧ p.1 ≠ db)
    (fin : FinT PySem.Challenge.rw_ez0420_01.row.prog w h₀ L I D Sa Ba Pa d da db oI oH oD qa qb sv bv pv ba pa bb pb nS i c s Q) {j : Nat} {tb : Tok} (hbj : b = .int (j : Int) tb) (hj : j ≤ v) (hw : Int.fmod dr 3 = 1) :
    wpAny (model PySem.Challenge.rw_ez0420_01.row.prog w) (callerA.deeper (envOfC (Str.ofString "law") lawScope L fa cd)) (execs body1 (envOfC (Str.ofString "law") lawScope L fa cd)) Q E s := by
  show wpAny _ (callerA.deeper (envOfC _ (Scope.mk _ _ _ _ _) _ _ _)) (execs (_ :: _) (envOfC _ (Scope.mk _ _ _ _ _) _ _ _)) _ _ _

  revert X; k_fill; intro X
  obtain ⟨⟨aI1, aI2, aI3, aI4, aI5, aI6, aI7, aI8, aI9⟩, ⟨ac1, ac2, ac3, ac4, ac5, ac6, ac7, ac8⟩, ⟨aB1, aB2, aB3, aB4, aB5, aB6, aB7⟩, ⟨aP1, aP2, aP3, aP4, aP5, aP6⟩, ⟨ad1, ad2, ad3, ad4, ad5⟩⟩ := hA.hide
  clear hA
  have z0 := ltN (Heap.lt_size (N _ (.head _)).1)
  have z1 := ltN (Heap.lt_size (N _ (.tail _ (.head _))).1)
  have z2 := ltN (Heap.lt_size (N _ (.tail _ (.tail _ (.head _)))).1)
  have z3 := ltN (Heap.lt_size (N _ (.tail _ (.tail _ (.tail _ (.head _))))).1)
  have z4 := ltN (Heap.lt_size (N _ (.tail _ (.tail _ (.tail _ (.tail _ (.head _)))))).1)
  have z5 := ltN (Heap.lt_size (N _ (.tail _ (.tail _ (.tail _ (.tail _ (.tail _ (.head _))))))).1)
  have z6 := ltN (Heap.lt_size (N _ (.tail _ (.tail _ (.tail _ (.tail _ (.tail _ (.tail _ (.head _)))))))).1)
  have z7 := ltN (Heap.lt_size (N _ (.tail _ (.tail _ (.tail _ (.tail _ (.tail _ (.tail _ (.tail _ (.head _))))))))).1)
  have z8 := ltN (Heap.lt_size (N _ (.tail _ (.tail _ (.tail _ (.tail _ (.tail _ (.tail _ (.tail _ (.tail _ (.head _)))))))))).1)
  have z9 := ltN (Heap.lt_size (N _ (.tail _ (.tail _ (.tail _ (.tail _ (.tail _ (.tail _ (.tail _ (.tail _ (.tail _ (.head _))))))))))).1)
  dsimp only at z0 z1 z2 z3 z4 z5 z6 z7 z8 z9
  have rI := fun p hp => (hrest p hp).1
  have r2 := fun p hp => (hrest p hp).2.1
  have rB := fun p hp => (hrest p hp).2.2.1
  have rP := fun p hp => (hrest p hp).2.2.2.1
  have rd := fun p hp => (hrest p hp).2.2.2.2.1
  have hlv := hH v (Nat.le_refl _)

  subst hbj
  obtain ⟨⟨kvs, hD, hB, hl⟩, hP⟩ := gq
  obtain ⟨a, va⟩ : ∃ a, valueAt kvs (j : Int) = some a := by
    obtain ⟨z, t, e, hz⟩ := hB
    have e2 := (Value.int.inj e).1
    rcases hz with hz | hz
    · omega
    · rw [← e2] at hz; exact valueAt_has hz
  obtain ⟨_, a, rfl, la⟩ := hD.at va
  have hDd := hD.1
  have hq : QTag (Str.ofString "\"" ++ (x ++ Str.ofString (toString (v : Int))) ++ Str.ofString "\"") _ := tag_q hx (by omega)

  have eb := set_same hb
  have ep := set_same hp
  have ht : ToldText (toldS 1 (x ++ Str.ofString (toString (j : Int)))) _ := told_one (k := 1) hx (by omega) (by omega)
  have hr := let_weak (x := x) (v := v) (j := j) (k := 1) (by decide)
  k_steps

  rename News _ _ _ _ => lN
  rename Fr _ _ _ _ => lF
  rename_i D' _ _ _ _ _ _ _ _ _ _ _ _ _ _
  refine fin (.int (j : Int) tb) p q rest _ _ _ o2 _ H v nb np pg lt tv _ ?a1 hH ho2 (congrArg (fun b => some (Value.bool b)) (by decide)) rfl rfl rfl rfl rfl rfl rfl lF lN ?m1 ?m2 ?m3 ?m4 ?m5 ?m6 ?m7 ?m8 ?m9 ?m10 ?m11 ?l1 ?l2 ?g1 ?g2 ?g3 ?ap
  (case a1 => omega)
  (case m1 => k_mem); (case m2 => k_mem); (case m3 => k_mem); (case m4 => k_mem); (case m5 => k_mem); (case m6 => rw [eb]; k_mem); (case m7 => rw [ep]; k_mem); (case m8 => k_mem); (case m9 => k_mem); (case m10 => k_mem)
  (case m11 => ((repeat (with_reducible refine subT ?_)); exact subR))
  (case l1 => exact hpg); (case l2 => exact hlt)
  (case g2 => exact ga); (case g3 => exact gb)
  (case g1 => exact ⟨⟨kvs, hD, hB, hl⟩, hP⟩)
  (case ap => exact hrest)

theorem deed1d {w : World} {h₀ : Heap} {s : Shared} {lz : List Str} {mean : ExcName → Option Value} {mg mb : Str → Option Value} {fa : Addr} {cd : Value} {E : Value → Shared → Prop} {Q : Flow → Shared → Prop}
    {L I D Sa Ba Pa d da db pg lt : Nat} {oI o2 oH oD q qa qb : Obj} {sv bv pv : List Value} {b p ba pa bb pb : Value} {nS nb np i v : Nat} {rest : List (Addr × Obj)} {H : Nat → List Int} {tv tc td tx tn tdr tk : Tok} {u : Str → Option Value} {c dr de : Int} {x : Str}
    (B : Below callerA h₀ [] h₀) (X : (hd1.heap_39 w.params).In h₀) (T : Top hd1.view_39 lz mean mg mb h₀)
    (F : Fr h₀ L s.heap fun y => if y = "store" then some (.ref d) else if y = "now" then some (.str (Str.ofString "\"" ++ (x ++ Str.ofString (toString (v : Int))) ++ Str.ofString "\"") tn) else if y = "deed" then some (.int de td) else if y = "client" then some (.int c tc) else if y = "k" then some (.int (i : Int) tk) else
      if y = "good" then some (.bool true) else if y = "parts" then some (.ref Pa) else if y = "bases" then some (.ref Ba) else if y = "stores" then some (.ref Sa) else if y = "page" then some (.ref pg) else
      if y = "version" then some (.int (v : Int) tv) else if y = "let" then some (.ref lt) else if y = "cells" then some (.ref D) else u y)
    (N : News h₀ L s.heap ((I, oI) :: (L + 1 + 1, o2) :: (L + 1, oH) :: (D, oD) :: (Sa, listOf sv.toArray nS) :: (Ba, listOf bv.toArray nb) :: (Pa, listOf pv.toArray np) :: (d, q) :: (da, qa) :: (db, qb) :: rest))
    (hoH : oH.data = .cell (some (.str x tx))) (ho2 : o2.data = .cell (some (.int dr tdr))) (hx : HeadOk x) (hc0 : 0 ≤ c) (hc3 : c < 3) (hi : i < 16) (hv : v ≤ i)
    (hH : ∀ j, j ≤ v → (H j).length = 3 + j) (hpg : LI rest pg (H v)) (hlt : LI rest lt (H v))
    (gq : ClientOk PySem.Challenge.rw_ez0420_01.row.prog w H v rest q b p) (ga : ClientOk PySem.Challenge.rw_ez0420_01.row.prog w H v rest qa ba pa) (gb : ClientOk PySem.Challenge.rw_ez0420_01.row.prog w H v rest qb bb pb)
    (sl : sv.length = 3) (bl : bv.length = 3) (pl : pv.length = 3) (hs : sv[c.toNat]? = some (.ref d)) (hb : bv[c.toNat]? = some b) (hp : pv[c.toNat]? = some p)
    (hA : Apart1 I (L + 1) (L + 1 + 1) D Sa Ba Pa d da db) (hd1' : d ≠ 1) (hrest : ∀ p ∈ rest, p.1 ≠ I ∧ p.1 ≠ L + 1 + 1 ∧ p.1 ≠ Ba ∧ p.1 ≠ Pa ∧ p.1 ≠ d ∧ p.1 ≠ da ∧ p.1 ≠ db)
    (fin : FinT PySem.Challenge.rw_ez0420_01.row.prog w h₀ L I D Sa Ba Pa d da db oI oH oD qa qb sv bv pv ba pa bb pb nS i c s Q) {j : Nat} {tb : Tok} (hbj : b = .int (j : Int) tb) (hj : j ≤ v) (hw : Int.fmod dr 3 = 2) :
    wpAny (model PySem.Challenge.rw_ez0420_01.row.prog w) (callerA.deeper (envOfC (Str.ofString "law") lawScope L fa cd)) (execs body1 (envOfC (Str.ofString "law") lawScope L fa cd)) Q E s := by
  show wpAny _ (callerA.deeper (envOfC _ (Scope.mk _ _ _ _ _) _ _ _)) (execs (_ :: _) (envOfC _ (Scope.mk _ _ _ _ _) _ _ _)) _ _ _

  revert X; k_fill; intro X
  obtain ⟨⟨aI1, aI2, aI3, aI4, aI5, aI6, aI7, aI8, aI9⟩, ⟨ac1, ac2, ac3, ac4, ac5, ac6, ac7, ac8⟩, ⟨aB1, aB2, aB3, aB4, aB5, aB6, aB7⟩, ⟨aP1, aP2, aP3, aP4, aP5, aP6⟩, ⟨ad1, ad2, ad3, ad4, ad5⟩⟩ := hA.hide
  clear hA
  have z0 := ltN (Heap.lt_size (N _ (.head _)).1)
  have z1 := ltN (Heap.lt_size (N _ (.tail _ (.head _))).1)
  have z2 := ltN (Heap.lt_size (N _ (.tail _ (.tail _ (.head _)))).1)
  have z3 := ltN (Heap.lt_size (N _ (.tail _ (.tail _ (.tail _ (.head _))))).1)
  have z4 := ltN (Heap.lt_size (N _ (.tail _ (.tail _ (.tail _ (.tail _ (.head _)))))).1)
  have z5 := ltN (Heap.lt_size (N _ (.tail _ (.tail _ (.tail _ (.tail _ (.tail _ (.head _))))))).1)
  have z6 := ltN (Heap.lt_size (N _ (.tail _ (.tail _ (.tail _ (.tail _ (.tail _ (.tail _ (.head _)))))))).1)
  have z7 := ltN (Heap.lt_size (N _ (.tail _ (.tail _ (.tail _ (.tail _ (.tail _ (.tail _ (.tail _ (.head _))))))))).1)
  have z8 := ltN (Heap.lt_size (N _ (.tail _ (.tail _ (.tail _ (.tail _ (.tail _ (.tail _ (.tail _ (.tail _ (.head _)))))))))).1)
  have z9 := ltN (Heap.lt_size (N _ (.tail _ (.tail _ (.tail _ (.tail _ (.tail _ (.tail _ (.tail _ (.tail _ (.tail _ (.head _))))))))))).1)
  dsimp only at z0 z1 z2 z3 z4 z5 z6 z7 z8 z9
  have rI := fun p hp => (hrest p hp).1
  have r2 := fun p hp => (hrest p hp).2.1
  have rB := fun p hp => (hrest p hp).2.2.1
  have rP := fun p hp => (hrest p hp).2.2.2.1
  have rd := fun p hp => (hrest p hp).2.2.2.2.1
  have hlv := hH v (Nat.le_refl _)

  subst hbj
  obtain ⟨⟨kvs, hD, hB, hl⟩, hP⟩ := gq
  obtain ⟨a, va⟩ : ∃ a, valueAt kvs (j : Int) = some a := by
    obtain ⟨z, t, e, hz⟩ := hB
    have e2 := (Value.int.inj e).1
    rcases hz with hz | hz
    · omega
    · rw [← e2] at hz; exact valueAt_has hz
  obtain ⟨_, a, rfl, la⟩ := hD.at va
  have hDd := hD.1
  have hq : QTag (Str.ofString "\"" ++ (x ++ Str.ofString (toString (v : Int))) ++ Str.ofString "\"") _ := tag_q hx (by omega)

  have eb := set_same hb
  have ep := set_same hp
  have ht : ToldText (toldS 2 (x ++ Str.ofString (toString (j : Int)))) _ := told_one (k := 2) hx (by omega) (by omega)
  have hr := let_weak (x := x) (v := v) (j := j) (k := 2) (by decide)
  k_steps

  rename News _ _ _ _ => lN
  rename Fr _ _ _ _ => lF
  rename_i D' _ _ _ _ _ _ _ _ _ _ _ _ _ _
  refine fin (.int (j : Int) tb) p q rest _ _ _ o2 _ H v nb np pg lt tv _ ?a1 hH ho2 (congrArg (fun b => some (Value.bool b)) (by decide)) rfl rfl rfl rfl rfl rfl rfl lF lN ?m1 ?m2 ?m3 ?m4 ?m5 ?m6 ?m7 ?m8 ?m9 ?m10 ?m11 ?l1 ?l2 ?g1 ?g2 ?g3 ?ap
  (case a1 => omega)
  (case m1 => k_mem); (case m2 => k_mem); (case m3 => k_mem); (case m4 => k_mem); (case m5 => k_mem); (case m6 => rw [eb]; k_mem); (case m7 => rw [ep]; k_mem); (case m8 => k_mem); (case m9 => k_mem); (case m10 => k_mem)
  (case m11 => ((repeat (with_reducible refine subT ?_)); exact subR))
  (case l1 => exact hpg); (case l2 => exact hlt)
  (case g2 => exact ga); (case g3 => exact gb)
  (case g1 => exact ⟨⟨kvs, hD, hB, hl⟩, hP⟩)
  (case ap => exact hrest)

end Mine
end
section
open PySem PySem.W PyProof.Rows
namespace Mine
local macro_rules | `(tactic| walk_at "mine pad 0") => `(tactic| fail "pad")
local macro_rules | `(tactic| walk_at "mine pad 1") => `(tactic| fail "pad")
local macro_rules | `(tactic| walk_at "mine pad 2") => `(tactic| fail "pad")
local macro_rules | `(tactic| walk_at "mine pad 3") => `(tactic| fail "pad")
local macro_rules | `(tactic| walk_at "mine pad 4") => `(tactic| fail "pad")
local macro_rules | `(tactic| walk_at "mine pad 5") => `(tactic| fail "pad")
local macro_rules | `(tactic| walk_at "mine pad 6") => `(tactic| fail "pad")
local macro_rules | `(tactic| walk_at "mine pad 7") => `(tactic| fail "pad")
local macro_rules | `(tactic| walk_at "mine pad 8") => `(tactic| fail "pad")
local macro_rules | `(tactic| walk_at "mine pad 9") => `(tactic| fail "pad")
local macro_rules | `(tactic| walk_at "mine pad 10") => `(tactic| fail "pad")
local macro_rules | `(tactic| walk_at "mine pad 11") => `(tactic| fail "pad")
local macro_rules | `(tactic| walk_at "mine pad 12") => `(tactic| fail "pad")
local macro_rules | `(tactic| walk_at "mine pad 13") => `(tactic| fail "pad")
local macro_rules | `(tactic| walk_at "mine pad 14") => `(tactic| fail "pad")
local macro_rules | `(tactic| walk_at "mine pad 15") => `(tactic| fail "pad")
local macro_rules | `(tactic| walk_at "mine pad 16") => `(tactic| fail "pad")
local macro_rules | `(tactic| walk_at "mine pad 17") => `(tactic| fail "pad")
local macro_rules | `(tactic| walk_at "mine pad 18") => `(tactic| fail "pad")
local macro_rules | `(tactic| walk_at "mine pad 19") => `(tactic| fail "pad")
local macro_rules | `(tactic| walk_at "mine pad 20") => `(tactic| fail "pad")
local macro_rules | `(tactic| walk_at "mine pad 21") => `(tactic| fail "pad")
local macro_rules | `(tactic| walk_at "mine pad 22") => `(tactic| fail "pad")
local macro_rules | `(tactic| walk_at "mine pad 23") => `(tactic| fail "pad")
local macro_rules | `(tactic| walk_at "mine pad 24") => `(tactic| fail "pad")
local macro_rules | `(tactic| walk_at "mine pad 25") => `(tactic| fail "pad")
local macro_rules | `(tactic| walk_at "mine pad 26") => `(tactic| fail "pad")
local macro_rules | `(tactic| walk_at "mine pad 27") => `(tactic| fail "pad")
local macro_rules | `(tactic| walk_at "mine pad 28") => `(tactic| fail "pad")
local macro_rules | `(tactic| walk_at "mine pad 29") => `(tactic| fail "pad")
local macro_rules | `(tactic| walk_at "mine pad 30") => `(tactic| fail "pad")
local macro_rules | `(tactic| walk_at "mine pad 31") => `(tactic| fail "pad")
local macro_rules | `(tactic| walk_at "mine pad 32") => `(tactic| fail "pad")
local macro_rules | `(tactic| walk_at "mine pad 33") => `(tactic| fail "pad")
local macro_rules | `(tactic| walk_at "mine pad 34") => `(tactic| fail "pad")
local macro_rules | `(tactic| walk_at "mine pad 35") => `(tactic| fail "pad")
local macro_rules | `(tactic| walk_at "mine pad 36") => `(tactic| fail "pad")
local macro_rules | `(tactic| walk_at "mine pad 37") => `(tactic| fail "pad")
local macro_rules | `(tactic| walk_at "mine pad 38") => `(tactic| fail "pad")
local macro_rules | `(tactic| walk_at "exec While") => `(tactic| (k_here; refine Mine.Stop.go ?_))
local macro_rules | `(tactic| k_room) => `(tactic| ((try simp only [depth_under_make, depth_under_kw, depth_in1, depth_deeper, depth_caller]); show _ < 1000; omega))
local macro_rules | `(tactic| k_units) => `(tactic| (show _ < 9900; (try simp only [Around.in1_units, Around.deeper_units, Around.mark_units]); omega))
local macro_rules | `(tactic| walk_at "call type:frozenset nil nil") => `(tactic| (k_here; k_dflt (refine' fset0_K' ?F ?N ?_; (case F => k_asm); (case N => k_asm); k_whole); intro a' h' o' F' N' S' l1; (try k_lt l1); (try k_sweep)))
local macro_rules | `(tactic| walk_at "call type:frozenset cons nil") => `(tactic| (k_here; k_dflt (first
  | (refine' fsetL_K ?F ?N ?m ?x ?hh ?hb ?_; (case F => k_asm); (case N => k_asm); (case m => k_mem); (case x => assumption); (case hh => rfl); (case hb => omega); k_whole)
  | (refine' fsetT_K ?F ?N ?t ?hh ?_; (case F => k_asm); (case N => k_asm); (case t => exact ⟨_, News.get (by k_asm) (by k_mem), rfl, _, rfl⟩); (case hh => rfl); k_whole)); intro a' h' tk' o' F' N' S' l1; (try k_lt l1); (try k_sweep)))
local macro_rules | `(tactic| walk_at "truthy ref") => `(tactic| (k_here; k_dflt (refine' fset_truthy_K ?N ?m ?f ?hn ?_; (case N => k_asm); (case m => k_mem); (case f => assumption); (case hn => omega); k_whole); intro b' tk' hb'))
local macro_rules | `(tactic| walk_at "compareOp In str ref") => `(tactic| (k_here; k_dflt (refine' fset_in_K ?N ?m ?f ?hn ?_; (case N => k_asm); (case m => k_mem); (case f => assumption); (case hn => omega); k_whole); intro tk'))
local macro_rules | `(tactic| walk_at "getMethod ref") => `(tactic| (k_here; k_dflt (first
  | (refine' meth_pattern ?P slot_pattern_match type_pattern_match ?_; (case P => exact PatAt.keeps (by assumption) (Fr.keep (by k_asm))); k_whole)
  | (refine' meth_match ?f slot_match_groups type_match_groups ?_; (case f => exact foundN (by k_asm) (by k_mem) (by k_mem)); k_whole)
  | (refine' meth_match ?f slot_match_end type_match_end ?_; (case f => exact foundN (by k_asm) (by k_mem) (by k_mem)); k_whole))))
local macro_rules | `(tactic| walk_at "call builtin:re.Pattern.match") => `(tactic| (k_here; k_dflt (first
  | (refine' matchK_yes ?F ?N ?P ?g ?hp ?hx ?hm ?hk ?ok ?len ?_; (case F => k_asm); (case N => k_asm); (case hm => assumption); (case P => assumption); (case g => rfl); (case hp => omega); (case hx => omega); (case hk => decide); (case ok => assumption); (case len => exact Nat.le_of_ble_eq_true rfl); k_whole; intro a' T' h' F' N' l1 l2; (try k_lt l1); (try k_lt2 l2); (try k_sweep))
  | (refine' matchK_no ?F ?P ?hp ?hx ?hm ?hk ?_; (case F => k_asm); (case hm => assumption); (case P => assumption); (case hp => omega); (case hx => omega); (case hk => decide); k_whole))))
local macro_rules | `(tactic| walk_at "call builtin:re.Match.groups") => `(tactic| (k_here; k_dflt (refine' groupsK3 ?F ?N ?f ?hx ?_; (case F => k_asm); (case N => k_asm); (case f => exact foundN (by k_asm) (by k_mem) (by k_mem)); (case hx => omega); k_whole); intro T' t1' t2' t3' h' tk' F' N' l1; (try dsimp only [partOf] at N'); (try k_lt l1); (try k_sweep)))
local macro_rules | `(tactic| walk_at "call builtin:re.Match.end") => `(tactic| (k_here; k_dflt (refine' endK ?f ?_; (case f => exact foundN (by k_asm) (by k_mem) (by k_mem)); k_whole)))
local macro_rules | `(tactic| walk_at "truthy str") => `(tactic| (k_here; k_dflt (refine' truthy_text ?a ?b ?_; (case a => omega); (case b => omega); k_whole); intro tk'))
local macro_rules | `(tactic| walk_at "truthy ref") => `(tactic| (k_here; k_dflt (refine' truthy_listK ?N ?m ?hb ?_; (case N => k_asm); (case m => k_mem); (case hb => omega); k_whole); intro tk'))
local macro_rules | `(tactic| walk_at "call ref") => `(tactic| (k_here; k_dflt (first
  | (refine' etags_someK ?B ?F ?N ?X ?T ?P ?hA ?hf ?hke ?hh ?hd ?hu ?ht ?_; (case ht => assumption); (case hA => exact rfl); (case hf => exact rfl); (case hke => exact rfl); (case B => k_asm); (case F => k_asm); (case N => k_asm); (case X => k_asm); (case T => k_asm); (case P => first | assumption | exact PatAt.keeps (by assumption) (Fr.keep (by k_asm))); (case hh => rfl); (case hd => ((try simp only [depth_in1, depth_deeper, depth_caller]); show _ < 500; omega)); (case hu => ((try simp only [Around.in1_units, Around.deeper_units]); show _ < 500; omega)); k_whole; intro h' tk' e' d' a' b' oa' ob' t1' t2' t3' n' nS' nW' F' N' f1' f2' f3' f4'; (try k_sweep))
  | (refine' etags_noneK ?B ?F ?N ?X ?T ?hA ?hf ?hke ?hh ?hd ?hu ?_; (case hA => exact rfl); (case hf => exact rfl); (case hke => exact rfl); (case B => k_asm); (case F => k_asm); (case N => k_asm); (case X => k_asm); (case T => k_asm); (case hh => rfl); (case hd => ((try simp only [depth_in1, depth_deeper, depth_caller]); show _ < 500; omega)); (case hu => ((try simp only [Around.in1_units, Around.deeper_units]); show _ < 500; omega)); k_whole; intro h' tk' e' d' a' b' oa' ob' t1' t2' t3' n' nS' nW' F' N' f1' f2' f3' f4'; (try k_sweep)))))
local macro_rules | `(tactic| walk_at "call builtin:str.startswith") => `(tactic| (k_here; k_dflt (refine' startswith_tup ?h ?_; (case h => exact ⟨_, News.get (by k_asm) (by k_mem), rfl, _, rfl⟩); k_whole)))
local macro_rules | `(tactic| walk_at "call builtin:str.endswith") => `(tactic| (k_here; k_dflt (refine' ends_true ?h ?_; (case h => assumption); k_whole)))
local macro_rules | `(tactic| walk_at "call type:bool") => `(tactic| (k_here; k_dflt (refine' bool_fsetL ?N ?m ?f ?hn ?_; (case N => k_asm); (case m => k_mem); (case f => with_reducible assumption); (case hn => omega); k_whole); intro tk'))
local macro_rules | `(tactic| walk_at "truthy ref") => `(tactic| (k_here; k_dflt (refine' truthy_fsetL ?N ?m ?f ?hn ?_; (case N => k_asm); (case m => k_mem); (case f => with_reducible assumption); (case hn => omega); k_whole); intro tk'))
local macro_rules | `(tactic| walk_at "call type:bool") => `(tactic| (k_here; k_dflt (refine' bool_fset0 ?N ?m ?f ?hn ?_; (case N => k_asm); (case m => k_mem); (case f => with_reducible assumption); (case hn => omega); k_whole); intro tk'))
local macro_rules | `(tactic| walk_at "truthy ref") => `(tactic| (k_here; k_dflt (refine' truthy_fset0 ?N ?m ?f ?hn ?_; (case N => k_asm); (case m => k_mem); (case f => with_reducible assumption); (case hn => omega); k_whole); intro tk'))
local macro_rules | `(tactic| walk_at "getMethod ref") => `(tactic| (k_here; k_dflt (refine' meth_pattern ?P slot_pattern_fullmatch type_pattern_fullmatch ?_; (case P => first | exact PatAt.keeps (by assumption) (Fr.keep (by k_asm)) | exact PatAt.keeps (PatAt.keeps (by assumption) (Fr.keep (by assumption))) (Fr.keep (by k_asm))); k_whole)))
local macro_rules | `(tactic| walk_at "call builtin:re.Pattern.fullmatch") => `(tactic| (k_here; k_dflt (refine' fullK_c (n := 12) ?F ?N ?P ?hx ?hn ?h0 ?h1 ?h2 ?h3 ?_; (case F => k_asm); (case N => k_asm); (case P => first | assumption | exact PatAt.keeps (by assumption) (Fr.keep (by assumption))); (case hx => decide +kernel); (case hn => decide); (case h0 => first | kernel_rfl | rfl); (case h1 => rfl); (case h2 => rfl); (case h3 => rfl); k_whole; intro a' h' F' N')))

local macro_rules | `(tactic| k_ne) => `(tactic| (refine neN ?_; (try dsimp only); first | exact Ap.ne (by with_reducible assumption) | exact Ap.ne' (by with_reducible assumption) | fail "no"))
local macro_rules | `(tactic| k_all) => `(tactic| with_reducible assumption)
local macro_rules | `(tactic| walk_at "subscriptTail Name Slice ref ref") => `(tactic| (k_here; k_dflt (refine' sliceUpLI ?F ?N ?s ?li ?y ?x ?_ ?sb ?t; (case F => k_asm); (case N => k_asm); (case li => with_reducible assumption); (case s => ((repeat (with_reducible refine subT ?_)); exact subR)); (case y => exact Int.fmod_nonneg_of_pos _ (by decide)); (case x => omega); (case sb => with_unfolding_all rfl); (case t => (intro _; with_unfolding_all rfl)); k_whole); intro D' h' zs' F' N' l1 hI'; (try k_lt l1)))
local macro_rules | `(tactic| walk_at "setItem ref int") => `(tactic| (k_here; k_dflt (refine' setLst ?F ?N ?a ?b ?l ?U ?_; (case F => k_asm); (case N => k_asm); (case U => k_upd); (case a => assumption); (case b => assumption); (case l => first | assumption | (rw [List.length_set]; assumption)); k_whole); intro h' F' N'))
local macro_rules | `(tactic| walk_at "subscriptTail Name Name ref int") => `(tactic| (k_here; k_dflt (refine' pickR ?k1 ?k2 ?k3 ?k4 ?_ ?k6; (case k1 => exact listN (by k_asm) (by k_mem)); (case k2 => with_reducible assumption); (case k3 => assumption); (case k4 => omega); (case k6 => with_unfolding_all rfl); k_whole)))

local macro_rules | `(tactic| walk_at "binaryOp Add str str") => `(tactic| (k_here; k_dflt (refine' Rows_add ?_ ?z; (case z => exact add_ok (by assumption) (by omega)); intro t' tk')))
local macro_rules | `(tactic| walk_at "ite") => `(tactic| (k_here; (with_reducible refine ite_pos ?e ?_); (case e => with_reducible assumption)))
local macro_rules | `(tactic| walk_at "binaryOp Mod int int") => `(tactic| (k_here; k_dflt (refine' modK ?e ?n ?_; (case e => with_reducible assumption); (case n => decide); k_whole)))
local macro_rules | `(tactic| walk_at "subscriptTail Name Name ref int") => `(tactic| (k_here; k_dflt (first
  | (refine' pickR ?k1 ?k2 ?k3 ?k4 ?_ ?k6; (case k1 => exact listN (by k_asm) (by k_mem)); (case k2 => with_reducible assumption); (case k3 => assumption); (case k4 => omega); (case k6 => with_unfolding_all rfl); k_whole)
  | (refine' dictGet ?N ?p ?d ?l ?_ ?s ?g; (case N => k_asm); (case p => k_mem); (case d => with_reducible assumption); (case l => with_reducible assumption); (case s => with_unfolding_all rfl); (case g => (intro _; with_unfolding_all rfl)); k_whole)
  | fail "no pick")))
local macro_rules | `(tactic| walk_at "binaryOp Add ref ref") => `(tactic| (k_here; k_dflt (refine' addLI1 ?F ?N ?s ?li ?b ?x ?_; (case F => k_asm); (case N => k_asm); (case li => with_reducible assumption); (case s => ((repeat (with_reducible refine subT ?_)); exact subR)); (case b => k_mem); (case x => omega); k_whole); intro D' h' zs' F' N' l1 hI'; (try k_lt l1)))
local macro_rules | `(tactic| walk_at "setItem ref int") => `(tactic| (k_here; k_dflt (first
  | (refine' setLst ?F ?N ?a ?b ?l ?U ?_; (case F => k_asm); (case N => k_asm); (case U => k_upd); (case a => assumption); (case b => assumption); (case l => first | assumption | (rw [List.length_set]; assumption)); k_whole; intro h' F' N')
  | (refine' dictSet ?F ?N ?U ?d ?z ?_; (case F => k_asm); (case N => k_asm); (case U => k_updF); (case d => with_reducible assumption); (case z => omega); k_whole; intro h' o' F' N' hd'; (try dsimp only at N'))
  | fail "no set")))

theorem spanW {w : World} {h₀ : Heap} {s : Shared} {lz : List Str} {mean : ExcName → Option Value} {mg mb : Str → Option Value} {fa : Addr} {cd : Value} {E : Value → Shared → Prop} {Q : Value → Shared → Prop}
    {L x d l D : Nat} {m : Str → Option Value} {news : List (Addr × Obj)} {k n : Nat} {t t1 t2 t3 t4 k1 k2 : Nat}
    (B : Below callerA h₀ [] h₀) (X : (hd1.heap_39 w.params).In h₀) (T : Top hd1.view_39 lz mean mg mb h₀) (F : Fr h₀ L s.heap m)
    (N : News h₀ L s.heap ((x, instObj 313 d) :: (d, dictOf [⟨PyData.keyHash w.params (Str.ofString "units"), .str (Str.ofString "units") t1, .str (Str.ofString "bytes") t2⟩, ⟨PyData.keyHash w.params (Str.ofString "ranges"), .str (Str.ofString "ranges") t3, .ref l⟩] k1) :: (l, listOf #[.ref D] k2) :: (D, { cls := .type "tuple", data := .seq #[.int (k : Int) t4, .none] }) :: news))
    (hk : k ≤ 4) (hn : n ≤ 100)
    (h1 : n ≤ k → ∀ h' tk, Fr h₀ L h' m → News h₀ L h' news → Q .none { s with heap := h', toks := tk })
    (h2 : k < n → ∀ h' tk (S u1 u2 : Nat), Fr h₀ L h' m → News h₀ L h' ((S, { cls := .type "tuple", data := .seq #[.int (k : Int) u1, .int (n : Int) u2] }) :: news) → (∀ p ∈ news, p.1 < S) → Q (.ref S) { s with heap := h', toks := tk }) :
    wpAny (model PySem.Challenge.rw_ez0420_01.row.prog w) (callerA.deeper (envOfC (Str.ofString "law") lawScope L fa cd)) (call (.ref 275) [.ref x, .int (n : Int) t]) Q E s := by
  show wpAny _ (callerA.deeper (envOfC _ (Scope.mk _ _ _ _ _) _ _ _)) _ _ _ _
  revert X; k_fill; intro X
  k_steps
  · rename (_ = true) => ht
    rename (_ ∧ _ ∧ _ ∧ _ ∧ AllLt _ _) => l1
    rename News h₀ _ _ _ => kN
    rename Fr h₀ _ _ _ => kF
    rw [same_if] at kN
    exact h2 (span_yes ht) _ _ _ _ _ kF (newsSub kN (List.forall_mem_cons.mpr ⟨.head _, subT (subT (subT (subT (subT subR))))⟩)) (allLt_to l1.2.2.2.2)
  · rename (_ = false) => ht
    rename News h₀ _ _ _ => kN
    rename Fr h₀ _ _ _ => kF
    exact h1 (span_no ht) _ _ kF (newsSub kN (subT (subT (subT (subT subR)))))
theorem spanAny {w : World} {h₀ : Heap} {s : Shared} {lz : List Str} {mean : ExcName → Option Value} {mg mb : Str → Option Value} {fa : Addr} {cd : Value} {E : Value → Shared → Prop} {Q : Value → Shared → Prop}
    {L x d l D : Nat} {m : Str → Option Value} {news : List (Addr × Obj)} {k n : Nat} {t t1 t2 t3 t4 k1 k2 : Nat}
    (B : Below callerA h₀ [] h₀) (X : (hd1.heap_39 w.params).In h₀) (T : Top hd1.view_39 lz mean mg mb h₀) (F : Fr h₀ L s.heap m)
    (N : News h₀ L s.heap ((x, instObj 313 d) :: (d, dictOf [⟨PyData.keyHash w.params (Str.ofString "units"), .str (Str.ofString "units") t1, .str (Str.ofString "bytes") t2⟩, ⟨PyData.keyHash w.params (Str.ofString "ranges"), .str (Str.ofString "ranges") t3, .ref l⟩] k1) :: (l, listOf #[.ref D] k2) :: (D, { cls := .type "tuple", data := .seq #[.int (k : Int) t4, .none] }) :: news))
    (hk : k ≤ 4) (hn : n ≤ 100)
    (h : ∀ v h' tk, Fr h₀ L h' m → News h₀ L h' news → Q v { s with heap := h', toks := tk }) :
    wpAny (model PySem.Challenge.rw_ez0420_01.row.prog w) (callerA.deeper (envOfC (Str.ofString "law") lawScope L fa cd)) (call (.ref 275) [.ref x, .int (n : Int) t]) Q E s :=
  spanW B X T F N hk hn (fun _ h' tk F' N' => h _ h' tk F' N') fun _ h' tk S u1 u2 F' N' _ => h _ h' tk F' (newsSub N' (subT subR))
end Mine
end
section
open PySem PySem.W PyProof.Rows
namespace Mine
local macro_rules | `(tactic| walk_at "mine pad 0") => `(tactic| fail "pad")
local macro_rules | `(tactic| walk_at "mine pad 1") => `(tactic| fail "pad")
local macro_rules | `(tactic| walk_at "mine pad 2") => `(tactic| fail "pad")
local macro_rules | `(tactic| walk_at "mine pad 3") => `(tactic| fail "pad")
local macro_rules | `(tactic| walk_at "mine pad 4") => `(tactic| fail "pad")
local macro_rules | `(tactic| walk_at "mine pad 5") => `(tactic| fail "pad")
local macro_rules | `(tactic| walk_at "mine pad 6") => `(tactic| fail "pad")
local macro_rules | `(tactic| walk_at "mine pad 7") => `(tactic| fail "pad")
local macro_rules | `(tactic| walk_at "mine pad 8") => `(tactic| fail "pad")
local macro_rules | `(tactic| walk_at "mine pad 9") => `(tactic| fail "pad")
local macro_rules | `(tactic| walk_at "mine pad 10") => `(tactic| fail "pad")
local macro_rules | `(tactic| walk_at "mine pad 11") => `(tactic| fail "pad")
local macro_rules | `(tactic| walk_at "mine pad 12") => `(tactic| fail "pad")
local macro_rules | `(tactic| walk_at "mine pad 13") => `(tactic| fail "pad")
local macro_rules | `(tactic| walk_at "mine pad 14") => `(tactic| fail "pad")
local macro_rules | `(tactic| walk_at "mine pad 15") => `(tactic| fail "pad")
local macro_rules | `(tactic| walk_at "mine pad 16") => `(tactic| fail "pad")
local macro_rules | `(tactic| walk_at "mine pad 17") => `(tactic| fail "pad")
local macro_rules | `(tactic| walk_at "mine pad 18") => `(tactic| fail "pad")
local macro_rules | `(tactic| walk_at "mine pad 19") => `(tactic| fail "pad")
local macro_rules | `(tactic| walk_at "mine pad 20") => `(tactic| fail "pad")
local macro_rules | `(tactic| walk_at "mine pad 21") => `(tactic| fail "pad")
local macro_rules | `(tactic| walk_at "mine pad 22") => `(tactic| fail "pad")
local macro_rules | `(tactic| walk_at "mine pad 23") => `(tactic| fail "pad")
local macro_rules | `(tactic| walk_at "mine pad 24") => `(tactic| fail "pad")
local macro_rules | `(tactic| walk_at "mine pad 25") => `(tactic| fail "pad")
local macro_rules | `(tactic| walk_at "mine pad 26") => `(tactic| fail "pad")
local macro_rules | `(tactic| walk_at "mine pad 27") => `(tactic| fail "pad")
local macro_rules | `(tactic| walk_at "mine pad 28") => `(tactic| fail "pad")
local macro_rules | `(tactic| walk_at "mine pad 29") => `(tactic| fail "pad")
local macro_rules | `(tactic| walk_at "mine pad 30") => `(tactic| fail "pad")
local macro_rules | `(tactic| walk_at "mine pad 31") => `(tactic| fail "pad")
local macro_rules | `(tactic| walk_at "mine pad 32") => `(tactic| fail "pad")
local macro_rules | `(tactic| walk_at "exec While") => `(tactic| (k_here; refine Mine.Stop.go ?_))
local macro_rules | `(tactic| k_room) => `(tactic| ((try simp only [depth_under_make, depth_under_kw, depth_in1, depth_deeper, depth_caller]); show _ < 1000; omega))
local macro_rules | `(tactic| k_units) => `(tactic| (show _ < 9900; (try simp only [Around.in1_units, Around.deeper_units, Around.mark_units]); omega))
local macro_rules | `(tactic| walk_at "call type:frozenset nil nil") => `(tactic| (k_here; k_dflt (refine' fset0_K' ?F ?N ?_; (case F => k_asm); (case N => k_asm); k_whole); intro a' h' o' F' N' S' l1; (try k_lt l1); (try k_sweep)))
local macro_rules | `(tactic| walk_at "call type:frozenset cons nil") => `(tactic| (k_here; k_dflt (first
  | (refine' fsetL_K ?F ?N ?m ?x ?hh ?hb ?_; (case F => k_asm); (case N => k_asm); (case m => k_mem); (case x => assumption); (case hh => rfl); (case hb => omega); k_whole)
  | (refine' fsetT_K ?F ?N ?t ?hh ?_; (case F => k_asm); (case N => k_asm); (case t => exact ⟨_, News.get (by k_asm) (by k_mem), rfl, _, rfl⟩); (case hh => rfl); k_whole)); intro a' h' tk' o' F' N' S' l1; (try k_lt l1); (try k_sweep)))
local macro_rules | `(tactic| walk_at "truthy ref") => `(tactic| (k_here; k_dflt (refine' fset_truthy_K ?N ?m ?f ?hn ?_; (case N => k_asm); (case m => k_mem); (case f => assumption); (case hn => omega); k_whole); intro b' tk' hb'))
local macro_rules | `(tactic| walk_at "compareOp In str ref") => `(tactic| (k_here; k_dflt (refine' fset_in_K ?N ?m ?f ?hn ?_; (case N => k_asm); (case m => k_mem); (case f => assumption); (case hn => omega); k_whole); intro tk'))
local macro_rules | `(tactic| walk_at "getMethod ref") => `(tactic| (k_here; k_dflt (first
  | (refine' meth_pattern ?P slot_pattern_match type_pattern_match ?_; (case P => exact PatAt.keeps (by assumption) (Fr.keep (by k_asm))); k_whole)
  | (refine' meth_match ?f slot_match_groups type_match_groups ?_; (case f => exact foundN (by k_asm) (by k_mem) (by k_mem)); k_whole)
  | (refine' meth_match ?f slot_match_end type_match_end ?_; (case f => exact foundN (by k_asm) (by k_mem) (by k_mem)); k_whole))))
local macro_rules | `(tactic| walk_at "call builtin:re.Pattern.match") => `(tactic| (k_here; k_dflt (first
  | (refine' matchK_yes ?F ?N ?P ?g ?hp ?hx ?hm ?hk ?ok ?len ?_; (case F => k_asm); (case N => k_asm); (case hm => assumption); (case P => assumption); (case g => rfl); (case hp => omega); (case hx => omega); (case hk => decide); (case ok => assumption); (case len => exact Nat.le_of_ble_eq_true rfl); k_whole; intro a' T' h' F' N' l1 l2; (try k_lt l1); (try k_lt2 l2); (try k_sweep))
  | (refine' matchK_no ?F ?P ?hp ?hx ?hm ?hk ?_; (case F => k_asm); (case hm => assumption); (case P => assumption); (case hp => omega); (case hx => omega); (case hk => decide); k_whole))))
local macro_rules | `(tactic| walk_at "call builtin:re.Match.groups") => `(tactic| (k_here; k_dflt (refine' groupsK3 ?F ?N ?f ?hx ?_; (case F => k_asm); (case N => k_asm); (case f => exact foundN (by k_asm) (by k_mem) (by k_mem)); (case hx => omega); k_whole); intro T' t1' t2' t3' h' tk' F' N' l1; (try dsimp only [partOf] at N'); (try k_lt l1); (try k_sweep)))
local macro_rules | `(tactic| walk_at "call builtin:re.Match.end") => `(tactic| (k_here; k_dflt (refine' endK ?f ?_; (case f => exact foundN (by k_asm) (by k_mem) (by k_mem)); k_whole)))
local macro_rules | `(tactic| walk_at "truthy str") => `(tactic| (k_here; k_dflt (refine' truthy_text ?a ?b ?_; (case a => omega); (case b => omega); k_whole); intro tk'))
local macro_rules | `(tactic| walk_at "truthy ref") => `(tactic| (k_here; k_dflt (refine' truthy_listK ?N ?m ?hb ?_; (case N => k_asm); (case m => k_mem); (case hb => omega); k_whole); intro tk'))
local macro_rules | `(tactic| walk_at "call ref") => `(tactic| (k_here; k_dflt (first
  | (refine' etags_someK ?B ?F ?N ?X ?T ?P ?hA ?hf ?hke ?hh ?hd ?hu ?ht ?_; (case ht => assumption); (case hA => exact rfl); (case hf => exact rfl); (case hke => exact rfl); (case B => k_asm); (case F => k_asm); (case N => k_asm); (case X => k_asm); (case T => k_asm); (case P => first | assumption | exact PatAt.keeps (by assumption) (Fr.keep (by k_asm))); (case hh => rfl); (case hd => ((try simp only [depth_in1, depth_deeper, depth_caller]); show _ < 500; omega)); (case hu => ((try simp only [Around.in1_units, Around.deeper_units]); show _ < 500; omega)); k_whole; intro h' tk' e' d' a' b' oa' ob' t1' t2' t3' n' nS' nW' F' N' f1' f2' f3' f4'; (try k_sweep))
  | (refine' etags_noneK ?B ?F ?N ?X ?T ?hA ?hf ?hke ?hh ?hd ?hu ?_; (case hA => exact rfl); (case hf => exact rfl); (case hke => exact rfl); (case B => k_asm); (case F => k_asm); (case N => k_asm); (case X => k_asm); (case T => k_asm); (case hh => rfl); (case hd => ((try simp only [depth_in1, depth_deeper, depth_caller]); show _ < 500; omega)); (case hu => ((try simp only [Around.in1_units, Around.deeper_units]); show _ < 500; omega)); k_whole; intro h' tk' e' d' a' b' oa' ob' t1' t2' t3' n' nS' nW' F' N' f1' f2' f3' f4'; (try k_sweep)))))
local macro_rules | `(tactic| walk_at "call builtin:str.startswith") => `(tactic| (k_here; k_dflt (refine' startswith_tup ?h ?_; (case h => exact ⟨_, News.get (by k_asm) (by k_mem), rfl, _, rfl⟩); k_whole)))
local macro_rules | `(tactic| walk_at "call builtin:str.endswith") => `(tactic| (k_here; k_dflt (refine' ends_true ?h ?_; (case h => assumption); k_whole)))
local macro_rules | `(tactic| walk_at "call type:bool") => `(tactic| (k_here; k_dflt (refine' bool_fsetL ?N ?m ?f ?hn ?_; (case N => k_asm); (case m => k_mem); (case f => with_reducible assumption); (case hn => omega); k_whole); intro tk'))
local macro_rules | `(tactic| walk_at "truthy ref") => `(tactic| (k_here; k_dflt (refine' truthy_fsetL ?N ?m ?f ?hn ?_; (case N => k_asm); (case m => k_mem); (case f => with_reducible assumption); (case hn => omega); k_whole); intro tk'))
local macro_rules | `(tactic| walk_at "call type:bool") => `(tactic| (k_here; k_dflt (refine' bool_fset0 ?N ?m ?f ?hn ?_; (case N => k_asm); (case m => k_mem); (case f => with_reducible assumption); (case hn => omega); k_whole); intro tk'))
local macro_rules | `(tactic| walk_at "truthy ref") => `(tactic| (k_here; k_dflt (refine' truthy_fset0 ?N ?m ?f ?hn ?_; (case N => k_asm); (case m => k_mem); (case f => with_reducible assumption); (case hn => omega); k_whole); intro tk'))
local macro_rules | `(tactic| walk_at "getMethod ref") => `(tactic| (k_here; k_dflt (refine' meth_pattern ?P slot_pattern_fullmatch type_pattern_fullmatch ?_; (case P => first | exact PatAt.keeps (by assumption) (Fr.keep (by k_asm)) | exact PatAt.keeps (PatAt.keeps (by assumption) (Fr.keep (by assumption))) (Fr.keep (by k_asm))); k_whole)))
local macro_rules | `(tactic| walk_at "call builtin:re.Pattern.fullmatch") => `(tactic| (k_here; k_dflt (refine' fullK_c (n := 12) ?F ?N ?P ?hx ?hn ?h0 ?h1 ?h2 ?h3 ?_; (case F => k_asm); (case N => k_asm); (case P => first | assumption | exact PatAt.keeps (by assumption) (Fr.keep (by assumption))); (case hx => decide +kernel); (case hn => decide); (case h0 => first | kernel_rfl | rfl); (case h1 => rfl); (case h2 => rfl); (case h3 => rfl); k_whole; intro a' h' F' N')))

local macro_rules | `(tactic| k_ne) => `(tactic| (refine neN ?_; (try dsimp only); first | exact Ap.ne (by with_reducible assumption) | exact Ap.ne' (by with_reducible assumption) | fail "no"))
local macro_rules | `(tactic| k_all) => `(tactic| with_reducible assumption)
local macro_rules | `(tactic| walk_at "subscriptTail Name Slice ref ref") => `(tactic| (k_here; k_dflt (refine' sliceUpLI ?F ?N ?s ?li ?y ?x ?_ ?sb ?t; (case F => k_asm); (case N => k_asm); (case li => with_reducible assumption); (case s => ((repeat (with_reducible refine subT ?_)); exact subR)); (case y => exact Int.fmod_nonneg_of_pos _ (by decide)); (case x => omega); (case sb => with_unfolding_all rfl); (case t => (intro _; with_unfolding_all rfl)); k_whole); intro D' h' zs' F' N' l1 hI'; (try k_lt l1)))
local macro_rules | `(tactic| walk_at "setItem ref int") => `(tactic| (k_here; k_dflt (refine' setLst ?F ?N ?a ?b ?l ?U ?_; (case F => k_asm); (case N => k_asm); (case U => k_upd); (case a => assumption); (case b => assumption); (case l => first | assumption | (rw [List.length_set]; assumption)); k_whole); intro h' F' N'))
local macro_rules | `(tactic| walk_at "subscriptTail Name Name ref int") => `(tactic| (k_here; k_dflt (refine' pickR ?k1 ?k2 ?k3 ?k4 ?_ ?k6; (case k1 => exact listN (by k_asm) (by k_mem)); (case k2 => with_reducible assumption); (case k3 => assumption); (case k4 => omega); (case k6 => with_unfolding_all rfl); k_whole)))

local macro_rules | `(tactic| walk_at "binaryOp Add str str") => `(tactic| (k_here; k_dflt (refine' Rows_add ?_ ?z; (case z => exact add_ok (by assumption) (by omega)); intro t' tk')))
local macro_rules | `(tactic| walk_at "ite") => `(tactic| (k_here; (with_reducible refine ite_pos ?e ?_); (case e => with_reducible assumption)))
local macro_rules | `(tactic| walk_at "binaryOp Mod int int") => `(tactic| (k_here; k_dflt (refine' modK ?e ?n ?_; (case e => with_reducible assumption); (case n => decide); k_whole)))
local macro_rules | `(tactic| walk_at "subscriptTail Name Name ref int") => `(tactic| (k_here; k_dflt (first
  | (refine' pickR ?k1 ?k2 ?k3 ?k4 ?_ ?k6; (case k1 => exact listN (by k_asm) (by k_mem)); (case k2 => with_reducible assumption); (case k3 => assumption); (case k4 => omega); (case k6 => with_unfolding_all rfl); k_whole)
  | (refine' dictGet ?N ?p ?d ?l ?_ ?s ?g; (case N => k_asm); (case p => k_mem); (case d => with_reducible assumption); (case l => with_reducible assumption); (case s => with_unfolding_all rfl); (case g => (intro _; with_unfolding_all rfl)); k_whole)
  | fail "no pick")))
local macro_rules | `(tactic| walk_at "binaryOp Add ref ref") => `(tactic| (k_here; k_dflt (refine' addLI1 ?F ?N ?s ?li ?b ?x ?_; (case F => k_asm); (case N => k_asm); (case li => with_reducible assumption); (case s => ((repeat (with_reducible refine subT ?_)); exact subR)); (case b => k_mem); (case x => omega); k_whole); intro D' h' zs' F' N' l1 hI'; (try k_lt l1)))
local macro_rules | `(tactic| walk_at "setItem ref int") => `(tactic| (k_here; k_dflt (first
  | (refine' setLst ?F ?N ?a ?b ?l ?U ?_; (case F => k_asm); (case N => k_asm); (case U => k_upd); (case a => assumption); (case b => assumption); (case l => first | assumption | (rw [List.length_set]; assumption)); k_whole; intro h' F' N')
  | (refine' dictSet ?F ?N ?U ?d ?z ?_; (case F => k_asm); (case N => k_asm); (case U => k_updF); (case d => with_reducible assumption); (case z => omega); k_whole; intro h' o' F' N' hd'; (try dsimp only at N'))
  | fail "no set")))

local macro_rules | `(tactic| k_ne) => `(tactic| (refine neN ?_; (try dsimp only); first | exact Ap.ne (by with_reducible assumption) | exact Ap.ne' (by with_reducible assumption) | exact apMem (by with_reducible assumption) (by k_mem) | exact apMem' (by with_reducible assumption) (by k_mem) | fail "no"))
local macro_rules | `(tactic| walk_at "call ref") => `(tactic| (k_here; k_dflt (first
  | (refine' told_W ?B ?F ?N ?X ?T ?hA ?hf ?hke ?hh ?hd ?hu ?hg ?_; (case hg => exact told_len (by assumption) (by omega)); (case hA => exact rfl); (case hf => exact rfl); (case hke => exact rfl); (case B => k_asm); (case F => k_asm); (case N => k_asm); (case X => k_asm); (case T => k_asm); (case hh => rfl); (case hd => ((try simp only [depth_in1, depth_deeper, depth_caller]); show _ < 450; first | omega | decide)); (case hu => ((try simp only [Around.in1_units, Around.deeper_units]); show _ < 450; first | omega | decide)); k_whole; intro h' tk' t' F' N')
  | (refine' mod_rangeW ?B ?F ?N ?X ?T ?hA ?hf ?hke ?hh ?hd ?hu ?hy ?hq ?hr ?_; (case hy => with_reducible assumption); (case hq => with_reducible assumption); (case hr => with_reducible assumption); (case hA => exact rfl); (case hf => exact rfl); (case hke => exact rfl); (case B => k_asm); (case F => k_asm); (case N => k_asm); (case X => k_asm); (case T => k_asm); (case hh => rfl); (case hd => ((try simp only [depth_in1, depth_deeper, depth_caller]); show _ < 450; first | omega | decide)); (case hu => ((try simp only [Around.in1_units, Around.deeper_units]); show _ < 450; first | omega | decide)); k_whole; intro h' tk' F' N')
  | (refine' rangeW ?B ?F ?N ?X ?T ?hA ?hf ?hke ?hh ?hd ?hu ?hk ?_; (case hk => omega); (case hA => exact rfl); (case hf => exact rfl); (case hke => exact rfl); (case B => k_asm); (case F => k_asm); (case N => k_asm); (case X => k_asm); (case T => k_asm); (case hh => rfl); (case hd => ((try simp only [depth_in1, depth_deeper, depth_caller]); show _ < 450; first | omega | decide)); (case hu => ((try simp only [Around.in1_units, Around.deeper_units]); show _ < 450; first | omega | decide)); k_whole; intro h' tk' x' d' l' D' t1' t2' t3' t4' k1' k2' F' N' a1' a2' a3' a4')
  | fail "no call")))
local macro_rules | `(tactic| walk_at "call builtin:len") => `(tactic| (k_here; k_dflt (refine' lenLIm ?N ?s ?li ?e ?x ?_; (case N => k_asm); (case li => with_reducible assumption); (case s => ((repeat (with_reducible refine subT ?_)); exact subR)); (case e => with_reducible assumption); (case x => omega); k_whole)))
local macro_rules | `(tactic| walk_at "binaryOp Add str str") => `(tactic| (k_here; k_dflt (refine' Rows_add ?_ ?z; (case z => first | with_reducible assumption | exact add_ok (by assumption) (by omega)); intro t' tk')))
local macro_rules | `(tactic| walk_at "compareOp Eq ref ref") => `(tactic| (k_here; k_dflt (first
  | (refine' eqLI ?N ?s ?a ?b ?e ?u ?_; (case N => k_asm); (case a => with_reducible assumption); (case b => with_reducible assumption); (case s => ((repeat (with_reducible refine subT ?_)); exact subR)); (case e => first | rfl | with_reducible assumption); (case u => k_units); k_whole)
  | (refine' eqLIv ?N ?s ?m ?i ?b ?e ?u ?_; (case N => k_asm); (case m => k_mem); (case i => with_reducible assumption); (case b => with_reducible assumption); (case s => ((repeat (with_reducible refine subT ?_)); exact subR)); (case e => with_reducible assumption); (case u => k_units); k_whole)
  | fail "no eq")))
local macro_rules | `(tactic| walk_at "subscriptTail Name Slice ref ref") => `(tactic| (k_here; k_dflt (refine' sliceLI ?F ?N ?s ?li ?x ?_ ?sb ?t; (case F => k_asm); (case N => k_asm); (case li => with_reducible assumption); (case s => ((repeat (with_reducible refine subT ?_)); exact subR)); (case x => omega); (case sb => with_unfolding_all rfl); (case t => (intro _; with_unfolding_all rfl)); k_whole); intro D' h' zs' F' N' l1 hI'; (try k_lt l1)))
local macro_rules | `(tactic| walk_at "binaryOp Add ref ref") => `(tactic| (k_here; k_dflt (refine' addLI2 ?F ?N ?s ?li ?b ?i ?x ?y ?_; (case F => k_asm); (case N => k_asm); (case li => with_reducible assumption); (case s => ((repeat (with_reducible refine subT ?_)); exact subR)); (case b => k_mem); (case i => with_reducible assumption); (case x => omega); (case y => (rw [List.length_take, List.length_drop]; omega)); k_whole); intro D' h' zs' F' N' l1 hI'; (try k_lt l1)))

local macro_rules | `(tactic| walk_at "call ref") => `(tactic| (k_here; k_dflt (refine' spanAny ?B ?X ?T ?F ?N ?hk ?hn ?_; (case B => k_asm); (case X => k_asm); (case T => k_asm); (case F => k_asm); (case N => k_asm); (case hk => omega); (case hn => omega); k_whole); intro v' h' tk' F' N'))

theorem deed3a {w : World} {h₀ : Heap} {s : Shared} {lz : List Str} {mean : ExcName → Option Value} {mg mb : Str → Option Value} {fa : Addr} {cd : Value} {E : Value → Shared → Prop} {Q : Flow → Shared → Prop}
    {L I D Sa Ba Pa d da db pg lt : Nat} {oI o2 oH oD q qa qb : Obj} {sv bv pv : List Value} {b p ba pa bb pb : Value} {nS nb np i v : Nat} {rest : List (Addr × Obj)} {H : Nat → List Int} {tv tc td tx tn tdr tk : Tok} {u : Str → Option Value} {c dr de : Int} {x : Str}
    (B : Below callerA h₀ [] h₀) (X : (hd1.heap_39 w.params).In h₀) (T : Top hd1.view_39 lz mean mg mb h₀)
    (F : Fr h₀ L s.heap fun y => if y = "store" then some (.ref d) else if y = "now" then some (.str (Str.ofString "\"" ++ (x ++ Str.ofString (toString (v : Int))) ++ Str.ofString "\"") tn) else if y = "deed" then some (.int de td) else if y = "client" then some (.int c tc) else if y = "k" then some (.int (i : Int) tk) else
      if y = "good" then some (.bool true) else if y = "parts" then some (.ref Pa) else if y = "bases" then some (.ref Ba) else if y = "stores" then some (.ref Sa) else if y = "page" then some (.ref pg) else
      if y = "version" then some (.int (v : Int) tv) else if y = "let" then some (.ref lt) else if y = "cells" then some (.ref D) else u y)
    (N : News h₀ L s.heap ((I, oI) :: (L + 1 + 1, o2) :: (L + 1, oH) :: (D, oD) :: (Sa, listOf sv.toArray nS) :: (Ba, listOf bv.toArray nb) :: (Pa, listOf pv.toArray np) :: (d, q) :: (da, qa) :: (db, qb) :: rest))
    (hoH : oH.data = .cell (some (.str x tx))) (ho2 : o2.data = .cell (some (.int dr tdr))) (hx : HeadOk x) (hc0 : 0 ≤ c) (hc3 : c < 3) (hi : i < 16) (hv : v ≤ i)
    (hH : ∀ j, j ≤ v → (H j).length = 3 + j) (hpg : LI rest pg (H v)) (hlt : LI rest lt (H v))
    (gq : ClientOk PySem.Challenge.rw_ez0420_01.row.prog w H v rest q b p) (ga : ClientOk PySem.Challenge.rw_ez0420_01.row.prog w H v rest qa ba pa) (gb : ClientOk PySem.Challenge.rw_ez0420_01.row.prog w H v rest qb bb pb)
    (sl : sv.length = 3) (bl : bv.length = 3) (pl : pv.length = 3) (hs : sv[c.toNat]? = some (.ref d)) (hb : bv[c.toNat]? = some b) (hp : pv[c.toNat]? = some p)
    (hA : Apart1 I (L + 1) (L + 1 + 1) D Sa Ba Pa d da db) (hd1' : d ≠ 1) (hrest : ∀ p ∈ rest, p.1 ≠ I ∧ p.1 ≠ L + 1 + 1 ∧ p.1 ≠ Ba ∧ p.1 ≠ Pa ∧ p.1 ≠ d ∧ p.1 ≠ da ∧ p.1 ≠ db)
    (fin : FinT PySem.Challenge.rw_ez0420_01.row.prog w h₀ L I D Sa Ba Pa d da db oI oH oD qa qb sv bv pv ba pa bb pb nS i c s Q) {a f j n k : Nat} {tj : Tok} (hpa : p = .ref a) (hpm : (a, listOf #[.int (j : Int) tj, .ref f] 0) ∈ rest) (hf : LI rest f ((H j).take n)) (hj : j ≤ v) (hn : n ≤ 4) (hk : ((H j).take n).length = k) (ej : j ≠ v) :
    wpAny (model PySem.Challenge.rw_ez0420_01.row.prog w) (callerA.deeper (envOfC (Str.ofString "law") lawScope L fa cd)) (execs body3 (envOfC (Str.ofString "law") lawScope L fa cd)) Q E s := by
  show wpAny _ (callerA.deeper (envOfC _ (Scope.mk _ _ _ _ _) _ _ _)) (execs (_ :: _) (envOfC _ (Scope.mk _ _ _ _ _) _ _ _)) _ _ _

  revert X; k_fill; intro X
  obtain ⟨⟨aI1, aI2, aI3, aI4, aI5, aI6, aI7, aI8, aI9⟩, ⟨ac1, ac2, ac3, ac4, ac5, ac6, ac7, ac8⟩, ⟨aB1, aB2, aB3, aB4, aB5, aB6, aB7⟩, ⟨aP1, aP2, aP3, aP4, aP5, aP6⟩, ⟨ad1, ad2, ad3, ad4, ad5⟩⟩ := hA.hide
  clear hA
  have z0 := ltN (Heap.lt_size (N _ (.head _)).1)
  have z1 := ltN (Heap.lt_size (N _ (.tail _ (.head _))).1)
  have z2 := ltN (Heap.lt_size (N _ (.tail _ (.tail _ (.head _)))).1)
  have z3 := ltN (Heap.lt_size (N _ (.tail _ (.tail _ (.tail _ (.head _))))).1)
  have z4 := ltN (Heap.lt_size (N _ (.tail _ (.tail _ (.tail _ (.tail _ (.head _)))))).1)
  have z5 := ltN (Heap.lt_size (N _ (.tail _ (.tail _ (.tail _ (.tail _ (.tail _ (.head _))))))).1)
  have z6 := ltN (Heap.lt_size (N _ (.tail _ (.tail _ (.tail _ (.tail _ (.tail _ (.tail _ (.head _)))))))).1)
  have z7 := ltN (Heap.lt_size (N _ (.tail _ (.tail _ (.tail _ (.tail _ (.tail _ (.tail _ (.tail _ (.head _))))))))).1)
  have z8 := ltN (Heap.lt_size (N _ (.tail _ (.tail _ (.tail _ (.tail _ (.tail _ (.tail _ (.tail _ (.tail _ (.head _)))))))))).1)
  have z9 := ltN (Heap.lt_size (N _ (.tail _ (.tail _ (.tail _ (.tail _ (.tail _ (.tail _ (.tail _ (.tail _ (.tail _ (.head _))))))))))).1)
  dsimp only at z0 z1 z2 z3 z4 z5 z6 z7 z8 z9
  have rI := fun p hp => (hrest p hp).1
  have r2 := fun p hp => (hrest p hp).2.1
  have rB := fun p hp => (hrest p hp).2.2.1
  have rP := fun p hp => (hrest p hp).2.2.2.1
  have rd := fun p hp => (hrest p hp).2.2.2.2.1
  have hlv := hH v (Nat.le_refl _)

  subst hpa
  obtain ⟨⟨kvs, hD, hB, hl⟩, _⟩ := gq
  have hDd := hD.1
  have hq : QTag (Str.ofString "\"" ++ (x ++ Str.ofString (toString (v : Int))) ++ Str.ofString "\"") _ := tag_q hx (by omega)
  have hq2 : QTag (toldS 0 (x ++ Str.ofString (toString (j : Int)))) _ := told0_q hx (by omega)
  have hk4 : k ≤ 4 := by rw [← hk, List.length_take]; omega
  obtain ⟨hs1, hs2⟩ := bytes_fit hk4
  have N2 := News.more N (subT (subT (subT (subT (subT (subT (subT (subT (subT (subT subR))))))))) _ hpm)
  clear N
  have bI : Ap a I := Ap.of (hrest _ hpm).1
  have b2 : Ap a (L + 1 + 1) := Ap.of (hrest _ hpm).2.1
  have bB : Ap a Ba := Ap.of (hrest _ hpm).2.2.1
  have bP : Ap a Pa := Ap.of (hrest _ hpm).2.2.2.1
  have bd : Ap a d := Ap.of (hrest _ hpm).2.2.2.2.1
  have za := ltN (Heap.lt_size (N2 _ (.head _)).1)
  dsimp only at za

  have hr := whole_old hx (v := v) (j := j) (by omega) (by omega) ej
  have hg : (true == ((j : Int) != (v : Int))) = true := by simp; omega
  k_steps

  rename News _ _ _ _ => lN
  rename Fr _ _ _ _ => lF
  rename_i o' hd' _ l' _ _ _ l1 _
  have hlen := hD.len
  have hsl := stored_len kvs (v : Int) (.ref pg)
  refine' fin (.int (v : Int) ?tz) (.ref l') o' ((l', listOf #[] 0) :: rest) _ _ _ o2 _ H v nb np pg lt ?tv _ ?a1 hH ho2 rfl rfl rfl rfl rfl rfl rfl rfl lF lN ?m1 ?m2 ?m3 ?m4 ?m5 ?m6 ?m7 ?m8 ?m9 ?m10 ?m11 ?l1 ?l2 ?g1 ?g2 ?g3 ?ap
  (case m1 => k_mem); (case m2 => k_mem); (case m3 => k_mem); (case m4 => k_mem); (case m5 => k_mem); (case m6 => k_mem); (case m7 => k_mem); (case m8 => k_mem); (case m9 => k_mem); (case m10 => k_mem)
  (case m11 => refine List.forall_mem_cons.mpr ⟨by k_mem, ?_⟩; ((repeat (with_reducible refine subT ?_)); exact subR))
  (case a1 => omega)
  (case l1 => exact hpg.mono (subT subR)); (case l2 => exact hlt.mono (subT subR))
  (case g2 => exact ga.more (subT subR)); (case g3 => exact gb.more (subT subR))
  (case g1 => exact ⟨⟨_, DictOk.store (hD.mono (subT subR) (Nat.le_refl _) fun _ _ => rfl) hd' (hpg.mono (subT subR)), ⟨_, _, rfl, .inr ⟨_, stored_has _ _ _, rfl⟩⟩, Nat.le_trans hsl (by omega)⟩, ⟨l', rfl, .inl (.head _)⟩⟩)
  (case ap => refine List.forall_mem_cons.mpr ⟨?_, hrest⟩ <;> (dsimp only; refine ⟨?_, ?_, ?_, ?_, ?_, ?_, ?_⟩ <;> k_ne))

end Mine
end
section
open PySem PySem.W PyProof.Rows
namespace Mine
local macro_rules | `(tactic| walk_at "mine pad 0") => `(tactic| fail "pad")
local macro_rules | `(tactic| walk_at "mine pad 1") => `(tactic| fail "pad")
local macro_rules | `(tactic| walk_at "mine pad 2") => `(tactic| fail "pad")
local macro_rules | `(tactic| walk_at "mine pad 3") => `(tactic| fail "pad")
local macro_rules | `(tactic| walk_at "mine pad 4") => `(tactic| fail "pad")
local macro_rules | `(tactic| walk_at "mine pad 5") => `(tactic| fail "pad")
local macro_rules | `(tactic| walk_at "mine pad 6") => `(tactic| fail "pad")
local macro_rules | `(tactic| walk_at "mine pad 7") => `(tactic| fail "pad")
local macro_rules | `(tactic| walk_at "mine pad 8") => `(tactic| fail "pad")
local macro_rules | `(tactic| walk_at "mine pad 9") => `(tactic| fail "pad")
local macro_rules | `(tactic| walk_at "mine pad 10") => `(tactic| fail "pad")
local macro_rules | `(tactic| walk_at "mine pad 11") => `(tactic| fail "pad")
local macro_rules | `(tactic| walk_at "mine pad 12") => `(tactic| fail "pad")
local macro_rules | `(tactic| walk_at "mine pad 13") => `(tactic| fail "pad")
local macro_rules | `(tactic| walk_at "mine pad 14") => `(tactic| fail "pad")
local macro_rules | `(tactic| walk_at "mine pad 15") => `(tactic| fail "pad")
local macro_rules | `(tactic| walk_at "mine pad 16") => `(tactic| fail "pad")
local macro_rules | `(tactic| walk_at "mine pad 17") => `(tactic| fail "pad")
local macro_rules | `(tactic| walk_at "mine pad 18") => `(tactic| fail "pad")
local macro_rules | `(tactic| walk_at "mine pad 19") => `(tactic| fail "pad")
local macro_rules | `(tactic| walk_at "mine pad 20") => `(tactic| fail "pad")
local macro_rules | `(tactic| walk_at "mine pad 21") => `(tactic| fail "pad")
local macro_rules | `(tactic| walk_at "mine pad 22") => `(tactic| fail "pad")
local macro_rules | `(tactic| walk_at "mine pad 23") => `(tactic| fail "pad")
local macro_rules | `(tactic| walk_at "mine pad 24") => `(tactic| fail "pad")
local macro_rules | `(tactic| walk_at "mine pad 25") => `(tactic| fail "pad")
local macro_rules | `(tactic| walk_at "mine pad 26") => `(tactic| fail "pad")
local macro_rules | `(tactic| walk_at "mine pad 27") => `(tactic| fail "pad")
local macro_rules | `(tactic| walk_at "mine pad 28") => `(tactic| fail "pad")
local macro_rules | `(tactic| walk_at "mine pad 29") => `(tactic| fail "pad")
local macro_rules | `(tactic| walk_at "mine pad 30") => `(tactic| fail "pad")
local macro_rules | `(tactic| walk_at "mine pad 31") => `(tactic| fail "pad")
local macro_rules | `(tactic| walk_at "mine pad 32") => `(tactic| fail "pad")
local macro_rules | `(tactic| walk_at "mine pad 33") => `(tactic| fail "pad")
local macro_rules | `(tactic| walk_at "exec While") => `(tactic| (k_here; refine Mine.Stop.go ?_))
local macro_rules | `(tactic| k_room) => `(tactic| ((try simp only [depth_under_make, depth_under_kw, depth_in1, depth_deeper, depth_caller]); show _ < 1000; omega))
local macro_rules | `(tactic| k_units) => `(tactic| (show _ < 9900; (try simp only [Around.in1_units, Around.deeper_units, Around.mark_units]); omega))
local macro_rules | `(tactic| walk_at "call type:frozenset nil nil") => `(tactic| (k_here; k_dflt (refine' fset0_K' ?F ?N ?_; (case F => k_asm); (case N => k_asm); k_whole); intro a' h' o' F' N' S' l1; (try k_lt l1); (try k_sweep)))
local macro_rules | `(tactic| walk_at "call type:frozenset cons nil") => `(tactic| (k_here; k_dflt (first
  | (refine' fsetL_K ?F ?N ?m ?x ?hh ?hb ?_; (case F => k_asm); (case N => k_asm); (case m => k_mem); (case x => assumption); (case hh => rfl); (case hb => omega); k_whole)
  | (refine' fsetT_K ?F ?N ?t ?hh ?_; (case F => k_asm); (case N => k_asm); (case t => exact ⟨_, News.get (by k_asm) (by k_mem), rfl, _, rfl⟩); (case hh => rfl); k_whole)); intro a' h' tk' o' F' N' S' l1; (try k_lt l1); (try k_sweep)))
local macro_rules | `(tactic| walk_at "truthy ref") => `(tactic| (k_here; k_dflt (refine' fset_truthy_K ?N ?m ?f ?hn ?_; (case N => k_asm); (case m => k_mem); (case f => assumption); (case hn => omega); k_whole); intro b' tk' hb'))
local macro_rules | `(tactic| walk_at "compareOp In str ref") => `(tactic| (k_here; k_dflt (refine' fset_in_K ?N ?m ?f ?hn ?_; (case N => k_asm); (case m => k_mem); (case f => assumption); (case hn => omega); k_whole); intro tk'))
local macro_rules | `(tactic| walk_at "getMethod ref") => `(tactic| (k_here; k_dflt (first
  | (refine' meth_pattern ?P slot_pattern_match type_pattern_match ?_; (case P => exact PatAt.keeps (by assumption) (Fr.keep (by k_asm))); k_whole)
  | (refine' meth_match ?f slot_match_groups type_match_groups ?_; (case f => exact foundN (by k_asm) (by k_mem) (by k_mem)); k_whole)
  | (refine' meth_match ?f slot_match_end type_match_end ?_; (case f => exact foundN (by k_asm) (by k_mem) (by k_mem)); k_whole))))
local macro_rules | `(tactic| walk_at "call builtin:re.Pattern.match") => `(tactic| (k_here; k_dflt (first
  | (refine' matchK_yes ?F ?N ?P ?g ?hp ?hx ?hm ?hk ?ok ?len ?_; (case F => k_asm); (case N => k_asm); (case hm => assumption); (case P => assumption); (case g => rfl); (case hp => omega); (case hx => omega); (case hk => decide); (case ok => assumption); (case len => exact Nat.le_of_ble_eq_true rfl); k_whole; intro a' T' h' F' N' l1 l2; (try k_lt l1); (try k_lt2 l2); (try k_sweep))
  | (refine' matchK_no ?F ?P ?hp ?hx ?hm ?hk ?_; (case F => k_asm); (case hm => assumption); (case P => assumption); (case hp => omega); (case hx => omega); (case hk => decide); k_whole))))
local macro_rules | `(tactic| walk_at "call builtin:re.Match.groups") => `(tactic| (k_here; k_dflt (refine' groupsK3 ?F ?N ?f ?hx ?_; (case F => k_asm); (case N => k_asm); (case f => exact foundN (by k_asm) (by k_mem) (by k_mem)); (case hx => omega); k_whole); intro T' t1' t2' t3' h' tk' F' N' l1; (try dsimp only [partOf] at N'); (try k_lt l1); (try k_sweep)))
local macro_rules | `(tactic| walk_at "call builtin:re.Match.end") => `(tactic| (k_here; k_dflt (refine' endK ?f ?_; (case f => exact foundN (by k_asm) (by k_mem) (by k_mem)); k_whole)))
local macro_rules | `(tactic| walk_at "truthy str") => `(tactic| (k_here; k_dflt (refine' truthy_text ?a ?b ?_; (case a => omega); (case b => omega); k_whole); intro tk'))
local macro_rules | `(tactic| walk_at "truthy ref") => `(tactic| (k_here; k_dflt (refine' truthy_listK ?N ?m ?hb ?_; (case N => k_asm); (case m => k_mem); (case hb => omega); k_whole); intro tk'))
local macro_rules | `(tactic| walk_at "call ref") => `(tactic| (k_here; k_dflt (first
  | (refine' etags_someK ?B ?F ?N ?X ?T ?P ?hA ?hf ?hke ?hh ?hd ?hu ?ht ?_; (case ht => assumption); (case hA => exact rfl); (case hf => exact rfl); (case hke => exact rfl); (case B => k_asm); (case F => k_asm); (case N => k_asm); (case X => k_asm); (case T => k_asm); (case P => first | assumption | exact PatAt.keeps (by assumption) (Fr.keep (by k_asm))); (case hh => rfl); (case hd => ((try simp only [depth_in1, depth_deeper, depth_caller]); show _ < 500; omega)); (case hu => ((try simp only [Around.in1_units, Around.deeper_units]); show _ < 500; omega)); k_whole; intro h' tk' e' d' a' b' oa' ob' t1' t2' t3' n' nS' nW' F' N' f1' f2' f3' f4'; (try k_sweep))
  | (refine' etags_noneK ?B ?F ?N ?X ?T ?hA ?hf ?hke ?hh ?hd ?hu ?_; (case hA => exact rfl); (case hf => exact rfl); (case hke => exact rfl); (case B => k_asm); (case F => k_asm); (case N => k_asm); (case X => k_asm); (case T => k_asm); (case hh => rfl); (case hd => ((try simp only [depth_in1, depth_deeper, depth_caller]); show _ < 500; omega)); (case hu => ((try simp only [Around.in1_units, Around.deeper_units]); show _ < 500; omega)); k_whole; intro h' tk' e' d' a' b' oa' ob' t1' t2' t3' n' nS' nW' F' N' f1' f2' f3' f4'; (try k_sweep)))))
local macro_rules | `(tactic| walk_at "call builtin:str.startswith") => `(tactic| (k_here; k_dflt (refine' startswith_tup ?h ?_; (case h => exact ⟨_, News.get (by k_asm) (by k_mem), rfl, _, rfl⟩); k_whole)))
local macro_rules | `(tactic| walk_at "call builtin:str.endswith") => `(tactic| (k_here; k_dflt (refine' ends_true ?h ?_; (case h => assumption); k_whole)))
local macro_rules | `(tactic| walk_at "call type:bool") => `(tactic| (k_here; k_dflt (refine' bool_fsetL ?N ?m ?f ?hn ?_; (case N => k_asm); (case m => k_mem); (case f => with_reducible assumption); (case hn => omega); k_whole); intro tk'))
local macro_rules | `(tactic| walk_at "truthy ref") => `(tactic| (k_here; k_dflt (refine' truthy_fsetL ?N ?m ?f ?hn ?_; (case N => k_asm); (case m => k_mem); (case f => with_reducible assumption); (case hn => omega); k_whole); intro tk'))
local macro_rules | `(tactic| walk_at "call type:bool") => `(tactic| (k_here; k_dflt (refine' bool_fset0 ?N ?m ?f ?hn ?_; (case N => k_asm); (case m => k_mem); (case f => with_reducible assumption); (case hn => omega); k_whole); intro tk'))
local macro_rules | `(tactic| walk_at "truthy ref") => `(tactic| (k_here; k_dflt (refine' truthy_fset0 ?N ?m ?f ?hn ?_; (case N => k_asm); (case m => k_mem); (case f => with_reducible assumption); (case hn => omega); k_whole); intro tk'))
local macro_rules | `(tactic| walk_at "getMethod ref") => `(tactic| (k_here; k_dflt (refine' meth_pattern ?P slot_pattern_fullmatch type_pattern_fullmatch ?_; (case P => first | exact PatAt.keeps (by assumption) (Fr.keep (by k_asm)) | exact PatAt.keeps (PatAt.keeps (by assumption) (Fr.keep (by assumption))) (Fr.keep (by k_asm))); k_whole)))
local macro_rules | `(tactic| walk_at "call builtin:re.Pattern.fullmatch") => `(tactic| (k_here; k_dflt (refine' fullK_c (n := 12) ?F ?N ?P ?hx ?hn ?h0 ?h1 ?h2 ?h3 ?_; (case F => k_asm); (case N => k_asm); (case P => first | assumption | exact PatAt.keeps (by assumption) (Fr.keep (by assumption))); (case hx => decide +kernel); (case hn => decide); (case h0 => first | kernel_rfl | rfl); (case h1 => rfl); (case h2 => rfl); (case h3 => rfl); k_whole; intro a' h' F' N')))

local macro_rules | `(tactic| k_ne) => `(tactic| (refine neN ?_; (try dsimp only); first | exact Ap.ne (by with_reducible assumption) | exact Ap.ne' (by with_reducible assumption) | fail "no"))
local macro_rules | `(tactic| k_all) => `(tactic| with_reducible assumption)
local macro_rules | `(tactic| walk_at "subscriptTail Name Slice ref ref") => `(tactic| (k_here; k_dflt (refine' sliceUpLI ?F ?N ?s ?li ?y ?x ?_ ?sb ?t; (case F => k_asm); (case N => k_asm); (case li => with_reducible assumption); (case s => ((repeat (with_reducible refine subT ?_)); exact subR)); (case y => exact Int.fmod_nonneg_of_pos _ (by decide)); (case x => omega); (case sb => with_unfolding_all rfl); (case t => (intro _; with_unfolding_all rfl)); k_whole); intro D' h' zs' F' N' l1 hI'; (try k_lt l1)))
local macro_rules | `(tactic| walk_at "setItem ref int") => `(tactic| (k_here; k_dflt (refine' setLst ?F ?N ?a ?b ?l ?U ?_; (case F => k_asm); (case N => k_asm); (case U => k_upd); (case a => assumption); (case b => assumption); (case l => first | assumption | (rw [List.length_set]; assumption)); k_whole); intro h' F' N'))
local macro_rules | `(tactic| walk_at "subscriptTail Name Name ref int") => `(tactic| (k_here; k_dflt (refine' pickR ?k1 ?k2 ?k3 ?k4 ?_ ?k6; (case k1 => exact listN (by k_asm) (by k_mem)); (case k2 => with_reducible assumption); (case k3 => assumption); (case k4 => omega); (case k6 => with_unfolding_all rfl); k_whole)))

local macro_rules | `(tactic| walk_at "binaryOp Add str str") => `(tactic| (k_here; k_dflt (refine' Rows_add ?_ ?z; (case z => exact add_ok (by assumption) (by omega)); intro t' tk')))
local macro_rules | `(tactic| walk_at "ite") => `(tactic| (k_here; (with_reducible refine ite_pos ?e ?_); (case e => with_reducible assumption)))
local macro_rules | `(tactic| walk_at "binaryOp Mod int int") => `(tactic| (k_here; k_dflt (refine' modK ?e ?n ?_; (case e => with_reducible assumption); (case n => decide); k_whole)))
local macro_rules | `(tactic| walk_at "subscriptTail Name Name ref int") => `(tactic| (k_here; k_dflt (first
  | (refine' pickR ?k1 ?k2 ?k3 ?k4 ?_ ?k6; (case k1 => exact listN (by k_asm) (by k_mem)); (case k2 => with_reducible assumption); (case k3 => assumption); (case k4 => omega); (case k6 => with_unfolding_all rfl); k_whole)
  | (refine' dictGet ?N ?p ?d ?l ?_ ?s ?g; (case N => k_asm); (case p => k_mem); (case d => with_reducible assumption); (case l => with_reducible assumption); (case s => with_unfolding_all rfl); (case g => (intro _; with_unfolding_all rfl)); k_whole)
  | fail "no pick")))
local macro_rules | `(tactic| walk_at "binaryOp Add ref ref") => `(tactic| (k_here; k_dflt (refine' addLI1 ?F ?N ?s ?li ?b ?x ?_; (case F => k_asm); (case N => k_asm); (case li => with_reducible assumption); (case s => ((repeat (with_reducible refine subT ?_)); exact subR)); (case b => k_mem); (case x => omega); k_whole); intro D' h' zs' F' N' l1 hI'; (try k_lt l1)))
local macro_rules | `(tactic| walk_at "setItem ref int") => `(tactic| (k_here; k_dflt (first
  | (refine' setLst ?F ?N ?a ?b ?l ?U ?_; (case F => k_asm); (case N => k_asm); (case U => k_upd); (case a => assumption); (case b => assumption); (case l => first | assumption | (rw [List.length_set]; assumption)); k_whole; intro h' F' N')
  | (refine' dictSet ?F ?N ?U ?d ?z ?_; (case F => k_asm); (case N => k_asm); (case U => k_updF); (case d => with_reducible assumption); (case z => omega); k_whole; intro h' o' F' N' hd'; (try dsimp only at N'))
  | fail "no set")))

local macro_rules | `(tactic| k_ne) => `(tactic| (refine neN ?_; (try dsimp only); first | exact Ap.ne (by with_reducible assumption) | exact Ap.ne' (by with_reducible assumption) | exact apMem (by with_reducible assumption) (by k_mem) | exact apMem' (by with_reducible assumption) (by k_mem) | fail "no"))
local macro_rules | `(tactic| walk_at "call ref") => `(tactic| (k_here; k_dflt (first
  | (refine' told_W ?B ?F ?N ?X ?T ?hA ?hf ?hke ?hh ?hd ?hu ?hg ?_; (case hg => exact told_len (by assumption) (by omega)); (case hA => exact rfl); (case hf => exact rfl); (case hke => exact rfl); (case B => k_asm); (case F => k_asm); (case N => k_asm); (case X => k_asm); (case T => k_asm); (case hh => rfl); (case hd => ((try simp only [depth_in1, depth_deeper, depth_caller]); show _ < 450; first | omega | decide)); (case hu => ((try simp only [Around.in1_units, Around.deeper_units]); show _ < 450; first | omega | decide)); k_whole; intro h' tk' t' F' N')
  | (refine' mod_rangeW ?B ?F ?N ?X ?T ?hA ?hf ?hke ?hh ?hd ?hu ?hy ?hq ?hr ?_; (case hy => with_reducible assumption); (case hq => with_reducible assumption); (case hr => with_reducible assumption); (case hA => exact rfl); (case hf => exact rfl); (case hke => exact rfl); (case B => k_asm); (case F => k_asm); (case N => k_asm); (case X => k_asm); (case T => k_asm); (case hh => rfl); (case hd => ((try simp only [depth_in1, depth_deeper, depth_caller]); show _ < 450; first | omega | decide)); (case hu => ((try simp only [Around.in1_units, Around.deeper_units]); show _ < 450; first | omega | decide)); k_whole; intro h' tk' F' N')
  | (refine' rangeW ?B ?F ?N ?X ?T ?hA ?hf ?hke ?hh ?hd ?hu ?hk ?_; (case hk => omega); (case hA => exact rfl); (case hf => exact rfl); (case hke => exact rfl); (case B => k_asm); (case F => k_asm); (case N => k_asm); (case X => k_asm); (case T => k_asm); (case hh => rfl); (case hd => ((try simp only [depth_in1, depth_deeper, depth_caller]); show _ < 450; first | omega | decide)); (case hu => ((try simp only [Around.in1_units, Around.deeper_units]); show _ < 450; first | omega | decide)); k_whole; intro h' tk' x' d' l' D' t1' t2' t3' t4' k1' k2' F' N' a1' a2' a3' a4')
  | fail "no call")))
local macro_rules | `(tactic| walk_at "call builtin:len") => `(tactic| (k_here; k_dflt (refine' lenLIm ?N ?s ?li ?e ?x ?_; (case N => k_asm); (case li => with_reducible assumption); (case s => ((repeat (with_reducible refine subT ?_)); exact subR)); (case e => with_reducible assumption); (case x => omega); k_whole)))
local macro_rules | `(tactic| walk_at "binaryOp Add str str") => `(tactic| (k_here; k_dflt (refine' Rows_add ?_ ?z; (case z => first | with_reducible assumption | exact add_ok (by assumption) (by omega)); intro t' tk')))
local macro_rules | `(tactic| walk_at "compareOp Eq ref ref") => `(tactic| (k_here; k_dflt (first
  | (refine' eqLI ?N ?s ?a ?b ?e ?u ?_; (case N => k_asm); (case a => with_reducible assumption); (case b => with_reducible assumption); (case s => ((repeat (with_reducible refine subT ?_)); exact subR)); (case e => first | rfl | with_reducible assumption); (case u => k_units); k_whole)
  | (refine' eqLIv ?N ?s ?m ?i ?b ?e ?u ?_; (case N => k_asm); (case m => k_mem); (case i => with_reducible assumption); (case b => with_reducible assumption); (case s => ((repeat (with_reducible refine subT ?_)); exact subR)); (case e => with_reducible assumption); (case u => k_units); k_whole)
  | fail "no eq")))
local macro_rules | `(tactic| walk_at "subscriptTail Name Slice ref ref") => `(tactic| (k_here; k_dflt (refine' sliceLI ?F ?N ?s ?li ?x ?_ ?sb ?t; (case F => k_asm); (case N => k_asm); (case li => with_reducible assumption); (case s => ((repeat (with_reducible refine subT ?_)); exact subR)); (case x => omega); (case sb => with_unfolding_all rfl); (case t => (intro _; with_unfolding_all rfl)); k_whole); intro D' h' zs' F' N' l1 hI'; (try k_lt l1)))
local macro_rules | `(tactic| walk_at "binaryOp Add ref ref") => `(tactic| (k_here; k_dflt (refine' addLI2 ?F ?N ?s ?li ?b ?i ?x ?y ?_; (case F => k_asm); (case N => k_asm); (case li => with_reducible assumption); (case s => ((repeat (with_reducible refine subT ?_)); exact subR)); (case b => k_mem); (case i => with_reducible assumption); (case x => omega); (case y => (rw [List.length_take, List.length_drop]; omega)); k_whole); intro D' h' zs' F' N' l1 hI'; (try k_lt l1)))

local macro_rules | `(tactic| walk_at "call ref") => `(tactic| (k_here; k_dflt (refine' spanW ?B ?X ?T ?F ?N ?hk ?hn ?h1 ?h2; (case B => k_asm); (case X => k_asm); (case T => k_asm); (case F => k_asm); (case N => k_asm); (case hk => omega); (case hn => omega); (case h2 => (intro hlt'; exfalso; omega)); (case' h1 => (intro hlt')); k_whole); intro h' tk' F' N'))

theorem deed3b {w : World} {h₀ : Heap} {s : Shared} {lz : List Str} {mean : ExcName → Option Value} {mg mb : Str → Option Value} {fa : Addr} {cd : Value} {E : Value → Shared → Prop} {Q : Flow → Shared → Prop}
    {L I D Sa Ba Pa d da db pg lt : Nat} {oI o2 oH oD q qa qb : Obj} {sv bv pv : List Value} {b p ba pa bb pb : Value} {nS nb np i v : Nat} {rest : List (Addr × Obj)} {H : Nat → List Int} {tv tc td tx tn tdr tk : Tok} {u : Str → Option Value} {c dr de : Int} {x : Str}
    (B : Below callerA h₀ [] h₀) (X : (hd1.heap_39 w.params).In h₀) (T : Top hd1.view_39 lz mean mg mb h₀)
    (F : Fr h₀ L s.heap fun y => if y = "store" then some (.ref d) else if y = "now" then some (.str (Str.ofString "\"" ++ (x ++ Str.ofString (toString (v : Int))) ++ Str.ofString "\"") tn) else if y = "deed" then some (.int de td) else if y = "client" then some (.int c tc) else if y = "k" then some (.int (i : Int) tk) else
      if y = "good" then some (.bool true) else if y = "parts" then some (.ref Pa) else if y = "bases" then some (.ref Ba) else if y = "stores" then some (.ref Sa) else if y = "page" then some (.ref pg) else
      if y = "version" then some (.int (v : Int) tv) else if y = "let" then some (.ref lt) else if y = "cells" then some (.ref D) else u y)
    (N : News h₀ L s.heap ((I, oI) :: (L + 1 + 1, o2) :: (L + 1, oH) :: (D, oD) :: (Sa, listOf sv.toArray nS) :: (Ba, listOf bv.toArray nb) :: (Pa, listOf pv.toArray np) :: (d, q) :: (da, qa) :: (db, qb) :: rest))
    (hoH : oH.data = .cell (some (.str x tx))) (ho2 : o2.data = .cell (some (.int dr tdr))) (hx : HeadOk x) (hc0 : 0 ≤ c) (hc3 : c < 3) (hi : i < 16) (hv : v ≤ i)
    (hH : ∀ j, j ≤ v → (H j).length = 3 + j) (hpg : LI rest pg (H v)) (hlt : LI rest lt (H v))
    (gq : ClientOk PySem.Challenge.rw_ez0420_01.row.prog w H v rest q b p) (ga : ClientOk PySem.Challenge.rw_ez0420_01.row.prog w H v rest qa ba pa) (gb : ClientOk PySem.Challenge.rw_ez0420_01.row.prog w H v rest qb bb pb)
    (sl : sv.length = 3) (bl : bv.length = 3) (pl : pv.length = 3) (hs : sv[c.toNat]? = some (.ref d)) (hb : bv[c.toNat]? = some b) (hp : pv[c.toNat]? = some p)
    (hA : Apart1 I (L + 1) (L + 1 + 1) D Sa Ba Pa d da db) (hd1' : d ≠ 1) (hrest : ∀ p ∈ rest, p.1 ≠ I ∧ p.1 ≠ L + 1 + 1 ∧ p.1 ≠ Ba ∧ p.1 ≠ Pa ∧ p.1 ≠ d ∧ p.1 ≠ da ∧ p.1 ≠ db)
    (fin : FinT PySem.Challenge.rw_ez0420_01.row.prog w h₀ L I D Sa Ba Pa d da db oI oH oD qa qb sv bv pv ba pa bb pb nS i c s Q) {a f n k : Nat} {tj : Tok} (hpa : p = .ref a) (hpm : (a, listOf #[.int (v : Int) tj, .ref f] 0) ∈ rest) (hf : LI rest f ((H v).take n)) (hn : n ≤ 4) (hk : ((H v).take n).length = k) (hle : 3 + v ≤ k) :
    wpAny (model PySem.Challenge.rw_ez0420_01.row.prog w) (callerA.deeper (envOfC (Str.ofString "law") lawScope L fa cd)) (execs body3 (envOfC (Str.ofString "law") lawScope L fa cd)) Q E s := by
  show wpAny _ (callerA.deeper (envOfC _ (Scope.mk _ _ _ _ _) _ _ _)) (execs (_ :: _) (envOfC _ (Scope.mk _ _ _ _ _) _ _ _)) _ _ _

  revert X; k_fill; intro X
  obtain ⟨⟨aI1, aI2, aI3, aI4, aI5, aI6, aI7, aI8, aI9⟩, ⟨ac1, ac2, ac3, ac4, ac5, ac6, ac7, ac8⟩, ⟨aB1, aB2, aB3, aB4, aB5, aB6, aB7⟩, ⟨aP1, aP2, aP3, aP4, aP5, aP6⟩, ⟨ad1, ad2, ad3, ad4, ad5⟩⟩ := hA.hide
  clear hA
  have z0 := ltN (Heap.lt_size (N _ (.head _)).1)
  have z1 := ltN (Heap.lt_size (N _ (.tail _ (.head _))).1)
  have z2 := ltN (Heap.lt_size (N _ (.tail _ (.tail _ (.head _)))).1)
  have z3 := ltN (Heap.lt_size (N _ (.tail _ (.tail _ (.tail _ (.head _))))).1)
  have z4 := ltN (Heap.lt_size (N _ (.tail _ (.tail _ (.tail _ (.tail _ (.head _)))))).1)
  have z5 := ltN (Heap.lt_size (N _ (.tail _ (.tail _ (.tail _ (.tail _ (.tail _ (.head _))))))).1)
  have z6 := ltN (Heap.lt_size (N _ (.tail _ (.tail _ (.tail _ (.tail _ (.tail _ (.tail _ (.head _)))))))).1)
  have z7 := ltN (Heap.lt_size (N _ (.tail _ (.tail _ (.tail _ (.tail _ (.tail _ (.tail _ (.tail _ (.head _))))))))).1)
  have z8 := ltN (Heap.lt_size (N _ (.tail _ (.tail _ (.tail _ (.tail _ (.tail _ (.tail _ (.tail _ (.tail _ (.head _)))))))))).1)
  have z9 := ltN (Heap.lt_size (N _ (.tail _ (.tail _ (.tail _ (.tail _ (.tail _ (.tail _ (.tail _ (.tail _ (.tail _ (.head _))))))))))).1)
  dsimp only at z0 z1 z2 z3 z4 z5 z6 z7 z8 z9
  have rI := fun p hp => (hrest p hp).1
  have r2 := fun p hp => (hrest p hp).2.1
  have rB := fun p hp => (hrest p hp).2.2.1
  have rP := fun p hp => (hrest p hp).2.2.2.1
  have rd := fun p hp => (hrest p hp).2.2.2.2.1
  have hlv := hH v (Nat.le_refl _)

  subst hpa
  obtain ⟨⟨kvs, hD, hB, hl⟩, _⟩ := gq
  have hDd := hD.1
  have hq : QTag (Str.ofString "\"" ++ (x ++ Str.ofString (toString (v : Int))) ++ Str.ofString "\"") _ := tag_q hx (by omega)
  have hq2 : QTag (toldS 0 (x ++ Str.ofString (toString (v : Int)))) _ := told0_q hx (by omega)
  have hk4 : k ≤ 4 := by rw [← hk, List.length_take]; omega
  obtain ⟨hs1, hs2⟩ := bytes_fit hk4
  have N2 := News.more N (subT (subT (subT (subT (subT (subT (subT (subT (subT (subT subR))))))))) _ hpm)
  clear N
  have bI : Ap a I := Ap.of (hrest _ hpm).1
  have b2 : Ap a (L + 1 + 1) := Ap.of (hrest _ hpm).2.1
  have bB : Ap a Ba := Ap.of (hrest _ hpm).2.2.1
  have bP : Ap a Pa := Ap.of (hrest _ hpm).2.2.2.1
  have bd : Ap a d := Ap.of (hrest _ hpm).2.2.2.2.1
  have za := ltN (Heap.lt_size (N2 _ (.head _)).1)
  dsimp only at za

  have hr := whole_same (x := x) (v := v)
  have hg : (false == ((v : Int) != (v : Int))) = true := by simp
  have he : (H v).take n = H v := List.take_of_length_le (by (have := hk); rw [List.length_take] at this; omega)
  k_steps

  rename News _ _ _ _ => lN
  rename Fr _ _ _ _ => lF
  rename_i o' hd' _ l' _ _ _ l1 _
  have hlen := hD.len
  have hsl := stored_len kvs (v : Int) (.ref f)
  refine' fin (.int (v : Int) ?tz) (.ref l') o' ((l', listOf #[] 0) :: rest) _ _ _ o2 _ H v nb np pg lt ?tv _ ?a1 hH ho2 rfl rfl rfl rfl rfl rfl rfl rfl lF lN ?m1 ?m2 ?m3 ?m4 ?m5 ?m6 ?m7 ?m8 ?m9 ?m10 ?m11 ?l1 ?l2 ?g1 ?g2 ?g3 ?ap
  (case m1 => k_mem); (case m2 => k_mem); (case m3 => k_mem); (case m4 => k_mem); (case m5 => k_mem); (case m6 => k_mem); (case m7 => k_mem); (case m8 => k_mem); (case m9 => k_mem); (case m10 => k_mem)
  (case m11 => refine List.forall_mem_cons.mpr ⟨by k_mem, ?_⟩; ((repeat (with_reducible refine subT ?_)); exact subR))
  (case a1 => omega)
  (case l1 => exact hpg.mono (subT subR)); (case l2 => exact hlt.mono (subT subR))
  (case g2 => exact ga.more (subT subR)); (case g3 => exact gb.more (subT subR))
  (case g1 => exact ⟨⟨_, DictOk.store (hD.mono (subT subR) (Nat.le_refl _) fun _ _ => rfl) hd' (LI.mono (he ▸ hf) (subT subR)), ⟨_, _, rfl, .inr ⟨_, stored_has _ _ _, rfl⟩⟩, Nat.le_trans hsl (by omega)⟩, ⟨l', rfl, .inl (.head _)⟩⟩)
  (case ap => refine List.forall_mem_cons.mpr ⟨?_, hrest⟩ <;> (dsimp only; refine ⟨?_, ?_, ?_, ?_, ?_, ?_, ?_⟩ <;> k_ne))

end Mine
end
section
open PySem PySem.W PyProof.Rows
namespace Mine
local macro_rules | `(tactic| walk_at "mine pad 0") => `(tactic| fail "pad")
local macro_rules | `(tactic| walk_at "mine pad 1") => `(tactic| fail "pad")
local macro_rules | `(tactic| walk_at "mine pad 2") => `(tactic| fail "pad")
local macro_rules | `(tactic| walk_at "mine pad 3") => `(tactic| fail "pad")
local macro_rules | `(tactic| walk_at "mine pad 4") => `(tactic| fail "pad")
local macro_rules | `(tactic| walk_at "mine pad 5") => `(tactic| fail "pad")
local macro_rules | `(tactic| walk_at "mine pad 6") => `(tactic| fail "pad")
local macro_rules | `(tactic| walk_at "mine pad 7") => `(tactic| fail "pad")
local macro_rules | `(tactic| walk_at "mine pad 8") => `(tactic| fail "pad")
local macro_rules | `(tactic| walk_at "mine pad 9") => `(tactic| fail "pad")
local macro_rules | `(tactic| walk_at "mine pad 10") => `(tactic| fail "pad")
local macro_rules | `(tactic| walk_at "mine pad 11") => `(tactic| fail "pad")
local macro_rules | `(tactic| walk_at "mine pad 12") => `(tactic| fail "pad")
local macro_rules | `(tactic| walk_at "mine pad 13") => `(tactic| fail "pad")
local macro_rules | `(tactic| walk_at "mine pad 14") => `(tactic| fail "pad")
local macro_rules | `(tactic| walk_at "mine pad 15") => `(tactic| fail "pad")
local macro_rules | `(tactic| walk_at "mine pad 16") => `(tactic| fail "pad")
local macro_rules | `(tactic| walk_at "mine pad 17") => `(tactic| fail "pad")
local macro_rules | `(tactic| walk_at "mine pad 18") => `(tactic| fail "pad")
local macro_rules | `(tactic| walk_at "mine pad 19") => `(tactic| fail "pad")
local macro_rules | `(tactic| walk_at "mine pad 20") => `(tactic| fail "pad")
local macro_rules | `(tactic| walk_at "mine pad 21") => `(tactic| fail "pad")
local macro_rules | `(tactic| walk_at "mine pad 22") => `(tactic| fail "pad")
local macro_rules | `(tactic| walk_at "mine pad 23") => `(tactic| fail "pad")
local macro_rules | `(tactic| walk_at "mine pad 24") => `(tactic| fail "pad")
local macro_rules | `(tactic| walk_at "mine pad 25") => `(tactic| fail "pad")
local macro_rules | `(tactic| walk_at "mine pad 26") => `(tactic| fail "pad")
local macro_rules | `(tactic| walk_at "mine pad 27") => `(tactic| fail "pad")
local macro_rules | `(tactic| walk_at "mine pad 28") => `(tactic| fail "pad")
local macro_rules | `(tactic| walk_at "mine pad 29") => `(tactic| fail "pad")
local macro_rules | `(tactic| walk_at "mine pad 30") => `(tactic| fail "pad")
local macro_rules | `(tactic| walk_at "mine pad 31") => `(tactic| fail "pad")
local macro_rules | `(tactic| walk_at "mine pad 32") => `(tactic| fail "pad")
local macro_rules | `(tactic| walk_at "mine pad 33") => `(tactic| fail "pad")
local macro_rules | `(tactic| walk_at "mine pad 34") => `(tactic| fail "pad")
local macro_rules | `(tactic| walk_at "exec While") => `(tactic| (k_here; refine Mine.Stop.go ?_))
local macro_rules | `(tactic| k_room) => `(tactic| ((try simp only [depth_under_make, depth_under_kw, depth_in1, depth_deeper, depth_caller]); show _ < 1000; omega))
local macro_rules | `(tactic| k_units) => `(tactic| (show _ < 9900; (try simp only [Around.in1_units, Around.deeper_units, Around.mark_units]); omega))
local macro_rules | `(tactic| walk_at "call type:frozenset nil nil") => `(tactic| (k_here; k_dflt (refine' fset0_K' ?F ?N ?_; (case F => k_asm); (case N => k_asm); k_whole); intro a' h' o' F' N' S' l1; (try k_lt l1); (try k_sweep)))
local macro_rules | `(tactic| walk_at "call type:frozenset cons nil") => `(tactic| (k_here; k_dflt (first
  | (refine' fsetL_K ?F ?N ?m ?x ?hh ?hb ?_; (case F => k_asm); (case N => k_asm); (case m => k_mem); (case x => assumption); (case hh => rfl); (case hb => omega); k_whole)
  | (refine' fsetT_K ?F ?N ?t ?hh ?_; (case F => k_asm); (case N => k_asm); (case t => exact ⟨_, News.get (by k_asm) (by k_mem), rfl, _, rfl⟩); (case hh => rfl); k_whole)); intro a' h' tk' o' F' N' S' l1; (try k_lt l1); (try k_sweep)))
local macro_rules | `(tactic| walk_at "truthy ref") => `(tactic| (k_here; k_dflt (refine' fset_truthy_K ?N ?m ?f ?hn ?_; (case N => k_asm); (case m => k_mem); (case f => assumption); (case hn => omega); k_whole); intro b' tk' hb'))
local macro_rules | `(tactic| walk_at "compareOp In str ref") => `(tactic| (k_here; k_dflt (refine' fset_in_K ?N ?m ?f ?hn ?_; (case N => k_asm); (case m => k_mem); (case f => assumption); (case hn => omega); k_whole); intro tk'))
local macro_rules | `(tactic| walk_at "getMethod ref") => `(tactic| (k_here; k_dflt (first
  | (refine' meth_pattern ?P slot_pattern_match type_pattern_match ?_; (case P => exact PatAt.keeps (by assumption) (Fr.keep (by k_asm))); k_whole)
  | (refine' meth_match ?f slot_match_groups type_match_groups ?_; (case f => exact foundN (by k_asm) (by k_mem) (by k_mem)); k_whole)
  | (refine' meth_match ?f slot_match_end type_match_end ?_; (case f => exact foundN (by k_asm) (by k_mem) (by k_mem)); k_whole))))
local macro_rules | `(tactic| walk_at "call builtin:re.Pattern.match") => `(tactic| (k_here; k_dflt (first
  | (refine' matchK_yes ?F ?N ?P ?g ?hp ?hx ?hm ?hk ?ok ?len ?_; (case F => k_asm); (case N => k_asm); (case hm => assumption); (case P => assumption); (case g => rfl); (case hp => omega); (case hx => omega); (case hk => decide); (case ok => assumption); (case len => exact Nat.le_of_ble_eq_true rfl); k_whole; intro a' T' h' F' N' l1 l2; (try k_lt l1); (try k_lt2 l2); (try k_sweep))
  | (refine' matchK_no ?F ?P ?hp ?hx ?hm ?hk ?_; (case F => k_asm); (case hm => assumption); (case P => assumption); (case hp => omega); (case hx => omega); (case hk => decide); k_whole))))
local macro_rules | `(tactic| walk_at "call builtin:re.Match.groups") => `(tactic| (k_here; k_dflt (refine' groupsK3 ?F ?N ?f ?hx ?_; (case F => k_asm); (case N => k_asm); (case f => exact foundN (by k_asm) (by k_mem) (by k_mem)); (case hx => omega); k_whole); intro T' t1' t2' t3' h' tk' F' N' l1; (try dsimp only [partOf] at N'); (try k_lt l1); (try k_sweep)))
local macro_rules | `(tactic| walk_at "call builtin:re.Match.end") => `(tactic| (k_here; k_dflt (refine' endK ?f ?_; (case f => exact foundN (by k_asm) (by k_mem) (by k_mem)); k_whole)))
local macro_rules | `(tactic| walk_at "truthy str") => `(tactic| (k_here; k_dflt (refine' truthy_text ?a ?b ?_; (case a => omega); (case b => omega); k_whole); intro tk'))
local macro_rules | `(tactic| walk_at "truthy ref") => `(tactic| (k_here; k_dflt (refine' truthy_listK ?N ?m ?hb ?_; (case N => k_asm); (case m => k_mem); (case hb => omega); k_whole); intro tk'))
local macro_rules | `(tactic| walk_at "call ref") => `(tactic| (k_here; k_dflt (first
  | (refine' etags_someK ?B ?F ?N ?X ?T ?P ?hA ?hf ?hke ?hh ?hd ?hu ?ht ?_; (case ht => assumption); (case hA => exact rfl); (case hf => exact rfl); (case hke => exact rfl); (case B => k_asm); (case F => k_asm); (case N => k_asm); (case X => k_asm); (case T => k_asm); (case P => first | assumption | exact PatAt.keeps (by assumption) (Fr.keep (by k_asm))); (case hh => rfl); (case hd => ((try simp only [depth_in1, depth_deeper, depth_caller]); show _ < 500; omega)); (case hu => ((try simp only [Around.in1_units, Around.deeper_units]); show _ < 500; omega)); k_whole; intro h' tk' e' d' a' b' oa' ob' t1' t2' t3' n' nS' nW' F' N' f1' f2' f3' f4'; (try k_sweep))
  | (refine' etags_noneK ?B ?F ?N ?X ?T ?hA ?hf ?hke ?hh ?hd ?hu ?_; (case hA => exact rfl); (case hf => exact rfl); (case hke => exact rfl); (case B => k_asm); (case F => k_asm); (case N => k_asm); (case X => k_asm); (case T => k_asm); (case hh => rfl); (case hd => ((try simp only [depth_in1, depth_deeper, depth_caller]); show _ < 500; omega)); (case hu => ((try simp only [Around.in1_units, Around.deeper_units]); show _ < 500; omega)); k_whole; intro h' tk' e' d' a' b' oa' ob' t1' t2' t3' n' nS' nW' F' N' f1' f2' f3' f4'; (try k_sweep)))))
local macro_rules | `(tactic| walk_at "call builtin:str.startswith") => `(tactic| (k_here; k_dflt (refine' startswith_tup ?h ?_; (case h => exact ⟨_, News.get (by k_asm) (by k_mem), rfl, _, rfl⟩); k_whole)))
local macro_rules | `(tactic| walk_at "call builtin:str.endswith") => `(tactic| (k_here; k_dflt (refine' ends_true ?h ?_; (case h => assumption); k_whole)))
local macro_rules | `(tactic| walk_at "call type:bool") => `(tactic| (k_here; k_dflt (refine' bool_fsetL ?N ?m ?f ?hn ?_; (case N => k_asm); (case m => k_mem); (case f => with_reducible assumption); (case hn => omega); k_whole); intro tk'))
local macro_rules | `(tactic| walk_at "truthy ref") => `(tactic| (k_here; k_dflt (refine' truthy_fsetL ?N ?m ?f ?hn ?_; (case N => k_asm); (case m => k_mem); (case f => with_reducible assumption); (case hn => omega); k_whole); intro tk'))
local macro_rules | `(tactic| walk_at "call type:bool") => `(tactic| (k_here; k_dflt (refine' bool_fset0 ?N ?m ?f ?hn ?_; (case N => k_asm); (case m => k_mem); (case f => with_reducible assumption); (case hn => omega); k_whole); intro tk'))
local macro_rules | `(tactic| walk_at "truthy ref") => `(tactic| (k_here; k_dflt (refine' truthy_fset0 ?N ?m ?f ?hn ?_; (case N => k_asm); (case m => k_mem); (case f => with_reducible assumption); (case hn => omega); k_whole); intro tk'))
local macro_rules | `(tactic| walk_at "getMethod ref") => `(tactic| (k_here; k_dflt (refine' meth_pattern ?P slot_pattern_fullmatch type_pattern_fullmatch ?_; (case P => first | exact PatAt.keeps (by assumption) (Fr.keep (by k_asm)) | exact PatAt.keeps (PatAt.keeps (by assumption) (Fr.keep (by assumption))) (Fr.keep (by k_asm))); k_whole)))
local macro_rules | `(tactic| walk_at "call builtin:re.Pattern.fullmatch") => `(tactic| (k_here; k_dflt (refine' fullK_c (n := 12) ?F ?N ?P ?hx ?hn ?h0 ?h1 ?h2 ?h3 ?_; (case F => k_asm); (case N => k_asm); (case P => first | assumption | exact PatAt.keeps (by assumption) (Fr.keep (by assumption))); (case hx => decide +kernel); (case hn => decide); (case h0 => first | kernel_rfl | rfl); (case h1 => rfl); (case h2 => rfl); (case h3 => rfl); k_whole; intro a' h' F' N')))

local macro_rules | `(tactic| k_ne) => `(tactic| (refine neN ?_; (try dsimp only); first | exact Ap.ne (by with_reducible assumption) | exact Ap.ne' (by with_reducible assumption) | fail "no"))
local macro_rules | `(tactic| k_all) => `(tactic| with_reducible assumption)
local macro_rules | `(tactic| walk_at "subscriptTail Name Slice ref ref") => `(tactic| (k_here; k_dflt (refine' sliceUpLI ?F ?N ?s ?li ?y ?x ?_ ?sb ?t; (case F => k_asm); (case N => k_asm); (case li => with_reducible assumption); (case s => ((repeat (with_reducible refine subT ?_)); exact subR)); (case y => exact Int.fmod_nonneg_of_pos _ (by decide)); (case x => omega); (case sb => with_unfolding_all rfl); (case t => (intro _; with_unfolding_all rfl)); k_whole); intro D' h' zs' F' N' l1 hI'; (try k_lt l1)))
local macro_rules | `(tactic| walk_at "setItem ref int") => `(tactic| (k_here; k_dflt (refine' setLst ?F ?N ?a ?b ?l ?U ?_; (case F => k_asm); (case N => k_asm); (case U => k_upd); (case a => assumption); (case b => assumption); (case l => first | assumption | (rw [List.length_set]; assumption)); k_whole); intro h' F' N'))
local macro_rules | `(tactic| walk_at "subscriptTail Name Name ref int") => `(tactic| (k_here; k_dflt (refine' pickR ?k1 ?k2 ?k3 ?k4 ?_ ?k6; (case k1 => exact listN (by k_asm) (by k_mem)); (case k2 => with_reducible assumption); (case k3 => assumption); (case k4 => omega); (case k6 => with_unfolding_all rfl); k_whole)))

local macro_rules | `(tactic| walk_at "binaryOp Add str str") => `(tactic| (k_here; k_dflt (refine' Rows_add ?_ ?z; (case z => exact add_ok (by assumption) (by omega)); intro t' tk')))
local macro_rules | `(tactic| walk_at "ite") => `(tactic| (k_here; (with_reducible refine ite_pos ?e ?_); (case e => with_reducible assumption)))
local macro_rules | `(tactic| walk_at "binaryOp Mod int int") => `(tactic| (k_here; k_dflt (refine' modK ?e ?n ?_; (case e => with_reducible assumption); (case n => decide); k_whole)))
local macro_rules | `(tactic| walk_at "subscriptTail Name Name ref int") => `(tactic| (k_here; k_dflt (first
  | (refine' pickR ?k1 ?k2 ?k3 ?k4 ?_ ?k6; (case k1 => exact listN (by k_asm) (by k_mem)); (case k2 => with_reducible assumption); (case k3 => assumption); (case k4 => omega); (case k6 => with_unfolding_all rfl); k_whole)
  | (refine' dictGet ?N ?p ?d ?l ?_ ?s ?g; (case N => k_asm); (case p => k_mem); (case d => with_reducible assumption); (case l => with_reducible assumption); (case s => with_unfolding_all rfl); (case g => (intro _; with_unfolding_all rfl)); k_whole)
  | fail "no pick")))
local macro_rules | `(tactic| walk_at "binaryOp Add ref ref") => `(tactic| (k_here; k_dflt (refine' addLI1 ?F ?N ?s ?li ?b ?x ?_; (case F => k_asm); (case N => k_asm); (case li => with_reducible assumption); (case s => ((repeat (with_reducible refine subT ?_)); exact subR)); (case b => k_mem); (case x => omega); k_whole); intro D' h' zs' F' N' l1 hI'; (try k_lt l1)))
local macro_rules | `(tactic| walk_at "setItem ref int") => `(tactic| (k_here; k_dflt (first
  | (refine' setLst ?F ?N ?a ?b ?l ?U ?_; (case F => k_asm); (case N => k_asm); (case U => k_upd); (case a => assumption); (case b => assumption); (case l => first | assumption | (rw [List.length_set]; assumption)); k_whole; intro h' F' N')
  | (refine' dictSet ?F ?N ?U ?d ?z ?_; (case F => k_asm); (case N => k_asm); (case U => k_updF); (case d => with_reducible assumption); (case z => omega); k_whole; intro h' o' F' N' hd'; (try dsimp only at N'))
  | fail "no set")))

local macro_rules | `(tactic| k_ne) => `(tactic| (refine neN ?_; (try dsimp only); first | exact Ap.ne (by with_reducible assumption) | exact Ap.ne' (by with_reducible assumption) | exact apMem (by with_reducible assumption) (by k_mem) | exact apMem' (by with_reducible assumption) (by k_mem) | fail "no"))
local macro_rules | `(tactic| walk_at "call ref") => `(tactic| (k_here; k_dflt (first
  | (refine' told_W ?B ?F ?N ?X ?T ?hA ?hf ?hke ?hh ?hd ?hu ?hg ?_; (case hg => exact told_len (by assumption) (by omega)); (case hA => exact rfl); (case hf => exact rfl); (case hke => exact rfl); (case B => k_asm); (case F => k_asm); (case N => k_asm); (case X => k_asm); (case T => k_asm); (case hh => rfl); (case hd => ((try simp only [depth_in1, depth_deeper, depth_caller]); show _ < 450; first | omega | decide)); (case hu => ((try simp only [Around.in1_units, Around.deeper_units]); show _ < 450; first | omega | decide)); k_whole; intro h' tk' t' F' N')
  | (refine' mod_rangeW ?B ?F ?N ?X ?T ?hA ?hf ?hke ?hh ?hd ?hu ?hy ?hq ?hr ?_; (case hy => with_reducible assumption); (case hq => with_reducible assumption); (case hr => with_reducible assumption); (case hA => exact rfl); (case hf => exact rfl); (case hke => exact rfl); (case B => k_asm); (case F => k_asm); (case N => k_asm); (case X => k_asm); (case T => k_asm); (case hh => rfl); (case hd => ((try simp only [depth_in1, depth_deeper, depth_caller]); show _ < 450; first | omega | decide)); (case hu => ((try simp only [Around.in1_units, Around.deeper_units]); show _ < 450; first | omega | decide)); k_whole; intro h' tk' F' N')
  | (refine' rangeW ?B ?F ?N ?X ?T ?hA ?hf ?hke ?hh ?hd ?hu ?hk ?_; (case hk => omega); (case hA => exact rfl); (case hf => exact rfl); (case hke => exact rfl); (case B => k_asm); (case F => k_asm); (case N => k_asm); (case X => k_asm); (case T => k_asm); (case hh => rfl); (case hd => ((try simp only [depth_in1, depth_deeper, depth_caller]); show _ < 450; first | omega | decide)); (case hu => ((try simp only [Around.in1_units, Around.deeper_units]); show _ < 450; first | omega | decide)); k_whole; intro h' tk' x' d' l' D' t1' t2' t3' t4' k1' k2' F' N' a1' a2' a3' a4')
  | fail "no call")))
local macro_rules | `(tactic| walk_at "call builtin:len") => `(tactic| (k_here; k_dflt (refine' lenLIm ?N ?s ?li ?e ?x ?_; (case N => k_asm); (case li => with_reducible assumption); (case s => ((repeat (with_reducible refine subT ?_)); exact subR)); (case e => with_reducible assumption); (case x => omega); k_whole)))
local macro_rules | `(tactic| walk_at "binaryOp Add str str") => `(tactic| (k_here; k_dflt (refine' Rows_add ?_ ?z; (case z => first | with_reducible assumption | exact add_ok (by assumption) (by omega)); intro t' tk')))
local macro_rules | `(tactic| walk_at "compareOp Eq ref ref") => `(tactic| (k_here; k_dflt (first
  | (refine' eqLI ?N ?s ?a ?b ?e ?u ?_; (case N => k_asm); (case a => with_reducible assumption); (case b => with_reducible assumption); (case s => ((repeat (with_reducible refine subT ?_)); exact subR)); (case e => first | rfl | with_reducible assumption); (case u => k_units); k_whole)
  | (refine' eqLIv ?N ?s ?m ?i ?b ?e ?u ?_; (case N => k_asm); (case m => k_mem); (case i => with_reducible assumption); (case b => with_reducible assumption); (case s => ((repeat (with_reducible refine subT ?_)); exact subR)); (case e => with_reducible assumption); (case u => k_units); k_whole)
  | fail "no eq")))
local macro_rules | `(tactic| walk_at "subscriptTail Name Slice ref ref") => `(tactic| (k_here; k_dflt (refine' sliceLI ?F ?N ?s ?li ?x ?_ ?sb ?t; (case F => k_asm); (case N => k_asm); (case li => with_reducible assumption); (case s => ((repeat (with_reducible refine subT ?_)); exact subR)); (case x => omega); (case sb => with_unfolding_all rfl); (case t => (intro _; with_unfolding_all rfl)); k_whole); intro D' h' zs' F' N' l1 hI'; (try k_lt l1)))
local macro_rules | `(tactic| walk_at "binaryOp Add ref ref") => `(tactic| (k_here; k_dflt (refine' addLI2 ?F ?N ?s ?li ?b ?i ?x ?y ?_; (case F => k_asm); (case N => k_asm); (case li => with_reducible assumption); (case s => ((repeat (with_reducible refine subT ?_)); exact subR)); (case b => k_mem); (case i => with_reducible assumption); (case x => omega); (case y => (rw [List.length_take, List.length_drop]; omega)); k_whole); intro D' h' zs' F' N' l1 hI'; (try k_lt l1)))

local macro_rules | `(tactic| walk_at "call ref") => `(tactic| (k_here; k_dflt (refine' spanW ?B ?X ?T ?F ?N ?hk ?hn ?h1 ?h2; (case B => k_asm); (case X => k_asm); (case T => k_asm); (case F => k_asm); (case N => k_asm); (case hk => omega); (case hn => omega); (case h1 => (intro hlt'; exfalso; omega)); (case' h2 => (intro hlt')); k_whole); intro h' tk' S' u1' u2' F' N' l1'; (try k_lt l1')))

theorem deed3c {w : World} {h₀ : Heap} {s : Shared} {lz : List Str} {mean : ExcName → Option Value} {mg mb : Str → Option Value} {fa : Addr} {cd : Value} {E : Value → Shared → Prop} {Q : Flow → Shared → Prop}
    {L I D Sa Ba Pa d da db pg lt : Nat} {oI o2 oH oD q qa qb : Obj} {sv bv pv : List Value} {b p ba pa bb pb : Value} {nS nb np i v : Nat} {rest : List (Addr × Obj)} {H : Nat → List Int} {tv tc td tx tn tdr tk : Tok} {u : Str → Option Value} {c dr de : Int} {x : Str}
    (B : Below callerA h₀ [] h₀) (X : (hd1.heap_39 w.params).In h₀) (T : Top hd1.view_39 lz mean mg mb h₀)
    (F : Fr h₀ L s.heap fun y => if y = "store" then some (.ref d) else if y = "now" then some (.str (Str.ofString "\"" ++ (x ++ Str.ofString (toString (v : Int))) ++ Str.ofString "\"") tn) else if y = "deed" then some (.int de td) else if y = "client" then some (.int c tc) else if y = "k" then some (.int (i : Int) tk) else
      if y = "good" then some (.bool true) else if y = "parts" then some (.ref Pa) else if y = "bases" then some (.ref Ba) else if y = "stores" then some (.ref Sa) else if y = "page" then some (.ref pg) else
      if y = "version" then some (.int (v : Int) tv) else if y = "let" then some (.ref lt) else if y = "cells" then some (.ref D) else u y)
    (N : News h₀ L s.heap ((I, oI) :: (L + 1 + 1, o2) :: (L + 1, oH) :: (D, oD) :: (Sa, listOf sv.toArray nS) :: (Ba, listOf bv.toArray nb) :: (Pa, listOf pv.toArray np) :: (d, q) :: (da, qa) :: (db, qb) :: rest))
    (hoH : oH.data = .cell (some (.str x tx))) (ho2 : o2.data = .cell (some (.int dr tdr))) (hx : HeadOk x) (hc0 : 0 ≤ c) (hc3 : c < 3) (hi : i < 16) (hv : v ≤ i)
    (hH : ∀ j, j ≤ v → (H j).length = 3 + j) (hpg : LI rest pg (H v)) (hlt : LI rest lt (H v))
    (gq : ClientOk PySem.Challenge.rw_ez0420_01.row.prog w H v rest q b p) (ga : ClientOk PySem.Challenge.rw_ez0420_01.row.prog w H v rest qa ba pa) (gb : ClientOk PySem.Challenge.rw_ez0420_01.row.prog w H v rest qb bb pb)
    (sl : sv.length = 3) (bl : bv.length = 3) (pl : pv.length = 3) (hs : sv[c.toNat]? = some (.ref d)) (hb : bv[c.toNat]? = some b) (hp : pv[c.toNat]? = some p)
    (hA : Apart1 I (L + 1) (L + 1 + 1) D Sa Ba Pa d da db) (hd1' : d ≠ 1) (hrest : ∀ p ∈ rest, p.1 ≠ I ∧ p.1 ≠ L + 1 + 1 ∧ p.1 ≠ Ba ∧ p.1 ≠ Pa ∧ p.1 ≠ d ∧ p.1 ≠ da ∧ p.1 ≠ db)
    (fin : FinT PySem.Challenge.rw_ez0420_01.row.prog w h₀ L I D Sa Ba Pa d da db oI oH oD qa qb sv bv pv ba pa bb pb nS i c s Q) {a f n k : Nat} {tj : Tok} (hpa : p = .ref a) (hpm : (a, listOf #[.int (v : Int) tj, .ref f] 0) ∈ rest) (hf : LI rest f ((H v).take n)) (hn : n ≤ 4) (hk : ((H v).take n).length = k) (hgt : k < 3 + v) :
    wpAny (model PySem.Challenge.rw_ez0420_01.row.prog w) (callerA.deeper (envOfC (Str.ofString "law") lawScope L fa cd)) (execs body3 (envOfC (Str.ofString "law") lawScope L fa cd)) Q E s := by
  show wpAny _ (callerA.deeper (envOfC _ (Scope.mk _ _ _ _ _) _ _ _)) (execs (_ :: _) (envOfC _ (Scope.mk _ _ _ _ _) _ _ _)) _ _ _

  revert X; k_fill; intro X
  obtain ⟨⟨aI1, aI2, aI3, aI4, aI5, aI6, aI7, aI8, aI9⟩, ⟨ac1, ac2, ac3, ac4, ac5, ac6, ac7, ac8⟩, ⟨aB1, aB2, aB3, aB4, aB5, aB6, aB7⟩, ⟨aP1, aP2, aP3, aP4, aP5, aP6⟩, ⟨ad1, ad2, ad3, ad4, ad5⟩⟩ := hA.hide
  clear hA
  have z0 := ltN (Heap.lt_size (N _ (.head _)).1)
  have z1 := ltN (Heap.lt_size (N _ (.tail _ (.head _))).1)
  have z2 := ltN (Heap.lt_size (N _ (.tail _ (.tail _ (.head _)))).1)
  have z3 := ltN (Heap.lt_size (N _ (.tail _ (.tail _ (.tail _ (.head _))))).1)
  have z4 := ltN (Heap.lt_size (N _ (.tail _ (.tail _ (.tail _ (.tail _ (.head _)))))).1)
  have z5 := ltN (Heap.lt_size (N _ (.tail _ (.tail _ (.tail _ (.tail _ (.tail _ (.head _))))))).1)
  have z6 := ltN (Heap.lt_size (N _ (.tail _ (.tail _ (.tail _ (.tail _ (.tail _ (.tail _ (.head _)))))))).1)
  have z7 := ltN (Heap.lt_size (N _ (.tail _ (.tail _ (.tail _ (.tail _ (.tail _ (.tail _ (.tail _ (.head _))))))))).1)
  have z8 := ltN (Heap.lt_size (N _ (.tail _ (.tail _ (.tail _ (.tail _ (.tail _ (.tail _ (.tail _ (.tail _ (.head _)))))))))).1)
  have z9 := ltN (Heap.lt_size (N _ (.tail _ (.tail _ (.tail _ (.tail _ (.tail _ (.tail _ (.tail _ (.tail _ (.tail _ (.head _))))))))))).1)
  dsimp only at z0 z1 z2 z3 z4 z5 z6 z7 z8 z9
  have rI := fun p hp => (hrest p hp).1
  have r2 := fun p hp => (hrest p hp).2.1
  have rB := fun p hp => (hrest p hp).2.2.1
  have rP := fun p hp => (hrest p hp).2.2.2.1
  have rd := fun p hp => (hrest p hp).2.2.2.2.1
  have hlv := hH v (Nat.le_refl _)

  subst hpa
  obtain ⟨⟨kvs, hD, hB, hl⟩, _⟩ := gq
  have hDd := hD.1
  have hq : QTag (Str.ofString "\"" ++ (x ++ Str.ofString (toString (v : Int))) ++ Str.ofString "\"") _ := tag_q hx (by omega)
  have hq2 : QTag (toldS 0 (x ++ Str.ofString (toString (v : Int)))) _ := told0_q hx (by omega)
  have hk4 : k ≤ 4 := by rw [← hk, List.length_take]; omega
  obtain ⟨hs1, hs2⟩ := bytes_fit hk4
  have N2 := News.more N (subT (subT (subT (subT (subT (subT (subT (subT (subT (subT subR))))))))) _ hpm)
  clear N
  have bI : Ap a I := Ap.of (hrest _ hpm).1
  have b2 : Ap a (L + 1 + 1) := Ap.of (hrest _ hpm).2.1
  have bB : Ap a Ba := Ap.of (hrest _ hpm).2.2.1
  have bP : Ap a Pa := Ap.of (hrest _ hpm).2.2.2.1
  have bd : Ap a d := Ap.of (hrest _ hpm).2.2.2.2.1
  have za := ltN (Heap.lt_size (N2 _ (.head _)).1)
  dsimp only at za

  have hr := whole_same (x := x) (v := v)
  have hg : (false == ((v : Int) != (v : Int))) = true := by simp
  have hglue : (H v).take n ++ ((H v).drop (clipAt (H v).length (k : Int))).take (clipAt (H v).length ((3 + v : Nat) : Int) - clipAt (H v).length (k : Int)) = H v := by
    have := glue hk
    rwa [show (((H v).length : Nat) : Int) = ((3 + v : Nat) : Int) by rw [hlv]] at this
  k_steps

  rename News _ _ _ _ => lN
  rename Fr _ _ _ _ => lF
  rename_i Dg _ zg ig _ _ _ _ o' hd' _ l' _ _ _ l1 _
  have hlen := hD.len
  have hsl := stored_len kvs (v : Int) (.ref Dg)
  refine' fin (.int (v : Int) ?tz) (.ref l') o' ((l', listOf #[] 0) :: (Dg, listOf zg.toArray 0) :: rest) _ _ _ o2 _ H v nb np pg lt ?tv _ ?a1 hH ho2 rfl rfl rfl rfl rfl rfl rfl rfl lF lN ?m1 ?m2 ?m3 ?m4 ?m5 ?m6 ?m7 ?m8 ?m9 ?m10 ?m11 ?l1 ?l2 ?g1 ?g2 ?g3 ?ap
  (case m1 => k_mem); (case m2 => k_mem); (case m3 => k_mem); (case m4 => k_mem); (case m5 => k_mem); (case m6 => k_mem); (case m7 => k_mem); (case m8 => k_mem); (case m9 => k_mem); (case m10 => k_mem)
  (case m11 => refine List.forall_mem_cons.mpr ⟨by k_mem, List.forall_mem_cons.mpr ⟨by k_mem, ?_⟩⟩; ((repeat (with_reducible refine subT ?_)); exact subR))
  (case a1 => omega)
  (case l1 => exact hpg.mono (subT (subT subR))); (case l2 => exact hlt.mono (subT (subT subR)))
  (case g2 => exact ga.more (subT (subT subR))); (case g3 => exact gb.more (subT (subT subR)))
  (case g1 => exact ⟨⟨_, DictOk.store (hD.mono (subT (subT subR)) (Nat.le_refl _) fun _ _ => rfl) hd' (⟨zg, 0, .tail _ (.head _), hglue ▸ ig⟩), ⟨_, _, rfl, .inr ⟨_, stored_has _ _ _, rfl⟩⟩, Nat.le_trans hsl (by omega)⟩, ⟨l', rfl, .inl (.head _)⟩⟩)
  (case ap => refine List.forall_mem_cons.mpr ⟨?_, List.forall_mem_cons.mpr ⟨?_, hrest⟩⟩ <;> (dsimp only; refine ⟨?_, ?_, ?_, ?_, ?_, ?_, ?_⟩ <;> k_ne))

end Mine
end
section
open PySem PySem.W PyProof.Rows
namespace Mine
local macro_rules | `(tactic| walk_at "mine pad 0") => `(tactic| fail "pad")
local macro_rules | `(tactic| walk_at "mine pad 1") => `(tactic| fail "pad")
local macro_rules | `(tactic| walk_at "mine pad 2") => `(tactic| fail "pad")
local macro_rules | `(tactic| walk_at "mine pad 3") => `(tactic| fail "pad")
local macro_rules | `(tactic| walk_at "mine pad 4") => `(tactic| fail "pad")
local macro_rules | `(tactic| walk_at "mine pad 5") => `(tactic| fail "pad")
local macro_rules | `(tactic| walk_at "mine pad 6") => `(tactic| fail "pad")
local macro_rules | `(tactic| walk_at "mine pad 7") => `(tactic| fail "pad")
local macro_rules | `(tactic| walk_at "mine pad 8") => `(tactic| fail "pad")
local macro_rules | `(tactic| walk_at "mine pad 9") => `(tactic| fail "pad")
local macro_rules | `(tactic| walk_at "mine pad 10") => `(tactic| fail "pad")
local macro_rules | `(tactic| walk_at "mine pad 11") => `(tactic| fail "pad")
local macro_rules | `(tactic| walk_at "mine pad 12") => `(tactic| fail "pad")
local macro_rules | `(tactic| walk_at "mine pad 13") => `(tactic| fail "pad")
local macro_rules | `(tactic| walk_at "mine pad 14") => `(tactic| fail "pad")
local macro_rules | `(tactic| walk_at "mine pad 15") => `(tactic| fail "pad")
local macro_rules | `(tactic| walk_at "mine pad 16") => `(tactic| fail "pad")
local macro_rules | `(tactic| walk_at "mine pad 17") => `(tactic| fail "pad")
local macro_rules | `(tactic| walk_at "mine pad 18") => `(tactic| fail "pad")
local macro_rules | `(tactic| walk_at "mine pad 19") => `(tactic| fail "pad")
local macro_rules | `(tactic| walk_at "mine pad 20") => `(tactic| fail "pad")
local macro_rules | `(tactic| walk_at "mine pad 21") => `(tactic| fail "pad")
local macro_rules | `(tactic| walk_at "mine pad 22") => `(tactic| fail "pad")
local macro_rules | `(tactic| walk_at "mine pad 23") => `(tactic| fail "pad")
local macro_rules | `(tactic| walk_at "mine pad 24") => `(tactic| fail "pad")
local macro_rules | `(tactic| walk_at "mine pad 25") => `(tactic| fail "pad")
local macro_rules | `(tactic| walk_at "mine pad 26") => `(tactic| fail "pad")
local macro_rules | `(tactic| walk_at "mine pad 27") => `(tactic| fail "pad")
local macro_rules | `(tactic| walk_at "mine pad 28") => `(tactic| fail "pad")
local macro_rules | `(tactic| walk_at "mine pad 29") => `(tactic| fail "pad")
local macro_rules | `(tactic| walk_at "mine pad 30") => `(tactic| fail "pad")
local macro_rules | `(tactic| walk_at "mine pad 31") => `(tactic| fail "pad")
local macro_rules | `(tactic| walk_at "mine pad 32") => `(tactic| fail "pad")
local macro_rules | `(tactic| walk_at "mine pad 33") => `(tactic| fail "pad")
local macro_rules | `(tactic| walk_at "mine pad 34") => `(tactic| fail "pad")
local macro_rules | `(tactic| walk_at "mine pad 35") => `(tactic| fail "pad")
local macro_rules | `(tactic| walk_at "mine pad 36") => `(tactic| fail "pad")
local macro_rules | `(tactic| walk_at "mine pad 37") => `(tactic| fail "pad")
local macro_rules | `(tactic| walk_at "exec While") => `(tactic| (k_here; refine Mine.Stop.go ?_))
local macro_rules | `(tactic| k_room) => `(tactic| ((try simp only [depth_under_make, depth_under_kw, depth_in1, depth_deeper, depth_caller]); show _ < 1000; omega))
local macro_rules | `(tactic| k_units) => `(tactic| (show _ < 9900; (try simp only [Around.in1_units, Around.deeper_units, Around.mark_units]); omega))
local macro_rules | `(tactic| walk_at "call type:frozenset nil nil") => `(tactic| (k_here; k_dflt (refine' fset0_K' ?F ?N ?_; (case F => k_asm); (case N => k_asm); k_whole); intro a' h' o' F' N' S' l1; (try k_lt l1); (try k_sweep)))
local macro_rules | `(tactic| walk_at "call type:frozenset cons nil") => `(tactic| (k_here; k_dflt (first
  | (refine' fsetL_K ?F ?N ?m ?x ?hh ?hb ?_; (case F => k_asm); (case N => k_asm); (case m => k_mem); (case x => assumption); (case hh => rfl); (case hb => omega); k_whole)
  | (refine' fsetT_K ?F ?N ?t ?hh ?_; (case F => k_asm); (case N => k_asm); (case t => exact ⟨_, News.get (by k_asm) (by k_mem), rfl, _, rfl⟩); (case hh => rfl); k_whole)); intro a' h' tk' o' F' N' S' l1; (try k_lt l1); (try k_sweep)))
local macro_rules | `(tactic| walk_at "truthy ref") => `(tactic| (k_here; k_dflt (refine' fset_truthy_K ?N ?m ?f ?hn ?_; (case N => k_asm); (case m => k_mem); (case f => assumption); (case hn => omega); k_whole); intro b' tk' hb'))
local macro_rules | `(tactic| walk_at "compareOp In str ref") => `(tactic| (k_here; k_dflt (refine' fset_in_K ?N ?m ?f ?hn ?_; (case N => k_asm); (case m => k_mem); (case f => assumption); (case hn => omega); k_whole); intro tk'))
local macro_rules | `(tactic| walk_at "getMethod ref") => `(tactic| (k_here; k_dflt (first
  | (refine' meth_pattern ?P slot_pattern_match type_pattern_match ?_; (case P => exact PatAt.keeps (by assumption) (Fr.keep (by k_asm))); k_whole)
  | (refine' meth_match ?f slot_match_groups type_match_groups ?_; (case f => exact foundN (by k_asm) (by k_mem) (by k_mem)); k_whole)
  | (refine' meth_match ?f slot_match_end type_match_end ?_; (case f => exact foundN (by k_asm) (by k_mem) (by k_mem)); k_whole))))
local macro_rules | `(tactic| walk_at "call builtin:re.Pattern.match") => `(tactic| (k_here; k_dflt (first
  | (refine' matchK_yes ?F ?N ?P ?g ?hp ?hx ?hm ?hk ?ok ?len ?_; (case F => k_asm); (case N => k_asm); (case hm => assumption); (case P => assumption); (case g => rfl); (case hp => omega); (case hx => omega); (case hk => decide); (case ok => assumption); (case len => exact Nat.le_of_ble_eq_true rfl); k_whole; intro a' T' h' F' N' l1 l2; (try k_lt l1); (try k_lt2 l2); (try k_sweep))
  | (refine' matchK_no ?F ?P ?hp ?hx ?hm ?hk ?_; (case F => k_asm); (case hm => assumption); (case P => assumption); (case hp => omega); (case hx => omega); (case hk => decide); k_whole))))
local macro_rules | `(tactic| walk_at "call builtin:re.Match.groups") => `(tactic| (k_here; k_dflt (refine' groupsK3 ?F ?N ?f ?hx ?_; (case F => k_asm); (case N => k_asm); (case f => exact foundN (by k_asm) (by k_mem) (by k_mem)); (case hx => omega); k_whole); intro T' t1' t2' t3' h' tk' F' N' l1; (try dsimp only [partOf] at N'); (try k_lt l1); (try k_sweep)))
local macro_rules | `(tactic| walk_at "call builtin:re.Match.end") => `(tactic| (k_here; k_dflt (refine' endK ?f ?_; (case f => exact foundN (by k_asm) (by k_mem) (by k_mem)); k_whole)))
local macro_rules | `(tactic| walk_at "truthy str") => `(tactic| (k_here; k_dflt (refine' truthy_text ?a ?b ?_; (case a => omega); (case b => omega); k_whole); intro tk'))
local macro_rules | `(tactic| walk_at "truthy ref") => `(tactic| (k_here; k_dflt (refine' truthy_listK ?N ?m ?hb ?_; (case N => k_asm); (case m => k_mem); (case hb => omega); k_whole); intro tk'))
local macro_rules | `(tactic| walk_at "call ref") => `(tactic| (k_here; k_dflt (first
  | (refine' etags_someK ?B ?F ?N ?X ?T ?P ?hA ?hf ?hke ?hh ?hd ?hu ?ht ?_; (case ht => assumption); (case hA => exact rfl); (case hf => exact rfl); (case hke => exact rfl); (case B => k_asm); (case F => k_asm); (case N => k_asm); (case X => k_asm); (case T => k_asm); (case P => first | assumption | exact PatAt.keeps (by assumption) (Fr.keep (by k_asm))); (case hh => rfl); (case hd => ((try simp only [depth_in1, depth_deeper, depth_caller]); show _ < 500; omega)); (case hu => ((try simp only [Around.in1_units, Around.deeper_units]); show _ < 500; omega)); k_whole; intro h' tk' e' d' a' b' oa' ob' t1' t2' t3' n' nS' nW' F' N' f1' f2' f3' f4'; (try k_sweep))
  | (refine' etags_noneK ?B ?F ?N ?X ?T ?hA ?hf ?hke ?hh ?hd ?hu ?_; (case hA => exact rfl); (case hf => exact rfl); (case hke => exact rfl); (case B => k_asm); (case F => k_asm); (case N => k_asm); (case X => k_asm); (case T => k_asm); (case hh => rfl); (case hd => ((try simp only [depth_in1, depth_deeper, depth_caller]); show _ < 500; omega)); (case hu => ((try simp only [Around.in1_units, Around.deeper_units]); show _ < 500; omega)); k_whole; intro h' tk' e' d' a' b' oa' ob' t1' t2' t3' n' nS' nW' F' N' f1' f2' f3' f4'; (try k_sweep)))))
local macro_rules | `(tactic| walk_at "call builtin:str.startswith") => `(tactic| (k_here; k_dflt (refine' startswith_tup ?h ?_; (case h => exact ⟨_, News.get (by k_asm) (by k_mem), rfl, _, rfl⟩); k_whole)))
local macro_rules | `(tactic| walk_at "call builtin:str.endswith") => `(tactic| (k_here; k_dflt (refine' ends_true ?h ?_; (case h => assumption); k_whole)))
local macro_rules | `(tactic| walk_at "call type:bool") => `(tactic| (k_here; k_dflt (refine' bool_fsetL ?N ?m ?f ?hn ?_; (case N => k_asm); (case m => k_mem); (case f => with_reducible assumption); (case hn => omega); k_whole); intro tk'))
local macro_rules | `(tactic| walk_at "truthy ref") => `(tactic| (k_here; k_dflt (refine' truthy_fsetL ?N ?m ?f ?hn ?_; (case N => k_asm); (case m => k_mem); (case f => with_reducible assumption); (case hn => omega); k_whole); intro tk'))
local macro_rules | `(tactic| walk_at "call type:bool") => `(tactic| (k_here; k_dflt (refine' bool_fset0 ?N ?m ?f ?hn ?_; (case N => k_asm); (case m => k_mem); (case f => with_reducible assumption); (case hn => omega); k_whole); intro tk'))
local macro_rules | `(tactic| walk_at "truthy ref") => `(tactic| (k_here; k_dflt (refine' truthy_fset0 ?N ?m ?f ?hn ?_; (case N => k_asm); (case m => k_mem); (case f => with_reducible assumption); (case hn => omega); k_whole); intro tk'))
local macro_rules | `(tactic| walk_at "getMethod ref") => `(tactic| (k_here; k_dflt (refine' meth_pattern ?P slot_pattern_fullmatch type_pattern_fullmatch ?_; (case P => first | exact PatAt.keeps (by assumption) (Fr.keep (by k_asm)) | exact PatAt.keeps (PatAt.keeps (by assumption) (Fr.keep (by assumption))) (Fr.keep (by k_asm))); k_whole)))
local macro_rules | `(tactic| walk_at "call builtin:re.Pattern.fullmatch") => `(tactic| (k_here; k_dflt (refine' fullK_c (n := 12) ?F ?N ?P ?hx ?hn ?h0 ?h1 ?h2 ?h3 ?_; (case F => k_asm); (case N => k_asm); (case P => first | assumption | exact PatAt.keeps (by assumption) (Fr.keep (by assumption))); (case hx => decide +kernel); (case hn => decide); (case h0 => first | kernel_rfl | rfl); (case h1 => rfl); (case h2 => rfl); (case h3 => rfl); k_whole; intro a' h' F' N')))

local macro_rules | `(tactic| k_ne) => `(tactic| (refine neN ?_; (try dsimp only); first | exact Ap.ne (by with_reducible assumption) | exact Ap.ne' (by with_reducible assumption) | fail "no"))
local macro_rules | `(tactic| k_all) => `(tactic| with_reducible assumption)
local macro_rules | `(tactic| walk_at "subscriptTail Name Slice ref ref") => `(tactic| (k_here; k_dflt (refine' sliceUpLI ?F ?N ?s ?li ?y ?x ?_ ?sb ?t; (case F => k_asm); (case N => k_asm); (case li => with_reducible assumption); (case s => ((repeat (with_reducible refine subT ?_)); exact subR)); (case y => exact Int.fmod_nonneg_of_pos _ (by decide)); (case x => omega); (case sb => with_unfolding_all rfl); (case t => (intro _; with_unfolding_all rfl)); k_whole); intro D' h' zs' F' N' l1 hI'; (try k_lt l1)))
local macro_rules | `(tactic| walk_at "setItem ref int") => `(tactic| (k_here; k_dflt (refine' setLst ?F ?N ?a ?b ?l ?U ?_; (case F => k_asm); (case N => k_asm); (case U => k_upd); (case a => assumption); (case b => assumption); (case l => first | assumption | (rw [List.length_set]; assumption)); k_whole); intro h' F' N'))
local macro_rules | `(tactic| walk_at "subscriptTail Name Name ref int") => `(tactic| (k_here; k_dflt (refine' pickR ?k1 ?k2 ?k3 ?k4 ?_ ?k6; (case k1 => exact listN (by k_asm) (by k_mem)); (case k2 => with_reducible assumption); (case k3 => assumption); (case k4 => omega); (case k6 => with_unfolding_all rfl); k_whole)))

local macro_rules | `(tactic| walk_at "binaryOp Add str str") => `(tactic| (k_here; k_dflt (refine' Rows_add ?_ ?z; (case z => exact add_ok (by assumption) (by omega)); intro t' tk')))
local macro_rules | `(tactic| walk_at "ite") => `(tactic| (k_here; (with_reducible refine ite_pos ?e ?_); (case e => with_reducible assumption)))
local macro_rules | `(tactic| walk_at "binaryOp Mod int int") => `(tactic| (k_here; k_dflt (refine' modK ?e ?n ?_; (case e => with_reducible assumption); (case n => decide); k_whole)))
local macro_rules | `(tactic| walk_at "subscriptTail Name Name ref int") => `(tactic| (k_here; k_dflt (first
  | (refine' pickR ?k1 ?k2 ?k3 ?k4 ?_ ?k6; (case k1 => exact listN (by k_asm) (by k_mem)); (case k2 => with_reducible assumption); (case k3 => assumption); (case k4 => omega); (case k6 => with_unfolding_all rfl); k_whole)
  | (refine' dictGet ?N ?p ?d ?l ?_ ?s ?g; (case N => k_asm); (case p => k_mem); (case d => with_reducible assumption); (case l => with_reducible assumption); (case s => with_unfolding_all rfl); (case g => (intro _; with_unfolding_all rfl)); k_whole)
  | fail "no pick")))
local macro_rules | `(tactic| walk_at "binaryOp Add ref ref") => `(tactic| (k_here; k_dflt (refine' addLI1 ?F ?N ?s ?li ?b ?x ?_; (case F => k_asm); (case N => k_asm); (case li => with_reducible assumption); (case s => ((repeat (with_reducible refine subT ?_)); exact subR)); (case b => k_mem); (case x => omega); k_whole); intro D' h' zs' F' N' l1 hI'; (try k_lt l1)))
local macro_rules | `(tactic| walk_at "setItem ref int") => `(tactic| (k_here; k_dflt (first
  | (refine' setLst ?F ?N ?a ?b ?l ?U ?_; (case F => k_asm); (case N => k_asm); (case U => k_upd); (case a => assumption); (case b => assumption); (case l => first | assumption | (rw [List.length_set]; assumption)); k_whole; intro h' F' N')
  | (refine' dictSet ?F ?N ?U ?d ?z ?_; (case F => k_asm); (case N => k_asm); (case U => k_updF); (case d => with_reducible assumption); (case z => omega); k_whole; intro h' o' F' N' hd'; (try dsimp only at N'))
  | fail "no set")))

local macro_rules | `(tactic| walk_at "call ref") => `(tactic| (k_here; k_dflt (first
  | (refine' told_W ?B ?F ?N ?X ?T ?hA ?hf ?hke ?hh ?hd ?hu ?hg ?_; (case hg => exact told_len (by assumption) (by assumption)); (case hA => exact rfl); (case hf => exact rfl); (case hke => exact rfl); (case B => k_asm); (case F => k_asm); (case N => k_asm); (case X => k_asm); (case T => k_asm); (case hh => rfl); (case hd => ((try simp only [depth_in1, depth_deeper, depth_caller]); show _ < 450; first | omega | decide)); (case hu => ((try simp only [Around.in1_units, Around.deeper_units]); show _ < 450; first | omega | decide)); k_whole; intro h' tk' t' F' N')
  | fail "no call")))
local macro_rules | `(tactic| walk_at "binaryOp Add str str") => `(tactic| (k_here; k_dflt (refine' Rows_add ?_ ?z; (case z => exact add_ok (by assumption) (by assumption)); intro t' tk')))
local macro_rules | `(tactic| walk_at "exec Assign cons ListComp") => `(tactic| (k_here; k_dflt (refine LCg.Assign_ListComp_U (F₀ := by k_asm) (by rfl) (by with_unfolding_all rfl) (by with_unfolding_all rfl) (by decide) (by rfl) (by decide) (by rfl) (by rfl) (by rfl) ?_)))
local macro_rules | `(tactic| walk_at "call builtin:sorted") => `(tactic| (k_here; k_dflt (refine' sortedDictK ?hh ?F ?N ?m ?d ?o ?n ?_; (case F => k_asm); (case N => k_asm); (case m => k_mem); (case d => with_reducible assumption); (case o => assumption); (case n => omega); (case hh => rfl); k_whole); intro D' vs' ks' c' h' tk' F' N' l1 hI' hp'; (try k_lt l1)))
local macro_rules | `(tactic| walk_at "CompSrc") => `(tactic| (k_here; refine Mine.Stop.go ?_))

def st1 : Stmt := fstOf body0
theorem told0K {w : World} {h₀ : Heap} {s : Shared} {lz : List Str} {mean : ExcName → Option Value} {mg mb : Str → Option Value} {fa : Addr} {cd : Value} {E : Value → Shared → Prop} {Q : Flow → Shared → Prop}
    {L I D Sa Ba Pa d da db pg lt : Nat} {oI o2 oH oD q qa qb : Obj} {sv bv pv : List Value} {b p ba pa bb pb : Value} {nS nb np i v : Nat} {rest : List (Addr × Obj)} {H : Nat → List Int} {tv tc td tx tn tdr tk : Tok} {u : Str → Option Value} {c dr de : Int} {x : Str}
    (B : Below callerA h₀ [] h₀) (X : (hd1.heap_39 w.params).In h₀) (T : Top hd1.view_39 lz mean mg mb h₀)
    (F : Fr h₀ L s.heap fun y => if y = "store" then some (.ref d) else if y = "now" then some (.str (Str.ofString "\"" ++ (x ++ Str.ofString (toString (v : Int))) ++ Str.ofString "\"") tn) else if y = "deed" then some (.int de td) else if y = "client" then some (.int c tc) else if y = "k" then some (.int (i : Int) tk) else
      if y = "good" then some (.bool true) else if y = "parts" then some (.ref Pa) else if y = "bases" then some (.ref Ba) else if y = "stores" then some (.ref Sa) else if y = "page" then some (.ref pg) else
      if y = "version" then some (.int (v : Int) tv) else if y = "let" then some (.ref lt) else if y = "cells" then some (.ref D) else u y)
    (N : News h₀ L s.heap ((I, oI) :: (L + 1 + 1, o2) :: (L + 1, oH) :: (D, oD) :: (Sa, listOf sv.toArray nS) :: (Ba, listOf bv.toArray nb) :: (Pa, listOf pv.toArray np) :: (d, q) :: (da, qa) :: (db, qb) :: rest))
    (hoH : oH.data = .cell (some (.str x tx))) (ho2 : o2.data = .cell (some (.int dr tdr))) (hx : HeadOk x) (hc0 : 0 ≤ c) (hc3 : c < 3) (hi : i < 16) (hv : v ≤ i)
    (hH : ∀ j, j ≤ v → (H j).length = 3 + j) (hpg : LI rest pg (H v)) (hlt : LI rest lt (H v))
    (gq : ClientOk PySem.Challenge.rw_ez0420_01.row.prog w H v rest q b p) (ga : ClientOk PySem.Challenge.rw_ez0420_01.row.prog w H v rest qa ba pa) (gb : ClientOk PySem.Challenge.rw_ez0420_01.row.prog w H v rest qb bb pb)
    (sl : sv.length = 3) (bl : bv.length = 3) (pl : pv.length = 3) (hs : sv[c.toNat]? = some (.ref d)) (hb : bv[c.toNat]? = some b) (hp : pv[c.toNat]? = some p)
    (hA : Apart1 I (L + 1) (L + 1 + 1) D Sa Ba Pa d da db) (hd1' : d ≠ 1) (hrest : ∀ p ∈ rest, p.1 ≠ I ∧ p.1 ≠ L + 1 + 1 ∧ p.1 ≠ Ba ∧ p.1 ≠ Pa ∧ p.1 ≠ d ∧ p.1 ≠ da ∧ p.1 ≠ db)

    (h : ∀ (D' : Nat) (ys : List Value) (ks : List Int) (kvs : List (Int × Value)) (h' : Heap) (tk' : Nat), DictOk PySem.Challenge.rw_ez0420_01.row.prog w H v rest q kvs → BaseOk kvs b → PartOk H v rest p →
      Fr h₀ L h' (fun y => if y = "told" then some (.ref D') else if y = "store" then some (.ref d) else if y = "now" then some (.str (Str.ofString "\"" ++ (x ++ Str.ofString (toString (v : Int))) ++ Str.ofString "\"") tn) else if y = "deed" then some (.int de td) else if y = "client" then some (.int c tc) else if y = "k" then some (.int (i : Int) tk) else
      if y = "good" then some (.bool true) else if y = "parts" then some (.ref Pa) else if y = "bases" then some (.ref Ba) else if y = "stores" then some (.ref Sa) else if y = "page" then some (.ref pg) else
      if y = "version" then some (.int (v : Int) tv) else if y = "let" then some (.ref lt) else if y = "cells" then some (.ref D) else u y) → News h₀ L h' ((D', LCg.lst ys) :: ((I, oI) :: (L + 1 + 1, o2) :: (L + 1, oH) :: (D, oD) :: (Sa, listOf sv.toArray nS) :: (Ba, listOf bv.toArray nb) :: (Pa, listOf pv.toArray np) :: (d, q) :: (da, qa) :: (db, qb) :: rest)) → (∀ p ∈ ((I, oI) :: (L + 1 + 1, o2) :: (L + 1, oH) :: (D, oD) :: (Sa, listOf sv.toArray nS) :: (Ba, listOf bv.toArray nb) :: (Pa, listOf pv.toArray np) :: (d, q) :: (da, qa) :: (db, qb) :: rest), Ap p.1 D') →
      StrsAre ys (ks.map (toldF x dr)) → ks.Perm (kvs.map (·.1)) → Q .next { s with heap := h', toks := tk' }) :
    wpAny (model PySem.Challenge.rw_ez0420_01.row.prog w) (callerA.deeper (envOfC (Str.ofString "law") lawScope L fa cd)) (exec st1 (envOfC (Str.ofString "law") lawScope L fa cd)) Q E s := by
  show wpAny _ (callerA.deeper (envOfC _ (Scope.mk _ _ _ _ _) _ _ _)) (exec (Stmt.Assign _ _ _) (envOfC _ (Scope.mk _ _ _ _ _) _ _ _)) _ _ _

  revert X; k_fill; intro X
  obtain ⟨⟨aI1, aI2, aI3, aI4, aI5, aI6, aI7, aI8, aI9⟩, ⟨ac1, ac2, ac3, ac4, ac5, ac6, ac7, ac8⟩, ⟨aB1, aB2, aB3, aB4, aB5, aB6, aB7⟩, ⟨aP1, aP2, aP3, aP4, aP5, aP6⟩, ⟨ad1, ad2, ad3, ad4, ad5⟩⟩ := hA.hide
  clear hA
  have z0 := ltN (Heap.lt_size (N _ (.head _)).1)
  have z1 := ltN (Heap.lt_size (N _ (.tail _ (.head _))).1)
  have z2 := ltN (Heap.lt_size (N _ (.tail _ (.tail _ (.head _)))).1)
  have z3 := ltN (Heap.lt_size (N _ (.tail _ (.tail _ (.tail _ (.head _))))).1)
  have z4 := ltN (Heap.lt_size (N _ (.tail _ (.tail _ (.tail _ (.tail _ (.head _)))))).1)
  have z5 := ltN (Heap.lt_size (N _ (.tail _ (.tail _ (.tail _ (.tail _ (.tail _ (.head _))))))).1)
  have z6 := ltN (Heap.lt_size (N _ (.tail _ (.tail _ (.tail _ (.tail _ (.tail _ (.tail _ (.head _)))))))).1)
  have z7 := ltN (Heap.lt_size (N _ (.tail _ (.tail _ (.tail _ (.tail _ (.tail _ (.tail _ (.tail _ (.head _))))))))).1)
  have z8 := ltN (Heap.lt_size (N _ (.tail _ (.tail _ (.tail _ (.tail _ (.tail _ (.tail _ (.tail _ (.tail _ (.head _)))))))))).1)
  have z9 := ltN (Heap.lt_size (N _ (.tail _ (.tail _ (.tail _ (.tail _ (.tail _ (.tail _ (.tail _ (.tail _ (.tail _ (.head _))))))))))).1)
  dsimp only at z0 z1 z2 z3 z4 z5 z6 z7 z8 z9
  have rI := fun p hp => (hrest p hp).1
  have r2 := fun p hp => (hrest p hp).2.1
  have rB := fun p hp => (hrest p hp).2.2.1
  have rP := fun p hp => (hrest p hp).2.2.2.1
  have rd := fun p hp => (hrest p hp).2.2.2.2.1
  have hlv := hH v (Nat.le_refl _)

  obtain ⟨⟨kvs, hD, hB, hl⟩, hP⟩ := gq
  have hDd := hD.1
  k_steps
  unfold Stop
  rename_i D' vs' ks' c' _ _ _ _ hI' hp' _
  have hkl := hI'.length
  have hpl := hp'.length_eq
  rw [List.length_map] at hpl
  refine LCg.CompSrc.ledger (by rfl) (by k_asm) (by k_asm) (.head _) (by rw [List.size_toArray, sizeLine_eq]; omega) ?_
  intro g'
  refine' kct_list (toldF x dr) hI' (fun k' t' I' oI' C' oC' D'' m' ys' h' tk' E' hk' hC' hx' F' N' off' ne' hm' => ?_) ?_
  · obtain ⟨j, rfl, hj⟩ : ∃ j : Nat, k' = (j : Int) ∧ j ≤ 16 := by
      obtain ⟨kv, hkv, rfl⟩ := List.mem_map.mp (hp'.mem_iff.mp hk')
      obtain ⟨j, _, e, hj, _⟩ := hD.2 kv hkv
      exact ⟨j, e, by omega⟩
    k_steps
    exact LCg.CompEnd.intro (by assumption) (by assumption) _ (fun p hp => hp) off' (.inr ⟨_, .head _, rfl, _, rfl⟩) ⟨rfl, _, rfl⟩
  · unfold KPfDone
    intro ys hc hlen D2 h2 tk2 F2 N2 off2
    exact h D2 ys ks' kvs h2 tk2 hD hB hP F2 (newsSub N2 (List.forall_mem_cons.mpr ⟨.head _, subT (subT subR)⟩)) (fun p hp => off1_mem off2 p (.tail _ hp)) (CarriedAll.strsOf hc) hp'
end Mine
end
section
open PySem PySem.W PyProof.Rows
namespace Mine
local macro_rules | `(tactic| walk_at "mine pad 0") => `(tactic| fail "pad")
local macro_rules | `(tactic| walk_at "mine pad 1") => `(tactic| fail "pad")
local macro_rules | `(tactic| walk_at "mine pad 2") => `(tactic| fail "pad")
local macro_rules | `(tactic| walk_at "mine pad 3") => `(tactic| fail "pad")
local macro_rules | `(tactic| walk_at "mine pad 4") => `(tactic| fail "pad")
local macro_rules | `(tactic| walk_at "mine pad 5") => `(tactic| fail "pad")
local macro_rules | `(tactic| walk_at "mine pad 6") => `(tactic| fail "pad")
local macro_rules | `(tactic| walk_at "mine pad 7") => `(tactic| fail "pad")
local macro_rules | `(tactic| walk_at "mine pad 8") => `(tactic| fail "pad")
local macro_rules | `(tactic| walk_at "mine pad 9") => `(tactic| fail "pad")
local macro_rules | `(tactic| walk_at "mine pad 10") => `(tactic| fail "pad")
local macro_rules | `(tactic| walk_at "mine pad 11") => `(tactic| fail "pad")
local macro_rules | `(tactic| walk_at "mine pad 12") => `(tactic| fail "pad")
local macro_rules | `(tactic| walk_at "mine pad 13") => `(tactic| fail "pad")
local macro_rules | `(tactic| walk_at "mine pad 14") => `(tactic| fail "pad")
local macro_rules | `(tactic| walk_at "mine pad 15") => `(tactic| fail "pad")
local macro_rules | `(tactic| walk_at "mine pad 16") => `(tactic| fail "pad")
local macro_rules | `(tactic| walk_at "mine pad 17") => `(tactic| fail "pad")
local macro_rules | `(tactic| walk_at "mine pad 18") => `(tactic| fail "pad")
local macro_rules | `(tactic| walk_at "mine pad 19") => `(tactic| fail "pad")
local macro_rules | `(tactic| walk_at "mine pad 20") => `(tactic| fail "pad")
local macro_rules | `(tactic| walk_at "mine pad 21") => `(tactic| fail "pad")
local macro_rules | `(tactic| walk_at "mine pad 22") => `(tactic| fail "pad")
local macro_rules | `(tactic| walk_at "mine pad 23") => `(tactic| fail "pad")
local macro_rules | `(tactic| walk_at "mine pad 24") => `(tactic| fail "pad")
local macro_rules | `(tactic| walk_at "mine pad 25") => `(tactic| fail "pad")
local macro_rules | `(tactic| walk_at "mine pad 26") => `(tactic| fail "pad")
local macro_rules | `(tactic| walk_at "mine pad 27") => `(tactic| fail "pad")
local macro_rules | `(tactic| walk_at "mine pad 28") => `(tactic| fail "pad")
local macro_rules | `(tactic| walk_at "mine pad 29") => `(tactic| fail "pad")
local macro_rules | `(tactic| walk_at "mine pad 30") => `(tactic| fail "pad")
local macro_rules | `(tactic| walk_at "mine pad 31") => `(tactic| fail "pad")
local macro_rules | `(tactic| walk_at "mine pad 32") => `(tactic| fail "pad")
local macro_rules | `(tactic| walk_at "mine pad 33") => `(tactic| fail "pad")
local macro_rules | `(tactic| walk_at "mine pad 34") => `(tactic| fail "pad")
local macro_rules | `(tactic| walk_at "mine pad 35") => `(tactic| fail "pad")
local macro_rules | `(tactic| walk_at "mine pad 36") => `(tactic| fail "pad")
local macro_rules | `(tactic| walk_at "mine pad 37") => `(tactic| fail "pad")
local macro_rules | `(tactic| walk_at "mine pad 38") => `(tactic| fail "pad")
local macro_rules | `(tactic| walk_at "mine pad 39") => `(tactic| fail "pad")
local macro_rules | `(tactic| walk_at "exec While") => `(tactic| (k_here; refine Mine.Stop.go ?_))
local macro_rules | `(tactic| k_room) => `(tactic| ((try simp only [depth_under_make, depth_under_kw, depth_in1, depth_deeper, depth_caller]); show _ < 1000; omega))
local macro_rules | `(tactic| k_units) => `(tactic| (show _ < 9900; (try simp only [Around.in1_units, Around.deeper_units, Around.mark_units]); omega))
local macro_rules | `(tactic| walk_at "call type:frozenset nil nil") => `(tactic| (k_here; k_dflt (refine' fset0_K' ?F ?N ?_; (case F => k_asm); (case N => k_asm); k_whole); intro a' h' o' F' N' S' l1; (try k_lt l1); (try k_sweep)))
local macro_rules | `(tactic| walk_at "call type:frozenset cons nil") => `(tactic| (k_here; k_dflt (first
  | (refine' fsetL_K ?F ?N ?m ?x ?hh ?hb ?_; (case F => k_asm); (case N => k_asm); (case m => k_mem); (case x => assumption); (case hh => rfl); (case hb => omega); k_whole)
  | (refine' fsetT_K ?F ?N ?t ?hh ?_; (case F => k_asm); (case N => k_asm); (case t => exact ⟨_, News.get (by k_asm) (by k_mem), rfl, _, rfl⟩); (case hh => rfl); k_whole)); intro a' h' tk' o' F' N' S' l1; (try k_lt l1); (try k_sweep)))
local macro_rules | `(tactic| walk_at "truthy ref") => `(tactic| (k_here; k_dflt (refine' fset_truthy_K ?N ?m ?f ?hn ?_; (case N => k_asm); (case m => k_mem); (case f => assumption); (case hn => omega); k_whole); intro b' tk' hb'))
local macro_rules | `(tactic| walk_at "compareOp In str ref") => `(tactic| (k_here; k_dflt (refine' fset_in_K ?N ?m ?f ?hn ?_; (case N => k_asm); (case m => k_mem); (case f => assumption); (case hn => omega); k_whole); intro tk'))
local macro_rules | `(tactic| walk_at "getMethod ref") => `(tactic| (k_here; k_dflt (first
  | (refine' meth_pattern ?P slot_pattern_match type_pattern_match ?_; (case P => exact PatAt.keeps (by assumption) (Fr.keep (by k_asm))); k_whole)
  | (refine' meth_match ?f slot_match_groups type_match_groups ?_; (case f => exact foundN (by k_asm) (by k_mem) (by k_mem)); k_whole)
  | (refine' meth_match ?f slot_match_end type_match_end ?_; (case f => exact foundN (by k_asm) (by k_mem) (by k_mem)); k_whole))))
local macro_rules | `(tactic| walk_at "call builtin:re.Pattern.match") => `(tactic| (k_here; k_dflt (first
  | (refine' matchK_yes ?F ?N ?P ?g ?hp ?hx ?hm ?hk ?ok ?len ?_; (case F => k_asm); (case N => k_asm); (case hm => assumption); (case P => assumption); (case g => rfl); (case hp => omega); (case hx => omega); (case hk => decide); (case ok => assumption); (case len => exact Nat.le_of_ble_eq_true rfl); k_whole; intro a' T' h' F' N' l1 l2; (try k_lt l1); (try k_lt2 l2); (try k_sweep))
  | (refine' matchK_no ?F ?P ?hp ?hx ?hm ?hk ?_; (case F => k_asm); (case hm => assumption); (case P => assumption); (case hp => omega); (case hx => omega); (case hk => decide); k_whole))))
local macro_rules | `(tactic| walk_at "call builtin:re.Match.groups") => `(tactic| (k_here; k_dflt (refine' groupsK3 ?F ?N ?f ?hx ?_; (case F => k_asm); (case N => k_asm); (case f => exact foundN (by k_asm) (by k_mem) (by k_mem)); (case hx => omega); k_whole); intro T' t1' t2' t3' h' tk' F' N' l1; (try dsimp only [partOf] at N'); (try k_lt l1); (try k_sweep)))
local macro_rules | `(tactic| walk_at "call builtin:re.Match.end") => `(tactic| (k_here; k_dflt (refine' endK ?f ?_; (case f => exact foundN (by k_asm) (by k_mem) (by k_mem)); k_whole)))
local macro_rules | `(tactic| walk_at "truthy str") => `(tactic| (k_here; k_dflt (refine' truthy_text ?a ?b ?_; (case a => omega); (case b => omega); k_whole); intro tk'))
local macro_rules | `(tactic| walk_at "truthy ref") => `(tactic| (k_here; k_dflt (refine' truthy_listK ?N ?m ?hb ?_; (case N => k_asm); (case m => k_mem); (case hb => omega); k_whole); intro tk'))
local macro_rules | `(tactic| walk_at "call ref") => `(tactic| (k_here; k_dflt (first
  | (refine' etags_someK ?B ?F ?N ?X ?T ?P ?hA ?hf ?hke ?hh ?hd ?hu ?ht ?_; (case ht => assumption); (case hA => exact rfl); (case hf => exact rfl); (case hke => exact rfl); (case B => k_asm); (case F => k_asm); (case N => k_asm); (case X => k_asm); (case T => k_asm); (case P => first | assumption | exact PatAt.keeps (by assumption) (Fr.keep (by k_asm))); (case hh => rfl); (case hd => ((try simp only [depth_in1, depth_deeper, depth_caller]); show _ < 500; omega)); (case hu => ((try simp only [Around.in1_units, Around.deeper_units]); show _ < 500; omega)); k_whole; intro h' tk' e' d' a' b' oa' ob' t1' t2' t3' n' nS' nW' F' N' f1' f2' f3' f4'; (try k_sweep))
  | (refine' etags_noneK ?B ?F ?N ?X ?T ?hA ?hf ?hke ?hh ?hd ?hu ?_; (case hA => exact rfl); (case hf => exact rfl); (case hke => exact rfl); (case B => k_asm); (case F => k_asm); (case N => k_asm); (case X => k_asm); (case T => k_asm); (case hh => rfl); (case hd => ((try simp only [depth_in1, depth_deeper, depth_caller]); show _ < 500; omega)); (case hu => ((try simp only [Around.in1_units, Around.deeper_units]); show _ < 500; omega)); k_whole; intro h' tk' e' d' a' b' oa' ob' t1' t2' t3' n' nS' nW' F' N' f1' f2' f3' f4'; (try k_sweep)))))
local macro_rules | `(tactic| walk_at "call builtin:str.startswith") => `(tactic| (k_here; k_dflt (refine' startswith_tup ?h ?_; (case h => exact ⟨_, News.get (by k_asm) (by k_mem), rfl, _, rfl⟩); k_whole)))
local macro_rules | `(tactic| walk_at "call builtin:str.endswith") => `(tactic| (k_here; k_dflt (refine' ends_true ?h ?_; (case h => assumption); k_whole)))
local macro_rules | `(tactic| walk_at "call type:bool") => `(tactic| (k_here; k_dflt (refine' bool_fsetL ?N ?m ?f ?hn ?_; (case N => k_asm); (case m => k_mem); (case f => with_reducible assumption); (case hn => omega); k_whole); intro tk'))
local macro_rules | `(tactic| walk_at "truthy ref") => `(tactic| (k_here; k_dflt (refine' truthy_fsetL ?N ?m ?f ?hn ?_; (case N => k_asm); (case m => k_mem); (case f => with_reducible assumption); (case hn => omega); k_whole); intro tk'))
local macro_rules | `(tactic| walk_at "call type:bool") => `(tactic| (k_here; k_dflt (refine' bool_fset0 ?N ?m ?f ?hn ?_; (case N => k_asm); (case m => k_mem); (case f => with_reducible assumption); (case hn => omega); k_whole); intro tk'))
local macro_rules | `(tactic| walk_at "truthy ref") => `(tactic| (k_here; k_dflt (refine' truthy_fset0 ?N ?m ?f ?hn ?_; (case N => k_asm); (case m => k_mem); (case f => with_reducible assumption); (case hn => omega); k_whole); intro tk'))
local macro_rules | `(tactic| walk_at "getMethod ref") => `(tactic| (k_here; k_dflt (refine' meth_pattern ?P slot_pattern_fullmatch type_pattern_fullmatch ?_; (case P => first | exact PatAt.keeps (by assumption) (Fr.keep (by k_asm)) | exact PatAt.keeps (PatAt.keeps (by assumption) (Fr.keep (by assumption))) (Fr.keep (by k_asm))); k_whole)))
local macro_rules | `(tactic| walk_at "call builtin:re.Pattern.fullmatch") => `(tactic| (k_here; k_dflt (refine' fullK_c (n := 12) ?F ?N ?P ?hx ?hn ?h0 ?h1 ?h2 ?h3 ?_; (case F => k_asm); (case N => k_asm); (case P => first | assumption | exact PatAt.keeps (by assumption) (Fr.keep (by assumption))); (case hx => decide +kernel); (case hn => decide); (case h0 => first | kernel_rfl | rfl); (case h1 => rfl); (case h2 => rfl); (case h3 => rfl); k_whole; intro a' h' F' N')))

local macro_rules | `(tactic| k_ne) => `(tactic| (refine neN ?_; (try dsimp only); first | exact Ap.ne (by with_reducible assumption) | exact Ap.ne' (by with_reducible assumption) | fail "no"))
local macro_rules | `(tactic| k_all) => `(tactic| with_reducible assumption)
local macro_rules | `(tactic| walk_at "subscriptTail Name Slice ref ref") => `(tactic| (k_here; k_dflt (refine' sliceUpLI ?F ?N ?s ?li ?y ?x ?_ ?sb ?t; (case F => k_asm); (case N => k_asm); (case li => with_reducible assumption); (case s => ((repeat (with_reducible refine subT ?_)); exact subR)); (case y => exact Int.fmod_nonneg_of_pos _ (by decide)); (case x => omega); (case sb => with_unfolding_all rfl); (case t => (intro _; with_unfolding_all rfl)); k_whole); intro D' h' zs' F' N' l1 hI'; (try k_lt l1)))
local macro_rules | `(tactic| walk_at "setItem ref int") => `(tactic| (k_here; k_dflt (refine' setLst ?F ?N ?a ?b ?l ?U ?_; (case F => k_asm); (case N => k_asm); (case U => k_upd); (case a => assumption); (case b => assumption); (case l => first | assumption | (rw [List.length_set]; assumption)); k_whole); intro h' F' N'))
local macro_rules | `(tactic| walk_at "subscriptTail Name Name ref int") => `(tactic| (k_here; k_dflt (refine' pickR ?k1 ?k2 ?k3 ?k4 ?_ ?k6; (case k1 => exact listN (by k_asm) (by k_mem)); (case k2 => with_reducible assumption); (case k3 => assumption); (case k4 => omega); (case k6 => with_unfolding_all rfl); k_whole)))

local macro_rules | `(tactic| walk_at "binaryOp Add str str") => `(tactic| (k_here; k_dflt (refine' Rows_add ?_ ?z; (case z => exact add_ok (by assumption) (by omega)); intro t' tk')))
local macro_rules | `(tactic| walk_at "ite") => `(tactic| (k_here; (with_reducible refine ite_pos ?e ?_); (case e => with_reducible assumption)))
local macro_rules | `(tactic| walk_at "binaryOp Mod int int") => `(tactic| (k_here; k_dflt (refine' modK ?e ?n ?_; (case e => with_reducible assumption); (case n => decide); k_whole)))
local macro_rules | `(tactic| walk_at "subscriptTail Name Name ref int") => `(tactic| (k_here; k_dflt (first
  | (refine' pickR ?k1 ?k2 ?k3 ?k4 ?_ ?k6; (case k1 => exact listN (by k_asm) (by k_mem)); (case k2 => with_reducible assumption); (case k3 => assumption); (case k4 => omega); (case k6 => with_unfolding_all rfl); k_whole)
  | (refine' dictGet ?N ?p ?d ?l ?_ ?s ?g; (case N => k_asm); (case p => k_mem); (case d => with_reducible assumption); (case l => with_reducible assumption); (case s => with_unfolding_all rfl); (case g => (intro _; with_unfolding_all rfl)); k_whole)
  | fail "no pick")))
local macro_rules | `(tactic| walk_at "binaryOp Add ref ref") => `(tactic| (k_here; k_dflt (refine' addLI1 ?F ?N ?s ?li ?b ?x ?_; (case F => k_asm); (case N => k_asm); (case li => with_reducible assumption); (case s => ((repeat (with_reducible refine subT ?_)); exact subR)); (case b => k_mem); (case x => omega); k_whole); intro D' h' zs' F' N' l1 hI'; (try k_lt l1)))
local macro_rules | `(tactic| walk_at "setItem ref int") => `(tactic| (k_here; k_dflt (first
  | (refine' setLst ?F ?N ?a ?b ?l ?U ?_; (case F => k_asm); (case N => k_asm); (case U => k_upd); (case a => assumption); (case b => assumption); (case l => first | assumption | (rw [List.length_set]; assumption)); k_whole; intro h' F' N')
  | (refine' dictSet ?F ?N ?U ?d ?z ?_; (case F => k_asm); (case N => k_asm); (case U => k_updF); (case d => with_reducible assumption); (case z => omega); k_whole; intro h' o' F' N' hd'; (try dsimp only at N'))
  | fail "no set")))

local macro_rules | `(tactic| k_ne) => `(tactic| (refine neN ?_; (try dsimp only); first | exact Ap.ne (by with_reducible assumption) | exact Ap.ne' (by with_reducible assumption) | exact apMem (by with_reducible assumption) (by k_mem) | exact apMem' (by with_reducible assumption) (by k_mem) | fail "no"))
local macro_rules | `(tactic| walk_at "binaryOp Add ref ref") => `(tactic| (k_here; k_dflt (refine' addS ?F ?N ?a ?b ?i ?l ?_; (case F => k_asm); (case N => k_asm); (case i => with_reducible assumption); (case a => k_mem); (case b => k_mem); (case l => (rw [List.length_map]; omega)); k_whole); intro D' h' zs' F' N' l1 hI'; (try k_lt l1)))
local macro_rules | `(tactic| walk_at "compareOp NotEq ref ref") => `(tactic| (k_here; k_dflt (refine' neS ?a ?b ?i ?r ?o ?u ?_; (case i => with_reducible assumption); (case r => with_reducible assumption); (case o => with_reducible assumption); (case a => exact listN (by k_asm) (by k_mem)); (case b => exact ⟨_, News.get (by k_asm) (by k_mem), rfl, _, rfl⟩); (case u => k_units); k_whole)))
local macro_rules | `(tactic| walk_at "subscriptTail") => `(tactic| (k_here; (with_reducible show wpAny _ _ (subscriptTail _ _ (Value.ref _) (Value.int _ _)) _ _ _); k_dflt (refine' sepK ?k1 ?k3 ?k4 ?_ ?k6; (case k1 => exact ⟨_, News.get (by k_asm) (by k_mem), rfl, _, rfl⟩); (case k3 => exact Int.fmod_nonneg_of_pos _ (by decide)); (case k4 => exact Int.fmod_lt_of_pos _ (by decide)); (case k6 => with_unfolding_all rfl); k_whole); intro x' t' hx'))
local macro_rules | `(tactic| walk_at "call builtin:str.join") => `(tactic| (k_here; k_dflt (refine' joinS ?l ?i ?s ?w ?_; (case i => with_reducible assumption); (case w => with_reducible assumption); (case l => exact listN (by k_asm) (by k_mem)); (case s => assumption); k_whole); intro t' tk'))

def st2 : Stmt := sndOf body0
def st3 : Stmt := third body0

theorem asked1 {w : World} {h₀ : Heap} {s : Shared} {lz : List Str} {mean : ExcName → Option Value} {mg mb : Str → Option Value} {fa : Addr} {cd : Value} {E : Value → Shared → Prop} {Q : Flow → Shared → Prop}
    {L I D Sa Ba Pa d da db pg lt : Nat} {oI o2 oH oD q qa qb : Obj} {sv bv pv : List Value} {b p ba pa bb pb : Value} {nS nb np i v : Nat} {rest : List (Addr × Obj)} {H : Nat → List Int} {tv tc td tx tn tdr tk : Tok} {u : Str → Option Value} {c dr de : Int} {x : Str} {Dt nt : Nat} {ys : List Value} {ks : List Int} {rs : List Stmt}
    (B : Below callerA h₀ [] h₀) (X : (hd1.heap_39 w.params).In h₀) (T : Top hd1.view_39 lz mean mg mb h₀)
    (F : Fr h₀ L s.heap fun y => if y = "told" then some (.ref Dt) else if y = "store" then some (.ref d) else if y = "now" then some (.str (Str.ofString "\"" ++ (x ++ Str.ofString (toString (v : Int))) ++ Str.ofString "\"") tn) else if y = "deed" then some (.int de td) else if y = "client" then some (.int c tc) else if y = "k" then some (.int (i : Int) tk) else
      if y = "good" then some (.bool true) else if y = "parts" then some (.ref Pa) else if y = "bases" then some (.ref Ba) else if y = "stores" then some (.ref Sa) else if y = "page" then some (.ref pg) else
      if y = "version" then some (.int (v : Int) tv) else if y = "let" then some (.ref lt) else if y = "cells" then some (.ref D) else u y)
    (N : News h₀ L s.heap ((Dt, listOf ys.toArray nt) :: (I, oI) :: (L + 1 + 1, o2) :: (L + 1, oH) :: (D, oD) :: (Sa, listOf sv.toArray nS) :: (Ba, listOf bv.toArray nb) :: (Pa, listOf pv.toArray np) :: (d, q) :: (da, qa) :: (db, qb) :: rest))
    (hoH : oH.data = .cell (some (.str x tx))) (ho2 : o2.data = .cell (some (.int dr tdr))) (hx : HeadOk x) (hc0 : 0 ≤ c) (hc3 : c < 3) (hi : i < 16) (hv : v ≤ i)
    (hH : ∀ j, j ≤ v → (H j).length = 3 + j) (hpg : LI rest pg (H v)) (hlt : LI rest lt (H v))
    (gq : ClientOk PySem.Challenge.rw_ez0420_01.row.prog w H v rest q b p) (ga : ClientOk PySem.Challenge.rw_ez0420_01.row.prog w H v rest qa ba pa) (gb : ClientOk PySem.Challenge.rw_ez0420_01.row.prog w H v rest qb bb pb)
    (sl : sv.length = 3) (bl : bv.length = 3) (pl : pv.length = 3) (hs : sv[c.toNat]? = some (.ref d)) (hb : bv[c.toNat]? = some b) (hp : pv[c.toNat]? = some p)
    (hA : Apart1 I (L + 1) (L + 1 + 1) D Sa Ba Pa d da db) (hd1' : d ≠ 1) (hrest : ∀ p ∈ rest, p.1 ≠ I ∧ p.1 ≠ L + 1 + 1 ∧ p.1 ≠ Ba ∧ p.1 ≠ Pa ∧ p.1 ≠ d ∧ p.1 ≠ da ∧ p.1 ≠ db)
 (apD : ∀ p ∈ ((I, oI) :: (L + 1 + 1, o2) :: (L + 1, oH) :: (D, oD) :: (Sa, listOf sv.toArray nS) :: (Ba, listOf bv.toArray nb) :: (Pa, listOf pv.toArray np) :: (d, q) :: (da, qa) :: (db, qb) :: rest), Ap p.1 Dt) (hys : StrsAre ys (ks.map (toldF x dr))) (hks : ∀ k ∈ ks, ∃ j : Nat, k = (j : Int) ∧ j ≤ 16) (hkl : ks.length ≤ 20) (hw : Int.fmod dr 2 = 1)
    (k1 : ks = [] → ∀ (h' : Heap) (tk' : Nat) (to' : Option Value), Fr h₀ L h' (fun y => if y = "asked" then some .none else if y = "told" then to' else if y = "store" then some (.ref d) else if y = "now" then some (.str (Str.ofString "\"" ++ (x ++ Str.ofString (toString (v : Int))) ++ Str.ofString "\"") tn) else if y = "deed" then some (.int de td) else if y = "client" then some (.int c tc) else if y = "k" then some (.int (i : Int) tk) else
      if y = "good" then some (.bool true) else if y = "parts" then some (.ref Pa) else if y = "bases" then some (.ref Ba) else if y = "stores" then some (.ref Sa) else if y = "page" then some (.ref pg) else
      if y = "version" then some (.int (v : Int) tv) else if y = "let" then some (.ref lt) else if y = "cells" then some (.ref D) else u y) → News h₀ L h' ((I, oI) :: (L + 1 + 1, o2) :: (L + 1, oH) :: (D, oD) :: (Sa, listOf sv.toArray nS) :: (Ba, listOf bv.toArray nb) :: (Pa, listOf pv.toArray np) :: (d, q) :: (da, qa) :: (db, qb) :: rest) → wpAny (model PySem.Challenge.rw_ez0420_01.row.prog w) (callerA.deeper (envOfC (Str.ofString "law") lawScope L fa cd)) (execs rs (envOfC (Str.ofString "law") lawScope L fa cd)) Q E { s with heap := h', toks := tk' })
    (k2 : ∀ (pre : Bool) (sep : Str) (t' : Nat) (h' : Heap) (tk' : Nat) (to' : Option Value), SepOk sep → tolds pre x dr ks ≠ [] → Fr h₀ L h' (fun y => if y = "asked" then some (.str (Txt.join sep ((tolds pre x dr ks).map quoteS)) t') else if y = "told" then to' else if y = "store" then some (.ref d) else if y = "now" then some (.str (Str.ofString "\"" ++ (x ++ Str.ofString (toString (v : Int))) ++ Str.ofString "\"") tn) else if y = "deed" then some (.int de td) else if y = "client" then some (.int c tc) else if y = "k" then some (.int (i : Int) tk) else
      if y = "good" then some (.bool true) else if y = "parts" then some (.ref Pa) else if y = "bases" then some (.ref Ba) else if y = "stores" then some (.ref Sa) else if y = "page" then some (.ref pg) else
      if y = "version" then some (.int (v : Int) tv) else if y = "let" then some (.ref lt) else if y = "cells" then some (.ref D) else u y) → News h₀ L h' ((I, oI) :: (L + 1 + 1, o2) :: (L + 1, oH) :: (D, oD) :: (Sa, listOf sv.toArray nS) :: (Ba, listOf bv.toArray nb) :: (Pa, listOf pv.toArray np) :: (d, q) :: (da, qa) :: (db, qb) :: rest) → wpAny (model PySem.Challenge.rw_ez0420_01.row.prog w) (callerA.deeper (envOfC (Str.ofString "law") lawScope L fa cd)) (execs rs (envOfC (Str.ofString "law") lawScope L fa cd)) Q E { s with heap := h', toks := tk' }) :
    wpAny (model PySem.Challenge.rw_ez0420_01.row.prog w) (callerA.deeper (envOfC (Str.ofString "law") lawScope L fa cd)) (execs (st2 :: st3 :: rs) (envOfC (Str.ofString "law") lawScope L fa cd)) Q E s := by
  show wpAny _ (callerA.deeper (envOfC _ (Scope.mk _ _ _ _ _) _ _ _)) (execs (Stmt.If _ _ _ _ :: Stmt.Assign _ _ _ :: _) (envOfC _ (Scope.mk _ _ _ _ _) _ _ _)) _ _ _

  revert X; k_fill; intro X
  obtain ⟨⟨aI1, aI2, aI3, aI4, aI5, aI6, aI7, aI8, aI9⟩, ⟨ac1, ac2, ac3, ac4, ac5, ac6, ac7, ac8⟩, ⟨aB1, aB2, aB3, aB4, aB5, aB6, aB7⟩, ⟨aP1, aP2, aP3, aP4, aP5, aP6⟩, ⟨ad1, ad2, ad3, ad4, ad5⟩⟩ := hA.hide
  clear hA
  have NQ := newsSub N (subT subR)
  have z0 := ltN (Heap.lt_size (NQ _ (.head _)).1)
  have z1 := ltN (Heap.lt_size (NQ _ (.tail _ (.head _))).1)
  have z2 := ltN (Heap.lt_size (NQ _ (.tail _ (.tail _ (.head _)))).1)
  have z3 := ltN (Heap.lt_size (NQ _ (.tail _ (.tail _ (.tail _ (.head _))))).1)
  have z4 := ltN (Heap.lt_size (NQ _ (.tail _ (.tail _ (.tail _ (.tail _ (.head _)))))).1)
  have z5 := ltN (Heap.lt_size (NQ _ (.tail _ (.tail _ (.tail _ (.tail _ (.tail _ (.head _))))))).1)
  have z6 := ltN (Heap.lt_size (NQ _ (.tail _ (.tail _ (.tail _ (.tail _ (.tail _ (.tail _ (.head _)))))))).1)
  have z7 := ltN (Heap.lt_size (NQ _ (.tail _ (.tail _ (.tail _ (.tail _ (.tail _ (.tail _ (.tail _ (.head _))))))))).1)
  have z8 := ltN (Heap.lt_size (NQ _ (.tail _ (.tail _ (.tail _ (.tail _ (.tail _ (.tail _ (.tail _ (.tail _ (.head _)))))))))).1)
  have z9 := ltN (Heap.lt_size (NQ _ (.tail _ (.tail _ (.tail _ (.tail _ (.tail _ (.tail _ (.tail _ (.tail _ (.tail _ (.head _))))))))))).1)
  dsimp only at z0 z1 z2 z3 z4 z5 z6 z7 z8 z9
  have rI := fun p hp => (hrest p hp).1
  have r2 := fun p hp => (hrest p hp).2.1
  have rB := fun p hp => (hrest p hp).2.2.1
  have rP := fun p hp => (hrest p hp).2.2.2.1
  have rd := fun p hp => (hrest p hp).2.2.2.2.1
  have hlv := hH v (Nat.le_refl _)
  clear NQ

  have e1 := told_map true x dr ks
  have hwt := told_weight (pre := true) (dr := dr) hx hks hkl
  rw [e1] at hwt
  have hok := told_ok (pre := true) (dr := dr) hx hks
  simp only [if_true, List.singleton_append] at hwt hok e1
  have hne : (!(Str.ofString "\"none\"" :: ks.map (toldF x dr)).isEmpty) = true := rfl
  have k2' := k2 true
  rw [e1] at k2'
  k_steps
  rename News _ _ _ _ => lN
  rename Fr _ _ _ _ => lF
  exact k2' _ _ _ _ _ (by assumption) (fun e => nomatch e) (ask_twice lF) (newsSub lN (by (repeat (first | with_reducible exact subR | with_reducible refine subT ?_))))

theorem asked2 {w : World} {h₀ : Heap} {s : Shared} {lz : List Str} {mean : ExcName → Option Value} {mg mb : Str → Option Value} {fa : Addr} {cd : Value} {E : Value → Shared → Prop} {Q : Flow → Shared → Prop}
    {L I D Sa Ba Pa d da db pg lt : Nat} {oI o2 oH oD q qa qb : Obj} {sv bv pv : List Value} {b p ba pa bb pb : Value} {nS nb np i v : Nat} {rest : List (Addr × Obj)} {H : Nat → List Int} {tv tc td tx tn tdr tk : Tok} {u : Str → Option Value} {c dr de : Int} {x : Str} {Dt nt : Nat} {ys : List Value} {ks : List Int} {rs : List Stmt}
    (B : Below callerA h₀ [] h₀) (X : (hd1.heap_39 w.params).In h₀) (T : Top hd1.view_39 lz mean mg mb h₀)
    (F : Fr h₀ L s.heap fun y => if y = "told" then some (.ref Dt) else if y = "store" then some (.ref d) else if y = "now" then some (.str (Str.ofString "\"" ++ (x ++ Str.ofString (toString (v : Int))) ++ Str.ofString "\"") tn) else if y = "deed" then some (.int de td) else if y = "client" then some (.int c tc) else if y = "k" then some (.int (i : Int) tk) else
      if y = "good" then some (.bool true) else if y = "parts" then some (.ref Pa) else if y = "bases" then some (.ref Ba) else if y = "stores" then some (.ref Sa) else if y = "page" then some (.ref pg) else
      if y = "version" then some (.int (v : Int) tv) else if y = "let" then some (.ref lt) else if y = "cells" then some (.ref D) else u y)
    (N : News h₀ L s.heap ((Dt, listOf ys.toArray nt) :: (I, oI) :: (L + 1 + 1, o2) :: (L + 1, oH) :: (D, oD) :: (Sa, listOf sv.toArray nS) :: (Ba, listOf bv.toArray nb) :: (Pa, listOf pv.toArray np) :: (d, q) :: (da, qa) :: (db, qb) :: rest))
    (hoH : oH.data = .cell (some (.str x tx))) (ho2 : o2.data = .cell (some (.int dr tdr))) (hx : HeadOk x) (hc0 : 0 ≤ c) (hc3 : c < 3) (hi : i < 16) (hv : v ≤ i)
    (hH : ∀ j, j ≤ v → (H j).length = 3 + j) (hpg : LI rest pg (H v)) (hlt : LI rest lt (H v))
    (gq : ClientOk PySem.Challenge.rw_ez0420_01.row.prog w H v rest q b p) (ga : ClientOk PySem.Challenge.rw_ez0420_01.row.prog w H v rest qa ba pa) (gb : ClientOk PySem.Challenge.rw_ez0420_01.row.prog w H v rest qb bb pb)
    (sl : sv.length = 3) (bl : bv.length = 3) (pl : pv.length = 3) (hs : sv[c.toNat]? = some (.ref d)) (hb : bv[c.toNat]? = some b) (hp : pv[c.toNat]? = some p)
    (hA : Apart1 I (L + 1) (L + 1 + 1) D Sa Ba Pa d da db) (hd1' : d ≠ 1) (hrest : ∀ p ∈ rest, p.1 ≠ I ∧ p.1 ≠ L + 1 + 1 ∧ p.1 ≠ Ba ∧ p.1 ≠ Pa ∧ p.1 ≠ d ∧ p.1 ≠ da ∧ p.1 ≠ db)
 (apD : ∀ p ∈ ((I, oI) :: (L + 1 + 1, o2) :: (L + 1, oH) :: (D, oD) :: (Sa, listOf sv.toArray nS) :: (Ba, listOf bv.toArray nb) :: (Pa, listOf pv.toArray np) :: (d, q) :: (da, qa) :: (db, qb) :: rest), Ap p.1 Dt) (hys : StrsAre ys (ks.map (toldF x dr))) (hks : ∀ k ∈ ks, ∃ j : Nat, k = (j : Int) ∧ j ≤ 16) (hkl : ks.length ≤ 20) (hw : Int.fmod dr 2 = 0) (hk0 : ks ≠ [])
    (k1 : ks = [] → ∀ (h' : Heap) (tk' : Nat) (to' : Option Value), Fr h₀ L h' (fun y => if y = "asked" then some .none else if y = "told" then to' else if y = "store" then some (.ref d) else if y = "now" then some (.str (Str.ofString "\"" ++ (x ++ Str.ofString (toString (v : Int))) ++ Str.ofString "\"") tn) else if y = "deed" then some (.int de td) else if y = "client" then some (.int c tc) else if y = "k" then some (.int (i : Int) tk) else
      if y = "good" then some (.bool true) else if y = "parts" then some (.ref Pa) else if y = "bases" then some (.ref Ba) else if y = "stores" then some (.ref Sa) else if y = "page" then some (.ref pg) else
      if y = "version" then some (.int (v : Int) tv) else if y = "let" then some (.ref lt) else if y = "cells" then some (.ref D) else u y) → News h₀ L h' ((I, oI) :: (L + 1 + 1, o2) :: (L + 1, oH) :: (D, oD) :: (Sa, listOf sv.toArray nS) :: (Ba, listOf bv.toArray nb) :: (Pa, listOf pv.toArray np) :: (d, q) :: (da, qa) :: (db, qb) :: rest) → wpAny (model PySem.Challenge.rw_ez0420_01.row.prog w) (callerA.deeper (envOfC (Str.ofString "law") lawScope L fa cd)) (execs rs (envOfC (Str.ofString "law") lawScope L fa cd)) Q E { s with heap := h', toks := tk' })
    (k2 : ∀ (pre : Bool) (sep : Str) (t' : Nat) (h' : Heap) (tk' : Nat) (to' : Option Value), SepOk sep → tolds pre x dr ks ≠ [] → Fr h₀ L h' (fun y => if y = "asked" then some (.str (Txt.join sep ((tolds pre x dr ks).map quoteS)) t') else if y = "told" then to' else if y = "store" then some (.ref d) else if y = "now" then some (.str (Str.ofString "\"" ++ (x ++ Str.ofString (toString (v : Int))) ++ Str.ofString "\"") tn) else if y = "deed" then some (.int de td) else if y = "client" then some (.int c tc) else if y = "k" then some (.int (i : Int) tk) else
      if y = "good" then some (.bool true) else if y = "parts" then some (.ref Pa) else if y = "bases" then some (.ref Ba) else if y = "stores" then some (.ref Sa) else if y = "page" then some (.ref pg) else
      if y = "version" then some (.int (v : Int) tv) else if y = "let" then some (.ref lt) else if y = "cells" then some (.ref D) else u y) → News h₀ L h' ((I, oI) :: (L + 1 + 1, o2) :: (L + 1, oH) :: (D, oD) :: (Sa, listOf sv.toArray nS) :: (Ba, listOf bv.toArray nb) :: (Pa, listOf pv.toArray np) :: (d, q) :: (da, qa) :: (db, qb) :: rest) → wpAny (model PySem.Challenge.rw_ez0420_01.row.prog w) (callerA.deeper (envOfC (Str.ofString "law") lawScope L fa cd)) (execs rs (envOfC (Str.ofString "law") lawScope L fa cd)) Q E { s with heap := h', toks := tk' }) :
    wpAny (model PySem.Challenge.rw_ez0420_01.row.prog w) (callerA.deeper (envOfC (Str.ofString "law") lawScope L fa cd)) (execs (st2 :: st3 :: rs) (envOfC (Str.ofString "law") lawScope L fa cd)) Q E s := by
  show wpAny _ (callerA.deeper (envOfC _ (Scope.mk _ _ _ _ _) _ _ _)) (execs (Stmt.If _ _ _ _ :: Stmt.Assign _ _ _ :: _) (envOfC _ (Scope.mk _ _ _ _ _) _ _ _)) _ _ _

  revert X; k_fill; intro X
  obtain ⟨⟨aI1, aI2, aI3, aI4, aI5, aI6, aI7, aI8, aI9⟩, ⟨ac1, ac2, ac3, ac4, ac5, ac6, ac7, ac8⟩, ⟨aB1, aB2, aB3, aB4, aB5, aB6, aB7⟩, ⟨aP1, aP2, aP3, aP4, aP5, aP6⟩, ⟨ad1, ad2, ad3, ad4, ad5⟩⟩ := hA.hide
  clear hA
  have NQ := newsSub N (subT subR)
  have z0 := ltN (Heap.lt_size (NQ _ (.head _)).1)
  have z1 := ltN (Heap.lt_size (NQ _ (.tail _ (.head _))).1)
  have z2 := ltN (Heap.lt_size (NQ _ (.tail _ (.tail _ (.head _)))).1)
  have z3 := ltN (Heap.lt_size (NQ _ (.tail _ (.tail _ (.tail _ (.head _))))).1)
  have z4 := ltN (Heap.lt_size (NQ _ (.tail _ (.tail _ (.tail _ (.tail _ (.head _)))))).1)
  have z5 := ltN (Heap.lt_size (NQ _ (.tail _ (.tail _ (.tail _ (.tail _ (.tail _ (.head _))))))).1)
  have z6 := ltN (Heap.lt_size (NQ _ (.tail _ (.tail _ (.tail _ (.tail _ (.tail _ (.tail _ (.head _)))))))).1)
  have z7 := ltN (Heap.lt_size (NQ _ (.tail _ (.tail _ (.tail _ (.tail _ (.tail _ (.tail _ (.tail _ (.head _))))))))).1)
  have z8 := ltN (Heap.lt_size (NQ _ (.tail _ (.tail _ (.tail _ (.tail _ (.tail _ (.tail _ (.tail _ (.tail _ (.head _)))))))))).1)
  have z9 := ltN (Heap.lt_size (NQ _ (.tail _ (.tail _ (.tail _ (.tail _ (.tail _ (.tail _ (.tail _ (.tail _ (.tail _ (.head _))))))))))).1)
  dsimp only at z0 z1 z2 z3 z4 z5 z6 z7 z8 z9
  have rI := fun p hp => (hrest p hp).1
  have r2 := fun p hp => (hrest p hp).2.1
  have rB := fun p hp => (hrest p hp).2.2.1
  have rP := fun p hp => (hrest p hp).2.2.2.1
  have rd := fun p hp => (hrest p hp).2.2.2.2.1
  have hlv := hH v (Nat.le_refl _)
  clear NQ

  have e1 := told_map false x dr ks
  have hwt := told_weight (pre := false) (dr := dr) hx hks hkl
  rw [e1] at hwt
  have hok := told_ok (pre := false) (dr := dr) hx hks
  simp only [Bool.false_eq_true, if_false, List.nil_append] at hwt hok e1
  have hne : (!(ks.map (toldF x dr)).isEmpty) = true := by
    cases ks with
    | nil => exact absurd rfl hk0
    | cons a r => rfl
  have hnz : tolds false x dr ks ≠ [] := fun e => by
    rw [e] at e1
    cases ks with
    | nil => exact hk0 rfl
    | cons a r => cases e1
  have k2' := k2 false
  rw [e1] at k2'
  k_steps
  rename News _ _ _ _ => lN
  rename Fr _ _ _ _ => lF
  exact k2' _ _ _ _ _ (by assumption) hnz lF (newsSub lN (by (repeat (first | with_reducible exact subR | with_reducible refine subT ?_))))

theorem asked3 {w : World} {h₀ : Heap} {s : Shared} {lz : List Str} {mean : ExcName → Option Value} {mg mb : Str → Option Value} {fa : Addr} {cd : Value} {E : Value → Shared → Prop} {Q : Flow → Shared → Prop}
    {L I D Sa Ba Pa d da db pg lt : Nat} {oI o2 oH oD q qa qb : Obj} {sv bv pv : List Value} {b p ba pa bb pb : Value} {nS nb np i v : Nat} {rest : List (Addr × Obj)} {H : Nat → List Int} {tv tc td tx tn tdr tk : Tok} {u : Str → Option Value} {c dr de : Int} {x : Str} {Dt nt : Nat} {ys : List Value} {ks : List Int} {rs : List Stmt}
    (B : Below callerA h₀ [] h₀) (X : (hd1.heap_39 w.params).In h₀) (T : Top hd1.view_39 lz mean mg mb h₀)
    (F : Fr h₀ L s.heap fun y => if y = "told" then some (.ref Dt) else if y = "store" then some (.ref d) else if y = "now" then some (.str (Str.ofString "\"" ++ (x ++ Str.ofString (toString (v : Int))) ++ Str.ofString "\"") tn) else if y = "deed" then some (.int de td) else if y = "client" then some (.int c tc) else if y = "k" then some (.int (i : Int) tk) else
      if y = "good" then some (.bool true) else if y = "parts" then some (.ref Pa) else if y = "bases" then some (.ref Ba) else if y = "stores" then some (.ref Sa) else if y = "page" then some (.ref pg) else
      if y = "version" then some (.int (v : Int) tv) else if y = "let" then some (.ref lt) else if y = "cells" then some (.ref D) else u y)
    (N : News h₀ L s.heap ((Dt, listOf ys.toArray nt) :: (I, oI) :: (L + 1 + 1, o2) :: (L + 1, oH) :: (D, oD) :: (Sa, listOf sv.toArray nS) :: (Ba, listOf bv.toArray nb) :: (Pa, listOf pv.toArray np) :: (d, q) :: (da, qa) :: (db, qb) :: rest))
    (hoH : oH.data = .cell (some (.str x tx))) (ho2 : o2.data = .cell (some (.int dr tdr))) (hx : HeadOk x) (hc0 : 0 ≤ c) (hc3 : c < 3) (hi : i < 16) (hv : v ≤ i)
    (hH : ∀ j, j ≤ v → (H j).length = 3 + j) (hpg : LI rest pg (H v)) (hlt : LI rest lt (H v))
    (gq : ClientOk PySem.Challenge.rw_ez0420_01.row.prog w H v rest q b p) (ga : ClientOk PySem.Challenge.rw_ez0420_01.row.prog w H v rest qa ba pa) (gb : ClientOk PySem.Challenge.rw_ez0420_01.row.prog w H v rest qb bb pb)
    (sl : sv.length = 3) (bl : bv.length = 3) (pl : pv.length = 3) (hs : sv[c.toNat]? = some (.ref d)) (hb : bv[c.toNat]? = some b) (hp : pv[c.toNat]? = some p)
    (hA : Apart1 I (L + 1) (L + 1 + 1) D Sa Ba Pa d da db) (hd1' : d ≠ 1) (hrest : ∀ p ∈ rest, p.1 ≠ I ∧ p.1 ≠ L + 1 + 1 ∧ p.1 ≠ Ba ∧ p.1 ≠ Pa ∧ p.1 ≠ d ∧ p.1 ≠ da ∧ p.1 ≠ db)
 (apD : ∀ p ∈ ((I, oI) :: (L + 1 + 1, o2) :: (L + 1, oH) :: (D, oD) :: (Sa, listOf sv.toArray nS) :: (Ba, listOf bv.toArray nb) :: (Pa, listOf pv.toArray np) :: (d, q) :: (da, qa) :: (db, qb) :: rest), Ap p.1 Dt) (hys : StrsAre ys (ks.map (toldF x dr))) (hks : ∀ k ∈ ks, ∃ j : Nat, k = (j : Int) ∧ j ≤ 16) (hkl : ks.length ≤ 20) (hw : Int.fmod dr 2 = 0) (hk0 : ks = [])
    (k1 : ks = [] → ∀ (h' : Heap) (tk' : Nat) (to' : Option Value), Fr h₀ L h' (fun y => if y = "asked" then some .none else if y = "told" then to' else if y = "store" then some (.ref d) else if y = "now" then some (.str (Str.ofString "\"" ++ (x ++ Str.ofString (toString (v : Int))) ++ Str.ofString "\"") tn) else if y = "deed" then some (.int de td) else if y = "client" then some (.int c tc) else if y = "k" then some (.int (i : Int) tk) else
      if y = "good" then some (.bool true) else if y = "parts" then some (.ref Pa) else if y = "bases" then some (.ref Ba) else if y = "stores" then some (.ref Sa) else if y = "page" then some (.ref pg) else
      if y = "version" then some (.int (v : Int) tv) else if y = "let" then some (.ref lt) else if y = "cells" then some (.ref D) else u y) → News h₀ L h' ((I, oI) :: (L + 1 + 1, o2) :: (L + 1, oH) :: (D, oD) :: (Sa, listOf sv.toArray nS) :: (Ba, listOf bv.toArray nb) :: (Pa, listOf pv.toArray np) :: (d, q) :: (da, qa) :: (db, qb) :: rest) → wpAny (model PySem.Challenge.rw_ez0420_01.row.prog w) (callerA.deeper (envOfC (Str.ofString "law") lawScope L fa cd)) (execs rs (envOfC (Str.ofString "law") lawScope L fa cd)) Q E { s with heap := h', toks := tk' })
    (k2 : ∀ (pre : Bool) (sep : Str) (t' : Nat) (h' : Heap) (tk' : Nat) (to' : Option Value), SepOk sep → tolds pre x dr ks ≠ [] → Fr h₀ L h' (fun y => if y = "asked" then some (.str (Txt.join sep ((tolds pre x dr ks).map quoteS)) t') else if y = "told" then to' else if y = "store" then some (.ref d) else if y = "now" then some (.str (Str.ofString "\"" ++ (x ++ Str.ofString (toString (v : Int))) ++ Str.ofString "\"") tn) else if y = "deed" then some (.int de td) else if y = "client" then some (.int c tc) else if y = "k" then some (.int (i : Int) tk) else
      if y = "good" then some (.bool true) else if y = "parts" then some (.ref Pa) else if y = "bases" then some (.ref Ba) else if y = "stores" then some (.ref Sa) else if y = "page" then some (.ref pg) else
      if y = "version" then some (.int (v : Int) tv) else if y = "let" then some (.ref lt) else if y = "cells" then some (.ref D) else u y) → News h₀ L h' ((I, oI) :: (L + 1 + 1, o2) :: (L + 1, oH) :: (D, oD) :: (Sa, listOf sv.toArray nS) :: (Ba, listOf bv.toArray nb) :: (Pa, listOf pv.toArray np) :: (d, q) :: (da, qa) :: (db, qb) :: rest) → wpAny (model PySem.Challenge.rw_ez0420_01.row.prog w) (callerA.deeper (envOfC (Str.ofString "law") lawScope L fa cd)) (execs rs (envOfC (Str.ofString "law") lawScope L fa cd)) Q E { s with heap := h', toks := tk' }) :
    wpAny (model PySem.Challenge.rw_ez0420_01.row.prog w) (callerA.deeper (envOfC (Str.ofString "law") lawScope L fa cd)) (execs (st2 :: st3 :: rs) (envOfC (Str.ofString "law") lawScope L fa cd)) Q E s := by
  show wpAny _ (callerA.deeper (envOfC _ (Scope.mk _ _ _ _ _) _ _ _)) (execs (Stmt.If _ _ _ _ :: Stmt.Assign _ _ _ :: _) (envOfC _ (Scope.mk _ _ _ _ _) _ _ _)) _ _ _

  revert X; k_fill; intro X
  obtain ⟨⟨aI1, aI2, aI3, aI4, aI5, aI6, aI7, aI8, aI9⟩, ⟨ac1, ac2, ac3, ac4, ac5, ac6, ac7, ac8⟩, ⟨aB1, aB2, aB3, aB4, aB5, aB6, aB7⟩, ⟨aP1, aP2, aP3, aP4, aP5, aP6⟩, ⟨ad1, ad2, ad3, ad4, ad5⟩⟩ := hA.hide
  clear hA
  have NQ := newsSub N (subT subR)
  have z0 := ltN (Heap.lt_size (NQ _ (.head _)).1)
  have z1 := ltN (Heap.lt_size (NQ _ (.tail _ (.head _))).1)
  have z2 := ltN (Heap.lt_size (NQ _ (.tail _ (.tail _ (.head _)))).1)
  have z3 := ltN (Heap.lt_size (NQ _ (.tail _ (.tail _ (.tail _ (.head _))))).1)
  have z4 := ltN (Heap.lt_size (NQ _ (.tail _ (.tail _ (.tail _ (.tail _ (.head _)))))).1)
  have z5 := ltN (Heap.lt_size (NQ _ (.tail _ (.tail _ (.tail _ (.tail _ (.tail _ (.head _))))))).1)
  have z6 := ltN (Heap.lt_size (NQ _ (.tail _ (.tail _ (.tail _ (.tail _ (.tail _ (.tail _ (.head _)))))))).1)
  have z7 := ltN (Heap.lt_size (NQ _ (.tail _ (.tail _ (.tail _ (.tail _ (.tail _ (.tail _ (.tail _ (.head _))))))))).1)
  have z8 := ltN (Heap.lt_size (NQ _ (.tail _ (.tail _ (.tail _ (.tail _ (.tail _ (.tail _ (.tail _ (.tail _ (.head _)))))))))).1)
  have z9 := ltN (Heap.lt_size (NQ _ (.tail _ (.tail _ (.tail _ (.tail _ (.tail _ (.tail _ (.tail _ (.tail _ (.tail _ (.head _))))))))))).1)
  dsimp only at z0 z1 z2 z3 z4 z5 z6 z7 z8 z9
  have rI := fun p hp => (hrest p hp).1
  have r2 := fun p hp => (hrest p hp).2.1
  have rB := fun p hp => (hrest p hp).2.2.1
  have rP := fun p hp => (hrest p hp).2.2.2.1
  have rd := fun p hp => (hrest p hp).2.2.2.2.1
  have hlv := hH v (Nat.le_refl _)
  clear NQ

  subst hk0
  have hok : ∀ y ∈ ([] : List Int).map (toldF x dr), PyData.strOk y = true := fun y hy => nomatch hy
  have hne : (!(([] : List Int).map (toldF x dr)).isEmpty) = false := rfl
  k_steps
  rename News _ _ _ _ => lN
  rename Fr _ _ _ _ => lF
  exact k1 rfl _ _ _ lF (newsSub lN (by (repeat (first | with_reducible exact subR | with_reducible refine subT ?_))))
end Mine
end
section
open PySem PySem.W PyProof.Rows
namespace Mine
local macro_rules | `(tactic| walk_at "mine pad 0") => `(tactic| fail "pad")
local macro_rules | `(tactic| walk_at "mine pad 1") => `(tactic| fail "pad")
local macro_rules | `(tactic| walk_at "mine pad 2") => `(tactic| fail "pad")
local macro_rules | `(tactic| walk_at "mine pad 3") => `(tactic| fail "pad")
local macro_rules | `(tactic| walk_at "mine pad 4") => `(tactic| fail "pad")
local macro_rules | `(tactic| walk_at "mine pad 5") => `(tactic| fail "pad")
local macro_rules | `(tactic| walk_at "mine pad 6") => `(tactic| fail "pad")
local macro_rules | `(tactic| walk_at "mine pad 7") => `(tactic| fail "pad")
local macro_rules | `(tactic| walk_at "mine pad 8") => `(tactic| fail "pad")
local macro_rules | `(tactic| walk_at "mine pad 9") => `(tactic| fail "pad")
local macro_rules | `(tactic| walk_at "mine pad 10") => `(tactic| fail "pad")
local macro_rules | `(tactic| walk_at "mine pad 11") => `(tactic| fail "pad")
local macro_rules | `(tactic| walk_at "mine pad 12") => `(tactic| fail "pad")
local macro_rules | `(tactic| walk_at "mine pad 13") => `(tactic| fail "pad")
local macro_rules | `(tactic| walk_at "mine pad 14") => `(tactic| fail "pad")
local macro_rules | `(tactic| walk_at "mine pad 15") => `(tactic| fail "pad")
local macro_rules | `(tactic| walk_at "mine pad 16") => `(tactic| fail "pad")
local macro_rules | `(tactic| walk_at "mine pad 17") => `(tactic| fail "pad")
local macro_rules | `(tactic| walk_at "mine pad 18") => `(tactic| fail "pad")
local macro_rules | `(tactic| walk_at "mine pad 19") => `(tactic| fail "pad")
local macro_rules | `(tactic| walk_at "mine pad 20") => `(tactic| fail "pad")
local macro_rules | `(tactic| walk_at "mine pad 21") => `(tactic| fail "pad")
local macro_rules | `(tactic| walk_at "mine pad 22") => `(tactic| fail "pad")
local macro_rules | `(tactic| walk_at "mine pad 23") => `(tactic| fail "pad")
local macro_rules | `(tactic| walk_at "mine pad 24") => `(tactic| fail "pad")
local macro_rules | `(tactic| walk_at "mine pad 25") => `(tactic| fail "pad")
local macro_rules | `(tactic| walk_at "mine pad 26") => `(tactic| fail "pad")
local macro_rules | `(tactic| walk_at "mine pad 27") => `(tactic| fail "pad")
local macro_rules | `(tactic| walk_at "mine pad 28") => `(tactic| fail "pad")
local macro_rules | `(tactic| walk_at "mine pad 29") => `(tactic| fail "pad")
local macro_rules | `(tactic| walk_at "mine pad 30") => `(tactic| fail "pad")
local macro_rules | `(tactic| walk_at "mine pad 31") => `(tactic| fail "pad")
local macro_rules | `(tactic| walk_at "mine pad 32") => `(tactic| fail "pad")
local macro_rules | `(tactic| walk_at "mine pad 33") => `(tactic| fail "pad")
local macro_rules | `(tactic| walk_at "mine pad 34") => `(tactic| fail "pad")
local macro_rules | `(tactic| walk_at "mine pad 35") => `(tactic| fail "pad")
local macro_rules | `(tactic| walk_at "mine pad 36") => `(tactic| fail "pad")
local macro_rules | `(tactic| walk_at "mine pad 37") => `(tactic| fail "pad")
local macro_rules | `(tactic| walk_at "mine pad 38") => `(tactic| fail "pad")
local macro_rules | `(tactic| walk_at "mine pad 39") => `(tactic| fail "pad")
local macro_rules | `(tactic| walk_at "mine pad 40") => `(tactic| fail "pad")
local macro_rules | `(tactic| walk_at "exec While") => `(tactic| (k_here; refine Mine.Stop.go ?_))
local macro_rules | `(tactic| k_room) => `(tactic| ((try simp only [depth_under_make, depth_under_kw, depth_in1, depth_deeper, depth_caller]); show _ < 1000; omega))
local macro_rules | `(tactic| k_units) => `(tactic| (show _ < 9900; (try simp only [Around.in1_units, Around.deeper_units, Around.mark_units]); omega))
local macro_rules | `(tactic| walk_at "call type:frozenset nil nil") => `(tactic| (k_here; k_dflt (refine' fset0_K' ?F ?N ?_; (case F => k_asm); (case N => k_asm); k_whole); intro a' h' o' F' N' S' l1; (try k_lt l1); (try k_sweep)))
local macro_rules | `(tactic| walk_at "call type:frozenset cons nil") => `(tactic| (k_here; k_dflt (first
  | (refine' fsetL_K ?F ?N ?m ?x ?hh ?hb ?_; (case F => k_asm); (case N => k_asm); (case m => k_mem); (case x => assumption); (case hh => rfl); (case hb => omega); k_whole)
  | (refine' fsetT_K ?F ?N ?t ?hh ?_; (case F => k_asm); (case N => k_asm); (case t => exact ⟨_, News.get (by k_asm) (by k_mem), rfl, _, rfl⟩); (case hh => rfl); k_whole)); intro a' h' tk' o' F' N' S' l1; (try k_lt l1); (try k_sweep)))
local macro_rules | `(tactic| walk_at "truthy ref") => `(tactic| (k_here; k_dflt (refine' fset_truthy_K ?N ?m ?f ?hn ?_; (case N => k_asm); (case m => k_mem); (case f => assumption); (case hn => omega); k_whole); intro b' tk' hb'))
local macro_rules | `(tactic| walk_at "compareOp In str ref") => `(tactic| (k_here; k_dflt (refine' fset_in_K ?N ?m ?f ?hn ?_; (case N => k_asm); (case m => k_mem); (case f => assumption); (case hn => omega); k_whole); intro tk'))
local macro_rules | `(tactic| walk_at "getMethod ref") => `(tactic| (k_here; k_dflt (first
  | (refine' meth_pattern ?P slot_pattern_match type_pattern_match ?_; (case P => exact PatAt.keeps (by assumption) (Fr.keep (by k_asm))); k_whole)
  | (refine' meth_match ?f slot_match_groups type_match_groups ?_; (case f => exact foundN (by k_asm) (by k_mem) (by k_mem)); k_whole)
  | (refine' meth_match ?f slot_match_end type_match_end ?_; (case f => exact foundN (by k_asm) (by k_mem) (by k_mem)); k_whole))))
local macro_rules | `(tactic| walk_at "call builtin:re.Pattern.match") => `(tactic| (k_here; k_dflt (first
  | (refine' matchK_yes ?F ?N ?P ?g ?hp ?hx ?hm ?hk ?ok ?len ?_; (case F => k_asm); (case N => k_asm); (case hm => assumption); (case P => assumption); (case g => rfl); (case hp => omega); (case hx => omega); (case hk => decide); (case ok => assumption); (case len => exact Nat.le_of_ble_eq_true rfl); k_whole; intro a' T' h' F' N' l1 l2; (try k_lt l1); (try k_lt2 l2); (try k_sweep))
  | (refine' matchK_no ?F ?P ?hp ?hx ?hm ?hk ?_; (case F => k_asm); (case hm => assumption); (case P => assumption); (case hp => omega); (case hx => omega); (case hk => decide); k_whole))))
local macro_rules | `(tactic| walk_at "call builtin:re.Match.groups") => `(tactic| (k_here; k_dflt (refine' groupsK3 ?F ?N ?f ?hx ?_; (case F => k_asm); (case N => k_asm); (case f => exact foundN (by k_asm) (by k_mem) (by k_mem)); (case hx => omega); k_whole); intro T' t1' t2' t3' h' tk' F' N' l1; (try dsimp only [partOf] at N'); (try k_lt l1); (try k_sweep)))
local macro_rules | `(tactic| walk_at "call builtin:re.Match.end") => `(tactic| (k_here; k_dflt (refine' endK ?f ?_; (case f => exact foundN (by k_asm) (by k_mem) (by k_mem)); k_whole)))
local macro_rules | `(tactic| walk_at "truthy str") => `(tactic| (k_here; k_dflt (refine' truthy_text ?a ?b ?_; (case a => omega); (case b => omega); k_whole); intro tk'))
local macro_rules | `(tactic| walk_at "truthy ref") => `(tactic| (k_here; k_dflt (refine' truthy_listK ?N ?m ?hb ?_; (case N => k_asm); (case m => k_mem); (case hb => omega); k_whole); intro tk'))
local macro_rules | `(tactic| walk_at "call ref") => `(tactic| (k_here; k_dflt (first
  | (refine' etags_someK ?B ?F ?N ?X ?T ?P ?hA ?hf ?hke ?hh ?hd ?hu ?ht ?_; (case ht => assumption); (case hA => exact rfl); (case hf => exact rfl); (case hke => exact rfl); (case B => k_asm); (case F => k_asm); (case N => k_asm); (case X => k_asm); (case T => k_asm); (case P => first | assumption | exact PatAt.keeps (by assumption) (Fr.keep (by k_asm))); (case hh => rfl); (case hd => ((try simp only [depth_in1, depth_deeper, depth_caller]); show _ < 500; omega)); (case hu => ((try simp only [Around.in1_units, Around.deeper_units]); show _ < 500; omega)); k_whole; intro h' tk' e' d' a' b' oa' ob' t1' t2' t3' n' nS' nW' F' N' f1' f2' f3' f4'; (try k_sweep))
  | (refine' etags_noneK ?B ?F ?N ?X ?T ?hA ?hf ?hke ?hh ?hd ?hu ?_; (case hA => exact rfl); (case hf => exact rfl); (case hke => exact rfl); (case B => k_asm); (case F => k_asm); (case N => k_asm); (case X => k_asm); (case T => k_asm); (case hh => rfl); (case hd => ((try simp only [depth_in1, depth_deeper, depth_caller]); show _ < 500; omega)); (case hu => ((try simp only [Around.in1_units, Around.deeper_units]); show _ < 500; omega)); k_whole; intro h' tk' e' d' a' b' oa' ob' t1' t2' t3' n' nS' nW' F' N' f1' f2' f3' f4'; (try k_sweep)))))
local macro_rules | `(tactic| walk_at "call builtin:str.startswith") => `(tactic| (k_here; k_dflt (refine' startswith_tup ?h ?_; (case h => exact ⟨_, News.get (by k_asm) (by k_mem), rfl, _, rfl⟩); k_whole)))
local macro_rules | `(tactic| walk_at "call builtin:str.endswith") => `(tactic| (k_here; k_dflt (refine' ends_true ?h ?_; (case h => assumption); k_whole)))
local macro_rules | `(tactic| walk_at "call type:bool") => `(tactic| (k_here; k_dflt (refine' bool_fsetL ?N ?m ?f ?hn ?_; (case N => k_asm); (case m => k_mem); (case f => with_reducible assumption); (case hn => omega); k_whole); intro tk'))
local macro_rules | `(tactic| walk_at "truthy ref") => `(tactic| (k_here; k_dflt (refine' truthy_fsetL ?N ?m ?f ?hn ?_; (case N => k_asm); (case m => k_mem); (case f => with_reducible assumption); (case hn => omega); k_whole); intro tk'))
local macro_rules | `(tactic| walk_at "call type:bool") => `(tactic| (k_here; k_dflt (refine' bool_fset0 ?N ?m ?f ?hn ?_; (case N => k_asm); (case m => k_mem); (case f => with_reducible assumption); (case hn => omega); k_whole); intro tk'))
local macro_rules | `(tactic| walk_at "truthy ref") => `(tactic| (k_here; k_dflt (refine' truthy_fset0 ?N ?m ?f ?hn ?_; (case N => k_asm); (case m => k_mem); (case f => with_reducible assumption); (case hn => omega); k_whole); intro tk'))
local macro_rules | `(tactic| walk_at "getMethod ref") => `(tactic| (k_here; k_dflt (refine' meth_pattern ?P slot_pattern_fullmatch type_pattern_fullmatch ?_; (case P => first | exact PatAt.keeps (by assumption) (Fr.keep (by k_asm)) | exact PatAt.keeps (PatAt.keeps (by assumption) (Fr.keep (by assumption))) (Fr.keep (by k_asm))); k_whole)))
local macro_rules | `(tactic| walk_at "call builtin:re.Pattern.fullmatch") => `(tactic| (k_here; k_dflt (refine' fullK_c (n := 12) ?F ?N ?P ?hx ?hn ?h0 ?h1 ?h2 ?h3 ?_; (case F => k_asm); (case N => k_asm); (case P => first | assumption | exact PatAt.keeps (by assumption) (Fr.keep (by assumption))); (case hx => decide +kernel); (case hn => decide); (case h0 => first | kernel_rfl | rfl); (case h1 => rfl); (case h2 => rfl); (case h3 => rfl); k_whole; intro a' h' F' N')))

local macro_rules | `(tactic| k_ne) => `(tactic| (refine neN ?_; (try dsimp only); first | exact Ap.ne (by with_reducible assumption) | exact Ap.ne' (by with_reducible assumption) | fail "no"))
local macro_rules | `(tactic| k_all) => `(tactic| with_reducible assumption)
local macro_rules | `(tactic| walk_at "subscriptTail Name Slice ref ref") => `(tactic| (k_here; k_dflt (refine' sliceUpLI ?F ?N ?s ?li ?y ?x ?_ ?sb ?t; (case F => k_asm); (case N => k_asm); (case li => with_reducible assumption); (case s => ((repeat (with_reducible refine subT ?_)); exact subR)); (case y => exact Int.fmod_nonneg_of_pos _ (by decide)); (case x => omega); (case sb => with_unfolding_all rfl); (case t => (intro _; with_unfolding_all rfl)); k_whole); intro D' h' zs' F' N' l1 hI'; (try k_lt l1)))
local macro_rules | `(tactic| walk_at "setItem ref int") => `(tactic| (k_here; k_dflt (refine' setLst ?F ?N ?a ?b ?l ?U ?_; (case F => k_asm); (case N => k_asm); (case U => k_upd); (case a => assumption); (case b => assumption); (case l => first | assumption | (rw [List.length_set]; assumption)); k_whole); intro h' F' N'))
local macro_rules | `(tactic| walk_at "subscriptTail Name Name ref int") => `(tactic| (k_here; k_dflt (refine' pickR ?k1 ?k2 ?k3 ?k4 ?_ ?k6; (case k1 => exact listN (by k_asm) (by k_mem)); (case k2 => with_reducible assumption); (case k3 => assumption); (case k4 => omega); (case k6 => with_unfolding_all rfl); k_whole)))

local macro_rules | `(tactic| walk_at "binaryOp Add str str") => `(tactic| (k_here; k_dflt (refine' Rows_add ?_ ?z; (case z => exact add_ok (by assumption) (by omega)); intro t' tk')))
local macro_rules | `(tactic| walk_at "ite") => `(tactic| (k_here; (with_reducible refine ite_pos ?e ?_); (case e => with_reducible assumption)))
local macro_rules | `(tactic| walk_at "binaryOp Mod int int") => `(tactic| (k_here; k_dflt (refine' modK ?e ?n ?_; (case e => with_reducible assumption); (case n => decide); k_whole)))
local macro_rules | `(tactic| walk_at "subscriptTail Name Name ref int") => `(tactic| (k_here; k_dflt (first
  | (refine' pickR ?k1 ?k2 ?k3 ?k4 ?_ ?k6; (case k1 => exact listN (by k_asm) (by k_mem)); (case k2 => with_reducible assumption); (case k3 => assumption); (case k4 => omega); (case k6 => with_unfolding_all rfl); k_whole)
  | (refine' dictGet ?N ?p ?d ?l ?_ ?s ?g; (case N => k_asm); (case p => k_mem); (case d => with_reducible assumption); (case l => with_reducible assumption); (case s => with_unfolding_all rfl); (case g => (intro _; with_unfolding_all rfl)); k_whole)
  | fail "no pick")))
local macro_rules | `(tactic| walk_at "binaryOp Add ref ref") => `(tactic| (k_here; k_dflt (refine' addLI1 ?F ?N ?s ?li ?b ?x ?_; (case F => k_asm); (case N => k_asm); (case li => with_reducible assumption); (case s => ((repeat (with_reducible refine subT ?_)); exact subR)); (case b => k_mem); (case x => omega); k_whole); intro D' h' zs' F' N' l1 hI'; (try k_lt l1)))
local macro_rules | `(tactic| walk_at "setItem ref int") => `(tactic| (k_here; k_dflt (first
  | (refine' setLst ?F ?N ?a ?b ?l ?U ?_; (case F => k_asm); (case N => k_asm); (case U => k_upd); (case a => assumption); (case b => assumption); (case l => first | assumption | (rw [List.length_set]; assumption)); k_whole; intro h' F' N')
  | (refine' dictSet ?F ?N ?U ?d ?z ?_; (case F => k_asm); (case N => k_asm); (case U => k_updF); (case d => with_reducible assumption); (case z => omega); k_whole; intro h' o' F' N' hd'; (try dsimp only at N'))
  | fail "no set")))

local macro_rules | `(tactic| walk_at "call ref") => `(tactic| (k_here; k_dflt (first
  | (refine' mod_readW ?B ?F ?N ?X ?T ?hA ?hf ?hke ?hh ?hd ?hu ?ht ?hy ?hr ?_; (case ht => with_reducible assumption); (case hy => with_reducible assumption); (case hr => with_reducible assumption); (case hA => exact rfl); (case hf => exact rfl); (case hke => exact rfl); (case B => k_asm); (case F => k_asm); (case N => k_asm); (case X => k_asm); (case T => k_asm); (case hh => rfl); (case hd => ((try simp only [depth_in1, depth_deeper, depth_caller]); show _ < 450; first | omega | decide)); (case hu => ((try simp only [Around.in1_units, Around.deeper_units]); show _ < 450; first | omega | decide)); k_whole; intro h' tk' F' N')
  | (refine' mod_noneW ?B ?F ?N ?X ?T ?hA ?hf ?hke ?hh ?hd ?hu ?hy ?_; (case hy => with_reducible assumption); (case hA => exact rfl); (case hf => exact rfl); (case hke => exact rfl); (case B => k_asm); (case F => k_asm); (case N => k_asm); (case X => k_asm); (case T => k_asm); (case hh => rfl); (case hd => ((try simp only [depth_in1, depth_deeper, depth_caller]); show _ < 450; first | omega | decide)); (case hu => ((try simp only [Around.in1_units, Around.deeper_units]); show _ < 450; first | omega | decide)); k_whole; intro h' tk' F' N')
  | fail "no call")))
local macro_rules | `(tactic| walk_at "compareOp In int ref") => `(tactic| (k_here; k_dflt (refine' dictInR ?N ?p ?d ?o ?r ?_; (case N => k_asm); (case p => k_mem); (case d => with_reducible assumption); (case o => assumption); (case r => with_reducible assumption); k_whole)))
local macro_rules | `(tactic| walk_at "compareOp NotIn int ref") => `(tactic| (k_here; k_dflt (refine' dictNotInR ?N ?p ?d ?o ?r ?_; (case N => k_asm); (case p => k_mem); (case d => with_reducible assumption); (case o => assumption); (case r => with_reducible assumption); k_whole)))
local macro_rules | `(tactic| walk_at "compareOp Eq ref ref") => `(tactic| (k_here; k_dflt (refine' eqLI ?N ?s ?a ?b ?e ?u ?_; (case N => k_asm); (case a => with_reducible assumption); (case b => with_reducible assumption); (case s => ((repeat (with_reducible refine subT ?_)); exact subR)); (case e => rfl); (case u => k_units); k_whole)))

theorem restN {w : World} {h₀ : Heap} {s : Shared} {lz : List Str} {mean : ExcName → Option Value} {mg mb : Str → Option Value} {fa : Addr} {cd : Value} {E : Value → Shared → Prop} {Q : Flow → Shared → Prop}
    {L I D Sa Ba Pa d da db pg lt : Nat} {oI o2 oH oD q qa qb : Obj} {sv bv pv : List Value} {b p ba pa bb pb : Value} {nS nb np i v : Nat} {rest : List (Addr × Obj)} {H : Nat → List Int} {tv tc td tx tn tdr tk : Tok} {u : Str → Option Value} {c dr de : Int} {x : Str} {to' : Option Value} {at' : Nat} {T' : Str} {told' : List (Nat × Str)} {kvs : List (Int × Value)}
    (B : Below callerA h₀ [] h₀) (X : (hd1.heap_39 w.params).In h₀) (T : Top hd1.view_39 lz mean mg mb h₀)
    (F : Fr h₀ L s.heap fun y => if y = "asked" then some .none else if y = "told" then to' else if y = "store" then some (.ref d) else if y = "now" then some (.str (Str.ofString "\"" ++ (x ++ Str.ofString (toString (v : Int))) ++ Str.ofString "\"") tn) else if y = "deed" then some (.int de td) else if y = "client" then some (.int c tc) else if y = "k" then some (.int (i : Int) tk) else
      if y = "good" then some (.bool true) else if y = "parts" then some (.ref Pa) else if y = "bases" then some (.ref Ba) else if y = "stores" then some (.ref Sa) else if y = "page" then some (.ref pg) else
      if y = "version" then some (.int (v : Int) tv) else if y = "let" then some (.ref lt) else if y = "cells" then some (.ref D) else u y)
    (N : News h₀ L s.heap ((I, oI) :: (L + 1 + 1, o2) :: (L + 1, oH) :: (D, oD) :: (Sa, listOf sv.toArray nS) :: (Ba, listOf bv.toArray nb) :: (Pa, listOf pv.toArray np) :: (d, q) :: (da, qa) :: (db, qb) :: rest))
    (hoH : oH.data = .cell (some (.str x tx))) (ho2 : o2.data = .cell (some (.int dr tdr))) (hx : HeadOk x) (hc0 : 0 ≤ c) (hc3 : c < 3) (hi : i < 16) (hv : v ≤ i)
    (hH : ∀ j, j ≤ v → (H j).length = 3 + j) (hpg : LI rest pg (H v)) (hlt : LI rest lt (H v))
    (gq : ClientOk PySem.Challenge.rw_ez0420_01.row.prog w H v rest q b p) (ga : ClientOk PySem.Challenge.rw_ez0420_01.row.prog w H v rest qa ba pa) (gb : ClientOk PySem.Challenge.rw_ez0420_01.row.prog w H v rest qb bb pb)
    (sl : sv.length = 3) (bl : bv.length = 3) (pl : pv.length = 3) (hs : sv[c.toNat]? = some (.ref d)) (hb : bv[c.toNat]? = some b) (hp : pv[c.toNat]? = some p)
    (hA : Apart1 I (L + 1) (L + 1 + 1) D Sa Ba Pa d da db) (hd1' : d ≠ 1) (hrest : ∀ p ∈ rest, p.1 ≠ I ∧ p.1 ≠ L + 1 + 1 ∧ p.1 ≠ Ba ∧ p.1 ≠ Pa ∧ p.1 ≠ d ∧ p.1 ≠ da ∧ p.1 ≠ db)
    (fin : FinT PySem.Challenge.rw_ez0420_01.row.prog w h₀ L I D Sa Ba Pa d da db oI oH oD qa qb sv bv pv ba pa bb pb nS i c s Q) (hD : DictOk PySem.Challenge.rw_ez0420_01.row.prog w H v rest q kvs) (hno : (valueAt kvs (v : Int)).isSome = !true) :
    wpAny (model PySem.Challenge.rw_ez0420_01.row.prog w) (callerA.deeper (envOfC (Str.ofString "law") lawScope L fa cd)) (execs rest0 (envOfC (Str.ofString "law") lawScope L fa cd)) Q E s := by
  show wpAny _ (callerA.deeper (envOfC _ (Scope.mk _ _ _ _ _) _ _ _)) (execs (_ :: _) (envOfC _ (Scope.mk _ _ _ _ _) _ _ _)) _ _ _

  revert X; k_fill; intro X
  obtain ⟨⟨aI1, aI2, aI3, aI4, aI5, aI6, aI7, aI8, aI9⟩, ⟨ac1, ac2, ac3, ac4, ac5, ac6, ac7, ac8⟩, ⟨aB1, aB2, aB3, aB4, aB5, aB6, aB7⟩, ⟨aP1, aP2, aP3, aP4, aP5, aP6⟩, ⟨ad1, ad2, ad3, ad4, ad5⟩⟩ := hA.hide
  clear hA
  have z0 := ltN (Heap.lt_size (N _ (.head _)).1)
  have z1 := ltN (Heap.lt_size (N _ (.tail _ (.head _))).1)
  have z2 := ltN (Heap.lt_size (N _ (.tail _ (.tail _ (.head _)))).1)
  have z3 := ltN (Heap.lt_size (N _ (.tail _ (.tail _ (.tail _ (.head _))))).1)
  have z4 := ltN (Heap.lt_size (N _ (.tail _ (.tail _ (.tail _ (.tail _ (.head _)))))).1)
  have z5 := ltN (Heap.lt_size (N _ (.tail _ (.tail _ (.tail _ (.tail _ (.tail _ (.head _))))))).1)
  have z6 := ltN (Heap.lt_size (N _ (.tail _ (.tail _ (.tail _ (.tail _ (.tail _ (.tail _ (.head _)))))))).1)
  have z7 := ltN (Heap.lt_size (N _ (.tail _ (.tail _ (.tail _ (.tail _ (.tail _ (.tail _ (.tail _ (.head _))))))))).1)
  have z8 := ltN (Heap.lt_size (N _ (.tail _ (.tail _ (.tail _ (.tail _ (.tail _ (.tail _ (.tail _ (.tail _ (.head _)))))))))).1)
  have z9 := ltN (Heap.lt_size (N _ (.tail _ (.tail _ (.tail _ (.tail _ (.tail _ (.tail _ (.tail _ (.tail _ (.tail _ (.head _))))))))))).1)
  dsimp only at z0 z1 z2 z3 z4 z5 z6 z7 z8 z9
  have rI := fun p hp => (hrest p hp).1
  have r2 := fun p hp => (hrest p hp).2.1
  have rB := fun p hp => (hrest p hp).2.2.1
  have rP := fun p hp => (hrest p hp).2.2.2.1
  have rd := fun p hp => (hrest p hp).2.2.2.2.1
  have hlv := hH v (Nat.le_refl _)

  have ep := set_same hp
  have hDd := hD.1
  have hq : QTag (Str.ofString "\"" ++ (x ++ Str.ofString (toString (v : Int))) ++ Str.ofString "\"") _ := tag_q hx (by omega)
  have hst : valueAt (stored kvs (v : Int) (.ref pg)) (v : Int) = some (.ref pg) := valueAt_stored _ _ _
  have hsi : (valueAt (stored kvs (v : Int) (.ref pg)) (v : Int)).isSome = true := by rw [hst]; rfl
  have hlen := hD.len
  k_steps
  rename News _ _ _ _ => lN
  rename Fr _ _ _ _ => lF
  rename_i o' hd' _ _ _ _
  have hlen := hD.len
  refine' fin (.int (v : Int) ?tz) p o' rest _ _ _ o2 _ H v nb np pg lt ?tv _ ?a1 hH ho2 rfl rfl rfl rfl rfl rfl rfl rfl lF lN ?m1 ?m2 ?m3 ?m4 ?m5 ?m6 ?m7 ?m8 ?m9 ?m10 (by ((repeat (with_reducible refine subT ?_)); exact subR)) hpg hlt ?g1 ga gb hrest
  (case m1 => k_mem); (case m2 => k_mem); (case m3 => k_mem); (case m4 => k_mem); (case m5 => k_mem); (case m6 => k_mem); (case m7 => rw [ep]; k_mem); (case m8 => k_mem); (case m9 => k_mem); (case m10 => k_mem)
  (case a1 => omega)
  (case g1 => exact ⟨⟨_, hD.store hd' hpg, ⟨_, _, rfl, .inr ⟨_, stored_has _ _ _, rfl⟩⟩, Nat.le_trans (stored_len _ _ _) (by omega)⟩, gq.part⟩)

theorem restS {w : World} {h₀ : Heap} {s : Shared} {lz : List Str} {mean : ExcName → Option Value} {mg mb : Str → Option Value} {fa : Addr} {cd : Value} {E : Value → Shared → Prop} {Q : Flow → Shared → Prop}
    {L I D Sa Ba Pa d da db pg lt : Nat} {oI o2 oH oD q qa qb : Obj} {sv bv pv : List Value} {b p ba pa bb pb : Value} {nS nb np i v : Nat} {rest : List (Addr × Obj)} {H : Nat → List Int} {tv tc td tx tn tdr tk : Tok} {u : Str → Option Value} {c dr de : Int} {x : Str} {to' : Option Value} {at' : Nat} {T' : Str} {told' : List (Nat × Str)} {kvs : List (Int × Value)}
    (B : Below callerA h₀ [] h₀) (X : (hd1.heap_39 w.params).In h₀) (T : Top hd1.view_39 lz mean mg mb h₀)
    (F : Fr h₀ L s.heap fun y => if y = "asked" then some (.str T' at') else if y = "told" then to' else if y = "store" then some (.ref d) else if y = "now" then some (.str (Str.ofString "\"" ++ (x ++ Str.ofString (toString (v : Int))) ++ Str.ofString "\"") tn) else if y = "deed" then some (.int de td) else if y = "client" then some (.int c tc) else if y = "k" then some (.int (i : Int) tk) else
      if y = "good" then some (.bool true) else if y = "parts" then some (.ref Pa) else if y = "bases" then some (.ref Ba) else if y = "stores" then some (.ref Sa) else if y = "page" then some (.ref pg) else
      if y = "version" then some (.int (v : Int) tv) else if y = "let" then some (.ref lt) else if y = "cells" then some (.ref D) else u y)
    (N : News h₀ L s.heap ((I, oI) :: (L + 1 + 1, o2) :: (L + 1, oH) :: (D, oD) :: (Sa, listOf sv.toArray nS) :: (Ba, listOf bv.toArray nb) :: (Pa, listOf pv.toArray np) :: (d, q) :: (da, qa) :: (db, qb) :: rest))
    (hoH : oH.data = .cell (some (.str x tx))) (ho2 : o2.data = .cell (some (.int dr tdr))) (hx : HeadOk x) (hc0 : 0 ≤ c) (hc3 : c < 3) (hi : i < 16) (hv : v ≤ i)
    (hH : ∀ j, j ≤ v → (H j).length = 3 + j) (hpg : LI rest pg (H v)) (hlt : LI rest lt (H v))
    (gq : ClientOk PySem.Challenge.rw_ez0420_01.row.prog w H v rest q b p) (ga : ClientOk PySem.Challenge.rw_ez0420_01.row.prog w H v rest qa ba pa) (gb : ClientOk PySem.Challenge.rw_ez0420_01.row.prog w H v rest qb bb pb)
    (sl : sv.length = 3) (bl : bv.length = 3) (pl : pv.length = 3) (hs : sv[c.toNat]? = some (.ref d)) (hb : bv[c.toNat]? = some b) (hp : pv[c.toNat]? = some p)
    (hA : Apart1 I (L + 1) (L + 1 + 1) D Sa Ba Pa d da db) (hd1' : d ≠ 1) (hrest : ∀ p ∈ rest, p.1 ≠ I ∧ p.1 ≠ L + 1 + 1 ∧ p.1 ≠ Ba ∧ p.1 ≠ Pa ∧ p.1 ≠ d ∧ p.1 ≠ da ∧ p.1 ≠ db)
    (fin : FinT PySem.Challenge.rw_ez0420_01.row.prog w h₀ L I D Sa Ba Pa d da db oI oH oD qa qb sv bv pv ba pa bb pb nS i c s Q) (hD : DictOk PySem.Challenge.rw_ez0420_01.row.prog w H v rest q kvs) (hno : (valueAt kvs (v : Int)).isSome = !true) (ht : ToldText T' told') (hr : (!(decide (tagOf x v ∈ weaks told') || decide (tagOf x v ∈ strongs told'))) = true) :
    wpAny (model PySem.Challenge.rw_ez0420_01.row.prog w) (callerA.deeper (envOfC (Str.ofString "law") lawScope L fa cd)) (execs rest0 (envOfC (Str.ofString "law") lawScope L fa cd)) Q E s := by
  show wpAny _ (callerA.deeper (envOfC _ (Scope.mk _ _ _ _ _) _ _ _)) (execs (_ :: _) (envOfC _ (Scope.mk _ _ _ _ _) _ _ _)) _ _ _

  revert X; k_fill; intro X
  obtain ⟨⟨aI1, aI2, aI3, aI4, aI5, aI6, aI7, aI8, aI9⟩, ⟨ac1, ac2, ac3, ac4, ac5, ac6, ac7, ac8⟩, ⟨aB1, aB2, aB3, aB4, aB5, aB6, aB7⟩, ⟨aP1, aP2, aP3, aP4, aP5, aP6⟩, ⟨ad1, ad2, ad3, ad4, ad5⟩⟩ := hA.hide
  clear hA
  have z0 := ltN (Heap.lt_size (N _ (.head _)).1)
  have z1 := ltN (Heap.lt_size (N _ (.tail _ (.head _))).1)
  have z2 := ltN (Heap.lt_size (N _ (.tail _ (.tail _ (.head _)))).1)
  have z3 := ltN (Heap.lt_size (N _ (.tail _ (.tail _ (.tail _ (.head _))))).1)
  have z4 := ltN (Heap.lt_size (N _ (.tail _ (.tail _ (.tail _ (.tail _ (.head _)))))).1)
  have z5 := ltN (Heap.lt_size (N _ (.tail _ (.tail _ (.tail _ (.tail _ (.tail _ (.head _))))))).1)
  have z6 := ltN (Heap.lt_size (N _ (.tail _ (.tail _ (.tail _ (.tail _ (.tail _ (.tail _ (.head _)))))))).1)
  have z7 := ltN (Heap.lt_size (N _ (.tail _ (.tail _ (.tail _ (.tail _ (.tail _ (.tail _ (.tail _ (.head _))))))))).1)
  have z8 := ltN (Heap.lt_size (N _ (.tail _ (.tail _ (.tail _ (.tail _ (.tail _ (.tail _ (.tail _ (.tail _ (.head _)))))))))).1)
  have z9 := ltN (Heap.lt_size (N _ (.tail _ (.tail _ (.tail _ (.tail _ (.tail _ (.tail _ (.tail _ (.tail _ (.tail _ (.head _))))))))))).1)
  dsimp only at z0 z1 z2 z3 z4 z5 z6 z7 z8 z9
  have rI := fun p hp => (hrest p hp).1
  have r2 := fun p hp => (hrest p hp).2.1
  have rB := fun p hp => (hrest p hp).2.2.1
  have rP := fun p hp => (hrest p hp).2.2.2.1
  have rd := fun p hp => (hrest p hp).2.2.2.2.1
  have hlv := hH v (Nat.le_refl _)

  have ep := set_same hp
  have hDd := hD.1
  have hq : QTag (Str.ofString "\"" ++ (x ++ Str.ofString (toString (v : Int))) ++ Str.ofString "\"") _ := tag_q hx (by omega)
  have hst : valueAt (stored kvs (v : Int) (.ref pg)) (v : Int) = some (.ref pg) := valueAt_stored _ _ _
  have hsi : (valueAt (stored kvs (v : Int) (.ref pg)) (v : Int)).isSome = true := by rw [hst]; rfl
  have hlen := hD.len
  k_steps
  rename News _ _ _ _ => lN
  rename Fr _ _ _ _ => lF
  rename_i o' hd' _ _ _ _
  have hlen := hD.len
  refine' fin (.int (v : Int) ?tz) p o' rest _ _ _ o2 _ H v nb np pg lt ?tv _ ?a1 hH ho2 rfl rfl rfl rfl rfl rfl rfl rfl lF lN ?m1 ?m2 ?m3 ?m4 ?m5 ?m6 ?m7 ?m8 ?m9 ?m10 (by ((repeat (with_reducible refine subT ?_)); exact subR)) hpg hlt ?g1 ga gb hrest
  (case m1 => k_mem); (case m2 => k_mem); (case m3 => k_mem); (case m4 => k_mem); (case m5 => k_mem); (case m6 => k_mem); (case m7 => rw [ep]; k_mem); (case m8 => k_mem); (case m9 => k_mem); (case m10 => k_mem)
  (case a1 => omega)
  (case g1 => exact ⟨⟨_, hD.store hd' hpg, ⟨_, _, rfl, .inr ⟨_, stored_has _ _ _, rfl⟩⟩, Nat.le_trans (stored_len _ _ _) (by omega)⟩, gq.part⟩)

theorem restO {w : World} {h₀ : Heap} {s : Shared} {lz : List Str} {mean : ExcName → Option Value} {mg mb : Str → Option Value} {fa : Addr} {cd : Value} {E : Value → Shared → Prop} {Q : Flow → Shared → Prop}
    {L I D Sa Ba Pa d da db pg lt : Nat} {oI o2 oH oD q qa qb : Obj} {sv bv pv : List Value} {b p ba pa bb pb : Value} {nS nb np i v : Nat} {rest : List (Addr × Obj)} {H : Nat → List Int} {tv tc td tx tn tdr tk : Tok} {u : Str → Option Value} {c dr de : Int} {x : Str} {to' : Option Value} {at' : Nat} {T' : Str} {told' : List (Nat × Str)} {kvs : List (Int × Value)}
    (B : Below callerA h₀ [] h₀) (X : (hd1.heap_39 w.params).In h₀) (T : Top hd1.view_39 lz mean mg mb h₀)
    (F : Fr h₀ L s.heap fun y => if y = "asked" then some (.str T' at') else if y = "told" then to' else if y = "store" then some (.ref d) else if y = "now" then some (.str (Str.ofString "\"" ++ (x ++ Str.ofString (toString (v : Int))) ++ Str.ofString "\"") tn) else if y = "deed" then some (.int de td) else if y = "client" then some (.int c tc) else if y = "k" then some (.int (i : Int) tk) else
      if y = "good" then some (.bool true) else if y = "parts" then some (.ref Pa) else if y = "bases" then some (.ref Ba) else if y = "stores" then some (.ref Sa) else if y = "page" then some (.ref pg) else
      if y = "version" then some (.int (v : Int) tv) else if y = "let" then some (.ref lt) else if y = "cells" then some (.ref D) else u y)
    (N : News h₀ L s.heap ((I, oI) :: (L + 1 + 1, o2) :: (L + 1, oH) :: (D, oD) :: (Sa, listOf sv.toArray nS) :: (Ba, listOf bv.toArray nb) :: (Pa, listOf pv.toArray np) :: (d, q) :: (da, qa) :: (db, qb) :: rest))
    (hoH : oH.data = .cell (some (.str x tx))) (ho2 : o2.data = .cell (some (.int dr tdr))) (hx : HeadOk x) (hc0 : 0 ≤ c) (hc3 : c < 3) (hi : i < 16) (hv : v ≤ i)
    (hH : ∀ j, j ≤ v → (H j).length = 3 + j) (hpg : LI rest pg (H v)) (hlt : LI rest lt (H v))
    (gq : ClientOk PySem.Challenge.rw_ez0420_01.row.prog w H v rest q b p) (ga : ClientOk PySem.Challenge.rw_ez0420_01.row.prog w H v rest qa ba pa) (gb : ClientOk PySem.Challenge.rw_ez0420_01.row.prog w H v rest qb bb pb)
    (sl : sv.length = 3) (bl : bv.length = 3) (pl : pv.length = 3) (hs : sv[c.toNat]? = some (.ref d)) (hb : bv[c.toNat]? = some b) (hp : pv[c.toNat]? = some p)
    (hA : Apart1 I (L + 1) (L + 1 + 1) D Sa Ba Pa d da db) (hd1' : d ≠ 1) (hrest : ∀ p ∈ rest, p.1 ≠ I ∧ p.1 ≠ L + 1 + 1 ∧ p.1 ≠ Ba ∧ p.1 ≠ Pa ∧ p.1 ≠ d ∧ p.1 ≠ da ∧ p.1 ≠ db)
    (fin : FinT PySem.Challenge.rw_ez0420_01.row.prog w h₀ L I D Sa Ba Pa d da db oI oH oD qa qb sv bv pv ba pa bb pb nS i c s Q) (hD : DictOk PySem.Challenge.rw_ez0420_01.row.prog w H v rest q kvs) (hno : (valueAt kvs (v : Int)).isSome = !false) (ht : ToldText T' told') (hr : (!(decide (tagOf x v ∈ weaks told') || decide (tagOf x v ∈ strongs told'))) = false) :
    wpAny (model PySem.Challenge.rw_ez0420_01.row.prog w) (callerA.deeper (envOfC (Str.ofString "law") lawScope L fa cd)) (execs rest0 (envOfC (Str.ofString "law") lawScope L fa cd)) Q E s := by
  show wpAny _ (callerA.deeper (envOfC _ (Scope.mk _ _ _ _ _) _ _ _)) (execs (_ :: _) (envOfC _ (Scope.mk _ _ _ _ _) _ _ _)) _ _ _

  revert X; k_fill; intro X
  obtain ⟨⟨aI1, aI2, aI3, aI4, aI5, aI6, aI7, aI8, aI9⟩, ⟨ac1, ac2, ac3, ac4, ac5, ac6, ac7, ac8⟩, ⟨aB1, aB2, aB3, aB4, aB5, aB6, aB7⟩, ⟨aP1, aP2, aP3, aP4, aP5, aP6⟩, ⟨ad1, ad2, ad3, ad4, ad5⟩⟩ := hA.hide
  clear hA
  have z0 := ltN (Heap.lt_size (N _ (.head _)).1)
  have z1 := ltN (Heap.lt_size (N _ (.tail _ (.head _))).1)
  have z2 := ltN (Heap.lt_size (N _ (.tail _ (.tail _ (.head _)))).1)
  have z3 := ltN (Heap.lt_size (N _ (.tail _ (.tail _ (.tail _ (.head _))))).1)
  have z4 := ltN (Heap.lt_size (N _ (.tail _ (.tail _ (.tail _ (.tail _ (.head _)))))).1)
  have z5 := ltN (Heap.lt_size (N _ (.tail _ (.tail _ (.tail _ (.tail _ (.tail _ (.head _))))))).1)
  have z6 := ltN (Heap.lt_size (N _ (.tail _ (.tail _ (.tail _ (.tail _ (.tail _ (.tail _ (.head _)))))))).1)
  have z7 := ltN (Heap.lt_size (N _ (.tail _ (.tail _ (.tail _ (.tail _ (.tail _ (.tail _ (.tail _ (.head _))))))))).1)
  have z8 := ltN (Heap.lt_size (N _ (.tail _ (.tail _ (.tail _ (.tail _ (.tail _ (.tail _ (.tail _ (.tail _ (.head _)))))))))).1)
  have z9 := ltN (Heap.lt_size (N _ (.tail _ (.tail _ (.tail _ (.tail _ (.tail _ (.tail _ (.tail _ (.tail _ (.tail _ (.head _))))))))))).1)
  dsimp only at z0 z1 z2 z3 z4 z5 z6 z7 z8 z9
  have rI := fun p hp => (hrest p hp).1
  have r2 := fun p hp => (hrest p hp).2.1
  have rB := fun p hp => (hrest p hp).2.2.1
  have rP := fun p hp => (hrest p hp).2.2.2.1
  have rd := fun p hp => (hrest p hp).2.2.2.2.1
  have hlv := hH v (Nat.le_refl _)

  have ep := set_same hp
  have hDd := hD.1
  have hq : QTag (Str.ofString "\"" ++ (x ++ Str.ofString (toString (v : Int))) ++ Str.ofString "\"") _ := tag_q hx (by omega)
  have hsi : (valueAt kvs (v : Int)).isSome = true := hno
  obtain ⟨y, hy⟩ := Option.isSome_iff_exists.mp hsi
  obtain ⟨_, a, rfl, la⟩ := hD.at hy
  k_steps
  rename News _ _ _ _ => lN
  rename Fr _ _ _ _ => lF
  rename_i _ _ _
  have hlen := hD.len
  refine' fin (.int (v : Int) ?tz) p q rest _ _ _ o2 _ H v nb np pg lt ?tv _ ?a1 hH ho2 rfl rfl rfl rfl rfl rfl rfl rfl lF lN ?m1 ?m2 ?m3 ?m4 ?m5 ?m6 ?m7 ?m8 ?m9 ?m10 (by ((repeat (with_reducible refine subT ?_)); exact subR)) hpg hlt ?g1 ga gb hrest
  (case m1 => k_mem); (case m2 => k_mem); (case m3 => k_mem); (case m4 => k_mem); (case m5 => k_mem); (case m6 => k_mem); (case m7 => rw [ep]; k_mem); (case m8 => k_mem); (case m9 => k_mem); (case m10 => k_mem)
  (case a1 => omega)
  (case g1 => exact ⟨⟨kvs, hD, ⟨_, _, rfl, .inr ⟨_, valueAt_some hy, rfl⟩⟩, by omega⟩, gq.part⟩)
end Mine
end
section
open PySem PySem.W PyProof.Rows
namespace Mine
local macro_rules | `(tactic| walk_at "mine pad 0") => `(tactic| fail "pad")
local macro_rules | `(tactic| walk_at "mine pad 1") => `(tactic| fail "pad")
local macro_rules | `(tactic| walk_at "mine pad 2") => `(tactic| fail "pad")
local macro_rules | `(tactic| walk_at "mine pad 3") => `(tactic| fail "pad")
local macro_rules | `(tactic| walk_at "mine pad 4") => `(tactic| fail "pad")
local macro_rules | `(tactic| walk_at "mine pad 5") => `(tactic| fail "pad")
local macro_rules | `(tactic| walk_at "mine pad 6") => `(tactic| fail "pad")
local macro_rules | `(tactic| walk_at "mine pad 7") => `(tactic| fail "pad")
local macro_rules | `(tactic| walk_at "mine pad 8") => `(tactic| fail "pad")
local macro_rules | `(tactic| walk_at "mine pad 9") => `(tactic| fail "pad")
local macro_rules | `(tactic| walk_at "mine pad 10") => `(tactic| fail "pad")
local macro_rules | `(tactic| walk_at "mine pad 11") => `(tactic| fail "pad")
local macro_rules | `(tactic| walk_at "mine pad 12") => `(tactic| fail "pad")
local macro_rules | `(tactic| walk_at "mine pad 13") => `(tactic| fail "pad")
local macro_rules | `(tactic| walk_at "mine pad 14") => `(tactic| fail "pad")
local macro_rules | `(tactic| walk_at "mine pad 15") => `(tactic| fail "pad")
local macro_rules | `(tactic| walk_at "mine pad 16") => `(tactic| fail "pad")
local macro_rules | `(tactic| walk_at "mine pad 17") => `(tactic| fail "pad")
local macro_rules | `(tactic| walk_at "mine pad 18") => `(tactic| fail "pad")
local macro_rules | `(tactic| walk_at "mine pad 19") => `(tactic| fail "pad")
local macro_rules | `(tactic| walk_at "mine pad 20") => `(tactic| fail "pad")
local macro_rules | `(tactic| walk_at "mine pad 21") => `(tactic| fail "pad")
local macro_rules | `(tactic| walk_at "mine pad 22") => `(tactic| fail "pad")
local macro_rules | `(tactic| walk_at "mine pad 23") => `(tactic| fail "pad")
local macro_rules | `(tactic| walk_at "mine pad 24") => `(tactic| fail "pad")
local macro_rules | `(tactic| walk_at "mine pad 25") => `(tactic| fail "pad")
local macro_rules | `(tactic| walk_at "mine pad 26") => `(tactic| fail "pad")
local macro_rules | `(tactic| walk_at "mine pad 27") => `(tactic| fail "pad")
local macro_rules | `(tactic| walk_at "mine pad 28") => `(tactic| fail "pad")
local macro_rules | `(tactic| walk_at "mine pad 29") => `(tactic| fail "pad")
local macro_rules | `(tactic| walk_at "mine pad 30") => `(tactic| fail "pad")
local macro_rules | `(tactic| walk_at "mine pad 31") => `(tactic| fail "pad")
local macro_rules | `(tactic| walk_at "mine pad 32") => `(tactic| fail "pad")
local macro_rules | `(tactic| walk_at "mine pad 33") => `(tactic| fail "pad")
local macro_rules | `(tactic| walk_at "mine pad 34") => `(tactic| fail "pad")
local macro_rules | `(tactic| walk_at "mine pad 35") => `(tactic| fail "pad")
local macro_rules | `(tactic| walk_at "mine pad 36") => `(tactic| fail "pad")
local macro_rules | `(tactic| walk_at "mine pad 37") => `(tactic| fail "pad")
local macro_rules | `(tactic| walk_at "mine pad 38") => `(tactic| fail "pad")
local macro_rules | `(tactic| walk_at "mine pad 39") => `(tactic| fail "pad")
local macro_rules | `(tactic| walk_at "mine pad 40") => `(tactic| fail "pad")
local macro_rules | `(tactic| walk_at "mine pad 41") => `(tactic| fail "pad")
local macro_rules | `(tactic| walk_at "mine pad 42") => `(tactic| fail "pad")
local macro_rules | `(tactic| walk_at "mine pad 43") => `(tactic| fail "pad")
local macro_rules | `(tactic| walk_at "exec While") => `(tactic| (k_here; refine Mine.Stop.go ?_))
local macro_rules | `(tactic| k_room) => `(tactic| ((try simp only [depth_under_make, depth_under_kw, depth_in1, depth_deeper, depth_caller]); show _ < 1000; omega))
local macro_rules | `(tactic| k_units) => `(tactic| (show _ < 9900; (try simp only [Around.in1_units, Around.deeper_units, Around.mark_units]); omega))
local macro_rules | `(tactic| walk_at "call type:frozenset nil nil") => `(tactic| (k_here; k_dflt (refine' fset0_K' ?F ?N ?_; (case F => k_asm); (case N => k_asm); k_whole); intro a' h' o' F' N' S' l1; (try k_lt l1); (try k_sweep)))
local macro_rules | `(tactic| walk_at "call type:frozenset cons nil") => `(tactic| (k_here; k_dflt (first
  | (refine' fsetL_K ?F ?N ?m ?x ?hh ?hb ?_; (case F => k_asm); (case N => k_asm); (case m => k_mem); (case x => assumption); (case hh => rfl); (case hb => omega); k_whole)
  | (refine' fsetT_K ?F ?N ?t ?hh ?_; (case F => k_asm); (case N => k_asm); (case t => exact ⟨_, News.get (by k_asm) (by k_mem), rfl, _, rfl⟩); (case hh => rfl); k_whole)); intro a' h' tk' o' F' N' S' l1; (try k_lt l1); (try k_sweep)))
local macro_rules | `(tactic| walk_at "truthy ref") => `(tactic| (k_here; k_dflt (refine' fset_truthy_K ?N ?m ?f ?hn ?_; (case N => k_asm); (case m => k_mem); (case f => assumption); (case hn => omega); k_whole); intro b' tk' hb'))
local macro_rules | `(tactic| walk_at "compareOp In str ref") => `(tactic| (k_here; k_dflt (refine' fset_in_K ?N ?m ?f ?hn ?_; (case N => k_asm); (case m => k_mem); (case f => assumption); (case hn => omega); k_whole); intro tk'))
local macro_rules | `(tactic| walk_at "getMethod ref") => `(tactic| (k_here; k_dflt (first
  | (refine' meth_pattern ?P slot_pattern_match type_pattern_match ?_; (case P => exact PatAt.keeps (by assumption) (Fr.keep (by k_asm))); k_whole)
  | (refine' meth_match ?f slot_match_groups type_match_groups ?_; (case f => exact foundN (by k_asm) (by k_mem) (by k_mem)); k_whole)
  | (refine' meth_match ?f slot_match_end type_match_end ?_; (case f => exact foundN (by k_asm) (by k_mem) (by k_mem)); k_whole))))
local macro_rules | `(tactic| walk_at "call builtin:re.Pattern.match") => `(tactic| (k_here; k_dflt (first
  | (refine' matchK_yes ?F ?N ?P ?g ?hp ?hx ?hm ?hk ?ok ?len ?_; (case F => k_asm); (case N => k_asm); (case hm => assumption); (case P => assumption); (case g => rfl); (case hp => omega); (case hx => omega); (case hk => decide); (case ok => assumption); (case len => exact Nat.le_of_ble_eq_true rfl); k_whole; intro a' T' h' F' N' l1 l2; (try k_lt l1); (try k_lt2 l2); (try k_sweep))
  | (refine' matchK_no ?F ?P ?hp ?hx ?hm ?hk ?_; (case F => k_asm); (case hm => assumption); (case P => assumption); (case hp => omega); (case hx => omega); (case hk => decide); k_whole))))
local macro_rules | `(tactic| walk_at "call builtin:re.Match.groups") => `(tactic| (k_here; k_dflt (refine' groupsK3 ?F ?N ?f ?hx ?_; (case F => k_asm); (case N => k_asm); (case f => exact foundN (by k_asm) (by k_mem) (by k_mem)); (case hx => omega); k_whole); intro T' t1' t2' t3' h' tk' F' N' l1; (try dsimp only [partOf] at N'); (try k_lt l1); (try k_sweep)))
local macro_rules | `(tactic| walk_at "call builtin:re.Match.end") => `(tactic| (k_here; k_dflt (refine' endK ?f ?_; (case f => exact foundN (by k_asm) (by k_mem) (by k_mem)); k_whole)))
local macro_rules | `(tactic| walk_at "truthy str") => `(tactic| (k_here; k_dflt (refine' truthy_text ?a ?b ?_; (case a => omega); (case b => omega); k_whole); intro tk'))
local macro_rules | `(tactic| walk_at "truthy ref") => `(tactic| (k_here; k_dflt (refine' truthy_listK ?N ?m ?hb ?_; (case N => k_asm); (case m => k_mem); (case hb => omega); k_whole); intro tk'))
local macro_rules | `(tactic| walk_at "call ref") => `(tactic| (k_here; k_dflt (first
  | (refine' etags_someK ?B ?F ?N ?X ?T ?P ?hA ?hf ?hke ?hh ?hd ?hu ?ht ?_; (case ht => assumption); (case hA => exact rfl); (case hf => exact rfl); (case hke => exact rfl); (case B => k_asm); (case F => k_asm); (case N => k_asm); (case X => k_asm); (case T => k_asm); (case P => first | assumption | exact PatAt.keeps (by assumption) (Fr.keep (by k_asm))); (case hh => rfl); (case hd => ((try simp only [depth_in1, depth_deeper, depth_caller]); show _ < 500; omega)); (case hu => ((try simp only [Around.in1_units, Around.deeper_units]); show _ < 500; omega)); k_whole; intro h' tk' e' d' a' b' oa' ob' t1' t2' t3' n' nS' nW' F' N' f1' f2' f3' f4'; (try k_sweep))
  | (refine' etags_noneK ?B ?F ?N ?X ?T ?hA ?hf ?hke ?hh ?hd ?hu ?_; (case hA => exact rfl); (case hf => exact rfl); (case hke => exact rfl); (case B => k_asm); (case F => k_asm); (case N => k_asm); (case X => k_asm); (case T => k_asm); (case hh => rfl); (case hd => ((try simp only [depth_in1, depth_deeper, depth_caller]); show _ < 500; omega)); (case hu => ((try simp only [Around.in1_units, Around.deeper_units]); show _ < 500; omega)); k_whole; intro h' tk' e' d' a' b' oa' ob' t1' t2' t3' n' nS' nW' F' N' f1' f2' f3' f4'; (try k_sweep)))))
local macro_rules | `(tactic| walk_at "call builtin:str.startswith") => `(tactic| (k_here; k_dflt (refine' startswith_tup ?h ?_; (case h => exact ⟨_, News.get (by k_asm) (by k_mem), rfl, _, rfl⟩); k_whole)))
local macro_rules | `(tactic| walk_at "call builtin:str.endswith") => `(tactic| (k_here; k_dflt (refine' ends_true ?h ?_; (case h => assumption); k_whole)))
local macro_rules | `(tactic| walk_at "call type:bool") => `(tactic| (k_here; k_dflt (refine' bool_fsetL ?N ?m ?f ?hn ?_; (case N => k_asm); (case m => k_mem); (case f => with_reducible assumption); (case hn => omega); k_whole); intro tk'))
local macro_rules | `(tactic| walk_at "truthy ref") => `(tactic| (k_here; k_dflt (refine' truthy_fsetL ?N ?m ?f ?hn ?_; (case N => k_asm); (case m => k_mem); (case f => with_reducible assumption); (case hn => omega); k_whole); intro tk'))
local macro_rules | `(tactic| walk_at "call type:bool") => `(tactic| (k_here; k_dflt (refine' bool_fset0 ?N ?m ?f ?hn ?_; (case N => k_asm); (case m => k_mem); (case f => with_reducible assumption); (case hn => omega); k_whole); intro tk'))
local macro_rules | `(tactic| walk_at "truthy ref") => `(tactic| (k_here; k_dflt (refine' truthy_fset0 ?N ?m ?f ?hn ?_; (case N => k_asm); (case m => k_mem); (case f => with_reducible assumption); (case hn => omega); k_whole); intro tk'))
local macro_rules | `(tactic| walk_at "getMethod ref") => `(tactic| (k_here; k_dflt (refine' meth_pattern ?P slot_pattern_fullmatch type_pattern_fullmatch ?_; (case P => first | exact PatAt.keeps (by assumption) (Fr.keep (by k_asm)) | exact PatAt.keeps (PatAt.keeps (by assumption) (Fr.keep (by assumption))) (Fr.keep (by k_asm))); k_whole)))
local macro_rules | `(tactic| walk_at "call builtin:re.Pattern.fullmatch") => `(tactic| (k_here; k_dflt (refine' fullK_c (n := 12) ?F ?N ?P ?hx ?hn ?h0 ?h1 ?h2 ?h3 ?_; (case F => k_asm); (case N => k_asm); (case P => first | assumption | exact PatAt.keeps (by assumption) (Fr.keep (by assumption))); (case hx => decide +kernel); (case hn => decide); (case h0 => first | kernel_rfl | rfl); (case h1 => rfl); (case h2 => rfl); (case h3 => rfl); k_whole; intro a' h' F' N')))

local macro_rules | `(tactic| k_ne) => `(tactic| (refine neN ?_; (try dsimp only); first | exact Ap.ne (by with_reducible assumption) | exact Ap.ne' (by with_reducible assumption) | fail "no"))
local macro_rules | `(tactic| k_all) => `(tactic| with_reducible assumption)
local macro_rules | `(tactic| walk_at "subscriptTail Name Slice ref ref") => `(tactic| (k_here; k_dflt (refine' sliceUpLI ?F ?N ?s ?li ?y ?x ?_ ?sb ?t; (case F => k_asm); (case N => k_asm); (case li => with_reducible assumption); (case s => ((repeat (with_reducible refine subT ?_)); exact subR)); (case y => exact Int.fmod_nonneg_of_pos _ (by decide)); (case x => omega); (case sb => with_unfolding_all rfl); (case t => (intro _; with_unfolding_all rfl)); k_whole); intro D' h' zs' F' N' l1 hI'; (try k_lt l1)))
local macro_rules | `(tactic| walk_at "setItem ref int") => `(tactic| (k_here; k_dflt (refine' setLst ?F ?N ?a ?b ?l ?U ?_; (case F => k_asm); (case N => k_asm); (case U => k_upd); (case a => assumption); (case b => assumption); (case l => first | assumption | (rw [List.length_set]; assumption)); k_whole); intro h' F' N'))
local macro_rules | `(tactic| walk_at "subscriptTail Name Name ref int") => `(tactic| (k_here; k_dflt (refine' pickR ?k1 ?k2 ?k3 ?k4 ?_ ?k6; (case k1 => exact listN (by k_asm) (by k_mem)); (case k2 => with_reducible assumption); (case k3 => assumption); (case k4 => omega); (case k6 => with_unfolding_all rfl); k_whole)))

local macro_rules | `(tactic| walk_at "binaryOp Add str str") => `(tactic| (k_here; k_dflt (refine' Rows_add ?_ ?z; (case z => exact add_ok (by assumption) (by omega)); intro t' tk')))
local macro_rules | `(tactic| walk_at "ite") => `(tactic| (k_here; (with_reducible refine ite_pos ?e ?_); (case e => with_reducible assumption)))
local macro_rules | `(tactic| walk_at "binaryOp Mod int int") => `(tactic| (k_here; k_dflt (refine' modK ?e ?n ?_; (case e => with_reducible assumption); (case n => decide); k_whole)))
local macro_rules | `(tactic| walk_at "subscriptTail Name Name ref int") => `(tactic| (k_here; k_dflt (first
  | (refine' pickR ?k1 ?k2 ?k3 ?k4 ?_ ?k6; (case k1 => exact listN (by k_asm) (by k_mem)); (case k2 => with_reducible assumption); (case k3 => assumption); (case k4 => omega); (case k6 => with_unfolding_all rfl); k_whole)
  | (refine' dictGet ?N ?p ?d ?l ?_ ?s ?g; (case N => k_asm); (case p => k_mem); (case d => with_reducible assumption); (case l => with_reducible assumption); (case s => with_unfolding_all rfl); (case g => (intro _; with_unfolding_all rfl)); k_whole)
  | fail "no pick")))
local macro_rules | `(tactic| walk_at "binaryOp Add ref ref") => `(tactic| (k_here; k_dflt (refine' addLI1 ?F ?N ?s ?li ?b ?x ?_; (case F => k_asm); (case N => k_asm); (case li => with_reducible assumption); (case s => ((repeat (with_reducible refine subT ?_)); exact subR)); (case b => k_mem); (case x => omega); k_whole); intro D' h' zs' F' N' l1 hI'; (try k_lt l1)))
local macro_rules | `(tactic| walk_at "setItem ref int") => `(tactic| (k_here; k_dflt (first
  | (refine' setLst ?F ?N ?a ?b ?l ?U ?_; (case F => k_asm); (case N => k_asm); (case U => k_upd); (case a => assumption); (case b => assumption); (case l => first | assumption | (rw [List.length_set]; assumption)); k_whole; intro h' F' N')
  | (refine' dictSet ?F ?N ?U ?d ?z ?_; (case F => k_asm); (case N => k_asm); (case U => k_updF); (case d => with_reducible assumption); (case z => omega); k_whole; intro h' o' F' N' hd'; (try dsimp only at N'))
  | fail "no set")))

theorem neP {prog : Program} {w : World} {A : Around} {E : Value → Shared → Prop} {s : Shared} {a b f : Addr} {z : Int} {t : Tok} {vs : List Value} {xs : List Int} {Q : Value → Shared → Prop} (ha : s.heap.IsList a #[.int z t, .ref f]) (hf : s.heap.IsList f vs.toArray) (hi : IntsAre vs xs) (hb : s.heap.IsList b #[])
    (hu : A.units + 64 < cLine) (h : Q (.bool true) s) : wpAny (model prog w) A (compareOp .NotEq (.ref a) (.ref b)) Q E s := by
  obtain ⟨o, h1, h2, n, h3⟩ := id ha
  obtain ⟨o', h1', h2', n', h3'⟩ := id hb
  refine ne_dataH (.list h1 h2 h3 (.cons (.int z t) (.cons (reads_newData hf (ke_carried hi)) .nil))) (.list h1' h2' h3' .nil) ?_ rfl hu ?_
  · simp [SeqAt.shaped, PyData.canLay0, PyData.depth, PyData.canLayAll0, PyData.depthAll, ke_canLayAll0, ke_depthAll]
  · have e : PyData.eqv (.list [.int z, .list (xs.map PyData.int)]) (.list []) = false := by simp [PyData.eqv, PyData.eqvAll]
    rw [e]; exact h
theorem ne0 {prog : Program} {w : World} {A : Around} {E : Value → Shared → Prop} {s : Shared} {a b : Addr} {Q : Value → Shared → Prop} (ha : s.heap.IsList a #[]) (hb : s.heap.IsList b #[])
    (hu : A.units + 64 < cLine) (h : Q (.bool false) s) : wpAny (model prog w) A (compareOp .NotEq (.ref a) (.ref b)) Q E s :=
  ke_ne_ints (xs := []) (ys := []) (ns := []) (ms := []) ha hb .nil .nil hu h

theorem deed1K {w : World} {h₀ : Heap} {s : Shared} {lz : List Str} {mean : ExcName → Option Value} {mg mb : Str → Option Value} {fa : Addr} {cd : Value} {E : Value → Shared → Prop} {Q : Flow → Shared → Prop}
    {L I D Sa Ba Pa d da db pg lt : Nat} {oI o2 oH oD q qa qb : Obj} {sv bv pv : List Value} {b p ba pa bb pb : Value} {nS nb np i v : Nat} {rest : List (Addr × Obj)} {H : Nat → List Int} {tv tc td tx tn tdr tk : Tok} {u : Str → Option Value} {c dr de : Int} {x : Str}
    (B : Below callerA h₀ [] h₀) (X : (hd1.heap_39 w.params).In h₀) (T : Top hd1.view_39 lz mean mg mb h₀)
    (F : Fr h₀ L s.heap fun y => if y = "store" then some (.ref d) else if y = "now" then some (.str (Str.ofString "\"" ++ (x ++ Str.ofString (toString (v : Int))) ++ Str.ofString "\"") tn) else if y = "deed" then some (.int de td) else if y = "client" then some (.int c tc) else if y = "k" then some (.int (i : Int) tk) else
      if y = "good" then some (.bool true) else if y = "parts" then some (.ref Pa) else if y = "bases" then some (.ref Ba) else if y = "stores" then some (.ref Sa) else if y = "page" then some (.ref pg) else
      if y = "version" then some (.int (v : Int) tv) else if y = "let" then some (.ref lt) else if y = "cells" then some (.ref D) else u y)
    (N : News h₀ L s.heap ((I, oI) :: (L + 1 + 1, o2) :: (L + 1, oH) :: (D, oD) :: (Sa, listOf sv.toArray nS) :: (Ba, listOf bv.toArray nb) :: (Pa, listOf pv.toArray np) :: (d, q) :: (da, qa) :: (db, qb) :: rest))
    (hoH : oH.data = .cell (some (.str x tx))) (ho2 : o2.data = .cell (some (.int dr tdr))) (hx : HeadOk x) (hc0 : 0 ≤ c) (hc3 : c < 3) (hi : i < 16) (hv : v ≤ i)
    (hH : ∀ j, j ≤ v → (H j).length = 3 + j) (hpg : LI rest pg (H v)) (hlt : LI rest lt (H v))
    (gq : ClientOk PySem.Challenge.rw_ez0420_01.row.prog w H v rest q b p) (ga : ClientOk PySem.Challenge.rw_ez0420_01.row.prog w H v rest qa ba pa) (gb : ClientOk PySem.Challenge.rw_ez0420_01.row.prog w H v rest qb bb pb)
    (sl : sv.length = 3) (bl : bv.length = 3) (pl : pv.length = 3) (hs : sv[c.toNat]? = some (.ref d)) (hb : bv[c.toNat]? = some b) (hp : pv[c.toNat]? = some p)
    (hA : Apart1 I (L + 1) (L + 1 + 1) D Sa Ba Pa d da db) (hd1' : d ≠ 1) (hrest : ∀ p ∈ rest, p.1 ≠ I ∧ p.1 ≠ L + 1 + 1 ∧ p.1 ≠ Ba ∧ p.1 ≠ Pa ∧ p.1 ≠ d ∧ p.1 ≠ da ∧ p.1 ≠ db)
    (fin : FinT PySem.Challenge.rw_ez0420_01.row.prog w h₀ L I D Sa Ba Pa d da db oI oH oD qa qb sv bv pv ba pa bb pb nS i c s Q) {j : Nat} {tb : Tok} (hbj : b = .int (j : Int) tb) (hj : j ≤ v) :
    wpAny (model PySem.Challenge.rw_ez0420_01.row.prog w) (callerA.deeper (envOfC (Str.ofString "law") lawScope L fa cd)) (execs body1 (envOfC (Str.ofString "law") lawScope L fa cd)) Q E s := by

  by_cases hw : Int.fmod dr 3 = 0
  · by_cases ej : j = v
    · exact deed1a B X T F N hoH ho2 hx hc0 hc3 hi hv hH hpg hlt gq ga gb sl bl pl hs hb hp hA hd1' hrest fin hbj hj hw ej
    · exact deed1b B X T F N hoH ho2 hx hc0 hc3 hi hv hH hpg hlt gq ga gb sl bl pl hs hb hp hA hd1' hrest fin hbj hj hw ej
  · by_cases h1 : Int.fmod dr 3 = 1
    · exact deed1c B X T F N hoH ho2 hx hc0 hc3 hi hv hH hpg hlt gq ga gb sl bl pl hs hb hp hA hd1' hrest fin hbj hj h1
    · exact deed1d B X T F N hoH ho2 hx hc0 hc3 hi hv hH hpg hlt gq ga gb sl bl pl hs hb hp hA hd1' hrest fin hbj hj (by (have f0 := Int.fmod_nonneg_of_pos dr (b := 3) (by decide)); (have f1 := Int.fmod_lt_of_pos dr (b := 3) (by decide)); omega)

theorem deed3K {w : World} {h₀ : Heap} {s : Shared} {lz : List Str} {mean : ExcName → Option Value} {mg mb : Str → Option Value} {fa : Addr} {cd : Value} {E : Value → Shared → Prop} {Q : Flow → Shared → Prop}
    {L I D Sa Ba Pa d da db pg lt : Nat} {oI o2 oH oD q qa qb : Obj} {sv bv pv : List Value} {b p ba pa bb pb : Value} {nS nb np i v : Nat} {rest : List (Addr × Obj)} {H : Nat → List Int} {tv tc td tx tn tdr tk : Tok} {u : Str → Option Value} {c dr de : Int} {x : Str}
    (B : Below callerA h₀ [] h₀) (X : (hd1.heap_39 w.params).In h₀) (T : Top hd1.view_39 lz mean mg mb h₀)
    (F : Fr h₀ L s.heap fun y => if y = "store" then some (.ref d) else if y = "now" then some (.str (Str.ofString "\"" ++ (x ++ Str.ofString (toString (v : Int))) ++ Str.ofString "\"") tn) else if y = "deed" then some (.int de td) else if y = "client" then some (.int c tc) else if y = "k" then some (.int (i : Int) tk) else
      if y = "good" then some (.bool true) else if y = "parts" then some (.ref Pa) else if y = "bases" then some (.ref Ba) else if y = "stores" then some (.ref Sa) else if y = "page" then some (.ref pg) else
      if y = "version" then some (.int (v : Int) tv) else if y = "let" then some (.ref lt) else if y = "cells" then some (.ref D) else u y)
    (N : News h₀ L s.heap ((I, oI) :: (L + 1 + 1, o2) :: (L + 1, oH) :: (D, oD) :: (Sa, listOf sv.toArray nS) :: (Ba, listOf bv.toArray nb) :: (Pa, listOf pv.toArray np) :: (d, q) :: (da, qa) :: (db, qb) :: rest))
    (hoH : oH.data = .cell (some (.str x tx))) (ho2 : o2.data = .cell (some (.int dr tdr))) (hx : HeadOk x) (hc0 : 0 ≤ c) (hc3 : c < 3) (hi : i < 16) (hv : v ≤ i)
    (hH : ∀ j, j ≤ v → (H j).length = 3 + j) (hpg : LI rest pg (H v)) (hlt : LI rest lt (H v))
    (gq : ClientOk PySem.Challenge.rw_ez0420_01.row.prog w H v rest q b p) (ga : ClientOk PySem.Challenge.rw_ez0420_01.row.prog w H v rest qa ba pa) (gb : ClientOk PySem.Challenge.rw_ez0420_01.row.prog w H v rest qb bb pb)
    (sl : sv.length = 3) (bl : bv.length = 3) (pl : pv.length = 3) (hs : sv[c.toNat]? = some (.ref d)) (hb : bv[c.toNat]? = some b) (hp : pv[c.toNat]? = some p)
    (hA : Apart1 I (L + 1) (L + 1 + 1) D Sa Ba Pa d da db) (hd1' : d ≠ 1) (hrest : ∀ p ∈ rest, p.1 ≠ I ∧ p.1 ≠ L + 1 + 1 ∧ p.1 ≠ Ba ∧ p.1 ≠ Pa ∧ p.1 ≠ d ∧ p.1 ≠ da ∧ p.1 ≠ db)
    (fin : FinT PySem.Challenge.rw_ez0420_01.row.prog w h₀ L I D Sa Ba Pa d da db oI oH oD qa qb sv bv pv ba pa bb pb nS i c s Q) {a f j n k : Nat} {tj : Tok} (hpa : p = .ref a) (hpm : (a, listOf #[.int (j : Int) tj, .ref f] 0) ∈ rest) (hf : LI rest f ((H j).take n)) (hj : j ≤ v) (hn : n ≤ 4) (hk : ((H j).take n).length = k) :
    wpAny (model PySem.Challenge.rw_ez0420_01.row.prog w) (callerA.deeper (envOfC (Str.ofString "law") lawScope L fa cd)) (execs body3 (envOfC (Str.ofString "law") lawScope L fa cd)) Q E s := by

  by_cases ej : j = v
  · subst ej
    by_cases hle : 3 + j ≤ k
    · exact deed3b B X T F N hoH ho2 hx hc0 hc3 hi hv hH hpg hlt gq ga gb sl bl pl hs hb hp hA hd1' hrest fin hpa hpm hf hn hk hle
    · exact deed3c B X T F N hoH ho2 hx hc0 hc3 hi hv hH hpg hlt gq ga gb sl bl pl hs hb hp hA hd1' hrest fin hpa hpm hf hn hk (by omega)
  · exact deed3a B X T F N hoH ho2 hx hc0 hc3 hi hv hH hpg hlt gq ga gb sl bl pl hs hb hp hA hd1' hrest fin hpa hpm hf hj hn hk ej

theorem deed0K {w : World} {h₀ : Heap} {s : Shared} {lz : List Str} {mean : ExcName → Option Value} {mg mb : Str → Option Value} {fa : Addr} {cd : Value} {E : Value → Shared → Prop} {Q : Flow → Shared → Prop}
    {L I D Sa Ba Pa d da db pg lt : Nat} {oI o2 oH oD q qa qb : Obj} {sv bv pv : List Value} {b p ba pa bb pb : Value} {nS nb np i v : Nat} {rest : List (Addr × Obj)} {H : Nat → List Int} {tv tc td tx tn tdr tk : Tok} {u : Str → Option Value} {c dr de : Int} {x : Str}
    (B : Below callerA h₀ [] h₀) (X : (hd1.heap_39 w.params).In h₀) (T : Top hd1.view_39 lz mean mg mb h₀)
    (F : Fr h₀ L s.heap fun y => if y = "store" then some (.ref d) else if y = "now" then some (.str (Str.ofString "\"" ++ (x ++ Str.ofString (toString (v : Int))) ++ Str.ofString "\"") tn) else if y = "deed" then some (.int de td) else if y = "client" then some (.int c tc) else if y = "k" then some (.int (i : Int) tk) else
      if y = "good" then some (.bool true) else if y = "parts" then some (.ref Pa) else if y = "bases" then some (.ref Ba) else if y = "stores" then some (.ref Sa) else if y = "page" then some (.ref pg) else
      if y = "version" then some (.int (v : Int) tv) else if y = "let" then some (.ref lt) else if y = "cells" then some (.ref D) else u y)
    (N : News h₀ L s.heap ((I, oI) :: (L + 1 + 1, o2) :: (L + 1, oH) :: (D, oD) :: (Sa, listOf sv.toArray nS) :: (Ba, listOf bv.toArray nb) :: (Pa, listOf pv.toArray np) :: (d, q) :: (da, qa) :: (db, qb) :: rest))
    (hoH : oH.data = .cell (some (.str x tx))) (ho2 : o2.data = .cell (some (.int dr tdr))) (hx : HeadOk x) (hc0 : 0 ≤ c) (hc3 : c < 3) (hi : i < 16) (hv : v ≤ i)
    (hH : ∀ j, j ≤ v → (H j).length = 3 + j) (hpg : LI rest pg (H v)) (hlt : LI rest lt (H v))
    (gq : ClientOk PySem.Challenge.rw_ez0420_01.row.prog w H v rest q b p) (ga : ClientOk PySem.Challenge.rw_ez0420_01.row.prog w H v rest qa ba pa) (gb : ClientOk PySem.Challenge.rw_ez0420_01.row.prog w H v rest qb bb pb)
    (sl : sv.length = 3) (bl : bv.length = 3) (pl : pv.length = 3) (hs : sv[c.toNat]? = some (.ref d)) (hb : bv[c.toNat]? = some b) (hp : pv[c.toNat]? = some p)
    (hA : Apart1 I (L + 1) (L + 1 + 1) D Sa Ba Pa d da db) (hd1' : d ≠ 1) (hrest : ∀ p ∈ rest, p.1 ≠ I ∧ p.1 ≠ L + 1 + 1 ∧ p.1 ≠ Ba ∧ p.1 ≠ Pa ∧ p.1 ≠ d ∧ p.1 ≠ da ∧ p.1 ≠ db)
    (fin : FinT PySem.Challenge.rw_ez0420_01.row.prog w h₀ L I D Sa Ba Pa d da db oI oH oD qa qb sv bv pv ba pa bb pb nS i c s Q)  :
    wpAny (model PySem.Challenge.rw_ez0420_01.row.prog w) (callerA.deeper (envOfC (Str.ofString "law") lawScope L fa cd)) (execs body0 (envOfC (Str.ofString "law") lawScope L fa cd)) Q E s := by

  show wpAny _ _ (execs (st1 :: st2 :: st3 :: rest0) _) _ _ _
  refine wpAny_execs_cons (told0K B X T F N hoH ho2 hx hc0 hc3 hi hv hH hpg hlt gq ga gb sl bl pl hs hb hp hA hd1' hrest fun D' ys ks kvs h' tk' hD hB hP F' N' ap hys hp' => ?_)
  show wpAny _ _ (execs (st2 :: st3 :: rest0) _) Q E _
  have hks : ∀ k ∈ ks, ∃ j : Nat, k = (j : Int) ∧ j ≤ 16 := fun k hk => by
    obtain ⟨kv, hkv, rfl⟩ := List.mem_map.mp (hp'.mem_iff.mp hk)
    obtain ⟨j, _, e, hj, _⟩ := hD.2 kv hkv
    exact ⟨j, e, by omega⟩
  have hkl : ks.length ≤ 20 := by
    have h1 := hp'.length_eq
    rw [List.length_map] at h1
    have h2 := hD.len
    omega
  have k1 : ks = [] → (valueAt kvs (v : Int)).isSome = !true := fun e => by
    rw [← in_keys hp' (v : Int), e]; rfl
  have fr : ∀ pre, (!(decide (tagOf x v ∈ weaks (tolds pre x dr ks)) || decide (tagOf x v ∈ strongs (tolds pre x dr ks)))) = !(valueAt kvs (v : Int)).isSome := fun pre => by
    rw [tolds_fresh hx (by omega) hks, in_keys hp' (v : Int)]
  have go1 : ks = [] → ∀ (h' : Heap) (tk' : Nat) (to' : Option Value), Fr h₀ L h' (fun y => if y = "asked" then some .none else if y = "told" then to' else if y = "store" then some (.ref d) else if y = "now" then some (.str (Str.ofString "\"" ++ (x ++ Str.ofString (toString (v : Int))) ++ Str.ofString "\"") tn) else if y = "deed" then some (.int de td) else if y = "client" then some (.int c tc) else if y = "k" then some (.int (i : Int) tk) else
      if y = "good" then some (.bool true) else if y = "parts" then some (.ref Pa) else if y = "bases" then some (.ref Ba) else if y = "stores" then some (.ref Sa) else if y = "page" then some (.ref pg) else
      if y = "version" then some (.int (v : Int) tv) else if y = "let" then some (.ref lt) else if y = "cells" then some (.ref D) else u y) → News h₀ L h' ((I, oI) :: (L + 1 + 1, o2) :: (L + 1, oH) :: (D, oD) :: (Sa, listOf sv.toArray nS) :: (Ba, listOf bv.toArray nb) :: (Pa, listOf pv.toArray np) :: (d, q) :: (da, qa) :: (db, qb) :: rest) → wpAny (model PySem.Challenge.rw_ez0420_01.row.prog w) (callerA.deeper (envOfC (Str.ofString "law") lawScope L fa cd)) (execs rest0 (envOfC (Str.ofString "law") lawScope L fa cd)) Q E { s with heap := h', toks := tk' } :=
    fun e h2 tk2 to2 F2 N2 => restN (T' := Str.empty) (at' := 0) (told' := []) (s := { s with heap := h2, toks := tk2 }) B X T F2 N2 hoH ho2 hx hc0 hc3 hi hv hH hpg hlt gq ga gb sl bl pl hs hb hp hA hd1' hrest fin hD (k1 e)
  have go2 : ∀ (pre : Bool) (sep : Str) (t' : Nat) (h' : Heap) (tk' : Nat) (to' : Option Value), SepOk sep → tolds pre x dr ks ≠ [] → Fr h₀ L h' (fun y => if y = "asked" then some (.str (Txt.join sep ((tolds pre x dr ks).map quoteS)) t') else if y = "told" then to' else if y = "store" then some (.ref d) else if y = "now" then some (.str (Str.ofString "\"" ++ (x ++ Str.ofString (toString (v : Int))) ++ Str.ofString "\"") tn) else if y = "deed" then some (.int de td) else if y = "client" then some (.int c tc) else if y = "k" then some (.int (i : Int) tk) else
      if y = "good" then some (.bool true) else if y = "parts" then some (.ref Pa) else if y = "bases" then some (.ref Ba) else if y = "stores" then some (.ref Sa) else if y = "page" then some (.ref pg) else
      if y = "version" then some (.int (v : Int) tv) else if y = "let" then some (.ref lt) else if y = "cells" then some (.ref D) else u y) → News h₀ L h' ((I, oI) :: (L + 1 + 1, o2) :: (L + 1, oH) :: (D, oD) :: (Sa, listOf sv.toArray nS) :: (Ba, listOf bv.toArray nb) :: (Pa, listOf pv.toArray np) :: (d, q) :: (da, qa) :: (db, qb) :: rest) → wpAny (model PySem.Challenge.rw_ez0420_01.row.prog w) (callerA.deeper (envOfC (Str.ofString "law") lawScope L fa cd)) (execs rest0 (envOfC (Str.ofString "law") lawScope L fa cd)) Q E { s with heap := h', toks := tk' } := by
    intro pre sep t' h2 tk2 to2 hsep hn F2 N2
    have ht := tolds_text hsep hx hks hkl hn
    have hf := fr pre
    cases e : (valueAt kvs (v : Int)).isSome with
    | true => exact restO (s := { s with heap := h2, toks := tk2 }) B X T F2 N2 hoH ho2 hx hc0 hc3 hi hv hH hpg hlt gq ga gb sl bl pl hs hb hp hA hd1' hrest fin hD e ht (by rw [hf, e]; rfl)
    | false => exact restS (s := { s with heap := h2, toks := tk2 }) B X T F2 N2 hoH ho2 hx hc0 hc3 hi hv hH hpg hlt gq ga gb sl bl pl hs hb hp hA hd1' hrest fin hD e ht (by rw [hf, e]; rfl)
  have f0 := Int.fmod_nonneg_of_pos dr (b := 2) (by decide)
  have f1 := Int.fmod_lt_of_pos dr (b := 2) (by decide)
  by_cases hw : Int.fmod dr 2 = 1
  · exact asked1 (s := { s with heap := h', toks := tk' }) (nt := ys.length) B X T F' N' hoH ho2 hx hc0 hc3 hi hv hH hpg hlt gq ga gb sl bl pl hs hb hp hA hd1' hrest ap hys hks hkl hw go1 go2
  · by_cases e : ks = []
    · exact asked3 (s := { s with heap := h', toks := tk' }) (nt := ys.length) B X T F' N' hoH ho2 hx hc0 hc3 hi hv hH hpg hlt gq ga gb sl bl pl hs hb hp hA hd1' hrest ap hys hks hkl (by omega) e go1 go2
    · exact asked2 (s := { s with heap := h', toks := tk' }) (nt := ys.length) B X T F' N' hoH ho2 hx hc0 hc3 hi hv hH hpg hlt gq ga gb sl bl pl hs hb hp hA hd1' hrest ap hys hks hkl (by omega) e go1 go2

local macro_rules | `(tactic| walk_at "execs cons") => `(tactic| (k_here; (fail_if_success (with_reducible show wpAny _ _ (execs (Stmt.If _ _ _ _ :: _) _) _ _ _)); refine Mine.Stop.go ?_))
local macro_rules | `(tactic| walk_at "compareOp NotEq ref ref") => `(tactic| (k_here; k_dflt (first
  | (refine' neP ?a ?f ?i ?b ?u ?_; (case i => with_reducible assumption); (case a => exact ⟨_, News.get (by k_asm) (by k_mem), rfl, _, rfl⟩); (case f => exact listN (by k_asm) (by k_mem)); (case b => exact ⟨_, News.get (by k_asm) (by k_mem), rfl, _, rfl⟩); (case u => k_units); k_whole)
  | (refine' ne0 ?a ?b ?u ?_; (case a => exact ⟨_, News.get (by k_asm) (by k_mem), rfl, _, rfl⟩); (case b => exact ⟨_, News.get (by k_asm) (by k_mem), rfl, _, rfl⟩); (case u => k_units); k_whole)
  | fail "no ne")))

theorem go0 {w : World} {h₀ : Heap} {s : Shared} {lz : List Str} {mean : ExcName → Option Value} {mg mb : Str → Option Value} {fa : Addr} {cd : Value} {E : Value → Shared → Prop} {Q : Flow → Shared → Prop}
    {L I D Sa Ba Pa d da db pg lt : Nat} {oI o2 oH oD q qa qb : Obj} {sv bv pv : List Value} {b p ba pa bb pb : Value} {nS nb np i v : Nat} {rest : List (Addr × Obj)} {H : Nat → List Int} {tv tc td tx tn tdr tk : Tok} {u : Str → Option Value} {c dr de : Int} {x : Str}
    (B : Below callerA h₀ [] h₀) (X : (hd1.heap_39 w.params).In h₀) (T : Top hd1.view_39 lz mean mg mb h₀)
    (F : Fr h₀ L s.heap fun y => if y = "store" then some (.ref d) else if y = "now" then some (.str (Str.ofString "\"" ++ (x ++ Str.ofString (toString (v : Int))) ++ Str.ofString "\"") tn) else if y = "deed" then some (.int de td) else if y = "client" then some (.int c tc) else if y = "k" then some (.int (i : Int) tk) else
      if y = "good" then some (.bool true) else if y = "parts" then some (.ref Pa) else if y = "bases" then some (.ref Ba) else if y = "stores" then some (.ref Sa) else if y = "page" then some (.ref pg) else
      if y = "version" then some (.int (v : Int) tv) else if y = "let" then some (.ref lt) else if y = "cells" then some (.ref D) else u y)
    (N : News h₀ L s.heap ((I, oI) :: (L + 1 + 1, o2) :: (L + 1, oH) :: (D, oD) :: (Sa, listOf sv.toArray nS) :: (Ba, listOf bv.toArray nb) :: (Pa, listOf pv.toArray np) :: (d, q) :: (da, qa) :: (db, qb) :: rest))
    (hoH : oH.data = .cell (some (.str x tx))) (ho2 : o2.data = .cell (some (.int dr tdr))) (hx : HeadOk x) (hc0 : 0 ≤ c) (hc3 : c < 3) (hi : i < 16) (hv : v ≤ i)
    (hH : ∀ j, j ≤ v → (H j).length = 3 + j) (hpg : LI rest pg (H v)) (hlt : LI rest lt (H v))
    (gq : ClientOk PySem.Challenge.rw_ez0420_01.row.prog w H v rest q b p) (ga : ClientOk PySem.Challenge.rw_ez0420_01.row.prog w H v rest qa ba pa) (gb : ClientOk PySem.Challenge.rw_ez0420_01.row.prog w H v rest qb bb pb)
    (sl : sv.length = 3) (bl : bv.length = 3) (pl : pv.length = 3) (hs : sv[c.toNat]? = some (.ref d)) (hb : bv[c.toNat]? = some b) (hp : pv[c.toNat]? = some p)
    (hA : Apart1 I (L + 1) (L + 1 + 1) D Sa Ba Pa d da db) (hd1' : d ≠ 1) (hrest : ∀ p ∈ rest, p.1 ≠ I ∧ p.1 ≠ L + 1 + 1 ∧ p.1 ≠ Ba ∧ p.1 ≠ Pa ∧ p.1 ≠ d ∧ p.1 ≠ da ∧ p.1 ≠ db)
    (fin : FinT PySem.Challenge.rw_ez0420_01.row.prog w h₀ L I D Sa Ba Pa d da db oI oH oD qa qb sv bv pv ba pa bb pb nS i c s Q) (hde : de = 0) :
    wpAny (model PySem.Challenge.rw_ez0420_01.row.prog w) (callerA.deeper (envOfC (Str.ofString "law") lawScope L fa cd)) (exec deedIf (envOfC (Str.ofString "law") lawScope L fa cd)) Q E s := by

  show wpAny _ (callerA.deeper (envOfC _ (Scope.mk _ _ _ _ _) _ _ _)) (exec (Stmt.If _ _ _ _) (envOfC _ (Scope.mk _ _ _ _ _) _ _ _)) _ _ _

  have B0 := B
  have X0 := X
  have N0 := N
  have hA0 := hA

  revert X; k_fill; intro X
  obtain ⟨⟨aI1, aI2, aI3, aI4, aI5, aI6, aI7, aI8, aI9⟩, ⟨ac1, ac2, ac3, ac4, ac5, ac6, ac7, ac8⟩, ⟨aB1, aB2, aB3, aB4, aB5, aB6, aB7⟩, ⟨aP1, aP2, aP3, aP4, aP5, aP6⟩, ⟨ad1, ad2, ad3, ad4, ad5⟩⟩ := hA.hide
  clear hA
  have z0 := ltN (Heap.lt_size (N _ (.head _)).1)
  have z1 := ltN (Heap.lt_size (N _ (.tail _ (.head _))).1)
  have z2 := ltN (Heap.lt_size (N _ (.tail _ (.tail _ (.head _)))).1)
  have z3 := ltN (Heap.lt_size (N _ (.tail _ (.tail _ (.tail _ (.head _))))).1)
  have z4 := ltN (Heap.lt_size (N _ (.tail _ (.tail _ (.tail _ (.tail _ (.head _)))))).1)
  have z5 := ltN (Heap.lt_size (N _ (.tail _ (.tail _ (.tail _ (.tail _ (.tail _ (.head _))))))).1)
  have z6 := ltN (Heap.lt_size (N _ (.tail _ (.tail _ (.tail _ (.tail _ (.tail _ (.tail _ (.head _)))))))).1)
  have z7 := ltN (Heap.lt_size (N _ (.tail _ (.tail _ (.tail _ (.tail _ (.tail _ (.tail _ (.tail _ (.head _))))))))).1)
  have z8 := ltN (Heap.lt_size (N _ (.tail _ (.tail _ (.tail _ (.tail _ (.tail _ (.tail _ (.tail _ (.tail _ (.head _)))))))))).1)
  have z9 := ltN (Heap.lt_size (N _ (.tail _ (.tail _ (.tail _ (.tail _ (.tail _ (.tail _ (.tail _ (.tail _ (.tail _ (.head _))))))))))).1)
  dsimp only at z0 z1 z2 z3 z4 z5 z6 z7 z8 z9
  have rI := fun p hp => (hrest p hp).1
  have r2 := fun p hp => (hrest p hp).2.1
  have rB := fun p hp => (hrest p hp).2.2.1
  have rP := fun p hp => (hrest p hp).2.2.2.1
  have rd := fun p hp => (hrest p hp).2.2.2.2.1
  have hlv := hH v (Nat.le_refl _)

  subst hde
  k_steps

  unfold Stop
  rename News _ _ _ _ => lN
  rename Fr _ _ _ _ => lF

  exact deed0K B0 X0 T lF (newsSub lN (by (repeat (first | with_reducible exact subR | with_reducible refine subT ?_)))) hoH ho2 hx hc0 hc3 hi hv hH hpg hlt gq ga gb sl bl pl hs hb hp hA0 hd1' hrest (FinT.to fin (fun _ _ => rfl) (fun _ h => by first | exact h | exact wpAny_execs_nil h | exact wpAny_execs_nil (wpAny_execs_nil h) | exact wpAny_execs_nil (wpAny_execs_nil (wpAny_execs_nil h))))

theorem go1 {w : World} {h₀ : Heap} {s : Shared} {lz : List Str} {mean : ExcName → Option Value} {mg mb : Str → Option Value} {fa : Addr} {cd : Value} {E : Value → Shared → Prop} {Q : Flow → Shared → Prop}
    {L I D Sa Ba Pa d da db pg lt : Nat} {oI o2 oH oD q qa qb : Obj} {sv bv pv : List Value} {b p ba pa bb pb : Value} {nS nb np i v : Nat} {rest : List (Addr × Obj)} {H : Nat → List Int} {tv tc td tx tn tdr tk : Tok} {u : Str → Option Value} {c dr de : Int} {x : Str}
    (B : Below callerA h₀ [] h₀) (X : (hd1.heap_39 w.params).In h₀) (T : Top hd1.view_39 lz mean mg mb h₀)
    (F : Fr h₀ L s.heap fun y => if y = "store" then some (.ref d) else if y = "now" then some (.str (Str.ofString "\"" ++ (x ++ Str.ofString (toString (v : Int))) ++ Str.ofString "\"") tn) else if y = "deed" then some (.int de td) else if y = "client" then some (.int c tc) else if y = "k" then some (.int (i : Int) tk) else
      if y = "good" then some (.bool true) else if y = "parts" then some (.ref Pa) else if y = "bases" then some (.ref Ba) else if y = "stores" then some (.ref Sa) else if y = "page" then some (.ref pg) else
      if y = "version" then some (.int (v : Int) tv) else if y = "let" then some (.ref lt) else if y = "cells" then some (.ref D) else u y)
    (N : News h₀ L s.heap ((I, oI) :: (L + 1 + 1, o2) :: (L + 1, oH) :: (D, oD) :: (Sa, listOf sv.toArray nS) :: (Ba, listOf bv.toArray nb) :: (Pa, listOf pv.toArray np) :: (d, q) :: (da, qa) :: (db, qb) :: rest))
    (hoH : oH.data = .cell (some (.str x tx))) (ho2 : o2.data = .cell (some (.int dr tdr))) (hx : HeadOk x) (hc0 : 0 ≤ c) (hc3 : c < 3) (hi : i < 16) (hv : v ≤ i)
    (hH : ∀ j, j ≤ v → (H j).length = 3 + j) (hpg : LI rest pg (H v)) (hlt : LI rest lt (H v))
    (gq : ClientOk PySem.Challenge.rw_ez0420_01.row.prog w H v rest q b p) (ga : ClientOk PySem.Challenge.rw_ez0420_01.row.prog w H v rest qa ba pa) (gb : ClientOk PySem.Challenge.rw_ez0420_01.row.prog w H v rest qb bb pb)
    (sl : sv.length = 3) (bl : bv.length = 3) (pl : pv.length = 3) (hs : sv[c.toNat]? = some (.ref d)) (hb : bv[c.toNat]? = some b) (hp : pv[c.toNat]? = some p)
    (hA : Apart1 I (L + 1) (L + 1 + 1) D Sa Ba Pa d da db) (hd1' : d ≠ 1) (hrest : ∀ p ∈ rest, p.1 ≠ I ∧ p.1 ≠ L + 1 + 1 ∧ p.1 ≠ Ba ∧ p.1 ≠ Pa ∧ p.1 ≠ d ∧ p.1 ≠ da ∧ p.1 ≠ db)
    (fin : FinT PySem.Challenge.rw_ez0420_01.row.prog w h₀ L I D Sa Ba Pa d da db oI oH oD qa qb sv bv pv ba pa bb pb nS i c s Q) (hde : de = 1) :
    wpAny (model PySem.Challenge.rw_ez0420_01.row.prog w) (callerA.deeper (envOfC (Str.ofString "law") lawScope L fa cd)) (exec deedIf (envOfC (Str.ofString "law") lawScope L fa cd)) Q E s := by

  show wpAny _ (callerA.deeper (envOfC _ (Scope.mk _ _ _ _ _) _ _ _)) (exec (Stmt.If _ _ _ _) (envOfC _ (Scope.mk _ _ _ _ _) _ _ _)) _ _ _

  have B0 := B
  have X0 := X
  have N0 := N
  have hA0 := hA

  revert X; k_fill; intro X
  obtain ⟨⟨aI1, aI2, aI3, aI4, aI5, aI6, aI7, aI8, aI9⟩, ⟨ac1, ac2, ac3, ac4, ac5, ac6, ac7, ac8⟩, ⟨aB1, aB2, aB3, aB4, aB5, aB6, aB7⟩, ⟨aP1, aP2, aP3, aP4, aP5, aP6⟩, ⟨ad1, ad2, ad3, ad4, ad5⟩⟩ := hA.hide
  clear hA
  have z0 := ltN (Heap.lt_size (N _ (.head _)).1)
  have z1 := ltN (Heap.lt_size (N _ (.tail _ (.head _))).1)
  have z2 := ltN (Heap.lt_size (N _ (.tail _ (.tail _ (.head _)))).1)
  have z3 := ltN (Heap.lt_size (N _ (.tail _ (.tail _ (.tail _ (.head _))))).1)
  have z4 := ltN (Heap.lt_size (N _ (.tail _ (.tail _ (.tail _ (.tail _ (.head _)))))).1)
  have z5 := ltN (Heap.lt_size (N _ (.tail _ (.tail _ (.tail _ (.tail _ (.tail _ (.head _))))))).1)
  have z6 := ltN (Heap.lt_size (N _ (.tail _ (.tail _ (.tail _ (.tail _ (.tail _ (.tail _ (.head _)))))))).1)
  have z7 := ltN (Heap.lt_size (N _ (.tail _ (.tail _ (.tail _ (.tail _ (.tail _ (.tail _ (.tail _ (.head _))))))))).1)
  have z8 := ltN (Heap.lt_size (N _ (.tail _ (.tail _ (.tail _ (.tail _ (.tail _ (.tail _ (.tail _ (.tail _ (.head _)))))))))).1)
  have z9 := ltN (Heap.lt_size (N _ (.tail _ (.tail _ (.tail _ (.tail _ (.tail _ (.tail _ (.tail _ (.tail _ (.tail _ (.head _))))))))))).1)
  dsimp only at z0 z1 z2 z3 z4 z5 z6 z7 z8 z9
  have rI := fun p hp => (hrest p hp).1
  have r2 := fun p hp => (hrest p hp).2.1
  have rB := fun p hp => (hrest p hp).2.2.1
  have rP := fun p hp => (hrest p hp).2.2.2.1
  have rd := fun p hp => (hrest p hp).2.2.2.2.1
  have hlv := hH v (Nat.le_refl _)

  subst hde
  have gq0 := gq
  obtain ⟨⟨kvs, hD, hB, hl⟩, hP⟩ := gq0
  obtain ⟨z, t, rfl, hz⟩ := hB
  rcases hz with rfl | ⟨kv, hkv, rfl⟩
  · k_steps

    have ep := set_same hp
    have eb := set_same hb
    rename News _ _ _ _ => lN
    rename Fr _ _ _ _ => lF
    refine fin (.int (-1) t) p q rest _ _ _ o2 _ H v nb np pg lt tv _ (by omega) hH ho2 rfl rfl rfl rfl rfl rfl rfl rfl lF lN ?m1 ?m2 ?m3 ?m4 ?m5 ?m6 ?m7 ?m8 ?m9 ?m10 (by ((repeat (with_reducible refine subT ?_)); exact subR)) hpg hlt gq ga gb hrest
    (case m1 => k_mem); (case m2 => k_mem); (case m3 => k_mem); (case m4 => k_mem); (case m5 => k_mem); (case m6 => rw [eb]; k_mem); (case m7 => rw [ep]; k_mem); (case m8 => k_mem); (case m9 => k_mem); (case m10 => k_mem)

  · obtain ⟨j, _, e, hj, _⟩ := hD.2 kv hkv
    rw [e] at hb gq
    k_steps
    unfold Stop
    rename News _ _ _ _ => lN
    rename Fr _ _ _ _ => lF
    exact deed1K B0 X0 T lF (newsSub lN (by (repeat (first | with_reducible exact subR | with_reducible refine subT ?_)))) hoH ho2 hx hc0 hc3 hi hv hH hpg hlt gq ga gb sl bl pl hs hb hp hA0 hd1' hrest (FinT.to fin (fun _ _ => rfl) (fun _ h => by first | exact h | exact wpAny_execs_nil h | exact wpAny_execs_nil (wpAny_execs_nil h) | exact wpAny_execs_nil (wpAny_execs_nil (wpAny_execs_nil h)))) rfl hj

theorem go2 {w : World} {h₀ : Heap} {s : Shared} {lz : List Str} {mean : ExcName → Option Value} {mg mb : Str → Option Value} {fa : Addr} {cd : Value} {E : Value → Shared → Prop} {Q : Flow → Shared → Prop}
    {L I D Sa Ba Pa d da db pg lt : Nat} {oI o2 oH oD q qa qb : Obj} {sv bv pv : List Value} {b p ba pa bb pb : Value} {nS nb np i v : Nat} {rest : List (Addr × Obj)} {H : Nat → List Int} {tv tc td tx tn tdr tk : Tok} {u : Str → Option Value} {c dr de : Int} {x : Str}
    (B : Below callerA h₀ [] h₀) (X : (hd1.heap_39 w.params).In h₀) (T : Top hd1.view_39 lz mean mg mb h₀)
    (F : Fr h₀ L s.heap fun y => if y = "store" then some (.ref d) else if y = "now" then some (.str (Str.ofString "\"" ++ (x ++ Str.ofString (toString (v : Int))) ++ Str.ofString "\"") tn) else if y = "deed" then some (.int de td) else if y = "client" then some (.int c tc) else if y = "k" then some (.int (i : Int) tk) else
      if y = "good" then some (.bool true) else if y = "parts" then some (.ref Pa) else if y = "bases" then some (.ref Ba) else if y = "stores" then some (.ref Sa) else if y = "page" then some (.ref pg) else
      if y = "version" then some (.int (v : Int) tv) else if y = "let" then some (.ref lt) else if y = "cells" then some (.ref D) else u y)
    (N : News h₀ L s.heap ((I, oI) :: (L + 1 + 1, o2) :: (L + 1, oH) :: (D, oD) :: (Sa, listOf sv.toArray nS) :: (Ba, listOf bv.toArray nb) :: (Pa, listOf pv.toArray np) :: (d, q) :: (da, qa) :: (db, qb) :: rest))
    (hoH : oH.data = .cell (some (.str x tx))) (ho2 : o2.data = .cell (some (.int dr tdr))) (hx : HeadOk x) (hc0 : 0 ≤ c) (hc3 : c < 3) (hi : i < 16) (hv : v ≤ i)
    (hH : ∀ j, j ≤ v → (H j).length = 3 + j) (hpg : LI rest pg (H v)) (hlt : LI rest lt (H v))
    (gq : ClientOk PySem.Challenge.rw_ez0420_01.row.prog w H v rest q b p) (ga : ClientOk PySem.Challenge.rw_ez0420_01.row.prog w H v rest qa ba pa) (gb : ClientOk PySem.Challenge.rw_ez0420_01.row.prog w H v rest qb bb pb)
    (sl : sv.length = 3) (bl : bv.length = 3) (pl : pv.length = 3) (hs : sv[c.toNat]? = some (.ref d)) (hb : bv[c.toNat]? = some b) (hp : pv[c.toNat]? = some p)
    (hA : Apart1 I (L + 1) (L + 1 + 1) D Sa Ba Pa d da db) (hd1' : d ≠ 1) (hrest : ∀ p ∈ rest, p.1 ≠ I ∧ p.1 ≠ L + 1 + 1 ∧ p.1 ≠ Ba ∧ p.1 ≠ Pa ∧ p.1 ≠ d ∧ p.1 ≠ da ∧ p.1 ≠ db)
    (fin : FinT PySem.Challenge.rw_ez0420_01.row.prog w h₀ L I D Sa Ba Pa d da db oI oH oD qa qb sv bv pv ba pa bb pb nS i c s Q) (hde : de = 2) :
    wpAny (model PySem.Challenge.rw_ez0420_01.row.prog w) (callerA.deeper (envOfC (Str.ofString "law") lawScope L fa cd)) (exec deedIf (envOfC (Str.ofString "law") lawScope L fa cd)) Q E s := by

  show wpAny _ (callerA.deeper (envOfC _ (Scope.mk _ _ _ _ _) _ _ _)) (exec (Stmt.If _ _ _ _) (envOfC _ (Scope.mk _ _ _ _ _) _ _ _)) _ _ _

  have B0 := B
  have X0 := X
  have N0 := N
  have hA0 := hA

  revert X; k_fill; intro X
  obtain ⟨⟨aI1, aI2, aI3, aI4, aI5, aI6, aI7, aI8, aI9⟩, ⟨ac1, ac2, ac3, ac4, ac5, ac6, ac7, ac8⟩, ⟨aB1, aB2, aB3, aB4, aB5, aB6, aB7⟩, ⟨aP1, aP2, aP3, aP4, aP5, aP6⟩, ⟨ad1, ad2, ad3, ad4, ad5⟩⟩ := hA.hide
  clear hA
  have z0 := ltN (Heap.lt_size (N _ (.head _)).1)
  have z1 := ltN (Heap.lt_size (N _ (.tail _ (.head _))).1)
  have z2 := ltN (Heap.lt_size (N _ (.tail _ (.tail _ (.head _)))).1)
  have z3 := ltN (Heap.lt_size (N _ (.tail _ (.tail _ (.tail _ (.head _))))).1)
  have z4 := ltN (Heap.lt_size (N _ (.tail _ (.tail _ (.tail _ (.tail _ (.head _)))))).1)
  have z5 := ltN (Heap.lt_size (N _ (.tail _ (.tail _ (.tail _ (.tail _ (.tail _ (.head _))))))).1)
  have z6 := ltN (Heap.lt_size (N _ (.tail _ (.tail _ (.tail _ (.tail _ (.tail _ (.tail _ (.head _)))))))).1)
  have z7 := ltN (Heap.lt_size (N _ (.tail _ (.tail _ (.tail _ (.tail _ (.tail _ (.tail _ (.tail _ (.head _))))))))).1)
  have z8 := ltN (Heap.lt_size (N _ (.tail _ (.tail _ (.tail _ (.tail _ (.tail _ (.tail _ (.tail _ (.tail _ (.head _)))))))))).1)
  have z9 := ltN (Heap.lt_size (N _ (.tail _ (.tail _ (.tail _ (.tail _ (.tail _ (.tail _ (.tail _ (.tail _ (.tail _ (.head _))))))))))).1)
  dsimp only at z0 z1 z2 z3 z4 z5 z6 z7 z8 z9
  have rI := fun p hp => (hrest p hp).1
  have r2 := fun p hp => (hrest p hp).2.1
  have rB := fun p hp => (hrest p hp).2.2.1
  have rP := fun p hp => (hrest p hp).2.2.2.1
  have rd := fun p hp => (hrest p hp).2.2.2.2.1
  have hlv := hH v (Nat.le_refl _)

  subst hde
  k_steps

  unfold Stop
  rename News _ _ _ _ => lN
  rename Fr _ _ _ _ => lF

  exact deed2K B0 X0 T lF (newsSub lN (by (repeat (first | with_reducible exact subR | with_reducible refine subT ?_)))) hoH ho2 hx hc0 hc3 hi hv hH hpg hlt gq ga gb sl bl pl hs hb hp hA0 hd1' hrest (FinT.to fin (fun _ _ => rfl) (fun _ h => by first | exact h | exact wpAny_execs_nil h | exact wpAny_execs_nil (wpAny_execs_nil h) | exact wpAny_execs_nil (wpAny_execs_nil (wpAny_execs_nil h))))

theorem go3 {w : World} {h₀ : Heap} {s : Shared} {lz : List Str} {mean : ExcName → Option Value} {mg mb : Str → Option Value} {fa : Addr} {cd : Value} {E : Value → Shared → Prop} {Q : Flow → Shared → Prop}
    {L I D Sa Ba Pa d da db pg lt : Nat} {oI o2 oH oD q qa qb : Obj} {sv bv pv : List Value} {b p ba pa bb pb : Value} {nS nb np i v : Nat} {rest : List (Addr × Obj)} {H : Nat → List Int} {tv tc td tx tn tdr tk : Tok} {u : Str → Option Value} {c dr de : Int} {x : Str}
    (B : Below callerA h₀ [] h₀) (X : (hd1.heap_39 w.params).In h₀) (T : Top hd1.view_39 lz mean mg mb h₀)
    (F : Fr h₀ L s.heap fun y => if y = "store" then some (.ref d) else if y = "now" then some (.str (Str.ofString "\"" ++ (x ++ Str.ofString (toString (v : Int))) ++ Str.ofString "\"") tn) else if y = "deed" then some (.int de td) else if y = "client" then some (.int c tc) else if y = "k" then some (.int (i : Int) tk) else
      if y = "good" then some (.bool true) else if y = "parts" then some (.ref Pa) else if y = "bases" then some (.ref Ba) else if y = "stores" then some (.ref Sa) else if y = "page" then some (.ref pg) else
      if y = "version" then some (.int (v : Int) tv) else if y = "let" then some (.ref lt) else if y = "cells" then some (.ref D) else u y)
    (N : News h₀ L s.heap ((I, oI) :: (L + 1 + 1, o2) :: (L + 1, oH) :: (D, oD) :: (Sa, listOf sv.toArray nS) :: (Ba, listOf bv.toArray nb) :: (Pa, listOf pv.toArray np) :: (d, q) :: (da, qa) :: (db, qb) :: rest))
    (hoH : oH.data = .cell (some (.str x tx))) (ho2 : o2.data = .cell (some (.int dr tdr))) (hx : HeadOk x) (hc0 : 0 ≤ c) (hc3 : c < 3) (hi : i < 16) (hv : v ≤ i)
    (hH : ∀ j, j ≤ v → (H j).length = 3 + j) (hpg : LI rest pg (H v)) (hlt : LI rest lt (H v))
    (gq : ClientOk PySem.Challenge.rw_ez0420_01.row.prog w H v rest q b p) (ga : ClientOk PySem.Challenge.rw_ez0420_01.row.prog w H v rest qa ba pa) (gb : ClientOk PySem.Challenge.rw_ez0420_01.row.prog w H v rest qb bb pb)
    (sl : sv.length = 3) (bl : bv.length = 3) (pl : pv.length = 3) (hs : sv[c.toNat]? = some (.ref d)) (hb : bv[c.toNat]? = some b) (hp : pv[c.toNat]? = some p)
    (hA : Apart1 I (L + 1) (L + 1 + 1) D Sa Ba Pa d da db) (hd1' : d ≠ 1) (hrest : ∀ p ∈ rest, p.1 ≠ I ∧ p.1 ≠ L + 1 + 1 ∧ p.1 ≠ Ba ∧ p.1 ≠ Pa ∧ p.1 ≠ d ∧ p.1 ≠ da ∧ p.1 ≠ db)
    (fin : FinT PySem.Challenge.rw_ez0420_01.row.prog w h₀ L I D Sa Ba Pa d da db oI oH oD qa qb sv bv pv ba pa bb pb nS i c s Q) (hde : de = 3) :
    wpAny (model PySem.Challenge.rw_ez0420_01.row.prog w) (callerA.deeper (envOfC (Str.ofString "law") lawScope L fa cd)) (exec deedIf (envOfC (Str.ofString "law") lawScope L fa cd)) Q E s := by

  show wpAny _ (callerA.deeper (envOfC _ (Scope.mk _ _ _ _ _) _ _ _)) (exec (Stmt.If _ _ _ _) (envOfC _ (Scope.mk _ _ _ _ _) _ _ _)) _ _ _

  have B0 := B
  have X0 := X
  have N0 := N
  have hA0 := hA

  revert X; k_fill; intro X
  obtain ⟨⟨aI1, aI2, aI3, aI4, aI5, aI6, aI7, aI8, aI9⟩, ⟨ac1, ac2, ac3, ac4, ac5, ac6, ac7, ac8⟩, ⟨aB1, aB2, aB3, aB4, aB5, aB6, aB7⟩, ⟨aP1, aP2, aP3, aP4, aP5, aP6⟩, ⟨ad1, ad2, ad3, ad4, ad5⟩⟩ := hA.hide
  clear hA
  have z0 := ltN (Heap.lt_size (N _ (.head _)).1)
  have z1 := ltN (Heap.lt_size (N _ (.tail _ (.head _))).1)
  have z2 := ltN (Heap.lt_size (N _ (.tail _ (.tail _ (.head _)))).1)
  have z3 := ltN (Heap.lt_size (N _ (.tail _ (.tail _ (.tail _ (.head _))))).1)
  have z4 := ltN (Heap.lt_size (N _ (.tail _ (.tail _ (.tail _ (.tail _ (.head _)))))).1)
  have z5 := ltN (Heap.lt_size (N _ (.tail _ (.tail _ (.tail _ (.tail _ (.tail _ (.head _))))))).1)
  have z6 := ltN (Heap.lt_size (N _ (.tail _ (.tail _ (.tail _ (.tail _ (.tail _ (.tail _ (.head _)))))))).1)
  have z7 := ltN (Heap.lt_size (N _ (.tail _ (.tail _ (.tail _ (.tail _ (.tail _ (.tail _ (.tail _ (.head _))))))))).1)
  have z8 := ltN (Heap.lt_size (N _ (.tail _ (.tail _ (.tail _ (.tail _ (.tail _ (.tail _ (.tail _ (.tail _ (.head _)))))))))).1)
  have z9 := ltN (Heap.lt_size (N _ (.tail _ (.tail _ (.tail _ (.tail _ (.tail _ (.tail _ (.tail _ (.tail _ (.tail _ (.head _))))))))))).1)
  dsimp only at z0 z1 z2 z3 z4 z5 z6 z7 z8 z9
  have rI := fun p hp => (hrest p hp).1
  have r2 := fun p hp => (hrest p hp).2.1
  have rB := fun p hp => (hrest p hp).2.2.1
  have rP := fun p hp => (hrest p hp).2.2.2.1
  have rd := fun p hp => (hrest p hp).2.2.2.2.1
  have hlv := hH v (Nat.le_refl _)

  subst hde
  have gq0 := gq
  obtain ⟨_, ⟨a, rfl, hm | ⟨j, tj, f, n, hj, hn, hm, hf⟩⟩⟩ := gq0
  · have N2 := News.more N (subT (subT (subT (subT (subT (subT (subT (subT (subT (subT subR))))))))) _ hm)
    clear N
    k_steps

    have ep := set_same hp
    have eb := set_same hb
    rename News _ _ _ _ => lN
    rename Fr _ _ _ _ => lF
    refine fin b (.ref a) q rest _ _ _ o2 _ H v nb np pg lt tv _ (by omega) hH ho2 rfl rfl rfl rfl rfl rfl rfl rfl lF lN ?m1 ?m2 ?m3 ?m4 ?m5 ?m6 ?m7 ?m8 ?m9 ?m10 (by ((repeat (with_reducible refine subT ?_)); exact subR)) hpg hlt gq ga gb hrest
    (case m1 => k_mem); (case m2 => k_mem); (case m3 => k_mem); (case m4 => k_mem); (case m5 => k_mem); (case m6 => rw [eb]; k_mem); (case m7 => rw [ep]; k_mem); (case m8 => k_mem); (case m9 => k_mem); (case m10 => k_mem)

  · have hf0 := hf
    obtain ⟨fv, fn, hfm, hfi⟩ := hf0
    have N1 := News.more N (subT (subT (subT (subT (subT (subT (subT (subT (subT (subT subR))))))))) _ hfm)
    have N2 := News.more N1 (subT (subT (subT (subT (subT (subT (subT (subT (subT (subT (subT subR)))))))))) _ hm)
    clear N N1
    k_steps
    unfold Stop
    rename News _ _ _ _ => lN
    rename Fr _ _ _ _ => lF
    exact deed3K B0 X0 T lF (newsSub lN (by (repeat (first | with_reducible exact subR | with_reducible refine subT ?_)))) hoH ho2 hx hc0 hc3 hi hv hH hpg hlt gq ga gb sl bl pl hs hb hp hA0 hd1' hrest (FinT.to fin (fun _ _ => rfl) (fun _ h => by first | exact h | exact wpAny_execs_nil h | exact wpAny_execs_nil (wpAny_execs_nil h) | exact wpAny_execs_nil (wpAny_execs_nil (wpAny_execs_nil h)))) rfl hm hf hj hn rfl

theorem deedsK {w : World} {h₀ : Heap} {s : Shared} {lz : List Str} {mean : ExcName → Option Value} {mg mb : Str → Option Value} {fa : Addr} {cd : Value} {E : Value → Shared → Prop} {Q : Flow → Shared → Prop}
    {L I D Sa Ba Pa d da db pg lt : Nat} {oI o2 oH oD q qa qb : Obj} {sv bv pv : List Value} {b p ba pa bb pb : Value} {nS nb np i v : Nat} {rest : List (Addr × Obj)} {H : Nat → List Int} {tv tc td tx tn tdr tk : Tok} {u : Str → Option Value} {c dr de : Int} {x : Str}
    (B : Below callerA h₀ [] h₀) (X : (hd1.heap_39 w.params).In h₀) (T : Top hd1.view_39 lz mean mg mb h₀)
    (F : Fr h₀ L s.heap fun y => if y = "store" then some (.ref d) else if y = "now" then some (.str (Str.ofString "\"" ++ (x ++ Str.ofString (toString (v : Int))) ++ Str.ofString "\"") tn) else if y = "deed" then some (.int de td) else if y = "client" then some (.int c tc) else if y = "k" then some (.int (i : Int) tk) else
      if y = "good" then some (.bool true) else if y = "parts" then some (.ref Pa) else if y = "bases" then some (.ref Ba) else if y = "stores" then some (.ref Sa) else if y = "page" then some (.ref pg) else
      if y = "version" then some (.int (v : Int) tv) else if y = "let" then some (.ref lt) else if y = "cells" then some (.ref D) else u y)
    (N : News h₀ L s.heap ((I, oI) :: (L + 1 + 1, o2) :: (L + 1, oH) :: (D, oD) :: (Sa, listOf sv.toArray nS) :: (Ba, listOf bv.toArray nb) :: (Pa, listOf pv.toArray np) :: (d, q) :: (da, qa) :: (db, qb) :: rest))
    (hoH : oH.data = .cell (some (.str x tx))) (ho2 : o2.data = .cell (some (.int dr tdr))) (hx : HeadOk x) (hc0 : 0 ≤ c) (hc3 : c < 3) (hi : i < 16) (hv : v ≤ i)
    (hH : ∀ j, j ≤ v → (H j).length = 3 + j) (hpg : LI rest pg (H v)) (hlt : LI rest lt (H v))
    (gq : ClientOk PySem.Challenge.rw_ez0420_01.row.prog w H v rest q b p) (ga : ClientOk PySem.Challenge.rw_ez0420_01.row.prog w H v rest qa ba pa) (gb : ClientOk PySem.Challenge.rw_ez0420_01.row.prog w H v rest qb bb pb)
    (sl : sv.length = 3) (bl : bv.length = 3) (pl : pv.length = 3) (hs : sv[c.toNat]? = some (.ref d)) (hb : bv[c.toNat]? = some b) (hp : pv[c.toNat]? = some p)
    (hA : Apart1 I (L + 1) (L + 1 + 1) D Sa Ba Pa d da db) (hd1' : d ≠ 1) (hrest : ∀ p ∈ rest, p.1 ≠ I ∧ p.1 ≠ L + 1 + 1 ∧ p.1 ≠ Ba ∧ p.1 ≠ Pa ∧ p.1 ≠ d ∧ p.1 ≠ da ∧ p.1 ≠ db)
    (fin : FinT PySem.Challenge.rw_ez0420_01.row.prog w h₀ L I D Sa Ba Pa d da db oI oH oD qa qb sv bv pv ba pa bb pb nS i c s Q) (h0 : 0 ≤ de) (h4 : de < 4) :
    wpAny (model PySem.Challenge.rw_ez0420_01.row.prog w) (callerA.deeper (envOfC (Str.ofString "law") lawScope L fa cd)) (exec deedIf (envOfC (Str.ofString "law") lawScope L fa cd)) Q E s := by

  obtain e | e | e | e : de = 0 ∨ de = 1 ∨ de = 2 ∨ de = 3 := by omega
  · exact go0 B X T F N hoH ho2 hx hc0 hc3 hi hv hH hpg hlt gq ga gb sl bl pl hs hb hp hA hd1' hrest fin e
  · exact go1 B X T F N hoH ho2 hx hc0 hc3 hi hv hH hpg hlt gq ga gb sl bl pl hs hb hp hA hd1' hrest fin e
  · exact go2 B X T F N hoH ho2 hx hc0 hc3 hi hv hH hpg hlt gq ga gb sl bl pl hs hb hp hA hd1' hrest fin e
  · exact go3 B X T F N hoH ho2 hx hc0 hc3 hi hv hH hpg hlt gq ga gb sl bl pl hs hb hp hA hd1' hrest fin e
end Mine
end
section
namespace Mine
open PySem PySem.W PyProof.Rows
theorem lo3 {c1 c2 D Sa Ba Pa d0 d1 d2 : Nat} (_ : Apart c1 c2 D Sa Ba Pa d0 d1 d2) (l0 : (d0 == sysModules) = false) (l1 : (d1 == sysModules) = false) (l2 : (d2 == sysModules) = false) : (1 : Nat) ≠ d0 ∧ (1 : Nat) ≠ d1 ∧ (1 : Nat) ≠ d2 := by
  refine ⟨fun e => ?_, fun e => ?_, fun e => ?_⟩
  · rw [← e] at l0; exact absurd l0 (by decide)
  · rw [← e] at l1; exact absurd l1 (by decide)
  · rw [← e] at l2; exact absurd l2 (by decide)
theorem turnFin {prog : Program} {w : World} {h₀ : Heap} {L I D Sa Ba Pa d da db d0 d1 d2 : Nat} {oI oH oD qa qb : Obj} {sv bv pv : List Value} {ba pa bb pb : Value} {nS i : Nat} {c : Int} {s : Shared}
    (ne : ∀ a : Nat, a ≠ d0 ∧ a ≠ d1 ∧ a ≠ d2 ↔ a ≠ d ∧ a ≠ da ∧ a ≠ db)
    (hI : I ≠ L + 1 ∧ I ≠ L + 1 + 1 ∧ I ≠ D ∧ I ≠ Sa ∧ I ≠ Ba ∧ I ≠ Pa ∧ I ≠ d0 ∧ I ≠ d1 ∧ I ≠ d2)
    (back : ∀ (b' p' : Value) (q' : Obj) (r' : List (Addr × Obj)) (h' : Heap) (o2' : Obj) (H' : Nat → List Int) (v' nb' np' : Nat), ClientOk prog w H' v' r' q' b' p' → ClientOk prog w H' v' r' qa ba pa → ClientOk prog w H' v' r' qb bb pb →
        News h₀ L h' ((I, oI) :: (L + 1 + 1, o2') :: (L + 1, oH) :: (D, oD) :: (Sa, listOf sv.toArray nS) :: (Ba, listOf (bv.set c.toNat b').toArray nb') :: (Pa, listOf (pv.set c.toNat p').toArray np') :: (d, q') :: (da, qa) :: (db, qb) :: r') →
        ∃ (e0 e1 e2 : Obj) (x0 x1 x2 y0 y1 y2 : Value), News h₀ L h' ((I, oI) :: (L + 1 + 1, o2') :: (L + 1, oH) :: (D, oD) :: (Sa, listOf #[.ref d0, .ref d1, .ref d2] nS) :: (Ba, listOf #[x0, x1, x2] nb') :: (Pa, listOf #[y0, y1, y2] np') :: (d0, e0) :: (d1, e1) :: (d2, e2) :: r') ∧
          ClientOk prog w H' v' r' e0 x0 y0 ∧ ClientOk prog w H' v' r' e1 x1 y1 ∧ ClientOk prog w H' v' r' e2 x2 y2) :
    FinT prog w h₀ L I D Sa Ba Pa d da db oI oH oD qa qb sv bv pv ba pa bb pb nS i c s (fun f s' => TurnJ h₀ L I oI (JL prog w (L + 1) (L + 1 + 1) D Sa Ba Pa d0 d1 d2 oH oD (i + 1)) s f s') := by
  intro b' p' q' r' h' tk' m' o2' x2' H' v' nb' np' pg' lt' tv' all a1 a2 a3 a4 a5 a6 a7 a8 a9 a10 a11 F N a14 a15 a16 a17 a18 a19 a20 a21 a22 a23 a24 lp ll k kA kB ap
  have N' : News h₀ L h' ((I, oI) :: (L + 1 + 1, o2') :: (L + 1, oH) :: (D, oD) :: (Sa, listOf sv.toArray nS) :: (Ba, listOf (bv.set c.toNat b').toArray nb') :: (Pa, listOf (pv.set c.toNat p').toArray np') :: (d, q') :: (da, qa) :: (db, qb) :: r') := newsSub N (by
    intro p hp
    rcases List.mem_cons.mp hp with rfl | hp
    · exact a14
    rcases List.mem_cons.mp hp with rfl | hp
    · exact a15
    rcases List.mem_cons.mp hp with rfl | hp
    · exact a16
    rcases List.mem_cons.mp hp with rfl | hp
    · exact a17
    rcases List.mem_cons.mp hp with rfl | hp
    · exact a18
    rcases List.mem_cons.mp hp with rfl | hp
    · exact a19
    rcases List.mem_cons.mp hp with rfl | hp
    · exact a20
    rcases List.mem_cons.mp hp with rfl | hp
    · exact a21
    rcases List.mem_cons.mp hp with rfl | hp
    · exact a22
    rcases List.mem_cons.mp hp with rfl | hp
    · exact a23
    · exact a24 p hp)
  obtain ⟨e0, e1, e2, x0, x1, x2, y0, y1, y2, N2, c0, c1, c2⟩ := back b' p' q' r' h' o2' H' v' nb' np' k kA kB N'
  refine ⟨rfl, h', tk', m', (L + 1 + 1, o2') :: (L + 1, oH) :: (D, oD) :: (Sa, listOf #[.ref d0, .ref d1, .ref d2] nS) :: (Ba, listOf #[x0, x1, x2] nb') :: (Pa, listOf #[y0, y1, y2] np') :: (d0, e0) :: (d1, e1) :: (d2, e2) :: r', rfl, F, N2, ?_, ?_⟩
  · intro p hp
    rcases List.mem_cons.mp hp with rfl | hp
    · exact Ne.symm hI.2.1
    rcases List.mem_cons.mp hp with rfl | hp
    · exact Ne.symm hI.1
    rcases List.mem_cons.mp hp with rfl | hp
    · exact Ne.symm hI.2.2.1
    rcases List.mem_cons.mp hp with rfl | hp
    · exact Ne.symm hI.2.2.2.1
    rcases List.mem_cons.mp hp with rfl | hp
    · exact Ne.symm hI.2.2.2.2.1
    rcases List.mem_cons.mp hp with rfl | hp
    · exact Ne.symm hI.2.2.2.2.2.1
    rcases List.mem_cons.mp hp with rfl | hp
    · exact Ne.symm hI.2.2.2.2.2.2.1
    rcases List.mem_cons.mp hp with rfl | hp
    · exact Ne.symm hI.2.2.2.2.2.2.2.1
    rcases List.mem_cons.mp hp with rfl | hp
    · exact Ne.symm hI.2.2.2.2.2.2.2.2
    · exact (ap p hp).1
  · refine ⟨pg', lt', o2', e0, e1, e2, x0, x1, x2, y0, y1, y2, nS, nb', np', r', H', v', tv', m', x2', mapL_of a4 a5 a6 a7 a8 a9 a10 a11, rfl, a3, a1, a2, lp, ll, c0, c1, c2, fun p hp => ?_⟩
    have h := ap p hp
    have h2 := (ne p.1).mpr ⟨h.2.2.2.2.1, h.2.2.2.2.2.1, h.2.2.2.2.2.2⟩
    exact ⟨h.2.1, h.2.2.1, h.2.2.2.1, h2.1, h2.2.1, h2.2.2⟩
end Mine
end
section
open PySem PySem.W PyProof.Rows
namespace Mine
local macro_rules | `(tactic| walk_at "mine pad 0") => `(tactic| fail "pad")
local macro_rules | `(tactic| walk_at "mine pad 1") => `(tactic| fail "pad")
local macro_rules | `(tactic| walk_at "mine pad 2") => `(tactic| fail "pad")
local macro_rules | `(tactic| walk_at "mine pad 3") => `(tactic| fail "pad")
local macro_rules | `(tactic| walk_at "mine pad 4") => `(tactic| fail "pad")
local macro_rules | `(tactic| walk_at "mine pad 5") => `(tactic| fail "pad")
local macro_rules | `(tactic| walk_at "mine pad 6") => `(tactic| fail "pad")
local macro_rules | `(tactic| walk_at "mine pad 7") => `(tactic| fail "pad")
local macro_rules | `(tactic| walk_at "mine pad 8") => `(tactic| fail "pad")
local macro_rules | `(tactic| walk_at "mine pad 9") => `(tactic| fail "pad")
local macro_rules | `(tactic| walk_at "mine pad 10") => `(tactic| fail "pad")
local macro_rules | `(tactic| walk_at "mine pad 11") => `(tactic| fail "pad")
local macro_rules | `(tactic| walk_at "mine pad 12") => `(tactic| fail "pad")
local macro_rules | `(tactic| walk_at "mine pad 13") => `(tactic| fail "pad")
local macro_rules | `(tactic| walk_at "mine pad 14") => `(tactic| fail "pad")
local macro_rules | `(tactic| walk_at "mine pad 15") => `(tactic| fail "pad")
local macro_rules | `(tactic| walk_at "mine pad 16") => `(tactic| fail "pad")
local macro_rules | `(tactic| walk_at "mine pad 17") => `(tactic| fail "pad")
local macro_rules | `(tactic| walk_at "mine pad 18") => `(tactic| fail "pad")
local macro_rules | `(tactic| walk_at "mine pad 19") => `(tactic| fail "pad")
local macro_rules | `(tactic| walk_at "mine pad 20") => `(tactic| fail "pad")
local macro_rules | `(tactic| walk_at "mine pad 21") => `(tactic| fail "pad")
local macro_rules | `(tactic| walk_at "mine pad 22") => `(tactic| fail "pad")
local macro_rules | `(tactic| walk_at "mine pad 23") => `(tactic| fail "pad")
local macro_rules | `(tactic| walk_at "mine pad 24") => `(tactic| fail "pad")
local macro_rules | `(tactic| walk_at "mine pad 25") => `(tactic| fail "pad")
local macro_rules | `(tactic| walk_at "mine pad 26") => `(tactic| fail "pad")
local macro_rules | `(tactic| walk_at "mine pad 27") => `(tactic| fail "pad")
local macro_rules | `(tactic| walk_at "mine pad 28") => `(tactic| fail "pad")
local macro_rules | `(tactic| walk_at "mine pad 29") => `(tactic| fail "pad")
local macro_rules | `(tactic| walk_at "mine pad 30") => `(tactic| fail "pad")
local macro_rules | `(tactic| walk_at "mine pad 31") => `(tactic| fail "pad")
local macro_rules | `(tactic| walk_at "mine pad 32") => `(tactic| fail "pad")
local macro_rules | `(tactic| walk_at "mine pad 33") => `(tactic| fail "pad")
local macro_rules | `(tactic| walk_at "mine pad 34") => `(tactic| fail "pad")
local macro_rules | `(tactic| walk_at "mine pad 35") => `(tactic| fail "pad")
local macro_rules | `(tactic| walk_at "mine pad 36") => `(tactic| fail "pad")
local macro_rules | `(tactic| walk_at "mine pad 37") => `(tactic| fail "pad")
local macro_rules | `(tactic| walk_at "mine pad 38") => `(tactic| fail "pad")
local macro_rules | `(tactic| walk_at "mine pad 39") => `(tactic| fail "pad")
local macro_rules | `(tactic| walk_at "mine pad 40") => `(tactic| fail "pad")
local macro_rules | `(tactic| walk_at "mine pad 41") => `(tactic| fail "pad")
local macro_rules | `(tactic| walk_at "mine pad 42") => `(tactic| fail "pad")
local macro_rules | `(tactic| walk_at "mine pad 43") => `(tactic| fail "pad")
local macro_rules | `(tactic| walk_at "mine pad 44") => `(tactic| fail "pad")
local macro_rules | `(tactic| walk_at "mine pad 45") => `(tactic| fail "pad")
local macro_rules | `(tactic| walk_at "mine pad 46") => `(tactic| fail "pad")
local macro_rules | `(tactic| walk_at "exec While") => `(tactic| (k_here; refine Mine.Stop.go ?_))
local macro_rules | `(tactic| k_room) => `(tactic| ((try simp only [depth_under_make, depth_under_kw, depth_in1, depth_deeper, depth_caller]); show _ < 1000; omega))
local macro_rules | `(tactic| k_units) => `(tactic| (show _ < 9900; (try simp only [Around.in1_units, Around.deeper_units, Around.mark_units]); omega))
local macro_rules | `(tactic| walk_at "call type:frozenset nil nil") => `(tactic| (k_here; k_dflt (refine' fset0_K' ?F ?N ?_; (case F => k_asm); (case N => k_asm); k_whole); intro a' h' o' F' N' S' l1; (try k_lt l1); (try k_sweep)))
local macro_rules | `(tactic| walk_at "call type:frozenset cons nil") => `(tactic| (k_here; k_dflt (first
  | (refine' fsetL_K ?F ?N ?m ?x ?hh ?hb ?_; (case F => k_asm); (case N => k_asm); (case m => k_mem); (case x => assumption); (case hh => rfl); (case hb => omega); k_whole)
  | (refine' fsetT_K ?F ?N ?t ?hh ?_; (case F => k_asm); (case N => k_asm); (case t => exact ⟨_, News.get (by k_asm) (by k_mem), rfl, _, rfl⟩); (case hh => rfl); k_whole)); intro a' h' tk' o' F' N' S' l1; (try k_lt l1); (try k_sweep)))
local macro_rules | `(tactic| walk_at "truthy ref") => `(tactic| (k_here; k_dflt (refine' fset_truthy_K ?N ?m ?f ?hn ?_; (case N => k_asm); (case m => k_mem); (case f => assumption); (case hn => omega); k_whole); intro b' tk' hb'))
local macro_rules | `(tactic| walk_at "compareOp In str ref") => `(tactic| (k_here; k_dflt (refine' fset_in_K ?N ?m ?f ?hn ?_; (case N => k_asm); (case m => k_mem); (case f => assumption); (case hn => omega); k_whole); intro tk'))
local macro_rules | `(tactic| walk_at "getMethod ref") => `(tactic| (k_here; k_dflt (first
  | (refine' meth_pattern ?P slot_pattern_match type_pattern_match ?_; (case P => exact PatAt.keeps (by assumption) (Fr.keep (by k_asm))); k_whole)
  | (refine' meth_match ?f slot_match_groups type_match_groups ?_; (case f => exact foundN (by k_asm) (by k_mem) (by k_mem)); k_whole)
  | (refine' meth_match ?f slot_match_end type_match_end ?_; (case f => exact foundN (by k_asm) (by k_mem) (by k_mem)); k_whole))))
local macro_rules | `(tactic| walk_at "call builtin:re.Pattern.match") => `(tactic| (k_here; k_dflt (first
  | (refine' matchK_yes ?F ?N ?P ?g ?hp ?hx ?hm ?hk ?ok ?len ?_; (case F => k_asm); (case N => k_asm); (case hm => assumption); (case P => assumption); (case g => rfl); (case hp => omega); (case hx => omega); (case hk => decide); (case ok => assumption); (case len => exact Nat.le_of_ble_eq_true rfl); k_whole; intro a' T' h' F' N' l1 l2; (try k_lt l1); (try k_lt2 l2); (try k_sweep))
  | (refine' matchK_no ?F ?P ?hp ?hx ?hm ?hk ?_; (case F => k_asm); (case hm => assumption); (case P => assumption); (case hp => omega); (case hx => omega); (case hk => decide); k_whole))))
local macro_rules | `(tactic| walk_at "call builtin:re.Match.groups") => `(tactic| (k_here; k_dflt (refine' groupsK3 ?F ?N ?f ?hx ?_; (case F => k_asm); (case N => k_asm); (case f => exact foundN (by k_asm) (by k_mem) (by k_mem)); (case hx => omega); k_whole); intro T' t1' t2' t3' h' tk' F' N' l1; (try dsimp only [partOf] at N'); (try k_lt l1); (try k_sweep)))
local macro_rules | `(tactic| walk_at "call builtin:re.Match.end") => `(tactic| (k_here; k_dflt (refine' endK ?f ?_; (case f => exact foundN (by k_asm) (by k_mem) (by k_mem)); k_whole)))
local macro_rules | `(tactic| walk_at "truthy str") => `(tactic| (k_here; k_dflt (refine' truthy_text ?a ?b ?_; (case a => omega); (case b => omega); k_whole); intro tk'))
local macro_rules | `(tactic| walk_at "truthy ref") => `(tactic| (k_here; k_dflt (refine' truthy_listK ?N ?m ?hb ?_; (case N => k_asm); (case m => k_mem); (case hb => omega); k_whole); intro tk'))
local macro_rules | `(tactic| walk_at "call ref") => `(tactic| (k_here; k_dflt (first
  | (refine' etags_someK ?B ?F ?N ?X ?T ?P ?hA ?hf ?hke ?hh ?hd ?hu ?ht ?_; (case ht => assumption); (case hA => exact rfl); (case hf => exact rfl); (case hke => exact rfl); (case B => k_asm); (case F => k_asm); (case N => k_asm); (case X => k_asm); (case T => k_asm); (case P => first | assumption | exact PatAt.keeps (by assumption) (Fr.keep (by k_asm))); (case hh => rfl); (case hd => ((try simp only [depth_in1, depth_deeper, depth_caller]); show _ < 500; omega)); (case hu => ((try simp only [Around.in1_units, Around.deeper_units]); show _ < 500; omega)); k_whole; intro h' tk' e' d' a' b' oa' ob' t1' t2' t3' n' nS' nW' F' N' f1' f2' f3' f4'; (try k_sweep))
  | (refine' etags_noneK ?B ?F ?N ?X ?T ?hA ?hf ?hke ?hh ?hd ?hu ?_; (case hA => exact rfl); (case hf => exact rfl); (case hke => exact rfl); (case B => k_asm); (case F => k_asm); (case N => k_asm); (case X => k_asm); (case T => k_asm); (case hh => rfl); (case hd => ((try simp only [depth_in1, depth_deeper, depth_caller]); show _ < 500; omega)); (case hu => ((try simp only [Around.in1_units, Around.deeper_units]); show _ < 500; omega)); k_whole; intro h' tk' e' d' a' b' oa' ob' t1' t2' t3' n' nS' nW' F' N' f1' f2' f3' f4'; (try k_sweep)))))
local macro_rules | `(tactic| walk_at "call builtin:str.startswith") => `(tactic| (k_here; k_dflt (refine' startswith_tup ?h ?_; (case h => exact ⟨_, News.get (by k_asm) (by k_mem), rfl, _, rfl⟩); k_whole)))
local macro_rules | `(tactic| walk_at "call builtin:str.endswith") => `(tactic| (k_here; k_dflt (refine' ends_true ?h ?_; (case h => assumption); k_whole)))
local macro_rules | `(tactic| walk_at "call type:bool") => `(tactic| (k_here; k_dflt (refine' bool_fsetL ?N ?m ?f ?hn ?_; (case N => k_asm); (case m => k_mem); (case f => with_reducible assumption); (case hn => omega); k_whole); intro tk'))
local macro_rules | `(tactic| walk_at "truthy ref") => `(tactic| (k_here; k_dflt (refine' truthy_fsetL ?N ?m ?f ?hn ?_; (case N => k_asm); (case m => k_mem); (case f => with_reducible assumption); (case hn => omega); k_whole); intro tk'))
local macro_rules | `(tactic| walk_at "call type:bool") => `(tactic| (k_here; k_dflt (refine' bool_fset0 ?N ?m ?f ?hn ?_; (case N => k_asm); (case m => k_mem); (case f => with_reducible assumption); (case hn => omega); k_whole); intro tk'))
local macro_rules | `(tactic| walk_at "truthy ref") => `(tactic| (k_here; k_dflt (refine' truthy_fset0 ?N ?m ?f ?hn ?_; (case N => k_asm); (case m => k_mem); (case f => with_reducible assumption); (case hn => omega); k_whole); intro tk'))
local macro_rules | `(tactic| walk_at "getMethod ref") => `(tactic| (k_here; k_dflt (refine' meth_pattern ?P slot_pattern_fullmatch type_pattern_fullmatch ?_; (case P => first | exact PatAt.keeps (by assumption) (Fr.keep (by k_asm)) | exact PatAt.keeps (PatAt.keeps (by assumption) (Fr.keep (by assumption))) (Fr.keep (by k_asm))); k_whole)))
local macro_rules | `(tactic| walk_at "call builtin:re.Pattern.fullmatch") => `(tactic| (k_here; k_dflt (refine' fullK_c (n := 12) ?F ?N ?P ?hx ?hn ?h0 ?h1 ?h2 ?h3 ?_; (case F => k_asm); (case N => k_asm); (case P => first | assumption | exact PatAt.keeps (by assumption) (Fr.keep (by assumption))); (case hx => decide +kernel); (case hn => decide); (case h0 => first | kernel_rfl | rfl); (case h1 => rfl); (case h2 => rfl); (case h3 => rfl); k_whole; intro a' h' F' N')))

theorem ifJoin {M : Model} {A : Around} {E : Value → Shared → Prop} {s : Shared} {env : Env} {test : Expr} {body orelse : List Stmt} {pos : Pos} {Q : Flow → Shared → Prop} (J : Shared → Prop)
    (h : wpAny M A (isTrue test env (eval test env)) (fun b s₂ => if b then wpAny M A (execs body env) (fun f s₃ => f = .next ∧ J s₃) E s₂ else wpAny M A (execs orelse env) (fun f s₃ => f = .next ∧ J s₃) E s₂) E s)
    (k : ∀ s', J s' → Q .next s') : wpAny M A (exec (.If test body orelse pos) env) Q E s :=
  wpAny_mono (wpAny_If h) (fun f s' ⟨e, j⟩ => e ▸ k s' j) fun _ _ x => x
def mapC (D : Addr) (u : Str → Option Value) : Str → Option Value := fun y => if y = "cells" then some (.ref D) else u y
theorem mapC_of {D : Addr} {m : Str → Option Value} (h : m "cells" = some (.ref D)) : m = mapC D m := by
  funext y
  unfold mapC
  by_cases e : y = "cells"
  · rw [if_pos e, e, h]
  · rw [if_neg e]
def JC (h₀ : Heap) (L c1 c2 : Addr) (o1 o2 : Obj) (s s' : Shared) : Prop :=
  ∃ h' tk D vs nc ns u, s' = { s with heap := h', toks := tk } ∧ Fr h₀ L h' (mapC D u) ∧ News h₀ L h' [(D, listOf vs.toArray nc), (c1, o1), (c2, o2)] ∧ IntsAre vs ns ∧ 4 ≤ ns.length ∧ ns.length ≤ 16 ∧ c1 ≠ D ∧ c2 ≠ D
theorem JC.intro {h₀ h' : Heap} {L c1 c2 D : Addr} {o1 o2 : Obj} {s : Shared} {tk : Nat} {m : Str → Option Value} {news : List (Addr × Obj)} {vs : List Value} {nc : Nat} {ns : List Int} (F : Fr h₀ L h' m) (N : News h₀ L h' news) (hm : m "cells" = some (.ref D))
    (h1 : (D, listOf vs.toArray nc) ∈ news) (h2 : (c1, o1) ∈ news) (h3 : (c2, o2) ∈ news) (hi : IntsAre vs ns) (l1 : 4 ≤ ns.length) (l2 : ns.length ≤ 16) (n1 : c1 ≠ D) (n2 : c2 ≠ D) : JC h₀ L c1 c2 o1 o2 s { s with heap := h', toks := tk } :=
  ⟨h', tk, D, vs, nc, ns, m, rfl, by rw [← mapC_of hm]; exact F, fun p hp => by
    have : p ∈ news := by
      rcases List.mem_cons.mp hp with e | hp
      · rw [e]; exact h1
      rcases List.mem_cons.mp hp with e | hp
      · rw [e]; exact h2
      rcases List.mem_cons.mp hp with e | hp
      · rw [e]; exact h3
      · cases hp
    exact N p this, hi, l1, l2, n1, n2⟩
theorem ifJoinC {M : Model} {A : Around} {E : Value → Shared → Prop} {s : Shared} {env : Env} {test : Expr} {body orelse : List Stmt} {pos : Pos} {Q : Flow → Shared → Prop} {h₀ : Heap} {L c1 c2 : Addr} {o1 o2 : Obj} {m : Str → Option Value} {p1 p2 : Addr × Obj}
    (_F : Fr h₀ L s.heap m) (_N : News h₀ L s.heap [p1, p2, (c1, o1), (c2, o2)])
    (h : wpAny M A (isTrue test env (eval test env)) (fun b s₂ => if b then wpAny M A (execs body env) (fun f s₃ => f = .next ∧ JC h₀ L c1 c2 o1 o2 s s₃) E s₂ else wpAny M A (execs orelse env) (fun f s₃ => f = .next ∧ JC h₀ L c1 c2 o1 o2 s s₃) E s₂) E s)
    (k : ∀ s', JC h₀ L c1 c2 o1 o2 s s' → Q .next s') : wpAny M A (exec (.If test body orelse pos) env) Q E s := ifJoin _ h k
local macro_rules | `(tactic| walk_at "exec If") => `(tactic| (k_here; (with_reducible show wpAny _ _ (exec (Stmt.If (Expr.Compare (Expr.Call _ _ _ _) _ _ _) _ _ _) _) _ _ _); refine Mine.Stop.go ?_))
local macro_rules | `(tactic| walk_at "exec If") => `(tactic| (k_here; (with_reducible show wpAny _ _ (exec (Stmt.If (Expr.Compare (Expr.Name _ _) [CmpOp.Eq] _ _) _ _ _) _) _ _ _); refine Mine.Stop.go ?_))
local macro_rules | `(tactic| walk_at "exec For Name Call cons nil") => `(tactic| (k_here; refine Mine.Stop.go ?_))
theorem headK {prog : Program} {w : World} {A : Around} {E : Value → Shared → Prop} {s : Shared} {value slice : PySem.Expr} {l : Addr} {k : Int} {u t1 t2 t3 t4 t5 : Tok} {Q : Value → Shared → Prop}
    (hl : s.heap.IsList l #[.str (Str.ofString "v") t1, .str (Str.ofString "v, ") t2, .str (Str.ofString "W/") t3, .str (Str.ofString "*") t4, .str (Str.ofString "a=;") t5])
    (h0 : 0 ≤ k) (h1 : k < 5) (h : ∀ x t, HeadOk x → Q (.str x t) s)
    (hs : subscripted slice false (.ref l) (.int k u) = operate [.ref l, .int k u] (getItem (.ref l) (.int k u)) := by with_unfolding_all rfl) :
    wpAny (model prog w) A (subscriptTail value slice (.ref l) (.int k u)) Q E s := by
  obtain rfl | rfl | rfl | rfl | rfl : k = 0 ∨ k = 1 ∨ k = 2 ∨ k = 3 ∨ k = 4 := by omega
  · exact tail_any hl.typeIs slot_list_getitem.lookup (wpAny_getItem_list hl (by decide) (by decide) (x := .str (Str.ofString "v") t1) rfl (h _ _ (.inl rfl))) hs
  · exact tail_any hl.typeIs slot_list_getitem.lookup (wpAny_getItem_list hl (by decide) (by decide) (x := .str (Str.ofString "v, ") t2) rfl (h _ _ (.inr (.inl rfl)))) hs
  · exact tail_any hl.typeIs slot_list_getitem.lookup (wpAny_getItem_list hl (by decide) (by decide) (x := .str (Str.ofString "W/") t3) rfl (h _ _ (.inr (.inr (.inl rfl))))) hs
  · exact tail_any hl.typeIs slot_list_getitem.lookup (wpAny_getItem_list hl (by decide) (by decide) (x := .str (Str.ofString "*") t4) rfl (h _ _ (.inr (.inr (.inr (.inl rfl)))))) hs
  · exact tail_any hl.typeIs slot_list_getitem.lookup (wpAny_getItem_list hl (by decide) (by decide) (x := .str (Str.ofString "a=;") t5) rfl (h _ _ (.inr (.inr (.inr (.inr rfl)))))) hs
theorem fmod5 (k : Int) : 0 ≤ Int.fmod k 5 ∧ Int.fmod k 5 < 5 := ⟨Int.fmod_nonneg_of_pos k (by decide), Int.fmod_lt_of_pos k (by decide)⟩
local macro_rules | `(tactic| walk_at "subscriptTail") => `(tactic| (k_here; (with_reducible show wpAny _ _ (subscriptTail _ _ (Value.ref _) (Value.int _ _)) _ _ _); (with_unfolding_all refine' headK ?k1 ?k3 ?k4 ?_ ?k6; (case k1 => exact News.isList (by k_asm) (by k_mem)); (case k3 => exact (fmod5 _).1); (case k4 => exact (fmod5 _).2); (case k6 => with_unfolding_all rfl); k_whole); intro x' t' hx'))
local macro_rules | `(tactic| walk_at "call type:range") => `(tactic| (k_here; k_dflt (refine' range1_rows ?F ?N ?_; (case F => k_asm); (case N => k_asm); k_whole); intro h' tk' t' u' v' R' F' N' _; (try k_sweep)))
local macro_rules | `(tactic| walk_at "pyIter ref") => `(tactic| (k_here; refine Mine.Stop.go ?_))
theorem len_intsK {prog : Program} {w : World} {A : Around} {E : Value → Shared → Prop} {s : Shared} {l : Addr} {vs : List Value} {ns : List Int} {Q : Value → Shared → Prop} (hl : s.heap.IsList l vs.toArray) (hi : IntsAre vs ns) (hb : ns.length ≤ 100000)
    (h : Q (.int ns.length (s.toks + 1)) { s with toks := s.toks + 1 + 1 }) : wpAny (model prog w) A (call (.builtin "len") [.ref l]) Q E s := by
  have e : vs.toArray.size = ns.length := by rw [List.size_toArray]; exact hi.length
  refine len_list hl (by omega) ?_
  rw [e]; exact h
local macro_rules | `(tactic| walk_at "call builtin:len") => `(tactic| (k_here; k_dflt (refine' len_intsK ?hl ?hi ?hb ?_; (case hl => exact News.isList (by k_asm) (by k_mem)); (case hi => assumption); (case hb => omega); k_whole)))
local macro_rules | `(tactic| k_ne) => `(tactic| (refine neN ?_; (try dsimp only); first | exact Ap.ne (by with_reducible assumption) | exact Ap.ne' (by with_reducible assumption) | fail "no"))
local macro_rules | `(tactic| k_all) => `(tactic| with_reducible assumption)
theorem Rows_add9 {prog : Program} {w : World} {A : Around} {E : Value → Shared → Prop} {s : Shared} {x y : Str} {t u : Tok} {Q : Value → Shared → Prop} (h : ∀ t' tk, Q (.str (x ++ y) t') { s with toks := tk }) (hsz : x.length + y.length ≤ sizeLine) : wpAny (model prog w) A (binaryOp .Add (.str x t) (.str y u)) Q E s := PyProof.Rows.add_str h hsz
local macro_rules | `(tactic| walk_at "binaryOp Add str str") => `(tactic| (k_here; k_dflt (refine' Rows_add9 ?_ ?z; (case z => exact add_ok (by assumption) (by omega)); intro t' tk')))
theorem fmod3 (k : Int) : 0 ≤ Int.fmod k 3 ∧ Int.fmod k 3 < 3 := ⟨Int.fmod_nonneg_of_pos k (by decide), Int.fmod_lt_of_pos k (by decide)⟩
local macro_rules | `(tactic| walk_at "subscriptTail Name Name ref int") => `(tactic| (k_here; k_dflt (refine' pickR ?k1 ?k2 ?k3 ?k4 ?_ ?k6; (case k1 => exact listN (by k_asm) (by k_mem)); (case k2 => with_reducible assumption); (case k3 => exact (fmod3 _).1); (case k4 => exact Int.lt_trans (fmod3 _).2 (by decide)); (case k6 => with_unfolding_all rfl); k_whole)))
theorem x1 : PySem.Challenge.rw_ez0420_01.Holds := hd1 (by
  k_go0
  (all_goals try k_fold)
  k_steps
  rename_i hI8 hL8 _ _ _ F N _
  unfold Stop
  refine ifJoinC (by assumption) (by assumption) ?_ ?_
  · k_steps
    · refine' JC.intro (by assumption) (by assumption) rfl ?m1 ?m2 ?m3 ?hi ?l1 ?l2 ?n1 ?n2
      (case m1 => k_mem); (case m2 => k_mem); (case m3 => k_mem); (case hi => assumption)
      (case l1 => (rw [List.length_append]; show 4 ≤ _ + 12; omega)); (case l2 => (rw [List.length_append]; show _ + 12 ≤ 16; omega))
      (case n1 => k_ne); (case n2 => k_ne)
    · refine' JC.intro (by assumption) (by assumption) rfl ?m1 ?m2 ?m3 ?hi ?l1 ?l2 ?n1 ?n2
      (case m1 => k_mem); (case m2 => k_mem); (case m3 => k_mem); (case hi => assumption)
      (case l1 => omega); (case l2 => (rw [List.length_map, List.length_take]; omega))
      (case n1 => k_ne); (case n2 => k_ne)
  · rintro s' ⟨h', tk, D, vs, nc, ns, u, rfl, F, N, hi, l1, l2, n1, n2⟩
    unfold mapC at F
    k_steps
    unfold Stop
    rename Fr _ _ _ _ => lF'
    with_unfolding_all refine' For_invVF lF' ?k1 ?k2 ?_
    (case k1 => exact rfl)
    (case k2 => exact rfl)
    k_steps
    unfold Stop
    refine' lawLoop ?F ?N ?hL ?hh ?hr ?hn ?m1 ?m2 ?m3 ?m4 ?m5 ?m6 ?m7 ?m8 ?mS ?mB ?mP ?md0 ?md1 ?md2 ?k0 ?k1 ?k2 ?mp0 ?mp1 ?mp2 ?mpg ?mlt ?mc1 ?mc2 ?mD ?hH ?ho2 ?n01 ?n12 ?nB ?nP ?turn ?done
    (case F => k_asm)
    (case hL => rfl)
    (case N => k_asm)
    (case hr => k_asm)
    (case hh => rfl)
    (case m1 => rfl)
    (case m2 => rfl)
    (case m3 => rfl)
    (case m4 => rfl)
    (case m5 => rfl)
    (case m6 => rfl)
    (case m7 => rfl)
    (case m8 => rfl)
    (case mS => k_mem)
    (case mB => k_mem)
    (case mP => k_mem)
    (case md0 => k_mem)
    (case md1 => k_mem)
    (case md2 => k_mem)
    (case mp0 => k_mem)
    (case mp1 => k_mem)
    (case mp2 => k_mem)
    (case mpg => k_mem)
    (case mlt => k_mem)
    (case mD => k_mem)
    (case mc1 => k_mem)
    (case mc2 => k_mem)
    (case k0 => assumption)
    (case k1 => assumption)
    (case k2 => assumption)
    (case hH => assumption)
    (case ho2 => assumption)
    (case n01 => assumption)
    (case n12 => assumption)
    (case hn => omega)
    (case nB => (rename (∀ (p : Addr × Obj), p ∈ _ ++ _ → _ < _) => hlt; have hDl := hlt (D, listOf vs.toArray nc) (by simp); replace hDl := ltN hDl; dsimp only at hDl; refine ⟨?_, ?_, ?_, ?_, ?_, ?_, ?_, ?_⟩ <;> k_ne))
    (case nP => (rename (∀ (p : Addr × Obj), p ∈ _ ++ _ → _ < _) => hlt; have hDl := hlt (D, listOf vs.toArray nc) (by simp); replace hDl := ltN hDl; dsimp only at hDl; refine ⟨?_, ?_, ?_, ?_, ?_, ?_, ?_⟩ <;> k_ne))
    (case turn =>
      intro hA i t m₁ news₁ h tk I oI hi hJ F₁ N₁ hI
      obtain ⟨pg, lt, o2, q0, q1, q2, b0, b1, b2, p0, p1, p2, nS, nb, np, rest, H, v, tv, u, x2, rfl, rfl, ho2, hv, hH, hpg, hlt, g0, g1, g2, hrest⟩ := hJ
      have hlo := lo3 hA (by assumption) (by assumption) (by assumption)
      have hIm := fun p hp => Ne.symm (hI p hp)
      have hI' : ∀ p ∈ rest, p.1 ≠ I := fun p hp => hI p (.tail _ (.tail _ (.tail _ (.tail _ (.tail _ (.tail _ (.tail _ (.tail _ (.tail _ hp)))))))))
      obtain ⟨d, da, db, q, qa, qb, sv, bv, pv, b, p, ba, pa, bb, pb, N₂, sl, bl, pl, hs, hb, hp, gq, n1', n2', n3', ne, ⟨ga, gb⟩, back⟩ := pickClient N₁ g0 g1 g2 hA.dd.1 hA.dd.2.1 hA.dd.2.2 (Int.fmod (ns.getD (i : Int).toNat 0) 3) (fmod3 _).1 (fmod3 _).2
      have hII : I ≠ _ ∧ I ≠ _ ∧ I ≠ _ ∧ I ≠ _ ∧ I ≠ _ ∧ I ≠ _ ∧ I ≠ _ ∧ I ≠ _ ∧ I ≠ _ := ⟨(hIm _ (.tail _ (.head _))), (hIm _ (.head _)), (hIm _ (.tail _ (.tail _ (.head _)))), (hIm _ (.tail _ (.tail _ (.tail _ (.head _))))), (hIm _ (.tail _ (.tail _ (.tail _ (.tail _ (.head _)))))), (hIm _ (.tail _ (.tail _ (.tail _ (.tail _ (.tail _ (.head _))))))), (hIm _ (.tail _ (.tail _ (.tail _ (.tail _ (.tail _ (.tail _ (.head _)))))))), (hIm _ (.tail _ (.tail _ (.tail _ (.tail _ (.tail _ (.tail _ (.tail _ (.head _))))))))), (hIm _ (.tail _ (.tail _ (.tail _ (.tail _ (.tail _ (.tail _ (.tail _ (.tail _ (.head _))))))))))⟩
      have hA1 := hA.turn hII (fun a h => (ne a).mp h) n1' n2'
      have hd1' : Ap d 1 := Ne.symm ((ne 1).mp hlo).1
      have hrs := fun p (hp : p ∈ rest) => And.intro (hI' p hp) (And.intro (hrest p hp).1 (And.intro (hrest p hp).2.1 (And.intro (hrest p hp).2.2.1 ((ne p.1).mp (And.intro (hrest p hp).2.2.2.1 (And.intro (hrest p hp).2.2.2.2.1 (hrest p hp).2.2.2.2.2))))))
      have hfin := fun s => turnFin (s := s) (i := i) ne hII back
      clear hII hlo back
      clear N₁ hI hIm
      have z0 := ltN (Heap.lt_size (N₂ _ (.head _)).1)
      have z1 := ltN (Heap.lt_size (N₂ _ (.tail _ (.head _))).1)
      have z2 := ltN (Heap.lt_size (N₂ _ (.tail _ (.tail _ (.head _)))).1)
      have z3 := ltN (Heap.lt_size (N₂ _ (.tail _ (.tail _ (.tail _ (.head _))))).1)
      have z4 := ltN (Heap.lt_size (N₂ _ (.tail _ (.tail _ (.tail _ (.tail _ (.head _)))))).1)
      have z5 := ltN (Heap.lt_size (N₂ _ (.tail _ (.tail _ (.tail _ (.tail _ (.tail _ (.head _))))))).1)
      have z6 := ltN (Heap.lt_size (N₂ _ (.tail _ (.tail _ (.tail _ (.tail _ (.tail _ (.tail _ (.head _)))))))).1)
      have z7 := ltN (Heap.lt_size (N₂ _ (.tail _ (.tail _ (.tail _ (.tail _ (.tail _ (.tail _ (.tail _ (.head _))))))))).1)
      have z8 := ltN (Heap.lt_size (N₂ _ (.tail _ (.tail _ (.tail _ (.tail _ (.tail _ (.tail _ (.tail _ (.tail _ (.head _)))))))))).1)
      have z9 := ltN (Heap.lt_size (N₂ _ (.tail _ (.tail _ (.tail _ (.tail _ (.tail _ (.tail _ (.tail _ (.tail _ (.tail _ (.head _))))))))))).1)
      dsimp only at z0 z1 z2 z3 z4 z5 z6 z7 z8 z9
      obtain ⟨⟨aI1, aI2, aI3, aI4, aI5, aI6, aI7, aI8, aI9⟩, ⟨ac1, ac2, ac3, ac4, ac5, ac6, ac7, ac8⟩, ⟨aB1, aB2, aB3, aB4, aB5, aB6, aB7⟩, ⟨aP1, aP2, aP3, aP4, aP5, aP6⟩, ⟨ad1, ad2, ad3, ad4, ad5⟩⟩ := hA1.hide
      clear n1' n2' n3' n1 n2
      have r2 := fun p hp => (hrest p hp).1
      have rB := fun p hp => (hrest p hp).2.1
      have rP := fun p hp => (hrest p hp).2.2.1
      unfold mapL at F₁
      have hocc := tag_occ (v := v) (by assumption) (by omega)
      obtain ⟨hlen, hlen1⟩ := tag_len (v := v) (by assumption) (by omega)
      k_steps
      unfold Stop
      rename News _ _ _ _ => lN
      rename Fr _ _ _ _ => lF
      refine' deedsK (np := np) (nb := nb) (H := H) (rest := rest) (nS := nS) (q := q) (qa := qa) (qb := qb) (sv := sv) (bv := bv) (pv := pv) (b := b) (p := p) (ba := ba) (pa := pa) (bb := bb) (pb := pb) (d := d) (da := da) (db := db) (I := I) (oI := oI) (v := v) (i := i) ?B ?X ?T lF ?N ?hoH ?ho2 ?hx ?hc0 ?hc3 ?hi ?hv ?hH ?hpg ?hlt ?gq ?ga ?gb ?sl ?bl ?pl ?hs ?hb ?hp ?hA ?hd1 ?hrest ?fin ?h0 ?h4
      case X => assumption
      case T => assumption
      case B => assumption
      case hx => assumption
      case hoH => assumption
      case ho2 => assumption
      case N => exact newsSub lN (by (repeat (first | with_reducible exact subR | with_reducible refine subT ?_)))
      case hH => with_reducible assumption
      case hpg => with_reducible assumption
      case hlt => with_reducible assumption
      case gq => with_reducible assumption
      case ga => with_reducible assumption
      case gb => with_reducible assumption
      case sl => with_reducible assumption
      case bl => with_reducible assumption
      case pl => with_reducible assumption
      case hs => with_reducible assumption
      case hb => with_reducible assumption
      case hp => with_reducible assumption
      case hA => with_reducible assumption
      case hd1 => assumption
      case hrest => assumption
      case hc0 => exact (fmod3 _).1
      case hc3 => exact (fmod3 _).2
      case hi => omega
      case hv => omega
      case h0 => exact Int.fmod_nonneg_of_pos _ (by decide)
      case h4 => exact Int.fmod_lt_of_pos _ (by decide)
      case fin => exact FinT.to (hfin _) (fun _ _ => rfl) (fun _ h => by first | exact h | exact wpAny_execs_nil h))
    (case done =>
      intro m₁ news₁ h tk hJ F₁ N₁
      obtain ⟨pg, lt, o2, q0, q1, q2, b0, b1, b2, p0, p1, p2, nS, nb, np, rest, H, v, tv, u, x2, rfl, rfl, ho2, hv, hH, hpg, hlt, g0, g1, g2, hrest⟩ := hJ
      obtain ⟨pv, n1, hp1, hp2⟩ := hpg
      obtain ⟨lv, n2, hl1, hl2⟩ := hlt
      replace N₁ := news2 (restNews N₁) hp1 hl1
      unfold mapL at F₁
      k_steps)
    )
end Mine
end
theorem PySem.Challenge.cw_ez0420_01_holds : PySem.Challenge.rw_ez0420_01.Holds :=
  Mine.x1
