import PyProof.Rows.All
import Wide.All
import OpenK.AllK
import Wide.FinOn
import Lean
import PySem.Challenge.RW_wb0006_01
set_option Elab.async false

section
/- the part WTop -/
open PySem PySem.W PyProof.Rows
namespace Mine
set_option maxRecDepth 100000 in
set_option maxHeartbeats 8000000 in
open_top hd for PySem.Challenge.rw_wb0006_01
/- the head's command leaves the walker's top lines on: off again for the walks that follow in this file -/
theorem top_off : True := by
  w_top off
  trivial
end Mine

end

section
/- the part RX -/
set_option maxRecDepth 100000
namespace Mine
open PySem PySem.Sre

abbrev C1 : Array Nat := #[14, 8, 1, 13, 4294967295, 1, 1, 32, 0, 16, 32, 40, 97, 40, 116, 16, 32, 16, 48, 40, 120, 24, 13, 6, 16, 39, 8, 22, 48, 57, 22, 97, 102, 0, 1, 17, 0, 24, 6, 1, 4294967295, 16, 62, 1, 17, 1, 6, 5, 1]

/-- the machine comes within B steps to a state that P holds of -/
def Run (B : Nat) (m : M) (P : M → Prop) : Prop := ∃ n, n ≤ B ∧ P (m.runFor n)

theorem run_done {B : Nat} {m : M} {P : M → Prop} (h : P m) : Run B m P := ⟨0, Nat.zero_le _, h⟩
theorem run_step {B : Nat} {m m' : M} {P : M → Prop} (ho : m.outcome = none) (e : m.step = m') (h : Run B m' P) : Run (B + 1) m P := by
  obtain ⟨n, hn, hp⟩ := h
  refine ⟨n + 1, by omega, ?_⟩
  show P (if m.outcome.isSome then m else M.runFor n m.step)
  rw [ho, e]; exact hp
theorem runFor_add (a b : Nat) (m : M) : m.runFor (a + b) = (m.runFor a).runFor b := by
  induction a generalizing m with
  | zero => rw [Nat.zero_add]; rfl
  | succ a ih =>
    rw [Nat.succ_add]
    show (if m.outcome.isSome then m else M.runFor (a + b) m.step) = (if m.outcome.isSome then m else M.runFor a m.step).runFor b
    cases h : m.outcome.isSome with
    | true =>
      simp only [if_true]
      cases b with
      | zero => rfl
      | succ b => show m = (if m.outcome.isSome then m else M.runFor b m.step); rw [h]; rfl
    | false => simp only [Bool.false_eq_true, if_false]; exact ih _
theorem run_bind {B B' : Nat} {m : M} {P P' : M → Prop} (h : Run B m P) (k : ∀ m', P m' → Run B' m' P') : Run (B + B') m P' := by
  obtain ⟨n, hn, hp⟩ := h
  obtain ⟨n', hn', hp'⟩ := k _ hp
  exact ⟨n + n', by omega, by rw [runFor_add]; exact hp'⟩
theorem run_le {B B' : Nat} {m : M} {P : M → Prop} (h : Run B m P) (l : B ≤ B') : Run B' m P := by
  obtain ⟨n, hn, hp⟩ := h
  exact ⟨n, by omega, hp⟩

structure Inv (C t : Array Nat) (must : Bool) (m : M) : Prop where
  code : m.code = C
  text : m.text = t
  lim : m.lim = t.size
  last : m.lastStart = t.size
  whole : m.wholeText = false
  must : m.mustAdvance = must
  inner : m.inner = none
  out : m.outcome = none

def isOne : Op → Bool
  | .ANY | .ANY_ALL | .LITERAL | .NOT_LITERAL | .IN | .LITERAL_IGNORE | .NOT_LITERAL_IGNORE | .IN_IGNORE | .LITERAL_UNI_IGNORE | .NOT_LITERAL_UNI_IGNORE
  | .IN_UNI_IGNORE | .LITERAL_LOC_IGNORE | .NOT_LITERAL_LOC_IGNORE | .IN_LOC_IGNORE => true
  | _ => false

theorem step_exec {m : M} (ho : m.outcome = none) (ha : m.answer = none) (hlt : m.pc < m.code.size) : m.step = m.exec := by
  unfold M.step
  rw [ho, ha]
  simp only [Option.isSome_none, Bool.false_eq_true, if_false, hlt, if_true]

theorem step_acc {m : M} {b : Bool} {sn : Seen} {op : Op} (ho : m.outcome = none) (ha : m.answer = none) (hlt : m.pc < m.code.size) (hop : ops[m.word 0]? = some op) (hone : isOne op = true)
    (hacc : accepts m.code m.pc (m.text.getD m.pos 0) (m.seen.add (m.word 0)) = .ok (b, sn)) :
    m.step = if m.pos ≥ m.lim then { m with seen := m.seen.add (m.word 0), answer := some false } else
      if b then { m with seen := sn, pc := m.pc + itemWidth m.code m.pc, pos := m.pos + 1 } else { m with seen := sn, answer := some false } := by
  rw [step_exec ho ha hlt]
  unfold M.exec
  simp only [hop]
  cases op <;> (first | (simp [isOne] at hone; done) | skip) <;> (dsimp only; rw [hacc]; cases b <;> rfl)

theorem step_mark {m : M} (ho : m.outcome = none) (ha : m.answer = none) (hlt : m.pc < m.code.size) (hop : ops[m.word 0]? = some .MARK) :
    m.step = ({ m with seen := m.seen.add (m.word 0) } : M).mark (m.word 1) := by
  rw [step_exec ho ha hlt]
  unfold M.exec
  simp only [hop]
  rfl

theorem step_at {m : M} {b : Bool} (ho : m.outcome = none) (ha : m.answer = none) (hlt : m.pc < m.code.size) (hop : ops[m.word 0]? = some .AT)
    (hb : ({ m with seen := m.seen.add (m.word 0) } : M).isAt (m.word 1) = .ok b) :
    m.step = if b then { m with seen := (m.seen.add (m.word 0)).add (43 + m.word 1), pc := m.pc + 2 } else { m with seen := (m.seen.add (m.word 0)).add (43 + m.word 1), answer := some false } := by
  rw [step_exec ho ha hlt]
  unfold M.exec
  simp only [hop]
  have hw : M.word { m with seen := m.seen.add (m.word 0) } 1 = m.word 1 := rfl
  rw [hw, hb]
  cases b <;> rfl

theorem step_success {m : M} (ho : m.outcome = none) (ha : m.answer = none) (hlt : m.pc < m.code.size) (hop : ops[m.word 0]? = some .SUCCESS) :
    m.step = if m.outermost && ((m.wholeText && m.pos != m.lim) || (m.mustAdvance && m.pos == m.start)) then { m with seen := m.seen.add (m.word 0), answer := some false }
      else { m with seen := m.seen.add (m.word 0), handed := m.pos, answer := some true } := by
  rw [step_exec ho ha hlt]
  unfold M.exec
  simp only [hop]
  rfl

theorem step_one_more {m : M} {n : Nat} {sn : Seen} (ho : m.outcome = none) (ha : m.answer = none) (hlt : m.pc < m.code.size) (hop : ops[m.word 0]? = some .REPEAT_ONE)
    (hr : run m.code m.text (m.pc + 4) (min (m.word 3) ((m.lim : Int) - m.pos).toNat) m.pos 0 ((m.seen.add (m.word 0)).add (m.word 4)) = .ok (n, sn)) (hi : m.inner = none) (hw : m.weight + 1 ≤ 16777216) :
    m.step = if (m.word 2 : Int) > (m.lim : Int) - m.pos then { m with seen := m.seen.add (m.word 0), answer := some false } else
      if n < m.word 2 then { m with seen := sn, answer := some false } else
      { m with seen := sn, pos := m.pos + n, handed := m.pos + n, pc := m.pc + 1 + m.word 1, weight := m.weight + 1,
               frames := { wait := .giveBack, pc := m.pc, pos := m.pos + n, outermost := m.outermost, count := n, kept := { lastmark := m.lastmark, lastindex := m.lastindex, whole := false, marks := #[] } } :: m.frames } := by
  rw [step_exec ho ha hlt]
  unfold M.exec
  simp only [hop]
  by_cases h : (m.word 2 : Int) > (m.lim : Int) - m.pos
  · rw [if_pos h]
    show (if (m.word 2 : Int) > (m.lim : Int) - m.pos then _ else _) = _
    rw [if_pos h]; rfl
  · rw [if_neg h]
    show (if (m.word 2 : Int) > (m.lim : Int) - m.pos then _ else _) = _
    rw [if_neg h]
    dsimp only [M.word] at hr ⊢
    simp only [Bool.false_eq_true, if_false]
    rw [hr]
    dsimp only
    by_cases h2 : n < m.code.getD (m.pc + 2) 0
    · rw [if_pos h2]; exact (if_pos h2).symm
    · rw [if_neg h2]
      refine Eq.trans ?_ (if_neg h2).symm
      simp only [M.afterRun, M.attempt, M.keep, hi, Option.isSome_none, Bool.false_eq_true, if_false, M.frame, M.word]
      rw [if_neg (by simp; omega)]
      rfl

theorem step_resume {m : M} {f : Sre.Frame} {rest : List Sre.Frame} {yes : Bool} (ho : m.outcome = none) (ha : m.answer = some yes) (hf : m.frames = f :: rest) :
    m.step = M.resume { m with answer := none, frames := rest, weight := m.weight - (1 + f.kept.marks.size), pc := f.pc, pos := f.pos, outermost := f.outermost } f yes := by
  unfold M.step
  rw [ho, ha, hf]
  rfl
theorem step_end {m : M} {yes : Bool} (ho : m.outcome = none) (ha : m.answer = some yes) (hf : m.frames = []) :
    m.step = { m with outcome := some (if yes then .matched else .failed) } := by
  unfold M.step
  rw [ho, ha, hf]
  simp

/-- how many in a row, n at most -/
def cnt (pr : Nat → Bool) (t : Array Nat) : Nat → Nat → Nat
  | 0, _ => 0
  | n + 1, p => if pr (t.getD p 0) then cnt pr t n (p + 1) + 1 else 0
theorem cnt_le (pr : Nat → Bool) (t : Array Nat) : ∀ n p, cnt pr t n p ≤ n
  | 0, _ => Nat.le_refl _
  | n + 1, p => by
    unfold cnt
    split
    · have := cnt_le pr t n (p + 1); omega
    · omega
theorem cnt_all (pr : Nat → Bool) (t : Array Nat) : ∀ n p j, j < cnt pr t n p → pr (t.getD (p + j) 0) = true
  | 0, _, j, h => absurd h (Nat.not_lt_zero _)
  | n + 1, p, j, h => by
    unfold cnt at h
    split at h
    · rename_i hp
      cases j with
      | zero => exact hp
      | succ j =>
        have := cnt_all pr t n (p + 1) j (by omega)
        rw [show p + (j + 1) = p + 1 + j by omega]; exact this
    · exact absurd h (Nat.not_lt_zero _)
theorem cnt_eq (pr : Nat → Bool) (t : Array Nat) : ∀ n p k, k ≤ n → (∀ j < k, pr (t.getD (p + j) 0) = true) → (k = n ∨ pr (t.getD (p + k) 0) = false) → cnt pr t n p = k
  | 0, _, k, h, _, _ => by unfold cnt; omega
  | n + 1, p, k, h, ha, he => by
    unfold cnt
    cases k with
    | zero =>
      rcases he with he | he
      · omega
      · rw [Nat.add_zero] at he; rw [if_neg (by rw [he]; exact Bool.false_ne_true)]
    | succ k =>
      have h0 := ha 0 (by omega)
      rw [Nat.add_zero] at h0
      rw [if_pos h0]
      rw [cnt_eq pr t n (p + 1) k (by omega) (fun j hj => by rw [show p + 1 + j = p + (j + 1) by omega]; exact ha _ (by omega)) (by
        rcases he with he | he
        · left; omega
        · right; rw [show p + 1 + k = p + (k + 1) by omega]; exact he)]
theorem run_cnt {C t : Array Nat} {i : Nat} {pr : Nat → Bool} (hacc : ∀ c sn, ∃ sn', accepts C i c sn = .ok (pr c, sn')) :
    ∀ n p f sn, ∃ sn', Sre.run C t i n p f sn = .ok (f + cnt pr t n p, sn')
  | 0, p, f, sn => ⟨sn, rfl⟩
  | n + 1, p, f, sn => by
    obtain ⟨sn1, h1⟩ := hacc (t.getD p 0) sn
    obtain ⟨sn2, h2⟩ := run_cnt hacc n (p + 1) (f + 1) sn1
    unfold Sre.run cnt
    rw [h1]
    cases hp : pr (t.getD p 0) with
    | true => exact ⟨sn2, by show Sre.run C t i n (p + 1) (f + 1) sn1 = _; rw [h2]; simp only [if_true]; congr 2; omega⟩
    | false => exact ⟨sn1, rfl⟩

def hexc (c : Nat) : Bool := (48 ≤ lowerUni c && lowerUni c ≤ 57) || (97 ≤ lowerUni c && lowerUni c ≤ 102)

theorem acc_hex (c : Nat) (sn : Seen) : ∃ sn', accepts C1 25 c sn = .ok (hexc c, sn') := by
  show ∃ sn', inSet C1 (lowerUni c) 49 27 true sn = .ok (hexc c, sn')
  unfold hexc
  generalize lowerUni c = l
  by_cases h1 : (48 ≤ l && l ≤ 57) = true
  · exact ⟨_, (if_pos h1).trans (by rw [h1]; rfl)⟩
  · by_cases h2 : (97 ≤ l && l ≤ 102) = true
    · exact ⟨_, (if_neg h1).trans ((if_pos h2).trans (by rw [h2, Bool.or_true]))⟩
    · exact ⟨_, (if_neg h1).trans ((if_neg h2).trans (by rw [Bool.eq_false_iff.mpr h1, Bool.eq_false_iff.mpr h2]; rfl))⟩
theorem acc_gt (c : Nat) (sn : Seen) : ∃ sn', accepts C1 41 c sn = .ok (c == 62, sn') := ⟨sn, rfl⟩

/-- how many marks the pattern has -/
def msz (C : Array Nat) : Nat := if C.size = 49 then 2 else 0
/-- a state of the run: where it stands -/
structure At (C t : Array Nat) (must : Bool) (pc pos : Nat) (fr : List Sre.Frame) (wt st : Nat) (m : M) : Prop where
  inv : Inv C t must m
  pc : m.pc = pc
  pos : m.pos = pos
  ans : m.answer = none
  frames : m.frames = fr
  weight : m.weight = wt
  start : m.start = st
  marks : m.marks.size = msz C
/-- a state with an answer -/
structure Said (C t : Array Nat) (must yes : Bool) (fr : List Sre.Frame) (wt st : Nat) (m : M) : Prop where
  inv : Inv C t must m
  ans : m.answer = some yes
  frames : m.frames = fr
  weight : m.weight = wt
  start : m.start = st
  marks : m.marks.size = msz C

theorem At.lt {C t must pc pos fr wt st m} (h : At C t must pc pos fr wt st m) (hl : pc < C.size) : m.pc < m.code.size := by rw [h.pc, h.inv.code]; exact hl
theorem At.word {C t must pc pos fr wt st m} (h : At C t must pc pos fr wt st m) (k : Nat) : m.word k = C.getD (pc + k) 0 := by unfold M.word; rw [h.pc, h.inv.code]

/-- one sign -/
theorem at_one {C t : Array Nat} {must : Bool} {pc pos wt st : Nat} {fr : List Sre.Frame} {m : M} {op : Op} {pr : Nat → Bool} {B : Nat} {P : M → Prop} (h : At C t must pc pos fr wt st m) (hl : pc < C.size) (hop : ops[C.getD pc 0]? = some op) (hone : isOne op = true) (hw : itemWidth C pc = 2)
    (hacc : ∀ c sn, ∃ sn', accepts C pc c sn = .ok (pr c, sn'))
    (hno : (t.size ≤ pos ∨ pr (t.getD pos 0) = false) → ∀ m', Said C t must false fr wt st m' → Run B m' P)
    (hyes : pos < t.size → pr (t.getD pos 0) = true → ∀ m', m'.marks = m.marks → m'.lastmark = m.lastmark → m'.lastindex = m.lastindex → m'.outermost = m.outermost → At C t must (pc + 2) (pos + 1) fr wt st m' → Run B m' P) : Run (B + 1) m P := by
  obtain ⟨sn, hs⟩ := hacc (t.getD pos 0) (m.seen.add (m.word 0))
  have e := step_acc h.inv.out h.ans (h.lt hl) (op := op) (by rw [h.word]; exact hop) hone (b := pr (t.getD pos 0)) (sn := sn) (by rw [h.inv.code, h.pc, h.inv.text, h.pos]; exact hs)
  have iv := h.inv
  by_cases hge : m.pos ≥ m.lim
  · rw [if_pos hge] at e
    exact run_step iv.out e (hno (.inl (by rw [h.pos, iv.lim] at hge; exact hge)) _ ⟨⟨iv.code, iv.text, iv.lim, iv.last, iv.whole, iv.must, iv.inner, iv.out⟩, rfl, h.frames, h.weight, h.start, h.marks⟩)
  · rw [if_neg hge] at e
    have hlt : pos < t.size := by rw [h.pos, iv.lim] at hge; omega
    cases hp : pr (t.getD pos 0) with
    | true =>
      rw [hp, if_pos rfl] at e
      exact run_step iv.out e (hyes hlt hp _ rfl rfl rfl rfl ⟨⟨iv.code, iv.text, iv.lim, iv.last, iv.whole, iv.must, iv.inner, iv.out⟩, by show m.pc + itemWidth m.code m.pc = pc + 2; rw [h.pc, iv.code, hw], by show m.pos + 1 = pos + 1; rw [h.pos], h.ans, h.frames, h.weight, h.start, h.marks⟩)
    | false =>
      rw [hp, if_neg Bool.false_ne_true] at e
      exact run_step iv.out e (hno (.inr hp) _ ⟨⟨iv.code, iv.text, iv.lim, iv.last, iv.whole, iv.must, iv.inner, iv.out⟩, rfl, h.frames, h.weight, h.start, h.marks⟩)

abbrev gbf (pc pos : Nat) (om : Bool) (n : Nat) (lm li : Int) : Sre.Frame := { wait := .giveBack, pc := pc, pos := pos, outermost := om, count := n, kept := { lastmark := lm, lastindex := li, whole := false, marks := #[] } }

/-- a repeat of one sign: the greedy run, then on behind it -/
theorem at_many {C t : Array Nat} {must : Bool} {pc pos wt st least most skip : Nat} {fr : List Sre.Frame} {m : M} {pr : Nat → Bool} {B : Nat} {P : M → Prop} (h : At C t must pc pos fr wt st m) (hl : pc < C.size) (hop : ops[C.getD pc 0]? = some .REPEAT_ONE)
    (h1 : C.getD (pc + 1) 0 = skip) (h2 : C.getD (pc + 2) 0 = least) (h3 : C.getD (pc + 3) 0 = most) (hpos : pos ≤ t.size) (hwt : wt + 1 ≤ 16777216)
    (hacc : ∀ c sn, ∃ sn', accepts C (pc + 4) c sn = .ok (pr c, sn'))
    (hno : (t.size < pos + least ∨ cnt pr t (min most (t.size - pos)) pos < least) → ∀ m', Said C t must false fr wt st m' → Run B m' P)
    (hyes : least ≤ cnt pr t (min most (t.size - pos)) pos → ∀ m' lm li om, lm = m.lastmark → li = m.lastindex → om = m.outermost → m'.lastmark = lm → m'.lastindex = li → m'.marks = m.marks → m'.outermost = om → At C t must (pc + 1 + skip) (pos + cnt pr t (min most (t.size - pos)) pos) (gbf pc (pos + cnt pr t (min most (t.size - pos)) pos) om (cnt pr t (min most (t.size - pos)) pos) lm li :: fr) (wt + 1) st m' → Run B m' P) : Run (B + 1) m P := by
  obtain ⟨sn, hs⟩ := run_cnt (t := t) hacc (min most (t.size - pos)) pos 0 ((m.seen.add (m.word 0)).add (m.word 4))
  rw [Nat.zero_add] at hs
  have iv := h.inv
  have hroom : ((m.lim : Int) - m.pos).toNat = t.size - pos := by rw [iv.lim, h.pos]; omega
  have w2 : m.word 2 = least := by rw [h.word]; exact h2
  have w1 : m.word 1 = skip := by rw [h.word]; exact h1
  have w3 : m.word 3 = most := by rw [h.word]; exact h3
  have e := step_one_more iv.out h.ans (h.lt hl) (by rw [h.word]; exact hop) (n := cnt pr t (min most (t.size - pos)) pos) (sn := sn) (by rw [hroom, w3, iv.code, iv.text, h.pc, h.pos]; exact hs) iv.inner (by rw [h.weight]; exact hwt)
  by_cases hbig : (m.word 2 : Int) > (m.lim : Int) - m.pos
  · rw [if_pos hbig] at e
    exact run_step iv.out e (hno (.inl (by rw [w2, iv.lim, h.pos] at hbig; omega)) _ ⟨⟨iv.code, iv.text, iv.lim, iv.last, iv.whole, iv.must, iv.inner, iv.out⟩, rfl, h.frames, h.weight, h.start, h.marks⟩)
  · rw [if_neg hbig] at e
    by_cases hfew : cnt pr t (min most (t.size - pos)) pos < m.word 2
    · rw [if_pos hfew] at e
      exact run_step iv.out e (hno (.inr (by rw [w2] at hfew; exact hfew)) _ ⟨⟨iv.code, iv.text, iv.lim, iv.last, iv.whole, iv.must, iv.inner, iv.out⟩, rfl, h.frames, h.weight, h.start, h.marks⟩)
    · rw [if_neg hfew] at e
      refine run_step iv.out e (hyes (by rw [w2] at hfew; omega) _ m.lastmark m.lastindex m.outermost rfl rfl rfl rfl rfl rfl rfl ⟨⟨iv.code, iv.text, iv.lim, iv.last, iv.whole, iv.must, iv.inner, iv.out⟩, ?_, ?_, h.ans, ?_, ?_, h.start, h.marks⟩)
      · show m.pc + 1 + m.word 1 = pc + 1 + skip
        rw [h.pc, w1]
      · show m.pos + _ = pos + _
        rw [h.pos]
      · show _ :: m.frames = _ :: fr
        rw [h.frames, h.pc, h.pos]
      · show m.weight + 1 = wt + 1
        rw [h.weight]

/-- a give-back: the run one shorter, or no -/
theorem said_gb {C t : Array Nat} {must : Bool} {pc pos wt st skip least : Nat} {n : Nat} {fr : List Sre.Frame} {om : Bool} {lm li : Int} {m : M} {B : Nat} {P : M → Prop} (h : Said C t must false (gbf pc pos om n lm li :: fr) (wt + 1) st m)
    (h1 : C.getD (pc + 1) 0 = skip) (h2 : C.getD (pc + 2) 0 = least) (hwt : wt + 1 ≤ 16777216)
    (hno : n < least + 1 → ∀ m', Said C t must false fr wt st m' → Run B m' P)
    (hyes : least + 1 ≤ n → ∀ m', m'.lastmark = lm → m'.lastindex = li → m'.outermost = om → At C t must (pc + 1 + skip) (pos - 1) (gbf pc (pos - 1) om (n - 1) lm li :: fr) (wt + 1) st m' → Run B m' P) : Run (B + 1) m P := by
  have iv := h.inv
  have e := step_resume iv.out h.ans h.frames
  unfold M.resume at e
  simp only [M.putBack, M.say, M.word, iv.code, h2, Bool.false_eq_true, if_false] at e
  by_cases hfew : (n : Int) - 1 < (least : Int)
  · rw [if_pos hfew] at e
    refine run_step iv.out e (hno (by omega) _ ⟨⟨rfl, iv.text, iv.lim, iv.last, iv.whole, iv.must, iv.inner, iv.out⟩, rfl, rfl, ?_, h.start, h.marks⟩)
    show m.weight - (1 + 0) = wt
    rw [h.weight]; omega
  · rw [if_neg hfew] at e
    simp only [M.afterRun, M.attempt, M.frame, M.word, iv.code, h1] at e
    rw [if_neg (by rw [h.weight]; simp; omega)] at e
    refine run_step iv.out e (hyes (by omega) _ rfl rfl rfl ⟨⟨rfl, iv.text, iv.lim, iv.last, iv.whole, iv.must, iv.inner, iv.out⟩, rfl, rfl, rfl, ?_, ?_, h.start, h.marks⟩)
    · show _ :: fr = _ :: fr
      congr 2
      omega
    · show m.weight - (1 + 0) + 1 + 0 = wt + 1
      rw [h.weight]; omega

theorem at_mark {C t : Array Nat} {must : Bool} {pc pos wt st i : Nat} {fr : List Sre.Frame} {m : M} {B : Nat} {P : M → Prop} (h : At C t must pc pos fr wt st m) (hl : pc < C.size) (hop : ops[C.getD pc 0]? = some .MARK) (h1 : C.getD (pc + 1) 0 = i)
    (hlm : (i : Int) ≤ m.lastmark + 1)
    (hyes : ∀ m', m'.marks = m.marks.setIfInBounds i (some pos) → m'.lastmark = max m.lastmark i → (i % 2 = 1 → m'.lastindex = ((i / 2 + 1 : Nat) : Int)) → (i % 2 = 0 → m'.lastindex = m.lastindex) → m'.outermost = m.outermost → At C t must (pc + 2) pos fr wt st m' → Run B m' P) : Run (B + 1) m P := by
  have iv := h.inv
  have e := step_mark iv.out h.ans (h.lt hl) (by rw [h.word]; exact hop)
  have w1 : m.word 1 = i := by rw [h.word]; exact h1
  rw [w1] at e
  unfold M.mark at e
  rw [if_pos hlm] at e
  refine run_step iv.out e (hyes _ ?_ rfl ?_ ?_ rfl ⟨⟨iv.code, iv.text, iv.lim, iv.last, iv.whole, iv.must, iv.inner, iv.out⟩, ?_, h.pos, h.ans, h.frames, h.weight, h.start, ?_⟩)
  · show m.marks.setIfInBounds i (some m.pos) = _
    rw [h.pos]
  · intro hi
    show (if (i % 2 == 1) = true then ((i / 2 + 1 : Nat) : Int) else m.lastindex) = _
    rw [hi]; rfl
  · intro hi
    show (if (i % 2 == 1) = true then ((i / 2 + 1 : Nat) : Int) else m.lastindex) = _
    rw [hi]; rfl
  · show m.pc + 2 = pc + 2
    rw [h.pc]
  · show (m.marks.setIfInBounds i (some m.pos)).size = msz C
    rw [Array.size_setIfInBounds]; exact h.marks

/-- the text's end, or ahead of one line end that is the last sign -/
def AtEnd (t : Array Nat) (i : Nat) : Prop := i = t.size ∨ (i + 1 = t.size ∧ t.getD i 0 = 10)
theorem at_end {C t : Array Nat} {must : Bool} {pc pos wt st : Nat} {fr : List Sre.Frame} {m : M} {B : Nat} {P : M → Prop} (h : At C t must pc pos fr wt st m) (hl : pc < C.size) (hop : ops[C.getD pc 0]? = some .AT) (h1 : C.getD (pc + 1) 0 = 5)
    (hno : ¬ AtEnd t pos → ∀ m', Said C t must false fr wt st m' → Run B m' P)
    (hyes : AtEnd t pos → ∀ m', m'.marks = m.marks → m'.lastmark = m.lastmark → m'.lastindex = m.lastindex → m'.outermost = m.outermost → At C t must (pc + 2) pos fr wt st m' → Run B m' P) : Run (B + 1) m P := by
  have iv := h.inv
  have w1 : m.word 1 = 5 := by rw [h.word]; exact h1
  have e := step_at iv.out h.ans (h.lt hl) (by rw [h.word]; exact hop) (b := (m.pos == m.lim || (m.pos + 1 == m.lim && m.text.getD m.pos 0 == 10))) (by rw [w1]; rfl)
  have hb : (m.pos == m.lim || (m.pos + 1 == m.lim && m.text.getD m.pos 0 == 10)) = true ↔ AtEnd t pos := by
    rw [h.pos, iv.lim, iv.text]
    simp [AtEnd]
  by_cases he : AtEnd t pos
  · rw [if_pos (hb.mpr he)] at e
    exact run_step iv.out e (hyes he _ rfl rfl rfl rfl ⟨⟨iv.code, iv.text, iv.lim, iv.last, iv.whole, iv.must, iv.inner, iv.out⟩, by show m.pc + 2 = pc + 2; rw [h.pc], h.pos, h.ans, h.frames, h.weight, h.start, h.marks⟩)
  · rw [if_neg (fun q => he (hb.mp q))] at e
    exact run_step iv.out e (hno he _ ⟨⟨iv.code, iv.text, iv.lim, iv.last, iv.whole, iv.must, iv.inner, iv.out⟩, rfl, h.frames, h.weight, h.start, h.marks⟩)

abbrev isGt (c : Nat) : Bool := c == 62
/-- behind the second repeat, e of its signs taken: no end at any of the shorter runs -/
theorem back_gt {t : Array Nat} {p wt st : Nat} {fr : List Sre.Frame} {om : Bool} {lm li : Int} {B : Nat} {P : M → Prop} (hwt : wt + 1 ≤ 16777216) (hlm : 0 ≤ lm)
    (hno : ∀ m', Said C1 t false false fr wt st m' → Run B m' P) : ∀ (e : Nat) (m : M), 1 ≤ e → (∀ j, 1 ≤ j → j ≤ e → ¬ AtEnd t (p + j)) → m.lastmark = lm → At C1 t false 44 (p + e) (gbf 37 (p + e) om e lm li :: fr) (wt + 1) st m → Run (B + 3 * e) m P
  | 0, _, h, _, _, _ => absurd h (by omega)
  | e + 1, m, _, ha, hl, h => by
    refine run_le (B := B + 3 * e + 1 + 1 + 1) ?_ (by omega)
    refine at_mark h (by decide) (i := 1) rfl rfl (by rw [hl]; omega) fun m1 _ _ _ _ _ h1 => ?_
    refine at_end h1 (by decide) rfl rfl (fun _ m2 h2 => ?_) fun q => absurd q (ha _ (by omega) (Nat.le_refl _))
    refine said_gb h2 (skip := 6) (least := 1) rfl rfl hwt (fun _ m3 h3 => run_le (hno m3 h3) (by omega)) fun hle m3 l3 _ _ h3 => ?_
    exact back_gt hwt hlm hno e m3 (by omega) (fun j h1 h2 => ha j h1 (by omega)) l3 h3

/-- behind the first repeat, n of its signs taken: no run of closing signs to the end at any of the shorter runs -/
theorem back_hex {t : Array Nat} {q wt st : Nat} {fr : List Sre.Frame} {om : Bool} {lm li : Int} {B : Nat} {P : M → Prop} (hwt : wt + 2 ≤ 16777216) (hlm : lm = -1)
    (hno : ∀ m', Said C1 t false false fr wt st m' → Run B m' P) : ∀ (n : Nat) (m : M), 6 ≤ n → q + n ≤ t.size →
    (∀ n', 6 ≤ n' → n' ≤ n → ∀ e, 1 ≤ e → (∀ j < e, t.getD (q + n' + j) 0 = 62) → ¬ AtEnd t (q + n' + e)) → m.lastmark = lm → At C1 t false 35 (q + n) (gbf 21 (q + n) om n lm li :: fr) (wt + 1) st m → Run (B + n * (3 * t.size + 3)) m P
  | 0, _, h, _, _, _, _ => absurd h (by omega)
  | n + 1, m, h6, hq, ha, hl, h => by
    have eB : B + (n + 1) * (3 * t.size + 3) = (B + n * (3 * t.size + 3) + 1) + 3 * t.size + 1 + 1 := by rw [Nat.succ_mul]; omega
    rw [eB]
    have again : ∀ m4, Said C1 t false false (gbf 21 (q + (n + 1)) om (n + 1) lm li :: fr) (wt + 1) st m4 → Run (B + n * (3 * t.size + 3) + 1) m4 P := fun m4 h4 => by
      refine said_gb h4 (skip := 13) (least := 6) rfl rfl (by omega) (fun _ m5 h5 => run_le (hno m5 h5) (by omega)) fun hle m5 l5 _ _ h5 => ?_
      exact back_hex hwt hlm hno n m5 (by omega) (by omega) (fun n' a b => ha n' a (by omega)) l5 h5
    refine at_mark h (by decide) (i := 0) rfl rfl (by rw [hl, hlm]; decide) fun m1 _ l1 _ _ _ h1 => ?_
    refine at_many h1 (by decide) (skip := 6) (least := 1) (most := 4294967295) (pr := isGt) rfl rfl rfl rfl hq (by omega) acc_gt (fun _ m2 h2 => run_le (again m2 h2) (by omega)) fun hc m2 lm2 li2 om2 e1 e2 e3 l2 _ _ _ h2 => ?_
    have hcnt := cnt_all isGt t (min 4294967295 (t.size - (q + (n + 1)))) (q + (n + 1))
    have hcle := cnt_le isGt t (min 4294967295 (t.size - (q + (n + 1)))) (q + (n + 1))
    generalize cnt isGt t (min 4294967295 (t.size - (q + (n + 1)))) (q + (n + 1)) = c at hc h2 hcnt hcle
    refine run_le (back_gt (B := B + n * (3 * t.size + 3) + 1) (by omega) (by rw [e1, l1, hl, hlm]; decide) again c m2 hc (fun j hj1 hj2 => ha (n + 1) h6 (Nat.le_refl _) j hj1 fun i hi => ?_) l2 h2) ?_
    · have := hcnt i (by omega)
      exact beq_iff_eq.mp this
    · have : c ≤ t.size := by omega
      omega

abbrev isC (k c : Nat) : Bool := c == k
abbrev isL (k c : Nat) : Bool := lowerUni c == k
/-- the pattern matches at s: an id of n figures, e closing signs, the end -/
def HitWith (t : Array Nat) (s n e : Nat) : Prop :=
  isC 32 (t.getD s 0) = true ∧ isL 97 (t.getD (s + 1) 0) = true ∧ isL 116 (t.getD (s + 2) 0) = true ∧ isC 32 (t.getD (s + 3) 0) = true ∧ isC 48 (t.getD (s + 4) 0) = true ∧ isL 120 (t.getD (s + 5) 0) = true ∧
  6 ≤ n ∧ n ≤ 16 ∧ 1 ≤ e ∧ (∀ j < n, hexc (t.getD (s + 6 + j) 0) = true) ∧ (∀ j < e, t.getD (s + 6 + n + j) 0 = 62) ∧ AtEnd t (s + 6 + n + e)
def Hit (t : Array Nat) (s : Nat) : Prop := ∃ n e, HitWith t s n e

theorem acc9 (c : Nat) (sn : Seen) : ∃ sn', accepts C1 9 c sn = .ok (isC 32 c, sn') := ⟨sn, rfl⟩
theorem acc11 (c : Nat) (sn : Seen) : ∃ sn', accepts C1 11 c sn = .ok (isL 97 c, sn') := ⟨sn, rfl⟩
theorem acc13 (c : Nat) (sn : Seen) : ∃ sn', accepts C1 13 c sn = .ok (isL 116 c, sn') := ⟨sn, rfl⟩
theorem acc15 (c : Nat) (sn : Seen) : ∃ sn', accepts C1 15 c sn = .ok (isC 32 c, sn') := ⟨sn, rfl⟩
theorem acc17 (c : Nat) (sn : Seen) : ∃ sn', accepts C1 17 c sn = .ok (isC 48 c, sn') := ⟨sn, rfl⟩
theorem acc19 (c : Nat) (sn : Seen) : ∃ sn', accepts C1 19 c sn = .ok (isL 120 c, sn') := ⟨sn, rfl⟩

/-- an attempt at a place where the pattern does not match -/
theorem attempt_no {t : Array Nat} {s wt st : Nat} {fr : List Sre.Frame} {m : M} {B : Nat} {P : M → Prop} (hwt : wt + 3 ≤ 16777216) (hm : ¬ Hit t s) (hl : m.lastmark = -1) (h : At C1 t false 9 s fr wt st m)
    (hno : ∀ m', Said C1 t false false fr wt st m' → Run B m' P) : Run (B + 16 * (3 * t.size + 3) + 7) m P := by
  have low : ∀ (k : Nat) m', Said C1 t false false fr wt st m' → Run (B + 16 * (3 * t.size + 3) + k) m' P := fun k m' h' => run_le (hno m' h') (by omega)
  refine at_one h (by decide) (op := .LITERAL) (pr := isC 32) rfl rfl rfl acc9 (fun _ => low 6) fun _ c1 m1 _ l1 _ _ h1 => ?_
  refine at_one h1 (by decide) (op := .LITERAL_UNI_IGNORE) (pr := isL 97) rfl rfl rfl acc11 (fun _ => low 5) fun _ c2 m2 _ l2 _ _ h2 => ?_
  refine at_one h2 (by decide) (op := .LITERAL_UNI_IGNORE) (pr := isL 116) rfl rfl rfl acc13 (fun _ => low 4) fun _ c3 m3 _ l3 _ _ h3 => ?_
  refine at_one h3 (by decide) (op := .LITERAL) (pr := isC 32) rfl rfl rfl acc15 (fun _ => low 3) fun _ c4 m4 _ l4 _ _ h4 => ?_
  refine at_one h4 (by decide) (op := .LITERAL) (pr := isC 48) rfl rfl rfl acc17 (fun _ => low 2) fun _ c5 m5 _ l5 _ _ h5 => ?_
  refine at_one h5 (by decide) (op := .LITERAL_UNI_IGNORE) (pr := isL 120) rfl rfl rfl acc19 (fun _ => low 1) fun hsz c6 m6 _ l6 _ _ h6 => ?_
  refine at_many h6 (by decide) (skip := 13) (least := 6) (most := 16) (pr := hexc) rfl rfl rfl rfl (by omega) (by omega) acc_hex (fun _ => low 0) fun hc m7 lm li om e1 e2 e3 l7 _ _ _ h7 => ?_
  have hall := cnt_all hexc t (min 16 (t.size - (s + 1 + 1 + 1 + 1 + 1 + 1))) (s + 1 + 1 + 1 + 1 + 1 + 1)
  have hle := cnt_le hexc t (min 16 (t.size - (s + 1 + 1 + 1 + 1 + 1 + 1))) (s + 1 + 1 + 1 + 1 + 1 + 1)
  generalize cnt hexc t (min 16 (t.size - (s + 1 + 1 + 1 + 1 + 1 + 1))) (s + 1 + 1 + 1 + 1 + 1 + 1) = n at hc h7 hall hle
  refine run_le (back_hex (by omega) (by rw [e1, l6, l5, l4, l3, l2, l1, hl]) hno n m7 hc (by omega) (fun n' a b e he hg hend => hm ⟨n', e, c1, c2, c3, c4, c5, c6, a, by omega, he, fun j hj => hall j (by omega), fun j hj => hg j hj, hend⟩) l7 h7) ?_
  have : n * (3 * t.size + 3) ≤ 16 * (3 * t.size + 3) := Nat.mul_le_mul_right _ (by omega)
  omega

theorem hexc_gt : hexc 62 = false := by decide +kernel
theorem hexc_nl : hexc 10 = false := by decide +kernel
theorem hexc_zero : hexc 0 = false := by decide +kernel

theorem said_gb_yes {C t : Array Nat} {must : Bool} {pc pos wt st n : Nat} {fr : List Sre.Frame} {om : Bool} {lm li : Int} {m : M} {B : Nat} {P : M → Prop} (h : Said C t must true (gbf pc pos om n lm li :: fr) (wt + 1) st m)
    (hyes : ∀ m', m'.marks = m.marks → m'.lastmark = m.lastmark → m'.lastindex = m.lastindex → m'.handed = m.handed → Said C t must true fr wt st m' → Run B m' P) : Run (B + 1) m P := by
  have iv := h.inv
  have e := step_resume iv.out h.ans h.frames
  refine run_step iv.out e (hyes _ rfl rfl rfl rfl ⟨⟨iv.code, iv.text, iv.lim, iv.last, iv.whole, iv.must, iv.inner, iv.out⟩, rfl, rfl, ?_, h.start, h.marks⟩)
  show m.weight - (1 + 0) = wt
  rw [h.weight]; omega

/-- an attempt at a place where it does -/
theorem attempt_yes {t : Array Nat} {s wt st n e : Nat} {fr : List Sre.Frame} {m : M} {B : Nat} {P : M → Prop} (hwt : wt + 3 ≤ 16777216) (hm : HitWith t s n e) (hsz : t.size < 4294967295) (hl : m.lastmark = -1) (h : At C1 t false 9 s fr wt st m)
    (hyes : ∀ m', m'.marks = (m.marks.setIfInBounds 0 (some (s + 6 + n))).setIfInBounds 1 (some (s + 6 + n + e)) → m'.lastmark = 1 → m'.lastindex = 1 → m'.handed = s + 6 + n + e → Said C1 t false true fr wt st m' → Run B m' P) : Run (B + 14) m P := by
  obtain ⟨c1, c2, c3, c4, c5, c6, hn6, hn16, he1, hall, hgt, hend⟩ := hm
  have hE : s + 6 + n + e ≤ t.size := by rcases hend with q | q <;> omega
  have bad : ∀ {c : Nat} {pr : Nat → Bool} {pos : Nat}, pr (t.getD pos 0) = true → pos < t.size → (t.size ≤ pos ∨ pr (t.getD pos 0) = false) → False := fun h1 h2 h3 => by
    rcases h3 with h3 | h3
    · omega
    · rw [h1] at h3; cases h3
  refine at_one h (by decide) (op := .LITERAL) (pr := isC 32) rfl rfl rfl acc9 (fun q => (bad (c := 0) c1 (by omega) q).elim) fun _ _ m1 k1 l1 i1 _ h1 => ?_
  refine at_one h1 (by decide) (op := .LITERAL_UNI_IGNORE) (pr := isL 97) rfl rfl rfl acc11 (fun q => (bad (c := 0) c2 (by omega) q).elim) fun _ _ m2 k2 l2 i2 _ h2 => ?_
  refine at_one h2 (by decide) (op := .LITERAL_UNI_IGNORE) (pr := isL 116) rfl rfl rfl acc13 (fun q => (bad (c := 0) c3 (by omega) q).elim) fun _ _ m3 k3 l3 i3 _ h3 => ?_
  refine at_one h3 (by decide) (op := .LITERAL) (pr := isC 32) rfl rfl rfl acc15 (fun q => (bad (c := 0) c4 (by omega) q).elim) fun _ _ m4 k4 l4 i4 _ h4 => ?_
  refine at_one h4 (by decide) (op := .LITERAL) (pr := isC 48) rfl rfl rfl acc17 (fun q => (bad (c := 0) c5 (by omega) q).elim) fun _ _ m5 k5 l5 i5 _ h5 => ?_
  refine at_one h5 (by decide) (op := .LITERAL_UNI_IGNORE) (pr := isL 120) rfl rfl rfl acc19 (fun q => (bad (c := 0) c6 (by omega) q).elim) fun _ _ m6 k6 l6 i6 _ h6 => ?_
  have ec : cnt hexc t (min 16 (t.size - (s + 1 + 1 + 1 + 1 + 1 + 1))) (s + 1 + 1 + 1 + 1 + 1 + 1) = n := by
    refine cnt_eq hexc t _ _ n (by omega) (fun j hj => hall j hj) (.inr ?_)
    have := hgt 0 he1
    rw [show s + 1 + 1 + 1 + 1 + 1 + 1 + n = s + 6 + n + 0 by omega, this]; exact hexc_gt
  refine at_many h6 (by decide) (skip := 13) (least := 6) (most := 16) (pr := hexc) rfl rfl rfl rfl (by omega) (by omega) acc_hex (fun q => absurd q (by rw [ec]; omega)) fun hc m7 lm li om e1 e2 e3 l7 i7 k7 _ h7 => ?_
  rw [ec] at h7
  refine at_mark h7 (by decide) (i := 0) rfl rfl (by rw [l7, e1, l6, l5, l4, l3, l2, l1, hl]; decide) fun m8 k8 l8 _ _ _ h8 => ?_
  have ec2 : cnt isGt t (min 4294967295 (t.size - (s + 1 + 1 + 1 + 1 + 1 + 1 + n))) (s + 1 + 1 + 1 + 1 + 1 + 1 + n) = e := by
    refine cnt_eq isGt t _ _ e (by omega) (fun j hj => by rw [show s + 1 + 1 + 1 + 1 + 1 + 1 + n + j = s + 6 + n + j by omega]; exact beq_iff_eq.mpr (hgt j hj)) ?_
    rcases hend with q | ⟨q1, q2⟩
    · left; omega
    · right; rw [show s + 1 + 1 + 1 + 1 + 1 + 1 + n + e = s + 6 + n + e by omega, q2]; rfl
  refine at_many h8 (by decide) (skip := 6) (least := 1) (most := 4294967295) (pr := isGt) rfl rfl rfl rfl (by omega) (by omega) acc_gt (fun q => absurd q (by rw [ec2]; omega)) fun hc m9 lm9 li9 om9 e91 e92 e93 l9 i9 k9 _ h9 => ?_
  rw [ec2] at h9
  have elm8 : m8.lastmark = 0 := by rw [l8, l7, e1, l6, l5, l4, l3, l2, l1, hl]; rfl
  refine at_mark h9 (by decide) (i := 1) rfl rfl (by rw [l9, e91, elm8]; decide) fun m10 k10 l10 i10 _ _ h10 => ?_
  refine at_end h10 (by decide) rfl rfl (fun q => absurd hend (by rw [show s + 6 + n + e = s + 1 + 1 + 1 + 1 + 1 + 1 + n + e by omega]; exact q)) fun _ m11 k11 l11 i11 _ h11 => ?_
  have iv := h11.inv
  have e11 := step_success iv.out h11.ans (h11.lt (by decide)) (by rw [h11.word]; rfl)
  rw [if_neg (by rw [iv.whole, iv.must]; simp)] at e11
  refine run_step iv.out e11 ?_
  refine said_gb_yes (C := C1) (t := t) (must := false) (st := st) (wt := wt + 1) (fr := gbf 21 (s + 1 + 1 + 1 + 1 + 1 + 1 + n) om n lm li :: fr) (pc := 37) (pos := s + 1 + 1 + 1 + 1 + 1 + 1 + n + e) (om := om9) (n := e) (lm := lm9) (li := li9) ⟨⟨iv.code, iv.text, iv.lim, iv.last, iv.whole, iv.must, iv.inner, iv.out⟩, rfl, h11.frames, h11.weight, h11.start, h11.marks⟩ fun m12 k12 l12 i12 p12 h12 => ?_
  refine said_gb_yes h12 fun m13 k13 l13 i13 p13 h13 => ?_
  refine hyes m13 ?_ ?_ ?_ ?_ h13
  · rw [k13, k12]
    show m11.marks = _
    rw [k11, k10, k9, k8, k7, k6, k5, k4, k3, k2, k1]
  · rw [l13, l12]
    show m11.lastmark = _
    rw [l11, l10, l9, e91, elm8]; rfl
  · rw [i13, i12]
    show m11.lastindex = _
    rw [i11, i10 rfl]; rfl
  · rw [p13, p12]
    show m11.pos = _
    rw [h11.pos]

abbrev nsf (s : Nat) (first : Bool) (pc : Nat) : Sre.Frame := { wait := .nextStart, pc := pc, pos := s, outermost := first }
/-- at the head of an attempt at s -/
structure Top1 (C t : Array Nat) (must : Bool) (pc s : Nat) (m : M) : Prop where
  at_ : ∃ first, At C t must pc s [nsf s first pc] 1 s m
  lm : m.lastmark = -1

/-- what comes of a search from s on -/
theorem next_start {C t : Array Nat} {must : Bool} {pc s st : Nat} {first : Bool} {m : M} {B : Nat} {P : M → Prop} (h : Said C t must false [nsf s first pc] 1 st m) (hfs : ∀ m : M, m.code = C → m.hasFirstSet = false)
    (hend : t.size ≤ s → ∀ m', Said C t must false [] 0 st m' → Run B m' P)
    (hnext : s < t.size → ∀ m', m'.marks.size = msz C → Top1 C t false pc (s + 1) m' → Run B m' P) : Run (B + 1) m P := by
  have iv := h.inv
  have e := step_resume iv.out h.ans h.frames
  unfold M.resume at e
  simp only [M.putBack, M.say, Bool.false_eq_true, if_false] at e
  by_cases hs : s < t.size
  · rw [if_pos (by rw [iv.last]; exact hs)] at e
    unfold M.attemptFrom at e
    rw [hfs _ (by exact iv.code)] at e
    simp only [Bool.not_false, if_true, M.attemptAt, M.attempt] at e
    rw [if_neg (by rw [h.weight]; simp)] at e
    exact run_step iv.out e (hnext hs _ h.marks ⟨⟨false, ⟨⟨iv.code, iv.text, iv.lim, iv.last, iv.whole, rfl, iv.inner, iv.out⟩, rfl, rfl, rfl, rfl, by show m.weight - (1 + 0) + 1 + 0 = 1; rw [h.weight], rfl, h.marks⟩⟩, rfl⟩)
  · rw [if_neg (by rw [iv.last]; exact hs)] at e
    exact run_step iv.out e (hend (by omega) _ ⟨⟨iv.code, iv.text, iv.lim, iv.last, iv.whole, iv.must, iv.inner, iv.out⟩, rfl, rfl, by show m.weight - (1 + 0) = 0; rw [h.weight], h.start, h.marks⟩)

abbrev stepB (t : Array Nat) : Nat := 16 * (3 * t.size + 3) + 40
theorem fs1 (m : M) (h : m.code = C1) : m.hasFirstSet = false := by unfold M.hasFirstSet; rw [h]; rfl

theorem search_no {t : Array Nat} : ∀ (k s : Nat) (m : M), k = t.size + 1 - s → s ≤ t.size → (∀ s', s ≤ s' → s' ≤ t.size → ¬ Hit t s') → Top1 C1 t false 9 s m → Run (k * stepB t) m (fun m' => m'.outcome = some .failed)
  | 0, s, m, hk, hs, _, _ => by omega
  | k + 1, s, m, hk, hs, hno, h => by
    obtain ⟨first, ha⟩ := h.at_
    have e : (k + 1) * stepB t = (k * stepB t + 30 + 1) + 16 * (3 * t.size + 3) + 7 + 2 := by rw [Nat.succ_mul]; show k * stepB t + (16 * (3 * t.size + 3) + 40) = _; omega
    rw [e]
    refine run_le (attempt_no (B := k * stepB t + 31) (by omega) (hno s (Nat.le_refl _) hs) h.lm ha fun m1 h1 => ?_) (by omega)
    refine next_start h1 fs1 (fun _ m2 h2 => ?_) fun hlt m2 _ h2 => ?_
    · refine run_le (B := 1) (run_step h2.inv.out (step_end h2.inv.out h2.ans h2.frames) (run_done rfl)) (by omega)
    · exact run_le (search_no k (s + 1) m2 (by omega) (by omega) (fun s' a b => hno s' (by omega) b) h2) (by omega)

theorem search_yes {t : Array Nat} {p n e : Nat} (hsz : t.size < 4294967295) (hp : HitWith t p n e) : ∀ (k s : Nat) (m : M), k = p - s → s ≤ p → (∀ s', s ≤ s' → s' < p → ¬ Hit t s') → Top1 C1 t false 9 s m →
    Run (k * stepB t + 30) m (fun m' => m'.outcome = some .matched ∧ m'.start = p ∧ m'.handed = p + 6 + n + e ∧ m'.marks = #[some (p + 6 + n), some (p + 6 + n + e)] ∧ m'.lastmark = 1 ∧ m'.lastindex = 1)
  | 0, s, m, hk, hs, _, h => by
    have es : s = p := by omega
    subst es
    obtain ⟨first, ha⟩ := h.at_
    refine run_le (B := 2 + 14) (attempt_yes (by omega) hp hsz h.lm ha fun m1 k1 l1 i1 p1 h1 => ?_) (by omega)
    have iv := h1.inv
    refine run_step iv.out (step_resume iv.out h1.ans h1.frames) ?_
    refine run_step (m := M.resume _ _ _) (by exact iv.out) (step_end (by exact iv.out) rfl rfl) (run_done ⟨rfl, h1.start, p1, ?_, l1, i1⟩)
    show m1.marks = _
    rw [k1]
    have hm2 : m.marks.size = 2 := ha.marks
    generalize m.marks = mk at hm2
    match mk, hm2 with
    | ⟨[a, b]⟩, _ => rfl
  | k + 1, s, m, hk, hs, hno, h => by
    obtain ⟨first, ha⟩ := h.at_
    have e : (k + 1) * stepB t + 30 = (k * stepB t + 30 + 30 + 1) + 16 * (3 * t.size + 3) + 7 + 2 := by rw [Nat.succ_mul]; show k * stepB t + (16 * (3 * t.size + 3) + 40) + 30 = _; omega
    rw [e]
    refine run_le (attempt_no (B := k * stepB t + 61) (by omega) (hno s (Nat.le_refl _) (by omega)) h.lm ha fun m1 h1 => ?_) (by omega)
    obtain ⟨q1, q2, q3, q4, q5, q6, _, _, _, _, _, hend⟩ := hp
    have hpt : p < t.size := by rcases hend with q | q <;> omega
    refine next_start h1 fs1 (fun q _ _ => absurd q (by omega)) fun hlt m2 _ h2 => ?_
    exact run_le (search_yes hsz ⟨q1, q2, q3, q4, q5, q6, by assumption, by assumption, by assumption, by assumption, by assumption, hend⟩ k (s + 1) m2 (by omega) (by omega) (fun s' a b => hno s' (by omega) b) h2) (by omega)

theorem run_out {B : Nat} {m : M} {P : M → Prop} (h : Run B m P) : ∃ n, n ≤ B ∧ P (m.runFor n) := h

/-- the search as the builtins start it -/
theorem forSearch_top {t : Array Nat} {s : Nat} (hs : s + 13 ≤ t.size) : Top1 C1 t false 9 s (forSearch C1 t 1 s t.size false) := by
  have e : forSearch C1 t 1 s t.size false = (if (decide (s > t.size) || decide (t.size - s < 13)) = true then _ else _) := rfl
  rw [e, if_neg (by simp; omega)]
  exact ⟨⟨true, ⟨⟨rfl, rfl, rfl, rfl, rfl, rfl, rfl, rfl⟩, rfl, rfl, rfl, rfl, rfl, rfl, rfl⟩⟩, rfl⟩
theorem forSearch_short {t : Array Nat} {s : Nat} (hs : ¬ s + 13 ≤ t.size) : Run 2 (forSearch C1 t 1 s t.size false) (fun m' => m'.outcome = some .failed) := by
  have e : forSearch C1 t 1 s t.size false = (if (decide (s > t.size) || decide (t.size - s < 13)) = true then _ else _) := rfl
  rw [e, if_pos (by simp; omega)]
  exact run_le (B := 1) (run_step rfl (step_end rfl rfl rfl) (run_done rfl)) (by omega)

theorem find_no {t : Array Nat} {s : Nat} (hno : ∀ s', s ≤ s' → ¬ Hit t s') : Run ((t.size + 2) * stepB t) (forSearch C1 t 1 s t.size false) (fun m' => m'.outcome = some .failed) := by
  by_cases hs : s + 13 ≤ t.size
  · refine run_le (search_no (t.size + 1 - s) s _ rfl (by omega) (fun s' a _ => hno s' a) (forSearch_top hs)) ?_
    exact Nat.mul_le_mul_right _ (by omega)
  · refine run_le (forSearch_short hs) ?_
    have : 2 * stepB t ≤ (t.size + 2) * stepB t := Nat.mul_le_mul_right _ (by omega)
    have : 40 ≤ stepB t := Nat.le_add_left _ _
    omega
theorem find_yes {t : Array Nat} {s p n e : Nat} (hsz : t.size < 4294967295) (hp : HitWith t p n e) (hs : s ≤ p) (hno : ∀ s', s ≤ s' → s' < p → ¬ Hit t s') :
    Run ((t.size + 2) * stepB t) (forSearch C1 t 1 s t.size false) (fun m' => m'.outcome = some .matched ∧ m'.start = p ∧ m'.handed = p + 6 + n + e ∧ m'.marks = #[some (p + 6 + n), some (p + 6 + n + e)] ∧ m'.lastmark = 1 ∧ m'.lastindex = 1) := by
  have hend : p + 6 + n + e ≤ t.size ∧ 6 ≤ n ∧ 1 ≤ e := by
    obtain ⟨_, _, _, _, _, _, _, _, _, _, _, hend⟩ := hp
    refine ⟨?_, by assumption, by assumption⟩
    rcases hend with q | q <;> omega
  refine run_le (search_yes hsz hp (p - s) s _ rfl hs hno (forSearch_top (by omega))) ?_
  have h1 : (p - s) * stepB t ≤ t.size * stepB t := Nat.mul_le_mul_right _ (by omega)
  have h2 : 40 ≤ stepB t := Nat.le_add_left _ _
  rw [Nat.add_mul]; omega

-- the second pattern: the start of a line that is not empty
abbrev C2 : Array Nat := #[14, 4, 0, 0, 0, 6, 1, 5, 5, 0, 6, 6, 1, 1]
def Hit2 (t : Array Nat) (s : Nat) : Prop := (s = 0 ∨ t.getD (s - 1) 0 = 10) ∧ ¬ (s = t.size ∨ t.getD s 0 = 10)

theorem at_at {C t : Array Nat} {must : Bool} {pc pos wt st k : Nat} {b : Bool} {fr : List Sre.Frame} {m : M} {B : Nat} {P : M → Prop} (h : At C t must pc pos fr wt st m) (hl : pc < C.size) (hop : ops[C.getD pc 0]? = some .AT) (h1 : C.getD (pc + 1) 0 = k)
    (hb : ∀ m' : M, m'.pos = pos → m'.lim = t.size → m'.text = t → m'.isAt k = .ok b)
    (hno : b = false → ∀ m', Said C t must false fr wt st m' → Run B m' P)
    (hyes : b = true → ∀ m', m'.marks = m.marks → m'.lastmark = m.lastmark → m'.lastindex = m.lastindex → m'.outermost = m.outermost → At C t must (pc + 2) pos fr wt st m' → Run B m' P) : Run (B + 1) m P := by
  have iv := h.inv
  have w1 : m.word 1 = k := by rw [h.word]; exact h1
  have e := step_at iv.out h.ans (h.lt hl) (by rw [h.word]; exact hop) (b := b) (by rw [w1]; exact hb _ h.pos iv.lim iv.text)
  cases b with
  | true =>
    rw [if_pos rfl] at e
    exact run_step iv.out e (hyes rfl _ rfl rfl rfl rfl ⟨⟨iv.code, iv.text, iv.lim, iv.last, iv.whole, iv.must, iv.inner, iv.out⟩, by show m.pc + 2 = pc + 2; rw [h.pc], h.pos, h.ans, h.frames, h.weight, h.start, h.marks⟩)
  | false =>
    rw [if_neg Bool.false_ne_true] at e
    exact run_step iv.out e (hno rfl _ ⟨⟨iv.code, iv.text, iv.lim, iv.last, iv.whole, iv.must, iv.inner, iv.out⟩, rfl, h.frames, h.weight, h.start, h.marks⟩)

theorem step_look {m : M} (ho : m.outcome = none) (ha : m.answer = none) (hlt : m.pc < m.code.size) (hop : ops[m.word 0]? = some .ASSERT_NOT) (h2 : m.word 2 = 0) (hi : m.inner = none) (hw : m.weight + 1 ≤ 16777216) :
    m.step = { m with seen := m.seen.add (m.word 0), pos := m.pos, handed := m.pos, outermost := false, pc := m.pc + 3, weight := m.weight + 1, frames := { wait := .lookNot, pc := m.pc, pos := m.pos, outermost := m.outermost, kept := { lastmark := m.lastmark, lastindex := m.lastindex, whole := false, marks := #[] } } :: m.frames } := by
  rw [step_exec ho ha hlt]
  unfold M.exec
  simp only [hop]
  simp only [M.word] at h2
  simp only [M.word, h2, Nat.not_lt_zero, if_false, M.attempt, M.keep, M.frame, hi, Option.isSome_none, Bool.and_false, Bool.false_eq_true, Nat.sub_zero, Bool.not_true]
  rw [if_neg (by simp; omega)]
  rfl

abbrev lkf (pc pos : Nat) (om : Bool) (lm li : Int) : Sre.Frame := { wait := .lookNot, pc := pc, pos := pos, outermost := om, kept := { lastmark := lm, lastindex := li, whole := false, marks := #[] } }

theorem isAt1 {t : Array Nat} {pos : Nat} (m : M) (h1 : m.pos = pos) (_ : m.lim = t.size) (h3 : m.text = t) : m.isAt 1 = .ok (pos == 0 || t.getD (pos - 1) 0 == 10) := by
  unfold M.isAt; rw [h1, h3]; rfl
theorem isAt6 {t : Array Nat} {pos : Nat} (m : M) (h1 : m.pos = pos) (h2 : m.lim = t.size) (h3 : m.text = t) : m.isAt 6 = .ok (pos == t.size || t.getD pos 0 == 10) := by
  unfold M.isAt; rw [h1, h2, h3]; rfl

theorem look_said {t : Array Nat} {must yes : Bool} {pc pos wt st : Nat} {fr : List Sre.Frame} {om : Bool} {lm li : Int} {m : M} {B : Nat} {P : M → Prop} (h : Said C2 t must yes (lkf pc pos om lm li :: fr) (wt + 1) st m) (h1 : C2.getD (pc + 1) 0 = 5)
    (hno : yes = true → ∀ m', Said C2 t must false fr wt st m' → Run B m' P)
    (hyes : yes = false → ∀ m', m'.lastmark = lm → m'.lastindex = li → m'.outermost = om → At C2 t must (pc + 6) pos fr wt st m' → Run B m' P) : Run (B + 1) m P := by
  have iv := h.inv
  have e := step_resume iv.out h.ans h.frames
  unfold M.resume at e
  cases yes with
  | true =>
    refine run_step iv.out e (hno rfl _ ⟨⟨iv.code, iv.text, iv.lim, iv.last, iv.whole, iv.must, iv.inner, iv.out⟩, rfl, rfl, ?_, h.start, h.marks⟩)
    show m.weight - (1 + 0) = wt
    rw [h.weight]; omega
  | false =>
    refine run_step iv.out e (hyes rfl _ rfl rfl rfl ⟨⟨iv.code, iv.text, iv.lim, iv.last, iv.whole, iv.must, iv.inner, iv.out⟩, ?_, rfl, rfl, rfl, ?_, h.start, h.marks⟩)
    · show pc + 1 + m.code.getD (pc + 1) 0 = pc + 6
      rw [iv.code, h1]
    · show m.weight - (1 + 0) = wt
      rw [h.weight]; omega

/-- an attempt at s: no match -/
theorem attempt2_no {t : Array Nat} {must : Bool} {s wt : Nat} {fr : List Sre.Frame} {m : M} {B : Nat} {P : M → Prop} (hwt : wt + 3 ≤ 16777216) (hm : ¬ Hit2 t s ∨ (must = true ∧ m.outermost = true)) (h : At C2 t must 5 s fr wt s m)
    (hno : ∀ m', Said C2 t must false fr wt s m' → Run B m' P) : Run (B + 6) m P := by
  refine at_at h (by decide) rfl (k := 1) rfl isAt1 (fun _ m' h' => run_le (hno m' h') (by omega)) fun hb m1 _ l1 i1 o1 h1 => ?_
  have iv := h1.inv
  have e := step_look iv.out h1.ans (h1.lt (by decide)) (by rw [h1.word]; rfl) (by rw [h1.word]; rfl) iv.inner (by rw [h1.weight]; omega)
  refine run_step iv.out rfl ?_
  have h2 : At C2 t must 10 s (lkf 7 s m1.outermost m1.lastmark m1.lastindex :: fr) (wt + 1) s m1.step := by
    rw [e]; exact ⟨⟨iv.code, iv.text, iv.lim, iv.last, iv.whole, iv.must, iv.inner, iv.out⟩, by show m1.pc + 3 = 10; rw [h1.pc], h1.pos, h1.ans, by show _ :: m1.frames = _ :: fr; rw [h1.frames, h1.pc, h1.pos], by show m1.weight + 1 = wt + 1; rw [h1.weight], h1.start, h1.marks⟩
  refine at_at h2 (by decide) rfl (k := 6) rfl isAt6 (fun hf m3 h3 => ?_) fun hb2 m3 _ _ _ o3 h3 => ?_
  · refine look_said h3 rfl (fun q => nomatch q) fun _ m4 _ _ o4 h4 => ?_
    have hit : Hit2 t s := by
      refine ⟨by simpa using hb, ?_⟩
      simpa using hf
    have hmo : must = true ∧ m.outermost = true := by
      rcases hm with q | q
      · exact absurd hit q
      · exact q
    have e4 := step_success h4.inv.out h4.ans (h4.lt (by decide)) (by rw [h4.word]; rfl)
    have i4 := h4.inv
    rw [if_pos (by rw [o4, o1, i4.must, hmo.1, hmo.2, h4.pos, h4.start]; simp)] at e4
    exact run_step i4.out e4 (run_le (hno _ ⟨⟨i4.code, i4.text, i4.lim, i4.last, i4.whole, i4.must, i4.inner, i4.out⟩, rfl, h4.frames, h4.weight, h4.start, h4.marks⟩) (by omega))
  · have e3 := step_success h3.inv.out h3.ans (h3.lt (by decide)) (by rw [h3.word]; rfl)
    have i3 := h3.inv
    rw [if_neg (by rw [o3, e]; simp)] at e3
    refine run_step i3.out e3 ?_
    exact look_said (yes := true) (fr := fr) (wt := wt) (pc := 7) (pos := s) (st := s) (must := must) (t := t) (om := m1.outermost) (lm := m1.lastmark) (li := m1.lastindex) ⟨⟨i3.code, i3.text, i3.lim, i3.last, i3.whole, i3.must, i3.inner, i3.out⟩, rfl, h3.frames, h3.weight, h3.start, h3.marks⟩ rfl (fun _ m4 h4 => run_le (hno m4 h4) (by omega)) fun q => nomatch q

theorem attempt2_yes {t : Array Nat} {s wt : Nat} {fr : List Sre.Frame} {m : M} {B : Nat} {P : M → Prop} (hwt : wt + 3 ≤ 16777216) (hm : Hit2 t s) (h : At C2 t false 5 s fr wt s m)
    (hyes : ∀ m', m'.handed = s → m'.lastmark = m.lastmark → Said C2 t false true fr wt s m' → Run B m' P) : Run (B + 6) m P := by
  refine at_at h (by decide) rfl (k := 1) rfl isAt1 (fun q => absurd hm.1 (by simpa using q)) fun hb m1 _ l1 i1 o1 h1 => ?_
  have iv := h1.inv
  have e := step_look iv.out h1.ans (h1.lt (by decide)) (by rw [h1.word]; rfl) (by rw [h1.word]; rfl) iv.inner (by rw [h1.weight]; omega)
  refine run_step iv.out rfl ?_
  have h2 : At C2 t false 10 s (lkf 7 s m1.outermost m1.lastmark m1.lastindex :: fr) (wt + 1) s m1.step := by
    rw [e]; exact ⟨⟨iv.code, iv.text, iv.lim, iv.last, iv.whole, iv.must, iv.inner, iv.out⟩, by show m1.pc + 3 = 10; rw [h1.pc], h1.pos, h1.ans, by show _ :: m1.frames = _ :: fr; rw [h1.frames, h1.pc, h1.pos], by show m1.weight + 1 = wt + 1; rw [h1.weight], h1.start, h1.marks⟩
  refine at_at h2 (by decide) rfl (k := 6) rfl isAt6 (fun hf m3 h3 => ?_) fun hb2 => (hm.2 (by simpa using hb2)).elim
  refine look_said h3 rfl (fun q => nomatch q) fun _ m4 l4 _ o4 h4 => ?_
  have e4 := step_success h4.inv.out h4.ans (h4.lt (by decide)) (by rw [h4.word]; rfl)
  have i4 := h4.inv
  rw [if_neg (by rw [i4.must, i4.whole]; simp)] at e4
  exact run_step i4.out e4 (run_le (hyes _ h4.pos (by show m4.lastmark = _; rw [l4, l1]) ⟨⟨i4.code, i4.text, i4.lim, i4.last, i4.whole, i4.must, i4.inner, i4.out⟩, rfl, h4.frames, h4.weight, h4.start, h4.marks⟩) (by omega))

theorem fs2 (m : M) (h : m.code = C2) : m.hasFirstSet = false := by unfold M.hasFirstSet; rw [h]; rfl

theorem search2_no {t : Array Nat} : ∀ (k s : Nat) (must : Bool) (m : M), k = t.size + 1 - s → s ≤ t.size → (∀ s', s ≤ s' → s' ≤ t.size → ¬ Hit2 t s' ∨ (must = true ∧ s' = s)) → (must = true → m.outermost = true) → Top1 C2 t must 5 s m → Run (k * 20) m (fun m' => m'.outcome = some .failed)
  | 0, s, _, m, hk, hs, _, _, _ => by omega
  | k + 1, s, must, m, hk, hs, hno, ho, h => by
    obtain ⟨first, ha⟩ := h.at_
    refine run_le (attempt2_no (B := k * 20 + 10) (by omega) ((hno s (Nat.le_refl _) hs).imp id fun q => ⟨q.1, ho q.1⟩) ha fun m1 h1 => ?_) (by omega)
    refine run_le (B := k * 20 + 5 + 1) (next_start h1 fs2 (fun _ m2 h2 => ?_) fun hlt m2 _ h2 => ?_) (by omega)
    · exact run_le (B := 1) (run_step h2.inv.out (step_end h2.inv.out h2.ans h2.frames) (run_done rfl)) (by omega)
    · refine run_le (search2_no k (s + 1) false m2 (by omega) (by omega) (fun s' a b => .inl ?_) (fun q => nomatch q) h2) (by omega)
      rcases hno s' (by omega) b with q | q
      · exact q
      · omega

theorem search2_yes {t : Array Nat} {p : Nat} (hp : Hit2 t p) : ∀ (k s : Nat) (must : Bool) (m : M), k = p - s → s ≤ p → p ≤ t.size → (∀ s', s ≤ s' → s' < p → ¬ Hit2 t s' ∨ (must = true ∧ s' = s)) → (must = true → m.outermost = true ∧ s < p) → Top1 C2 t must 5 s m →
    Run (k * 20 + 20) m (fun m' => m'.outcome = some .matched ∧ m'.start = p ∧ m'.handed = p ∧ m'.lastmark = -1)
  | 0, s, must, m, hk, hs, hpt, _, ho, h => by
    have es : s = p := by omega
    subst es
    have em : must = false := by
      cases must with
      | false => rfl
      | true => exact absurd (ho rfl).2 (Nat.lt_irrefl _)
    subst em
    obtain ⟨first, ha⟩ := h.at_
    refine run_le (B := 2 + 6) (attempt2_yes (by omega) hp ha fun m1 p1 l1 h1 => ?_) (by omega)
    have iv := h1.inv
    refine run_step iv.out (step_resume iv.out h1.ans h1.frames) ?_
    exact run_step (m := M.resume _ _ _) (by exact iv.out) (step_end (by exact iv.out) rfl rfl) (run_done ⟨rfl, h1.start, p1, by show m1.lastmark = _; rw [l1, h.lm]⟩)
  | k + 1, s, must, m, hk, hs, hpt, hno, ho, h => by
    obtain ⟨first, ha⟩ := h.at_
    refine run_le (attempt2_no (B := k * 20 + 30) (by omega) ((hno s (Nat.le_refl _) (by omega)).imp id fun q => ⟨q.1, (ho q.1).1⟩) ha fun m1 h1 => ?_) (by omega)
    refine run_le (B := k * 20 + 20 + 1) (next_start h1 fs2 (fun q _ _ => by omega) fun hlt m2 _ h2 => ?_) (by omega)
    refine search2_yes hp k (s + 1) false m2 (by omega) (by omega) hpt (fun s' a b => .inl ?_) (fun q => nomatch q) h2
    rcases hno s' (by omega) b with q | q
    · exact q
    · omega

theorem forSearch2_top {t : Array Nat} {s : Nat} {must : Bool} (hs : s ≤ t.size) : Top1 C2 t must 5 s (forSearch C2 t 0 s t.size must) ∧ (forSearch C2 t 0 s t.size must).outermost = true := by
  have e : forSearch C2 t 0 s t.size must = (if (decide (s > t.size) || decide (t.size - s < 0)) = true then _ else _) := rfl
  rw [e, if_neg (by simp; omega)]
  exact ⟨⟨⟨true, ⟨⟨rfl, rfl, rfl, rfl, rfl, rfl, rfl, rfl⟩, rfl, rfl, rfl, rfl, rfl, rfl, rfl⟩⟩, rfl⟩, rfl⟩

theorem find2_no {t : Array Nat} {s : Nat} {must : Bool} (hs : s ≤ t.size) (hno : ∀ s', s ≤ s' → s' ≤ t.size → ¬ Hit2 t s' ∨ (must = true ∧ s' = s)) : Run ((t.size + 2) * 20) (forSearch C2 t 0 s t.size must) (fun m' => m'.outcome = some .failed) :=
  run_le (search2_no (t.size + 1 - s) s must _ rfl hs hno (fun _ => (forSearch2_top hs).2) (forSearch2_top hs).1) (Nat.mul_le_mul_right _ (by omega))
theorem find2_yes {t : Array Nat} {s p : Nat} {must : Bool} (hs : s ≤ p) (hpt : p ≤ t.size) (hp : Hit2 t p) (hm : must = true → s < p) (hno : ∀ s', s ≤ s' → s' < p → ¬ Hit2 t s' ∨ (must = true ∧ s' = s)) :
    Run ((t.size + 2) * 20) (forSearch C2 t 0 s t.size must) (fun m' => m'.outcome = some .matched ∧ m'.start = p ∧ m'.handed = p ∧ m'.lastmark = -1) := by
  have ht := forSearch2_top (must := must) (Nat.le_trans hs hpt)
  refine run_le (search2_yes hp (p - s) s must _ rfl hs hpt hno (fun q => ⟨ht.2, hm q⟩) ht.1) ?_
  have : (p - s) ≤ t.size := by omega
  omega
end Mine

end

section
/- the part RF -/
set_option maxRecDepth 100000
namespace Mine
open PySem PySem.Builtin.Re PyProof.Rows

theorem slot_re_sub : Slot "re.Pattern" "sub" "re.Pattern.sub" :=
  .of (owner := "re.Pattern") (n := "sub") (by rw [typeLookup_type, builtinLookup_eq_fast]; kernel_rfl) (by decide +kernel) (by decide +kernel) (by decide +kernel)
    (by first | exact .inl (by decide +kernel) | exact .inr (by decide +kernel)) (by rw [isSubtype_type]; kernel_rfl)
theorem slot_re_group : Slot "re.Match" "group" "re.Match.group" :=
  .of (owner := "re.Match") (n := "group") (by rw [typeLookup_type, builtinLookup_eq_fast]; kernel_rfl) (by decide +kernel) (by decide +kernel) (by decide +kernel)
    (by first | exact .inl (by decide +kernel) | exact .inr (by decide +kernel)) (by rw [isSubtype_type]; kernel_rfl)
theorem entry_re_sub : entryFor table "re.Pattern.sub" = some Builtin.«re.Pattern.sub» := entryFor_of_fast (by kernel_rfl)
theorem entry_re_loop : entryFor table "re.Pattern.sub.loop" = some Builtin.«re.Pattern.sub.loop» := entryFor_of_fast (by kernel_rfl)
theorem entry_re_group : entryFor table "re.Match.group" = some Builtin.«re.Match.group» := entryFor_of_fast (by kernel_rfl)
theorem plain_re_sub : plainId "re.Pattern.sub" = true := by decide +kernel
theorem plain_re_loop : plainId "re.Pattern.sub.loop" = true := by decide +kernel
theorem plain_re_group : plainId "re.Match.group" = true := by decide +kernel
theorem kind_re_loop : builtinKind "re.Pattern.sub.loop" = none := by decide +kernel
theorem type_re_sub : typeOf (.builtin "re.Pattern.sub") = pure (.type "method_descriptor") := by show builtinType _ = _; rw [builtinType_eq_fast]; kernel_rfl
theorem type_re_group : typeOf (.builtin "re.Match.group") = pure (.type "method_descriptor") := by show builtinType _ = _; rw [builtinType_eq_fast]; kernel_rfl
theorem args_re_sub (a b c : Value) : argsOk "re.Pattern.sub" ⟨[a, b, c], []⟩ := by unfold argsOk; kernel_rfl
theorem args_re_group (a b : Value) : argsOk "re.Match.group" ⟨[a, b], []⟩ := by unfold argsOk; kernel_rfl

theorem pa_pattern : PlainAttrs "re.Pattern" :=
  ⟨⟨"object.__getattribute__", by rw [typeLookup_type, builtinLookup_eq_fast]; kernel_rfl, by decide +kernel⟩, by rw [typeLookup_type, builtinLookup_eq_fast]; kernel_rfl⟩
theorem pa_match : PlainAttrs "re.Match" :=
  ⟨⟨"object.__getattribute__", by rw [typeLookup_type, builtinLookup_eq_fast]; kernel_rfl, by decide +kernel⟩, by rw [typeLookup_type, builtinLookup_eq_fast]; kernel_rfl⟩
end Mine

end

section
/- the part RB -/
set_option maxRecDepth 100000
namespace Mine
open PySem PySem.Builtin.Re PyProof.Rows
section
variable {M : Model} {A : Around} {E : Value → Shared → Prop} {s : Shared}

theorem runFor_done {m : Sre.M} (h : m.outcome.isSome = true) : ∀ n, m.runFor n = m
  | 0 => rfl
  | n + 1 => by show (if m.outcome.isSome then m else _) = m; rw [h]; rfl

theorem wp_drive {Q : Sre.M → Shared → Prop} : ∀ (turns n : Nat) (m : Sre.M), 0 < turns → n ≤ 4 * turns → (m.runFor n).outcome.isSome = true → Q (m.runFor n) s → wpAny M A (reDrive turns m) Q E s
  | 0, n, m, h0, hn, ho, _ => absurd h0 (Nat.lt_irrefl _)
  | turns + 1, n, m, h0, hn, ho, hQ => by
    unfold reDrive
    show wpAny M A (if (m.runFor 4).outcome.isSome = true then pure (m.runFor 4) else (rule "sre.turn" >>= fun _ => reDrive turns (m.runFor 4))) Q E s
    cases h4 : (m.runFor 4).outcome.isSome with
    | true =>
      rw [if_pos rfl]
      refine wpAny_pure ?_
      by_cases hle : n ≤ 4
      · have e : m.runFor 4 = (m.runFor n).runFor (4 - n) := by rw [← runFor_add]; congr 1; omega
        rw [e, runFor_done ho]; exact hQ
      · have e : m.runFor n = (m.runFor 4).runFor (n - 4) := by rw [← runFor_add]; congr 1; omega
        rw [e, runFor_done h4] at hQ; exact hQ
    | false =>
      rw [if_neg Bool.false_ne_true]
      refine wpAny_bind (wpAny_rule ?_)
      have hgt : 4 < n := by
        refine Nat.lt_of_not_le fun hle => ?_
        have e : m.runFor 4 = (m.runFor n).runFor (4 - n) := by rw [← runFor_add]; congr 1; omega
        rw [e, runFor_done ho, ho] at h4; cases h4
      have e : m.runFor n = (m.runFor 4).runFor (n - 4) := by rw [← runFor_add]; congr 1; omega
      rw [e] at ho hQ
      exact wp_drive turns (n - 4) (m.runFor 4) (by omega) (by omega) ho hQ

theorem wp_forRules {α : Type} (f : α → PUnit → Sem (ForInStep PUnit)) (hf : ∀ x (Q : ForInStep PUnit → Shared → Prop), Q (.yield ⟨⟩) s → wpAny M A (f x ⟨⟩) Q E s) {Q : PUnit → Shared → Prop} (h : Q ⟨⟩ s) : ∀ l : List α, wpAny M A (forIn l PUnit.unit f) Q E s
  | [] => by rw [List.forIn_nil]; exact wpAny_pure h
  | x :: l => by
    rw [List.forIn_cons]
    refine wpAny_bind (hf x _ ?_)
    exact wp_forRules f hf h l

theorem wp_run_yes {m : Sre.M} {n : Nat} {Q : Option Sre.M → Shared → Prop} (hn : n ≤ 4 * 2 ^ 64) (ho : (m.runFor n).outcome = some .matched) (h : Q (some (m.runFor n)) s) : wpAny M A (reRunToEnd m) Q E s := by
  unfold reRunToEnd
  refine wpAny_bind (wp_drive (2 ^ 64) n m (by decide) hn (by rw [ho]; rfl) ?_)
  refine wpAny_bind (wp_forRules _ (fun x Q hQ => ?_) ?_ _)
  · split
    · exact wpAny_bind (wpAny_rule (wpAny_pure hQ))
    · exact wpAny_pure hQ
  · rw [ho]; exact wpAny_pure h
theorem wp_run_no {m : Sre.M} {n : Nat} {Q : Option Sre.M → Shared → Prop} (hn : n ≤ 4 * 2 ^ 64) (ho : (m.runFor n).outcome = some .failed) (h : Q none s) : wpAny M A (reRunToEnd m) Q E s := by
  unfold reRunToEnd
  refine wpAny_bind (wp_drive (2 ^ 64) n m (by decide) hn (by rw [ho]; rfl) ?_)
  refine wpAny_bind (wp_forRules _ (fun x Q hQ => ?_) ?_ _)
  · split
    · exact wpAny_bind (wpAny_rule (wpAny_pure hQ))
    · exact wpAny_pure hQ
  · rw [ho]; exact wpAny_pure h

/-- the pattern's object and its codes, as they stand in the heap -/
structure PatAt (h : Heap) (pa ca : Addr) (src : Str) (fl : Int) (gr : Nat) (C : Array Value) (t1 t2 : Tok) : Prop where
  pat : h.get? pa = some { cls := .type "re.Pattern", data := .fields #[.str src t1, .int fl t2, .int gr 0, .none, .none, .ref ca, .int 0 0] }
  codes : h.get? ca = some { cls := .type "tuple", data := .seq C }

theorem wp_target {pa ca : Addr} {src x : Str} {fl : Int} {gr : Nat} {C : Array Value} {t1 t2 t : Tok} {Q : ReTarget → Shared → Prop} (H : PatAt s.heap pa ca src fl gr C t1 t2)
    (h : Q { pattern := .ref pa, string := .str x t, code := (C.map reRawOf).map (·.toNat), text := x.cps, kind := 0, groups := gr, pos := 0, lim := x.cps.size } s) : wpAny M A (reWholeTarget (.ref pa) (.str x t)) Q E s := by
  unfold reWholeTarget
  refine wpAny_bind (wpAny_fieldsOf H.pat rfl ?_)
  unfold reTextOf reNoCollectionInside reRawItems
  refine wpAny_bind (wpAny_bind (wpAny_pure (wpAny_pure ?_)))
  refine wpAny_bind (wpAny_pure (a := ()) ?_)
  refine wpAny_bind (wpAny_bind (wpAny_seqItems H.codes rfl (wpAny_pure ?_)))
  exact wpAny_pure h

theorem wp_push {l : Addr} {items : Array Value} {n : Nat} {v : Value} {Q : Unit → Shared → Prop} (hl : s.heap.get? l = some (W.listOf items n)) (hz : items.size ≤ 100000)
    (h : ∀ h', h'.get? l = some (W.listOf (items.push v) (n + 1)) → Heap.SameBut l s.heap h' → Q () { s with heap := h' }) : wpAny M A (updateSeq l (·.push v)) Q E s := by
  refine wpAny_updateSeq hl rfl (h _ ?_ (Heap.SameBut.update ..)) (by rw [sizeLine_eq]; omega) (by rw [Array.size_push, sizeLine_eq]; omega)
  rw [Heap.get?_update_self _ hl rfl]
  simp [Obj.mapSeq, W.listOf]
theorem wp_slice {t : Array Nat} {b e : Nat} {Q : Value → Shared → Prop} (hz : t.size ≤ 16777216) (h : Q (.str ⟨t.extract b e⟩ s.toks) { s with toks := s.toks + 1 }) : wpAny M A (reSlice t 0 b e) Q E s := by
  unfold reSlice
  refine wpAny_mkStr h ?_
  show (t.extract b e).size ≤ _
  rw [Array.size_extract, sizeLine_eq]; omega
end

theorem ext_toList (a : Array Nat) (b e : Nat) : (a.extract b e).toList = (a.toList.take e).drop b := by
  rw [Array.toList_extract, List.extract_eq_take_drop, List.drop_take]
theorem ext2 (a : Array Nat) (b : Nat) : (a.extract b a.size).toList = a.toList.drop b := by
  rw [ext_toList, List.take_of_length_le (by simp)]

/-- texts, one behind the other -/
def cat (ys : List Str) : List Nat := (ys.map (·.cps.toList)).flatten
theorem cat_append (a b : List Str) : cat (a ++ b) = cat a ++ cat b := by simp [cat]
theorem cat_one (y : Str) : cat [y] = y.cps.toList := by simp [cat]
theorem sjoin_cat (e : Str) (he : e.cps = #[]) : ∀ ys : List Str, (Str.join e ys).cps.toList = cat ys
  | [] => rfl
  | [x] => by simp [Str.join, cat]
  | x :: y :: r => by
    have h : Str.join e (x :: y :: r) = x ++ e ++ Str.join e (y :: r) := rfl
    rw [h, Str.cps_append, Str.cps_append, he]
    simp only [Array.append_empty, Array.toList_append]
    rw [sjoin_cat e he (y :: r)]
    rfl
theorem join_cat (e : Str) (he : e.cps = #[]) (ys : List Str) : Txt.join e ys = ⟨(cat ys).toArray⟩ := by
  have h : Txt.join e ys = Str.join e ys := StrLaws.glued_eq_join e ys
  rw [h]
  apply Str.ext'
  rw [← sjoin_cat e he ys]
theorem cat_length : ∀ ys : List Str, (ys.map (·.length)).sum = (cat ys).length
  | [] => rfl
  | y :: r => by
    have : cat (y :: r) = y.cps.toList ++ cat r := by simp [cat]
    rw [this, List.map_cons, List.sum_cons, List.length_append, cat_length r]; rfl

theorem strsAre_push {items : Array Value} {ys : List Str} {y : Str} {t : Tok} (h : StrsAre items.toList ys) : StrsAre (items.push (.str y t)).toList (ys ++ [y]) := by
  rw [Array.toList_push]
  exact StrsAre.append' h (.cons _ _ .nil)

section
variable {prog : Program} {w : World} {A : Around}
/-- no further match: the rest of the text, the pieces joined -/
theorem loop_no {R : Result → Shared → Prop} {s : Shared} {pa ca : Addr} {src x : Str} {fl : Int} {gr : Nat} {C : Array Value} {t1 t2 t : Tok} {repl : Value} {way : Int} {n d k : Nat} {c : Nat} {must : Bool} {l : Addr} {items : Array Value} {ys : List Str}
    (H : PatAt s.heap pa ca src fl gr C t1 t2) (hw : (way = 0 ∧ ∃ p q, repl = .str p q) ∨ way = 1) (hx : x.length ≤ 100000) (hd : d ≤ x.length)
    (hl : s.heap.get? l = some (W.listOf items c)) (hi : StrsAre items.toList ys) (hz : items.size ≤ 50000) (hsum : (cat ys).length ≤ 1000000)
    (hk : k ≤ 4 * 2 ^ 64) (hrun : ((Sre.forSearch ((C.map reRawOf).map (·.toNat)) x.cps gr d x.cps.size must).runFor k).outcome = some .failed)
    (hR : ∀ t' h' tk', Heap.ExtBut l s.heap h' → R (.ok (.ret (.str ⟨(cat ys ++ x.cps.toList.drop d).toArray⟩ t'))) { s with heap := h', toks := tk' }) :
    codeAny (model prog w) A (.builtin "re.Pattern.sub.loop" ⟨[.ref pa, .str x t, repl, rawInt way, rawInt 0, rawInt n, rawInt d, rawInt d, .bool must, .ref l, .bool false], []⟩) R s := by
  refine codeAny_builtin entry_re_loop ?_
  rw [Around.under_plainId plain_re_loop _]
  unfold Builtin.«re.Pattern.sub.loop» rawInt
  dsimp only
  refine wpAny_bind (wp_target H ?_)
  have hxs : x.cps.size = x.length := rfl
  -- behind the look at the replacement
  have rest : ∀ (X : Sem Fin) (Q : Fin → Shared → Prop) (E : Value → Shared → Prop), wpAny (model prog w) A.in1 X Q E s → wpAny (model prog w) A.in1 (if (way == 0) = true then reLiteralCannotBeTurned repl >>= fun _ => X else X) Q E s := fun X Q E h => by
    rcases hw with ⟨rfl, p, q, rfl⟩ | rfl
    · rw [if_pos (show ((0 : Int) == 0) = true from rfl)]
      refine wpAny_bind ?_
      unfold reLiteralCannotBeTurned
      exact wpAny_bind (wpAny_pure (wpAny_pure h))
    · rw [if_neg (by decide)]; exact h
  refine rest _ _ _ ?_
  rw [if_neg (by simp)]
  refine wpAny_bind ?_
  unfold reNextFound
  refine wp_run_no hk hrun ?_
  dsimp only
  have fin : ∀ (s' : Shared) (items' : Array Value) (ys' : List Str) (c' : Nat) (Q : Fin → Shared → Prop) (E : Value → Shared → Prop), s'.heap.get? l = some (W.listOf items' c') → StrsAre items'.toList ys' → (cat ys').length ≤ 1100000 →
      (∀ t' tk', Q (.done (.ret (.str ⟨(cat ys').toArray⟩ t'))) { s' with toks := tk' }) →
      wpAny (model prog w) A.in1 (reSlice x.cps 0 0 0 >>= fun joiner => seqItems? (.ref l) >>= fun o => if (o.getD #[]).isEmpty = true then (pure joiner >>= fun text => if false = true then (holding [text] (mkInt n >>= fun b => newTuple [text, b]) >>= fun v => ret v) else ret text) else (call (.builtin (if (0 == 0) = true then "str.join" else "bytes.join")) [joiner, .ref l] >>= fun text => if false = true then (holding [text] (mkInt n >>= fun b => newTuple [text, b]) >>= fun v => ret v) else ret text)) Q E s' := fun s' items' ys' c' Q E hl' hi' hc' hQ => by
    refine wpAny_bind (wp_slice (by rw [hxs]; omega) ?_)
    refine wpAny_bind (wpAny_seqItems hl' rfl ?_)
    have he : (x.cps.extract 0 0) = #[] := by simp
    cases hem : items'.isEmpty with
    | true =>
      rw [if_pos (by simpa using hem)]
      refine wpAny_bind (wpAny_pure ?_)
      have : items' = #[] := by simpa using hem
      subst this
      have : ys' = [] := by cases hi'; rfl
      subst this
      have := hQ s'.toks (s'.toks + 1)
      rw [he]
      exact wpAny_pure this
    | false =>
      rw [if_neg (by simpa using hem)]
      refine wpAny_bind (join_list ⟨_, hl', rfl, _, rfl⟩ hi' ?_ fun t' k' => ?_)
      · rw [cat_length]
        show _ + _ * (x.cps.extract 0 0).size ≤ _
        rw [he]; simp; omega
      · rw [join_cat _ (by exact he)]
        exact wpAny_pure (hQ t' k')
  by_cases hlt : d < x.length
  · rw [if_pos (by exact hlt)]
    refine wpAny_bind (wp_slice (by rw [hxs]; omega) ?_)
    refine wpAny_bind (wp_push hl (by omega) fun h' hl' hsb => ?_)
    have e1 : cat (ys ++ [⟨x.cps.extract d x.cps.size⟩]) = cat ys ++ x.cps.toList.drop d := by
      rw [cat_append, cat_one]; exact congrArg _ (ext2 _ _)
    refine fin _ _ (ys ++ [⟨x.cps.extract d x.cps.size⟩]) _ _ _ hl' (strsAre_push hi) ?_ fun t' tk' => ?_
    · rw [e1, List.length_append, List.length_drop]
      have : x.cps.toList.length = x.length := rfl
      omega
    · rw [e1]; exact hR t' h' tk' hsb.extBut
  · rw [if_neg (by exact hlt)]
    have e1 : x.cps.toList.drop d = [] := List.drop_eq_nil_of_le (by show x.length ≤ d; omega)
    refine fin _ _ ys _ _ _ hl hi (by omega) fun t' tk' => ?_
    have := hR t' s.heap tk' (Heap.ExtBut.refl _ _)
    rw [e1, List.append_nil] at this
    exact this
end

section
variable {prog : Program} {w : World} {A : Around}

/-- one match of the second pattern, and on -/
theorem loop_lit_step {R : Result → Shared → Prop} {s : Shared} {pa ca : Addr} {src x pad : Str} {fl : Int} {gr : Nat} {C : Array Value} {t1 t2 t tp : Tok} {n d k p : Nat} {c : Nat} {must : Bool} {l : Addr} {items : Array Value} {ys : List Str}
    (H : PatAt s.heap pa ca src fl gr C t1 t2) (hx : x.length ≤ 100000) (hdp : d ≤ p) (hp : p ≤ x.length)
    (hl : s.heap.get? l = some (W.listOf items c)) (hi : StrsAre items.toList ys) (hz : items.size ≤ 50000)
    (hk : k ≤ 4 * 2 ^ 64) (hrun : ((Sre.forSearch ((C.map reRawOf).map (·.toNat)) x.cps gr d x.cps.size must).runFor k).outcome = some .matched)
    (hst : ((Sre.forSearch ((C.map reRawOf).map (·.toNat)) x.cps gr d x.cps.size must).runFor k).start = p) (hha : ((Sre.forSearch ((C.map reRawOf).map (·.toNat)) x.cps gr d x.cps.size must).runFor k).handed = p)
    (hR : ∀ items' ys' c' h' tk', h'.get? l = some (W.listOf items' c') → StrsAre items'.toList ys' → items'.size ≤ items.size + 2 → cat ys' = cat ys ++ (x.cps.toList.take p).drop d ++ pad.cps.toList → Heap.ExtBut l s.heap h' →
      codeAny (model prog w) A (.builtin "re.Pattern.sub.loop" ⟨[.ref pa, .str x t, .str pad tp, rawInt 0, rawInt 0, rawInt (n + 1 : Nat), rawInt p, rawInt p, .bool true, .ref l, .bool false], []⟩) R { s with heap := h', toks := tk' }) :
    codeAny (model prog w) A (.builtin "re.Pattern.sub.loop" ⟨[.ref pa, .str x t, .str pad tp, rawInt 0, rawInt 0, rawInt n, rawInt d, rawInt d, .bool must, .ref l, .bool false], []⟩) R s := by
  refine codeAny_builtin entry_re_loop ?_
  rw [Around.under_plainId plain_re_loop _]
  unfold Builtin.«re.Pattern.sub.loop» rawInt
  dsimp only
  refine wpAny_bind (wp_target H ?_)
  have hxs : x.cps.size = x.length := rfl
  rw [if_pos (show ((0 : Int) == 0) = true from rfl)]
  refine wpAny_bind ?_
  unfold reLiteralCannotBeTurned
  refine wpAny_bind (wpAny_pure (wpAny_pure ?_))
  rw [if_neg (by simp)]
  refine wpAny_bind ?_
  unfold reNextFound
  refine wp_run_yes hk hrun ?_
  dsimp only [Int.toNat_natCast]
  rw [hst, hha]
  have fin : ∀ (s' : Shared) (items' : Array Value) (ys' : List Str) (c' : Nat), s'.heap.get? l = some (W.listOf items' c') → StrsAre items'.toList ys' → items'.size ≤ items.size + 1 → cat ys' = cat ys ++ (x.cps.toList.take p).drop d → Heap.ExtBut l s.heap s'.heap → (∃ tk', s' = { s with heap := s'.heap, toks := tk' }) →
      wpAny (model prog w) A.in1 (updateSeq l (·.push (.str pad tp)) >>= fun _ => again (.builtin "re.Pattern.sub.loop" ⟨[.ref pa, .str x t, .str pad tp, .int 0 0, .int 0 0, .int ((n : Int) + 1) 0, .int (p : Nat) 0, .int (p : Nat) 0, .bool (p == p), .ref l, .bool false], []⟩))
        (fun fin s' => match fin with | .done f => R (.ok f) s' | .again c' => c'.quiet = true ∧ codeAny (model prog w) A c' R s') (fun e s' => R (.error e) s') s' := fun s' items' ys' c' hl' hi' hz' he hext hs' => by
    obtain ⟨tk', e⟩ := hs'
    refine wpAny_bind (wp_push hl' (by omega) fun h2 hl2 hsb => ?_)
    refine wpAny_pure ⟨plainId_quiet plain_re_loop _, ?_⟩
    rw [beq_self_eq_true, e]
    exact hR _ (ys' ++ [pad]) _ h2 tk' hl2 (strsAre_push hi') (by rw [Array.size_push]; omega) (by rw [cat_append, cat_one, he]) fun b o hb hg => hsb.extBut b o hb (hext b o hb hg)
  by_cases hlt : d < p
  · rw [if_pos (by exact hlt)]
    refine wpAny_bind (wp_slice (by rw [hxs]; omega) ?_)
    refine wpAny_bind (wp_push hl (by omega) fun h' hl' hsb => ?_)
    rw [if_pos (show ((0 : Int) == 0) = true from rfl)]
    refine wpAny_bind (wpAny_pure ?_)
    rw [if_pos (by rfl)]
    exact fin _ _ (ys ++ [⟨x.cps.extract d p⟩]) _ hl' (strsAre_push hi) (by rw [Array.size_push]; omega) (by rw [cat_append, cat_one]; exact congrArg _ (ext_toList _ _ _)) hsb.extBut ⟨_, rfl⟩
  · rw [if_neg (by exact hlt)]
    rw [if_pos (show ((0 : Int) == 0) = true from rfl)]
    refine wpAny_bind (wpAny_pure ?_)
    rw [if_pos (by rfl)]
    have ep : p = d := by omega
    subst ep
    refine fin _ _ ys _ hl hi (by omega) ?_ (Heap.ExtBut.refl _ _) ⟨s.toks, rfl⟩
    rw [List.drop_eq_nil_of_le (by rw [List.length_take]; omega), List.append_nil]

/-- the text from q on is these rows, each with a line end behind it -/
def RowsAt (t : List Nat) : Nat → List (List Nat) → Prop
  | q, [] => q = t.length
  | q, r :: rs => r ≠ [] ∧ 10 ∉ r ∧ (∃ rest, t.drop q = r ++ 10 :: rest) ∧ (q = 0 ∨ t[q - 1]? = some 10) ∧ RowsAt t (q + r.length + 1) rs

/-- what comes of the rows: each behind the pad -/
def padRows (pad : List Nat) (rs : List (List Nat)) : List Nat := (rs.map fun r => pad ++ r ++ [10]).flatten
theorem padRows_cons (pad r : List Nat) (rs : List (List Nat)) : padRows pad (r :: rs) = pad ++ r ++ [10] ++ padRows pad rs := by simp [padRows]
end
end Mine

end

section
/- the part RC -/
set_option maxRecDepth 100000
namespace Mine
open PySem PySem.Builtin.Re PyProof.Rows

theorem big {k n : Nat} (h : k ≤ n) (hn : n ≤ 1000000000000000) : k ≤ 4 * 2 ^ 64 := Nat.le_trans h (Nat.le_trans hn (by decide))
theorem getD_list (a : Array Nat) (i : Nat) : a.getD i 0 = (a.toList[i]?).getD 0 := by
  rw [Array.getD_eq_getD_getElem?, Array.getElem?_toList]

theorem rows_hit {t : Array Nat} {q : Nat} {r : List Nat} {rs : List (List Nat)} (h : RowsAt t.toList q (r :: rs)) : Hit2 t q ∧ q + r.length + 1 ≤ t.size ∧ (∀ s', q < s' → s' < q + r.length + 1 → ¬ Hit2 t s') ∧ (t.toList.take (q + r.length + 1)).drop q = r ++ [10] := by
  obtain ⟨hr, h10, ⟨rest, hd⟩, hs, _⟩ := h
  have hlen : t.toList.length - q = r.length + 1 + rest.length := by
    have := congrArg List.length hd
    rw [List.length_drop] at this
    simp at this ⊢; omega
  have hsz : t.toList.length = t.size := rfl
  have at_ : ∀ j, t.toList[q + j]? = (r ++ 10 :: rest)[j]? := fun j => by rw [← hd, List.getElem?_drop]
  have inr : ∀ j, j < r.length → (t.toList[q + j]?).getD 0 ≠ 10 := fun j hj => by
    rw [at_, List.getElem?_append_left hj, List.getElem?_eq_getElem hj]
    intro e
    exact h10 (by simp at e; exact e ▸ List.getElem_mem hj)
  have hpos : 0 < r.length := List.length_pos_iff.mpr hr
  refine ⟨⟨?_, ?_⟩, by omega, ?_, ?_⟩
  · rcases hs with rfl | hs
    · exact .inl rfl
    · right; rw [getD_list, hs]; rfl
  · rintro (e | e)
    · omega
    · rw [getD_list] at e
      have := inr 0 hpos
      rw [Nat.add_zero] at this
      exact this e
  · intro s' h1 h2 hh
    rcases hh.1 with e | e
    · omega
    · rw [getD_list] at e
      have := inr (s' - 1 - q) (by omega)
      rw [show q + (s' - 1 - q) = s' - 1 by omega] at this
      exact this e
  · rw [List.drop_take, hd]
    rw [show q + r.length + 1 - q = r.length + 1 by omega]
    rw [List.take_append]
    simp
    exact List.take_of_length_le (by omega)

theorem rows_le {t : Array Nat} : ∀ {q : Nat} {rs : List (List Nat)}, RowsAt t.toList q rs → q ≤ t.size
  | q, [], h => Nat.le_of_eq h
  | q, r :: rs, h => by have := (rows_hit h).2.1; omega

section
variable {prog : Program} {w : World} {A : Around}
theorem loop_lit {R : Result → Shared → Prop} {pa ca : Addr} {src x pad : Str} {fl : Int} {C : Array Value} {t1 t2 t tp : Tok} {l : Addr} (hC : (C.map reRawOf).map (·.toNat) = C2) (hx : x.length ≤ 100000) (hlp : pa ≠ l ∧ ca ≠ l) :
    ∀ (rs : List (List Nat)) (q d n c : Nat) (must : Bool) (items : Array Value) (ys : List Str) (s : Shared), RowsAt x.cps.toList q rs → d ≤ q → (must = true → d < q) → (∀ s', d ≤ s' → s' < q → ¬ Hit2 x.cps s' ∨ (must = true ∧ s' = d)) →
      PatAt s.heap pa ca src fl 0 C t1 t2 → s.heap.get? l = some (W.listOf items c) → StrsAre items.toList ys → items.size + 2 * rs.length ≤ 50000 → (cat ys).length + (x.length - d) + rs.length * pad.length ≤ 1000000 →
      (∀ t' h' tk', Heap.ExtBut l s.heap h' → R (.ok (.ret (.str ⟨(cat ys ++ (x.cps.toList.take q).drop d ++ padRows pad.cps.toList rs).toArray⟩ t'))) { s with heap := h', toks := tk' }) →
      codeAny (model prog w) A (.builtin "re.Pattern.sub.loop" ⟨[.ref pa, .str x t, .str pad tp, rawInt 0, rawInt 0, rawInt n, rawInt d, rawInt d, .bool must, .ref l, .bool false], []⟩) R s
  | [], q, d, n, c, must, items, ys, s, hr, hdq, hm, hno, H, hl, hi, hz, hsum, hR => by
    have hq : q = x.cps.size := hr
    have hxs : x.cps.size = x.length := rfl
    obtain ⟨k, hk, ho⟩ := find2_no (t := x.cps) (s := d) (must := must) (by omega) (fun s' a b => by
      by_cases e : s' < q
      · exact hno s' a e
      · left
        rintro ⟨_, h2⟩
        exact h2 (.inl (by omega)))
    have ho' : ((Sre.forSearch ((C.map reRawOf).map (·.toNat)) x.cps 0 d x.cps.size must).runFor k).outcome = some .failed := by rw [hC]; exact ho
    have hk' := big hk (by omega)
    refine loop_no H (.inl ⟨rfl, _, _, rfl⟩) hx (by omega) hl hi (by omega) (by omega) (k := k) hk' ho' fun t' h' tk' he => ?_
    have := hR t' h' tk' he
    rw [List.take_of_length_le (by rw [hq]; exact Nat.le_refl _)] at this
    simpa [padRows] using this
  | r :: rs, q, d, n, c, must, items, ys, s, hr, hdq, hm, hno, H, hl, hi, hz, hsum, hR => by
    obtain ⟨hit, hle, hgap, hcut⟩ := rows_hit hr
    have hxs : x.cps.size = x.length := rfl
    obtain ⟨k, hk, ho, hst, hha, _⟩ := find2_yes (t := x.cps) (s := d) (p := q) (must := must) hdq (by omega) hit hm (fun s' a b => hno s' a b)
    rw [← hC] at ho hst hha
    have hk' := big hk (by omega)
    refine loop_lit_step (p := q) H hx hdq (by omega) hl hi (by simp at hz; omega) (k := k) hk' ho hst hha fun items' ys' c' h' tk' hl' hi' hz' hcat hext => ?_
    refine loop_lit hC hx hlp rs (q + r.length + 1) q (n + 1) c' true items' ys' _ hr.2.2.2.2 (by omega) (fun _ => by omega) (fun s' a b => ?_) ⟨hext _ _ hlp.1 H.pat, hext _ _ hlp.2 H.codes⟩ hl' hi' (by simp at hz; omega) ?_ fun t' h'' tk'' he => ?_
    · by_cases e : s' = q
      · exact .inr ⟨rfl, e⟩
      · exact .inl (hgap s' (by omega) b)
    · rw [hcat]
      simp only [List.length_append, List.length_drop, List.length_take]
      simp only [List.length_cons, Nat.succ_mul] at hsum
      have h1 : pad.cps.toList.length = pad.length := rfl
      have h2 : x.cps.toList.length = x.length := rfl
      rw [h1, h2]
      omega
    · have := hR t' h'' tk'' (fun b o hb hg => he b o hb (hext b o hb hg))
      rw [hcat, hcut]
      rw [padRows_cons] at this
      simpa using this
end
end Mine

end

section
/- the part RD -/
set_option maxRecDepth 100000
namespace Mine
open PySem PySem.Builtin.Re PyProof.Rows

abbrev matchObj (pa ta : Addr) (x : Str) (t : Tok) : Obj := { cls := .type "re.Match", data := .fields #[.str x t, .ref pa, .int 0 0, .int (x.cps.size : Nat) 0, .int 1 0, .ref ta] }
abbrev spanObj (p b e : Nat) : Obj := { cls := .type "tuple", data := .seq #[.int p 0, .int e 0, .int b 0, .int e 0] }

section
variable {prog : Program} {w : World} {A : Around}
theorem wp_newMatch {M : Model} {E : Value → Shared → Prop} {s : Shared} {pa : Addr} {x : Str} {t : Tok} {m : Sre.M} {p b e : Nat} {Q : Value → Shared → Prop} (h1 : m.start = p) (h2 : m.handed = e) (h3 : m.marks = #[some b, some e]) (h4 : m.lastmark = 1) (h5 : m.lastindex = 1) (hbe : b ≤ e)
    (h : Q (.ref (s.heap.objs.size + 1)) { s with heap := (s.heap.push (spanObj p b e)).push (matchObj pa s.heap.objs.size x t) }) : wpAny M A (reNewMatch (.ref pa) (.str x t) 1 0 x.cps.size m) Q E s := by
  unfold reNewMatch
  rw [h1, h2, h3, h4, h5]
  rw [if_neg (by simp [List.range, List.range.loop]; omega)]
  refine wpAny_bind (wpAny_newTuple ?_ (by simp [sizeLine_eq]))
  unfold newFields
  refine wpAny_newObj_type ?_ (by simp [sizeOk, sizeLine_eq])
  rw [Heap.size_push]
  exact h

theorem drop_ext (x : Str) (b e : Nat) : (⟨x.cps.extract b e⟩ : Str).cps.toList = (x.cps.toList.take e).drop b := ext_toList _ _ _

/-- the one match of the id pattern, the call of the replacement, and the end -/
theorem loop_hit {R : Result → Shared → Prop} {s : Shared} {pa ca f : Addr} {src x g : Str} {fl : Int} {C : Array Value} {t1 t2 t : Tok} {n k k2 p b e : Nat} {c : Nat} {l : Addr} {C' : Array Nat} (hC : (C.map reRawOf).map (·.toNat) = C')
    (H : PatAt s.heap pa ca src fl 1 C t1 t2) (hlp : pa ≠ l ∧ ca ≠ l) (hx : x.length ≤ 100000) (hpb : p ≤ b) (hbe : b ≤ e) (hpe : p < e) (he : e ≤ x.length)
    (hl : s.heap.get? l = some (W.listOf #[] c))
    (hk : k ≤ 4 * 2 ^ 64) (hrun : ((Sre.forSearch C' x.cps 1 0 x.cps.size false).runFor k).outcome = some .matched)
    (hst : ((Sre.forSearch C' x.cps 1 0 x.cps.size false).runFor k).start = p) (hha : ((Sre.forSearch C' x.cps 1 0 x.cps.size false).runFor k).handed = e)
    (hmk : ((Sre.forSearch C' x.cps 1 0 x.cps.size false).runFor k).marks = #[some b, some e]) (hlm : ((Sre.forSearch C' x.cps 1 0 x.cps.size false).runFor k).lastmark = 1) (hli : ((Sre.forSearch C' x.cps 1 0 x.cps.size false).runFor k).lastindex = 1)
    (hk2 : k2 ≤ 4 * 2 ^ 64) (hrun2 : ((Sre.forSearch C' x.cps 1 e x.cps.size false).runFor k2).outcome = some .failed) (hg : g.length ≤ 100000)
    (Kp : Heap → Prop) (hK : Kp s.heap) (hKx : ∀ h h', Kp h → Heap.ExtBut l h h' → Kp h') (hKp : ∀ h, Kp h → PatAt h pa ca src fl 1 C t1 t2)
    (hcall : ∀ (h₁ : Heap) (tk₁ : Nat) (a ta : Addr) (ob : Obj) (Q E : Value → Shared → Prop), Kp h₁ → h₁.get? a = some (matchObj pa ta x t) → h₁.get? ta = some (spanObj p b e) → h₁.get? l = some ob → s.heap.objs.size ≤ ta → ta < a →
      (∀ t' h' tk', Kp h' → h'.get? l = some ob → Q (.str g t') { s with heap := h', toks := tk' }) → wpAny (model prog w) A.in1 (call (.ref f) [.ref a]) Q E { s with heap := h₁, toks := tk₁ })
    (hR : ∀ t' h' tk', Kp h' → R (.ok (.ret (.str ⟨(x.cps.toList.take p ++ g.cps.toList ++ x.cps.toList.drop e).toArray⟩ t'))) { s with heap := h', toks := tk' }) :
    codeAny (model prog w) A (.builtin "re.Pattern.sub.loop" ⟨[.ref pa, .str x t, .ref f, rawInt 1, rawInt 0, rawInt n, rawInt (0 : Nat), rawInt (0 : Nat), .bool false, .ref l, .bool false], []⟩) R s := by
  subst hC
  refine codeAny_builtin entry_re_loop ?_
  rw [Around.under_plainId plain_re_loop _]
  unfold Builtin.«re.Pattern.sub.loop» rawInt
  dsimp only
  refine wpAny_bind (wp_target H ?_)
  have hxs : x.cps.size = x.length := rfl
  rw [if_neg (by decide)]
  rw [if_neg (by simp)]
  refine wpAny_bind ?_
  unfold reNextFound
  refine wp_run_yes hk hrun ?_
  dsimp only [Int.toNat_natCast]
  rw [hst, hha]
  have fin : ∀ (s' : Shared) (items' : Array Value) (ys' : List Str) (c' : Nat), s'.heap.get? l = some (W.listOf items' c') → StrsAre items'.toList ys' → items'.size ≤ 1 → cat ys' = x.cps.toList.take p → Kp s'.heap → s.heap.objs.size ≤ s'.heap.objs.size → (∃ tk', s' = { s with heap := s'.heap, toks := tk' }) →
      wpAny (model prog w) A.in1 (reNewMatch (.ref pa) (.str x t) 1 0 x.cps.size ((Sre.forSearch ((C.map reRawOf).map (·.toNat)) x.cps 1 0 x.cps.size false).runFor k) >>= fun found => holding [found] (call (.ref f) [found]) >>= fun item => if (item != .none) = true then (updateSeq l (·.push item) >>= fun _ => again (.builtin "re.Pattern.sub.loop" ⟨[.ref pa, .str x t, .ref f, .int 1 0, .int 0 0, .int ((n : Int) + 1) 0, .int (e : Nat) 0, .int (e : Nat) 0, .bool (e == p), .ref l, .bool false], []⟩))
          else again (.builtin "re.Pattern.sub.loop" ⟨[.ref pa, .str x t, .ref f, .int 1 0, .int 0 0, .int ((n : Int) + 1) 0, .int (e : Nat) 0, .int (e : Nat) 0, .bool (e == p), .ref l, .bool false], []⟩))
        (fun fin s' => match fin with | .done f => R (.ok f) s' | .again c' => c'.quiet = true ∧ codeAny (model prog w) A c' R s') (fun e s' => R (.error e) s') s' := fun s' items' ys' c' hl' hi' hz' hcat hkp hsz hs' => by
    obtain ⟨tk', es⟩ := hs'
    have hlt : l < s'.heap.objs.size := Heap.lt_size hl'
    refine wpAny_bind (wp_newMatch hst hha hmk hlm hli hbe ?_)
    have k1 : ∀ b o, s'.heap.get? b = some o → ((s'.heap.push (spanObj p b e)).push (matchObj pa s'.heap.objs.size x t)).get? b = some o := fun b o q => Heap.get?_push_of_some _ (Heap.get?_push_of_some _ q)
    have k2' : ∀ q o, s'.heap.get? q = some o → ((s'.heap.push (spanObj p b e)).push (matchObj pa s'.heap.objs.size x t)).get? q = some o := fun q o h => Heap.get?_push_of_some _ (Heap.get?_push_of_some _ h)
    refine wpAny_bind (wpAny_holding ?_)
    have key := hcall ((s'.heap.push (spanObj p b e)).push (matchObj pa s'.heap.objs.size x t)) tk' (s'.heap.objs.size + 1) s'.heap.objs.size
    rw [es]
    refine key _ _ _ (hKx _ _ hkp fun q o _ h => k2' q o h) ?_ (Heap.get?_push_of_some _ (Heap.get?_push_size _ rfl)) (k2' _ _ hl') hsz (Nat.lt_succ_self _) fun t' h' tk2 hk' hl'' => ?_
    · have := Heap.get?_push_size (s'.heap.push (spanObj p b e)) (o := matchObj pa s'.heap.objs.size x t) rfl
      rw [Heap.size_push] at this
      exact this
    · rw [if_pos (by rfl)]
      refine wpAny_bind (wp_push hl'' (by omega) fun h2 hl2 hsb => ?_)
      refine wpAny_pure ⟨plainId_quiet plain_re_loop _, ?_⟩
      have ebp : (e == p) = false := by simp; omega
      rw [ebp]
      have hk2' : Kp h2 := hKx _ _ hk' hsb.extBut
      refine loop_no (n := n + 1) (hKp _ hk2') (.inr rfl) hx he hl2 (strsAre_push hi') (by rw [Array.size_push]; omega) ?_ hk2 hrun2 fun t3 h3 tk3 he3 => ?_
      · rw [cat_append, cat_one, hcat, List.length_append, List.length_take]
        have : g.cps.toList.length = g.length := rfl
        have : x.cps.toList.length = x.length := rfl
        omega
      · rw [cat_append, cat_one, hcat]
        exact hR t3 h3 tk3 (hKx _ _ hk2' he3)
  by_cases hlt : 0 < p
  · rw [if_pos (by exact hlt)]
    refine wpAny_bind (wp_slice (by rw [hxs]; omega) ?_)
    refine wpAny_bind (wp_push hl (by simp) fun h' hl' hsb => ?_)
    rw [if_neg (by decide)]
    exact fin _ _ [⟨x.cps.extract 0 p⟩] _ hl' (.cons _ _ .nil) (by simp) (by rw [cat_one]; exact ext_toList _ _ _) (hKx _ _ hK hsb.extBut) (by rw [hsb.1]; exact Nat.le_refl _) ⟨_, rfl⟩
  · rw [if_neg (by exact hlt)]
    rw [if_neg (by decide)]
    have ep : p = 0 := by omega
    exact fin _ _ [] _ hl .nil (by simp) (by rw [ep]; rfl) hK (Nat.le_refl _) ⟨s.toks, rfl⟩
end
end Mine

end

section
/- the part RE -/
set_option maxRecDepth 100000
namespace Mine
open PySem PySem.Builtin.Re PyProof.Rows
section
variable {prog : Program} {w : World} {A : Around}
theorem named_sub (a b : Value) (id : String) : reNamed id "sub" ["repl", "string", "count"] 2 [a, b] [] = pure [some a, some b, none] := by rfl
theorem fn_call : typeLookup (.type "function") "__call__" = pure (some (.builtin "function.__call__")) := by rw [typeLookup_type, builtinLookup_eq_fast]; kernel_rfl
theorem str_call : typeLookup (.type "str") "__call__" = pure none := by rw [typeLookup_type, builtinLookup_eq_fast]; kernel_rfl
theorem str_ba : isSubtype (.type "str") (.type "bytearray") = pure false := by rw [isSubtype_type]; kernel_rfl

theorem patTy {s : Shared} {pa ca : Addr} {src : Str} {fl : Int} {gr : Nat} {C : Array Value} {t1 t2 : Tok} (H : PatAt s.heap pa ca src fl gr C t1 t2) : s.TypeIs (.ref pa) "re.Pattern" := ⟨_, H.pat, rfl⟩

theorem sub_fn {R : Result → Shared → Prop} {s : Shared} {pa ca f : Addr} {src x : Str} {fl : Int} {gr : Nat} {C : Array Value} {t1 t2 t : Tok} (H : PatAt s.heap pa ca src fl gr C t1 t2) (hf : s.TypeIs (.ref f) "function")
    (h : codeAny (model prog w) A (.builtin "re.Pattern.sub.loop" ⟨[.ref pa, .str x t, .ref f, rawInt 1, rawInt 0, rawInt (0 : Nat), rawInt (0 : Nat), rawInt (0 : Nat), .bool false, .ref s.heap.objs.size, .bool false], []⟩) R { s with heap := s.heap.push (W.listOf #[] 0) }) :
    codeAny (model prog w) A (.call (.builtin "re.Pattern.sub") ⟨[.ref pa, .ref f, .str x t], []⟩) R s := by
  refine codeAny_call_builtin plain_re_sub entry_re_sub (slot_re_sub.check _ _ _ _ _ _ _ _ (patTy H) (args_re_sub _ _ _) ?_)
  unfold Builtin.«re.Pattern.sub» reSubstitute
  dsimp only
  rw [named_sub]
  refine wpAny_bind (wpAny_pure ?_)
  refine wpAny_bind (wpAny_pure ?_)
  refine wpAny_bind (wpAny_specialOf hf fn_call ?_)
  rw [if_pos (by rfl)]
  refine wpAny_bind (wpAny_pure ?_)
  rw [if_pos (by rfl)]
  refine wpAny_bind (wpAny_pure ?_)
  refine wpAny_bind (wpAny_holding (wp_target H ?_))
  rw [if_pos (by rfl)]
  refine wpAny_bind ?_
  unfold reNotHeld
  refine wpAny_bind (wpAny_isInstance (T := "str") (typeIs_str _ _ _) str_ba ?_)
  refine wpAny_pure ?_
  refine wpAny_bind (wpAny_newList ?_ (by simp))
  exact wpAny_pure ⟨plainId_quiet plain_re_loop _, h⟩

theorem sub_lit {R : Result → Shared → Prop} {s : Shared} {pa ca : Addr} {src x pad : Str} {fl : Int} {gr : Nat} {C : Array Value} {t1 t2 t tp : Tok} (H : PatAt s.heap pa ca src fl gr C t1 t2) (hp : pad.cps.contains 92 = false)
    (h : codeAny (model prog w) A (.builtin "re.Pattern.sub.loop" ⟨[.ref pa, .str x t, .str pad tp, rawInt 0, rawInt 0, rawInt (0 : Nat), rawInt (0 : Nat), rawInt (0 : Nat), .bool false, .ref s.heap.objs.size, .bool false], []⟩) R { s with heap := s.heap.push (W.listOf #[] 0) }) :
    codeAny (model prog w) A (.call (.builtin "re.Pattern.sub") ⟨[.ref pa, .str pad tp, .str x t], []⟩) R s := by
  refine codeAny_call_builtin plain_re_sub entry_re_sub (slot_re_sub.check _ _ _ _ _ _ _ _ (patTy H) (args_re_sub _ _ _) ?_)
  unfold Builtin.«re.Pattern.sub» reSubstitute
  dsimp only
  rw [named_sub]
  refine wpAny_bind (wpAny_pure ?_)
  refine wpAny_bind (wpAny_pure ?_)
  refine wpAny_bind (wpAny_specialOf (T := "str") (typeIs_str _ _ _) str_call ?_)
  rw [if_neg (by decide)]
  refine wpAny_bind (wpAny_pure ?_)
  dsimp only
  refine wpAny_bind (wpAny_pure ?_)
  rw [if_neg (by decide)]
  rw [if_pos (by rw [hp]; rfl)]
  refine wpAny_bind (wpAny_pure ?_)
  refine wpAny_bind (wpAny_holding (wp_target H ?_))
  rw [if_neg (show ¬ ((0 : Int) == 1) = true by decide)]
  refine wpAny_bind (wpAny_newList ?_ (by simp))
  exact wpAny_pure ⟨plainId_quiet plain_re_loop _, h⟩

theorem PatAt.keeps {h h' : Heap} {pa ca : Addr} {src : Str} {fl : Int} {gr : Nat} {C : Array Value} {t1 t2 : Tok} (H : PatAt h pa ca src fl gr C t1 t2) (k : ∀ b o, h.get? b = some o → h'.get? b = some o) : PatAt h' pa ca src fl gr C t1 t2 :=
  ⟨k _ _ H.pat, k _ _ H.codes⟩

/-- the whole of _indent's call of sub -/
theorem sub_rows {Q E : Value → Shared → Prop} {s : Shared} {pa ca : Addr} {src x pad : Str} {fl : Int} {C : Array Value} {t1 t2 t tp : Tok} {rs : List (List Nat)} (H : PatAt s.heap pa ca src fl 0 C t1 t2) (hC : (C.map reRawOf).map (·.toNat) = C2) (hp : pad.cps.contains 92 = false)
    (hx : x.length ≤ 100000) (hr : RowsAt x.cps.toList 0 rs) (hn : 2 * rs.length ≤ 50000) (hs : x.length + rs.length * pad.length ≤ 1000000)
    (hQ : ∀ t' h' tk', (∀ b o, s.heap.get? b = some o → h'.get? b = some o) → Q (.str ⟨(padRows pad.cps.toList rs).toArray⟩ t') { s with heap := h', toks := tk' }) :
    wpAny (model prog w) A (call (.builtin "re.Pattern.sub") [.ref pa, .str pad tp, .str x t]) Q E s := by
  refine wpAny_call (sub_lit H hp ?_)
  have lt1 : pa < s.heap.objs.size := Heap.lt_size H.pat
  have lt2 : ca < s.heap.objs.size := Heap.lt_size H.codes
  have k1 : ∀ b o, s.heap.get? b = some o → (s.heap.push (W.listOf #[] 0)).get? b = some o := fun b o q => Heap.get?_push_of_some _ q
  refine loop_lit (pa := pa) (ca := ca) (l := s.heap.objs.size) hC hx ⟨Nat.ne_of_lt lt1, Nat.ne_of_lt lt2⟩ rs 0 0 0 0 false #[] [] _ hr (Nat.le_refl _) (fun q => nomatch q) (fun s' a b => absurd b (Nat.not_lt_zero _)) (H.keeps k1) (Heap.get?_push_size _ rfl) .nil (by simpa using hn) (by simpa [cat] using hs) fun t' h' tk' he => ?_
  have := hQ t' h' tk' fun b o q => he b o (Nat.ne_of_lt (Heap.lt_size q)) (k1 b o q)
  simpa [cat] using this

/-- stripid's call of sub where the pattern matches nowhere -/
theorem sub_none {Q E : Value → Shared → Prop} {s : Shared} {pa ca f : Addr} {src x : Str} {fl : Int} {C : Array Value} {t1 t2 t : Tok} (H : PatAt s.heap pa ca src fl 1 C t1 t2) (hC : (C.map reRawOf).map (·.toNat) = C1) (hf : s.TypeIs (.ref f) "function")
    (hx : x.length ≤ 100000) (hno : ∀ i, ¬ Hit x.cps i)
    (hQ : ∀ t' h' tk', (∀ b o, s.heap.get? b = some o → h'.get? b = some o) → Q (.str x t') { s with heap := h', toks := tk' }) :
    wpAny (model prog w) A (call (.builtin "re.Pattern.sub") [.ref pa, .ref f, .str x t]) Q E s := by
  refine wpAny_call (sub_fn H hf ?_)
  have k1 : ∀ b o, s.heap.get? b = some o → (s.heap.push (W.listOf #[] 0)).get? b = some o := fun b o q => Heap.get?_push_of_some _ q
  obtain ⟨k, hk, ho⟩ := find_no (t := x.cps) (s := 0) fun s' _ => hno s'
  rw [← hC] at ho
  have hxs : x.cps.size = x.length := rfl
  have hB : (x.cps.size + 2) * stepB x.cps ≤ 1000000000000 := by
    have h1 : x.cps.size + 2 ≤ 100002 := by omega
    have h2 : stepB x.cps ≤ 5000000 := by show 16 * (3 * x.cps.size + 3) + 40 ≤ _; omega
    exact Nat.le_trans (Nat.mul_le_mul h1 h2) (by decide)
  refine loop_no (n := 0) (d := 0) (l := s.heap.objs.size) (H.keeps k1) (.inr rfl) hx (Nat.zero_le _) (Heap.get?_push_size _ rfl) .nil (by simp) (by simp [cat]) (k := k) (big hk (by omega)) ho fun t' h' tk' he => ?_
  have := hQ t' h' tk' fun b o q => he b o (Nat.ne_of_lt (Heap.lt_size q)) (k1 b o q)
  simpa [cat] using this

theorem no_late {x : Array Nat} {e : Nat} (h : x.size ≤ e + 1) : ∀ s', e ≤ s' → ¬ Hit x s' := fun s' a ⟨n, e', _, _, _, _, _, _, h6, _, h1, _, _, hend⟩ => by
  rcases hend with q | q <;> omega

/-- stripid's call of sub where it matches once -/
theorem sub_once {Q E : Value → Shared → Prop} {s : Shared} {pa ca f : Addr} {src x g : Str} {fl : Int} {C : Array Value} {t1 t2 t : Tok} {p n e : Nat} (H : PatAt s.heap pa ca src fl 1 C t1 t2) (hC : (C.map reRawOf).map (·.toNat) = C1) (hf : s.TypeIs (.ref f) "function")
    (hx : x.length ≤ 100000) (hh : HitWith x.cps p n e) (hno : ∀ i, i < p → ¬ Hit x.cps i) (hg : g.length ≤ 100000)
    (Kp : Heap → Prop) (hK : Kp s.heap) (hKx : ∀ h h', Kp h → Heap.ExtBut s.heap.objs.size h h' → Kp h') (hKp : ∀ h, Kp h → PatAt h pa ca src fl 1 C t1 t2)
    (hcall : ∀ (h₁ : Heap) (tk₁ : Nat) (a ta : Addr) (ob : Obj) (Q E : Value → Shared → Prop), Kp h₁ → h₁.get? a = some (matchObj pa ta x t) → h₁.get? ta = some (spanObj p (p + 6 + n) (p + 6 + n + e)) → h₁.get? s.heap.objs.size = some ob → s.heap.objs.size < ta → ta < a →
      (∀ t' h' tk', Kp h' → h'.get? s.heap.objs.size = some ob → Q (.str g t') { s with heap := h', toks := tk' }) → wpAny (model prog w) A.in1 (call (.ref f) [.ref a]) Q E { s with heap := h₁, toks := tk₁ })
    (hQ : ∀ t' h' tk', Kp h' → Q (.str ⟨(x.cps.toList.take p ++ g.cps.toList ++ x.cps.toList.drop (p + 6 + n + e)).toArray⟩ t') { s with heap := h', toks := tk' }) :
    wpAny (model prog w) A (call (.builtin "re.Pattern.sub") [.ref pa, .ref f, .str x t]) Q E s := by
  refine wpAny_call (sub_fn H hf ?_)
  have k1 : ∀ b o, s.heap.get? b = some o → (s.heap.push (W.listOf #[] 0)).get? b = some o := fun b o q => Heap.get?_push_of_some _ q
  have lt1 : pa < s.heap.objs.size := Heap.lt_size H.pat
  have lt2 : ca < s.heap.objs.size := Heap.lt_size H.codes
  have hxs : x.cps.size = x.length := rfl
  have hend : p + 6 + n + e ≤ x.cps.size ∧ x.cps.size ≤ p + 6 + n + e + 1 ∧ 1 ≤ e := by
    obtain ⟨_, _, _, _, _, _, _, _, h1, _, _, hend⟩ := hh
    rcases hend with q | q <;> omega
  obtain ⟨k, hk, ho, hst, hha, hmk, hlm, hli⟩ := find_yes (t := x.cps) (s := 0) (by omega) hh (Nat.zero_le _) fun s' _ b => hno s' b
  obtain ⟨k2, hk2, ho2⟩ := find_no (t := x.cps) (s := p + 6 + n + e) (no_late hend.2.1)
  have hB : (x.cps.size + 2) * stepB x.cps ≤ 1000000000000 := by
    have h1 : x.cps.size + 2 ≤ 100002 := by omega
    have h2 : stepB x.cps ≤ 5000000 := by show 16 * (3 * x.cps.size + 3) + 40 ≤ _; omega
    exact Nat.le_trans (Nat.mul_le_mul h1 h2) (by decide)
  refine loop_hit (n := 0) (l := s.heap.objs.size) hC (H.keeps k1) ⟨Nat.ne_of_lt lt1, Nat.ne_of_lt lt2⟩ hx (p := p) (b := p + 6 + n) (e := p + 6 + n + e) (by omega) (by omega) (by omega) (by omega) (Heap.get?_push_size _ rfl) (k := k) (big hk (by omega)) ho hst hha hmk hlm hli (k2 := k2) (big hk2 (by omega)) ho2 hg Kp (hKx _ _ hK fun b o _ q => k1 b o q) hKx hKp ?_ fun t' h' tk' he => hQ t' h' tk' he
  intro h₁ tk₁ a ta ob Q' E' hkp ha hta hob hsz hlt hQ'
  exact hcall h₁ tk₁ a ta ob Q' E' hkp ha hta hob (by rw [Heap.size_push] at hsz; omega) hlt hQ'
end

section
variable {prog : Program} {w : World} {A : Around}
/-- the match's group 1 -/
theorem group_one {Q E : Value → Shared → Prop} {s : Shared} {pa ta a : Addr} {x : Str} {t tk : Tok} {p b e : Nat} (ha : s.heap.get? a = some (matchObj pa ta x t)) (hta : s.heap.get? ta = some (spanObj p b e)) (hx : x.length ≤ 100000)
    (hQ : Q (.str ⟨x.cps.extract b e⟩ s.toks) { s with toks := s.toks + 1 }) : wpAny (model prog w) A (call (.builtin "re.Match.group") [.ref a, .int 1 tk]) Q E s := by
  have hT : s.TypeIs (.ref a) "re.Match" := ⟨_, ha, rfl⟩
  refine wpAny_call (codeAny_call_builtin plain_re_group entry_re_group (slot_re_group.check _ _ _ _ _ _ _ _ hT (args_re_group _ _) ?_))
  unfold Builtin.«re.Match.group»
  dsimp only
  refine wpAny_bind (wpAny_pure (a := ()) ?_)
  refine wpAny_bind ?_
  unfold reFound
  refine wpAny_bind (wpAny_fieldsOf ha rfl ?_)
  unfold reRawItems
  refine wpAny_bind (wpAny_bind (wpAny_seqItems hta rfl (wpAny_pure ?_)))
  refine wpAny_pure ?_
  have hsp : Array.map reRawOf ((some #[Value.int (p : Nat) 0, Value.int (e : Nat) 0, Value.int (b : Nat) 0, Value.int (e : Nat) 0]).getD #[]) = #[(p : Int), (e : Int), (b : Int), (e : Int)] := by simp [reRawOf]
  rw [hsp]
  have h1 : reGroupNumber { fields := #[Value.str x t, Value.ref pa, Value.int 0 0, Value.int (x.cps.size : Nat) 0, Value.int 1 0, Value.ref ta], spans := #[(p : Int), (e : Int), (b : Int), (e : Int)] } (.int 1 tk) = pure 1 := rfl
  refine wpAny_bind ?_
  rw [h1]
  refine wpAny_pure ?_
  refine wpAny_bind ?_
  unfold reGroupText
  have hneg : ¬ (decide ((b : Int) < 0) || decide ((e : Int) < 0)) = true := by simp
  show wpAny _ _ (if (decide ((b : Int) < 0) || decide ((e : Int) < 0)) = true then _ else _) _ _ _
  rw [if_neg hneg]
  refine wpAny_bind (wpAny_bind (wpAny_pure (wpAny_pure ?_)))
  refine wp_slice (by show x.length ≤ _; omega) ?_
  exact wpAny_pure hQ
end
end Mine

end

section
/- the part PA -/
open PySem PySem.Sre
/- pure: where the id pattern hits a text that ends in figures and closing signs -/
namespace Mine
theorem hex_a {c : Nat} (h : isL 120 c = true) : hexc c = false := by
  unfold isL at h
  have e : lowerUni c = 120 := by simpa using h
  unfold hexc
  rw [e]; decide

/-- the shape of a text at its end: a signs, then h figures, c closing signs, at most one line end -/
structure Shape (t : Array Nat) (a h c z : Nat) : Prop where
  size : t.size = a + h + c + z
  apos : 1 ≤ a
  cpos : 1 ≤ c
  lastx : hexc (t.getD (a - 1) 0) = false
  lastg : h = 0 → t.getD (a - 1) 0 ≠ 62
  hex : ∀ j, j < h → hexc (t.getD (a + j) 0) = true
  gts : ∀ j, j < c → t.getD (a + h + j) 0 = 62
  nl : z = 0 ∨ (z = 1 ∧ t.getD (a + h + c) 0 = 10)

theorem hit_shape {t : Array Nat} {a h c z s n e : Nat} (S : Shape t a h c z) (H : HitWith t s n e) : n = h ∧ e = c ∧ s + 6 = a := by
  obtain ⟨b0, b1, b2, b3, b4, b5, n6, n16, e1, hx, gt, ae⟩ := H
  have hg := gt (e - 1) (by omega)
  have hsz := S.size
  have ha := S.apos
  have hc := S.cpos
  -- the end of the signs
  have hw : s + 6 + n + e = a + h + c := by
    rcases S.nl with z0 | ⟨z1, hnl⟩
    · rcases ae with q | ⟨q, q2⟩
      · omega
      · exfalso
        have := S.gts (c - 1) (by omega)
        have e2 : s + 6 + n + e = a + h + (c - 1) := by omega
        rw [← e2, q2] at this
        omega
    · rcases ae with q | ⟨q, q2⟩
      · exfalso
        have e2 : s + 6 + n + (e - 1) = a + h + c := by omega
        rw [e2, hnl] at hg
        omega
      · omega
  have hq : s + 6 + n = a + h := by
    rcases Nat.lt_trichotomy (s + 6 + n) (a + h) with q | q | q
    · exfalso
      have g1 := gt (a + h - 1 - (s + 6 + n)) (by omega)
      rw [show s + 6 + n + (a + h - 1 - (s + 6 + n)) = a + h - 1 by omega] at g1
      by_cases hh : h = 0
      · exact S.lastg hh (by rw [← g1]; congr 1; omega)
      · have := S.hex (h - 1) (by omega)
        rw [show a + (h - 1) = a + h - 1 by omega, g1, hexc_gt] at this
        cases this
    · exact q
    · exfalso
      have g1 := S.gts (s + 6 + n - 1 - (a + h)) (by omega)
      have g2 := hx (n - 1) (by omega)
      rw [show a + h + (s + 6 + n - 1 - (a + h)) = s + 6 + (n - 1) by omega] at g1
      rw [g1, hexc_gt] at g2
      cases g2
  have hs : s + 6 = a := by
    rcases Nat.lt_trichotomy (s + 6) a with q | q | q
    · exfalso
      have g2 := hx (a - 1 - (s + 6)) (by omega)
      rw [show s + 6 + (a - 1 - (s + 6)) = a - 1 by omega, S.lastx] at g2
      cases g2
    · exact q
    · exfalso
      have g2 := S.hex (s + 5 - a) (by omega)
      rw [show a + (s + 5 - a) = s + 5 by omega, hex_a b5] at g2
      cases g2
  omega

theorem getD_toArray (l : List Nat) (i : Nat) : l.toArray.getD i 0 = l.getD i 0 := by
  simp [Array.getD, List.getD]
  split <;> simp_all

/-- no match ahead of two line ends -/
theorem no_two {l : List Nat} (i : Nat) : ¬ Hit (l ++ [10, 10]).toArray i := by
  rintro ⟨n, e, b0, b1, b2, b3, b4, b5, n6, n16, e1, hx, gt, ae⟩
  have hg := gt (e - 1) (by omega)
  have hsz : (l ++ [10, 10]).toArray.size = l.length + 2 := by simp
  unfold AtEnd at ae
  rw [hsz] at ae
  rw [getD_toArray] at hg
  have q : i + 6 + n + (e - 1) = l.length ∨ i + 6 + n + (e - 1) = l.length + 1 := by rcases ae with q | q <;> omega
  rcases q with q | q <;> rw [q] at hg <;> simp [List.getD] at hg

/-- the shape of a list -/
theorem shape_list {A H : List Nat} {c : Nat} {x : Nat} {z : List Nat} (hx : hexc x = false) (hg : H = [] → x ≠ 62) (hh : ∀ y ∈ H, hexc y = true) (hc : 1 ≤ c) (hz : z = [] ∨ z = [10]) :
    Shape ((A ++ [x]) ++ H ++ List.replicate c 62 ++ z).toArray (A.length + 1) H.length c z.length := by
  have e0 : ∀ i, ((A ++ [x]) ++ H ++ List.replicate c 62 ++ z).toArray.getD i 0 = ((A ++ [x]) ++ H ++ List.replicate c 62 ++ z).getD i 0 := fun i => getD_toArray _ i
  have lastx : ((A ++ [x]) ++ H ++ List.replicate c 62 ++ z).getD (A.length + 1 - 1) 0 = x := by simp [List.getD]
  refine ⟨by simp; omega, by omega, hc, ?_, ?_, ?_, ?_, ?_⟩
  · rw [e0, lastx]; exact hx
  · intro h; rw [e0, lastx]; exact hg (List.length_eq_zero_iff.mp h)
  · intro j hj
    rw [e0]
    have : ((A ++ [x]) ++ H ++ List.replicate c 62 ++ z).getD (A.length + 1 + j) 0 = H[j] := by
      rw [List.append_assoc, List.append_assoc]
      simp only [List.getD]
      rw [List.getElem?_append_right (by simp), List.getElem?_append_left (by simpa using hj)]
      simp [hj]
    rw [this]
    exact hh _ (List.getElem_mem hj)
  · intro j hj
    rw [e0]
    have hl : (A ++ [x] ++ H).length = A.length + 1 + H.length := by simp; omega
    rw [List.append_assoc]
    simp only [List.getD]
    rw [List.getElem?_append_right (by omega), List.getElem?_append_left (by rw [hl, List.length_replicate]; omega)]
    rw [List.getElem?_replicate]
    rw [if_pos (by omega)]; rfl
  · rcases hz with rfl | rfl
    · exact .inl rfl
    · refine .inr ⟨rfl, ?_⟩
      rw [e0]
      have hl : (A ++ [x] ++ H ++ List.replicate c 62).length = A.length + 1 + H.length + c := by simp; omega
      simp only [List.getD]
      rw [List.getElem?_append_right (by omega)]
      rw [hl, Nat.sub_self]
      rfl
end Mine

end

section
/- the part PB -/
open PySem PySem.Sre
/- pure: the nest told forwards; lists of signs -/
namespace Mine
def cls (I : Nat → List Nat) (st : List Nat) : List Nat := (st.map fun s => I s ++ [62]).flatten
theorem cls_append (I : Nat → List Nat) (a b : List Nat) : cls I (a ++ b) = cls I a ++ cls I b := by simp [cls]
theorem cls_cons (I : Nat → List Nat) (s : Nat) (b : List Nat) : cls I (s :: b) = I s ++ [62] ++ cls I b := by simp [cls]
theorem cls_nil (I : Nat → List Nat) : cls I [] = [] := rfl
theorem cls_congr {I I' : Nat → List Nat} {st : List Nat} (h : ∀ s ∈ st, I s = I' s) : cls I st = cls I' st := by
  unfold cls
  congr 1
  exact List.map_congr_left fun s hs => by rw [h s hs]
theorem cls_bare {I : Nat → List Nat} : ∀ {st : List Nat}, (∀ s ∈ st, I s = []) → cls I st = List.replicate st.length 62
  | [], _ => rfl
  | s :: st, h => by
    rw [cls_cons, h s (.head _), cls_bare fun x hx => h x (.tail _ hx), List.length_cons, List.replicate_succ]; rfl

def stk (d : Nat → Nat) : Nat → List Nat
  | 0 => [0]
  | k + 1 => (k + 1) :: (stk d k).drop (d k + 1 - d (k + 1))
def opn (d : Nat → Nat) (N I : Nat → List Nat) : Nat → List Nat
  | 0 => [60] ++ N 0
  | k + 1 => opn d N I k ++ cls I ((stk d k).take (d k + 1 - d (k + 1))) ++ [60] ++ N (k + 1)
def DOk (d : Nat → Nat) (m : Nat) : Prop := d 0 = 0 ∧ ∀ k, k + 1 < m → 1 ≤ d (k + 1) ∧ d (k + 1) ≤ d k + 1
theorem DOk.le {d : Nat → Nat} {m : Nat} (h : DOk d m) : ∀ k, k < m → d k ≤ k
  | 0, _ => by rw [h.1]; exact Nat.le_refl _
  | k + 1, hk => by have := h.le k (by omega); have := h.2 k hk; omega
theorem stk_len {d : Nat → Nat} {m : Nat} (h : DOk d m) : ∀ k, k < m → (stk d k).length = d k + 1
  | 0, _ => by rw [h.1]; rfl
  | k + 1, hk => by
    have h1 := stk_len h k (by omega)
    have h2 := h.2 k hk
    show ((stk d k).drop _).length + 1 = _
    rw [List.length_drop, h1]; omega
theorem stk_le {d : Nat → Nat} : ∀ k, ∀ s ∈ stk d k, s ≤ k
  | 0, s, hs => by simp [stk] at hs; omega
  | k + 1, s, hs => by
    rcases List.mem_cons.mp hs with h | h
    · omega
    · have := stk_le k s (List.mem_of_mem_drop h); omega
theorem stk_desc {d : Nat → Nat} : ∀ k, (stk d k).Pairwise (· > ·)
  | 0 => by simp [stk]
  | k + 1 => by
    refine List.Pairwise.cons (fun s hs => ?_) ((stk_desc k).sublist (List.drop_sublist _ _))
    have := stk_le k s (List.mem_of_mem_drop hs); omega
theorem stk_last {d : Nat → Nat} {m : Nat} (h : DOk d m) : ∀ k, k < m → ∀ a s b, stk d k = a ++ s :: b → d s = b.length ∧ ∀ j, j ≤ k → d j = b.length → j ≤ s
  | 0, _, a, s, b, e => by
    cases a with
    | nil => injection e with e1 e2; subst e1; subst e2; exact ⟨h.1, fun j hj _ => hj⟩
    | cons x a =>
      have := congrArg List.length e
      simp [stk] at this
  | k + 1, hk, a, s, b, e => by
    have hl := stk_len h (k + 1) hk
    cases a with
    | nil =>
      rw [e] at hl
      injection e with e1 e2
      subst e1
      exact ⟨by simp at hl; omega, fun j hj _ => hj⟩
    | cons x a =>
      rw [e] at hl
      injection e with e1 e2
      have e3 : stk d k = ((stk d k).take (d k + 1 - d (k + 1)) ++ a) ++ s :: b := by
        have e4 : a ++ s :: b = (stk d k).drop (d k + 1 - d (k + 1)) := e2.symm
        rw [List.append_assoc, e4, List.take_append_drop]
      obtain ⟨h1, h2⟩ := stk_last h k (by omega) _ s b e3
      refine ⟨h1, fun j hj hd => ?_⟩
      by_cases hjk : j = k + 1
      · subst hjk; simp at hl; omega
      · exact h2 j (by omega) hd

theorem opn_congr {d : Nat → Nat} {m : Nat} {N I I' : Nat → List Nat} (h : DOk d m) : ∀ k, k < m → (∀ s, s ≤ k → s ∉ stk d k → I s = I' s) → opn d N I k = opn d N I' k
  | 0, _, _ => rfl
  | k + 1, hk, hs => by
    have hd := stk_desc (d := d) k
    have hsub : ∀ s ∈ stk d (k + 1), s = k + 1 ∨ s ∈ (stk d k).drop (d k + 1 - d (k + 1)) := fun s hs => List.mem_cons.mp hs
    show opn d N I k ++ cls I _ ++ [60] ++ N (k + 1) = opn d N I' k ++ cls I' _ ++ [60] ++ N (k + 1)
    rw [opn_congr h k (by omega) (I' := I') fun s hsk hsn => hs s (by omega) fun hm => by
      rcases hsub s hm with q | q
      · omega
      · exact hsn (List.mem_of_mem_drop q)]
    rw [cls_congr (I' := I') fun s hst => hs s (by have := stk_le k s (List.mem_of_mem_take hst); omega) fun hm => by
      rcases hsub s hm with q | q
      · have := stk_le k s (List.mem_of_mem_take hst); omega
      · rw [← List.take_append_drop (d k + 1 - d (k + 1)) (stk d k), List.pairwise_append] at hd
        have := hd.2.2 s hst s q
        omega]

def mgt (I T : Nat → List Nat) : List Nat → List Nat
  | [] => T 0
  | s :: st => T (st.length + 1) ++ I s ++ [62] ++ mgt I T st
def StepT (T T' : Nat → List Nat) (D : Nat) (nm id : List Nat) : Prop := T' (D + 1) = [] ∧ T' D = [60] ++ nm ++ T (D + 1) ++ id ++ [62] ++ T D ∧ ∀ j, j ≠ D → j ≠ D + 1 → T' j = T j
theorem mgt_low {I T T' : Nat → List Nat} : ∀ b : List Nat, (∀ j, j ≤ b.length → T' j = T j) → mgt I T' b = mgt I T b
  | [], h => h 0 (Nat.le_refl _)
  | s :: b, h => by
    show T' (b.length + 1) ++ I s ++ [62] ++ mgt I T' b = T (b.length + 1) ++ I s ++ [62] ++ mgt I T b
    rw [h (b.length + 1) (Nat.le_refl _), mgt_low b fun j hj => h j (Nat.le_succ_of_le hj)]
theorem mgt_step {I T T' : Nat → List Nat} {b : List Nat} {s : Nat} {nm : List Nat} (h : StepT T T' b.length nm (I s)) : mgt I T' b = [60] ++ nm ++ mgt I T (s :: b) := by
  obtain ⟨h1, h2, h3⟩ := h
  cases b with
  | nil =>
    show T' 0 = [60] ++ nm ++ (T 1 ++ I s ++ [62] ++ T 0)
    have h2 : T' 0 = _ := h2
    rw [h2]
    simp
  | cons c b =>
    show T' (b.length + 1) ++ I c ++ [62] ++ mgt I T' b = [60] ++ nm ++ (T (b.length + 1 + 1) ++ I s ++ [62] ++ (T (b.length + 1) ++ I c ++ [62] ++ mgt I T b))
    rw [mgt_low (T := T) b fun j hj => h3 j (by simp; omega) (by simp; omega)]
    have h2 : T' (b.length + 1) = [60] ++ nm ++ T (b.length + 1 + 1) ++ I s ++ [62] ++ T (b.length + 1) := h2
    rw [h2]
    simp
theorem mgt_high {I T : Nat → List Nat} (b : List Nat) : ∀ a : List Nat, (∀ j, b.length < j → T j = []) → mgt I T (a ++ b) = cls I a ++ mgt I T b
  | [], _ => rfl
  | s :: a, h => by
    show T ((a ++ b).length + 1) ++ I s ++ [62] ++ mgt I T (a ++ b) = _
    rw [h _ (by simp; omega), mgt_high b a h, cls_cons]
    simp
theorem mgt_bare {I T : Nat → List Nat} (h : ∀ j, T j = []) : ∀ a : List Nat, mgt I T a = cls I a
  | [] => h 0
  | s :: a => by
    show T _ ++ I s ++ [62] ++ mgt I T a = _
    rw [h, mgt_bare h a, cls_cons]; simp

section
variable {d : Nat → Nat} {m : Nat} {N I : Nat → List Nat} {T : Nat → Nat → List Nat}
theorem told_high (h : DOk d m) (h0 : ∀ j, T m j = []) (hs : ∀ k, k < m → StepT (T (k + 1)) (T k) (d k) (N k) (I k)) : ∀ n k, k + n + 1 = m → ∀ j, d k < j → T k j = []
  | 0, k, e, j, hj => by
    obtain ⟨h1, h2, h3⟩ := hs k (by omega)
    by_cases q : j = d k + 1
    · rw [q]; exact h1
    · rw [h3 j (by omega) q, show k + 1 = m by omega]; exact h0 j
  | n + 1, k, e, j, hj => by
    obtain ⟨h1, h2, h3⟩ := hs k (by omega)
    by_cases q : j = d k + 1
    · rw [q]; exact h1
    · rw [h3 j (by omega) q]
      have := h.2 k (by omega)
      exact told_high h h0 hs n (k + 1) (by omega) j (by omega)
theorem told_full (h : DOk d m) (h0 : ∀ j, T m j = []) (hs : ∀ k, k < m → StepT (T (k + 1)) (T k) (d k) (N k) (I k)) : ∀ k, k < m → T 0 0 = opn d N I k ++ mgt I (T (k + 1)) (stk d k)
  | 0, hk => by
    have h1 := hs 0 hk
    rw [h.1] at h1
    have := mgt_step (b := []) (s := 0) h1
    exact this
  | k + 1, hk => by
    have h1 := hs (k + 1) hk
    have hl := stk_len h k (by omega)
    have hb : ((stk d k).drop (d k + 1 - d (k + 1))).length = d (k + 1) := by
      have := h.2 k hk
      rw [List.length_drop, hl]; omega
    rw [told_full h h0 hs k (by omega)]
    rw [← List.take_append_drop (d k + 1 - d (k + 1)) (stk d k)]
    rw [mgt_high _ _ (fun j hj => told_high h h0 hs (m - (k + 1) - 1) (k + 1) (by omega) j (by rw [hb] at hj; exact hj))]
    rw [← hb] at h1
    rw [mgt_step h1]
    show _ = opn d N I k ++ cls I ((stk d k).take (d k + 1 - d (k + 1))) ++ [60] ++ N (k + 1) ++ mgt I _ ((k + 1) :: _)
    simp
theorem told_forward (h : DOk d m) (h0 : ∀ j, T m j = []) (hs : ∀ k, k < m → StepT (T (k + 1)) (T k) (d k) (N k) (I k)) (k : Nat) (hk : k + 1 = m) : T 0 0 = opn d N I k ++ cls I (stk d k) := by
  rw [told_full h h0 hs k (by omega), mgt_bare (fun j => by rw [hk]; exact h0 j)]
end

/-- row k, D ids peeled: what is left of the nest -/
def Good (d : Nat → Nat) (N I0 : Nat → List Nat) (k D : Nat) (I : Nat → List Nat) (rest : List Nat) : Prop :=
  D ≤ d k + 1 ∧ (∀ s ∈ (stk d k).drop (d k + 1 - D), I s = []) ∧ (∀ s, s ≤ k → s ∉ (stk d k).drop (d k + 1 - D) → I s = I0 s) ∧ rest = opn d N I k ++ cls I (stk d k)

theorem good_peel {d : Nat → Nat} {m : Nat} {N I0 I : Nat → List Nat} {k D : Nat} {rest : List Nat} (h : DOk d m) (hk : k < m) (hD : D ≤ d k) (g : Good d N I0 k D I rest) :
    ∃ pe P, pe ≤ k ∧ d pe = D ∧ (∀ j, j ≤ k → d j = D → j ≤ pe) ∧ rest = P ++ I0 pe ++ List.replicate (D + 1) 62 ∧
      ∀ I' : Nat → List Nat, I' pe = [] → (∀ s, s ≠ pe → I' s = I s) → opn d N I' k ++ cls I' (stk d k) = P ++ List.replicate (D + 1) 62 ∧ Good d N I0 k (D + 1) I' (P ++ List.replicate (D + 1) 62) := by
  obtain ⟨g1, g2, g3, g4⟩ := g
  have hl := stk_len h k hk
  have hlt : d k - D < (stk d k).length := by omega
  have e1 : (stk d k).drop (d k - D) = (stk d k)[d k - D] :: (stk d k).drop (d k + 1 - D) := by
    rw [List.drop_eq_getElem_cons hlt]
    congr 2; omega
  generalize hpe : (stk d k)[d k - D] = pe at e1
  have e2 : stk d k = (stk d k).take (d k - D) ++ pe :: (stk d k).drop (d k + 1 - D) := by rw [← e1, List.take_append_drop]
  generalize ha : (stk d k).take (d k - D) = a at e2
  generalize hb : (stk d k).drop (d k + 1 - D) = b at *
  have hbl : b.length = D := by rw [← hb, List.length_drop, hl]; omega
  have hmem : pe ∈ stk d k := by rw [← hpe]; exact List.getElem_mem _
  obtain ⟨l1, l2⟩ := stk_last h k hk a pe b e2
  rw [hbl] at l1 l2
  have hdesc := stk_desc (d := d) k
  rw [e2, List.pairwise_append, List.pairwise_cons] at hdesc
  have nb : pe ∉ b := fun q => by have := hdesc.2.1.1 pe q; omega
  have na : pe ∉ a := fun q => by have := hdesc.2.2 pe q pe (.head _); omega
  have hI : I pe = I0 pe := g3 pe (stk_le k pe hmem) nb
  refine ⟨pe, opn d N I k ++ cls I a, stk_le k pe hmem, l1, l2, ?_, fun I' p1 p2 => ?_⟩
  · rw [g4, e2, cls_append, cls_cons, hI, cls_bare g2, hbl, List.replicate_succ]; simp
  · have q1 : opn d N I' k = opn d N I k := opn_congr h k hk fun s _ hn => p2 s fun q => hn (q ▸ hmem)
    have q2 : cls I' a = cls I a := cls_congr fun s hs => p2 s fun q => na (q ▸ hs)
    have q3 : ∀ s ∈ pe :: b, I' s = [] := fun s hs => by
      rcases List.mem_cons.mp hs with q | q
      · rw [q]; exact p1
      · rw [p2 s fun e => nb (e ▸ q)]; exact g2 s q
    have q4 : opn d N I' k ++ cls I' (stk d k) = opn d N I k ++ cls I a ++ List.replicate (D + 1) 62 := by
      rw [q1, e2, cls_append, q2, cls_bare q3, List.length_cons, hbl]; simp
    refine ⟨q4, by omega, ?_, ?_, q4.symm⟩
    · rw [show d k + 1 - (D + 1) = d k - D by omega, e1]; exact q3
    · rw [show d k + 1 - (D + 1) = d k - D by omega, e1]
      intro s hs hn
      rw [p2 s fun q => hn (by rw [q]; exact .head _)]
      exact g3 s hs fun q => hn (.tail _ q)

def frontOf (d : Nat → Nat) (N I : Nat → List Nat) : Nat → List Nat
  | 0 => []
  | k + 1 => opn d N I k ++ cls I ((stk d k).take (d k + 1 - d (k + 1)))
theorem opn_front {d : Nat → Nat} {N I : Nat → List Nat} : ∀ k, opn d N I k = frontOf d N I k ++ 60 :: N k
  | 0 => rfl
  | k + 1 => by simp [opn, frontOf]
theorem good_end {d : Nat → Nat} {m : Nat} {N I0 I : Nat → List Nat} {k : Nat} {rest : List Nat} (h : DOk d m) (hk : k < m) (g : Good d N I0 k (d k + 1) I rest) :
    rest = frontOf d N I k ++ (60 :: N k ++ List.replicate (d k + 1) 62) := by
  obtain ⟨g1, g2, g3, g4⟩ := g
  rw [Nat.sub_self, List.drop_zero] at g2
  rw [g4, cls_bare g2, stk_len h k hk, opn_front]; simp
theorem good_next {d : Nat → Nat} {m : Nat} {N I0 I : Nat → List Nat} {k : Nat} {rest : List Nat} (h : DOk d m) (hk : k + 1 < m) (g : Good d N I0 (k + 1) (d (k + 1) + 1) I rest) :
    Good d N I0 k (d (k + 1)) I (frontOf d N I (k + 1) ++ List.replicate (d (k + 1)) 62) := by
  obtain ⟨g1, g2, g3, g4⟩ := g
  rw [Nat.sub_self, List.drop_zero] at g2 g3
  have hd := h.2 k hk
  have g2' : ∀ s ∈ (stk d k).drop (d k + 1 - d (k + 1)), I s = [] := fun s hs => g2 s (.tail _ hs)
  refine ⟨hd.2, g2', fun s hs hn => g3 s (by omega) fun q => ?_, ?_⟩
  · rcases List.mem_cons.mp q with q | q
    · omega
    · exact hn q
  · have e : cls I (stk d k) = cls I ((stk d k).take (d k + 1 - d (k + 1))) ++ List.replicate (d (k + 1)) 62 := by
      have hl : ((stk d k).drop (d k + 1 - d (k + 1))).length = d (k + 1) := by rw [List.length_drop, stk_len h k (by omega)]; omega
      have e5 := cls_bare g2'
      rw [hl] at e5
      rw [← e5, ← cls_append, List.take_append_drop]
    rw [e]
    show opn d N I k ++ _ ++ _ = _
    simp
theorem good_start {d : Nat → Nat} {N I0 : Nat → List Nat} {k : Nat} {rest : List Nat} (e : rest = opn d N I0 k ++ cls I0 (stk d k)) (hl : (stk d k).length = d k + 1) : Good d N I0 k 0 I0 rest := by
  have e2 : (stk d k).drop (d k + 1 - 0) = [] := List.drop_of_length_le (by omega)
  refine ⟨by omega, ?_, fun _ _ _ => rfl, e⟩
  rw [e2]; intro s hs; cases hs
end Mine

end

section
/- the part PC -/
open PySem PySem.Sre
/- pure: the depths -/
namespace Mine
/-- the depths after i of the numbers -/
def depthsTo (xs : List Int) : Nat → List Int
  | 0 => [0]
  | i + 1 => depthsTo xs i ++ [1 + (xs.getD i 0).fmod ((depthsTo xs i).getLastD 0 + 1)]
theorem depths_len (xs : List Int) : ∀ i, (depthsTo xs i).length = i + 1
  | 0 => rfl
  | i + 1 => by rw [depthsTo, List.length_append, depths_len xs i]; rfl
theorem depths_last (xs : List Int) (i : Nat) : (depthsTo xs i).getLastD 0 = (depthsTo xs i).getD i 0 := by
  have := depths_len xs i
  rw [List.getLastD_eq_getLast?, List.getLast?_eq_getElem?, this]
  rfl
theorem depths_old (xs : List Int) (i j : Nat) (h : j ≤ i) : (depthsTo xs (i + 1)).getD j 0 = (depthsTo xs i).getD j 0 := by
  rw [depthsTo]
  simp only [List.getD]
  rw [List.getElem?_append_left (by rw [depths_len]; omega)]
theorem depths_new (xs : List Int) (i : Nat) : (depthsTo xs (i + 1)).getD (i + 1) 0 = 1 + (xs.getD i 0).fmod ((depthsTo xs i).getD i 0 + 1) := by
  have e := depths_last xs i
  have hl := depths_len xs i
  show (depthsTo xs i ++ [1 + (xs.getD i 0).fmod ((depthsTo xs i).getLastD 0 + 1)]).getD (i + 1) 0 = _
  rw [e]
  generalize depthsTo xs i = l at hl
  generalize 1 + (xs.getD i 0).fmod (l.getD i 0 + 1) = v
  show (l ++ [v])[i + 1]?.getD 0 = v
  rw [List.getElem?_append_right (by omega), hl, Nat.sub_self]
  rfl
theorem depths_ok (xs : List Int) : ∀ i, (depthsTo xs i).getD 0 0 = 0 ∧ (∀ j, j ≤ i → 0 ≤ (depthsTo xs i).getD j 0) ∧ ∀ j, j + 1 ≤ i → 1 ≤ (depthsTo xs i).getD (j + 1) 0 ∧ (depthsTo xs i).getD (j + 1) 0 ≤ (depthsTo xs i).getD j 0 + 1
  | 0 => ⟨rfl, fun j hj => by have : j = 0 := by omega
                              subst this; exact Int.le_refl _, fun j hj => by omega⟩
  | i + 1 => by
    obtain ⟨h1, h2, h3⟩ := depths_ok xs i
    have hl := h2 i (Nat.le_refl _)
    have n0 := Int.fmod_nonneg_of_pos (xs.getD i 0) (show 0 < (depthsTo xs i).getD i 0 + 1 by omega)
    have n1 := Int.fmod_lt_of_pos (xs.getD i 0) (show 0 < (depthsTo xs i).getD i 0 + 1 by omega)
    have e := depths_new xs i
    refine ⟨by rw [depths_old xs i 0 (by omega)]; exact h1, fun j hj => ?_, fun j hj => ?_⟩
    · by_cases q : j = i + 1
      · rw [q, e]; omega
      · rw [depths_old xs i j (by omega)]; exact h2 j (by omega)
    · by_cases q : j = i
      · rw [q, e, depths_old xs i i (Nat.le_refl _)]; omega
      · rw [depths_old xs i (j + 1) (by omega), depths_old xs i j (by omega)]; exact h3 j (by omega)
/-- as plain numbers -/
def dNat (ds : List Int) (k : Nat) : Nat := (ds.getD k 0).toNat
theorem dNat_ok (xs : List Int) (i : Nat) : DOk (dNat (depthsTo xs i)) (i + 1) := by
  obtain ⟨h1, h2, h3⟩ := depths_ok xs i
  refine ⟨by unfold dNat; rw [h1]; rfl, fun k hk => ?_⟩
  have a := h3 k (by omega)
  have b := h2 k (by omega)
  unfold dNat
  omega
theorem dNat_cast (xs : List Int) (i k : Nat) (hk : k ≤ i) : ((dNat (depthsTo xs i) k : Nat) : Int) = (depthsTo xs i).getD k 0 := by
  have := (depths_ok xs i).2.1 k hk
  unfold dNat; omega
theorem depths_le (xs : List Int) (i k : Nat) (hk : k ≤ i) : 0 ≤ (depthsTo xs i).getD k 0 ∧ (depthsTo xs i).getD k 0 ≤ (k : Int) := by
  have a := dNat_cast xs i k hk
  have b := (dNat_ok xs i).le k (by omega)
  omega
end Mine

end

section
/- the part WA -/
open PySem PySem.W PyProof.Rows PySem.Spec PySem.Calls
set_option maxRecDepth 100000
namespace Mine

local macro_rules | `(tactic| k_room) => `(tactic| ((try simp only [depth_mark, depth_under_make, depth_under_kw, depth_in1, depth_deeper, depth_caller]); (try dsimp only [ktrTop]); first | omega | decide))

/-- the table of stripid's codes: empty, or with the lambda's code -/
def TabSt (ps : Array Value) (c' : Addr) (oc : Obj) : Prop :=
  ps = #[] ∨ (ps = #[rawInt 5, rawInt 27, .ref c'] ∧ ∃ vs t, oc.data = .fields vs ∧ vs[1]? = some (.str (("stripid" : Str) ++ ".<locals>." ++ "<lambda>") t))
theorem swap_mem {α : Type} {q a b c : α} {l : List α} (h : q ∈ a :: b :: l) : q ∈ c :: b :: a :: l := by
  rcases List.mem_cons.mp h with h | h
  · exact .tail _ (.tail _ (h ▸ .head _))
  · rcases List.mem_cons.mp h with h | h
    · exact .tail _ (h ▸ .head _)
    · exact .tail _ (.tail _ (.tail _ h))
theorem useFN {g h : Heap} {L : Addr} {M : Str → Option Value} {led : List (Addr × Obj)} (F : Fr g L h M) (N : News g L h led) {G : Prop} (k : ∀ Kp : Heap → Prop, (∀ h', Kp h' ↔ Fr g L h' M ∧ News g L h' led) → Kp h → G) : G :=
  k (fun h' => Fr g L h' M ∧ News g L h' led) (fun _ => Iff.rfl) ⟨F, N⟩
theorem empty_add (y : Str) : Str.ofString "" ++ y = y := by
  have h : Str.ofString "" = ⟨#[]⟩ := by decide +kernel
  rw [h]
  apply Str.ext'
  rw [Str.cps_append]; simp
/-- what stripid makes of a text -/
def StripsTo (x y : Str) : Prop := ((∀ i, ¬ Hit x.cps i) ∧ y = x) ∨ ∃ p n e, HitWith x.cps p n e ∧ (∀ i, i < p → ¬ Hit x.cps i) ∧
  (⟨(x.cps.toList.take p ++ (⟨x.cps.extract (p + 6 + n) (p + 6 + n + e)⟩ : Str).cps.toList ++ x.cps.toList.drop (p + 6 + n + e)).toArray⟩ : Str) = y

set_option maxHeartbeats 8000000 in
theorem stripid_new (w : World) (p : Program) (loose : List Str) (mean : ExcName → Option Value) (mg mb : Str → Option Value) (dp un : Nat) (gd : Option (List Code)) (cn : Str) (cs : Scope) (a : Addr) (ccd : Value) (cl : List (Str × Addr)) (outer : List Env) (A₀ : Around) (base h₀ : Heap) (L : Addr) (m : Str → Option Value) (news : List (Addr × Obj)) (s : Shared) (Q E : Value → Shared → Prop) (x y : Str) (t : Tok)
    (B : Below A₀ base outer h₀) (F : Fr h₀ L s.heap m) (X : (Mine.hd.heap_39 w.params).In h₀) (N : News h₀ L s.heap ((38, tabObj #[]) :: news)) (hn : ∀ q ∈ news, q.1 ≠ 38) (T : Top p loose mean mg mb h₀) (codeHd : CodeHd h₀ 42 38) (hk : cs.kind = .function)
    (hd : dp + 10 < recursionLimit) (hu : un + 20 < cLine) (hx : x.length ≤ 10000)
    (hxy : StripsTo x y)
    (ret : ∀ (t' : Tok) (h' : Heap) (tk' : Nat) (ps : Array Value) (c' : Addr) (oc : Obj), Fr h₀ L h' m → News h₀ L h' ((38, tabObj ps) :: (c', oc) :: news) → TabSt ps c' oc → (∀ q ∈ (38, tabObj #[]) :: news, q.1 < c') → Q (.str y t') { s with heap := h', toks := tk' }) :
    wpAny (model PySem.Challenge.rw_wb0006_01.row.prog w) (ktrTop dp un gd cn cs L a ccd cl outer) (call (.ref 43) [.str x t]) Q E s := by
  revert X N; k_fill; intro X N
  refine wpAny_call ?_
  k_dflt cell_enter
  iterate 5 (first | walk1 | (dsimp only; walk1))
  rename_i g' L' h' FG' F' N' B' X' T'
  have codeHd' : CodeHd g' 42 38 := codeHd.keeps FG'.keep
  have hpat : h'.get? 36 = _ := F'.keep _ _ (X' 36 _ (by k_is))
  have hcod : h'.get? 35 = _ := F'.keep _ _ (X' 35 _ (by k_is))
  refine getMethod_builtin (T := "re.Pattern") ⟨_, hpat, rfl⟩ pa_pattern slot_re_sub type_re_sub (fun a e => by cases e; exact ⟨_, hpat, rfl⟩) ?_
  iterate 2 (first | walk1 | (dsimp only; walk1))
  refine' kla_eval ?d0 ?_; (case d0 => exact rfl)
  refine' kla_nest ?F ?N ?T ?C ?cd ?U ?t ?n ?cl ?_; (case F => k_asm); (case N => k_asm); (case T => k_asm); (case cd => exact rfl); (case C => kn_code); (case U => exact UpdF.head hn); (case t => kn_triples); (case n => kn_among); (case cl => exact rfl)
  intro f' c' oc' vs' t2 ct' h2 tk2 F2 N2 d1 d2 l1 l2
  try dsimp only at N2
  iterate 3 (first | walk1 | (dsimp only; walk1))
  have hpat2 : h2.get? 36 = _ := F2.keep _ _ (X' 36 _ (by k_is))
  have hcod2 : h2.get? 35 = _ := F2.keep _ _ (X' 35 _ (by k_is))
  have hfn : h2.get? f' = some _ := N2.get (.head _)
  have fin : ∀ (t' : Tok) (h' : Heap) (tk' : Nat), (∀ b o, h2.get? b = some o → h'.get? b = some o) → qk (.ret (.str y t')) { s with heap := h', toks := tk' } := fun t' h3 tk3 k3 =>
    leaveK_ (L' := L') ⟨F2.ns.at' fun o e => k3 _ _ e, fun b o e => k3 _ _ (F2.keep b o e), F2.above⟩ (fun q hq => ⟨k3 _ _ (N2 q hq).1, (N2 q hq).2⟩) fun Fh Nh => ret t' h3 tk3 _ c' oc' Fh (fun q hq => Nh q (swap_mem hq)) (.inr ⟨rfl, vs', t2, d1, d2⟩) (fun q hq => l1 q hq)
  rcases hxy with ⟨hno, rfl⟩ | ⟨pp, n, e, hh, hno, hy⟩
  · exact sub_none (pa := 36) (ca := 35) ⟨hpat2, hcod2⟩ (by simp [Builtin.Re.reRawOf, C1]) ⟨_, hfn, rfl⟩ (by omega) hno fun t' h3 tk3 k3 => fin t' h3 tk3 k3
  · have hL2 : L' < h2.objs.size := F2.ns.lt
    have hE : pp + 6 + n + e ≤ x.cps.size ∧ 1 ≤ e := by
      obtain ⟨_, _, _, _, _, _, _, _, h1, _, _, hend⟩ := hh
      refine ⟨?_, h1⟩
      rcases hend with q | q <;> omega
    have hxs : x.cps.size = x.length := rfl
    have gl : (⟨x.cps.extract (pp + 6 + n) (pp + 6 + n + e)⟩ : Str).length = e := by
      show (x.cps.extract _ _).size = e
      rw [Array.size_extract]; omega
    have gx : e ≤ 10000 := by omega
    refine useFN F2 N2 fun Kp hKp hK2 => ?_
    refine sub_once (pa := 36) (ca := 35) (g := ⟨x.cps.extract (pp + 6 + n) (pp + 6 + n + e)⟩) ⟨hpat2, hcod2⟩ (by simp [Builtin.Re.reRawOf, C1]) ⟨_, hfn, rfl⟩ (by omega) hh hno (by rw [gl]; omega)
      Kp hK2 ?_ (fun h k => ⟨((hKp h).mp k).1.keep _ _ (X' 36 _ (by k_is)), ((hKp h).mp k).1.keep _ _ (X' 35 _ (by k_is))⟩) ?_ fun t' h3 tk3 k3 => ?_
    · intro ha hb k he
      replace k := (hKp _).mp k
      refine (hKp _).mpr ?_
      have ne : ∀ {q o}, h2.get? q = some o → q ≠ h2.objs.size := fun q => Nat.ne_of_lt (Heap.lt_size q)
      exact ⟨⟨k.1.ns.at' fun o q => he _ o (Nat.ne_of_lt hL2) q, fun b o q => he b o (ne (F2.keep b o q)) (k.1.keep b o q), k.1.above⟩, fun q hq => ⟨he _ _ (ne (N2 q hq).1) (k.2 q hq).1, (k.2 q hq).2⟩⟩
    · intro h₁ tk₁ aa ta ob Q₁ E₁ hkp haa hta hob hsz hlt ret1
      replace hkp := (hKp _).mp hkp
      have F3 := hkp.1
      have hsz : h2.objs.size < ta := hsz
      have lL : ∀ b, h2.objs.size ≤ b → b ≠ L' ∧ g'.get? b = none := fun b hb => ⟨Nat.ne_of_gt (Nat.lt_of_lt_of_le hL2 hb), Heap.get?_none_of_le (Nat.le_trans (Nat.le_trans F2.above (Nat.le_of_lt hL2)) hb)⟩
      have N3 : News g' L' h₁ ((aa, matchObj 36 ta x t) :: (ta, spanObj pp (pp + 6 + n) (pp + 6 + n + e)) :: (h2.objs.size, ob) :: _) := fun q hq => by
        rcases List.mem_cons.mp hq with rfl | hq
        · exact ⟨haa, lL _ (Nat.le_trans (Nat.le_of_lt hsz) (Nat.le_of_lt hlt))⟩
        · rcases List.mem_cons.mp hq with rfl | hq
          · exact ⟨hta, lL _ (Nat.le_of_lt hsz)⟩
          · rcases List.mem_cons.mp hq with rfl | hq
            · exact ⟨hob, lL _ (Nat.le_refl _)⟩
            · exact hkp.2 q hq
      clear F2 N2 hpat2 hcod2 hpat hcod fin
      refine wpAny_call ?_
      kla_enter
      iterate 5 (first | walk1 | (dsimp only; walk1))
      rename_i g3 L3 h3 FG3 F3 N3 B3 X3 T3
      have hm3 : h3.get? aa = _ := N3.get (.head _)
      have ht3 : h3.get? ta = _ := N3.get (.tail _ (.head _))
      refine getMethod_builtin (T := "re.Match") ⟨_, hm3, rfl⟩ pa_match slot_re_group type_re_group (fun a e => by cases e; exact ⟨_, hm3, rfl⟩) ?_
      iterate 4 (first | walk1 | (dsimp only; walk1))
      refine group_one (x := x) (t := t) (pa := 36) (ta := ta) (p := pp) (b := pp + 6 + n) (e := pp + 6 + n + e) (by exact hm3) (by exact ht3) (Nat.le_trans hx (by decide)) ?_
      refine PySem.P.truthy_str (by rw [gl]; omega) ?_
      rw [gl, if_pos (by simp; omega)]
      iterate 2 (first | walk1 | (dsimp only; walk1))
      rename_i kF kN _ _
      rw [empty_add]
      exact ret1 _ _ _ ((hKp _).mpr ⟨kF, fun q hq => kN q (.tail _ (.tail _ (.tail _ hq)))⟩) (kN.get (.tail _ (.tail _ (.head _))))
    · have e1 : (⟨(x.cps.toList.take pp ++ (⟨x.cps.extract (pp + 6 + n) (pp + 6 + n + e)⟩ : Str).cps.toList ++ x.cps.toList.drop (pp + 6 + n + e)).toArray⟩ : Str) = y := hy
      rw [e1]
      exact leaveK_ (L' := L') ((hKp _).mp k3).1 ((hKp _).mp k3).2 fun Fh Nh => ret t' h3 tk3 _ c' oc' Fh (fun q hq => Nh q (swap_mem hq)) (.inr ⟨rfl, vs', t2, d1, d2⟩) (fun q hq => l1 q hq)
set_option maxHeartbeats 8000000 in
theorem stripid_old (w : World) (p : Program) (loose : List Str) (mean : ExcName → Option Value) (mg mb : Str → Option Value) (dp un : Nat) (gd : Option (List Code)) (cn : Str) (cs : Scope) (a : Addr) (ccd : Value) (cl : List (Str × Addr)) (outer : List Env) (A₀ : Around) (base h₀ : Heap) (L : Addr) (m : Str → Option Value) (news : List (Addr × Obj)) (c' : Addr) (oc' : Obj) (vs' : Array Value) (t2 : Tok) (s : Shared) (Q E : Value → Shared → Prop) (x y : Str) (t : Tok)
    (B : Below A₀ base outer h₀) (F : Fr h₀ L s.heap m) (X : (Mine.hd.heap_39 w.params).In h₀) (N : News h₀ L s.heap ((38, tabObj #[rawInt 5, rawInt 27, .ref c']) :: (c', oc') :: news)) (d1 : oc'.data = .fields vs') (d2 : vs'[1]? = some (.str (("stripid" : Str) ++ ".<locals>." ++ "<lambda>") t2)) (T : Top p loose mean mg mb h₀) (codeHd : CodeHd h₀ 42 38) (hk : cs.kind = .function)
    (hd : dp + 10 < recursionLimit) (hu : un + 20 < cLine) (hx : x.length ≤ 10000)
    (hxy : StripsTo x y)
    (ret : ∀ (t' : Tok) (h' : Heap) (tk' : Nat), Fr h₀ L h' m → News h₀ L h' ((38, tabObj #[rawInt 5, rawInt 27, .ref c']) :: (c', oc') :: news) → Q (.str y t') { s with heap := h', toks := tk' }) :
    wpAny (model PySem.Challenge.rw_wb0006_01.row.prog w) (ktrTop dp un gd cn cs L a ccd cl outer) (call (.ref 43) [.str x t]) Q E s := by
  revert X N; k_fill; intro X N
  refine wpAny_call ?_
  k_dflt cell_enter
  iterate 5 (first | walk1 | (dsimp only; walk1))
  rename_i g' L' h' FG' F' N' B' X' T'
  have codeHd' : CodeHd g' 42 38 := codeHd.keeps FG'.keep
  have hpat : h'.get? 36 = _ := F'.keep _ _ (X' 36 _ (by k_is))
  have hcod : h'.get? 35 = _ := F'.keep _ _ (X' 35 _ (by k_is))
  refine getMethod_builtin (T := "re.Pattern") ⟨_, hpat, rfl⟩ pa_pattern slot_re_sub type_re_sub (fun a e => by cases e; exact ⟨_, hpat, rfl⟩) ?_
  iterate 2 (first | walk1 | (dsimp only; walk1))
  refine' kla_eval ?d0 ?_; (case d0 => exact rfl)
  refine' kla_hit ?F ?N ?T ?C ?cd ?mem ?t ?nn ?cl ?_; (case F => k_asm); (case N => k_asm); (case T => k_asm); (case cd => exact rfl); (case C => kn_code); (case mem => k_mem); (case t => kn_triples); (case nn => kn_hit); (case cl => exact rfl)
  intro f' ct' h2 tk2 F2 N2 l1
  try dsimp only at N2
  iterate 3 (first | walk1 | (dsimp only; walk1))
  have hpat2 : h2.get? 36 = _ := F2.keep _ _ (X' 36 _ (by k_is))
  have hcod2 : h2.get? 35 = _ := F2.keep _ _ (X' 35 _ (by k_is))
  have hfn : h2.get? f' = some _ := N2.get (.head _)
  have fin : ∀ (t' : Tok) (h' : Heap) (tk' : Nat), (∀ b o, h2.get? b = some o → h'.get? b = some o) → qk (.ret (.str y t')) { s with heap := h', toks := tk' } := fun t' h3 tk3 k3 =>
    leaveK_ (L' := L') ⟨F2.ns.at' fun o e => k3 _ _ e, fun b o e => k3 _ _ (F2.keep b o e), F2.above⟩ (fun q hq => ⟨k3 _ _ (N2 q hq).1, (N2 q hq).2⟩) fun Fh Nh => ret t' h3 tk3 Fh (fun q hq => Nh q (.tail _ hq))
  rcases hxy with ⟨hno, rfl⟩ | ⟨pp, n, e, hh, hno, hy⟩
  · exact sub_none (pa := 36) (ca := 35) ⟨hpat2, hcod2⟩ (by simp [Builtin.Re.reRawOf, C1]) ⟨_, hfn, rfl⟩ (by omega) hno fun t' h3 tk3 k3 => fin t' h3 tk3 k3
  · have hL2 : L' < h2.objs.size := F2.ns.lt
    have hE : pp + 6 + n + e ≤ x.cps.size ∧ 1 ≤ e := by
      obtain ⟨_, _, _, _, _, _, _, _, h1, _, _, hend⟩ := hh
      refine ⟨?_, h1⟩
      rcases hend with q | q <;> omega
    have hxs : x.cps.size = x.length := rfl
    have gl : (⟨x.cps.extract (pp + 6 + n) (pp + 6 + n + e)⟩ : Str).length = e := by
      show (x.cps.extract _ _).size = e
      rw [Array.size_extract]; omega
    have gx : e ≤ 10000 := by omega
    refine useFN F2 N2 fun Kp hKp hK2 => ?_
    refine sub_once (pa := 36) (ca := 35) (g := ⟨x.cps.extract (pp + 6 + n) (pp + 6 + n + e)⟩) ⟨hpat2, hcod2⟩ (by simp [Builtin.Re.reRawOf, C1]) ⟨_, hfn, rfl⟩ (by omega) hh hno (by rw [gl]; omega)
      Kp hK2 ?_ (fun h k => ⟨((hKp h).mp k).1.keep _ _ (X' 36 _ (by k_is)), ((hKp h).mp k).1.keep _ _ (X' 35 _ (by k_is))⟩) ?_ fun t' h3 tk3 k3 => ?_
    · intro ha hb k he
      replace k := (hKp _).mp k
      refine (hKp _).mpr ?_
      have ne : ∀ {q o}, h2.get? q = some o → q ≠ h2.objs.size := fun q => Nat.ne_of_lt (Heap.lt_size q)
      exact ⟨⟨k.1.ns.at' fun o q => he _ o (Nat.ne_of_lt hL2) q, fun b o q => he b o (ne (F2.keep b o q)) (k.1.keep b o q), k.1.above⟩, fun q hq => ⟨he _ _ (ne (N2 q hq).1) (k.2 q hq).1, (k.2 q hq).2⟩⟩
    · intro h₁ tk₁ aa ta ob Q₁ E₁ hkp haa hta hob hsz hlt ret1
      replace hkp := (hKp _).mp hkp
      have F3 := hkp.1
      have hsz : h2.objs.size < ta := hsz
      have lL : ∀ b, h2.objs.size ≤ b → b ≠ L' ∧ g'.get? b = none := fun b hb => ⟨Nat.ne_of_gt (Nat.lt_of_lt_of_le hL2 hb), Heap.get?_none_of_le (Nat.le_trans (Nat.le_trans F2.above (Nat.le_of_lt hL2)) hb)⟩
      have N3 : News g' L' h₁ ((aa, matchObj 36 ta x t) :: (ta, spanObj pp (pp + 6 + n) (pp + 6 + n + e)) :: (h2.objs.size, ob) :: _) := fun q hq => by
        rcases List.mem_cons.mp hq with rfl | hq
        · exact ⟨haa, lL _ (Nat.le_trans (Nat.le_of_lt hsz) (Nat.le_of_lt hlt))⟩
        · rcases List.mem_cons.mp hq with rfl | hq
          · exact ⟨hta, lL _ (Nat.le_of_lt hsz)⟩
          · rcases List.mem_cons.mp hq with rfl | hq
            · exact ⟨hob, lL _ (Nat.le_refl _)⟩
            · exact hkp.2 q hq
      clear F2 N2 hpat2 hcod2 hpat hcod fin
      refine wpAny_call ?_
      kla_enter
      iterate 5 (first | walk1 | (dsimp only; walk1))
      rename_i g3 L3 h3 FG3 F3 N3 B3 X3 T3
      have hm3 : h3.get? aa = _ := N3.get (.head _)
      have ht3 : h3.get? ta = _ := N3.get (.tail _ (.head _))
      refine getMethod_builtin (T := "re.Match") ⟨_, hm3, rfl⟩ pa_match slot_re_group type_re_group (fun a e => by cases e; exact ⟨_, hm3, rfl⟩) ?_
      iterate 4 (first | walk1 | (dsimp only; walk1))
      refine group_one (x := x) (t := t) (pa := 36) (ta := ta) (p := pp) (b := pp + 6 + n) (e := pp + 6 + n + e) (by exact hm3) (by exact ht3) (Nat.le_trans hx (by decide)) ?_
      refine PySem.P.truthy_str (by rw [gl]; omega) ?_
      rw [gl, if_pos (by simp; omega)]
      iterate 2 (first | walk1 | (dsimp only; walk1))
      rename_i kF kN _ _
      rw [empty_add]
      exact ret1 _ _ _ ((hKp _).mpr ⟨kF, fun q hq => kN q (.tail _ (.tail _ (.tail _ hq)))⟩) (kN.get (.tail _ (.tail _ (.head _))))
    · have e1 : (⟨(x.cps.toList.take pp ++ (⟨x.cps.extract (pp + 6 + n) (pp + 6 + n + e)⟩ : Str).cps.toList ++ x.cps.toList.drop (pp + 6 + n + e)).toArray⟩ : Str) = y := hy
      rw [e1]
      exact leaveK_ (L' := L') ((hKp _).mp k3).1 ((hKp _).mp k3).2 fun Fh Nh => ret t' h3 tk3 Fh (fun q hq => Nh q (.tail _ hq))

theorem stripid_call (w : World) (p : Program) (loose : List Str) (mean : ExcName → Option Value) (mg mb : Str → Option Value) (dp un : Nat) (gd : Option (List Code)) (cn : Str) (cs : Scope) (a : Addr) (ccd : Value) (cl : List (Str × Addr)) (outer : List Env) (A₀ : Around) (base h₀ : Heap) (L : Addr) (m : Str → Option Value) (news : List (Addr × Obj)) (ps : Array Value) (c' : Addr) (oc' : Obj) (s : Shared) (Q E : Value → Shared → Prop) (x y : Str) (t : Tok)
    (B : Below A₀ base outer h₀) (F : Fr h₀ L s.heap m) (X : (Mine.hd.heap_39 w.params).In h₀) (N : News h₀ L s.heap ((38, tabObj ps) :: (c', oc') :: news)) (hs : TabSt ps c' oc') (hn : ∀ q ∈ news, q.1 ≠ 38) (T : Top p loose mean mg mb h₀) (codeHd : CodeHd h₀ 42 38) (hk : cs.kind = .function)
    (hd : dp + 10 < recursionLimit) (hu : un + 20 < cLine) (hx : x.length ≤ 10000) (hxy : StripsTo x y)
    (ret : ∀ (t' : Tok) (h' : Heap) (tk' : Nat) (ps' : Array Value) (c'' : Addr) (oc'' : Obj), Fr h₀ L h' m → News h₀ L h' ((38, tabObj ps') :: (c'', oc'') :: news) → TabSt ps' c'' oc'' → (c'' = c' ∨ ∀ q ∈ (38, tabObj #[]) :: news, q.1 < c'') → Q (.str y t') { s with heap := h', toks := tk' }) :
    wpAny (model PySem.Challenge.rw_wb0006_01.row.prog w) (ktrTop dp un gd cn cs L a ccd cl outer) (call (.ref 43) [.str x t]) Q E s := by
  rcases hs with rfl | ⟨rfl, vs, tt, d1, d2⟩
  · exact stripid_new w p loose mean mg mb dp un gd cn cs a ccd cl outer A₀ base h₀ L m news s Q E x y t B F X (fun q hq => N q ((List.mem_cons.mp hq).elim (fun e => e ▸ .head _) fun h => .tail _ (.tail _ h))) hn T codeHd hk hd hu hx hxy
      fun t' h' tk' ps c2 oc F' N' ts lt => ret t' h' tk' ps c2 oc F' N' ts (.inr lt)
  · exact stripid_old w p loose mean mg mb dp un gd cn cs a ccd cl outer A₀ base h₀ L m news c' oc' vs tt s Q E x y t B F X N d1 d2 T codeHd hk hd hu hx hxy
      fun t' h' tk' F' N' => ret t' h' tk' _ c' oc' F' N' (.inr ⟨rfl, vs, tt, d1, d2⟩) (.inl rfl)
end Mine

end

section
/- the part WB -/
open PySem PySem.W PyProof.Rows PySem.Spec PySem.Calls
set_option maxRecDepth 100000
namespace Mine
local macro_rules | `(tactic| k_room) => `(tactic| ((try simp only [depth_mark, depth_under_make, depth_under_kw, depth_in1, depth_deeper, depth_caller]); (try dsimp only [ktrTop]); first | omega | decide))

section
variable {prog : Program} {A : Around} {E : Value → Shared → Prop} {s : Shared}
theorem mul_int_str {w : World} {x : Str} {n : Int} {t u : Tok} {Q : Value → Shared → Prop} (hok : MulOk x n) (h : ∀ t' k, Q (.str (Txt.mul x n) t') { s with toks := k }) : wpAny (model prog w) A (binaryOp .Mult (.int n u) (.str x t)) Q E s := by
  have post : (if n < 1 then Made.str Str.empty else if (n == 1 || x.length == 0) = true then Made.val (.str x t) else Made.str ⟨(List.replicate n.toNat x.cps).foldl (· ++ ·) #[]⟩).post Q s := by
    unfold Txt.mul at h
    by_cases h1 : n < 1
    · rw [if_pos h1]
      have h' := h s.toks (s.toks + 1)
      rw [if_pos h1] at h'
      exact ⟨by decide, h'⟩
    · rw [if_neg h1]
      by_cases h2 : (n == 1 || x.length == 0) = true
      · rw [if_pos h2]
        have h' := h t s.toks
        rw [if_neg h1, if_pos h2] at h'
        exact h'
      · rw [if_neg h2]
        have h' := h s.toks (s.toks + 1)
        rw [if_neg h1, if_neg h2] at h'
        refine ⟨?_, h'⟩
        have hl := hok.2.2 h1 (Bool.eq_false_iff.mpr h2)
        unfold Builtin.Str.tooLong at hl
        simp only [decide_eq_false_iff_not, Nat.not_lt] at hl
        show (List.foldl (· ++ ·) #[] (List.replicate n.toNat x.cps)).size ≤ sizeLine
        have e : ∀ (k : Nat) (acc : Array Nat), (List.foldl (· ++ ·) acc (List.replicate k x.cps)).size = acc.size + k * x.cps.size := fun k => by
          induction k with
          | zero => intro acc; simp
          | succ k ih => intro acc; rw [List.replicate_succ, List.foldl_cons, ih, Array.size_append, Nat.succ_mul]; omega
        rw [e]
        have : n.toNat * x.cps.size = x.length * n.toNat := Nat.mul_comm _ _
        simp only [List.size_toArray, List.length_nil, Nat.zero_add]
        omega
  exact lm_binaryOp_repeat_right (T := "str") (U := "int") (by decide) (fun s' => typeIs_int s' n u) (typeIs_str s x t) F.fills_int_mul noFill_str_mul F.slot_int_mul lm_noRepeat_int repeat_str F.slot_int_index.lookup
    (call_gives F.slot_int_mul (typeIs_int s n u) F.entry_int_mul (F.args_int_mul_2 _ _) (AutoIntG3.int___mul___int_str_0 n u x t)
      ⟨rfl, typeIs_str s x t, call_gives F.slot_str_mul (typeIs_str s x t) F.entry_str_mul (F.args_str_mul_2 _ _) (gives_str_mul x n t u hok.1 hok.2.1 hok.2.2) post⟩)
theorem mul_blank (u : Int) (hu : 1 ≤ u ∧ u ≤ 4) : Txt.mul (Str.ofString " ") u = ⟨(List.replicate u.toNat 32).toArray⟩ := by
  have : u = 1 ∨ u = 2 ∨ u = 3 ∨ u = 4 := by omega
  rcases this with rfl | rfl | rfl | rfl <;> decide +kernel
theorem mulok_blank (u : Int) (hu : 1 ≤ u ∧ u ≤ 4) : MulOk (Str.ofString " ") u := by
  have : u = 1 ∨ u = 2 ∨ u = 3 ∨ u = 4 := by omega
  rcases this with rfl | rfl | rfl | rfl <;> (unfold MulOk; decide +kernel)
end

set_option maxHeartbeats 8000000 in
theorem indent_two (w : World) (p : Program) (loose : List Str) (mean : ExcName → Option Value) (mg mb : Str → Option Value) (dp un : Nat) (gd : Option (List Code)) (cn : Str) (cs : Scope) (a : Addr) (ccd : Value) (cl : List (Str × Addr)) (outer : List Env) (A₀ : Around) (base h₀ : Heap) (L : Addr) (m : Str → Option Value) (news : List (Addr × Obj)) (s : Shared) (Q E : Value → Shared → Prop) (x : Str) (t tu : Tok) (u : Int) (rs : List (List Nat))
    (B : Below A₀ base outer h₀) (F : Fr h₀ L s.heap m) (X : (Mine.hd.heap_39 w.params).In h₀) (N : News h₀ L s.heap news) (T : Top p loose mean mg mb h₀) (hk : cs.kind = .function)
    (hd : dp + 10 < recursionLimit) (hun : un + 20 < cLine) (hx : x.length ≤ 10000) (hu : 1 ≤ u ∧ u ≤ 4) (hr : RowsAt x.cps.toList 0 rs) (hrs : rs.length ≤ 1000)
    (ret : ∀ (t' : Tok) (h' : Heap) (tk' : Nat), Fr h₀ L h' m → News h₀ L h' news → Q (.str ⟨(padRows (List.replicate u.toNat 32) rs).toArray⟩ t') { s with heap := h', toks := tk' }) :
    wpAny (model PySem.Challenge.rw_wb0006_01.row.prog w) (ktrTop dp un gd cn cs L a ccd cl outer) (call (.ref 56) [.str x t, .int u tu]) Q E s := by
  revert X N; k_fill; intro X N
  refine wpAny_call ?_
  k_dflt (refine' code_def ?k1 ?k2 ?k3 ?k4 ?k5 ?kA ?kF ?kK ?k6 ?k7 ?k8 ?k9 ?kB ?_ ?c2 ?c3 ?c4 ?c5; (case kA => exact rfl); (case kF => exact rfl); (case kK => assumption); (case k1 => k_asm); (case k2 => k_asm); (case k3 => k_asm); (case k4 => k_asm); (case k5 => k_asm); (case k6 => k_is); (case k7 => k_is); (case k8 => k_room); (case k9 => first | exact BindsTo.of_eq rfl | exact binds_K (by k_in) rfl (by k_is) rfl rfl rfl); (case c5 => decide); (case kB => exact locs rfl); (case c2 => exact rfl); (case c3 => exact rfl); (case c4 => exact rfl); k_whole; intro g' L' h' FG' F' N' B' X' T'; (try dsimp only); (try k_lift B'); (try k_fold))
  iterate 5 (first | walk1 | (dsimp only; walk1))
  have hpat : h'.get? 48 = _ := F'.keep _ _ (X' 48 _ (by k_is))
  refine getMethod_builtin (T := "re.Pattern") ⟨_, hpat, rfl⟩ pa_pattern slot_re_sub type_re_sub (fun a e => by cases e; exact ⟨_, hpat, rfl⟩) ?_
  iterate 5 (first | walk1 | (dsimp only; walk1))
  refine mul_int_str (mulok_blank u hu) fun t2 k2 => ?_
  rw [mul_blank u hu]
  iterate 3 (first | walk1 | (dsimp only; walk1))
  have hpat2 : h'.get? 48 = _ := F'.keep _ _ (X' 48 _ (by k_is))
  have hcod2 : h'.get? 47 = _ := F'.keep _ _ (X' 47 _ (by k_is))
  have hul : u.toNat ≤ 4 := by omega
  refine sub_rows (pa := 48) (ca := 47) (pad := ⟨(List.replicate u.toNat 32).toArray⟩) ⟨hpat2, hcod2⟩ (by simp [Builtin.Re.reRawOf, C2]) ?_ (by omega) hr (by omega) ?_ fun t' h3 tk3 k3 => ?_
  · simp
  · show _ + _ * (List.replicate u.toNat 32).toArray.size ≤ _
    simp only [List.size_toArray, List.length_replicate]
    have : rs.length * u.toNat ≤ 1000 * 4 := Nat.mul_le_mul hrs hul
    omega
  · exact leaveK_ (L' := L') ⟨F'.ns.at' fun o e => k3 _ _ e, fun b o e => k3 _ _ (F'.keep b o e), F'.above⟩ (fun q hq => ⟨k3 _ _ (N' q hq).1, (N' q hq).2⟩) fun Fh Nh => ret t' h3 tk3 Fh Nh
set_option maxHeartbeats 8000000 in
theorem indent_one (w : World) (p : Program) (loose : List Str) (mean : ExcName → Option Value) (mg mb : Str → Option Value) (dp un : Nat) (gd : Option (List Code)) (cn : Str) (cs : Scope) (a : Addr) (ccd : Value) (cl : List (Str × Addr)) (outer : List Env) (A₀ : Around) (base h₀ : Heap) (L : Addr) (m : Str → Option Value) (news : List (Addr × Obj)) (s : Shared) (Q E : Value → Shared → Prop) (x : Str) (t : Tok) (rs : List (List Nat))
    (B : Below A₀ base outer h₀) (F : Fr h₀ L s.heap m) (X : (Mine.hd.heap_39 w.params).In h₀) (N : News h₀ L s.heap news) (T : Top p loose mean mg mb h₀) (hk : cs.kind = .function)
    (hd : dp + 10 < recursionLimit) (hun : un + 20 < cLine) (hx : x.length ≤ 10000) (hr : RowsAt x.cps.toList 0 rs) (hrs : rs.length ≤ 1000)
    (ret : ∀ (t' : Tok) (h' : Heap) (tk' : Nat), Fr h₀ L h' m → News h₀ L h' news → Q (.str ⟨(padRows (List.replicate (4 : Int).toNat 32) rs).toArray⟩ t') { s with heap := h', toks := tk' }) :
    wpAny (model PySem.Challenge.rw_wb0006_01.row.prog w) (ktrTop dp un gd cn cs L a ccd cl outer) (call (.ref 56) [.str x t]) Q E s := by
  revert X N; k_fill; intro X N
  refine wpAny_call ?_
  k_dflt (refine' code_def ?k1 ?k2 ?k3 ?k4 ?k5 ?kA ?kF ?kK ?k6 ?k7 ?k8 ?k9 ?kB ?_ ?c2 ?c3 ?c4 ?c5; (case kA => exact rfl); (case kF => exact rfl); (case kK => assumption); (case k1 => k_asm); (case k2 => k_asm); (case k3 => k_asm); (case k4 => k_asm); (case k5 => k_asm); (case k6 => k_is); (case k7 => k_is); (case k8 => k_room); (case k9 => first | exact BindsTo.of_eq rfl | exact binds_K (by k_in) rfl (by k_is) rfl rfl rfl); (case c5 => decide); (case kB => exact locs rfl); (case c2 => exact rfl); (case c3 => exact rfl); (case c4 => exact rfl); k_whole; intro g' L' h' FG' F' N' B' X' T'; (try dsimp only); (try k_lift B'); (try k_fold))
  iterate 5 (first | walk1 | (dsimp only; walk1))
  have hpat : h'.get? 48 = _ := F'.keep _ _ (X' 48 _ (by k_is))
  refine getMethod_builtin (T := "re.Pattern") ⟨_, hpat, rfl⟩ pa_pattern slot_re_sub type_re_sub (fun a e => by cases e; exact ⟨_, hpat, rfl⟩) ?_
  iterate 5 (first | walk1 | (dsimp only; walk1))
  refine mul_int_str (mulok_blank 4 (by decide)) fun t2 k2 => ?_
  rw [mul_blank 4 (by decide)]
  iterate 3 (first | walk1 | (dsimp only; walk1))
  have hpat2 : h'.get? 48 = _ := F'.keep _ _ (X' 48 _ (by k_is))
  have hcod2 : h'.get? 47 = _ := F'.keep _ _ (X' 47 _ (by k_is))
  have hul : (4 : Int).toNat ≤ 4 := by omega
  refine sub_rows (pa := 48) (ca := 47) (pad := ⟨(List.replicate (4 : Int).toNat 32).toArray⟩) ⟨hpat2, hcod2⟩ (by simp [Builtin.Re.reRawOf, C2]) ?_ (by omega) hr (by omega) ?_ fun t' h3 tk3 k3 => ?_
  · simp
  · show _ + _ * (List.replicate (4 : Int).toNat 32).toArray.size ≤ _
    simp only [List.size_toArray, List.length_replicate]
    have : rs.length * (4 : Int).toNat ≤ 1000 * 4 := Nat.mul_le_mul hrs hul
    omega
  · exact leaveK_ (L' := L') ⟨F'.ns.at' fun o e => k3 _ _ e, fun b o e => k3 _ _ (F'.keep b o e), F'.above⟩ (fun q hq => ⟨k3 _ _ (N' q hq).1, (N' q hq).2⟩) fun Fh Nh => ret t' h3 tk3 Fh Nh
end Mine

end

section
/- the part WC -/
open PySem PySem.W PyProof.Rows PySem.Spec PySem.Calls
set_option maxRecDepth 100000
namespace Mine
local macro_rules | `(tactic| k_room) => `(tactic| ((try simp only [depth_mark, depth_under_make, depth_under_kw, depth_in1, depth_deeper, depth_caller]); (try dsimp only [ktrTop]); first | omega | decide))

def hexDigits : List Nat := [48, 49, 50, 51, 52, 53, 54, 55, 56, 57, 97, 98, 99, 100, 101, 102]
/-- an id's figures: from r on, as many as z says -/
def idDig (r z : Nat) : List Nat := ((hexDigits ++ hexDigits ++ hexDigits).drop r).take (if z = 12 then 5 else 6 + z)
def idLow (r z : Nat) : List Nat := [32, 97, 116, 32, 48, 120] ++ idDig r z
def idOf (x : Int) : Str := ⟨(if x.fmod 5 = 4 then (idLow (x.fmod 16).toNat (x.fmod 13).toNat).map up1 else idLow (x.fmod 16).toNat (x.fmod 13).toNat).toArray⟩

theorem id_cases (x : Int) : ∃ (r z : Nat), r < 16 ∧ z < 13 ∧ x.fmod 16 = (r : Int) ∧ x.fmod 13 = (z : Int) := by
  have h1 := Int.fmod_nonneg_of_pos x (show (0 : Int) < 16 by decide)
  have h2 := Int.fmod_lt_of_pos x (show (0 : Int) < 16 by decide)
  have h3 := Int.fmod_nonneg_of_pos x (show (0 : Int) < 13 by decide)
  have h4 := Int.fmod_lt_of_pos x (show (0 : Int) < 13 by decide)
  exact ⟨(x.fmod 16).toNat, (x.fmod 13).toNat, by omega, by omega, by omega, by omega⟩
theorem mul_dig : Txt.mul (Str.ofString "0123456789abcdef") 3 = ⟨(hexDigits ++ hexDigits ++ hexDigits).toArray⟩ := by decide +kernel
theorem slice_dig {r k : Nat} (hr : r < 16) (hk : k ≤ 17) : Txt.slice (Txt.mul (Str.ofString "0123456789abcdef") 3) (some (r : Int)) (some ((r : Int) + (k : Int))) = ⟨(((hexDigits ++ hexDigits ++ hexDigits).drop r).take k).toArray⟩ := by
  rw [mul_dig]
  have h := slice_closesL (x := ⟨(hexDigits ++ hexDigits ++ hexDigits).toArray⟩) (i := (r : Int)) (j := (r : Int) + (k : Int)) (by omega) (by omega) (by
    have : (⟨(hexDigits ++ hexDigits ++ hexDigits).toArray⟩ : Str).length = 48 := rfl
    rw [this]; omega)
  rw [beq_iff_eq.mp h]
  have e : ((r : Int) + (k : Int) - (r : Int)).toNat = k := by omega
  rw [e]; rfl
theorem dig_len {r z : Nat} (hr : r < 16) (hz : z < 13) : (idDig r z).length = (if z = 12 then 5 else 6 + z) := by
  unfold idDig
  rw [List.length_take, List.length_drop]
  have : (hexDigits ++ hexDigits ++ hexDigits).length = 48 := rfl
  rw [this]
  split <;> omega
theorem dig_mem {r z c : Nat} (h : c ∈ idDig r z) : c ∈ hexDigits := by
  have h1 := List.mem_of_mem_drop (List.mem_of_mem_take h)
  simp only [List.mem_append] at h1
  rcases h1 with (h1 | h1) | h1 <;> exact h1
theorem hex_small : ∀ c ∈ hexDigits, c < 128 := by decide
theorem low_small {r z c : Nat} (h : c ∈ idLow r z) : c < 128 := by
  rcases List.mem_append.mp h with h | h
  · simp only [List.mem_cons, List.not_mem_nil, or_false] at h; omega
  · exact hex_small c (dig_mem h)
theorem add_dig (l : List Nat) : Str.ofString " at 0x" ++ (⟨l.toArray⟩ : Str) = ⟨([32, 97, 116, 32, 48, 120] ++ l).toArray⟩ := by
  have h : Str.ofString " at 0x" = ⟨#[32, 97, 116, 32, 48, 120]⟩ := by decide +kernel
  rw [h]
  apply Str.ext'
  rw [Str.cps_append]; simp
theorem up_dig (r z : Nat) : Txt.upper ⟨(idLow r z).toArray⟩ = ⟨((idLow r z).map up1).toArray⟩ := by
  rw [upper_ascii (fun c hc => low_small (by simpa using hc))]
  congr 1; simp
theorem idOf_low {x : Int} {r z : Nat} (hr : x.fmod 16 = (r : Int)) (hz : x.fmod 13 = (z : Int)) (h : x.fmod 5 ≠ 4) : idOf x = ⟨(idLow r z).toArray⟩ := by
  unfold idOf
  rw [hr, hz, if_neg h]; rfl
theorem idOf_up {x : Int} {r z : Nat} (hr : x.fmod 16 = (r : Int)) (hz : x.fmod 13 = (z : Int)) (h : x.fmod 5 = 4) : idOf x = ⟨((idLow r z).map up1).toArray⟩ := by
  unfold idOf
  rw [hr, hz, if_pos h]; rfl
theorem len_dig {r z : Nat} (hr : r < 16) (hz : z < 13) : (Str.ofString " at 0x").length + (⟨(idDig r z).toArray⟩ : Str).length ≤ sizeLine := by
  have e : (Str.ofString " at 0x").length = 6 := by decide +kernel
  have e2 : (⟨(idDig r z).toArray⟩ : Str).length = (idDig r z).length := rfl
  rw [e, e2, dig_len hr hz, sizeLine_eq]
  split <;> omega
theorem len_low {r z : Nat} (hr : r < 16) (hz : z < 13) : (⟨(idLow r z).toArray⟩ : Str).length ≤ 1000 := by
  have e2 : (⟨(idLow r z).toArray⟩ : Str).length = 6 + (idDig r z).length := by
    show (idLow r z).toArray.size = _
    unfold idLow
    simp; omega
  rw [e2, dig_len hr hz]
  split <;> omega

section
variable {prog : Program} {w : World} {A : Around} {E : Value → Shared → Prop} {s : Shared} {t u : Tok}
theorem add_id5 {x : Int} {Q : Value → Shared → Prop} (h : x.fmod 13 = 12) (hQ : ∀ t' k, Q (.str ⟨(idLow (x.fmod 16).toNat (x.fmod 13).toNat).toArray⟩ t') { s with toks := k }) :
    wpAny (model prog w) A (binaryOp .Add (.str (Str.ofString " at 0x") t) (.str (Txt.slice (Txt.mul (Str.ofString "0123456789abcdef") 3) (some (x.fmod 16)) (some (x.fmod 16 + 5))) u)) Q E s := by
  obtain ⟨r, z, hr16, hz13, hr, hz⟩ := id_cases x
  have ez : z = 12 := by omega
  subst ez
  rw [hr, hz] at hQ
  simp only [Int.toNat_natCast] at hQ
  rw [hr, show ((r : Int) + 5) = (r : Int) + ((5 : Nat) : Int) from rfl, slice_dig hr16 (by decide)]
  refine SB.add (fun t2 k2 => ?_) (len_dig hr16 hz13)
  rw [add_dig]
  exact hQ t2 k2
theorem add_idz {x : Int} {Q : Value → Shared → Prop} (h : x.fmod 13 ≠ 12) (hQ : ∀ t' k, Q (.str ⟨(idLow (x.fmod 16).toNat (x.fmod 13).toNat).toArray⟩ t') { s with toks := k }) :
    wpAny (model prog w) A (binaryOp .Add (.str (Str.ofString " at 0x") t) (.str (Txt.slice (Txt.mul (Str.ofString "0123456789abcdef") 3) (some (x.fmod 16)) (some (x.fmod 16 + (6 + x.fmod 13)))) u)) Q E s := by
  obtain ⟨r, z, hr16, hz13, hr, hz⟩ := id_cases x
  have ez : z ≠ 12 := by omega
  rw [hr, hz] at hQ
  simp only [Int.toNat_natCast] at hQ
  have e : idDig r z = ((hexDigits ++ hexDigits ++ hexDigits).drop r).take (6 + z) := by unfold idDig; rw [if_neg ez]
  have hl := len_dig hr16 hz13
  rw [e] at hl
  rw [hr, hz, show ((r : Int) + (6 + (z : Int))) = (r : Int) + ((6 + z : Nat) : Int) by omega, slice_dig hr16 (by omega)]
  refine SB.add (fun t2 k2 => ?_) hl
  rw [add_dig]
  have := hQ t2 k2
  unfold idLow at this
  rw [e] at this
  exact this
theorem low_len (x : Int) : (⟨(idLow (x.fmod 16).toNat (x.fmod 13).toNat).toArray⟩ : Str).length ≤ 1000 := by
  obtain ⟨r, z, hr16, hz13, hr, hz⟩ := id_cases x
  rw [hr, hz]
  exact len_low hr16 hz13
end

theorem up_eq {x : Int} (h : x.fmod 5 = 4) : Txt.upper ⟨(idLow (x.fmod 16).toNat (x.fmod 13).toNat).toArray⟩ = idOf x := by
  unfold idOf
  rw [if_pos h, up_dig]
theorem low_eq {x : Int} (h : x.fmod 5 ≠ 4) : (⟨(idLow (x.fmod 16).toNat (x.fmod 13).toNat).toArray⟩ : Str) = idOf x := by
  unfold idOf
  rw [if_neg h]

set_option maxHeartbeats 8000000 in
theorem id_call (w : World) (p : Program) (loose : List Str) (mean : ExcName → Option Value) (mg mb : Str → Option Value) (dp un : Nat) (gd : Option (List Code)) (cn : Str) (cs : Scope) (a : Addr) (ccd : Value) (cl : List (Str × Addr)) (outer : List Env) (A₀ : Around) (base h₀ : Heap) (L : Addr) (m : Str → Option Value) (news : List (Addr × Obj)) (s : Shared) (Q E : Value → Shared → Prop) (x : Int) (t : Tok)
    (B : Below A₀ base outer h₀) (F : Fr h₀ L s.heap m) (X : (Mine.hd.heap_39 w.params).In h₀) (N : News h₀ L s.heap news) (T : Top p loose mean mg mb h₀) (hk : cs.kind = .function)
    (hd : dp + 10 < recursionLimit) (hun : un + 20 < cLine)
    (ret : ∀ (t' : Tok) (h' : Heap) (tk' : Nat), Fr h₀ L h' m → News h₀ L h' news → Q (.str (idOf x) t') { s with heap := h', toks := tk' }) :
    wpAny (model PySem.Challenge.rw_wb0006_01.row.prog w) (ktrTop dp un gd cn cs L a ccd cl outer) (call (.ref 63) [.int x t]) Q E s := by
  revert X N; k_fill; intro X N
  refine wpAny_call ?_
  k_dflt cell_enter
  repeat' ((fail_if_success (with_reducible show wpAny _ _ (binaryOp Operator.Add (Value.str _ _) (Value.str _ _)) _ _ _)); (first | walk1 | (dsimp only; walk1)))
  · refine add_id5 (by assumption) fun t2 k2 => ?_
    have hll := low_len x
    repeat' (first | walk1 | (dsimp only; walk1))
    · exact cb_retS ret (up_eq (by assumption)) (by k_asm) (by k_asm)
    · exact cb_retS ret (low_eq (by assumption)) (by k_asm) (by k_asm)
  · refine add_idz (by assumption) fun t2 k2 => ?_
    have hll := low_len x
    repeat' (first | walk1 | (dsimp only; walk1))
    · exact cb_retS ret (up_eq (by assumption)) (by k_asm) (by k_asm)
    · exact cb_retS ret (low_eq (by assumption)) (by k_asm) (by k_asm)
end Mine

end

section
/- the part WD -/
open PySem PySem.W PyProof.Rows PySem.Spec PySem.Calls
set_option maxRecDepth 100000
namespace Mine
section
variable {prog : Program} {w : World} {A : Around} {E : Value → Shared → Prop} {s : Shared} {env : Env} {h₀ : Heap} {x : Str} {body : List Stmt} {Q : Flow → Shared → Prop}

/-- a turn's end: the frame, the ledger, what is kept from turn to turn -/
def TurnEnd (h₀ : Heap) (L : Addr) (J : (Str → Option Value) → List (Addr × Obj) → Prop) (own : List (Addr × Obj)) (s₁ s₂ : Shared) : Prop :=
  ∃ h' tk m' news' nx, s₂ = { s₁ with heap := h', toks := tk } ∧ Fr h₀ L h' m' ∧ News h₀ L h' news' ∧ (∀ p ∈ nx, p ∈ news') ∧ (∀ p ∈ own, p ∈ news') ∧ (∀ p ∈ nx, ∀ q ∈ own, p.1 ≠ q.1) ∧ J m' nx
def TurnPost (h₀ : Heap) (L : Addr) (J : (Str → Option Value) → List (Addr × Obj) → Prop) (own : List (Addr × Obj)) (s₁ : Shared) (Q : Flow → Shared → Prop) (f : Flow) (s₂ : Shared) : Prop :=
  match f with
  | .ret v => Q (.ret v) s₂
  | .brk => Q .next s₂
  | _ => TurnEnd h₀ L J own s₁ s₂

theorem TurnEnd.head {L D : Addr} {J : (Str → Option Value) → List (Addr × Obj) → Prop} {m' : Str → Option Value} {od od0 : Obj} {own : List (Addr × Obj)} {s₁ : Shared} {h' : Heap} {tk : Nat} (rest : List (Addr × Obj)) (F : Fr h₀ L h' m') (N : News h₀ L h' ((D, od) :: (rest ++ own)))
    (hoff : ∀ p ∈ (D, od0) :: rest, ∀ q ∈ own, p.1 ≠ q.1) (hJ : J m' ((D, od) :: rest)) : TurnEnd h₀ L J own s₁ { s₁ with heap := h', toks := tk } := by
  refine ⟨h', tk, m', _, (D, od) :: rest, rfl, F, N, fun p hp => ?_, fun p hp => .tail _ (List.mem_append_right _ hp), fun p hp q hq => ?_, hJ⟩
  · rcases List.mem_cons.mp hp with h | h
    · exact h ▸ .head _
    · exact .tail _ (List.mem_append_left _ h)
  · rcases List.mem_cons.mp hp with rfl | h
    · exact hoff (D, od0) (.head _) q hq
    · exact hoff p (.tail _ h) q hq

theorem loopT {I : Addr} {n : Nat} {P : Nat → Value → Prop} {St : Nat → Heap → Prop} {m₀ : Str → Option Value} {news : List (Addr × Obj)} (J : Nat → (Str → Option Value) → List (Addr × Obj) → Prop)
    (W : Walks prog w A I [I] [I] n P St) (hLf : env.locals ≠ I) (hwr : h₀.get? I = none) (hnw : ∀ p ∈ news, p.1 ≠ I) (hlive : ∀ i h, St i h → ∃ o, h.get? I = some o) (hst : St 0 s.heap) (F : Fr h₀ env.locals s.heap m₀) (N : News h₀ env.locals s.heap news) (hj : J 0 m₀ news)
    (turn : ∀ i v m₁ news₁ h tk own, i < n → P i v → (∀ p ∈ news₁, ∀ q ∈ own, p.1 ≠ q.1) → J i m₁ news₁ → Fr h₀ env.locals h (fun y => if y = x then some v else m₁ y) → News h₀ env.locals h (news₁ ++ own) →
      wpAny (model prog w) A (execs body env) (TurnPost h₀ env.locals (J (i + 1)) own { s with heap := h, toks := tk } Q) E { s with heap := h, toks := tk })
    (done : ∀ m₁ news₁ h tk, J n m₁ news₁ → Fr h₀ env.locals h m₁ → News h₀ env.locals h news₁ → Q .next { s with heap := h, toks := tk }) :
    LoopAtV prog w A h₀ env x body Q E (.ref I) s := by
  refine ⟨I, [I], [I], n, P, St, m₀, news, J, rfl, W, (by simpa using hLf), (by simpa using hwr), (fun p hp => by simpa using hnw p hp), hst, F, N, hj, ?_, ?_⟩
  · rintro i v m₁ news₁ s₁ own ⟨hh', tk', rfl⟩ hin hP hJ hoff hown _ hall hst' F₁ N₁
    obtain ⟨o, ho⟩ := hlive _ _ hst'
    have hI : (I, o) ∈ own := hall I (by simp) hwr o ho
    have hsep : ∀ p ∈ news₁, ∀ q ∈ own, p.1 ≠ q.1 := fun p hp q hq e => hoff p hp (e ▸ hown q hq)
    have N₂ : News h₀ env.locals hh' (news₁ ++ own) := fun p hp => N₁ p ((List.mem_append.mp hp).elim (fun h => List.mem_append.mpr (.inr h)) fun h => List.mem_append.mpr (.inl h))
    refine wpAny_mono (turn i v m₁ news₁ hh' tk' own hin hP hsep hJ F₁ N₂) (fun f s₂ p => ?_) fun _ _ e => e
    have fin : TurnEnd h₀ env.locals (J (i + 1)) own { s with heap := hh', toks := tk' } s₂ → LoopStepU h₀ env.locals [I] own (J (i + 1)) { s with heap := hh', toks := tk' } .next s₂ := by
      rintro ⟨h', tk, m', news', nx, e, F', N', hn, ho', ha, hm⟩
      refine ⟨rfl, h', tk, m', nx, e, F', fun p hp => N' p ((List.mem_append.mp hp).elim (ho' p) (hn p)), fun p hp hq => ?_, hm⟩
      rw [List.mem_singleton] at hq
      exact ha p hp (I, o) hI hq
    cases f with
    | ret v => exact .ret p
    | brk => exact .brk p
    | next => exact .next (fin p)
    | cont => exact .cont (fin p)
  · rintro h' tk m' news' F' N' _ hJ
    exact done m' news' h' tk hJ F' N'

/-- a loop over a range of any step -/
theorem rangeT {r : Addr} {a₀ b₀ c : Int} {t₀ u₀ v₀ : Tok} {n : Nat} {m₀ : Str → Option Value} {news : List (Addr × Obj)} (J : Nat → (Str → Option Value) → List (Addr × Obj) → Prop)
    (hh : A.handled = none) (hr : IsRange s.heap r a₀ b₀ c t₀ u₀ v₀) (hsmall : Builtin.Range.small a₀ b₀ c = true) (hn : Builtin.Range.rangeSize a₀ b₀ c = (n : Int)) (F : Fr h₀ env.locals s.heap m₀) (N : News h₀ env.locals s.heap news) (hj : J 0 m₀ news)
    (turn : ∀ i t m₁ news₁ h tk own, i < n → (∀ p ∈ news₁, ∀ q ∈ own, p.1 ≠ q.1) → J i m₁ news₁ → Fr h₀ env.locals h (fun y => if y = x then some (.int (a₀ + (i : Nat) * c) t) else m₁ y) → News h₀ env.locals h (news₁ ++ own) →
      wpAny (model prog w) A (execs body env) (TurnPost h₀ env.locals (J (i + 1)) own { s with heap := h, toks := tk } Q) E { s with heap := h, toks := tk })
    (done : ∀ m₁ news₁ h tk, J n m₁ news₁ → Fr h₀ env.locals h m₁ → News h₀ env.locals h news₁ → Q .next { s with heap := h, toks := tk }) :
    wpAny (model prog w) A (pyIter (.ref r)) (fun it s₂ => LoopAtV prog w A h₀ env x body Q E it s₂) E s := by
  refine wpAny_pyIter_range hr hsmall ?_
  have W : Walks prog w A s.heap.objs.size [s.heap.objs.size] [s.heap.objs.size] n (fun i v => i < n ∧ ∃ t, v = .int (a₀ + i * c) t)
      (fun i h => IsRangeIter h s.heap.objs.size (a₀ + (i : Nat) * c) ((n : Int) - (i : Nat)) c) := (Walks.range hh _ a₀ c n).bound
  refine loopT J W ?_ ?_ ?_ (fun i h st => ⟨_, st⟩) (by show IsRangeIter _ _ _ _ _; rw [hn]; simpa using Heap.get?_push_size _ rfl) (F.push _) (fun p hp => ⟨Heap.get?_push_of_some _ (N p hp).1, (N p hp).2⟩) hj ?_ ?_
  · exact Nat.ne_of_lt F.ns.lt
  · exact next_is_new F
  · intro p hp
    exact Nat.ne_of_lt (Heap.lt_size (N p hp).1)
  · rintro i v m₁ nx h tk own hi ⟨_, t, rfl⟩ hoff hJ F₁ N₁
    exact turn i t m₁ nx h tk own hi hoff hJ F₁ N₁
  · intro m₁ nx h tk hJ F₁ N₁
    exact done m₁ nx h tk hJ F₁ N₁
end

theorem fr_know {h₀ h : Heap} {L : Addr} {m : Str → Option Value} {x : Str} {v : Value} (hx : m x = some v) (F : Fr h₀ L h m) : Fr h₀ L h (fun y => if y = x then some v else m y) := by
  have e : (fun y => if y = x then some v else m y) = m := by
    funext y
    by_cases hy : y = x
    · rw [if_pos hy, hy, hx]
    · rw [if_neg hy]
  rw [e]; exact F

theorem strs_set {x : Str} {u : Tok} : ∀ {vs : List Value} {xs : List Str}, StrsAre vs xs → ∀ j : Nat, StrsAre (vs.set j (.str x u)) (xs.set j x)
  | _, _, .nil, _ => .nil
  | _, _, .cons _ _ r, 0 => .cons _ _ r
  | _, _, .cons a t r, j + 1 => .cons a t (strs_set r j)
theorem strs_rep (x : Str) (u : Tok) : ∀ n : Nat, StrsAre (List.replicate n (.str x u)) (List.replicate n x)
  | 0 => .nil
  | n + 1 => .cons _ _ (strs_rep x u n)

section
variable {prog : Program} {w : World} {A : Around} {E : Value → Shared → Prop} {s : Shared} {h₀ : Heap} {L D : Addr} {m : Str → Option Value} {news news' : List (Addr × Obj)} {vs : List Value} {xs : List Str} {n : Nat} {k : Int} {x : Str} {t u : Tok}
theorem strs_store {Q : Unit → Shared → Prop} (F : Fr h₀ L s.heap m) (N : News h₀ L s.heap news) (U : Upd D (W.listOf vs.toArray n) (W.listOf (vs.set k.toNat (.str x u)).toArray n) news news') (hi : StrsAre vs xs) (h0 : 0 ≤ k) (h1 : k < xs.length) (hfit : k < 2 ^ 63)
    (h : ∀ h', Fr h₀ L h' m → News h₀ L h' news' → Q () { s with heap := h' }) :
    wpAny (model prog w) A (setItem (.ref D) (.int k t) (.str x u)) Q E s := by
  obtain ⟨pre, post, rfl, rfl, a, b⟩ := U.split
  have z := N (D, W.listOf vs.toArray n) (List.mem_append.mpr (.inr (.head _)))
  have hl : vs.length = xs.length := hi.length
  have hs : vs.toArray.size = xs.length := by rw [List.size_toArray]; exact hl
  refine ki_setAt z.1 h0 hfit (by omega) (h _ (F.change (Heap.SameBut.update ..) z.2.1 z.2.2) (ki_turn _ N a b ?_ ?_))
  · show vs.toArray.setIfInBounds k.toNat (.str x u) = (vs.set k.toNat (.str x u)).toArray
    apply Array.toList_inj.mp
    simp
  · simp
end
end Mine

end

section
/- the part WE -/
open PySem PySem.W PyProof.Rows PySem.Spec PySem.Calls
set_option maxRecDepth 100000
namespace Mine
local macro_rules | `(tactic| k_room) => `(tactic| ((try simp only [depth_mark, depth_under_make, depth_under_kw, depth_in1, depth_deeper, depth_caller]); (try dsimp only [ktrTop]); first | omega | decide))

abbrev E0 : Str := Str.ofString ""
def nestStep (ts : List Str) (d : Nat) (nm id : Str) : List Str := (ts.set d (Str.ofString "<" ++ nm ++ ts.getD (d + 1) Str.empty ++ id ++ Str.ofString ">" ++ ts.getD d Str.empty)).set (d + 1) E0
def nestTold (ds : List Int) (ns is : List Str) : Nat → List Str
  | 0 => List.replicate (ds.length + 1) E0
  | i + 1 => nestStep (nestTold ds ns is i) (ds.getD (ds.length - 1 - i) 0).toNat (ns.getD (ds.length - 1 - i) Str.empty) (is.getD (ds.length - 1 - i) Str.empty)
def nestS (ds : List Int) (ns is : List Str) : Str := (nestTold ds ns is ds.length).getD 0 Str.empty

theorem mem_left4 {α : Type} {p a b c d : α} {l o : List α} (h : p ∈ a :: b :: c :: d :: l) : p ∈ a :: b :: c :: d :: (l ++ o) :=
  List.mem_append_left (as := a :: b :: c :: d :: l) o h
theorem mem_right4 {α : Type} {p a b c d : α} {l o : List α} (h : p ∈ o) : p ∈ a :: b :: c :: d :: (l ++ o) :=
  List.mem_append_right (a :: b :: c :: d :: l) h
theorem flat_one {α : Type} (v : α) : ∀ n : Nat, (List.replicate n [v]).flatten = List.replicate n v
  | 0 => rfl
  | n + 1 => by rw [List.replicate_succ, List.flatten_cons, flat_one v n]; rfl
theorem step_len {ts : List Str} {d : Nat} {nm id : Str} : (nestStep ts d nm id).length = ts.length := by simp [nestStep]
theorem told_len (ds : List Int) (ns is : List Str) : ∀ i, (nestTold ds ns is i).length = ds.length + 1
  | 0 => by simp [nestTold]
  | i + 1 => by rw [nestTold, step_len, told_len ds ns is i]
theorem getD_set' {ts : List Str} {i j : Nat} {x : Str} : (ts.set i x).getD j Str.empty = if i = j ∧ j < ts.length then x else ts.getD j Str.empty := by
  simp only [List.getD_eq_getElem?_getD, List.getElem?_set]
  by_cases h : i = j
  · subst h
    by_cases h2 : i < ts.length
    · simp [h2]
    · simp [h2]
  · simp [h]
theorem len_lt : (Str.ofString "<").length = 1 := by decide +kernel
theorem len_gt : (Str.ofString ">").length = 1 := by decide +kernel
theorem len_e0 : E0.length = 0 := by decide +kernel
theorem step_bound {ts : List Str} {d : Nat} {nm id : Str} {b : Nat} (h : ∀ j, (ts.getD j Str.empty).length ≤ b) (hn : nm.length ≤ 20) (hi : id.length ≤ 30) : ∀ j, ((nestStep ts d nm id).getD j Str.empty).length ≤ 52 + 2 * b := by
  intro j
  unfold nestStep
  rw [getD_set']
  split
  · rw [len_e0]; omega
  · rw [getD_set']
    split
    · simp only [Str.length_append, len_lt, len_gt]
      have := h (d + 1)
      have := h d
      omega
    · have := h j; omega
theorem told_bound {ds : List Int} {ns is : List Str} (b2 : ∀ i, (ns.getD i Str.empty).length ≤ 20) (b3 : ∀ i, (is.getD i Str.empty).length ≤ 30) : ∀ i j, ((nestTold ds ns is i).getD j Str.empty).length ≤ 52 * (2 ^ i - 1)
  | 0, j => by
    have : (nestTold ds ns is 0).getD j Str.empty = Str.empty ∨ (nestTold ds ns is 0).getD j Str.empty = E0 := by
      unfold nestTold
      by_cases h : j < ds.length + 1
      · right; simp [List.getD_eq_getElem?_getD, List.getElem?_replicate, h]
      · left; simp [List.getD_eq_getElem?_getD, List.getElem?_replicate, h]
    rcases this with e | e <;> rw [e]
    · decide
    · rw [len_e0]; omega
  | i + 1, j => by
    have := step_bound (d := (ds.getD (ds.length - 1 - i) 0).toNat) (told_bound (ds := ds) b2 b3 i) (b2 (ds.length - 1 - i)) (b3 (ds.length - 1 - i)) j
    refine Nat.le_trans this ?_
    have : 1 ≤ 2 ^ i := Nat.one_le_two_pow
    rw [Nat.pow_succ]
    omega

local macro_rules | `(tactic| walk_at "subscriptTail") => `(tactic| (k_here; (with_reducible show wpAny _ _ (subscriptTail _ _ (Value.ref _) (Value.int _ _)) _ _ _); (refine' KTb.item_list ?sl ?sw ?s0 ?s1 ?sf ?_; (case sl => is_list); (case sw => with_reducible assumption); (case s0 => omega); (case s1 => omega); (case sf => omega)); intro _ _))
local macro_rules | `(tactic| walk_at "binaryOp Add str str") => `(tactic| (k_here; (with_reducible show wpAny _ _ (binaryOp Operator.Add (Value.str _ _) (Value.str _ _)) _ _ _); refine SB.add (fun _ _ => ?_) (by simp only [Str.length_append, sizeLine_eq, len_lt, len_gt]; omega)))
local macro_rules | `(tactic| walk_at "setItem ref int") => `(tactic| (k_here; (with_reducible show wpAny _ _ (setItem (Value.ref _) (Value.int _ _) (Value.str _ _)) _ _ _); (refine' strs_store ?sF ?sN ?sU ?shi ?sh0 ?sh1 ?shf ?_; (case sF => k_asm); (case sN => k_asm); (case sU => exact Upd.head (by assumption)); (case shi => first | with_reducible assumption | exact strs_set (by with_reducible assumption) _); (case sh0 => omega); (case sh1 => (try simp only [List.length_set]); omega); (case shf => omega)); intro _ _ _))

set_option maxHeartbeats 8000000 in
theorem nest_call (w : World) (p : Program) (loose : List Str) (mean : ExcName → Option Value) (mg mb : Str → Option Value) (dp un : Nat) (gd : Option (List Code)) (cn : Str) (cs : Scope) (a : Addr) (ccd : Value) (cl : List (Str × Addr)) (outer : List Env) (A₀ : Around) (base h₀ : Heap) (L : Addr) (m : Str → Option Value) (news : List (Addr × Obj)) (s : Shared) (Q E : Value → Shared → Prop)
    (dA nA iA : Addr) (dv nv iv : List Value) (dn nn ii : Nat) (ds : List Int) (ns is : List Str)
    (B : Below A₀ base outer h₀) (F : Fr h₀ L s.heap m) (X : (Mine.hd.heap_39 w.params).In h₀) (N : News h₀ L s.heap ((dA, W.listOf dv.toArray dn) :: (nA, W.listOf nv.toArray nn) :: (iA, W.listOf iv.toArray ii) :: news)) (T : Top p loose mean mg mb h₀) (hk : cs.kind = .function)
    (hd : dp + 10 < recursionLimit) (hun : un + 20 < cLine)
    (i1 : IntsAre dv ds) (i2 : StrsAre nv ns) (i3 : StrsAre iv is)
    (l1 : 1 ≤ ds.length ∧ ds.length ≤ 6) (l2 : ds.length ≤ ns.length) (l3 : ds.length ≤ is.length) (hds : ∀ i, i < ds.length → 0 ≤ ds.getD i 0 ∧ ds.getD i 0 ≤ (i : Int))
    (b2 : ∀ i, (ns.getD i Str.empty).length ≤ 20) (b3 : ∀ i, (is.getD i Str.empty).length ≤ 30)
    (ret : ∀ (t' : Tok) (h' : Heap) (tk' : Nat), Fr h₀ L h' m → News h₀ L h' ((dA, W.listOf dv.toArray dn) :: (nA, W.listOf nv.toArray nn) :: (iA, W.listOf iv.toArray ii) :: news) → Q (.str (nestS ds ns is) t') { s with heap := h', toks := tk' }) :
    wpAny (model PySem.Challenge.rw_wb0006_01.row.prog w) (ktrTop dp un gd cn cs L a ccd cl outer) (call (.ref 70) [.ref dA, .ref nA, .ref iA]) Q E s := by
  revert X N; k_fill; intro X N
  refine wpAny_call ?_
  k_dflt cell_enter
  repeat' ((fail_if_success (with_reducible show wpAny _ _ (binaryOp Operator.Mult _ _) _ _ _)); (first | walk1 | (dsimp only; walk1)))
  refine' KMa.mul (ws := List.replicate (ds.length + 1) (.str E0 tk)) ?kF ?kN ?kl ?klo ?khi ?z ?e ?_
  case kF => k_asm
  case kN => k_asm
  case kl => is_list
  case klo => omega
  case khi => omega
  case z => simp only [List.length_cons, List.length_nil]; omega
  case e =>
    rw [show ((ds.length : Int) + 1).toNat = ds.length + 1 by omega]
    exact flat_one _ _
  intro D hD FD ND lD
  have hs0 := strs_rep E0 tk (ds.length + 1)
  generalize List.replicate (ds.length + 1) (Value.str E0 tk) = v0 at ND hs0
  have lD0 := lD
  k_lt lD
  repeat' ((fail_if_success (with_reducible show wpAny _ _ (pyIter _) _ _ _)); (first | walk1 | (dsimp only; walk1)))
  rename_i kR kF kN _
  refine rangeT (n := ds.length) (fun i mm nx => ∃ tv tn, nx = (D, W.listOf tv.toArray tn) :: (dA, W.listOf dv.toArray dn) :: (nA, W.listOf nv.toArray nn) :: (iA, W.listOf iv.toArray ii) :: news ∧ StrsAre tv (nestTold ds ns is i) ∧
      mm (Str.ofString "told") = some (.ref D) ∧ mm (Str.ofString "depths") = some (.ref dA) ∧ mm (Str.ofString "names") = some (.ref nA) ∧ mm (Str.ofString "ids") = some (.ref iA)) rfl kR ?small ?size kF
    (news := (D, W.listOf v0.toArray 0) :: (dA, W.listOf dv.toArray dn) :: (nA, W.listOf nv.toArray nn) :: (iA, W.listOf iv.toArray ii) :: news) ?kn ⟨_, _, rfl, hs0, rfl, rfl, rfl, rfl⟩ ?turn ?done
  case small => exact small_down (by omega) (by omega) (by decide) (by decide)
  case size => rw [rangeSize_downNat]; omega
  case kn => intro p hp; exact kN p (by rcases List.mem_cons.mp hp with h | h; exact h ▸ .head _; exact .tail _ (.tail _ h))
  case turn =>
    rintro i t m₁ nx h tk own hi hoff ⟨tv, tn, rfl, hts, k1, k2, k3, k4⟩ F₁ N₁
    clear kR kF kN
    have ek1 : ((ds.length : Int) - 1 + (i : Nat) * (-1)) = ((ds.length - 1 - i : Nat) : Int) := by omega
    rw [ek1] at F₁
    have hkk : ds.length - 1 - i < ds.length := by omega
    have hd1 := hds (ds.length - 1 - i) hkk
    have hn1 := b2 (ds.length - 1 - i)
    have hi1 := b3 (ds.length - 1 - i)
    have ets : nestTold ds ns is (i + 1) = nestStep (nestTold ds ns is i) (ds.getD (ds.length - 1 - i) 0).toNat (ns.getD (ds.length - 1 - i) Str.empty) (is.getD (ds.length - 1 - i) Str.empty) := rfl
    have htl := told_len ds ns is i
    have hb : ∀ j, ((nestTold ds ns is i).getD j Str.empty).length ≤ 4000 := fun j => Nat.le_trans (told_bound b2 b3 i j) (by
      have : 2 ^ i ≤ 2 ^ 6 := Nat.pow_le_pow_right (by decide) (by omega)
      omega)
    rw [ets]
    generalize ek2 : ds.length - 1 - i = kk at *
    generalize nestTold ds ns is i = ts at *
    have F₂ := fr_know (x := Str.ofString "ids") ((if_neg (by decide)).trans k4) F₁
    have F₃ := fr_know (x := Str.ofString "names") ((if_neg (by decide)).trans ((if_neg (by decide)).trans k3)) F₂
    have F₄ := fr_know (x := Str.ofString "depths") ((if_neg (by decide)).trans ((if_neg (by decide)).trans ((if_neg (by decide)).trans k2))) F₃
    have F₅ := fr_know (x := Str.ofString "told") ((if_neg (by decide)).trans ((if_neg (by decide)).trans ((if_neg (by decide)).trans ((if_neg (by decide)).trans k1)))) F₄
    clear F₁ F₂ F₃ F₄ ek1 hi
    simp only [List.cons_append] at N₁
    have hne : ∀ p ∈ (dA, W.listOf dv.toArray dn) :: (nA, W.listOf nv.toArray nn) :: (iA, W.listOf iv.toArray ii) :: (news ++ own), p.1 ≠ D := by
      intro p hp
      have hp' : p ∈ ((dA, W.listOf dv.toArray dn) :: (nA, W.listOf nv.toArray nn) :: (iA, W.listOf iv.toArray ii) :: news) ++ own := hp
      rcases List.mem_append.mp hp' with h | h
      · exact Nat.ne_of_lt (lD0 p (.tail _ h))
      · exact (hoff _ (.head _) p h).symm
    have hkt : (((kk : Nat) : Int)).toNat = kk := Int.toNat_natCast _
    have q0 : 0 ≤ ds.getD (((kk : Nat) : Int)).toNat 0 := by rw [hkt]; exact hd1.1
    have q1 : ds.getD (((kk : Nat) : Int)).toNat 0 + 1 < (ts.length : Int) := by rw [hkt]; omega
    have q2 : (ns.getD (((kk : Nat) : Int)).toNat Str.empty).length ≤ 20 := by rw [hkt]; exact hn1
    have q3 : (is.getD (((kk : Nat) : Int)).toNat Str.empty).length ≤ 30 := by rw [hkt]; exact hi1
    have q4 := hb (ds.getD (((kk : Nat) : Int)).toNat 0 + 1).toNat
    have q5 := hb (ds.getD (((kk : Nat) : Int)).toNat 0).toNat
    repeat' (first | walk1 | (dsimp only; walk1))
    rename_i fE nE
    have e1 : (ds.getD (((kk : Nat) : Int)).toNat 0 + 1).toNat = (ds.getD (((kk : Nat) : Int)).toNat 0).toNat + 1 := by omega
    refine TurnEnd.head ((dA, W.listOf dv.toArray dn) :: (nA, W.listOf nv.toArray nn) :: (iA, W.listOf iv.toArray ii) :: news) fE nE hoff ⟨_, _, rfl, ?_, rfl, rfl, rfl, rfl⟩
    rw [show nestStep ts (ds.getD kk 0).toNat (ns.getD kk Str.empty) (is.getD kk Str.empty) = (ts.set (ds.getD (((kk : Nat) : Int)).toNat 0).toNat (Str.ofString "<" ++ ns.getD (((kk : Nat) : Int)).toNat Str.empty ++ ts.getD (ds.getD (((kk : Nat) : Int)).toNat 0 + 1).toNat Str.empty ++ is.getD (((kk : Nat) : Int)).toNat Str.empty ++ Str.ofString ">" ++ ts.getD (ds.getD (((kk : Nat) : Int)).toNat 0).toNat Str.empty)).set (ds.getD (((kk : Nat) : Int)).toNat 0 + 1).toNat E0 from by unfold nestStep; rw [e1, hkt]]
    exact strs_set (strs_set (by assumption) _) _
  case done =>
    rintro m₁ nx h tk ⟨tv, tn, rfl, hts, k1, k2, k3, k4⟩ F₁ N₁
    clear kR kF kN
    have htl := told_len ds ns is ds.length
    have F₂ := fr_know (x := Str.ofString "told") k1 F₁
    clear F₁
    unfold nestS at ret
    generalize nestTold ds ns is ds.length = ts at *
    repeat' (first | walk1 | (dsimp only; walk1))
    rename_i kF kN _ _
    exact ret _ _ _ kF fun q hq => kN q (.tail _ hq)
end Mine

end

section
/- the part WF -/
open PySem PySem.W PyProof.Rows PySem.Spec PySem.Calls
set_option maxRecDepth 100000
namespace Mine
local macro_rules | `(tactic| k_room) => `(tactic| ((try simp only [depth_mark, depth_under_make, depth_under_kw, depth_in1, depth_deeper, depth_caller]); (try dsimp only [ktrTop]); first | omega | decide))

def rowsText (rs : List (List Nat)) : List Nat := padRows [] rs
def rowsStr (rs : List (List Nat)) : Str := ⟨(rowsText rs).toArray⟩
def pad (u : Nat) (rs : List (List Nat)) : List (List Nat) := rs.map (List.replicate u 32 ++ ·)
theorem padRows_eq (u : Nat) (rs : List (List Nat)) : padRows (List.replicate u 32) rs = rowsText (pad u rs) := by
  unfold rowsText padRows pad
  rw [List.map_map]
  congr 1
theorem rowsText_cons (r : List Nat) (rs : List (List Nat)) : rowsText (r :: rs) = r ++ [10] ++ rowsText rs := by
  have := padRows_cons [] r rs
  simpa [rowsText] using this
theorem rowsText_append (a b : List (List Nat)) : rowsText (a ++ b) = rowsText a ++ rowsText b := by simp [rowsText, padRows]

def RowOk (r : List Nat) : Prop := r ≠ [] ∧ 10 ∉ r
theorem rowsAt_from (pre : List Nat) : ∀ (rs : List (List Nat)) (q : Nat), pre.length = q → (q = 0 ∨ pre[q - 1]? = some 10) → (∀ r ∈ rs, RowOk r) → RowsAt (pre ++ rowsText rs) q rs
  | rs, q, hq, he, hr => by
    induction rs generalizing pre q with
    | nil => show q = (pre ++ []).length; rw [List.append_nil, hq]
    | cons r rs ih =>
      have h1 := hr r (.head _)
      refine ⟨h1.1, h1.2, ⟨rowsText rs, ?_⟩, ?_, ?_⟩
      · rw [List.drop_append, List.drop_eq_nil_of_le (by omega), hq, Nat.sub_self, rowsText_cons]; simp
      · rcases he with h | h
        · exact .inl h
        · right
          have hp : q - 1 < pre.length := by
            rcases Nat.lt_or_ge (q - 1) pre.length with h2 | h2
            · exact h2
            · rw [List.getElem?_eq_none h2] at h; cases h
          rw [List.getElem?_append_left hp]; exact h
      · have e : pre ++ rowsText (r :: rs) = (pre ++ (r ++ [10])) ++ rowsText rs := by rw [rowsText_cons]; simp
        rw [e]
        refine ih (pre ++ (r ++ [10])) (q + r.length + 1) (by simp; omega) (.inr ?_) fun r' h' => hr r' (.tail _ h')
        have : q + r.length + 1 - 1 = q + r.length := by omega
        rw [this, ← hq]
        simp
theorem rowsAt_zero {rs : List (List Nat)} (hr : ∀ r ∈ rs, RowOk r) : RowsAt (rowsText rs) 0 rs := by
  have := rowsAt_from [] rs 0 rfl (.inl rfl) hr
  simpa using this

def pageStep (T : List (List (List Nat))) (d : Nat) (nm : List Nat) (u : Nat) : List (List (List Nat)) := (T.set d (nm :: pad u (T.getD (d + 1) []) ++ T.getD d [])).set (d + 1) []
def pageTold (ds : List Int) (ns : List Str) (u : Nat) : Nat → List (List (List Nat))
  | 0 => List.replicate (ds.length + 1) []
  | i + 1 => pageStep (pageTold ds ns u i) (ds.getD (ds.length - 1 - i) 0).toNat (ns.getD (ds.length - 1 - i) Str.empty).cps.toList u
def pageS (ds : List Int) (ns : List Str) (u : Nat) : Str := rowsStr ((pageTold ds ns u ds.length).getD 0 [])

theorem pstep_len {T : List (List (List Nat))} {d u : Nat} {nm : List Nat} : (pageStep T d nm u).length = T.length := by simp [pageStep]
theorem ptold_len (ds : List Int) (ns : List Str) (u : Nat) : ∀ i, (pageTold ds ns u i).length = ds.length + 1
  | 0 => by simp [pageTold]
  | i + 1 => by rw [pageTold, pstep_len, ptold_len ds ns u i]
theorem getDset {T : List (List (List Nat))} {i j : Nat} {x : List (List Nat)} : (T.set i x).getD j [] = if i = j ∧ j < T.length then x else T.getD j [] := by
  simp only [List.getD_eq_getElem?_getD, List.getElem?_set]
  by_cases h : i = j
  · subst h
    by_cases h2 : i < T.length
    · simp [h2]
    · simp [h2]
  · simp [h]
/-- what holds of the rows: not empty, no line end, short, few -/
def PageOk (T : List (List (List Nat))) (b c : Nat) : Prop := ∀ j, (T.getD j []).length ≤ c ∧ ∀ r ∈ T.getD j [], RowOk r ∧ r.length ≤ b
theorem page_step {T : List (List (List Nat))} {d u b c : Nat} {nm : List Nat} (h : PageOk T b c) (hn : RowOk nm) (hl : nm.length ≤ b + u) : PageOk (pageStep T d nm u) (b + u) (1 + 2 * c) := by
  intro j
  unfold pageStep
  rw [getDset]
  split
  · exact ⟨by simp, fun r hr => nomatch hr⟩
  · rw [getDset]
    split
    · refine ⟨?_, fun r hr => ?_⟩
      · have := (h (d + 1)).1
        have := (h d).1
        have e1 : (pad u (T.getD (d + 1) [])).length = (T.getD (d + 1) []).length := List.length_map ..
        rw [List.length_append, List.length_cons, e1]; omega
      · rcases List.mem_append.mp hr with hr | hr
        · rcases List.mem_cons.mp hr with rfl | hr
          · exact ⟨hn, hl⟩
          · obtain ⟨r', hr', rfl⟩ := List.mem_map.mp hr
            have h1 := (h (d + 1)).2 r' hr'
            refine ⟨⟨?_, ?_⟩, ?_⟩
            · intro e
              have := List.append_eq_nil_iff.mp e
              exact h1.1.1 this.2
            · intro hm
              rcases List.mem_append.mp hm with hm | hm
              · have := (List.mem_replicate.mp hm).2; omega
              · exact h1.1.2 hm
            · simp; have := h1.2; omega
        · have h1 := (h d).2 r hr
          exact ⟨h1.1, by have := h1.2; omega⟩
    · have h1 := h j
      exact ⟨by omega, fun r hr => ⟨(h1.2 r hr).1, by have := (h1.2 r hr).2; omega⟩⟩
theorem page_ok {ds : List Int} {ns : List Str} {u : Nat} (hn : ∀ i, i < ds.length → RowOk (ns.getD i Str.empty).cps.toList ∧ (ns.getD i Str.empty).length ≤ 20) : ∀ i, i ≤ ds.length → PageOk (pageTold ds ns u i) (20 + u * i) (2 ^ i - 1)
  | 0, _ => by
    intro j
    have e : (pageTold ds ns u 0).getD j [] = [] := by
      unfold pageTold
      by_cases h : j < ds.length + 1
      · simp [List.getD_eq_getElem?_getD, List.getElem?_replicate, h]
      · simp [List.getD_eq_getElem?_getD, List.getElem?_replicate, h]
    rw [e]
    exact ⟨by simp, fun r hr => nomatch hr⟩
  | i + 1, hi => by
    have h1 := hn (ds.length - 1 - i) (by omega)
    have h2 := page_step (d := (ds.getD (ds.length - 1 - i) 0).toNat) (u := u) (page_ok (u := u) hn i (by omega)) h1.1 (by
      have : (ns.getD (ds.length - 1 - i) Str.empty).cps.toList.length = (ns.getD (ds.length - 1 - i) Str.empty).length := rfl
      rw [this]; have := h1.2; omega)
    have e1 : 20 + u * i + u = 20 + u * (i + 1) := by rw [Nat.mul_succ]; omega
    have e2 : 1 + 2 * (2 ^ i - 1) = 2 ^ (i + 1) - 1 := by
      have : 1 ≤ 2 ^ i := Nat.one_le_two_pow
      rw [Nat.pow_succ]; omega
    rw [e1, e2] at h2
    exact h2
theorem rowsText_len {b c : Nat} : ∀ {rs : List (List Nat)}, rs.length ≤ c → (∀ r ∈ rs, r.length ≤ b) → (rowsText rs).length ≤ c * (b + 1)
  | [], _, _ => by simp [rowsText, padRows]
  | r :: rs, h1, h2 => by
    rw [rowsText_cons]
    cases c with
    | zero => simp at h1
    | succ c =>
      have := rowsText_len (rs := rs) (b := b) (c := c) (by simp at h1; omega) fun r' h' => h2 r' (.tail _ h')
      have := h2 r (.head _)
      simp only [List.length_append, List.length_cons, List.length_nil, Nat.succ_mul]
      omega
theorem page_zero (ds : List Int) (ns : List Str) (u : Nat) : (pageTold ds ns u 0).map rowsStr = List.replicate (ds.length + 1) E0 := by
  unfold pageTold
  rw [List.map_replicate]
  have : rowsStr [] = E0 := by decide +kernel
  rw [this]
theorem len_nl : (Str.ofString "\n").length = 1 := by decide +kernel
theorem map_getD (ts : List (List (List Nat))) (j : Nat) : ((ts.map rowsStr).getD j Str.empty).cps.toList = rowsText (ts.getD j []) := by
  simp only [List.getD_eq_getElem?_getD, List.getElem?_map]
  cases ts[j]? with
  | none => rfl
  | some r => rfl
theorem page_at {ts : List (List (List Nat))} {b c : Nat} (h : PageOk ts b c) (hb : b ≤ 44) (hc : c ≤ 63) (j : Nat) : RowsAt ((ts.map rowsStr).getD j Str.empty).cps.toList 0 (ts.getD j []) ∧ ((ts.map rowsStr).getD j Str.empty).length ≤ 3000 ∧ (ts.getD j []).length ≤ 63 := by
  have h1 := h j
  refine ⟨?_, ?_, by omega⟩
  · rw [map_getD]; exact rowsAt_zero fun r hr => (h1.2 r hr).1
  · show ((ts.map rowsStr).getD j Str.empty).cps.toList.length ≤ 3000
    rw [map_getD]
    refine Nat.le_trans (rowsText_len (c := c) (b := b) h1.1 fun r hr => (h1.2 r hr).2) ?_
    exact Nat.le_trans (Nat.mul_le_mul hc (show b + 1 ≤ 45 by omega)) (by decide)
theorem pad_len {ts : List (List (List Nat))} {b c : Nat} (h : PageOk ts b c) (hb : b ≤ 44) (hc : c ≤ 63) (j u : Nat) (hu : u ≤ 4) : (⟨(padRows (List.replicate u 32) (ts.getD j [])).toArray⟩ : Str).length ≤ 4000 := by
  have h1 := h j
  show (padRows (List.replicate u 32) (ts.getD j [])).toArray.size ≤ 4000
  rw [padRows_eq, List.size_toArray]
  refine Nat.le_trans (rowsText_len (c := c) (b := b + u) (by simpa [pad] using h1.1) fun r hr => ?_) ?_
  · obtain ⟨r', hr', rfl⟩ := List.mem_map.mp hr
    have := (h1.2 r' hr').2
    simp; omega
  · exact Nat.le_trans (Nat.mul_le_mul hc (show b + u + 1 ≤ 49 by omega)) (by decide)
theorem row_eq (nm x : Str) (R T : List (List Nat)) (u : Nat) (hx : x.cps.toList = rowsText T) : nm ++ Str.ofString "\n" ++ (⟨(padRows (List.replicate u 32) R).toArray⟩ : Str) ++ x = rowsStr (nm.cps.toList :: pad u R ++ T) := by
  have h : Str.ofString "\n" = ⟨#[10]⟩ := by decide +kernel
  rw [h]
  apply Str.ext'
  apply Array.toList_inj.mp
  simp only [Str.cps_append, Array.toList_append]
  rw [hx]
  show _ = rowsText (nm.cps.toList :: pad u R ++ T)
  rw [List.cons_append, rowsText_cons, rowsText_append, padRows_eq]
  simp
theorem map_getD_zero (ts : List (List (List Nat))) : (ts.map rowsStr).getD 0 Str.empty = rowsStr (ts.getD 0 []) := by
  apply Str.ext'
  apply Array.toList_inj.mp
  rw [map_getD]; rfl
theorem mem_left3 {α : Type} {p a b c : α} {l o : List α} (h : p ∈ a :: b :: c :: l) : p ∈ a :: b :: c :: (l ++ o) :=
  List.mem_append_left (as := a :: b :: c :: l) o h
local macro_rules | `(tactic| walk_at "subscriptTail") => `(tactic| (k_here; (with_reducible show wpAny _ _ (subscriptTail _ _ (Value.ref _) (Value.int _ _)) _ _ _); (refine' KTb.item_list ?sl ?sw ?s0 ?s1 ?sf ?_; (case sl => is_list); (case sw => with_reducible assumption); (case s0 => omega); (case s1 => omega); (case sf => omega)); intro _ _))
local macro_rules | `(tactic| walk_at "binaryOp Add str str") => `(tactic| (k_here; (with_reducible show wpAny _ _ (binaryOp Operator.Add (Value.str _ _) (Value.str _ _)) _ _ _); refine SB.add (fun _ _ => ?_) (by simp only [Str.length_append, sizeLine_eq, len_nl]; omega)))
local macro_rules | `(tactic| walk_at "setItem ref int") => `(tactic| (k_here; (with_reducible show wpAny _ _ (setItem (Value.ref _) (Value.int _ _) (Value.str _ _)) _ _ _); (refine' strs_store ?sF ?sN ?sU ?shi ?sh0 ?sh1 ?shf ?_; (case sF => k_asm); (case sN => k_asm); (case sU => exact Upd.head (by assumption)); (case shi => first | with_reducible assumption | exact strs_set (by with_reducible assumption) _); (case sh0 => omega); (case sh1 => (try simp only [List.length_set]); omega); (case shf => omega)); intro _ _ _))

set_option maxHeartbeats 8000000 in
theorem page_call (w : World) (p : Program) (loose : List Str) (mean : ExcName → Option Value) (mg mb : Str → Option Value) (dp un : Nat) (gd : Option (List Code)) (cn : Str) (cs : Scope) (a : Addr) (ccd : Value) (cl : List (Str × Addr)) (outer : List Env) (A₀ : Around) (base h₀ : Heap) (L : Addr) (m : Str → Option Value) (news : List (Addr × Obj)) (s : Shared) (Q E : Value → Shared → Prop)
    (dA nA : Addr) (dv nv : List Value) (dn nn : Nat) (ds : List Int) (ns : List Str) (u : Int) (tu : Tok)
    (B : Below A₀ base outer h₀) (F : Fr h₀ L s.heap m) (X : (Mine.hd.heap_39 w.params).In h₀) (N : News h₀ L s.heap ((dA, W.listOf dv.toArray dn) :: (nA, W.listOf nv.toArray nn) :: news)) (T : Top p loose mean mg mb h₀) (hk : cs.kind = .function)
    (hd : dp + 20 < recursionLimit) (hun : un + 40 < cLine)
    (i1 : IntsAre dv ds) (i2 : StrsAre nv ns)
    (l1 : 1 ≤ ds.length ∧ ds.length ≤ 6) (l2 : ds.length ≤ ns.length) (hds : ∀ i, i < ds.length → 0 ≤ ds.getD i 0 ∧ ds.getD i 0 ≤ (i : Int))
    (b2 : ∀ i, i < ds.length → RowOk (ns.getD i Str.empty).cps.toList ∧ (ns.getD i Str.empty).length ≤ 20) (hu : 1 ≤ u ∧ u ≤ 4)
    (ret : ∀ (t' : Tok) (h' : Heap) (tk' : Nat), Fr h₀ L h' m → News h₀ L h' ((dA, W.listOf dv.toArray dn) :: (nA, W.listOf nv.toArray nn) :: news) → Q (.str (pageS ds ns u.toNat) t') { s with heap := h', toks := tk' }) :
    wpAny (model PySem.Challenge.rw_wb0006_01.row.prog w) (ktrTop dp un gd cn cs L a ccd cl outer) (call (.ref 77) [.ref dA, .ref nA, .int u tu]) Q E s := by
  revert X N; k_fill; intro X N
  refine wpAny_call ?_
  k_dflt cell_enter
  repeat' ((fail_if_success (with_reducible show wpAny _ _ (binaryOp Operator.Mult _ _) _ _ _)); (first | walk1 | (dsimp only; walk1)))
  refine' KMa.mul (ws := List.replicate (ds.length + 1) (.str E0 tk)) ?kF ?kN ?kl ?klo ?khi ?z ?e ?_
  case kF => k_asm
  case kN => k_asm
  case kl => is_list
  case klo => omega
  case khi => omega
  case z => simp only [List.length_cons, List.length_nil]; omega
  case e =>
    rw [show ((ds.length : Int) + 1).toNat = ds.length + 1 by omega]
    exact flat_one _ _
  intro D hD FD ND lD
  have hs0 := strs_rep E0 tk (ds.length + 1)
  generalize List.replicate (ds.length + 1) (Value.str E0 tk) = v0 at ND hs0
  have lD0 := lD
  k_lt lD
  repeat' ((fail_if_success (with_reducible show wpAny _ _ (pyIter _) _ _ _)); (first | walk1 | (dsimp only; walk1)))
  rename_i kR kF kN _
  have hs0' : StrsAre v0 ((pageTold ds ns u.toNat 0).map rowsStr) := by
    rw [show (pageTold ds ns u.toNat 0).map rowsStr = List.replicate (ds.length + 1) E0 from page_zero ds ns _]; exact hs0
  refine rangeT (n := ds.length) (fun i mm nx => ∃ tv tn, nx = (D, W.listOf tv.toArray tn) :: (dA, W.listOf dv.toArray dn) :: (nA, W.listOf nv.toArray nn) :: news ∧ StrsAre tv ((pageTold ds ns u.toNat i).map rowsStr) ∧
      mm (Str.ofString "told") = some (.ref D) ∧ mm (Str.ofString "depths") = some (.ref dA) ∧ mm (Str.ofString "names") = some (.ref nA) ∧ mm (Str.ofString "unit") = some (.int u tu)) rfl kR ?small ?size kF
    (news := (D, W.listOf v0.toArray 0) :: (dA, W.listOf dv.toArray dn) :: (nA, W.listOf nv.toArray nn) :: news) ?kn ⟨_, _, rfl, hs0', rfl, rfl, rfl, rfl⟩ ?turn ?done
  case small => exact small_down (by omega) (by omega) (by decide) (by decide)
  case size => rw [rangeSize_downNat]; omega
  case kn => intro p hp; exact kN p (by rcases List.mem_cons.mp hp with h | h; exact h ▸ .head _; exact .tail _ (.tail _ h))
  case turn =>
    rintro i t m₁ nx h tk own hi hoff ⟨tv, tn, rfl, hts, k1, k2, k3, k4⟩ F₁ N₁
    clear kR kF kN
    have ek1 : ((ds.length : Int) - 1 + (i : Nat) * (-1)) = ((ds.length - 1 - i : Nat) : Int) := by omega
    rw [ek1] at F₁
    have hkk : ds.length - 1 - i < ds.length := by omega
    have hd1 := hds (ds.length - 1 - i) hkk
    have hn1 := b2 (ds.length - 1 - i) hkk
    have ets : pageTold ds ns u.toNat (i + 1) = pageStep (pageTold ds ns u.toNat i) (ds.getD (ds.length - 1 - i) 0).toNat (ns.getD (ds.length - 1 - i) Str.empty).cps.toList u.toNat := rfl
    have htl := ptold_len ds ns u.toNat i
    have hpo := page_ok (u := u.toNat) b2 i (by omega)
    have hp2 : 2 ^ i ≤ 64 := Nat.le_trans (Nat.pow_le_pow_right (by decide) (show i ≤ 6 by omega)) (by decide)
    have hui : u.toNat * i ≤ 4 * 6 := Nat.mul_le_mul (by omega) (by omega)
    rw [ets]
    generalize ek2 : ds.length - 1 - i = kk at *
    generalize pageTold ds ns u.toNat i = ts at *
    have F₂ := fr_know (x := Str.ofString "unit") ((if_neg (by decide)).trans k4) F₁
    have F₃ := fr_know (x := Str.ofString "names") ((if_neg (by decide)).trans ((if_neg (by decide)).trans k3)) F₂
    have F₄ := fr_know (x := Str.ofString "depths") ((if_neg (by decide)).trans ((if_neg (by decide)).trans ((if_neg (by decide)).trans k2))) F₃
    have F₅ := fr_know (x := Str.ofString "told") ((if_neg (by decide)).trans ((if_neg (by decide)).trans ((if_neg (by decide)).trans ((if_neg (by decide)).trans k1)))) F₄
    clear F₁ F₂ F₃ F₄ ek1 hi
    simp only [List.cons_append] at N₁
    have hne : ∀ p ∈ (dA, W.listOf dv.toArray dn) :: (nA, W.listOf nv.toArray nn) :: (news ++ own), p.1 ≠ D := by
      intro p hp
      have hp' : p ∈ ((dA, W.listOf dv.toArray dn) :: (nA, W.listOf nv.toArray nn) :: news) ++ own := hp
      rcases List.mem_append.mp hp' with h | h
      · exact Nat.ne_of_lt (lD0 p (.tail _ h))
      · exact (hoff _ (.head _) p h).symm
    have hkt : (((kk : Nat) : Int)).toNat = kk := Int.toNat_natCast _
    have q0 : 0 ≤ ds.getD (((kk : Nat) : Int)).toNat 0 := by rw [hkt]; exact hd1.1
    have htl2 : (ts.map rowsStr).length = ds.length + 1 := by rw [List.length_map]; exact htl
    have q1 : ds.getD (((kk : Nat) : Int)).toNat 0 + 1 < ((ts.map rowsStr).length : Int) := by rw [hkt, htl2]; omega
    have q2 : (ns.getD (((kk : Nat) : Int)).toNat Str.empty).length ≤ 20 := by rw [hkt]; exact hn1.2
    have hpa := page_at hpo (by omega) (by omega) (ds.getD (((kk : Nat) : Int)).toNat 0 + 1).toNat
    have hpb := page_at hpo (by omega) (by omega) (ds.getD (((kk : Nat) : Int)).toNat 0).toNat
    have hpl := pad_len hpo (by omega) (by omega) (ds.getD (((kk : Nat) : Int)).toNat 0 + 1).toNat u.toNat (by omega)
    have q3 := hpb.2.1
    have e1 : (ds.getD (((kk : Nat) : Int)).toNat 0 + 1).toNat = (ds.getD (((kk : Nat) : Int)).toNat 0).toNat + 1 := by omega
    have e2 : (pageStep ts (ds.getD kk 0).toNat (ns.getD kk Str.empty).cps.toList u.toNat).map rowsStr = ((ts.map rowsStr).set (ds.getD (((kk : Nat) : Int)).toNat 0).toNat (ns.getD (((kk : Nat) : Int)).toNat Str.empty ++ Str.ofString "\n" ++ (⟨(padRows (List.replicate u.toNat 32) (ts.getD (ds.getD (((kk : Nat) : Int)).toNat 0 + 1).toNat [])).toArray⟩ : Str) ++ (ts.map rowsStr).getD (ds.getD (((kk : Nat) : Int)).toNat 0).toNat Str.empty)).set (ds.getD (((kk : Nat) : Int)).toNat 0 + 1).toNat E0 := by
      rw [row_eq _ _ _ (ts.getD (ds.getD (((kk : Nat) : Int)).toNat 0).toNat []) _ (map_getD _ _), e1, hkt]
      unfold pageStep
      rw [List.map_set, List.map_set]
      have : rowsStr [] = E0 := by decide +kernel
      rw [this]
    rw [e2]
    generalize hU : (⟨(padRows (List.replicate u.toNat 32) (ts.getD (ds.getD (((kk : Nat) : Int)).toNat 0 + 1).toNat [])).toArray⟩ : Str) = U at *
    repeat' ((fail_if_success (with_reducible show wpAny _ _ (call (Value.ref 56) _) _ _ _)); (first | walk1 | (dsimp only; walk1)))
    · refine' indent_two w _ _ _ _ _ _ _ _ _ _ _ _ _ _ _ _ _ _ _ _ _ _ _ _ _ _ _ (ts.getD (ds.getD (((kk : Nat) : Int)).toNat 0 + 1).toNat []) ?iB ?iF ?iX ?iN ?iT ?ihk ?ihd ?ihun ?ihx ?ihu ?ihr ?ihrs ?iret
      case iB => k_asm
      case iF => k_asm
      case iX => k_asm
      case iN => k_asm
      case iT => k_asm
      case ihk => exact rfl
      case ihd => show dp + 1 + 10 < _; omega
      case ihun => show un + _ + 20 < _; omega
      case ihx => omega
      case ihu => exact hu
      case ihr => exact hpa.1
      case ihrs => omega
      case iret =>
        intro t8 h8 tk8 F8 N8
        rw [hU]
        repeat' (first | walk1 | (dsimp only; walk1))
        rename_i fE nE
        refine TurnEnd.head ((dA, W.listOf dv.toArray dn) :: (nA, W.listOf nv.toArray nn) :: news) fE nE hoff ⟨_, _, rfl, ?_, rfl, rfl, rfl, rfl⟩
        exact strs_set (strs_set (by assumption) _) _
    · refine' indent_one w _ _ _ _ _ _ _ _ _ _ _ _ _ _ _ _ _ _ _ _ _ _ _ _ _ (ts.getD (ds.getD (((kk : Nat) : Int)).toNat 0 + 1).toNat []) ?iB ?iF ?iX ?iN ?iT ?ihk ?ihd ?ihun ?ihx ?ihr ?ihrs ?iret
      case iB => k_asm
      case iF => k_asm
      case iX => k_asm
      case iN => k_asm
      case iT => k_asm
      case ihk => exact rfl
      case ihd => show dp + 1 + 10 < _; omega
      case ihun => show un + _ + 20 < _; omega
      case ihx => omega
      case ihr => exact hpa.1
      case ihrs => omega
      case iret =>
        intro t8 h8 tk8 F8 N8
        rw [show (4 : Int).toNat = u.toNat by omega, hU]
        repeat' (first | walk1 | (dsimp only; walk1))
        rename_i fE nE
        refine TurnEnd.head ((dA, W.listOf dv.toArray dn) :: (nA, W.listOf nv.toArray nn) :: news) fE nE hoff ⟨_, _, rfl, ?_, rfl, rfl, rfl, rfl⟩
        exact strs_set (strs_set (by assumption) _) _
  case done =>
    rintro m₁ nx h tk ⟨tv, tn, rfl, hts, k1, k2, k3, k4⟩ F₁ N₁
    clear kR kF kN
    have htl := ptold_len ds ns u.toNat ds.length
    have htl2 : ((pageTold ds ns u.toNat ds.length).map rowsStr).length = ds.length + 1 := by rw [List.length_map]; exact htl
    have F₂ := fr_know (x := Str.ofString "told") k1 F₁
    clear F₁
    unfold pageS at ret
    rw [← map_getD_zero] at ret
    generalize (pageTold ds ns u.toNat ds.length).map rowsStr = ts at *
    repeat' (first | walk1 | (dsimp only; walk1))
    rename_i kF kN _ _
    exact ret _ _ _ kF fun q hq => kN q (.tail _ hq)
end Mine

end

section
/- the part WI -/
open PySem PySem.W PyProof.Rows PySem.Spec PySem.Calls
set_option maxRecDepth 100000
namespace Mine
def lawRest : List Stmt := match PySem.Challenge.pw_wb0006_01.main.body with
  | [_, _, _, _, _, _, _, _, _, _, _, .FunctionDef _ _ (_ :: _ :: _ :: _ :: r) _ _ _ _ _ _ _] => r
  | _ => []
def lawScope : Scope := match PySem.Challenge.pw_wb0006_01.main.body with
  | [_, _, _, _, _, _, _, _, _, _, _, .FunctionDef _ _ _ _ _ _ sc _ _ _] => sc
  | _ => default
def mainBody : List Stmt := match lawRest with
  | [_, _, _, _, _, _, .For _ _ b _ _, _] => b
  | _ => []
def innerBody : List Stmt := match mainBody with
  | _ :: _ :: _ :: .For _ _ b _ _ :: _ => b
  | _ => []

theorem law_strip {w : World} {p : Program} {loose : List Str} {mean : ExcName → Option Value} {mg mb : Str → Option Value} {sc : Scope} {fa : Addr} {cd : Value} {h₀ : Heap} {L : Addr} {m : Str → Option Value} {news : List (Addr × Obj)} {ps : Array Value} {c' : Addr} {oc : Obj} {s : Shared} {Q E : Value → Shared → Prop} {x y : Str} {t : Tok}
    (B : Below callerA h₀ [] h₀) (F : Fr h₀ L s.heap m) (X : (Mine.hd.heap_39 w.params).In h₀) (N : News h₀ L s.heap ((38, tabObj ps) :: (c', oc) :: news)) (hs : TabSt ps c' oc) (hn : ∀ q ∈ news, q.1 ≠ 38) (T : Top p loose mean mg mb h₀) (codeHd : CodeHd h₀ 42 38) (hk : sc.kind = .function)
    (hx : x.length ≤ 10000) (hxy : StripsTo x y)
    (ret : ∀ (t' : Tok) (h' : Heap) (tk' : Nat) (ps' : Array Value) (c'' : Addr) (oc'' : Obj), Fr h₀ L h' m → News h₀ L h' ((38, tabObj ps') :: (c'', oc'') :: news) → TabSt ps' c'' oc'' → (c'' = c' ∨ ∀ q ∈ (38, tabObj #[]) :: news, q.1 < c'') → Q (.str y t') { s with heap := h', toks := tk' }) :
    wpAny (model PySem.Challenge.rw_wb0006_01.row.prog w) (callerA.deeper (envOfC (Str.ofString "law") sc L fa cd)) (call (.ref 43) [.str x t]) Q E s :=
  stripid_call w p loose mean mg mb _ _ _ _ sc fa cd _ _ callerA h₀ h₀ L m news ps c' oc s Q E x y t B F X N hs hn T codeHd hk (by decide +kernel) (by decide +kernel) hx hxy ret
theorem off38 {h : Heap} {a : Addr} {o : Obj} {ps : Array Value} (e : h.get? a = some o) (e38 : h.get? 38 = some (tabObj ps)) (hd : o.data ≠ .fields ps) : a ≠ 38 := by
  rintro rfl
  rw [e] at e38
  exact hd (congrArg Obj.data (Option.some.inj e38))
theorem mem_js (ds : List Int) (depth k : Int) {js : List Int} (e : List.foldl (fun l j => if ds.getD j.toNat 0 = depth then l ++ [j] else l) [] (rangeKs 0 (k + 1 - 0).toNat) = js) (j : Int) : j ∈ js ↔ 0 ≤ j ∧ j ≤ k ∧ ds.getD j.toNat 0 = depth := by
  have key : ∀ (l acc : List Int), j ∈ List.foldl (fun l j => if ds.getD j.toNat 0 = depth then l ++ [j] else l) acc l ↔ j ∈ acc ∨ (j ∈ l ∧ ds.getD j.toNat 0 = depth) := by
    intro l
    induction l with
    | nil => intro acc; simp
    | cons a l ih =>
      intro acc
      rw [List.foldl_cons, ih]
      by_cases h : ds.getD a.toNat 0 = depth
      · rw [if_pos h]
        simp only [List.mem_append, List.mem_cons, List.not_mem_nil, or_false]
        constructor
        · rintro ((h1 | rfl) | h1)
          · exact .inl h1
          · exact .inr ⟨.inl rfl, h⟩
          · exact .inr ⟨.inr h1.1, h1.2⟩
        · rintro (h1 | ⟨rfl | h1, h2⟩)
          · exact .inl (.inl h1)
          · exact .inl (.inr rfl)
          · exact .inr ⟨h1, h2⟩
      · rw [if_neg h]
        simp only [List.mem_cons]
        constructor
        · rintro (h1 | h1)
          · exact .inl h1
          · exact .inr ⟨.inr h1.1, h1.2⟩
        · rintro (h1 | ⟨rfl | h1, h2⟩)
          · exact .inl h1
          · exact absurd h2 h
          · exact .inr ⟨h1, h2⟩
  rw [← e, key]
  constructor
  · rintro (h | ⟨h1, h2⟩)
    · simp at h
    · have := mem_rangeKs h1
      exact ⟨by omega, by omega, h2⟩
  · rintro ⟨h1, h2, h3⟩
    refine .inr ⟨?_, h3⟩
    have : j = 0 + (j.toNat : Int) := by omega
    rw [this]
    unfold rangeKs
    exact List.mem_map.mpr ⟨j.toNat, by simp; omega, rfl⟩

section
variable {prog : Program} {w : World} {A : Around} {E : Value → Shared → Prop} {s : Shared} {h₀ : Heap} {L l : Addr} {m : Str → Option Value} {news : List (Addr × Obj)} {value slice : Expr} {vl vu : Value} {vs : List Value} {xs : List Str} {Q : Value → Shared → Prop} {y : Int}
theorem strs_take : ∀ {vs : List Value} {xs : List Str}, StrsAre vs xs → ∀ n : Nat, StrsAre (vs.take n) (xs.take n)
  | _, _, .nil, n => by simpa using StrsAre.nil
  | _, _, .cons _ _ r, 0 => .nil
  | _, _, .cons a t r, n + 1 => .cons a t (strs_take r n)
theorem strs_drop : ∀ {vs : List Value} {xs : List Str}, StrsAre vs xs → ∀ n : Nat, StrsAre (vs.drop n) (xs.drop n)
  | _, _, .nil, n => by simpa using StrsAre.nil
  | _, _, .cons a t r, 0 => .cons a t r
  | _, _, .cons a t r, n + 1 => strs_drop r n
theorem slice_strs_upto (F : Fr h₀ L s.heap m) (N : News h₀ L s.heap news) (hl : s.heap.IsList l vs.toArray) (pl : IsPart vl none) (pu : IsPart vu (some y)) (hi : StrsAre vs xs) (h0 : 0 ≤ y) (h1 : y ≤ xs.length) (hz : xs.length ≤ 1000)
    (h : ∀ D ws h', Fr h₀ L h' m → News h₀ L h' ((D, W.listOf (List.toArray ws) 0) :: news) → StrsAre ws (xs.take y.toNat) → Q (.ref D) { s with heap := h' })
    (hs : subscripted slice false (.ref l) (.ref s.heap.objs.size) = operate [.ref s.heap.objs.size, .ref l] (getItem (.ref l) (.ref s.heap.objs.size))) (ht : ∀ r, letTemporaryGo value (.ref l) r = pure ()) :
    wpAny (model prog w) A (subscriptTail value slice (.ref l) (.ref s.heap.objs.size)) Q E { s with heap := s.heap.push { cls := .type "slice", data := .fields #[vl, vu, .none] } } := by
  have hv : vs.length = xs.length := hi.length
  have z := slicePick_upto vs.toArray y.toNat (by simp; omega)
  rw [show ((y.toNat : Nat) : Int) = y by omega] at z
  refine PySem.W.kmk_slice F N hl pl pu (fun D h' F' N' l1 => h D (vs.take y.toNat) h' F' ?_ (strs_take hi _)) hs ht (by rw [PySem.sizeLine_eq]; simp; omega)
  rw [z] at N'
  exact N'
theorem slice_strs_from (F : Fr h₀ L s.heap m) (N : News h₀ L s.heap news) (hl : s.heap.IsList l vs.toArray) (pl : IsPart vl (some y)) (pu : IsPart vu none) (hi : StrsAre vs xs) (h0 : 0 ≤ y) (h1 : y ≤ xs.length) (hz : xs.length ≤ 1000)
    (h : ∀ D ws h', Fr h₀ L h' m → News h₀ L h' ((D, W.listOf (List.toArray ws) 0) :: news) → StrsAre ws (xs.drop y.toNat) → Q (.ref D) { s with heap := h' })
    (hs : subscripted slice false (.ref l) (.ref s.heap.objs.size) = operate [.ref s.heap.objs.size, .ref l] (getItem (.ref l) (.ref s.heap.objs.size))) (ht : ∀ r, letTemporaryGo value (.ref l) r = pure ()) :
    wpAny (model prog w) A (subscriptTail value slice (.ref l) (.ref s.heap.objs.size)) Q E { s with heap := s.heap.push { cls := .type "slice", data := .fields #[vl, vu, .none] } } := by
  have hv : vs.length = xs.length := hi.length
  have z := slicePick_from vs.toArray y.toNat (by simp; omega)
  rw [show ((y.toNat : Nat) : Int) = y by omega] at z
  refine PySem.W.kmk_slice F N hl pl pu (fun D h' F' N' l1 => h D (vs.drop y.toNat) h' F' ?_ (strs_drop hi _)) hs ht (by rw [PySem.sizeLine_eq]; simp; omega)
  rw [z] at N'
  exact N'
theorem add_strs {l b : Addr} {vs ws : List Value} {xs ys : List Str} (F : Fr h₀ L s.heap m) (N : News h₀ L s.heap news) (hl : s.heap.IsList l vs.toArray) (hb : s.heap.IsList b ws.toArray) (hx : StrsAre vs xs) (hy : StrsAre ws ys) (hz : xs.length + ys.length ≤ 1000)
    (h : ∀ D zs h', Fr h₀ L h' m → News h₀ L h' ((D, W.listOf (List.toArray zs) 0) :: news) → StrsAre zs (xs ++ ys) → (∀ p ∈ news, p.1 < D) → Q (.ref D) { s with heap := h' }) :
    wpAny (model prog w) A (binaryOp .Add (.ref l) (.ref b)) Q E s :=
  add_lists F N hl hb (fun h' F' N' => h _ _ h' F' N' (StrsAre.append' hx hy) fun p hp => Heap.lt_size (N p hp).1) (by have := hx.length; have := hy.length; rw [PySem.sizeLine_eq]; omega)
end
local macro_rules | `(tactic| walk_at "subscriptTail Name Slice ref ref") => `(tactic| (k_here; (with_reducible show wpAny _ _ (subscriptTail _ (PySem.Expr.Slice _ _ none _) (Value.ref _) (Value.ref _)) _ _ _); k_dflt (refine' slice_strs_upto ?F ?N ?l ?p ?q ?i ?a ?b ?c ?_ ?s ?t; (case F => k_asm); (case N => k_asm); (case l => kmk_list); (case p => kmk_part); (case q => kmk_part); (case i => with_reducible assumption); (case a => omega); (case b => omega); (case c => omega); (case s => with_unfolding_all rfl); (case t => kmk_pure)); intro D' ws' h' F' N' hS'; (try k_sweep)))
local macro_rules | `(tactic| walk_at "subscriptTail Name Slice ref ref") => `(tactic| (k_here; (with_reducible show wpAny _ _ (subscriptTail _ (PySem.Expr.Slice _ _ none _) (Value.ref _) (Value.ref _)) _ _ _); k_dflt (refine' slice_strs_from ?F ?N ?l ?p ?q ?i ?a ?b ?c ?_ ?s ?t; (case F => k_asm); (case N => k_asm); (case l => kmk_list); (case p => kmk_part); (case q => kmk_part); (case i => with_reducible assumption); (case a => omega); (case b => omega); (case c => omega); (case s => with_unfolding_all rfl); (case t => kmk_pure)); intro D' ws' h' F' N' hS'; (try k_sweep)))

set_option maxHeartbeats 8000000 in
theorem inner_turn (w : World) (p : Program) (loose : List Str) (mean : ExcName → Option Value) (mg mb : Str → Option Value) (fa : Addr) (cd : Value) (h₀ : Heap) (L : Addr) (m : Str → Option Value) (s : Shared) (Q : Flow → Shared → Prop) (E : Value → Shared → Prop)
    (numA dA nA iA c' : Addr) (numv dv nv iv : List Value) (numn dn nn ii : Nat) (nums ds : List Int) (ns is : List Str) (oNum oDep oDepth oc : Obj) (ps : Array Value) (k depth : Int) (tkk tkd tkr : Tok) (rest : Str) (own : List (Addr × Obj)) (pe : Int) (is' : List Str) (bare told : Str)
    (B : Below callerA h₀ [] h₀) (X : (Mine.hd.heap_39 w.params).In h₀) (T : Top p loose mean mg mb h₀) (codeHd : CodeHd h₀ 42 38)
    (F : Fr h₀ L s.heap (fun y => if y = Str.ofString "k" then some (.int k tkk) else if y = Str.ofString "names" then some (.ref nA) else if y = Str.ofString "ids" then some (.ref iA) else if y = Str.ofString "rest" then some (.str rest tkr) else m y))
    (N : News h₀ L s.heap ((iA, W.listOf iv.toArray ii) :: (nA, W.listOf nv.toArray nn) :: (dA, W.listOf dv.toArray dn) :: (numA, W.listOf numv.toArray numn) :: (L + 1, oNum) :: (L + 2, oDep) :: (L + 3, oDepth) :: (38, tabObj ps) :: (c', oc) :: own))
    (d1 : oNum.data = .cell (some (.ref numA))) (d2 : oDep.data = .cell (some (.ref dA))) (d3 : oDepth.data = .cell (some (.int depth tkd)))
    (i1 : IntsAre numv nums) (i2 : IntsAre dv ds) (i3 : StrsAre nv ns) (i4 : StrsAre iv is) (hst : TabSt ps c' oc) (hk : 0 ≤ k ∧ k < ds.length) (hdl : ds.length ≤ 6)
    (ret : ∀ (h' : Heap) (tk' : Nat) (D : Addr) (vs : List Value) (ps₁ : Array Value) (c₁ : Addr) (oc₁ : Obj) (m₁ : Str → Option Value) (tb : Tok), Fr h₀ L h' m₁ → m₁ (Str.ofString "rest") = some (.str bare tb) → m₁ (Str.ofString "ids") = some (.ref D) →
      (∀ y, y ≠ Str.ofString "rest" → y ≠ Str.ofString "ids" → y ≠ Str.ofString "told" → y ≠ Str.ofString "bare" → y ≠ Str.ofString "peeled" → m₁ y = (if y = Str.ofString "k" then some (.int k tkk) else if y = Str.ofString "names" then some (.ref nA) else m y)) →
      News h₀ L h' ((D, W.listOf vs.toArray 0) :: (nA, W.listOf nv.toArray nn) :: (dA, W.listOf dv.toArray dn) :: (numA, W.listOf numv.toArray numn) :: (L + 1, oNum) :: (L + 2, oDep) :: (L + 3, oDepth) :: (38, tabObj ps₁) :: (c₁, oc₁) :: own) → StrsAre vs is' → TabSt ps₁ c₁ oc₁ →
      (∀ q ∈ own, q.1 < D) → (c₁ = c' ∨ ((∀ q ∈ own, q.1 < c₁) ∧ L + 3 < c₁)) → Q .next { s with heap := h', toks := tk' }) (hil : is.length = ds.length) (hnl : ds.length ≤ ns.length) (hml : nums.length = ds.length) (hown : ∀ q ∈ own, q.1 ≠ 38)
    (his : is' = is.take pe.toNat ++ [Str.empty] ++ is.drop (pe + 1).toNat) (hba : bare = nestS (List.take (k + 1).toNat ds) ns is') (hto : told = if (nums.getD pe.toNat 0).fmod 13 < 11 then bare else rest)
    (st1 : StripsTo rest told) (st2 : StripsTo (rest ++ Str.ofString "\n") (told ++ Str.ofString "\n")) (st3 : StripsTo (rest ++ Str.ofString "\n\n") (rest ++ Str.ofString "\n\n")) (hrl : rest.length ≤ 9000) (hbl : bare.length ≤ 9000)
    (hds : ∀ i, i < ds.length → 0 ≤ ds.getD i 0 ∧ ds.getD i 0 ≤ (i : Int)) (b2 : ∀ i, (ns.getD i Str.empty).length ≤ 20) (b3 : ∀ i, (is'.getD i Str.empty).length ≤ 30)
    (hpe : 0 ≤ pe ∧ pe ≤ k ∧ ds.getD pe.toNat 0 = depth ∧ ∀ j, pe < j → j ≤ k → ds.getD j.toNat 0 ≠ depth) :
    wpAny (model PySem.Challenge.rw_wb0006_01.row.prog w) (callerA.deeper (envOfC (Str.ofString "law") lawScope L fa cd)) (execs innerBody (envOfC (Str.ofString "law") lawScope L fa cd)) Q E s := by
  revert X N; k_fill; intro X N
  unfold innerBody mainBody lawRest PySem.Challenge.pw_wb0006_01
  dsimp only
  generalize hsc : lawScope = sc
  unfold lawScope PySem.Challenge.pw_wb0006_01 at hsc
  dsimp only at hsc
  subst hsc
  repeat' ((fail_if_success (with_reducible show wpAny _ _ (eval (Expr.ListComp _ _ _ _) _) _ _ _)); (first | walk1 | (dsimp only; walk1)))
  refine LCt.ListComp_T (F₀ := by k_asm) (by with_unfolding_all rfl) (by decide) (by rfl) (by decide) (by rfl) ?_
  repeat' ((fail_if_success (with_reducible show LCt.CompSrcT _ _ _ _ _ _ _ _ _ _ _ _ _ _ _)); (first | walk1 | (dsimp only; walk1)))
  refine LCt.CompSrcT.range (by rfl) (by k_asm) (by k_asm) (by assumption) (by exact small_one (by omega) (by omega) (by omega) (by omega)) (by exact rangeSize_nat _ _) (by rw [PySem.sizeLine_eq]; omega) ?_
  intro g1
  refine kci_range (fun l j => if ds.getD j.toNat 0 = depth then l ++ [j] else l) ?turn ?fin ?grow
  case grow => intro l j; dsimp only; split <;> simp
  case turn =>
    intro j tj I oI C oC D m2 ys l h tk E' hlo hhi hI hC hx F' N' off ne mk
    have hjr : j < ds.length := by omega
    iterate 8 (first | walk1 | (dsimp only; walk1))
    split
    · rename_i he
      repeat' ((fail_if_success (with_reducible show LCg.CompEnd _ _ _ _ _ _ _ _ _ _ _ _ _ _)); (first | walk1 | (dsimp only; walk1)))
      refine LCg.CompEnd.intro (by assumption) (by assumption) _ (fun p hp => hp) (by assumption) (by first | lcg_src | trivial | assumption) (kci_el ?_ (by with_unfolding_all rfl) (by with_unfolding_all rfl))
      have he' : ds.getD j.toNat 0 = depth := by simpa using he
      rw [if_pos he']
    · rename_i he
      refine LCg.CompEnd.intro (by assumption) (by assumption) _ (fun p hp => hp) (by assumption) (by first | lcg_src | trivial | assumption) (kci_no ?_ (by with_unfolding_all rfl))
      have he' : ¬ ds.getD j.toNat 0 = depth := by simpa using he
      rw [if_neg he']
  case fin =>
    intro ys hys hyl
    obtain ⟨js, hjs⟩ : ∃ js : List Int, List.foldl (fun l j => if ds.getD j.toNat 0 = depth then l ++ [j] else l) [] (rangeKs 0 (k + 1 - 0).toNat) = js := ⟨_, rfl⟩
    have hmem := mem_js ds depth k hjs
    have hpj : pe ∈ js := (hmem pe).mpr ⟨hpe.1, hpe.2.1, hpe.2.2.1⟩
    have hne : 0 < js.length := List.length_pos_of_mem hpj
    rw [hjs] at hys
    repeat' ((fail_if_success (with_reducible show wpAny _ _ (call _ _) _ _ _)); (first | walk1 | (dsimp only; walk1)))
    refine kso_max (by k_asm) (by k_asm) (by kso_list) hys hne (by with_unfolding_all rfl) ?_
    intro h₂ M t₂ tk₂ F₂ N₂ hM1 hM2
    obtain rfl : M = pe := by
      have z1 := (hmem M).mp hM1
      have z2 := hM2 pe hpj
      by_cases z : M = pe
      · exact z
      · exact absurd z1.2.2 (hpe.2.2.2 M (by omega) (by omega))
    clear hM1 hM2 hmem hpj hne
    have hivl : iv.length = is.length := i4.length
    repeat' ((fail_if_success (with_reducible show wpAny _ _ (binaryOp _ (Value.ref _) (Value.ref _)) _ _ _)); (first | walk1 | (dsimp only; walk1)))
    refine add_strs (ys := [Str.empty]) (by k_asm) (by k_asm) (by kmk_list) (by kmk_list) (by assumption) (.cons _ _ .nil) (by simp only [List.length_take, List.length_cons, List.length_nil]; omega) ?_
    intro D₃ w₃ h₃ F₃ N₃ S₃ _
    repeat' ((fail_if_success (with_reducible show wpAny _ _ (binaryOp _ (Value.ref _) (Value.ref _)) _ _ _)); (first | walk1 | (dsimp only; walk1)))
    refine add_strs (by k_asm) (by k_asm) (by kmk_list) (by kmk_list) S₃ (by assumption) (by simp only [List.length_take, List.length_append, List.length_drop, List.length_cons, List.length_nil]; omega) ?_
    intro D₄ w₄ h₄ F₄ N₄ S₄ lt₄
    have lt₀ : ∀ q ∈ own, q.1 < D₄ := by
      refine fun q hq => lt₄ q ?_
      revert q
      kcf_all
    clear lt₄
    rw [← his] at S₄
    repeat' ((fail_if_success (with_reducible show wpAny _ _ (call (Value.ref _) _) _ _ _)); (first | walk1 | (dsimp only; walk1)))
    rename_i D₅ w₅ h₅ F₅ N₅ S₅ _ _ _
    have N₆ : News h₀ L h₅ ((D₄, W.listOf w₄.toArray 0) :: (nA, W.listOf nv.toArray nn) :: (dA, W.listOf dv.toArray dn) :: (numA, W.listOf numv.toArray numn) :: (L + 1, oNum) :: (L + 2, oDep) :: (L + 3, oDepth) :: (38, tabObj ps) :: (c', oc) :: own) := by
      refine fun p hp => N₅ p ?_
      revert p
      kcf_all
    have hn38 : ∀ q ∈ ((D₄, W.listOf w₄.toArray 0) :: (nA, W.listOf nv.toArray nn) :: (dA, W.listOf dv.toArray dn) :: (numA, W.listOf numv.toArray numn) :: (L + 1, oNum) :: (L + 2, oDep) :: (L + 3, oDepth) :: own), q.1 ≠ 38 := by
      have e38 := (N₆ (38, tabObj ps) (.tail _ (.tail _ (.tail _ (.tail _ (.tail _ (.tail _ (.tail _ (.head _))))))))).1
      refine List.forall_mem_cons.mpr ⟨off38 (N₆ _ (.head _)).1 e38 (by nofun), List.forall_mem_cons.mpr ⟨off38 (N₆ _ (.tail _ (.head _))).1 e38 (by nofun), List.forall_mem_cons.mpr ⟨off38 (N₆ _ (.tail _ (.tail _ (.head _)))).1 e38 (by nofun),
        List.forall_mem_cons.mpr ⟨off38 (N₆ _ (.tail _ (.tail _ (.tail _ (.head _))))).1 e38 (by nofun), List.forall_mem_cons.mpr ⟨off38 (N₆ _ (.tail _ (.tail _ (.tail _ (.tail _ (.head _)))))).1 e38 (by rw [d1]; nofun),
        List.forall_mem_cons.mpr ⟨off38 (N₆ _ (.tail _ (.tail _ (.tail _ (.tail _ (.tail _ (.head _))))))).1 e38 (by rw [d2]; nofun), List.forall_mem_cons.mpr ⟨off38 (N₆ _ (.tail _ (.tail _ (.tail _ (.tail _ (.tail _ (.tail _ (.head _)))))))).1 e38 (by rw [d3]; nofun), hown⟩⟩⟩⟩⟩⟩⟩
    have N₇ : News h₀ L h₅ ((D₅, W.listOf w₅.toArray 0) :: (nA, W.listOf nv.toArray nn) :: (D₄, W.listOf w₄.toArray 0) :: (nA, W.listOf nv.toArray nn) :: (dA, W.listOf dv.toArray dn) :: (numA, W.listOf numv.toArray numn) :: (L + 1, oNum) :: (L + 2, oDep) :: (L + 3, oDepth) :: (38, tabObj ps) :: (c', oc) :: own) := by
      intro p hp
      rcases List.mem_cons.mp hp with rfl | hp
      · exact N₅ _ (.head _)
      · rcases List.mem_cons.mp hp with rfl | hp
        · exact N₆ _ (.tail _ (.head _))
        · exact N₆ _ hp
    clear N₅
    with_unfolding_all refine' nest_call w _ _ _ _ _ _ _ _ _ _ _ _ _ _ _ _ _ _ _ _ _ _ _ _ _ _ _ _ _ _ _ _ (List.take (k + 1).toNat ds) ns is' ?iB ?iF ?iX N₇ ?iT ?ik ?ihd ?ihu S₅ ?i2 S₄ ?l1 ?l2 ?l3 ?hds ?b2 ?b3 ?ret
    case iB => exact B
    case iF => k_asm
    case iX => exact X
    case iT => exact T
    case ik => rfl
    case ihd => decide +kernel
    case ihu => decide +kernel
    case i2 => assumption
    case l1 => rw [List.length_take]; omega
    case l2 => rw [List.length_take]; omega
    case l3 => rw [his]; simp only [List.length_take, List.length_append, List.length_drop, List.length_cons, List.length_nil]; omega
    case hds =>
      intro i hi
      rw [List.length_take] at hi
      have z := hds i (by omega)
      rw [List.getD_eq_getElem?_getD, List.getElem?_take, if_pos (by omega), ← List.getD_eq_getElem?_getD]
      exact z
    case b2 => exact b2
    case b3 => exact b3
    rw [← hba]
    intro t₈ h₈ tk₈ F₈ N₈
    repeat' ((fail_if_success (with_reducible show wpAny _ _ (call (Value.ref _) _) _ _ _)); (first | walk1 | (dsimp only; walk1)))
    rename_i h₉ F₉ N₉
    have N₁₀ : News h₀ L h₉ ((38, tabObj ps) :: (c', oc) :: (D₄, W.listOf w₄.toArray 0) :: (nA, W.listOf nv.toArray nn) :: (dA, W.listOf dv.toArray dn) :: (numA, W.listOf numv.toArray numn) :: (L + 1, oNum) :: (L + 2, oDep) :: (L + 3, oDepth) :: own) := by
      refine fun p hp => N₉ p ?_
      revert p
      kcf_all
    clear N₉
    refine law_strip B F₉ X N₁₀ hst hn38 T codeHd rfl (by omega) st1 ?_
    clear N₁₀ hst
    intro t₁₁ h₁₁ tk₁₁ ps₁ c₁ oc₁ F₁₁ N₁₁ hst₁ lt₁
    repeat' ((fail_if_success (with_reducible show wpAny _ _ (call (Value.ref _) _) _ _ _)); (first | walk1 | (dsimp only; walk1)))
    any_goals (rename_i e1 e2; exfalso; first | (rw [if_pos e1] at hto; rw [hto] at e2; simp at e2; done) | (rw [if_neg e1] at hto; rw [hto] at e2; simp at e2; done))
    all_goals
      have htl : told.length ≤ 9000 := by rw [hto]; split <;> assumption
      have hx1 : (Str.ofString "\n").length = 1 := by decide +kernel
      have hx2 : (Str.ofString "\n\n").length = 2 := by decide +kernel
      rename_i h₁₂ F₁₂ N₁₂ _ _ _ _ _ _ _

      have N₁₃ : News h₀ L h₁₂ ((38, tabObj ps₁) :: (c₁, oc₁) :: (D₄, W.listOf w₄.toArray 0) :: (nA, W.listOf nv.toArray nn) :: (dA, W.listOf dv.toArray dn) :: (numA, W.listOf numv.toArray numn) :: (L + 1, oNum) :: (L + 2, oDep) :: (L + 3, oDepth) :: own) := by
        refine fun p hp => N₁₂ p ?_
        revert p
        kcf_all
      clear N₁₂
      refine law_strip B F₁₂ X N₁₃ hst₁ hn38 T codeHd rfl (by rw [Str.length_append]; omega) st2 ?_
      clear N₁₃ hst₁
      intro t₁₄ h₁₄ tk₁₄ ps₂ c₂ oc₂ F₁₄ N₁₄ hst₂ lt₂
      repeat' ((fail_if_success (with_reducible show wpAny _ _ (call (Value.ref _) _) _ _ _)); (first | walk1 | (dsimp only; walk1)))
      any_goals (rename_i e2; exfalso; simp at e2; done)

      have N₁₅ : News h₀ L h₁₄ ((38, tabObj ps₂) :: (c₂, oc₂) :: (D₄, W.listOf w₄.toArray 0) :: (nA, W.listOf nv.toArray nn) :: (dA, W.listOf dv.toArray dn) :: (numA, W.listOf numv.toArray numn) :: (L + 1, oNum) :: (L + 2, oDep) :: (L + 3, oDepth) :: own) := by
        refine fun p hp => N₁₄ p ?_
        revert p
        kcf_all
      clear N₁₄
      refine law_strip B F₁₄ X N₁₅ hst₂ hn38 T codeHd rfl (by rw [Str.length_append]; omega) st3 ?_
      clear N₁₅ hst₂
      intro t₁₆ h₁₆ tk₁₆ ps₃ c₃ oc₃ F₁₆ N₁₆ hst₃ lt₃
      repeat' ((fail_if_success (with_reducible show wpAny _ _ (call (Value.ref _) _) _ _ _)); (first | walk1 | (dsimp only; walk1)))
      any_goals (rename_i e2; exfalso; simp at e2; done)
      rename_i h₁₈ F₁₈ N₁₈
      refine ret h₁₈ _ D₄ w₄ ps₃ c₃ oc₃ _ t₈ F₁₈ (by rfl) (by rfl) (fun y z1 z2 z3 z4 z5 => by simp [z1, z2, z3, z4, z5]) ?_ S₄ hst₃ lt₀ ?_
      · refine fun p hp => N₁₈ p ?_
        revert p
        kcf_all
      · have up : ∀ (c c1 : Addr) (psx : Array Value), (c1 = c ∨ ∀ q ∈ (38, tabObj psx) :: (D₄, W.listOf w₄.toArray 0) :: (nA, W.listOf nv.toArray nn) :: (dA, W.listOf dv.toArray dn) :: (numA, W.listOf numv.toArray numn) :: (L + 1, oNum) :: (L + 2, oDep) :: (L + 3, oDepth) :: own, q.1 < c1) → (c1 = c ∨ ((∀ q ∈ own, q.1 < c1) ∧ L + 3 < c1)) := by
          rintro c c1 psx (h | h)
          · exact .inl h
          · refine .inr ⟨fun q hq => h q ?_, h (L + 3, oDepth) (.tail _ (.tail _ (.tail _ (.tail _ (.tail _ (.tail _ (.tail _ (.head _))))))))⟩
            revert q
            kcf_all
        rcases up _ _ _ lt₃ with e3 | e3
        · rcases up _ _ _ lt₂ with e2 | e2
          · rcases up _ _ _ lt₁ with e1 | e1
            · exact .inl (e3.trans (e2.trans e1))
            · exact .inr (by rw [e3, e2]; exact e1)
          · exact .inr (by rw [e3]; exact e2)
        · exact .inr e3
end Mine

end

section
/- the part WJ -/
open PySem PySem.W PyProof.Rows PySem.Spec PySem.Calls
set_option maxRecDepth 100000
namespace Mine
section
variable {prog : Program} {w : World} {A : Around} {E : Value → Shared → Prop} {s : Shared} {env : Env} {h₀ : Heap} {x : Str} {body : List Stmt} {Q : Flow → Shared → Prop}

def CellTurn (prog : Program) (w : World) (A : Around) (h₀ : Heap) (env : Env) (x : Str) (body : List Stmt) (Q : Flow → Shared → Prop) (E : Value → Shared → Prop) (J : Nat → (Str → Option Value) → List (Addr × Obj) → Prop) (n : Nat) (P : Nat → Value → Prop) (s : Shared) : Prop :=
  ∀ i v m₁ news₁ h tk own, i < n → P i v → (∀ p ∈ news₁, ∀ q ∈ own, p.1 ≠ q.1) → J i m₁ news₁ → Fr h₀ env.locals h m₁ → News h₀ env.locals h (news₁ ++ own) →
    wpAny (model prog w) A (storeName env x v) (fun _ s₂ => wpAny (model prog w) A (execs body env) (TurnPost h₀ env.locals (J (i + 1)) own { s with heap := h, toks := tk } Q) E s₂) E { s with heap := h, toks := tk }

def CellAt (prog : Program) (w : World) (A : Around) (h₀ : Heap) (env : Env) (x : Str) (body : List Stmt) (Q : Flow → Shared → Prop) (E : Value → Shared → Prop) (it : Value) (s : Shared) : Prop :=
  ∃ (I : Addr) (n : Nat) (P : Nat → Value → Prop) (St : Nat → Heap → Prop) (m₀ : Str → Option Value) (news : List (Addr × Obj)) (J : Nat → (Str → Option Value) → List (Addr × Obj) → Prop),
    it = .ref I ∧ Walks prog w A I [I] [I] n P St ∧ env.locals ≠ I ∧ h₀.get? I = none ∧ (∀ p ∈ news, p.1 ≠ I) ∧ (∀ i h, St i h → ∃ o, h.get? I = some o) ∧ St 0 s.heap ∧ Fr h₀ env.locals s.heap m₀ ∧ News h₀ env.locals s.heap news ∧ J 0 m₀ news ∧
    CellTurn prog w A h₀ env x body Q E J n P s ∧
    (∀ m₁ news₁ h tk, J n m₁ news₁ → Fr h₀ env.locals h m₁ → News h₀ env.locals h news₁ → Q .next { s with heap := h, toks := tk })

theorem codeAny_cell {R : Result → Shared → Prop} {px : Pos} {I : Addr} {n : Nat} {P : Nat → Value → Prop} {St : Nat → Heap → Prop} {m₀ : Str → Option Value} {news : List (Addr × Obj)} {J : Nat → (Str → Option Value) → List (Addr × Obj) → Prop}
    (W : Walks prog w A I [I] [I] n P St) (hLf : env.locals ≠ I) (hwr : h₀.get? I = none) (hnw : ∀ p ∈ news, p.1 ≠ I) (hlive : ∀ i h, St i h → ∃ o, h.get? I = some o) (hst : St 0 s.heap) (F : Fr h₀ env.locals s.heap m₀) (N : News h₀ env.locals s.heap news) (hj : J 0 m₀ news)
    (turn : CellTurn prog w A h₀ env x body (fun f s' => R (.ok f) s') (notedBy (model prog w) A env fun e s' => R (.error e) s') J n P s)
    (done : ∀ m₁ news₁ h tk, J n m₁ news₁ → Fr h₀ env.locals h m₁ → News h₀ env.locals h news₁ → R (.ok .next) { s with heap := h, toks := tk }) :
    codeAny (model prog w) A (.forLoop (.Name x px) (.ref I) body [] env) R s := by
  have old : ∀ b o, h₀.get? b = some o → b ∉ [I] := fun b o e hb => by rw [List.mem_singleton.mp hb, hwr] at e; cases e
  refine codeAny_forLoop
    (fun k s' => ∃ h' tk m' news' i, s' = { s with heap := h', toks := tk } ∧ St i h' ∧ Fr h₀ env.locals h' m' ∧ News h₀ env.locals h' news' ∧ (∀ p ∈ news', p.1 ≠ I) ∧ J i m' news' ∧ i ≤ n ∧ k = n + 1 - i) ?_ (n + 1)
    ⟨s.heap, s.toks, m₀, news, 0, rfl, hst, F, N, hnw, hj, Nat.zero_le _, rfl⟩
  rintro k s' ⟨h', tk, m', news', i, rfl, hst', F', N', hnw', hJ, hi, rfl⟩
  have next : ∀ h₁ : Heap, (∀ b o, b ∉ [I] → h'.get? b = some o → h₁.get? b = some o) → Fr h₀ env.locals h₁ m' ∧ News h₀ env.locals h₁ news' := fun h₁ hk₁ =>
    ⟨⟨F'.ns.at' fun o e => hk₁ _ o (by simpa using hLf) e, fun b o e => hk₁ b o (old b o e) (F'.keep b o e), F'.above⟩, fun p hp => ⟨hk₁ _ _ (by simpa using hnw' p hp) (N' p hp).1, (N' p hp).2⟩⟩
  by_cases hlt : i < n
  · refine W.item i _ _ _ hlt hst' fun v h₁ tk₁ hP hst₁ hk₁ => ?_
    obtain ⟨F₁, N₁⟩ := next h₁ hk₁
    obtain ⟨oI, hoI⟩ := hlive _ _ hst₁
    have NI : News h₀ env.locals h₁ [(I, oI)] := by
      intro p hp
      rw [List.mem_singleton.mp hp]
      exact ⟨hoI, Ne.symm hLf, hwr⟩
    have hsep : ∀ p ∈ news', ∀ q ∈ [(I, oI)], p.1 ≠ q.1 := fun p hp q hq => by rw [List.mem_singleton.mp hq]; exact hnw' p hp
    have N₂ : News h₀ env.locals h₁ (news' ++ [(I, oI)]) := fun p hp => (List.mem_append.mp hp).elim (N₁ p) (NI p)
    have fin : ∀ s₃, TurnEnd h₀ env.locals (J (i + 1)) [(I, oI)] { s with heap := h₁, toks := tk₁ } s₃ → ∃ k', k' < n + 1 - i ∧ ∃ h' tk m' news' i', s₃ = { s with heap := h', toks := tk } ∧ St i' h' ∧ Fr h₀ env.locals h' m' ∧ News h₀ env.locals h' news' ∧ (∀ p ∈ news', p.1 ≠ I) ∧ J i' m' news' ∧ i' ≤ n ∧ k' = n + 1 - i' := by
      rintro s₃ ⟨h₃, tk₃, m₃, news₃, nx, rfl, F₃, N₃, hn, ho, ha, hm⟩
      refine ⟨n + 1 - (i + 1), by omega, h₃, tk₃, m₃, nx, i + 1, rfl, ?_, F₃, fun p hp => N₃ p (hn p hp), fun p hp => ha p hp (I, oI) (.head _), hm, hlt, rfl⟩
      refine W.frame _ _ _ hst₁ fun b hb o e => ?_
      rw [List.mem_singleton] at hb
      subst hb
      have e' : oI = o := Option.some.inj (hoI.symm.trans e)
      exact e' ▸ (N₃ _ (ho (b, oI) (.head _))).1
    refine wpAny_assign_Name (wpAny_mono (turn i v m' news' h₁ tk₁ [(I, oI)] hlt hP hsep hJ F₁ N₂) (fun _ s₂ h₂ => wpAny_mono h₂ (fun f s₃ p => ?_) fun _ _ e => e) fun _ _ e => e)
    cases f with
    | ret v => exact p
    | brk => exact p
    | next => exact fin _ p
    | cont => exact fin _ p
  · have hin : i = n := by omega
    subst hin
    refine W.done _ _ _ hst' fun h₁ tk₁ hk₁ => wpAny_execs_nil ?_
    obtain ⟨F₁, N₁⟩ := next h₁ hk₁
    exact done m' news' h₁ tk₁ hJ F₁ N₁

theorem For_cell {px pos : Pos} {iter : Expr} (h₀ : Heap)
    (h : wpAny (model prog w) A (eval iter env) (fun xv s₁ => wpAny (model prog w) A (pyIter xv) (fun it s₂ => CellAt prog w A h₀ env x body Q E it s₂) E s₁) E s)
    (hs : ∀ x, foldedSetIterable iter env x = pure x := by intro _; rfl)
    (hE : PassesOwn (model prog w) A env E := by passes_own) :
    wpAny (model prog w) A (exec (.For (.Name x px) iter body [] pos) env) Q E s := by
  refine wpAny_For (wpAny_mono h (fun xv s₁ h₁ => wpAny_mono h₁ (fun it s₂ h₂ => ?_) fun _ _ e => e) fun _ _ e => e) hs
  obtain ⟨I, n, P, St, m₀, news, J, rfl, W, hLf, hwr, hnw, hlive, hst, F, N, hj, turn, done⟩ := h₂
  refine codeAny_cell (R := fun r s' => match r with | .ok f => Q f s' | .error e => cameBackBy (model prog w) A env E e s') W hLf hwr hnw hlive hst F N hj ?_ done
  intro i v m₁ news₁ h tk own hi hP hsep hJ F₁ N₁
  refine wpAny_mono (wpAny_passesOwn hE (turn i v m₁ news₁ h tk own hi hP hsep hJ F₁ N₁)) (fun _ s₂ h₂ => wpAny_passesOwn hE h₂) fun _ _ e => e

/-- a loop over a range whose target is a cell -/
theorem cellRange {r : Addr} {a₀ b₀ c : Int} {t₀ u₀ v₀ : Tok} {n : Nat} {m₀ : Str → Option Value} {news : List (Addr × Obj)} (J : Nat → (Str → Option Value) → List (Addr × Obj) → Prop)
    (hh : A.handled = none) (hr : IsRange s.heap r a₀ b₀ c t₀ u₀ v₀) (hsmall : Builtin.Range.small a₀ b₀ c = true) (hn : Builtin.Range.rangeSize a₀ b₀ c = (n : Int)) (F : Fr h₀ env.locals s.heap m₀) (N : News h₀ env.locals s.heap news) (hj : J 0 m₀ news)
    (turn : ∀ i t m₁ news₁ h tk own, i < n → (∀ p ∈ news₁, ∀ q ∈ own, p.1 ≠ q.1) → J i m₁ news₁ → Fr h₀ env.locals h m₁ → News h₀ env.locals h (news₁ ++ own) →
      wpAny (model prog w) A (storeName env x (.int (a₀ + (i : Nat) * c) t)) (fun _ s₂ => wpAny (model prog w) A (execs body env) (TurnPost h₀ env.locals (J (i + 1)) own { s with heap := h, toks := tk } Q) E s₂) E { s with heap := h, toks := tk })
    (done : ∀ m₁ news₁ h tk, J n m₁ news₁ → Fr h₀ env.locals h m₁ → News h₀ env.locals h news₁ → Q .next { s with heap := h, toks := tk }) :
    wpAny (model prog w) A (pyIter (.ref r)) (fun it s₂ => CellAt prog w A h₀ env x body Q E it s₂) E s := by
  refine wpAny_pyIter_range hr hsmall ?_
  have W : Walks prog w A s.heap.objs.size [s.heap.objs.size] [s.heap.objs.size] n (fun i v => i < n ∧ ∃ t, v = .int (a₀ + i * c) t)
      (fun i h => IsRangeIter h s.heap.objs.size (a₀ + (i : Nat) * c) ((n : Int) - (i : Nat)) c) := (Walks.range hh _ a₀ c n).bound
  refine ⟨_, n, _, _, m₀, news, J, rfl, W, Nat.ne_of_lt F.ns.lt, next_is_new F, fun p hp => Nat.ne_of_lt (Heap.lt_size (N p hp).1), fun i h st => ⟨_, st⟩, ?_, F.push _, fun p hp => ⟨Heap.get?_push_of_some _ (N p hp).1, (N p hp).2⟩, hj, ?_, ?_⟩
  · show IsRangeIter _ _ _ _ _
    rw [hn]
    simpa using Heap.get?_push_size _ rfl
  · rintro i v m₁ nx h tk own hi ⟨_, t, rfl⟩ hoff hJ F₁ N₁
    exact turn i t m₁ nx h tk own hi hoff hJ F₁ N₁
  · intro m₁ nx h tk hJ F₁ N₁
    exact done m₁ nx h tk hJ F₁ N₁

/-- loopT where the loop's body has no return -/
theorem loopU {I : Addr} {n : Nat} {P : Nat → Value → Prop} {St : Nat → Heap → Prop} {m₀ : Str → Option Value} {news : List (Addr × Obj)} (J : Nat → (Str → Option Value) → List (Addr × Obj) → Prop)
    (W : Walks prog w A I [I] [I] n P St) (hLf : env.locals ≠ I) (hwr : h₀.get? I = none) (hnw : ∀ p ∈ news, p.1 ≠ I) (hlive : ∀ i h, St i h → ∃ o, h.get? I = some o) (hst : St 0 s.heap) (F : Fr h₀ env.locals s.heap m₀) (N : News h₀ env.locals s.heap news) (hj : J 0 m₀ news)
    (turn : ∀ i v m₁ news₁ s₁ own, i < n → P i v → (∀ p ∈ news₁, ∀ q ∈ own, p.1 ≠ q.1) → J i m₁ news₁ → Fr h₀ env.locals s₁.heap (fun y => if y = x then some v else m₁ y) → News h₀ env.locals s₁.heap (news₁ ++ own) →
      wpAny (model prog w) A (execs body env) (fun f s₂ => f = .next ∧ TurnEnd h₀ env.locals (J (i + 1)) own s₁ s₂) E s₁)
    (done : ∀ m₁ news₁ h tk, J n m₁ news₁ → Fr h₀ env.locals h m₁ → News h₀ env.locals h news₁ → Q .next { s with heap := h, toks := tk }) :
    LoopAtU prog w A h₀ env x body Q E (.ref I) s := by
  refine ⟨I, [I], [I], n, P, St, m₀, news, J, rfl, W, (by simpa using hLf), (by simpa using hwr), (fun p hp => by simpa using hnw p hp), hst, F, N, hj, ?_, ?_⟩
  · rintro i v m₁ news₁ s₁ own hin hP hJ hoff hown _ hall hst' F₁ N₁
    obtain ⟨o, ho⟩ := hlive _ _ hst'
    have hI : (I, o) ∈ own := hall I (by simp) hwr o ho
    have hsep : ∀ p ∈ news₁, ∀ q ∈ own, p.1 ≠ q.1 := fun p hp q hq e => hoff p hp (e ▸ hown q hq)
    have N₂ : News h₀ env.locals s₁.heap (news₁ ++ own) := fun p hp => N₁ p ((List.mem_append.mp hp).elim (fun h => List.mem_append.mpr (.inr h)) fun h => List.mem_append.mpr (.inl h))
    refine wpAny_mono (turn i v m₁ news₁ s₁ own hin hP hsep hJ F₁ N₂) (fun f s₂ p => ?_) fun _ _ e => e
    obtain ⟨rfl, h', tk, m', news', nx, e, F', N', hn, ho', ha, hm⟩ := p
    refine ⟨rfl, h', tk, m', nx, e, F', fun p hp => N' p ((List.mem_append.mp hp).elim (ho' p) (hn p)), fun p hp hq => ?_, hm⟩
    rw [List.mem_singleton] at hq
    exact ha p hp (I, o) hI hq
  · rintro h' tk m' news' F' N' _ hJ
    exact done m' news' h' tk hJ F' N'
end
end Mine

end

section
/- the part WK -/
open PySem PySem.W PyProof.Rows PySem.Spec PySem.Calls
set_option maxRecDepth 100000
namespace Mine
local macro_rules | `(tactic| k_room) => `(tactic| ((try simp only [depth_mark, depth_under_make, depth_under_kw, depth_in1, depth_deeper, depth_caller]); (try dsimp only [ktrTop]); first | omega | decide))

theorem know_val {m : Str → Option Value} {x z : Str} {v u : Value} (hx : m x = some v) (hz : m z = some u) : (fun y => if y = z then some u else m y) x = some v := by
  dsimp only
  split
  · rename_i e
    rw [← hx, e, hz]
  · exact hx
theorem fr_also {h₀ h : Heap} {L : Addr} {m : Str → Option Value} {x : Str} {v : Value} (F : Fr h₀ L h m) (hx : m x = some v) : Fr h₀ L h (fun y => if y = x then some v else m y) := fr_know hx F
def InJ (L : Addr) (M : Str → Option Value) (G : Nat → List Str → Str → Prop) (rest4 own : List (Addr × Obj)) (d1 d2 : Addr × Obj) (d : Nat) (m₁ : Str → Option Value) (nx : List (Addr × Obj)) : Prop :=
  ∃ (a2 a3 a4 : Addr × Obj) (iA : Addr) (iv : List Value) (ii : Nat) (is : List Str) (rest : Str) (tr : Tok) (ps : Array Value) (c : Addr) (oc oDepth : Obj) (v : Option Value), rest4 = [a2, a3, a4] ∧ G d is rest ∧ StrsAre iv is ∧ TabSt ps c oc ∧ oDepth.data = .cell v ∧ c ≠ L + 3 ∧ m₁ (Str.ofString "rest") = some (.str rest tr) ∧ m₁ (Str.ofString "ids") = some (.ref iA) ∧
    (∀ y, y ≠ Str.ofString "rest" → y ≠ Str.ofString "ids" → y ≠ Str.ofString "told" → y ≠ Str.ofString "bare" → y ≠ Str.ofString "peeled" → m₁ y = M y) ∧
    (∀ q ∈ own, iA ≠ q.1 ∧ c ≠ q.1) ∧ nx = (iA, W.listOf iv.toArray ii) :: a2 :: a3 :: a4 :: d1 :: d2 :: (L + 3, oDepth) :: (38, tabObj ps) :: (c, oc) :: own
theorem off_data {h : Heap} {a b : Addr} {o o' : Obj} (e : h.get? a = some o) (e' : h.get? b = some o') (hd : o.data ≠ o'.data) : a ≠ b := by
  rintro rfl
  rw [e] at e'
  exact hd (congrArg Obj.data (Option.some.inj e'))
theorem mul_gt : ∀ n : Fin 12, Txt.mul (Str.ofString ">") ((n.val : Nat) : Int) = ⟨(List.replicate n.val 62).toArray⟩ := by decide +kernel
theorem mulok_gt : ∀ n : Fin 12, MulOk (Str.ofString ">") ((n.val : Nat) : Int) := by unfold MulOk; decide +kernel
local macro_rules | `(tactic| walk_at "binaryOp Add str str") => `(tactic| (k_here; (with_reducible show wpAny _ _ (binaryOp Operator.Add (Value.str _ _) (Value.str _ _)) _ _ _); refine SB.add (fun _ _ => ?_) (by simp only [Str.length_append, sizeLine_eq, len_lt, len_gt]; omega)))
theorem str_ext {a b : Str} (h : a.cps.toList = b.cps.toList) : a = b := by
  cases a; cases b
  exact congrArg Str.mk (Array.toList_inj.mp h)
theorem slice_tail (a b : Str) (hb : 0 < b.length) : Txt.slice (a ++ b) (some (-(b.length : Int))) none = b := by
  have e : Txt.slice (a ++ b) (some (-(b.length : Int))) none = PySem.StrLaws.sliceText (a ++ b) (some (-(b.length : Int))) none := rfl
  have hl : (a ++ b).length = a.length + b.length := Str.length_append a b
  rw [e, PySem.StrLaws.sliceText_from_neg (by omega) (by rw [hl]; omega)]
  apply str_ext
  have h1 : (-(b.length : Int) + ((a ++ b).length : Int)).toNat = a.cps.toList.length := by rw [hl]; simp only [Str.length, Array.length_toList]; omega
  have h2 : (((a ++ b).cps.toList.length : Int) - (-(b.length : Int) + ((a ++ b).length : Int))).toNat = b.cps.toList.length := by rw [hl, Str.cps_append, Array.toList_append, List.length_append]; simp only [Str.length, Array.length_toList]; omega
  rw [h1, h2, Str.cps_append, Array.toList_append, List.toList_toArray, List.drop_left, List.take_length]
theorem slice_front (a b : Str) (hb : 0 < b.length) : Txt.slice (a ++ b) none (some (-(b.length : Int))) = a := by
  have e : Txt.slice (a ++ b) none (some (-(b.length : Int))) = PySem.StrLaws.sliceText (a ++ b) none (some (-(b.length : Int))) := rfl
  have hl : (a ++ b).length = a.length + b.length := Str.length_append a b
  rw [e, PySem.StrLaws.sliceText_to_neg (by omega) (by rw [hl]; omega)]
  apply str_ext
  have h1 : (-(b.length : Int) + ((a ++ b).length : Int) - 0).toNat = a.cps.toList.length := by rw [hl]; simp only [Str.length, Array.length_toList]; omega
  rw [h1, Str.cps_append, Array.toList_append, List.toList_toArray, List.drop_zero, List.take_left]
theorem lstrip_row (n : Nat) (nm : Str) (h : ∀ c ∈ nm.cps.toList.head?, c ≠ 32) : Txt.lstripChars ⟨(List.replicate n 32 ++ nm.cps.toList).toArray⟩ (Str.ofString " ") = nm := by
  have g : ∀ c, (Str.ofString " ").cps.contains c = (c == 32) := by
    intro c
    have e : (Str.ofString " ").cps = [32].toArray := by decide +kernel
    rw [e, List.contains_toArray, List.contains_cons]
    simp
  have hz : nm.cps.toList.takeWhile (fun c => (Str.ofString " ").cps.contains c) = [] := by
    cases e : nm.cps.toList with
    | nil => rfl
    | cons a l =>
      rw [e] at h
      have := h a (by simp)
      rw [List.takeWhile_cons, g]
      simp [this]
  have key : ∀ n : Nat, (List.replicate n 32 ++ nm.cps.toList).takeWhile (fun c => (Str.ofString " ").cps.contains c) = List.replicate n 32 := by
    intro n
    induction n with
    | zero => simpa using hz
    | succ n ih =>
      rw [List.replicate_succ, List.cons_append, List.takeWhile_cons, g]
      simp only [beq_self_eq_true, if_true, ih]
  unfold Txt.lstripChars
  rw [PyProof.Rows.stripBy_eq]
  have e1 : stripLo (fun c => (Str.ofString " ").cps.contains c) true ⟨(List.replicate n 32 ++ nm.cps.toList).toArray⟩ = n := by
    unfold stripLo
    rw [if_pos rfl, List.toList_toArray, key, List.length_replicate]
  have e2 : ∀ lo, stripHi (fun c => (Str.ofString " ").cps.contains c) false ⟨(List.replicate n 32 ++ nm.cps.toList).toArray⟩ lo = n + nm.cps.size := by
    intro lo
    unfold stripHi
    rw [if_neg (by decide)]
    simp only [Str.length, List.size_toArray, List.length_append, List.length_replicate, Array.length_toList]
  have e3 : Builtin.Str.strSub ⟨(List.replicate n 32 ++ nm.cps.toList).toArray⟩ n (n + nm.cps.size) = nm := by
    unfold Builtin.Str.strSub
    cases nm with
    | mk a =>
      congr 1
      apply Array.toList_inj.mp
      simp
      exact List.take_of_length_le (by simp)
  exact (congr (congrArg (Builtin.Str.strSub ⟨(List.replicate n 32 ++ nm.cps.toList).toArray⟩) e1) (e2 _)).trans e3

set_option maxHeartbeats 8000000 in
theorem main_turn (w : World) (p : Program) (loose : List Str) (mean : ExcName → Option Value) (mg mb : Str → Option Value) (fa : Addr) (cd : Value) (h₀ : Heap) (L : Addr) (m : Str → Option Value) (s : Shared) (Q : Flow → Shared → Prop) (E : Value → Shared → Prop)
    (numA dA nA iA rA c' : Addr) (numv dv nv iv rv : List Value) (numn dn nn ii rn : Nat) (nums ds : List Int) (ns is rs : List Str) (oNum oDep oDepth oc : Obj) (ps : Array Value) (k unit : Int) (tkk tkr tku tkl : Tok) (rest nm : Str) (lower lead : Nat) (v₀ : Option Value) (own : List (Addr × Obj))
    (G : Nat → List Str → Str → Prop)
    (hE : PassesOwn (model PySem.Challenge.rw_wb0006_01.row.prog w) (callerA.deeper (envOfC (Str.ofString "law") lawScope L fa cd)) (envOfC (Str.ofString "law") lawScope L fa cd) E)
    (hnl2 : ds.length ≤ ns.length) (hml : nums.length = ds.length) (hown : ∀ q ∈ own, q.1 ≠ 38 ∧ q.1 ≠ L + 3) (hcc : c' ≠ L + 3) (hsep0 : ∀ q ∈ (rA, W.listOf rv.toArray rn) :: own, iA ≠ q.1 ∧ c' ≠ q.1)
    (hds : ∀ i, i < ds.length → 0 ≤ ds.getD i 0 ∧ ds.getD i 0 ≤ (i : Int)) (b2 : ∀ i, (ns.getD i Str.empty).length ≤ 20)
    (hG0 : G lower is rest)
    (ret : ∀ (h' : Heap) (tk' : Nat) (D : Addr) (vs : List Value) (dn' : Nat) (is₁ : List Str) (rest₁ : Str) (front : List Nat) (ps₁ : Array Value) (c₁ : Addr) (oc₁ oD₁ : Obj) (v₁ : Option Value) (m₁ : Str → Option Value) (ta tb : Tok), G (lead + 1) is₁ rest₁ → rest₁ = ⟨(front ++ (60 :: nm.cps.toList ++ List.replicate (lead + 1) 62)).toArray⟩ → Fr h₀ L h' m₁ →
      m₁ (Str.ofString "rest") = some (.str ⟨(front ++ List.replicate lead 62).toArray⟩ ta) → m₁ (Str.ofString "ids") = some (.ref D) → m₁ (Str.ofString "lower") = some (.int (lead : Int) tb) →
      (∀ y, y ∉ [Str.ofString "rest", Str.ofString "ids", Str.ofString "told", Str.ofString "bare", Str.ofString "peeled", Str.ofString "name", Str.ofString "lead", Str.ofString "over", Str.ofString "tail", Str.ofString "lower"] → m₁ y = (if y = Str.ofString "k" then some (.int k tkk) else if y = Str.ofString "names" then some (.ref nA) else if y = Str.ofString "rows" then some (.ref rA) else if y = Str.ofString "unit" then some (.int unit tku) else m y)) →
      News h₀ L h' ((D, W.listOf vs.toArray dn') :: (nA, W.listOf nv.toArray nn) :: (dA, W.listOf dv.toArray dn) :: (numA, W.listOf numv.toArray numn) :: (L + 1, oNum) :: (L + 2, oDep) :: (L + 3, oD₁) :: (38, tabObj ps₁) :: (c₁, oc₁) :: (rA, W.listOf rv.toArray rn) :: own) → StrsAre vs is₁ → TabSt ps₁ c₁ oc₁ → oD₁.data = .cell v₁ → c₁ ≠ L + 3 → (∀ q ∈ (rA, W.listOf rv.toArray rn) :: own, D ≠ q.1 ∧ c₁ ≠ q.1) →
      Q .next { s with heap := h', toks := tk' })
    (hEnd : ∀ is rest, G (lead + 1) is rest → StripsTo rest rest ∧ rest.length ≤ 9000 ∧ ∃ front : List Nat, rest = ⟨(front ++ (60 :: nm.cps.toList ++ List.replicate (lead + 1) 62)).toArray⟩)
    (hG : ∀ (d : Nat) is rest, lower ≤ d → d ≤ lead → G d is rest → is.length = ds.length ∧ rest.length ≤ 9000 ∧ ∃ (pe : Int) (is' : List Str) (bare told : Str), is' = is.take pe.toNat ++ [Str.empty] ++ is.drop (pe + 1).toNat ∧ bare = nestS (List.take (k + 1).toNat ds) ns is' ∧ told = (if (nums.getD pe.toNat 0).fmod 13 < 11 then bare else rest) ∧
      StripsTo rest told ∧ StripsTo (rest ++ Str.ofString "\n") (told ++ Str.ofString "\n") ∧ StripsTo (rest ++ Str.ofString "\n\n") (rest ++ Str.ofString "\n\n") ∧ bare.length ≤ 9000 ∧ (∀ i, (is'.getD i Str.empty).length ≤ 30) ∧ (0 ≤ pe ∧ pe ≤ k ∧ ds.getD pe.toNat 0 = (d : Int) ∧ ∀ j, pe < j → j ≤ k → ds.getD j.toNat 0 ≠ (d : Int)) ∧ G (d + 1) is' bare)
    (B : Below callerA h₀ [] h₀) (X : (Mine.hd.heap_39 w.params).In h₀) (T : Top p loose mean mg mb h₀) (codeHd : CodeHd h₀ 42 38)
    (F : Fr h₀ L s.heap (fun y => if y = Str.ofString "k" then some (.int k tkk) else if y = Str.ofString "names" then some (.ref nA) else if y = Str.ofString "ids" then some (.ref iA) else if y = Str.ofString "rest" then some (.str rest tkr) else if y = Str.ofString "rows" then some (.ref rA) else if y = Str.ofString "unit" then some (.int unit tku) else if y = Str.ofString "lower" then some (.int (lower : Int) tkl) else m y))
    (N : News h₀ L s.heap ((iA, W.listOf iv.toArray ii) :: (nA, W.listOf nv.toArray nn) :: (dA, W.listOf dv.toArray dn) :: (numA, W.listOf numv.toArray numn) :: (L + 1, oNum) :: (L + 2, oDep) :: (L + 3, oDepth) :: (38, tabObj ps) :: (c', oc) :: (rA, W.listOf rv.toArray rn) :: own))
    (d1 : oNum.data = .cell (some (.ref numA))) (d2 : oDep.data = .cell (some (.ref dA))) (d3 : oDepth.data = .cell v₀)
    (i1 : IntsAre numv nums) (i2 : IntsAre dv ds) (i3 : StrsAre nv ns) (i4 : StrsAre iv is) (i5 : StrsAre rv rs) (hst : TabSt ps c' oc) (hk : 0 ≤ k ∧ k < ds.length) (hdl : ds.length ≤ 6) (hrl : k < rs.length) (hrb : rs.length ≤ 20) (hun : 1 ≤ unit ∧ unit ≤ 4) (hld : lead ≤ 10) (hlw : lower ≤ lead + 1)
    (hrow : rs.getD k.toNat Str.empty = ⟨(List.replicate (unit.toNat * lead) 32 ++ nm.cps.toList).toArray⟩) (hnm : ∀ c ∈ nm.cps.toList.head?, c ≠ 32) (hnl : nm.length ≤ 20) :
    wpAny (model PySem.Challenge.rw_wb0006_01.row.prog w) (callerA.deeper (envOfC (Str.ofString "law") lawScope L fa cd)) (execs mainBody (envOfC (Str.ofString "law") lawScope L fa cd)) Q E s := by
  revert X N; k_fill; intro X N
  unfold mainBody lawRest PySem.Challenge.pw_wb0006_01
  dsimp only
  generalize hsc : lawScope = sc at hE ⊢
  unfold lawScope PySem.Challenge.pw_wb0006_01 at hsc
  dsimp only at hsc
  subst hsc
  have hun' : ((unit.toNat : Nat) : Int) = unit := by omega
  have hdiff : ((unit.toNat * lead + nm.length : Nat) : Int) - (nm.length : Int) = unit * (lead : Int) := by
    rw [Int.natCast_add, Int.natCast_mul, hun']; omega
  have hov : (((unit.toNat * lead + nm.length : Nat) : Int) - (nm.length : Int)).fmod unit = 0 := by rw [hdiff]; exact Int.mul_fmod_right ..
  have hdv : (((unit.toNat * lead + nm.length : Nat) : Int) - (nm.length : Int)).fdiv unit = (lead : Int) := by rw [hdiff]; exact Int.mul_fdiv_cancel_left _ (by omega)
  repeat' ((fail_if_success (with_reducible show wpAny _ _ (call (.builtin "str.lstrip") _) _ _ _)); (first | walk1 | (dsimp only; walk1)))
  rw [hrow]
  have hul : unit.toNat * lead ≤ 40 := Nat.mul_le_mul (show unit.toNat ≤ 4 by omega) hld
  have hnl' : nm.cps.size ≤ 20 := hnl
  have hlen : (rs.getD k.toNat Str.empty).length = unit.toNat * lead + nm.length := by
    rw [hrow]
    simp only [Str.length, List.size_toArray, List.length_append, List.length_replicate, Array.length_toList]
  refine KXw.lstripChars (lstrip_row _ nm hnm) (by rw [← hrow, hlen, PySem.sizeLine_eq]; omega) ?_
  intro t₁ k₁
  repeat' ((fail_if_success (with_reducible show wpAny _ _ (call (.builtin "len") _) _ _ _)); (first | walk1 | (dsimp only; walk1)))
  refine PyProof.Rows.len_str (by rw [hlen]; omega) ?_
  rw [hlen]
  repeat' ((fail_if_success (with_reducible show wpAny _ _ (exec (Stmt.For _ _ _ _ _) _) _ _ _)); (first | walk1 | (dsimp only; walk1)))
  all_goals (first | (rename_i e2; exact absurd hov e2) | skip)
  rename_i h₅ F₅ N₅ _ _
  rw [hdv] at F₅
  have N₆ : News h₀ L h₅ ((iA, W.listOf iv.toArray ii) :: (nA, W.listOf nv.toArray nn) :: (dA, W.listOf dv.toArray dn) :: (numA, W.listOf numv.toArray numn) :: (L + 1, oNum) :: (L + 2, oDep) :: (L + 3, oDepth) :: (38, tabObj ps) :: (c', oc) :: (rA, W.listOf rv.toArray rn) :: own) := by
    refine fun p hp => N₅ p ?_
    revert p
    kcf_all
  clear N₅
  obtain ⟨M, FM, q1, q2, q3, q4, q5, q6, q7, qM⟩ : ∃ (M : Str → Option Value), Fr h₀ L h₅ M ∧ M (Str.ofString "k") = some (.int k tkk) ∧ M (Str.ofString "names") = some (.ref nA) ∧ M (Str.ofString "ids") = some (.ref iA) ∧ M (Str.ofString "rest") = some (.str rest tkr) ∧ (∃ t, M (Str.ofString "lead") = some (.int (lead : Int) t)) ∧ (∃ t, M (Str.ofString "name") = some (.str nm t)) ∧ M (Str.ofString "lower") = some (.int (lower : Int) tkl) ∧
      (∀ y, y ≠ Str.ofString "over" → y ≠ Str.ofString "lead" → y ≠ Str.ofString "name" → M y = (if y = Str.ofString "k" then some (.int k tkk) else if y = Str.ofString "names" then some (.ref nA) else if y = Str.ofString "ids" then some (.ref iA) else if y = Str.ofString "rest" then some (.str rest tkr) else if y = Str.ofString "rows" then some (.ref rA) else if y = Str.ofString "unit" then some (.int unit tku) else if y = Str.ofString "lower" then some (.int (lower : Int) tkl) else m y)) :=
    ⟨_, F₅, by rfl, by rfl, by rfl, by rfl, ⟨_, by rfl⟩, ⟨_, by rfl⟩, by rfl, fun y z1 z2 z3 => by simp only [if_neg z1, if_neg z2, if_neg z3]⟩
  clear F₅
  obtain ⟨tld, q5⟩ := q5
  obtain ⟨tnm, q6⟩ := q6
  have FM := fr_also (fr_also FM q5) (know_val q7 q5)
  refine For_cell h₀ ?_ (hE := hE)
  repeat' ((fail_if_success (with_reducible show wpAny _ _ (pyIter _) _ _ _)); (first | walk1 | (dsimp only; walk1)))
  rename_i F₇ h₈ _ _ _ _ hR₈ F₈ N₈ _
  have hcnt : ((lead : Int) + 1 - (lower : Int)).toNat = lead + 1 - lower := by omega
  have N₈' : News h₀ L h₈ ((iA, W.listOf iv.toArray ii) :: (nA, W.listOf nv.toArray nn) :: (dA, W.listOf dv.toArray dn) :: (numA, W.listOf numv.toArray numn) :: (L + 1, oNum) :: (L + 2, oDep) :: (L + 3, oDepth) :: (38, tabObj ps) :: (c', oc) :: (rA, W.listOf rv.toArray rn) :: own) := by
    refine fun p hp => N₈ p ?_
    revert p
    kcf_all
  have FM₈ : Fr h₀ L h₈ M := by
    have e : (fun y => if y = Str.ofString "lower" then some (Value.int (lower : Int) tkl) else if y = Str.ofString "lead" then some (Value.int (lead : Int) tld) else M y) = M := by
      funext y
      by_cases z1 : y = Str.ofString "lower"
      · rw [if_pos z1, z1, q7]
      · rw [if_neg z1]
        by_cases z2 : y = Str.ofString "lead"
        · rw [if_pos z2, z2, q5]
        · rw [if_neg z2]
    exact e ▸ F₈
  refine cellRange (fun i => InJ L M G [(nA, W.listOf nv.toArray nn), (dA, W.listOf dv.toArray dn), (numA, W.listOf numv.toArray numn)] ((rA, W.listOf rv.toArray rn) :: own) (L + 1, oNum) (L + 2, oDep) (lower + i)) (by rfl) hR₈ (by exact small_one (by omega) (by omega) (by omega) (by omega)) (by exact rangeSize_nat _ _) FM₈ N₈' ?j0 ?turn ?done
  case j0 => exact ⟨_, _, _, iA, iv, ii, is, rest, tkr, ps, c', oc, oDepth, v₀, rfl, hG0, i4, hst, d3, hcc, q4, q3, fun _ _ _ _ _ _ => rfl, hsep0, rfl⟩
  case turn =>
    rintro i t m₁ nx h tk own2 hi hsep ⟨a2, a3, a4, iA₁, iv₁, ii₁, is₁, rest₁, tr₁, ps₁, c₁, oc₁, oDepth₁, v₁, ea, hG₁, j1, j2, j3, j4, j5, j6, j7, jS, rfl⟩ F₉ N₉
    obtain ⟨rfl, rfl, rfl⟩ : a2 = _ ∧ a3 = _ ∧ a4 = _ := by simpa [eq_comm] using ea
    rw [hcnt] at hi
    have F₉' : Fr h₀ L h m₁ := F₉
    have N₉' : News h₀ L h ((iA₁, W.listOf iv₁.toArray ii₁) :: (nA, W.listOf nv.toArray nn) :: (dA, W.listOf dv.toArray dn) :: (numA, W.listOf numv.toArray numn) :: (L + 1, oNum) :: (L + 2, oDep) :: (L + 3, oDepth₁) :: (38, tabObj ps₁) :: (c₁, oc₁) :: (rA, W.listOf rv.toArray rn) :: (own ++ own2)) := N₉
    have e3 := (N₉' (L + 3, oDepth₁) (.tail _ (.tail _ (.tail _ (.tail _ (.tail _ (.tail _ (.head _)))))))).1
    have e38 := (N₉' (38, tabObj ps₁) (.tail _ (.tail _ (.tail _ (.tail _ (.tail _ (.tail _ (.tail _ (.head _))))))))).1
    have u3 : ∀ q ∈ own2, q.1 ≠ L + 3 := fun q hq => Ne.symm (hsep (L + 3, oDepth₁) (.tail _ (.tail _ (.tail _ (.tail _ (.tail _ (.tail _ (.head _))))))) q hq)
    have u38 : ∀ q ∈ own2, q.1 ≠ 38 := fun q hq => Ne.symm (hsep (38, tabObj ps₁) (.tail _ (.tail _ (.tail _ (.tail _ (.tail _ (.tail _ (.tail _ (.head _)))))))) q hq)
    refine storeX_C F₉' N₉' (c := L + 3) (o := oDepth₁) (by with_unfolding_all rfl) (.tail (off_data (N₉' _ (.head _)).1 e3 (by rw [j3]; nofun)) (.tail (off_data (N₉' _ (.tail _ (.head _))).1 e3 (by rw [j3]; nofun)) (.tail (off_data (N₉' _ (.tail _ (.tail _ (.head _)))).1 e3 (by rw [j3]; nofun))
      (.tail (off_data (N₉' _ (.tail _ (.tail _ (.tail _ (.head _))))).1 e3 (by rw [j3]; nofun)) (.tail (by show L + 1 ≠ L + 3; exact Nat.ne_of_lt (by omega)) (.tail (by show L + 2 ≠ L + 3; exact Nat.ne_of_lt (by omega)) (.head (List.forall_mem_cons.mpr ⟨off_data e38 e3 (by rw [j3]; nofun), List.forall_mem_cons.mpr ⟨j4, List.forall_mem_cons.mpr
        ⟨off_data (N₉' _ (.tail _ (.tail _ (.tail _ (.tail _ (.tail _ (.tail _ (.tail _ (.tail _ (.tail _ (.head _))))))))))).1 e3 (by rw [j3]; nofun), fun q hq => (List.mem_append.mp hq).elim (fun z => (hown q z).2) (u3 q)⟩⟩⟩)))))))) j3 ?_
    intro h₁₀ oD F₁₀ N₁₀ hoD
    obtain ⟨g1, g2, pe, is', bare, told, g3, g4, g5, g6, g7, g8, g9, g10, g11, g12⟩ := hG (lower + i) is₁ rest₁ (by omega) (by omega) hG₁
    have km : m₁ (Str.ofString "k") = some (.int k tkk) := (j7 _ (by decide +kernel) (by decide +kernel) (by decide +kernel) (by decide +kernel) (by decide +kernel)).trans q1
    have nm₁ : m₁ (Str.ofString "names") = some (.ref nA) := (j7 _ (by decide +kernel) (by decide +kernel) (by decide +kernel) (by decide +kernel) (by decide +kernel)).trans q2
    have F₁₁ : Fr h₀ L h₁₀ (fun y => if y = Str.ofString "k" then some (.int k tkk) else if y = Str.ofString "names" then some (.ref nA) else if y = Str.ofString "ids" then some (.ref iA₁) else if y = Str.ofString "rest" then some (.str rest₁ tr₁) else m₁ y) := by
      have e : (fun y => if y = Str.ofString "k" then some (.int k tkk) else if y = Str.ofString "names" then some (.ref nA) else if y = Str.ofString "ids" then some (.ref iA₁) else if y = Str.ofString "rest" then some (.str rest₁ tr₁) else m₁ y) = m₁ := by
        funext y
        by_cases z1 : y = Str.ofString "k"
        · rw [if_pos z1, z1, km]
        · rw [if_neg z1]
          by_cases z2 : y = Str.ofString "names"
          · rw [if_pos z2, z2, nm₁]
          · rw [if_neg z2]
            by_cases z3 : y = Str.ofString "ids"
            · rw [if_pos z3, z3, j6]
            · rw [if_neg z3]
              by_cases z4 : y = Str.ofString "rest"
              · rw [if_pos z4, z4, j5]
              · rw [if_neg z4]
      rw [e]; exact F₁₀
    have ed : (lower : Int) + ((i : Nat) : Int) * 1 = ((lower + i : Nat) : Int) := by omega
    rw [ed] at hoD
    refine inner_turn w p loose mean mg mb fa cd h₀ L m₁ _ _ E numA dA nA iA₁ c₁ numv dv nv iv₁ numn dn nn ii₁ nums ds ns is₁ oNum oDep oD oc₁ ps₁ k ((lower + i : Nat) : Int) tkk t tr₁ rest₁ ((rA, W.listOf rv.toArray rn) :: (own ++ own2)) pe is' bare told B X T codeHd F₁₁ N₁₀ d1 d2 hoD i1 i2 i3 j1 j2 hk hdl ?_ g1 hnl2 hml ?_ g3 g4 g5 g6 g7 g8 g2 g9 hds b2 g10 g11
    · intro h' tk' D vs ps₂ c₂ oc₂ m₂ tb F₂ r1 r2 r3 N₂ S₂ st₂ ltD ltc
      refine ⟨h', tk', m₂, _, ((D, W.listOf vs.toArray 0) :: (nA, W.listOf nv.toArray nn) :: (dA, W.listOf dv.toArray dn) :: (numA, W.listOf numv.toArray numn) :: (L + 1, oNum) :: (L + 2, oDep) :: (L + 3, oD) :: (38, tabObj ps₂) :: (c₂, oc₂) :: (rA, W.listOf rv.toArray rn) :: own), rfl, F₂, N₂, ?_, ?_, ?_, ?_⟩
      · kcf_all
      · kcf_all
      · have hs' : ∀ p ∈ ((nA, W.listOf nv.toArray nn) :: (dA, W.listOf dv.toArray dn) :: (numA, W.listOf numv.toArray numn) :: (L + 1, oNum) :: (L + 2, oDep) :: (L + 3, oD) :: (38, tabObj ps₂) :: (c₁, oc₁) :: (rA, W.listOf rv.toArray rn) :: own), ∀ q ∈ own2, p.1 ≠ q.1 := by
          intro p hp q hq
          have z := fun p' hp' => hsep p' hp' q hq
          simp only [List.mem_cons] at z hp
          rcases hp with rfl | rfl | rfl | rfl | rfl | rfl | rfl | rfl | rfl | hp
          · exact z (nA, W.listOf nv.toArray nn) (by simp)
          · exact z (dA, W.listOf dv.toArray dn) (by simp)
          · exact z (numA, W.listOf numv.toArray numn) (by simp)
          · exact z (L + 1, oNum) (by simp)
          · exact z (L + 2, oDep) (by simp)
          · exact z (L + 3, oDepth₁) (by simp)
          · exact z (38, tabObj ps₁) (by simp)
          · exact z (c₁, oc₁) (by simp)
          · exact z (rA, W.listOf rv.toArray rn) (by simp)
          · exact z p (by simp [hp])
        intro p hp q hq
        rcases List.mem_cons.mp hp with rfl | hp
        · exact Nat.ne_of_gt (ltD q (List.mem_cons_of_mem _ (List.mem_append_right _ hq)))
        · have z := hs' p
          simp only [List.mem_cons] at hp z
          rcases hp with rfl | rfl | rfl | rfl | rfl | rfl | rfl | rfl | rfl | hp
          · exact z (by simp) q hq
          · exact z (by simp) q hq
          · exact z (by simp) q hq
          · exact z (by simp) q hq
          · exact z (by simp) q hq
          · exact z (by simp) q hq
          · exact z (by simp) q hq
          · rcases ltc with rfl | ltc
            · exact hs' (c₂, oc₁) (by simp) q hq
            · exact Nat.ne_of_gt (ltc.1 q (List.mem_cons_of_mem _ (List.mem_append_right _ hq)))
          · exact z (by simp) q hq
          · exact z (by simp [hp]) q hq
      · refine ⟨_, _, _, D, vs, 0, is', bare, tb, ps₂, c₂, oc₂, oD, _, rfl, g12, S₂, st₂, hoD, ?_, r1, r2, ?_, fun q hq => ?_, rfl⟩
        · rcases ltc with rfl | ltc
          · exact j4
          · exact Nat.ne_of_gt ltc.2
        · intro y z1 z2 z3 z4 z5
          rw [r3 y z1 z2 z3 z4 z5]
          by_cases w1 : y = Str.ofString "k"
          · rw [if_pos w1, w1, q1]
          · rw [if_neg w1]
            by_cases w2 : y = Str.ofString "names"
            · rw [if_pos w2, w2, q2]
            · rw [if_neg w2]
              exact j7 y z1 z2 z3 z4 z5
        · have hq' : q ∈ (rA, W.listOf rv.toArray rn) :: (own ++ own2) := (List.mem_cons.mp hq).elim (fun z => z ▸ .head _) fun z => .tail _ (List.mem_append_left _ z)
          refine ⟨Nat.ne_of_gt (ltD q hq'), ?_⟩
          rcases ltc with rfl | ltc
          · exact (jS q hq).2
          · exact Nat.ne_of_gt (ltc.1 q hq')
    · refine List.forall_mem_cons.mpr ⟨off38 (N₉' _ (.tail _ (.tail _ (.tail _ (.tail _ (.tail _ (.tail _ (.tail _ (.tail _ (.tail _ (.head _))))))))))).1 e38 (by nofun), fun q hq => (List.mem_append.mp hq).elim (fun z => (hown q z).1) (u38 q)⟩
  case done =>
    rintro m₁ nx h tk ⟨a2, a3, a4, iA₁, iv₁, ii₁, is₁, rest₁, tr₁, ps₁, c₁, oc₁, oDepth₁, v₁, ea, hG₁, j1, j2, j3, j4, j5, j6, j7, jS, rfl⟩ F₉ N₉
    obtain ⟨rfl, rfl, rfl⟩ : a2 = _ ∧ a3 = _ ∧ a4 = _ := by simpa [eq_comm] using ea
    clear ea
    rw [hcnt, show lower + (lead + 1 - lower) = lead + 1 by omega] at hG₁
    have F₉' : Fr h₀ L h m₁ := F₉
    clear F₉
    have N₉' : News h₀ L h ((iA₁, W.listOf iv₁.toArray ii₁) :: (nA, W.listOf nv.toArray nn) :: (dA, W.listOf dv.toArray dn) :: (numA, W.listOf numv.toArray numn) :: (L + 1, oNum) :: (L + 2, oDep) :: (L + 3, oDepth₁) :: (38, tabObj ps₁) :: (c₁, oc₁) :: (rA, W.listOf rv.toArray rn) :: own) := N₉
    clear N₉
    have nm₁ : m₁ (Str.ofString "name") = some (.str nm tnm) := (j7 _ (by decide +kernel) (by decide +kernel) (by decide +kernel) (by decide +kernel) (by decide +kernel)).trans q6
    have ld₁ : m₁ (Str.ofString "lead") = some (.int (lead : Int) tld) := (j7 _ (by decide +kernel) (by decide +kernel) (by decide +kernel) (by decide +kernel) (by decide +kernel)).trans q5
    have FF := fr_also (fr_also (fr_also F₉' j5) (know_val nm₁ j5)) (know_val (know_val ld₁ j5) (know_val nm₁ j5))
    clear F₉' F₈ FM₈ N₈' hR₈ F₇
    obtain ⟨e1, e2, front, hfront⟩ := hEnd is₁ rest₁ hG₁
    dsimp only
    repeat' ((fail_if_success (with_reducible show wpAny _ _ (binaryOp .Mult (Value.str _ _) _) _ _ _)); (first | walk1 | (dsimp only; walk1)))
    refine SB.mul (n := ((lead + 1 : Nat) : Int)) (mulok_gt ⟨lead + 1, by omega⟩) fun t2 k2 => ?_
    have et := mul_gt ⟨lead + 1, by omega⟩
    dsimp only at et
    rw [et]
    clear et
    have hgl : (⟨(List.replicate (lead + 1) 62).toArray⟩ : Str).length = lead + 1 := by simp [Str.length]
    repeat' ((fail_if_success (with_reducible show wpAny _ _ (call (Value.ref _) _) _ _ _)); (first | walk1 | (dsimp only; walk1)))
    rename_i _ _ h₁₂ F₁₂ N₁₂
    obtain ⟨tl, etl⟩ : ∃ tl : Str, tl = Str.ofString "<" ++ nm ++ ⟨(List.replicate (lead + 1) 62).toArray⟩ := ⟨_, rfl⟩
    rw [← etl] at F₁₂
    have ltl : tl.length = nm.length + lead + 2 := by
      rw [etl, Str.length_append, Str.length_append, hgl, show (Str.ofString "<").length = 1 by decide +kernel]; omega
    have hRt : rest₁ = ⟨front.toArray⟩ ++ tl := by
      apply str_ext
      have : (Str.ofString "<").cps.toList = [60] := by decide +kernel
      rw [hfront, etl]
      simp [Str.cps_append, this]
    have N₁₃ : News h₀ L h₁₂ ((38, tabObj ps₁) :: (c₁, oc₁) :: (iA₁, W.listOf iv₁.toArray ii₁) :: (nA, W.listOf nv.toArray nn) :: (dA, W.listOf dv.toArray dn) :: (numA, W.listOf numv.toArray numn) :: (L + 1, oNum) :: (L + 2, oDep) :: (L + 3, oDepth₁) :: (rA, W.listOf rv.toArray rn) :: own) := by
      refine fun p hp => N₁₂ p ?_
      revert p
      kcf_all
    have hn38 : ∀ q ∈ ((iA₁, W.listOf iv₁.toArray ii₁) :: (nA, W.listOf nv.toArray nn) :: (dA, W.listOf dv.toArray dn) :: (numA, W.listOf numv.toArray numn) :: (L + 1, oNum) :: (L + 2, oDep) :: (L + 3, oDepth₁) :: (rA, W.listOf rv.toArray rn) :: own), q.1 ≠ 38 := by
      have e38 := (N₁₃ (38, tabObj ps₁) (.head _)).1
      have z := fun (q : Addr × Obj) hq hd => off38 (N₁₃ q (.tail _ (.tail _ hq))).1 e38 hd
      refine List.forall_mem_cons.mpr ⟨z _ (.head _) (by nofun), List.forall_mem_cons.mpr ⟨z _ (.tail _ (.head _)) (by nofun), List.forall_mem_cons.mpr ⟨z _ (.tail _ (.tail _ (.head _))) (by nofun), List.forall_mem_cons.mpr ⟨z _ (.tail _ (.tail _ (.tail _ (.head _)))) (by nofun),
        List.forall_mem_cons.mpr ⟨z _ (.tail _ (.tail _ (.tail _ (.tail _ (.head _))))) (by rw [d1]; nofun), List.forall_mem_cons.mpr ⟨z _ (.tail _ (.tail _ (.tail _ (.tail _ (.tail _ (.head _)))))) (by rw [d2]; nofun),
        List.forall_mem_cons.mpr ⟨z _ (.tail _ (.tail _ (.tail _ (.tail _ (.tail _ (.tail _ (.head _))))))) (by rw [j3]; nofun), List.forall_mem_cons.mpr ⟨z _ (.tail _ (.tail _ (.tail _ (.tail _ (.tail _ (.tail _ (.tail _ (.head _)))))))) (by nofun), fun q hq => (hown q hq).1⟩⟩⟩⟩⟩⟩⟩⟩
    clear N₁₂
    refine law_strip B F₁₂ X N₁₃ j2 hn38 T codeHd rfl (by omega) e1 ?_
    clear N₁₃ hn38 F₁₂
    intro t₁₄ h₁₄ tk₁₄ ps₂ c₂ oc₂ F₁₄ N₁₄ hst₂ lt₂
    have hrl' : rest₁.length ≤ 10000 := by omega
    repeat' ((fail_if_success (with_reducible show wpAny _ _ (subscriptTail _ (Expr.Slice _ _ _ _) _ _) _ _ _)); (first | walk1 | (dsimp only; walk1)))
    · rename_i e9; exfalso; simp at e9
    refine slice_strN_sn F₁₄ N₁₄ ?_ (hsz := by rw [PySem.sizeLine_eq]; omega)
    rw [show Txt.slice rest₁ (some (-(tl.length : Int))) none = tl from hRt ▸ slice_tail _ tl (by omega)]
    intro h₁₅ t₁₅ tk₁₅ F₁₅ N₁₅
    clear F₁₄ N₁₄
    repeat' ((fail_if_success (with_reducible show wpAny _ _ (subscriptTail _ (Expr.Slice _ _ _ _) _ _) _ _ _)); (first | walk1 | (dsimp only; walk1)))
    · rename_i e9; exfalso; simp at e9
    refine slice_strN_ns F₁₅ N₁₅ ?_ (hsz := by rw [PySem.sizeLine_eq]; omega)
    rw [show Txt.slice rest₁ none (some (-(tl.length : Int))) = ⟨front.toArray⟩ from hRt ▸ slice_front _ tl (by omega)]
    intro h₁₆ t₁₆ tk₁₆ F₁₆ N₁₆
    clear F₁₅ N₁₅
    repeat' ((fail_if_success (with_reducible show wpAny _ _ (binaryOp .Mult (Value.str _ _) _) _ _ _)); (first | walk1 | (dsimp only; walk1)))
    refine SB.mul (n := (lead : Int)) (mulok_gt ⟨lead, by omega⟩) fun t2 k2 => ?_
    have et := mul_gt ⟨lead, by omega⟩
    dsimp only at et
    rw [et]
    clear et
    have hgl2 : (⟨(List.replicate lead 62).toArray⟩ : Str).length = lead := by simp [Str.length]
    have hfl : (⟨front.toArray⟩ : Str).length ≤ 9000 := by
      have : rest₁.length = (⟨front.toArray⟩ : Str).length + tl.length := by rw [hRt]; exact Str.length_append _ _
      omega
    repeat' (first | walk1 | (dsimp only; walk1))
    rename_i h₁₈ F₁₈ N₁₈
    have e : (⟨front.toArray⟩ ++ ⟨(List.replicate lead 62).toArray⟩ : Str) = ⟨(front ++ List.replicate lead 62).toArray⟩ := by
      apply str_ext
      simp [Str.cps_append]
    refine ret h₁₈ _ iA₁ iv₁ ii₁ is₁ rest₁ front ps₂ c₂ oc₂ oDepth₁ v₁ _ _ _ hG₁ hfront F₁₈ (by rw [← e]; rfl) (by exact j6) (by rfl) ?_ ?_ j1 hst₂ j3 ?_ fun q hq => ⟨(jS q hq).1, ?_⟩
    · intro y hy
      simp only [List.mem_cons, List.not_mem_nil, or_false, not_or] at hy
      obtain ⟨z1, z2, z3, z4, z5, z6, z7, z8, z9, z10⟩ := hy
      have r1 := j7 y z1 z2 z3 z4 z5
      have r2 := qM y z8 z7 z6
      simp only [if_neg z2, if_neg z1, if_neg z10] at r2
      simp only [if_neg z1, if_neg z6, if_neg z7, if_neg z9, if_neg z10]
      rw [r1, r2]
    · refine fun p hp => N₁₈ p ?_
      revert p
      kcf_all
    · rcases lt₂ with rfl | lt₂
      · exact j4
      · exact Nat.ne_of_gt (lt₂ (L + 3, oDepth₁) (.tail _ (.tail _ (.tail _ (.tail _ (.tail _ (.tail _ (.tail _ (.head _)))))))))
    · rcases lt₂ with rfl | lt₂
      · exact (jS q hq).2
      · exact Nat.ne_of_gt (lt₂ q (by revert q; intro q hq; exact .tail _ (.tail _ (.tail _ (.tail _ (.tail _ (.tail _ (.tail _ (.tail _ hq))))))))) 
end Mine

end

section
/- the part WM -/
open PySem PySem.W PyProof.Rows PySem.Spec PySem.Calls
set_option maxRecDepth 100000
namespace Mine
local macro_rules | `(tactic| k_room) => `(tactic| ((try simp only [depth_mark, depth_under_make, depth_under_kw, depth_in1, depth_deeper, depth_caller]); (try dsimp only [ktrTop]); first | omega | decide))

theorem law_id {w : World} {p : Program} {loose : List Str} {mean : ExcName → Option Value} {mg mb : Str → Option Value} {sc : Scope} {fa : Addr} {cd : Value} {h₀ : Heap} {L : Addr} {m : Str → Option Value} {news : List (Addr × Obj)} {s : Shared} {Q E : Value → Shared → Prop} {x : Int} {t : Tok}
    (B : Below callerA h₀ [] h₀) (F : Fr h₀ L s.heap m) (X : (Mine.hd.heap_39 w.params).In h₀) (N : News h₀ L s.heap news) (T : Top p loose mean mg mb h₀) (hk : sc.kind = .function)
    (ret : ∀ (t' : Tok) (h' : Heap) (tk' : Nat), Fr h₀ L h' m → News h₀ L h' news → Q (.str (idOf x) t') { s with heap := h', toks := tk' }) :
    wpAny (model PySem.Challenge.rw_wb0006_01.row.prog w) (callerA.deeper (envOfC (Str.ofString "law") sc L fa cd)) (call (.ref 63) [.int x t]) Q E s :=
  id_call w p loose mean mg mb _ _ _ _ sc fa cd _ _ callerA h₀ h₀ L m news s Q E x t B F X N T hk (by decide +kernel) (by decide +kernel) ret
theorem law_nest {w : World} {p : Program} {loose : List Str} {mean : ExcName → Option Value} {mg mb : Str → Option Value} {sc : Scope} {fa : Addr} {cd : Value} {h₀ : Heap} {L : Addr} {m : Str → Option Value} {news : List (Addr × Obj)} {s : Shared} {Q E : Value → Shared → Prop} {dA nA iA : Addr} {dv nv iv : List Value} {dn nn ii : Nat} {ds : List Int} {ns is : List Str}
    (B : Below callerA h₀ [] h₀) (F : Fr h₀ L s.heap m) (X : (Mine.hd.heap_39 w.params).In h₀) (N : News h₀ L s.heap ((dA, W.listOf dv.toArray dn) :: (nA, W.listOf nv.toArray nn) :: (iA, W.listOf iv.toArray ii) :: news)) (T : Top p loose mean mg mb h₀) (hk : sc.kind = .function)
    (i1 : IntsAre dv ds) (i2 : StrsAre nv ns) (i3 : StrsAre iv is)
    (l1 : 1 ≤ ds.length ∧ ds.length ≤ 6) (l2 : ds.length ≤ ns.length) (l3 : ds.length ≤ is.length) (hds : ∀ i, i < ds.length → 0 ≤ ds.getD i 0 ∧ ds.getD i 0 ≤ (i : Int))
    (b2 : ∀ i, (ns.getD i Str.empty).length ≤ 20) (b3 : ∀ i, (is.getD i Str.empty).length ≤ 30)
    (ret : ∀ (t' : Tok) (h' : Heap) (tk' : Nat), Fr h₀ L h' m → News h₀ L h' ((dA, W.listOf dv.toArray dn) :: (nA, W.listOf nv.toArray nn) :: (iA, W.listOf iv.toArray ii) :: news) → Q (.str (nestS ds ns is) t') { s with heap := h', toks := tk' }) :
    wpAny (model PySem.Challenge.rw_wb0006_01.row.prog w) (callerA.deeper (envOfC (Str.ofString "law") sc L fa cd)) (call (.ref 70) [.ref dA, .ref nA, .ref iA]) Q E s :=
  nest_call w p loose mean mg mb _ _ _ _ sc fa cd _ _ callerA h₀ h₀ L m news s Q E dA nA iA dv nv iv dn nn ii ds ns is B F X N T hk (by decide +kernel) (by decide +kernel) i1 i2 i3 l1 l2 l3 hds b2 b3 ret
theorem law_page {w : World} {p : Program} {loose : List Str} {mean : ExcName → Option Value} {mg mb : Str → Option Value} {sc : Scope} {fa : Addr} {cd : Value} {h₀ : Heap} {L : Addr} {m : Str → Option Value} {news : List (Addr × Obj)} {s : Shared} {Q E : Value → Shared → Prop} {dA nA : Addr} {dv nv : List Value} {dn nn : Nat} {ds : List Int} {ns : List Str} {u : Int} {tu : Tok}
    (B : Below callerA h₀ [] h₀) (F : Fr h₀ L s.heap m) (X : (Mine.hd.heap_39 w.params).In h₀) (N : News h₀ L s.heap ((dA, W.listOf dv.toArray dn) :: (nA, W.listOf nv.toArray nn) :: news)) (T : Top p loose mean mg mb h₀) (hk : sc.kind = .function)
    (i1 : IntsAre dv ds) (i2 : StrsAre nv ns)
    (l1 : 1 ≤ ds.length ∧ ds.length ≤ 6) (l2 : ds.length ≤ ns.length) (hds : ∀ i, i < ds.length → 0 ≤ ds.getD i 0 ∧ ds.getD i 0 ≤ (i : Int))
    (b2 : ∀ i, i < ds.length → RowOk (ns.getD i Str.empty).cps.toList ∧ (ns.getD i Str.empty).length ≤ 20) (hu : 1 ≤ u ∧ u ≤ 4)
    (ret : ∀ (t' : Tok) (h' : Heap) (tk' : Nat), Fr h₀ L h' m → News h₀ L h' ((dA, W.listOf dv.toArray dn) :: (nA, W.listOf nv.toArray nn) :: news) → Q (.str (pageS ds ns u.toNat) t') { s with heap := h', toks := tk' }) :
    wpAny (model PySem.Challenge.rw_wb0006_01.row.prog w) (callerA.deeper (envOfC (Str.ofString "law") sc L fa cd)) (call (.ref 77) [.ref dA, .ref nA, .int u tu]) Q E s :=
  page_call w p loose mean mg mb _ _ _ _ sc fa cd _ _ callerA h₀ h₀ L m news s Q E dA nA dv nv dn nn ds ns u tu B F X N T hk (by decide +kernel) (by decide +kernel) i1 i2 l1 l2 hds b2 hu ret

def nameOf (nums : List Int) (k : Int) : Str := if (nums.getD k.toNat 0).fmod 7 = 6 then Str.ofString "at 0xabcdef" else ⟨#[(112 + k).toNat]⟩
def namesOf (nums : List Int) : List Str := (rangeKs 0 (↑nums.length - 0 : Int).toNat).map (nameOf nums)
def idsOf (nums : List Int) : List Str := nums.map idOf
/-- what one turn of the main loop asks of the plain law -/
def TurnOk (nums ds : List Int) (ns rs : List Str) (unit : Int) (k lower : Nat) (is : List Str) (rest : Str) (next : Nat → List Str → Str → Prop) : Prop :=
  ∃ (lead : Nat) (nm : Str) (G : Nat → List Str → Str → Prop), lead ≤ 10 ∧ lower ≤ lead + 1 ∧ rs.getD k Str.empty = ⟨(List.replicate (unit.toNat * lead) 32 ++ nm.cps.toList).toArray⟩ ∧ (∀ c ∈ nm.cps.toList.head?, c ≠ 32) ∧ nm.length ≤ 20 ∧ G lower is rest ∧
    (∀ (d : Nat) is rest, lower ≤ d → d ≤ lead → G d is rest → is.length = ds.length ∧ rest.length ≤ 9000 ∧ ∃ (pe : Int) (is' : List Str) (bare told : Str), is' = is.take pe.toNat ++ [Str.empty] ++ is.drop (pe + 1).toNat ∧ bare = nestS (List.take ((k : Int) + 1).toNat ds) ns is' ∧ told = (if (nums.getD pe.toNat 0).fmod 13 < 11 then bare else rest) ∧
      StripsTo rest told ∧ StripsTo (rest ++ Str.ofString "\n") (told ++ Str.ofString "\n") ∧ StripsTo (rest ++ Str.ofString "\n\n") (rest ++ Str.ofString "\n\n") ∧ bare.length ≤ 9000 ∧ (∀ i, (is'.getD i Str.empty).length ≤ 30) ∧ (0 ≤ pe ∧ pe ≤ (k : Int) ∧ ds.getD pe.toNat 0 = (d : Int) ∧ ∀ j, pe < j → j ≤ (k : Int) → ds.getD j.toNat 0 ≠ (d : Int)) ∧ G (d + 1) is' bare) ∧
    (∀ is rest, G (lead + 1) is rest → StripsTo rest rest ∧ rest.length ≤ 9000 ∧ ∃ front : List Nat, rest = ⟨(front ++ (60 :: nm.cps.toList ++ List.replicate (lead + 1) 62)).toArray⟩) ∧
    (∀ is rest (front : List Nat), G (lead + 1) is rest → rest = ⟨(front ++ (60 :: nm.cps.toList ++ List.replicate (lead + 1) 62)).toArray⟩ → next lead is ⟨(front ++ List.replicate lead 62).toArray⟩)
def LawOk (nums ds : List Int) (ns rs : List Str) (unit : Int) : Prop :=
  ∃ GG : Nat → Nat → List Str → Str → Prop, GG ds.length 0 (idsOf nums) (nestS ds ns (idsOf nums)) ∧ ∀ k lower is rest, k < ds.length → GG (k + 1) lower is rest → TurnOk nums ds ns rs unit k lower is rest (GG k)
def OutJ (L : Addr) (M : Str → Option Value) (GG : Nat → Nat → List Str → Str → Prop) (n : Nat) (rest4 own : List (Addr × Obj)) (d1 d2 : Addr × Obj) (i : Nat) (m₁ : Str → Option Value) (nx : List (Addr × Obj)) : Prop :=
  ∃ (a2 a3 a4 : Addr × Obj) (iA : Addr) (iv : List Value) (ii : Nat) (is : List Str) (rest : Str) (tr tl : Tok) (lower : Nat) (ps : Array Value) (c : Addr) (oc oDepth : Obj) (v : Option Value), rest4 = [a2, a3, a4] ∧ GG (n - i) lower is rest ∧ StrsAre iv is ∧ TabSt ps c oc ∧ oDepth.data = .cell v ∧ c ≠ L + 3 ∧ m₁ (Str.ofString "rest") = some (.str rest tr) ∧ m₁ (Str.ofString "ids") = some (.ref iA) ∧ m₁ (Str.ofString "lower") = some (.int (lower : Int) tl) ∧
    (∀ y, y ∉ [Str.ofString "rest", Str.ofString "ids", Str.ofString "told", Str.ofString "bare", Str.ofString "peeled", Str.ofString "name", Str.ofString "lead", Str.ofString "over", Str.ofString "tail", Str.ofString "lower", Str.ofString "k"] → m₁ y = M y) ∧
    (∀ q ∈ own, iA ≠ q.1 ∧ c ≠ q.1) ∧ nx = (iA, W.listOf iv.toArray ii) :: a2 :: a3 :: a4 :: d1 :: d2 :: (L + 3, oDepth) :: (38, tabObj ps) :: (c, oc) :: own
set_option maxHeartbeats 8000000 in
theorem law_rest (w : World) (p : Program) (loose : List Str) (mean : ExcName → Option Value) (mg mb : Str → Option Value) (fa : Addr) (cd : Value) (h₀ : Heap) (L : Addr) (m : Str → Option Value) (s : Shared) (Q : Flow → Shared → Prop) (E : Value → Shared → Prop)
    (numA dA : Addr) (numv dv : List Value) (numn dn : Nat) (nums ds : List Int) (oNum oDep oDepth : Obj) (unit : Int) (tku : Tok) (v₀ : Option Value)
    (hE : PassesOwn (model PySem.Challenge.rw_wb0006_01.row.prog w) (callerA.deeper (envOfC (Str.ofString "law") lawScope L fa cd)) (envOfC (Str.ofString "law") lawScope L fa cd) E)
    (B : Below callerA h₀ [] h₀) (X : (Mine.hd.heap_39 w.params).In h₀) (T : Top p loose mean mg mb h₀) (codeHd : CodeHd h₀ 42 38)
    (F : Fr h₀ L s.heap (fun y => if y = Str.ofString "unit" then some (.int unit tku) else m y))
    (N : News h₀ L s.heap [(dA, W.listOf dv.toArray dn), (numA, W.listOf numv.toArray numn), (L + 1, oNum), (L + 2, oDep), (L + 3, oDepth), (38, tabObj #[])])
    (d1 : oNum.data = .cell (some (.ref numA))) (d2 : oDep.data = .cell (some (.ref dA))) (d3 : oDepth.data = .cell v₀)
    (i1 : IntsAre numv nums) (i2 : IntsAre dv ds) (hun : 1 ≤ unit ∧ unit ≤ 4) (hdl : 1 ≤ ds.length ∧ ds.length ≤ 6) (hml : nums.length = ds.length) (hds : ∀ i, i < ds.length → 0 ≤ ds.getD i 0 ∧ ds.getD i 0 ≤ (i : Int))
    (b2 : ∀ i, ((namesOf nums).getD i Str.empty).length ≤ 20) (b3 : ∀ i, ((idsOf nums).getD i Str.empty).length ≤ 30) (b4 : ∀ i, i < nums.length → RowOk ((namesOf nums).getD i Str.empty).cps.toList)
    (rs : List Str) (hsp : Txt.split (pageS ds (namesOf nums) unit.toNat) (Str.ofString "\n") = rs) (hrn : rs.length = nums.length + 1) (hla : rs.getD nums.length Str.empty = Str.empty) (hpl : (pageS ds (namesOf nums) unit.toNat).length ≤ 10000) (hok : LawOk nums ds (namesOf nums) rs unit)
    (ret : ∀ (h' : Heap) (tk' : Nat) (m' : Str → Option Value) (nx : List (Addr × Obj)) (ps : Array Value), (38, tabObj ps) ∈ nx → Fr h₀ L h' m' → News h₀ L h' nx → Q (.ret (.bool true)) { s with heap := h', toks := tk' }) :
    wpAny (model PySem.Challenge.rw_wb0006_01.row.prog w) (callerA.deeper (envOfC (Str.ofString "law") lawScope L fa cd)) (execs lawRest (envOfC (Str.ofString "law") lawScope L fa cd)) Q E s := by
  revert X N; k_fill; intro X N
  unfold lawRest PySem.Challenge.pw_wb0006_01
  dsimp only
  generalize hsc : lawScope = sc at hE ⊢
  unfold lawScope PySem.Challenge.pw_wb0006_01 at hsc
  dsimp only at hsc
  subst hsc
  repeat' ((fail_if_success (with_reducible show wpAny _ _ (exec (Stmt.Assign _ (Expr.ListComp _ _ _ _) _) _) _ _ _)); (first | walk1 | (dsimp only; walk1)))
  refine LCg.Assign_ListComp_U (F₀ := by k_asm) (by rfl) (by with_unfolding_all rfl) (by with_unfolding_all rfl) (by decide) (by rfl) (by decide) (by rfl) (by rfl) (by rfl) ?_
  repeat' ((fail_if_success (with_reducible show LCg.CompSrc _ _ _ _ _ _ _ _ _ _ _ _ _ _)); (fail_if_success (with_reducible show LCg.CompSrc _ _ _ _ _ _ _ _ _ _ _ _ _)); (first | walk1 | (dsimp only; walk1)))
  have hnl : numv.length = nums.length := i1.length
  refine LCg.CompSrc.range (by rfl) (by k_asm) (by k_asm) (by assumption) (by exact small_one (by omega) (by omega) (by omega) (by omega)) (by exact rangeSize_nat _ _) (by rw [PySem.sizeLine_eq]; omega) ?_
  intro g1
  refine kct_range (nameOf nums) ?turn1 ?fin1
  case turn1 =>
    intro j tj I oI C oC D m2 ys h tk E' hlo hhi hC hx F' N' off ne mk
    have hjr : j < nums.length := by omega
    repeat' ((fail_if_success (with_reducible show LCg.CompEnd _ _ _ _ _ _ _ _ _ _ _ _ _ _)); (fail_if_success (with_reducible show wpAny _ _ (call (Value.builtin "chr") _) _ _ _)); (first | walk1 | (dsimp only; walk1)))
    · rename_i e6
      refine LCg.CompEnd.intro (by assumption) (by assumption) _ (fun p hp => hp) (by assumption) (by first | lcg_src | trivial | assumption) (kct_el (r' := Str.ofString "at 0xabcdef") ?_ (by with_unfolding_all rfl) (by with_unfolding_all rfl))
      unfold nameOf
      rw [if_pos e6]
    · rename_i e6
      repeat' ((fail_if_success (with_reducible show LCg.CompEnd _ _ _ _ _ _ _ _ _ _ _ _ _ _)); (first | walk1 | (dsimp only; walk1)))
      refine LCg.CompEnd.intro (by assumption) (by assumption) _ (fun p hp => hp) (by assumption) (by first | lcg_src | trivial | assumption) (kct_el (r' := ⟨#[(112 + j).toNat]⟩) ?_ (by with_unfolding_all rfl) (by with_unfolding_all rfl))
      unfold nameOf
      rw [if_neg e6]
  case fin1 =>
    intro ys hys _
    have S₁ : StrsAre ys ((rangeKs 0 (↑nums.length - 0 : Int).toNat).map (nameOf nums)) := CarriedAll.strsOf hys
    clear hys
    repeat' ((fail_if_success (with_reducible show wpAny _ _ (exec (Stmt.Assign _ (Expr.ListComp _ _ _ _) _) _) _ _ _)); (first | walk1 | (dsimp only; walk1)))
    rename_i nA h₂ tk₂ F₂ N₂ o₂
    obtain ⟨ns, ens⟩ : ∃ ns, namesOf nums = ns := ⟨_, rfl⟩
    have S₁ : StrsAre ys ns := ens ▸ S₁
    have hln : ns.length = nums.length := by rw [← ens]; unfold namesOf; rw [List.length_map, rangeKs_length]; omega
    refine LCg.Assign_ListComp_U (F₀ := by k_asm) (by rfl) (by with_unfolding_all rfl) (by with_unfolding_all rfl) (by decide) (by rfl) (by decide) (by rfl) (by rfl) (by rfl) ?_
    repeat' ((fail_if_success (with_reducible show LCg.CompSrc _ _ _ _ _ _ _ _ _ _ _ _ _ _)); (fail_if_success (with_reducible show LCg.CompSrc _ _ _ _ _ _ _ _ _ _ _ _ _)); (first | walk1 | (dsimp only; walk1)))
    refine LCg.CompSrc.ledger (by rfl) (by k_asm) (by k_asm) (by k_mem) (by rw [PySem.sizeLine_eq]; simp only [List.size_toArray]; omega) ?_
    intro g2
    refine kct_list idOf i1 ?turn2 ?fin2
    case turn2 =>
      intro j tj I oI C oC D m2 ys h tk E' hj hC hx F' N' off ne mk
      repeat' ((fail_if_success (with_reducible show LCg.CompEnd _ _ _ _ _ _ _ _ _ _ _ _ _ _)); (fail_if_success (with_reducible show wpAny _ _ (call (Value.ref _) _) _ _ _)); (first | walk1 | (dsimp only; walk1)))
      refine law_id B F' X N' T rfl fun t' h' tk' Fh Nh => ?_
      refine LCg.CompEnd.intro Fh Nh _ (fun p hp => hp) (by assumption) (by first | lcg_src | trivial | assumption) (kct_el (r' := idOf j) rfl (by with_unfolding_all rfl) (by with_unfolding_all rfl))
    case fin2 =>
      intro ys2 hys2 _
      have S₂ : StrsAre ys2 (nums.map idOf) := CarriedAll.strsOf hys2
      clear hys2
      repeat' ((fail_if_success (with_reducible show wpAny _ _ (call (Value.ref _) _) _ _ _)); (first | walk1 | (dsimp only; walk1)))
      rename_i iA h₃ tk₃ F₃ N₃ o₃
      obtain ⟨is, eis⟩ : ∃ is, idsOf nums = is := ⟨_, rfl⟩
      have S₂ : StrsAre ys2 is := eis ▸ S₂
      have hli : is.length = nums.length := by rw [← eis]; unfold idsOf; rw [List.length_map]
      rw [ens] at b2 b4 hsp hpl
      rw [eis] at b3
      have N₃ : News h₀ L h₃ [(iA, W.listOf ys2.toArray ys2.length), (nA, W.listOf ys.toArray ys.length), (dA, W.listOf dv.toArray dn), (numA, W.listOf numv.toArray numn), (L + 1, oNum), (L + 2, oDep), (L + 3, oDepth), (38, tabObj #[])] := N₃
      have N₄ : News h₀ L h₃ ((dA, W.listOf dv.toArray dn) :: (nA, W.listOf ys.toArray ys.length) :: (iA, W.listOf ys2.toArray ys2.length) :: [(numA, W.listOf numv.toArray numn), (L + 1, oNum), (L + 2, oDep), (L + 3, oDepth), (38, tabObj #[])]) := by
        refine fun p hp => N₃ p ?_
        revert p
        kcf_all
      clear N₃ N₂
      refine law_nest B F₃ X N₄ T rfl i2 S₁ S₂ hdl (by omega) (by omega) hds b2 b3 ?_
      clear N₄ F₃
      intro t₅ h₅ tk₅ F₅ N₅
      repeat' ((fail_if_success (with_reducible show wpAny _ _ (call (Value.ref _) _) _ _ _)); (first | walk1 | (dsimp only; walk1)))
      rename_i h₆ F₆ N₆
      have N₇ : News h₀ L h₆ ((dA, W.listOf dv.toArray dn) :: (nA, W.listOf ys.toArray ys.length) :: [(iA, W.listOf ys2.toArray ys2.length), (numA, W.listOf numv.toArray numn), (L + 1, oNum), (L + 2, oDep), (L + 3, oDepth), (38, tabObj #[])]) := by
        refine fun p hp => N₆ p ?_
        revert p
        kcf_all
      clear N₆
      refine law_page B F₆ X N₇ T rfl i2 S₁ hdl (by omega) hds (fun i hi => ⟨b4 i (by omega), b2 i⟩) hun ?_
      clear N₇ F₆
      intro t₈ h₈ tk₈ F₈ N₈
      repeat' ((fail_if_success (with_reducible show wpAny _ _ (call (Value.builtin "str.split") _) _ _ _)); (first | walk1 | (dsimp only; walk1)))
      refine KSpl.split1 F₈ N₈ (by decide +kernel) ?_ (by rw [PySem.sizeLine_eq]; omega)
      intro rA rl h₉ tk₉ er S₉ F₉ N₉ lt₉
      have hrA : iA ≠ rA ∧ L + 1 ≠ rA := ⟨Nat.ne_of_lt (lt₉ (iA, W.listOf ys2.toArray ys2.length) (.tail _ (.tail _ (.head _)))), Nat.ne_of_lt (lt₉ (L + 1, oNum) (.tail _ (.tail _ (.tail _ (.tail _ (.head _))))))⟩
      clear lt₉
      obtain ⟨rv, erv⟩ : ∃ rv, strValues rl = rv := ⟨_, rfl⟩
      rw [er, hsp, erv] at S₉
      rw [erv] at N₉
      clear er erv F₈ N₈
      have hrv : rv.length = nums.length + 1 := by rw [S₉.length, hrn]
      repeat' ((fail_if_success (with_reducible show wpAny _ _ (exec (Stmt.For _ _ _ _ _) _) _ _ _)); (fail_if_success (with_reducible show wpAny _ _ (subscriptTail _ _ _ _) _ _ _)); (first | walk1 | (dsimp only; walk1)))
      all_goals (first | (rename_i e0; exact absurd (by omega) e0) | skip)
      have S₉ : StrsAre rv rs := by assumption
      obtain ⟨tE, eE⟩ := S₉.get nums.length Str.empty (by rw [← hla, List.getD_eq_getElem?_getD, List.getElem?_eq_getElem (by omega)]; rfl)
      refine kde_neg (j := nums.length) (by kmk_list) (by decide) (by decide) (by rw [hrv]; unfold seqIndex?; simp; omega) eE ?_
      repeat' ((fail_if_success (with_reducible show wpAny _ _ (exec (Stmt.For _ _ _ _ _) _) _ _ _)); (fail_if_success (with_reducible show wpAny _ _ (subscriptTail _ _ _ _) _ _ _)); (first | walk1 | (dsimp only; walk1)))
      rw [ens] at hok
      obtain ⟨GG, hst0, hturn⟩ := hok
      rw [eis] at hst0
      rename_i h₁₀ F₁₀ N₁₀
      refine For_invV h₀ (by rfl) (by rfl) ?_ (hE := hE)
      repeat' ((fail_if_success (with_reducible show wpAny _ _ (pyIter _) _ _ _)); (first | walk1 | (dsimp only; walk1)))
      rename_i h₁₁ _ _ _ _ hR₁₁ F₁₁ N₁₁ _
      obtain ⟨M, FM, q1, q2, q3, q4, q5, q6⟩ : ∃ M : Str → Option Value, Fr h₀ L h₁₁ M ∧ M (Str.ofString "names") = some (.ref nA) ∧ M (Str.ofString "ids") = some (.ref iA) ∧ (∃ t, M (Str.ofString "rest") = some (.str (nestS ds ns is) t)) ∧ M (Str.ofString "rows") = some (.ref rA) ∧ M (Str.ofString "unit") = some (.int unit tku) ∧ (∃ t, M (Str.ofString "lower") = some (.int ((0 : Nat) : Int) t)) :=
        ⟨_, F₁₁, by rfl, by rfl, ⟨_, by rfl⟩, by rfl, by rfl, ⟨_, by rfl⟩⟩
      obtain ⟨tR, q3⟩ := q3
      obtain ⟨tL, q6⟩ := q6
      have N₁₂ : News h₀ L h₁₁ ((iA, W.listOf ys2.toArray ys2.length) :: (nA, W.listOf ys.toArray ys.length) :: (dA, W.listOf dv.toArray dn) :: (numA, W.listOf numv.toArray numn) :: (L + 1, oNum) :: (L + 2, oDep) :: (L + 3, oDepth) :: (38, tabObj #[]) :: (L + 1, oNum) :: [(rA, W.listOf rv.toArray 0)]) := by
        refine fun p hp => N₁₁ p ?_
        revert p
        kcf_all
      clear N₁₁
      refine rangeT (n := nums.length) (OutJ L M GG nums.length [(nA, W.listOf ys.toArray ys.length), (dA, W.listOf dv.toArray dn), (numA, W.listOf numv.toArray numn)] [(rA, W.listOf rv.toArray 0)] (L + 1, oNum) (L + 2, oDep)) (by rfl) hR₁₁ ?small ?size FM N₁₂ ?j0 ?turn ?done
      case small => exact small_down (by omega) (by omega) (by decide) (by decide)
      case size => rw [rangeSize_downNat]; omega
      case j0 => exact ⟨_, _, _, iA, ys2, ys2.length, is, nestS ds ns is, tR, tL, 0, #[], L + 1, oNum, oDepth, v₀, rfl, by rw [hml]; exact hst0, S₂, .inl rfl, d3, Nat.ne_of_lt (by omega), q3, q2, q6, fun _ _ => rfl, (fun q hq => by rw [List.mem_singleton.mp hq]; exact hrA), rfl⟩
      case turn =>
        rintro i t m₁ nx h tk own2 hi hsep ⟨a2, a3, a4, iA₁, iv₁, ii₁, is₁, rest₁, tr₁, tl₁, lower, ps₁, c₁, oc₁, oDepth₁, v₁, ea, hG₁, j1, j2, j3, j4, j5, j6, j7, j8, jS, rfl⟩ F₁₃ N₁₃
        obtain ⟨rfl, rfl, rfl⟩ : a2 = _ ∧ a3 = _ ∧ a4 = _ := by simpa [eq_comm] using ea
        clear ea F₁₁ FM N₁₂
        have ek : ((nums.length : Int) - 1 + ((i : Nat) : Int) * (-1)) = ((nums.length - 1 - i : Nat) : Int) := by omega
        rw [ek] at F₁₃
        rw [show nums.length - i = (nums.length - 1 - i) + 1 by omega] at hG₁
        obtain ⟨lead, nm, G, g1, g2, g3, g4, g5, g6, g7, g8, g9⟩ := hturn (nums.length - 1 - i) lower is₁ rest₁ (by omega) hG₁
        have kn : ∀ y, y ∉ [Str.ofString "rest", Str.ofString "ids", Str.ofString "told", Str.ofString "bare", Str.ofString "peeled", Str.ofString "name", Str.ofString "lead", Str.ofString "over", Str.ofString "tail", Str.ofString "lower", Str.ofString "k"] → m₁ y = M y := j8
        have k1 := (kn (Str.ofString "names") (by decide +kernel)).trans q1
        have k4 := (kn (Str.ofString "rows") (by decide +kernel)).trans q4
        have k5 := (kn (Str.ofString "unit") (by decide +kernel)).trans q5
        have F₁₄ : Fr h₀ L h (fun y => if y = Str.ofString "k" then some (.int ((nums.length - 1 - i : Nat) : Int) t) else if y = Str.ofString "names" then some (.ref nA) else if y = Str.ofString "ids" then some (.ref iA₁) else if y = Str.ofString "rest" then some (.str rest₁ tr₁) else if y = Str.ofString "rows" then some (.ref rA) else if y = Str.ofString "unit" then some (.int unit tku) else if y = Str.ofString "lower" then some (.int (lower : Int) tl₁) else m₁ y) := by
          have e : (fun y => if y = Str.ofString "k" then some (.int ((nums.length - 1 - i : Nat) : Int) t) else if y = Str.ofString "names" then some (.ref nA) else if y = Str.ofString "ids" then some (.ref iA₁) else if y = Str.ofString "rest" then some (.str rest₁ tr₁) else if y = Str.ofString "rows" then some (.ref rA) else if y = Str.ofString "unit" then some (.int unit tku) else if y = Str.ofString "lower" then some (.int (lower : Int) tl₁) else m₁ y) = (fun y => if y = Str.ofString "k" then some (Value.int ((nums.length - 1 - i : Nat) : Int) t) else m₁ y) := by
            funext y
            by_cases z0 : y = Str.ofString "k"
            · rw [if_pos z0, if_pos z0]
            rw [if_neg z0, if_neg z0]
            by_cases z1 : y = Str.ofString "names"
            · rw [if_pos z1, z1, k1]
            rw [if_neg z1]
            by_cases z2 : y = Str.ofString "ids"
            · rw [if_pos z2, z2, j6]
            rw [if_neg z2]
            by_cases z3 : y = Str.ofString "rest"
            · rw [if_pos z3, z3, j5]
            rw [if_neg z3]
            by_cases z4 : y = Str.ofString "rows"
            · rw [if_pos z4, z4, k4]
            rw [if_neg z4]
            by_cases z5 : y = Str.ofString "unit"
            · rw [if_pos z5, z5, k5]
            rw [if_neg z5]
            by_cases z6 : y = Str.ofString "lower"
            · rw [if_pos z6, z6, j7]
            rw [if_neg z6]
          rw [e]; exact F₁₃
        have N₁₄ : News h₀ L h ((iA₁, W.listOf iv₁.toArray ii₁) :: (nA, W.listOf ys.toArray ys.length) :: (dA, W.listOf dv.toArray dn) :: (numA, W.listOf numv.toArray numn) :: (L + 1, oNum) :: (L + 2, oDep) :: (L + 3, oDepth₁) :: (38, tabObj ps₁) :: (c₁, oc₁) :: (rA, W.listOf rv.toArray 0) :: own2) := N₁₃
        have hown : ∀ q ∈ own2, q.1 ≠ 38 ∧ q.1 ≠ L + 3 := fun q hq => ⟨Ne.symm (hsep (38, tabObj ps₁) (.tail _ (.tail _ (.tail _ (.tail _ (.tail _ (.tail _ (.tail _ (.head _)))))))) q hq), Ne.symm (hsep (L + 3, oDepth₁) (.tail _ (.tail _ (.tail _ (.tail _ (.tail _ (.tail _ (.head _))))))) q hq)⟩
        have hsep0 : ∀ q ∈ (rA, W.listOf rv.toArray 0) :: own2, iA₁ ≠ q.1 ∧ c₁ ≠ q.1 := by
          intro q hq
          rcases List.mem_cons.mp hq with rfl | hq
          · exact jS _ (.head _)
          · exact ⟨hsep (iA₁, W.listOf iv₁.toArray ii₁) (.head _) q hq, hsep (c₁, oc₁) (.tail _ (.tail _ (.tail _ (.tail _ (.tail _ (.tail _ (.tail _ (.tail _ (.head _))))))))) q hq⟩
        refine main_turn w p loose mean mg mb fa cd h₀ L m₁ _ _ E numA dA nA iA₁ rA c₁ numv dv ys iv₁ rv numn dn ys.length ii₁ 0 nums ds ns is₁ rs oNum oDep oDepth₁ oc₁ ps₁ ((nums.length - 1 - i : Nat) : Int) unit t tr₁ tku tl₁ rest₁ nm lower lead v₁ own2 G hE (hnl2 := by omega) (hml := hml) (hown := hown) (hcc := j4) (hsep0 := hsep0) (hds := hds) (b2 := b2) (hG0 := g6) (ret := ?_) (hEnd := g8) (hG := g7) (B := B) (X := X) (T := T) (codeHd := codeHd) (F := F₁₄) (N := N₁₄) (d1 := d1) (d2 := d2) (d3 := j3) (i1 := i1) (i2 := i2) (i3 := S₁) (i4 := j1) (i5 := by assumption) (hst := j2) (hk := by omega) (hdl := hdl.2) (hrl := by omega) (hrb := by omega) (hun := hun) (hld := g1) (hlw := g2) (hrow := g3) (hnm := g4) (hnl := g5)
        intro h' tk' D vs dn' is₂ rest₂ front ps₂ c₂ oc₂ oD₂ v₂ m₂ ta tb r1 r2 F₂ r3 r4 r5 r6 N₂ S₂' st₂ r7 r8 r9
        refine ⟨h', tk', m₂, _, ((D, W.listOf vs.toArray dn') :: (nA, W.listOf ys.toArray ys.length) :: (dA, W.listOf dv.toArray dn) :: (numA, W.listOf numv.toArray numn) :: (L + 1, oNum) :: (L + 2, oDep) :: (L + 3, oD₂) :: (38, tabObj ps₂) :: (c₂, oc₂) :: [(rA, W.listOf rv.toArray 0)]), rfl, F₂, N₂, ?_, ?_, ?_, ?_⟩
        · kcf_all
        · kcf_all
        · intro p hp q hq
          have hq' : q ∈ (rA, W.listOf rv.toArray 0) :: own2 := .tail _ hq
          simp only [List.mem_cons, List.not_mem_nil, or_false] at hp
          rcases hp with rfl | rfl | rfl | rfl | rfl | rfl | rfl | rfl | rfl | rfl
          · exact (r9 q hq').1
          · exact hsep (nA, W.listOf ys.toArray ys.length) (.tail _ (.head _)) q hq
          · exact hsep (dA, W.listOf dv.toArray dn) (.tail _ (.tail _ (.head _))) q hq
          · exact hsep (numA, W.listOf numv.toArray numn) (.tail _ (.tail _ (.tail _ (.head _)))) q hq
          · exact hsep (L + 1, oNum) (.tail _ (.tail _ (.tail _ (.tail _ (.head _))))) q hq
          · exact hsep (L + 2, oDep) (.tail _ (.tail _ (.tail _ (.tail _ (.tail _ (.head _)))))) q hq
          · exact Ne.symm (hown q hq).2
          · exact Ne.symm (hown q hq).1
          · exact (r9 q hq').2
          · exact hsep (rA, W.listOf rv.toArray 0) (.tail _ (.tail _ (.tail _ (.tail _ (.tail _ (.tail _ (.tail _ (.tail _ (.tail _ (.head _)))))))))) q hq
        · refine ⟨_, _, _, D, vs, dn', is₂, ⟨(front ++ List.replicate lead 62).toArray⟩, ta, tb, lead, ps₂, c₂, oc₂, oD₂, v₂, rfl, ?_, S₂', st₂, r7, r8, r3, r4, r5, ?_, (fun q hq => r9 q (by rw [List.mem_singleton.mp hq]; exact .head _)), rfl⟩
          · rw [show nums.length - (i + 1) = nums.length - 1 - i by omega]
            exact g9 is₂ rest₂ front r1 r2
          · intro y hy
            have hy1 : y ≠ Str.ofString "k" := fun z => hy (by rw [z]; simp)
            rw [r6 y (fun z => hy (by simp only [List.mem_cons, List.not_mem_nil, or_false] at z ⊢; rcases z with z | z | z | z | z | z | z | z | z | z <;> simp [z])), if_neg hy1, ← kn y hy]
            by_cases z1 : y = Str.ofString "names"
            · rw [if_pos z1, z1, k1]
            rw [if_neg z1]
            by_cases z2 : y = Str.ofString "rows"
            · rw [if_pos z2, z2, k4]
            rw [if_neg z2]
            by_cases z3 : y = Str.ofString "unit"
            · rw [if_pos z3, z3, k5]
            rw [if_neg z3]
      case done =>
        rintro m₁ nx h tk ⟨a2', a3', a4', iA', iv', ii', is', rest', tr', tl', lower', ps', c'', oc'', oD', v', r1', r2', r3', r4', r5', r6', r7', r8', r9', r10', r11', hnx⟩ F N
        have hm38 : (38, tabObj ps') ∈ nx := by
          rw [hnx]
          exact .tail _ (.tail _ (.tail _ (.tail _ (.tail _ (.tail _ (.tail _ (.head _)))))))
        have F' : Fr h₀ L h m₁ := F
        have N' : News h₀ L h nx := N
        dsimp only
        repeat' (first | walk1 | (dsimp only; walk1))
        exact ret _ _ _ _ _ hm38 F' N'
end Mine

end

section
/- the part WN -/
open PySem PySem.W PyProof.Rows PySem.Spec PySem.Calls
set_option maxRecDepth 100000
namespace Mine
local macro_rules | `(tactic| k_room) => `(tactic| ((try simp only [depth_mark, depth_under_make, depth_under_kw, depth_in1, depth_deeper, depth_caller]); (try dsimp only [ktrTop]); first | omega | decide))
/-- the loop that makes the depths -/
def depBody : List Stmt := match PySem.Challenge.pw_wb0006_01.main.body with
  | [_, _, _, _, _, _, _, _, _, _, _, .FunctionDef _ _ (_ :: _ :: _ :: .For _ _ b _ _ :: _) _ _ _ _ _ _ _] => b
  | _ => []
def DepJ (xsA dA : Addr) (oX : Obj) (xs : List Int) (m : Str → Option Value) (more : List (Addr × Obj)) (i : Nat) (m₁ : Str → Option Value) (nx : List (Addr × Obj)) : Prop :=
  ∃ dv dn, IntsAre dv (depthsTo xs i) ∧ nx = (xsA, oX) :: (dA, W.listOf dv.toArray dn) :: more ∧ ∀ y, y ≠ Str.ofString "x" → m₁ y = m y
theorem dep_end {h₀ h' h₁ : Heap} {L : Addr} {m' : Str → Option Value} {J : (Str → Option Value) → List (Addr × Obj) → Prop} {a b : Addr × Obj} {more own : List (Addr × Obj)} {adr : List Addr} {s : Shared} {tk₁ tk' : Nat}
    (F : Fr h₀ L h' m') (N : News h₀ L h' (a :: b :: (more ++ own))) (hJ : J m' (a :: b :: more)) (ha : (a :: b :: more).map (·.1) = adr) : InvEndN h₀ L J own adr { s with heap := h₁, toks := tk₁ } { s with heap := h', toks := tk' } :=
  ⟨h', tk', m', _, a :: b :: more, rfl, F, N, fun _ hp => List.mem_append_left own hp, fun _ hp => List.mem_append_right (a :: b :: more) hp, ha, hJ⟩
set_option maxHeartbeats 8000000 in
theorem law_depths (w : World) (p : Program) (loose : List Str) (mean : ExcName → Option Value) (mg mb : Str → Option Value) (fa : Addr) (cd : Value) (h₀ : Heap) (L : Addr) (m : Str → Option Value) (s : Shared) (Q : Flow → Shared → Prop) (E : Value → Shared → Prop)
    (xsA dA numA j1 j2 : Addr) (xsv dv : List Value) (nn dn : Nat) (xs : List Int) (oNums o1 o2 oNum oDep oDepth : Obj)
    (hE : PassesOwn (model PySem.Challenge.rw_wb0006_01.row.prog w) (callerA.deeper (envOfC (Str.ofString "law") lawScope L fa cd)) (envOfC (Str.ofString "law") lawScope L fa cd) E)
    (B : Below callerA h₀ [] h₀) (X : (Mine.hd.heap_39 w.params).In h₀) (T : Top p loose mean mg mb h₀) (codeHd : CodeHd h₀ 42 38)
    (F : Fr h₀ L s.heap m)
    (N : News h₀ L s.heap [(xsA, W.listOf xsv.toArray nn), (dA, W.listOf dv.toArray dn), (numA, oNums), (j1, o1), (j2, o2), (L + 1 + 1 + 1, oDepth), (L + 1 + 1, oDep), (L + 1, oNum), (38, tabObj #[])])
    (d2 : oDep.data = .cell (some (.ref dA)))
    (i1 : IntsAre xsv xs) (i2 : IntsAre dv [0]) (hx : xs.length ≤ 5) (ltX : dA < xsA) (ltD : numA < dA ∧ j1 < dA ∧ j2 < dA ∧ L + 1 + 1 + 1 < dA ∧ L + 1 + 1 < dA ∧ L + 1 < dA ∧ 38 < dA)
    (fin : ∀ (h' : Heap) (tk' : Nat) (m' : Str → Option Value) (dv' : List Value) (dn' : Nat), IntsAre dv' (depthsTo xs xs.length) → (∀ y, y ≠ Str.ofString "x" → m' y = m y) → Fr h₀ L h' m' →
      News h₀ L h' [(xsA, W.listOf xsv.toArray nn), (dA, W.listOf dv'.toArray dn'), (numA, oNums), (j1, o1), (j2, o2), (L + 1 + 1 + 1, oDepth), (L + 1 + 1, oDep), (L + 1, oNum), (38, tabObj #[])] → Q .next { s with heap := h', toks := tk' }) :
    wpAny (model PySem.Challenge.rw_wb0006_01.row.prog w) (callerA.deeper (envOfC (Str.ofString "law") lawScope L fa cd)) (pyIter (.ref xsA)) (fun it s₂ => LoopAtV PySem.Challenge.rw_wb0006_01.row.prog w (callerA.deeper (envOfC (Str.ofString "law") lawScope L fa cd)) h₀ (envOfC (Str.ofString "law") lawScope L fa cd) (Str.ofString "x") depBody Q E it s₂) E s := by
  revert X N; k_fill; intro X N
  unfold depBody PySem.Challenge.pw_wb0006_01
  dsimp only
  generalize hsc : lawScope = sc at hE ⊢
  unfold lawScope PySem.Challenge.pw_wb0006_01 at hsc
  dsimp only at hsc
  subst hsc
  refine PySem.W.iter_invNL (DepJ xsA dA (W.listOf xsv.toArray nn) xs m _) (by rfl) (.head _) i1 F N ⟨dv, dn, i2, rfl, fun _ _ => rfl⟩ ?turn ?fin
  case fin =>
    rintro m₁ news₁ h tk - ⟨dv', dn', di, rfl, hm⟩ F' N'
    exact fin h tk m₁ dv' dn' di hm F' N'
  case turn =>
    rintro i n t m₁ news₁ h tk own hn hadr hoff hin ⟨dv', dn', di, rfl, hm⟩ F' N'
    have hil : i < xs.length := by
      rcases Nat.lt_or_ge i xs.length with q | q
      · exact q
      · rw [List.getElem?_eq_none q] at hn; cases hn
    have hln := depths_len xs i
    have hdl : dv'.length = i + 1 := by rw [di.length, hln]
    have hlast := depths_last xs i
    have hok := depths_ok xs i
    have h0 := hok.2.1 i (Nat.le_refl _)
    dsimp only [List.cons_append, List.nil_append] at N'
    obtain ⟨lt1, lt2, lt3, lt4, lt5, lt6, lt7⟩ := ltD
    have hall : ∀ p ∈ ((numA, oNums) :: (j1, o1) :: (j2, o2) :: (L + 1 + 1 + 1, oDepth) :: (L + 1 + 1, oDep) :: (L + 1, oNum) :: (38, tabObj #[]) :: own), p.1 ≠ dA := by
      intro p hp
      simp only [List.mem_cons] at hp
      rcases hp with rfl | rfl | rfl | rfl | rfl | rfl | rfl | hp
      all_goals first | exact Nat.ne_of_lt (by assumption) | exact hoff p hp dA (.tail _ (.head _))
    have hxi : xs.getD i 0 = n := by simp [List.getD, hn]
    have hix : (-1 + (↑(depthsTo xs i).length : Int)).toNat = i := by rw [hln]; omega
    repeat' (first | walk1 | (dsimp only; walk1))
    · exfalso
      rename_i e0 _ _ _ _
      rw [hix] at e0
      omega
    refine' append_K ?k1 ?k2 ?k3 ?_ ?z
    case k1 => exact F'
    case k2 => exact N'
    case k3 => exact Upd.tail (p := (xsA, W.listOf xsv.toArray nn)) (Nat.ne_of_gt ltX) (Upd.head hall)
    case z => rw [PySem.sizeLine_eq, List.size_toArray, hdl]; omega
    intro h' F2 N2
    repeat' (first | walk1 | (dsimp only; walk1))
    have hnew : depthsTo xs (i + 1) = depthsTo xs i ++ [1 + n.fmod ((depthsTo xs i).getD (-1 + (↑(depthsTo xs i).length : Int)).toNat 0 + 1)] := by
      rw [depthsTo, hlast, hxi, hix]
    have hpush : ∀ v : Value, dv'.toArray.push v = (dv' ++ [v]).toArray := fun v => by simp
    rw [hpush] at N2
    exact dep_end (more := [(numA, oNums), (j1, o1), (j2, o2), (L + 1 + 1 + 1, oDepth), (L + 1 + 1, oDep), (L + 1, oNum), (38, tabObj #[])]) F2 N2
      ⟨.head _, _, _, by rw [hnew]; exact di.append (.cons _ _ .nil), rfl, fun y hy => (if_neg hy).trans (hm y hy)⟩ rfl
end Mine

end

section
/- the part PD -/
open PySem PySem.W PyProof.Rows PySem.Spec PySem.Calls PySem.Sre
set_option maxRecDepth 100000
/- plain: texts as lists of signs; the nest forwards; ids and the pattern -/
namespace Mine
def tx (x : Str) : List Nat := x.cps.toList
theorem tx_append (a b : Str) : tx (a ++ b) = tx a ++ tx b := by unfold tx; rw [Str.cps_append]; simp
theorem tx_inj {a b : Str} (h : tx a = tx b) : a = b := Str.ext' (Array.toList_inj.mp h)
theorem tx_mk (l : List Nat) : tx ⟨l.toArray⟩ = l := rfl
theorem tx_len (x : Str) : (tx x).length = x.length := by unfold tx Str.length; simp
theorem mk_tx (x : Str) : (⟨(tx x).toArray⟩ : Str) = x := tx_inj (tx_mk _)
theorem of_tx {x : Str} {l : List Nat} (h : tx x = l) : x = ⟨l.toArray⟩ := by rw [← h, mk_tx]
theorem tx_empty : tx Str.empty = [] := rfl
theorem tx_e0 : tx E0 = [] := by decide +kernel
theorem tx_lt : tx (Str.ofString "<") = [60] := by decide +kernel
theorem tx_gt : tx (Str.ofString ">") = [62] := by decide +kernel
theorem tx_nl : tx (Str.ofString "\n") = [10] := by decide +kernel
theorem tx_nl2 : tx (Str.ofString "\n\n") = [10, 10] := by decide +kernel

theorem nest_step {ts : List Str} {D : Nat} {nm id : Str} (h : D + 1 < ts.length) :
    StepT (fun j => tx (ts.getD j Str.empty)) (fun j => tx ((nestStep ts D nm id).getD j Str.empty)) D (tx nm) (tx id) := by
  unfold nestStep
  refine ⟨?_, ?_, fun j h1 h2 => ?_⟩
  · dsimp only
    rw [getD_set', if_pos ⟨rfl, by rw [List.length_set]; exact h⟩]; exact tx_e0
  · dsimp only
    rw [getD_set', if_neg (by omega), getD_set', if_pos ⟨rfl, by omega⟩]
    simp only [tx_append, tx_lt, tx_gt]
  · dsimp only
    rw [getD_set', if_neg (by omega), getD_set', if_neg (by omega)]
theorem getD_rep (n j : Nat) : (List.replicate n E0).getD j Str.empty = E0 ∨ (List.replicate n E0).getD j Str.empty = Str.empty := by
  simp only [List.getD]
  by_cases h : j < n
  · left; rw [List.getElem?_replicate, if_pos h]; rfl
  · right; rw [List.getElem?_replicate, if_neg h]; rfl
theorem nest_plain {ds : List Int} {ns is : List Str} {d : Nat → Nat} {k : Nat} (hl : ds.length = k + 1) (hd : ∀ j, j ≤ k → (ds.getD j 0).toNat = d j) (ok : DOk d (k + 1)) :
    tx (nestS ds ns is) = opn d (fun j => tx (ns.getD j Str.empty)) (fun j => tx (is.getD j Str.empty)) k ++ cls (fun j => tx (is.getD j Str.empty)) (stk d k) := by
  have h := told_forward (d := d) (m := k + 1) (N := fun j => tx (ns.getD j Str.empty)) (I := fun j => tx (is.getD j Str.empty)) (T := fun i j => tx ((nestTold ds ns is (k + 1 - i)).getD j Str.empty)) ok (fun j => ?_) (fun i hi => ?_) k rfl
  · unfold nestS
    rw [hl]
    exact h
  · rw [Nat.sub_self]
    show tx ((List.replicate _ E0).getD j Str.empty) = []
    rcases getD_rep (ds.length + 1) j with e | e <;> rw [e]
    · exact tx_e0
    · rfl
  · have e : k + 1 - i = (k + 1 - (i + 1)) + 1 := by omega
    have e2 : ds.length - 1 - (k + 1 - (i + 1)) = i := by omega
    have hs := nest_step (ts := nestTold ds ns is (k + 1 - (i + 1))) (D := d i) (nm := ns.getD i Str.empty) (id := is.getD i Str.empty) (by rw [told_len]; have := ok.le i hi; omega)
    rw [← hd i (by omega)] at hs
    rw [e]
    rw [← hd i (by omega)]
    rw [nestTold, e2]
    exact hs

/-- a text that looks like an id, of n figures -/
def IdOk (id : List Nat) (n : Nat) : Prop := ∃ (b0 b1 b2 b3 b4 b5 : Nat) (D : List Nat), id = [b0, b1, b2, b3, b4, b5] ++ D ∧ isC 32 b0 = true ∧ isL 97 b1 = true ∧ isL 116 b2 = true ∧ isC 32 b3 = true ∧ isC 48 b4 = true ∧ isL 120 b5 = true ∧ D.length = n ∧ ∀ y ∈ D, hexc y = true
theorem hex_low : ∀ c ∈ hexDigits, hexc c = true := by decide +kernel
theorem hex_up : ∀ c ∈ hexDigits, hexc (up1 c) = true := by decide +kernel
theorem id_ok (x : Int) : IdOk (tx (idOf x)) (if x.fmod 13 = 12 then 5 else 6 + (x.fmod 13).toNat) := by
  obtain ⟨r, z, hr16, hz13, hr, hz⟩ := id_cases x
  have hn : (if x.fmod 13 = 12 then 5 else 6 + (x.fmod 13).toNat) = (if z = 12 then 5 else 6 + z) := by
    rw [hz, Int.toNat_natCast]
    by_cases h : z = 12
    · rw [if_pos h, if_pos (by omega)]
    · rw [if_neg h, if_neg (by omega)]
  rw [hn]
  by_cases h5 : x.fmod 5 = 4
  · rw [idOf_up hr hz h5, tx_mk]
    refine ⟨up1 32, up1 97, up1 116, up1 32, up1 48, up1 120, (idDig r z).map up1, rfl, by decide +kernel, by decide +kernel, by decide +kernel, by decide +kernel, by decide +kernel, by decide +kernel, ?_, ?_⟩
    · rw [List.length_map, dig_len hr16 hz13]
    · intro y hy
      obtain ⟨c, hc, rfl⟩ := List.mem_map.mp hy
      exact hex_up c (dig_mem hc)
  · rw [idOf_low hr hz h5, tx_mk]
    exact ⟨32, 97, 116, 32, 48, 120, idDig r z, rfl, by decide +kernel, by decide +kernel, by decide +kernel, by decide +kernel, by decide +kernel, by decide +kernel, dig_len hr16 hz13, fun y hy => hex_low y (dig_mem hy)⟩
theorem id_len (x : Int) : (idOf x).length ≤ 23 := by
  obtain ⟨b0, b1, b2, b3, b4, b5, D, e, _, _, _, _, _, _, hl, _⟩ := id_ok x
  rw [← tx_len, e, List.length_append, hl]
  have := Int.fmod_nonneg_of_pos x (show (0 : Int) < 13 by decide)
  have := Int.fmod_lt_of_pos x (show (0 : Int) < 13 by decide)
  show 6 + _ ≤ 23
  split <;> omega

theorem at_off (P Q : List Nat) (i : Nat) : (P ++ Q).toArray.getD (P.length + i) 0 = Q.getD i 0 := by
  rw [getD_toArray]
  simp only [List.getD]
  rw [List.getElem?_append_right (by omega), Nat.add_sub_cancel_left]
theorem id_shape {P id : List Nat} {n c : Nat} {z : List Nat} (h : IdOk id n) (hc : 1 ≤ c) (hz : z = [] ∨ z = [10]) : Shape (P ++ id ++ List.replicate c 62 ++ z).toArray (P.length + 6) n c z.length := by
  obtain ⟨b0, b1, b2, b3, b4, b5, D, e, h0, h1, h2, h3, h4, h5, hl, hD⟩ := h
  have S := shape_list (A := P ++ [b0, b1, b2, b3, b4]) (H := D) (c := c) (x := b5) (z := z) (hex_a h5) (fun hn q => by
    rw [q] at h5; exact absurd h5 (by decide +kernel)) hD hc hz
  have e1 : (P ++ [b0, b1, b2, b3, b4] ++ [b5]) ++ D = P ++ id := by rw [e]; simp
  rw [e1] at S
  have e2 : (P ++ [b0, b1, b2, b3, b4]).length + 1 = P.length + 6 := by simp
  rw [e2, hl] at S
  exact S
theorem id_hit {P id : List Nat} {n c : Nat} {z : List Nat} (h : IdOk id n) (hn : 6 ≤ n ∧ n ≤ 16) (hc : 1 ≤ c) (hz : z = [] ∨ z = [10]) : HitWith (P ++ id ++ List.replicate c 62 ++ z).toArray P.length n c := by
  have S := id_shape (P := P) h hc hz
  obtain ⟨b0, b1, b2, b3, b4, b5, D, e, h0, h1, h2, h3, h4, h5, hl, hD⟩ := h
  have hat : ∀ i, (P ++ id ++ List.replicate c 62 ++ z).toArray.getD (P.length + i) 0 = ([b0, b1, b2, b3, b4, b5] ++ (D ++ (List.replicate c 62 ++ z))).getD i 0 := fun i => by
    rw [← at_off P, e]
    congr 2; simp
  refine ⟨?_, ?_, ?_, ?_, ?_, ?_, hn.1, hn.2, hc, S.hex, fun j hj => ?_, ?_⟩
  · have := hat 0; rw [Nat.add_zero] at this; rw [this]; exact h0
  · rw [hat 1]; exact h1
  · rw [hat 2]; exact h2
  · rw [hat 3]; exact h3
  · rw [hat 4]; exact h4
  · rw [hat 5]; exact h5
  · exact S.gts j hj
  · have hs := S.size
    rcases S.nl with q | ⟨q, q2⟩
    · left; omega
    · right; exact ⟨by omega, q2⟩
theorem id_only {P id : List Nat} {n c : Nat} {z : List Nat} (h : IdOk id n) (hc : 1 ≤ c) (hz : z = [] ∨ z = [10]) {s : Nat} (H : Hit (P ++ id ++ List.replicate c 62 ++ z).toArray s) : s = P.length ∧ 6 ≤ n ∧ n ≤ 16 := by
  obtain ⟨n', e', H⟩ := H
  obtain ⟨q1, q2, q3⟩ := hit_shape (id_shape (P := P) h hc hz) H
  obtain ⟨_, _, _, _, _, _, h6, h16, _⟩ := H
  exact ⟨by omega, by omega, by omega⟩
theorem idok_len {id : List Nat} {n : Nat} (h : IdOk id n) : id.length = 6 + n := by
  obtain ⟨b0, b1, b2, b3, b4, b5, D, e, _, _, _, _, _, _, hl, _⟩ := h
  rw [e, List.length_append, hl]; rfl
theorem strips_id {P id : List Nat} {n c : Nat} {z : List Nat} (h : IdOk id n) (hn : 6 ≤ n ∧ n ≤ 16) (hc : 1 ≤ c) (hz : z = [] ∨ z = [10]) : StripsTo ⟨(P ++ id ++ List.replicate c 62 ++ z).toArray⟩ ⟨(P ++ List.replicate c 62 ++ z).toArray⟩ := by
  have hl := idok_len h
  refine .inr ⟨P.length, n, c, id_hit h hn hc hz, fun i hi H => ?_, ?_⟩
  · have := (id_only h hc hz H).1; omega
  · apply tx_inj
    rw [tx_mk, tx_mk]
    show (P ++ id ++ List.replicate c 62 ++ z).take P.length ++ ((P ++ id ++ List.replicate c 62 ++ z).toArray.extract _ _).toList ++ (P ++ id ++ List.replicate c 62 ++ z).drop _ = _
    have e1 : (P ++ id ++ List.replicate c 62 ++ z).take P.length = P := by
      rw [List.append_assoc, List.append_assoc, List.take_left]
    have e3 : (P ++ id ++ List.replicate c 62 ++ z).drop (P.length + 6 + n + c) = z := by
      have : P.length + 6 + n + c = (P ++ id ++ List.replicate c 62).length := by simp; omega
      rw [this, List.drop_left]
    have e2 : ((P ++ id ++ List.replicate c 62 ++ z).toArray.extract (P.length + 6 + n) (P.length + 6 + n + c)).toList = List.replicate c 62 := by
      rw [Array.toList_extract]
      show ((P ++ id ++ List.replicate c 62 ++ z).drop _).take _ = _
      have : P.length + 6 + n = (P ++ id).length := by simp; omega
      rw [List.append_assoc (P ++ id), this, List.drop_left]
      rw [Nat.add_sub_cancel_left]
      have hr : (List.replicate c 62).length = c := List.length_replicate
      rw [List.take_append_of_le_length (by omega), List.take_of_length_le (by omega)]
    rw [e1, e2, e3]
theorem strips_not {P id : List Nat} {n c : Nat} {z : List Nat} (h : IdOk id n) (hn : ¬ (6 ≤ n ∧ n ≤ 16)) (hc : 1 ≤ c) (hz : z = [] ∨ z = [10]) : StripsTo ⟨(P ++ id ++ List.replicate c 62 ++ z).toArray⟩ ⟨(P ++ id ++ List.replicate c 62 ++ z).toArray⟩ :=
  .inl ⟨fun _ H => hn (id_only h hc hz H).2, rfl⟩
theorem strips_two (l : List Nat) : StripsTo ⟨(l ++ [10, 10]).toArray⟩ ⟨(l ++ [10, 10]).toArray⟩ := .inl ⟨fun i => no_two i, rfl⟩
/-- a name's end: no match -/
theorem strips_letter {P : List Nat} {x c : Nat} (hx : hexc x = false) (h62 : x ≠ 62) (hc : 1 ≤ c) : StripsTo ⟨(P ++ [x] ++ List.replicate c 62).toArray⟩ ⟨(P ++ [x] ++ List.replicate c 62).toArray⟩ := by
  refine .inl ⟨fun i H => ?_, rfl⟩
  obtain ⟨n', e', H⟩ := H
  have S := shape_list (A := P) (H := []) (c := c) (x := x) (z := []) hx (fun _ => h62) (fun y hy => by cases hy) hc (.inl rfl)
  rw [List.append_nil, List.append_nil] at S
  have := (hit_shape S H).1
  obtain ⟨_, _, _, _, _, _, h6, h16, _⟩ := H
  simp at this
  omega
theorem strips_at {P : List Nat} {c : Nat} (hc : 1 ≤ c) : StripsTo ⟨(P ++ [60, 97, 116, 32, 48, 120, 97, 98, 99, 100, 101, 102] ++ List.replicate c 62).toArray⟩ ⟨(P ++ [60, 97, 116, 32, 48, 120, 97, 98, 99, 100, 101, 102] ++ List.replicate c 62).toArray⟩ := by
  refine .inl ⟨fun i H => ?_, rfl⟩
  obtain ⟨n', e', H⟩ := H
  have S := shape_list (A := P ++ [60, 97, 116, 32, 48]) (H := [97, 98, 99, 100, 101, 102]) (c := c) (x := 120) (z := []) (by decide +kernel) (by simp) (by decide +kernel) hc (.inl rfl)
  rw [List.append_nil] at S
  have e1 : P ++ [60, 97, 116, 32, 48] ++ [120] ++ [97, 98, 99, 100, 101, 102] = P ++ [60, 97, 116, 32, 48, 120, 97, 98, 99, 100, 101, 102] := by simp
  rw [e1] at S
  have q := (hit_shape S H).2.2
  have e2 : (P ++ [60, 97, 116, 32, 48]).length + 1 = P.length + 6 := by simp
  rw [e2] at q
  have hi : i = P.length + 0 := by omega
  obtain ⟨h0, _⟩ := H
  rw [hi, List.append_assoc, at_off] at h0
  exact absurd h0 (by show ¬ isC 32 60 = true; decide)
end Mine

end

section
/- the part PE -/
open PySem PySem.W PyProof.Rows PySem.Spec PySem.Calls PySem.Sre
set_option maxRecDepth 100000
/- plain: the page, row by row; its split -/
namespace Mine
theorem pad_nil (u : Nat) : pad u [] = [] := rfl
theorem pad_cons (u : Nat) (r : List Nat) (rs : List (List Nat)) : pad u (r :: rs) = (List.replicate u 32 ++ r) :: pad u rs := rfl
theorem pad_append (u : Nat) (a b : List (List Nat)) : pad u (a ++ b) = pad u a ++ pad u b := by simp [pad]
theorem pad_pad (u v : Nat) (a : List (List Nat)) : pad u (pad v a) = pad (u + v) a := by
  unfold pad
  rw [List.map_map]
  congr 1
  funext r
  show List.replicate u 32 ++ (List.replicate v 32 ++ r) = List.replicate (u + v) 32 ++ r
  rw [← List.append_assoc, List.replicate_append_replicate]
theorem pad_zero (a : List (List Nat)) : pad 0 a = a := by simp [pad]

def mgp (u : Nat) (T : Nat → List (List Nat)) : Nat → List (List Nat)
  | 0 => T 0
  | j + 1 => pad (u * (j + 1)) (T (j + 1)) ++ mgp u T j
def StepP (u : Nat) (T T' : Nat → List (List Nat)) (D : Nat) (nm : List Nat) : Prop := T' (D + 1) = [] ∧ T' D = nm :: pad u (T (D + 1)) ++ T D ∧ ∀ j, j ≠ D → j ≠ D + 1 → T' j = T j
theorem mgp_low {u : Nat} {T T' : Nat → List (List Nat)} : ∀ n, (∀ j, j ≤ n → T' j = T j) → mgp u T' n = mgp u T n
  | 0, h => h 0 (Nat.le_refl _)
  | n + 1, h => by
    show pad _ (T' (n + 1)) ++ mgp u T' n = pad _ (T (n + 1)) ++ mgp u T n
    rw [h (n + 1) (Nat.le_refl _), mgp_low n fun j hj => h j (Nat.le_succ_of_le hj)]
theorem mgp_step {u D : Nat} {T T' : Nat → List (List Nat)} {nm : List Nat} (h : StepP u T T' D nm) : mgp u T' D = (List.replicate (u * D) 32 ++ nm) :: mgp u T (D + 1) := by
  obtain ⟨h1, h2, h3⟩ := h
  cases D with
  | zero =>
    show T' 0 = _ :: (pad (u * 1) (T 1) ++ T 0)
    rw [h2, Nat.mul_zero, Nat.mul_one]; rfl
  | succ e =>
    show pad (u * (e + 1)) (T' (e + 1)) ++ mgp u T' e = _ :: (pad (u * (e + 1 + 1)) (T (e + 1 + 1)) ++ (pad (u * (e + 1)) (T (e + 1)) ++ mgp u T e))
    rw [mgp_low (T := T) e fun j hj => h3 j (by omega) (by omega), h2]
    rw [List.cons_append, pad_cons, pad_append, pad_pad, List.cons_append, List.append_assoc]
    rw [show u * (e + 1) + u = u * (e + 1 + 1) by rw [Nat.mul_succ u (e + 1)]]
theorem mgp_high {u D : Nat} {T : Nat → List (List Nat)} (h : ∀ j, D < j → T j = []) : ∀ a, mgp u T (D + a) = mgp u T D
  | 0 => rfl
  | a + 1 => by
    show pad _ (T (D + a + 1)) ++ mgp u T (D + a) = _
    rw [h _ (by omega), mgp_high h a]; rfl
theorem mgp_bare {u : Nat} {T : Nat → List (List Nat)} (h : ∀ j, T j = []) : ∀ n, mgp u T n = []
  | 0 => h 0
  | n + 1 => by
    show pad _ (T (n + 1)) ++ mgp u T n = []
    rw [h, mgp_bare h n]; rfl
def rowAt (d : Nat → Nat) (N : Nat → List Nat) (u k : Nat) : List Nat := List.replicate (u * d k) 32 ++ N k
section
variable {d : Nat → Nat} {m u : Nat} {N : Nat → List Nat} {T : Nat → Nat → List (List Nat)}
theorem page_high (h : DOk d m) (h0 : ∀ j, T m j = []) (hs : ∀ k, k < m → StepP u (T (k + 1)) (T k) (d k) (N k)) : ∀ n k, k + n + 1 = m → ∀ j, d k < j → T k j = []
  | 0, k, e, j, hj => by
    obtain ⟨h1, h2, h3⟩ := hs k (by omega)
    by_cases q : j = d k + 1
    · rw [q]; exact h1
    · rw [h3 j (by omega) q, show k + 1 = m by omega]; exact h0 j
  | n + 1, k, e, j, hj => by
    obtain ⟨h1, h2, h3⟩ := hs k (by omega)
    by_cases q : j = d k + 1
    · rw [q]; exact h1
    · rw [h3 j (by omega) q]
      have := h.2 k (by omega)
      exact page_high h h0 hs n (k + 1) (by omega) j (by omega)
theorem page_full (h : DOk d m) (h0 : ∀ j, T m j = []) (hs : ∀ k, k < m → StepP u (T (k + 1)) (T k) (d k) (N k)) : ∀ k, k < m → T 0 0 = (List.range (k + 1)).map (rowAt d N u) ++ mgp u (T (k + 1)) (d k + 1)
  | 0, hk => by
    have h1 := hs 0 hk
    rw [h.1] at h1
    have := mgp_step h1
    rw [h.1]
    have e : rowAt d N u 0 = List.replicate (u * 0) 32 ++ N 0 := by unfold rowAt; rw [h.1]
    show T 0 0 = [rowAt d N u 0] ++ _
    rw [e]
    exact this
  | k + 1, hk => by
    have h1 := mgp_step (hs (k + 1) hk)
    have hd := h.2 k hk
    rw [page_full h h0 hs k (by omega)]
    have e : d k + 1 = d (k + 1) + (d k + 1 - d (k + 1)) := by omega
    rw [e, mgp_high (fun j hj => page_high h h0 hs (m - (k + 1) - 1) (k + 1) (by omega) j hj), h1]
    rw [List.range_succ (n := k + 1), List.map_append, List.append_assoc]
    rfl
end
theorem pageL {ts : List (List (List Nat))} {D u : Nat} {nm : List Nat} (h : D + 1 < ts.length) :
    StepP u (fun j => ts.getD j []) (fun j => (pageStep ts D nm u).getD j []) D nm := by
  unfold pageStep
  refine ⟨?_, ?_, fun j h1 h2 => ?_⟩
  · dsimp only
    rw [getDset, if_pos ⟨rfl, by rw [List.length_set]; exact h⟩]
  · dsimp only
    rw [getDset, if_neg (by omega), getDset, if_pos ⟨rfl, by omega⟩]
  · dsimp only
    rw [getDset, if_neg (by omega), getDset, if_neg (by omega)]
theorem getD_repP (n j : Nat) : (List.replicate n ([] : List (List Nat))).getD j [] = [] := by
  simp only [List.getD]
  by_cases h : j < n
  · rw [List.getElem?_replicate, if_pos h]; rfl
  · rw [List.getElem?_replicate, if_neg h]; rfl
theorem page_plain {ds : List Int} {ns : List Str} {d : Nat → Nat} {k u : Nat} (hl : ds.length = k + 1) (hd : ∀ j, j ≤ k → (ds.getD j 0).toNat = d j) (ok : DOk d (k + 1)) :
    pageS ds ns u = rowsStr ((List.range (k + 1)).map (rowAt d (fun j => tx (ns.getD j Str.empty)) u)) := by
  have h0 : ∀ j, (fun i j => (pageTold ds ns u (k + 1 - i)).getD j []) (k + 1) j = [] := fun j => by
    show (pageTold ds ns u (k + 1 - (k + 1))).getD j [] = []
    rw [Nat.sub_self]
    exact getD_repP _ _
  have hs : ∀ i, i < k + 1 → StepP u ((fun i j => (pageTold ds ns u (k + 1 - i)).getD j []) (i + 1)) ((fun i j => (pageTold ds ns u (k + 1 - i)).getD j []) i) (d i) ((fun j => tx (ns.getD j Str.empty)) i) := fun i hi => by
    have e : k + 1 - i = (k + 1 - (i + 1)) + 1 := by omega
    have e2 : ds.length - 1 - (k + 1 - (i + 1)) = i := by omega
    have hs := pageL (ts := pageTold ds ns u (k + 1 - (i + 1))) (D := d i) (u := u) (nm := tx (ns.getD i Str.empty)) (by rw [ptold_len]; have := ok.le i hi; omega)
    rw [← hd i (by omega)] at hs
    show StepP u (fun j => (pageTold ds ns u (k + 1 - (i + 1))).getD j []) (fun j => (pageTold ds ns u (k + 1 - i)).getD j []) (d i) (tx (ns.getD i Str.empty))
    rw [e]
    rw [← hd i (by omega)]
    rw [pageTold, e2]
    exact hs
  have h := page_full (d := d) (m := k + 1) (u := u) (N := fun j => tx (ns.getD j Str.empty)) (T := fun i j => (pageTold ds ns u (k + 1 - i)).getD j []) ok h0 hs k (by omega)
  rw [mgp_bare h0, List.append_nil] at h
  unfold pageS
  rw [hl]
  congr 1

theorem part_eq : ∀ {a b x y : List Nat}, 10 ∉ a → 10 ∉ b → a ++ 10 :: x = b ++ 10 :: y → a = b ∧ x = y
  | [], [], _, _, _, _, h => ⟨rfl, (List.cons.inj h).2⟩
  | [], c :: b, _, _, _, hb, h => by
    have := (List.cons.inj h).1
    exact absurd (by rw [← this]; exact .head _) hb
  | c :: a, [], _, _, ha, _, h => by
    have := (List.cons.inj h).1
    exact absurd (by rw [this]; exact .head _) ha
  | c :: a, e :: b, _, _, ha, hb, h => by
    obtain ⟨h1, h2⟩ := List.cons.inj h
    obtain ⟨q1, q2⟩ := part_eq (fun q => ha (.tail _ q)) (fun q => hb (.tail _ q)) h2
    exact ⟨by rw [h1, q1], q2⟩
theorem tx_join (a b : Str) (r : List Str) : tx (Str.join (Str.ofString "\n") (a :: b :: r)) = tx a ++ 10 :: tx (Str.join (Str.ofString "\n") (b :: r)) := by
  show tx (a ++ Str.ofString "\n" ++ Str.join (Str.ofString "\n") (b :: r)) = _
  rw [tx_append, tx_append, tx_nl]; simp
theorem join_inj : ∀ {l₁ l₂ : List Str}, l₁ ≠ [] → l₂ ≠ [] → (∀ p ∈ l₁, 10 ∉ tx p) → (∀ p ∈ l₂, 10 ∉ tx p) → Str.join (Str.ofString "\n") l₁ = Str.join (Str.ofString "\n") l₂ → l₁ = l₂
  | [], _, h, _, _, _, _ => absurd rfl h
  | _ :: _, [], _, h, _, _, _ => absurd rfl h
  | [a], [b], _, _, _, _, h => by
    have h : a = b := h
    rw [h]
  | [a], b :: c :: r, _, _, ha, _, h => by
    have h2 := congrArg tx h
    rw [tx_join] at h2
    have h2 : tx a = _ := h2
    exact absurd (by rw [h2]; simp) (ha a (.head _))
  | a :: c :: r, [b], _, _, _, hb, h => by
    have h2 := congrArg tx h
    rw [tx_join] at h2
    have h2 : _ = tx b := h2
    exact absurd (by rw [← h2]; simp) (hb b (.head _))
  | a :: c :: r, b :: e :: q, _, _, ha, hb, h => by
    have h2 := congrArg tx h
    rw [tx_join, tx_join] at h2
    obtain ⟨q1, q2⟩ := part_eq (ha a (.head _)) (hb b (.head _)) h2
    rw [tx_inj q1, join_inj (by simp) (by simp) (fun p hp => ha p (.tail _ hp)) (fun p hp => hb p (.tail _ hp)) (tx_inj q2)]
def mkS (l : List Nat) : Str := ⟨l.toArray⟩
theorem join_rows : ∀ rs : List (List Nat), Str.join (Str.ofString "\n") (rs.map mkS ++ [Str.empty]) = rowsStr rs
  | [] => rfl
  | r :: rs => by
    apply tx_inj
    have hne : ∃ b t, rs.map mkS ++ [Str.empty] = b :: t := by
      cases rs with
      | nil => exact ⟨_, _, rfl⟩
      | cons x y => exact ⟨_, _, rfl⟩
    obtain ⟨b, t, e⟩ := hne
    have ih := join_rows rs
    rw [e] at ih
    rw [List.map_cons, List.cons_append, e, tx_join, ih]
    show r ++ 10 :: rowsText rs = rowsText (r :: rs)
    rw [rowsText_cons]; simp
theorem split_rows {rs : List (List Nat)} (h : ∀ r ∈ rs, 10 ∉ r) : Txt.split (rowsStr rs) (Str.ofString "\n") = rs.map mkS ++ [Str.empty] := by
  have hnl : Str.ofString "\n" = ⟨#[10]⟩ := by decide +kernel
  have hfree : ∀ p ∈ rs.map mkS ++ [Str.empty], 10 ∉ tx p := fun p hp => by
    rcases List.mem_append.mp hp with q | q
    · obtain ⟨r, hr, rfl⟩ := List.mem_map.mp q
      exact h r hr
    · rw [List.mem_singleton.mp q, tx_empty]; exact List.not_mem_nil
  have hj : Str.join (Str.ofString "\n") (Txt.split (rowsStr rs) (Str.ofString "\n")) = rowsStr rs := StrLaws.join_split _ _
  have hf : ∀ p ∈ Txt.split (rowsStr rs) (Str.ofString "\n"), 10 ∉ tx p := by
    rw [hnl]
    exact StrLaws.split_free _ _
  by_cases hne : Txt.split (rowsStr rs) (Str.ofString "\n") = []
  · rw [hne] at hj
    cases rs with
    | nil =>
      exfalso
      revert hne
      decide +kernel
    | cons r rs =>
      exfalso
      have := congrArg tx hj
      have e : tx (rowsStr (r :: rs)) = r ++ [10] ++ rowsText rs := rowsText_cons r rs
      rw [e] at this
      have : ([] : List Nat) = _ := this
      simp at this
  · exact join_inj hne (by simp) hf hfree (by rw [hj, join_rows])
end Mine

end

section
/- the part WP -/
open PySem PySem.W PyProof.Rows PySem.Spec PySem.Calls PySem.Sre
set_option maxRecDepth 100000
/- the plain law: what the law computes answers as it says -/
namespace Mine
structure Plain (nums ds : List Int) (unit : Int) (rs : List Str) : Prop where
  b2 : ∀ i, ((namesOf nums).getD i Str.empty).length ≤ 20
  b3 : ∀ i, ((idsOf nums).getD i Str.empty).length ≤ 30
  b4 : ∀ i, i < nums.length → RowOk ((namesOf nums).getD i Str.empty).cps.toList
  hsp : Txt.split (pageS ds (namesOf nums) unit.toNat) (Str.ofString "\n") = rs
  hrn : rs.length = nums.length + 1
  hla : rs.getD nums.length Str.empty = Str.empty
  hpl : (pageS ds (namesOf nums) unit.toNat).length ≤ 10000
  hok : LawOk nums ds (namesOf nums) rs unit
def nmL (nums : List Int) (k : Nat) : List Nat := tx ((namesOf nums).getD k Str.empty)
def idL (nums : List Int) (k : Nat) : List Nat := tx ((idsOf nums).getD k Str.empty)
def isL' (is : List Str) (k : Nat) : List Nat := tx (is.getD k Str.empty)
def atName : List Nat := [97, 116, 32, 48, 120, 97, 98, 99, 100, 101, 102]
theorem nm_at {nums : List Int} {k : Nat} (hk : k < nums.length) : nmL nums k = atName ∨ nmL nums k = [112 + k] := by
  have e : (namesOf nums).getD k Str.empty = nameOf nums (k : Int) := by
    unfold namesOf rangeKs
    simp only [List.getD]
    rw [List.getElem?_map, List.getElem?_map, List.getElem?_range (by omega)]
    simp
  unfold nmL
  rw [e]
  unfold nameOf
  split
  · left; decide +kernel
  · right
    show [(112 + (k : Int)).toNat] = _
    congr 1
theorem nm_out {nums : List Int} {k : Nat} (hk : nums.length ≤ k) : nmL nums k = [] := by
  have e : (namesOf nums).getD k Str.empty = Str.empty := by
    unfold namesOf rangeKs
    simp only [List.getD]
    rw [List.getElem?_eq_none (by simp; omega)]
    rfl
  unfold nmL
  rw [e]; rfl
theorem nm_len {nums : List Int} (k : Nat) : (nmL nums k).length ≤ 11 := by
  by_cases hk : k < nums.length
  · rcases nm_at hk with e | e <;> rw [e]
    · decide
    · show 1 ≤ 11; decide
  · rw [nm_out (by omega)]; show 0 ≤ 11; decide
theorem id_at {nums : List Int} {k : Nat} (hk : k < nums.length) : (idsOf nums).getD k Str.empty = idOf (nums.getD k 0) := by
  unfold idsOf
  simp only [List.getD]
  rw [List.getElem?_map, List.getElem?_eq_getElem hk]
  rfl
theorem id_out {nums : List Int} {k : Nat} (hk : nums.length ≤ k) : (idsOf nums).getD k Str.empty = Str.empty := by
  unfold idsOf
  simp only [List.getD]
  rw [List.getElem?_map, List.getElem?_eq_none hk]
  rfl
theorem id_lenL {nums : List Int} (k : Nat) : ((idsOf nums).getD k Str.empty).length ≤ 30 := by
  by_cases hk : k < nums.length
  · rw [id_at hk]; exact Nat.le_trans (id_len _) (by decide)
  · rw [id_out (by omega)]; decide
theorem nest_len {ds : List Int} {ns is : List Str} (b2 : ∀ i, (ns.getD i Str.empty).length ≤ 20) (b3 : ∀ i, (is.getD i Str.empty).length ≤ 30) (h : ds.length ≤ 6) : (nestS ds ns is).length ≤ 9000 := by
  have := told_bound (ds := ds) b2 b3 ds.length 0
  unfold nestS
  generalize ds.length = n at *
  have : n = 0 ∨ n = 1 ∨ n = 2 ∨ n = 3 ∨ n = 4 ∨ n = 5 ∨ n = 6 := by omega
  rcases this with q | q | q | q | q | q | q <;> subst q <;> omega
theorem cut_at {is : List Str} {p : Nat} (hp : p < is.length) (j : Nat) : (is.take p ++ [Str.empty] ++ is.drop (p + 1)).getD j Str.empty = if j = p then Str.empty else is.getD j Str.empty := by
  simp only [List.getD]
  have hl : (is.take p).length = p := by rw [List.length_take]; omega
  by_cases h1 : j < p
  · rw [if_neg (by omega), List.append_assoc, List.getElem?_append_left (by omega), List.getElem?_take_of_lt h1]
  · by_cases h2 : j = p
    · rw [if_pos h2, List.append_assoc, List.getElem?_append_right (by omega), h2, hl, Nat.sub_self]; rfl
    · rw [if_neg h2, List.getElem?_append_right (by simp; omega), List.length_append, hl, List.getElem?_drop]
      congr 2
      show p + 1 + (j - (p + 1)) = j
      omega
def GGs (nums ds : List Int) : Nat → Nat → List Str → Str → Prop
  | 0 => fun _ _ _ => True
  | k + 1 => fun D is rest => is.length = ds.length ∧ (∀ i, (is.getD i Str.empty).length ≤ 30) ∧ Good (dNat ds) (nmL nums) (idL nums) k D (isL' is) (tx rest)

theorem strips_end {P nm : List Nat} {nums : List Int} {k c : Nat} (hk : k < nums.length ∧ k < 6) (hn : nm = nmL nums k) (hc : 1 ≤ c) : StripsTo ⟨(P ++ (60 :: nm ++ List.replicate c 62)).toArray⟩ ⟨(P ++ (60 :: nm ++ List.replicate c 62)).toArray⟩ := by
  rcases nm_at hk.1 with e | e
  · rw [hn, e]
    have := strips_at (P := P) (c := c) hc
    rw [List.append_assoc] at this
    exact this
  · rw [hn, e]
    have h6 : ∀ k, k < 6 → hexc (112 + k) = false := by decide +kernel
    have := strips_letter (P := P ++ [60]) (x := 112 + k) (c := c) (h6 k hk.2) (by omega) hc
    rw [List.append_assoc, List.append_assoc] at this
    exact this
theorem take_getD {ds : List Int} {k j : Nat} (h : j ≤ k) : (ds.take (k + 1)).getD j 0 = ds.getD j 0 := by
  simp only [List.getD]
  rw [List.getElem?_take_of_lt (by omega)]
theorem nest_row {nums ds : List Int} {is : List Str} {k : Nat} (ok : DOk (dNat ds) ds.length) (hk : k < ds.length) :
    tx (nestS (ds.take (k + 1)) (namesOf nums) is) = opn (dNat ds) (nmL nums) (isL' is) k ++ cls (isL' is) (stk (dNat ds) k) :=
  nest_plain (by rw [List.length_take]; omega) (fun j hj => by rw [take_getD hj]; rfl) ⟨ok.1, fun j hj => ok.2 j (by omega)⟩

theorem turn_ok {nums ds : List Int} {unit : Int} {rs : List Str} (hn : ds.length = nums.length) (h6 : nums.length ≤ 6) (ok : DOk (dNat ds) ds.length) (hcast : ∀ j, j < ds.length → ((dNat ds j : Nat) : Int) = ds.getD j 0)
    (hrs : ∀ k, k < nums.length → rs.getD k Str.empty = ⟨(List.replicate (unit.toNat * dNat ds k) 32 ++ nmL nums k).toArray⟩)
    (b2 : ∀ i, ((namesOf nums).getD i Str.empty).length ≤ 20)
    {k lower : Nat} {is : List Str} {rest : Str} (hk : k < ds.length) (g : GGs nums ds (k + 1) lower is rest) : TurnOk nums ds (namesOf nums) rs unit k lower is rest (GGs nums ds k) := by
  have hdk := ok.le k hk
  refine ⟨dNat ds k, (namesOf nums).getD k Str.empty, GGs nums ds (k + 1), by omega, g.2.2.1, hrs k (by omega), ?_, b2 k, g, ?_, ?_, ?_⟩
  · intro c hc
    have hc : c ∈ (nmL nums k).head? := hc
    rcases nm_at (nums := nums) (k := k) (by omega) with e | e <;> rw [e] at hc
    · simp [atName] at hc; omega
    · simp at hc; omega
  · intro D is rest hlo hD g
    obtain ⟨hlen, h30, g⟩ := g
    obtain ⟨pe, P, hpe, hdpe, hlast, hrest, hnew⟩ := good_peel ok hk hD g
    have hcut := cut_at (is := is) (p := pe) (by omega)
    have hrow := nest_row (nums := nums) (is := is) ok hk
    have hrest2 : rest = nestS (ds.take (k + 1)) (namesOf nums) is := tx_inj (by rw [hrow]; exact g.2.2.2)
    have hrl : rest.length ≤ 9000 := by
      rw [hrest2]
      exact nest_len b2 h30 (by rw [List.length_take]; omega)
    have h30' : ∀ i, ((is.take pe ++ [Str.empty] ++ is.drop (pe + 1)).getD i Str.empty).length ≤ 30 := fun i => by
      rw [hcut i]
      split
      · decide
      · exact h30 i
    have hrow' := nest_row (nums := nums) (is := is.take pe ++ [Str.empty] ++ is.drop (pe + 1)) ok hk
    obtain ⟨q1, q2⟩ := hnew (isL' (is.take pe ++ [Str.empty] ++ is.drop (pe + 1))) (by unfold isL'; rw [hcut, if_pos rfl]; rfl) (fun s hs => by unfold isL'; rw [hcut, if_neg hs])
    rw [q1] at hrow'
    have hbl : (nestS (ds.take (k + 1)) (namesOf nums) (is.take pe ++ [Str.empty] ++ is.drop (pe + 1))).length ≤ 9000 := nest_len b2 h30' (by rw [List.length_take]; omega)
    generalize hbare : nestS (ds.take (k + 1)) (namesOf nums) (is.take pe ++ [Str.empty] ++ is.drop (pe + 1)) = bare at hrow' hbl
    have hid : IdOk (idL nums pe) (if (nums.getD pe 0).fmod 13 = 12 then 5 else 6 + ((nums.getD pe 0).fmod 13).toNat) := by
      unfold idL
      rw [id_at (by omega)]
      exact id_ok _
    have hmod0 := Int.fmod_nonneg_of_pos (nums.getD pe 0) (show (0 : Int) < 13 by decide)
    have hmod1 := Int.fmod_lt_of_pos (nums.getD pe 0) (show (0 : Int) < 13 by decide)
    have er : rest = ⟨(P ++ idL nums pe ++ List.replicate (D + 1) 62 ++ []).toArray⟩ := of_tx (by rw [hrest, List.append_nil])
    have er1 : rest ++ Str.ofString "\n" = ⟨(P ++ idL nums pe ++ List.replicate (D + 1) 62 ++ [10]).toArray⟩ := of_tx (by rw [tx_append, hrest, tx_nl])
    have er2 : rest ++ Str.ofString "\n\n" = ⟨(P ++ idL nums pe ++ List.replicate (D + 1) 62 ++ [10, 10]).toArray⟩ := of_tx (by rw [tx_append, hrest, tx_nl2])
    have eb : bare = ⟨(P ++ List.replicate (D + 1) 62 ++ []).toArray⟩ := of_tx (by rw [hrow', List.append_nil])
    have eb1 : bare ++ Str.ofString "\n" = ⟨(P ++ List.replicate (D + 1) 62 ++ [10]).toArray⟩ := of_tx (by rw [tx_append, hrow', tx_nl])
    refine ⟨hlen, hrl, (pe : Int), is.take pe ++ [Str.empty] ++ is.drop (pe + 1), bare, if (nums.getD pe 0).fmod 13 < 11 then bare else rest, rfl, hbare.symm, rfl, ?_, ?_, ?_, hbl, h30', ⟨by omega, by omega, ?_, ?_⟩, ?_⟩
    · by_cases h : (nums.getD pe 0).fmod 13 < 11
      · rw [if_pos h, er, eb]
        exact strips_id hid (by rw [if_neg (by omega)]; omega) (by omega) (.inl rfl)
      · rw [if_neg h, er]
        exact strips_not hid (by split <;> omega) (by omega) (.inl rfl)
    · by_cases h : (nums.getD pe 0).fmod 13 < 11
      · rw [if_pos h, er1, eb1]
        exact strips_id hid (by rw [if_neg (by omega)]; omega) (by omega) (.inr rfl)
      · rw [if_neg h, er1]
        exact strips_not hid (by split <;> omega) (by omega) (.inr rfl)
    · rw [er2]
      exact strips_two _
    · show ds.getD pe 0 = (D : Int)
      rw [← hcast pe (by omega), hdpe]
    · intro j hj1 hj2 hj3
      have := hcast j.toNat (by omega)
      have := hlast j.toNat (by omega) (by omega)
      omega
    · refine ⟨?_, h30', ?_⟩
      · rw [← hlen]; simp; omega
      · rw [hrow']; exact q2
  · intro is rest g
    obtain ⟨hlen, h30, g⟩ := g
    have he := good_end ok hk g
    have hrow := nest_row (nums := nums) (is := is) ok hk
    have hrest2 : rest = nestS (ds.take (k + 1)) (namesOf nums) is := tx_inj (by rw [hrow]; exact g.2.2.2)
    have er := of_tx he
    refine ⟨?_, ?_, frontOf (dNat ds) (nmL nums) (isL' is) k, er⟩
    · rw [er]
      exact strips_end ⟨by omega, by omega⟩ rfl (by omega)
    · rw [hrest2]
      exact nest_len b2 h30 (by rw [List.length_take]; omega)
  · intro is rest front g hf
    cases k with
    | zero => trivial
    | succ k =>
      obtain ⟨hlen, h30, g⟩ := g
      refine ⟨hlen, h30, ?_⟩
      have he := good_end ok hk g
      have hx := good_next ok hk g
      have hf2 : tx rest = front ++ (60 :: nmL nums (k + 1) ++ List.replicate (dNat ds (k + 1) + 1) 62) := by rw [hf]; rfl
      have : front = frontOf (dNat ds) (nmL nums) (isL' is) (k + 1) := by
        rw [he] at hf2
        exact (List.append_cancel_right hf2).symm
      rw [this]
      exact hx

theorem plain_ok (nums : List Int) (unit : Int) (hl : 1 ≤ nums.length ∧ nums.length ≤ 6) (hu : 1 ≤ unit ∧ unit ≤ 4) : ∃ rs, Plain nums (depthsTo (nums.drop 1) (nums.drop 1).length) unit rs := by
  have hq : (nums.drop 1).length + 1 = nums.length := by rw [List.length_drop]; omega
  have hdl : (depthsTo (nums.drop 1) (nums.drop 1).length).length = nums.length := by rw [depths_len, hq]
  have ok := dNat_ok (nums.drop 1) (nums.drop 1).length
  have hcast : ∀ j, j < nums.length → ((dNat (depthsTo (nums.drop 1) (nums.drop 1).length) j : Nat) : Int) = (depthsTo (nums.drop 1) (nums.drop 1).length).getD j 0 := fun j hj => dNat_cast _ _ j (by omega)
  rw [hq] at ok
  generalize depthsTo (nums.drop 1) (nums.drop 1).length = ds at hdl ok hcast
  have b2 : ∀ i, ((namesOf nums).getD i Str.empty).length ≤ 20 := fun i => by
    rw [← tx_len]
    exact Nat.le_trans (nm_len i) (by decide)
  have hN : ∀ i, i < nums.length → nmL nums i ≠ [] ∧ 10 ∉ nmL nums i := fun i hi => by
    rcases nm_at hi with e | e <;> rw [e]
    · decide
    · exact ⟨by simp, by simp; omega⟩
  have hp : pageS ds (namesOf nums) unit.toNat = rowsStr ((List.range nums.length).map (rowAt (dNat ds) (nmL nums) unit.toNat)) := by
    have := page_plain (ds := ds) (ns := namesOf nums) (d := dNat ds) (k := nums.length - 1) (u := unit.toNat) (by omega) (fun _ _ => rfl) (by rw [show nums.length - 1 + 1 = nums.length by omega]; exact ok)
    rw [show nums.length - 1 + 1 = nums.length by omega] at this
    exact this
  have hrs : ∀ k, k < nums.length → (((List.range nums.length).map (rowAt (dNat ds) (nmL nums) unit.toNat)).map mkS ++ [Str.empty]).getD k Str.empty = ⟨(List.replicate (unit.toNat * dNat ds k) 32 ++ nmL nums k).toArray⟩ := fun k hk => by
    simp only [List.getD]
    rw [List.getElem?_append_left (by simp; omega), List.getElem?_map, List.getElem?_map, List.getElem?_range hk]
    rfl
  refine ⟨((List.range nums.length).map (rowAt (dNat ds) (nmL nums) unit.toNat)).map mkS ++ [Str.empty], b2, id_lenL, fun i hi => hN i hi, ?_, by simp, ?_, ?_, ?_⟩
  · rw [hp]
    refine split_rows fun r hr => ?_
    obtain ⟨i, hi, rfl⟩ := List.mem_map.mp hr
    have hi := List.mem_range.mp hi
    intro hm
    rcases List.mem_append.mp hm with q | q
    · have := (List.mem_replicate.mp q).2; omega
    · exact (hN i hi).2 q
  · simp only [List.getD]
    rw [List.getElem?_append_right (by simp)]
    simp
  · rw [hp]
    have h := rowsText_len (b := 35) (c := 6) (rs := (List.range nums.length).map (rowAt (dNat ds) (nmL nums) unit.toNat)) (by simp; omega) (fun r hr => by
      obtain ⟨i, hi, rfl⟩ := List.mem_map.mp hr
      have hi := List.mem_range.mp hi
      have h1 := ok.le i hi
      have h2 := nm_len (nums := nums) i
      unfold rowAt
      rw [List.length_append, List.length_replicate]
      have h3 : unit.toNat ≤ 4 := by omega
      have h4 : unit.toNat * dNat ds i ≤ 4 * 5 := Nat.mul_le_mul h3 (by omega)
      omega)
    show (rowsText _).toArray.size ≤ 10000
    rw [List.size_toArray]
    omega
  · refine ⟨GGs nums ds, ?_, fun k lower is rest hk g => turn_ok hdl hl.2 (by rw [hdl]; exact ok) (fun j hj => hcast j (by omega)) hrs b2 hk g⟩
    have hrow := nest_plain (ds := ds) (ns := namesOf nums) (is := idsOf nums) (d := dNat ds) (k := nums.length - 1) (by omega) (fun _ _ => rfl) (by rw [show nums.length - 1 + 1 = nums.length by omega]; exact ok)
    rw [show ds.length = nums.length - 1 + 1 by omega]
    refine ⟨?_, id_lenL, good_start hrow (stk_len ok _ (by omega))⟩
    unfold idsOf
    rw [List.length_map]; omega
end Mine

end

section
/- the part WL -/
open PySem PySem.W PyProof.Rows PySem.Spec PySem.Calls
set_option maxRecDepth 100000
namespace Mine
theorem For_VF {prog : Program} {w : World} {A : Around} {s : Shared} {env : Env} {h₀ : Heap} {E : Value → Shared → Prop} {Q : Flow → Shared → Prop} {x : Str} {px pos : Pos} {iter : Expr} {body : List Stmt} {m : Str → Option Value} (hF : Fr h₀ env.locals s.heap m) (hx : env.kindOf x = some .local)
    (hp : (env.scope.kind == .class || (env.scope.kind == .module && env.locals != env.globals)) = false)
    (h : wpAny (model prog w) A (eval iter env) (fun xv s₁ => wpAny (model prog w) A (pyIter xv) (fun it s₂ => LoopAtV prog w A h₀ env x body Q E it s₂) E s₁) E s)
    (hs : ∀ x, foldedSetIterable iter env x = pure x := by intro _; rfl)
    (hE : PassesOwn (model prog w) A env E := by passes_own) :
    wpAny (model prog w) A (exec (.For (.Name x px) iter body [] pos) env) Q E s := For_invV h₀ hx hp h hs hE
theorem law_deps {w : World} {p : Program} {loose : List Str} {mean : ExcName → Option Value} {mg mb : Str → Option Value} {fa : Addr} {cd : Value} {h₀ : Heap} {L : Addr} {m : Str → Option Value} {s : Shared} {Q : Flow → Shared → Prop} {E : Value → Shared → Prop}
    {xsA dA numA j1 j2 : Addr} {xsv dv : List Value} {nn dn : Nat} {xs : List Int} {oNums o1 o2 oNum oDep oDepth : Obj} {unit : Int} {tku : Tok}
    (F : Fr h₀ L s.heap (fun y => if y = Str.ofString "unit" then some (.int unit tku) else m y))
    (N : News h₀ L s.heap [(xsA, W.listOf xsv.toArray nn), (dA, W.listOf dv.toArray dn), (numA, oNums), (j1, o1), (j2, o2), (L + 1 + 1 + 1, oDepth), (L + 1 + 1, oDep), (L + 1, oNum), (38, tabObj #[])])
    (hE : PassesOwn (model PySem.Challenge.rw_wb0006_01.row.prog w) (callerA.deeper (envOfC (Str.ofString "law") lawScope L fa cd)) (envOfC (Str.ofString "law") lawScope L fa cd) E)
    (B : Below callerA h₀ [] h₀) (X : (Mine.hd.heap_39 w.params).In h₀) (T : Top p loose mean mg mb h₀) (codeHd : CodeHd h₀ 42 38)
    (d2 : oDep.data = .cell (some (.ref dA)))
    (i1 : IntsAre xsv xs) (i2 : IntsAre dv [0]) (hx : xs.length ≤ 5) (ltX : dA < xsA) (ltD : numA < dA ∧ j1 < dA ∧ j2 < dA ∧ L + 1 + 1 + 1 < dA ∧ L + 1 + 1 < dA ∧ L + 1 < dA ∧ 38 < dA)
    (fin : ∀ (h' : Heap) (tk' : Nat) (m' : Str → Option Value) (dv' : List Value) (dn' : Nat), IntsAre dv' (depthsTo xs xs.length) → (m' (Str.ofString "unit") = some (.int unit tku)) → Fr h₀ L h' m' →
      News h₀ L h' [(xsA, W.listOf xsv.toArray nn), (dA, W.listOf dv'.toArray dn'), (numA, oNums), (j1, o1), (j2, o2), (L + 1 + 1 + 1, oDepth), (L + 1 + 1, oDep), (L + 1, oNum), (38, tabObj #[])] → Q .next { s with heap := h', toks := tk' }) :
    wpAny (model PySem.Challenge.rw_wb0006_01.row.prog w) (callerA.deeper (envOfC (Str.ofString "law") lawScope L fa cd)) (pyIter (.ref xsA)) (fun it s₂ => LoopAtV PySem.Challenge.rw_wb0006_01.row.prog w (callerA.deeper (envOfC (Str.ofString "law") lawScope L fa cd)) h₀ (envOfC (Str.ofString "law") lawScope L fa cd) (Str.ofString "x") depBody Q E it s₂) E s :=
  law_depths w p loose mean mg mb fa cd h₀ L _ s Q E xsA dA numA j1 j2 xsv dv nn dn xs oNums o1 o2 oNum oDep oDepth hE B X T codeHd F N d2 i1 i2 hx ltX ltD (fun h' tk' m' dv' dn' di hm => fin h' tk' m' dv' dn' di ((hm _ (by decide)).trans (if_pos rfl)))
theorem law_rest2 {w : World} {p : Program} {loose : List Str} {mean : ExcName → Option Value} {mg mb : Str → Option Value} {fa : Addr} {cd : Value} {h₀ : Heap} {L : Addr} {m : Str → Option Value} {s : Shared} {Q : Flow → Shared → Prop} {E : Value → Shared → Prop}
    {numA dA xsA j1 j2 : Addr} {numv dv xsv : List Value} {numn dn xn : Nat} {nums ds : List Int} {o1 o2 oNum oDep oDepth : Obj} {unit : Int} {tku : Tok} {v₀ : Option Value} {rs : List Str}
    (F : Fr h₀ L s.heap m)
    (N : News h₀ L s.heap [(xsA, W.listOf xsv.toArray xn), (dA, W.listOf dv.toArray dn), (numA, W.listOf numv.toArray numn), (j1, o1), (j2, o2), (L + 1 + 1 + 1, oDepth), (L + 1 + 1, oDep), (L + 1, oNum), (38, tabObj #[])])
    (hE : PassesOwn (model PySem.Challenge.rw_wb0006_01.row.prog w) (callerA.deeper (envOfC (Str.ofString "law") lawScope L fa cd)) (envOfC (Str.ofString "law") lawScope L fa cd) E)
    (B : Below callerA h₀ [] h₀) (X : (Mine.hd.heap_39 w.params).In h₀) (T : Top p loose mean mg mb h₀) (codeHd : CodeHd h₀ 42 38)
    (hu : m (Str.ofString "unit") = some (.int unit tku))
    (d1 : oNum.data = .cell (some (.ref numA))) (d2 : oDep.data = .cell (some (.ref dA))) (d3 : oDepth.data = .cell v₀)
    (i1 : IntsAre numv nums) (i2 : IntsAre dv ds) (hun : 1 ≤ unit ∧ unit ≤ 4) (hdl : 1 ≤ ds.length ∧ ds.length ≤ 6) (hml : nums.length = ds.length) (hds : ∀ i, i < ds.length → 0 ≤ ds.getD i 0 ∧ ds.getD i 0 ≤ (i : Int))
    (P : Plain nums ds unit rs)
    (ret : ∀ (h' : Heap) (tk' : Nat) (m' : Str → Option Value) (nx : List (Addr × Obj)) (ps : Array Value), (38, tabObj ps) ∈ nx → Fr h₀ L h' m' → News h₀ L h' nx → Q (.ret (.bool true)) { s with heap := h', toks := tk' }) :
    wpAny (model PySem.Challenge.rw_wb0006_01.row.prog w) (callerA.deeper (envOfC (Str.ofString "law") lawScope L fa cd)) (execs lawRest (envOfC (Str.ofString "law") lawScope L fa cd)) Q E s := by
  have em : (fun y => if y = Str.ofString "unit" then some (.int unit tku) else m y) = m := by
    funext y
    by_cases hy : y = Str.ofString "unit"
    · rw [if_pos hy, hy, hu]
    · rw [if_neg hy]
  refine law_rest w p loose mean mg mb fa cd h₀ L m s Q E numA dA numv dv numn dn nums ds oNum oDep oDepth unit tku v₀ hE B X T codeHd (em.symm ▸ F) ?_ d1 d2 d3 i1 i2 hun hdl hml hds P.b2 P.b3 P.b4 rs P.hsp P.hrn P.hla P.hpl P.hok ret
  refine fun q hq => N q ?_
  revert q
  kcf_all
theorem law_rest3 {w : World} {p : Program} {loose : List Str} {mean : ExcName → Option Value} {mg mb : Str → Option Value} {fa : Addr} {cd : Value} {h₀ : Heap} {L : Addr} {m : Str → Option Value} {s : Shared} {Q : Flow → Shared → Prop} {E : Value → Shared → Prop}
    {numA dA xsA j1 j2 : Addr} {numv dv xsv : List Value} {numn dn xn : Nat} {nums : List Int} {o1 o2 oNum oDep oDepth : Obj} {unit : Int} {tku : Tok} {v₀ : Option Value}
    (F : Fr h₀ L s.heap m)
    (N : News h₀ L s.heap [(xsA, W.listOf xsv.toArray xn), (dA, W.listOf dv.toArray dn), (numA, W.listOf numv.toArray numn), (j1, o1), (j2, o2), (L + 1 + 1 + 1, oDepth), (L + 1 + 1, oDep), (L + 1, oNum), (38, tabObj #[])])
    (hE : PassesOwn (model PySem.Challenge.rw_wb0006_01.row.prog w) (callerA.deeper (envOfC (Str.ofString "law") lawScope L fa cd)) (envOfC (Str.ofString "law") lawScope L fa cd) E)
    (B : Below callerA h₀ [] h₀) (X : (Mine.hd.heap_39 w.params).In h₀) (T : Top p loose mean mg mb h₀) (codeHd : CodeHd h₀ 42 38)
    (hu : m (Str.ofString "unit") = some (.int unit tku))
    (d1 : oNum.data = .cell (some (.ref numA))) (d2 : oDep.data = .cell (some (.ref dA))) (d3 : oDepth.data = .cell v₀)
    (i1 : IntsAre numv nums) (i2 : IntsAre dv (depthsTo (nums.drop 1) (nums.drop 1).length)) (hun : 1 ≤ unit ∧ unit ≤ 4) (hl : 1 ≤ nums.length ∧ nums.length ≤ 6)
    (ret : ∀ (h' : Heap) (tk' : Nat) (m' : Str → Option Value) (nx : List (Addr × Obj)) (ps : Array Value), (38, tabObj ps) ∈ nx → Fr h₀ L h' m' → News h₀ L h' nx → Q (.ret (.bool true)) { s with heap := h', toks := tk' }) :
    wpAny (model PySem.Challenge.rw_wb0006_01.row.prog w) (callerA.deeper (envOfC (Str.ofString "law") lawScope L fa cd)) (execs lawRest (envOfC (Str.ofString "law") lawScope L fa cd)) Q E s := by
  obtain ⟨rs, P⟩ := plain_ok nums unit hl hun
  have hdl : (depthsTo (nums.drop 1) (nums.drop 1).length).length = nums.length := by rw [depths_len, List.length_drop]; omega
  exact law_rest2 F N hE B X T codeHd hu d1 d2 d3 i1 i2 hun ⟨by omega, by omega⟩ hdl.symm (fun i hi => depths_le _ _ i (by rw [hdl] at hi; rw [List.length_drop]; omega)) P ret
theorem unit_ok (n : Int) : 1 ≤ 1 + n.fmod 4 ∧ 1 + n.fmod 4 ≤ 4 := by
  have := Int.fmod_nonneg_of_pos n (show (0 : Int) < 4 by decide)
  have := Int.fmod_lt_of_pos n (show (0 : Int) < 4 by decide)
  omega
set_option maxHeartbeats 8000000 in
theorem law_holds : PySem.Challenge.rw_wb0006_01.Holds := Mine.hd (by
  k_go0
  (all_goals try k_fold)
  repeat' ((fail_if_success (with_reducible show wpAny _ _ (exec (Stmt.For _ _ _ _ _) _) _ _ _)); (first | walk1 | (dsimp only; walk1)))
  refine For_VF (by k_asm) (by rfl) (by rfl) ?_
  repeat' ((fail_if_success (with_reducible show wpAny _ _ (pyIter _) _ _ _)); (first | walk1 | (dsimp only; walk1)))
  refine' law_deps ?F ?N ?hE ?B ?X ?T ?codeHd ?d2 ?i1 ?i2 ?hx ?ltX ?ltD ?fin
  case F => k_asm
  case N => k_asm
  case hE => passes_own
  case B => assumption
  case X => assumption
  case T => assumption
  case codeHd => assumption
  case d2 => assumption
  case i1 => assumption
  case i2 => exact .cons _ _ .nil
  case hx => simp; omega
  case ltX => (rename_i l1; exact l1.1)
  case ltD => omega
  case fin =>
    intro h' tk' m' dv' dn' di hm F' N'
    refine' law_rest3 ?F ?N ?hE ?B ?X ?T ?codeHd ?hu ?d1 ?d2 ?d3 ?i1 ?i2 ?hun ?hl ?ret
    case F => exact F'
    case N => exact N'
    case hE => passes_own
    case B => assumption
    case X => assumption
    case T => assumption
    case codeHd => assumption
    case d1 => assumption
    case d2 => assumption
    case d3 => assumption
    case i1 => assumption
    case i2 => exact di
    case hu => exact hm
    case hun => exact unit_ok _
    case hl => simp; omega
    case ret =>
      intro h'' tk'' m'' nx ps hps F'' N''
      dsimp only
      have hgr : GrownAll [(42, 38)] h'' := ⟨GrownAt.of N'' hps, trivial⟩
      refine ⟨?_, hgr⟩
      k_end
      kc_close)
end Mine

end

theorem PySem.Challenge.cw_wb0006_01_holds : PySem.Challenge.rw_wb0006_01.Holds := by
  exact Mine.law_holds
