import PyProof.Rows.All
import OpenK.KLine
import PySem.Sre
import KE.KTextTable
import KE.KCallBy
import OpenK.KLaw
import KE.KTypeOf
import KE.KSetIn
import KE.KSetDisp
import OpenK.KRaise
import KE.KDictNew
import PyProof.Rows.TopCatch
import KE.KSortKey
import KE.KLam
import KE.KAnyBase
import Lean
import PySem.Challenge.RW_bn0039_01
set_option Elab.async false
section
open PySem PySem.W PyProof.Rows
namespace Mine
set_option maxRecDepth 100000 in
set_option maxHeartbeats 8000000 in
open_top hd for PySem.Challenge.rw_bn0039_01
end Mine

end
theorem Mine.topOff : True := by
  w_top off
  trivial
section
set_option maxRecDepth 100000
namespace Mine
open PySem PySem.Sre

/-! ## the machine's steps, counted -/
theorem step_done {m : M} (h : m.outcome.isSome = true) : m.step = m := by
  unfold M.step; rw [if_pos h]

theorem runFor_done {m : M} (h : m.outcome.isSome = true) : ∀ n, M.runFor n m = m
  | 0 => rfl
  | n + 1 => by unfold M.runFor; rw [if_pos h]

theorem runFor_succ (n : Nat) (m : M) : M.runFor (n + 1) m = M.runFor n m.step := by
  show (if m.outcome.isSome then m else M.runFor n m.step) = _
  by_cases h : m.outcome.isSome = true
  · rw [if_pos h, step_done h, runFor_done h]
  · rw [if_neg h]

theorem runFor_add : ∀ (a b : Nat) (m : M), M.runFor (a + b) m = M.runFor b (M.runFor a m)
  | 0, b, m => by rw [Nat.zero_add]; rfl
  | a + 1, b, m => by rw [Nat.add_right_comm, runFor_succ, runFor_succ, runFor_add a b]

/-- within N steps m comes to a state of which P holds -/
def Goes (N : Nat) (m : M) (P : M → Prop) : Prop := ∃ n, n ≤ N ∧ P (M.runFor n m)

theorem Goes.now {N : Nat} {m : M} {P : M → Prop} (h : P m) : Goes N m P := ⟨0, Nat.zero_le _, h⟩
theorem Goes.step {N : Nat} {m : M} {P : M → Prop} (h : Goes N m.step P) : Goes (N + 1) m P := by
  obtain ⟨n, hn, hp⟩ := h
  exact ⟨n + 1, Nat.succ_le_succ hn, by rw [runFor_succ]; exact hp⟩
theorem Goes.mono {N N' : Nat} {m : M} {P Q : M → Prop} (h : Goes N m P) (hN : N ≤ N') (hPQ : ∀ m', P m' → Q m') : Goes N' m Q := by
  obtain ⟨n, hn, hp⟩ := h
  exact ⟨n, Nat.le_trans hn hN, hPQ _ hp⟩
theorem Goes.le {N N' : Nat} {m : M} {P : M → Prop} (h : Goes N m P) (hN : N ≤ N') : Goes N' m P := h.mono hN fun _ x => x
theorem Goes.bind {N N' : Nat} {m : M} {P Q : M → Prop} (h : Goes N m P) (k : ∀ m', P m' → Goes N' m' Q) : Goes (N + N') m Q := by
  obtain ⟨n, hn, hp⟩ := h
  obtain ⟨n', hn', hq⟩ := k _ hp
  exact ⟨n + n', Nat.add_le_add hn hn', by rw [runFor_add]; exact hq⟩

/-- what no step of ours changes -/
structure St (code t : Array Nat) (m : M) : Prop where
  code : m.code = code
  text : m.text = t
  lim : m.lim = t.size
  whole : m.wholeText = false
  must : m.mustAdvance = false
  out : m.outcome = none

/-- running: no answer stands -/
structure Run (code t : Array Nat) (pc pos : Nat) (m : M) : Prop extends St code t m where
  msz : m.marks.size ≤ 20
  ans : m.answer = none
  pc : m.pc = pc
  pos : m.pos = pos

/-- the machine has come back with a no, and all but the marks is as it was in m -/
structure Back (code t : Array Nat) (m m' : M) : Prop extends St code t m' where
  ans : m'.answer = some false
  frames : m'.frames = m.frames
  weight : m'.weight = m.weight
  loops : m'.loops = m.loops
  inner : m'.inner = m.inner
  marks : m'.marks.size = m.marks.size
  start : m'.start = m.start
  lastStart : m'.lastStart = m.lastStart

theorem Back.of {code t : Array Nat} {m₀ m m' : M} (h : Back code t m m') (h1 : m.frames = m₀.frames) (h2 : m.weight = m₀.weight) (h3 : m.loops = m₀.loops) (h4 : m.inner = m₀.inner) (h5 : m.marks.size = m₀.marks.size) (h6 : m.start = m₀.start) (h7 : m.lastStart = m₀.lastStart) : Back code t m₀ m' :=
  { h with frames := h.frames.trans h1, weight := h.weight.trans h2, loops := h.loops.trans h3, inner := h.inner.trans h4, marks := h.marks.trans h5, start := h.start.trans h6, lastStart := h.lastStart.trans h7 }

abbrev LI := Option Nat → Array Loop → Prop

/-- from pc, pos the machine comes back with a no within N steps -/
def Fails (code t : Array Nat) (I : LI) (B pc pos N : Nat) : Prop :=
  ∀ m : M, Run code t pc pos m → I m.inner m.loops → m.weight ≤ B → Goes N m (Back code t m)

theorem Fails.le {code t : Array Nat} {I : LI} {B B' pc pos N N' : Nat} (h : Fails code t I B pc pos N) (hN : N ≤ N') (hB : B' ≤ B) : Fails code t I B' pc pos N' :=
  fun m r i w => (h m r i (Nat.le_trans w hB)).le hN

theorem step_run {m : M} (ho : m.outcome = none) (ha : m.answer = none) (hp : m.pc < m.code.size) : m.step = m.exec := by
  unfold M.step
  rw [if_neg (by rw [ho]; exact Bool.false_ne_true)]
  split
  · rename_i h _; rw [ha] at h; cases h
  · rename_i h _; rw [ha] at h; cases h
  · rw [if_pos hp]

theorem step_back {m : M} {f : Sre.Frame} {rest : List Sre.Frame} {yes : Bool} (ho : m.outcome = none) (ha : m.answer = some yes) (hf : m.frames = f :: rest) :
    m.step = M.resume { m with answer := none, frames := rest, weight := m.weight - (1 + f.kept.marks.size), pc := f.pc, pos := f.pos, outermost := f.outermost } f yes := by
  unfold M.step
  rw [if_neg (by rw [ho]; exact Bool.false_ne_true)]
  split
  · rename_i h1 h2; rw [hf] at h2; cases h2
  · rename_i h1 h2; rw [ha] at h1; rw [hf] at h2; cases h1; cases h2; rfl
  · rename_i h; rw [ha] at h; cases h

section
variable {code t : Array Nat} {I : LI} {B pc pos N : Nat}

theorem Run.at {m : M} (r : Run code t pc pos m) {w : Nat} {op : Op} (hw : code.getD pc 0 = w) (hop : ops[w]? = some op) : ops[m.word 0]? = some op := by
  unfold M.word
  rw [r.code, r.pc, Nat.add_zero, hw, hop]
theorem Run.lt {m : M} (r : Run code t pc pos m) (h : pc < code.size) : m.pc < m.code.size := by rw [r.code, r.pc]; exact h
theorem Run.word {m : M} (r : Run code t pc pos m) (k : Nat) : m.word k = code.getD (pc + k) 0 := by unfold M.word; rw [r.code, r.pc]

/-- a mark -/
theorem step_mark {m : M} (r : Run code t pc pos m) (hp : pc < code.size) (hw : code.getD pc 0 = 17) : m.step = ({ m with seen := m.seen.add (m.word 0) } : M).mark (m.word 1) := by
  rw [step_run r.out r.ans (r.lt hp)]
  unfold M.exec
  simp only [r.at hw (op := .MARK) rfl]
  rfl

theorem fails_mark (hp : pc < code.size) (hw : code.getD pc 0 = 17) (h : Fails code t I B (pc + 2) pos N) : Fails code t I B pc pos (N + 1) := by
  intro m r i w
  refine Goes.step ?_
  rw [step_mark r hp hw]
  have hs : ∀ (l : List Nat) (a : Array (Option Nat)) (k : Int), (l.foldl (fun (a : Array (Option Nat)) (j : Nat) => if (j : Int) > k then a.setIfInBounds j none else a) a).size = a.size := by
    intro l
    induction l with
    | nil => intro a k; rfl
    | cons x l ih => intro a k; rw [List.foldl_cons, ih]; split <;> simp
  have hz : (M.mark ({ m with seen := m.seen.add (m.word 0) } : M) (m.word 1)).marks.size = m.marks.size := by
    unfold M.mark
    simp only [Array.size_setIfInBounds]
    split
    · rfl
    · rw [hs]
  refine Goes.mono (h _ ⟨⟨r.code, r.text, r.lim, r.whole, r.must, r.out⟩, by rw [hz]; exact r.msz, r.ans, ?_, r.pos⟩ i w) (Nat.le_refl _) fun m' b => b.of rfl rfl rfl rfl hz rfl rfl
  show m.pc + 2 = pc + 2
  rw [r.pc]

/-- a jump -/
theorem step_jump {m : M} (r : Run code t pc pos m) (hp : pc < code.size) (hw : code.getD pc 0 = 15) : m.step = { m with seen := m.seen.add (m.word 0), pc := m.pc + 1 + m.word 1 } := by
  rw [step_run r.out r.ans (r.lt hp)]
  unfold M.exec
  simp only [r.at hw (op := .JUMP) rfl]
  rfl
theorem fails_jump (hp : pc < code.size) (hw : code.getD pc 0 = 15) {pc' : Nat} (hj : pc + 1 + code.getD (pc + 1) 0 = pc') (h : Fails code t I B pc' pos N) : Fails code t I B pc pos (N + 1) := by
  intro m r i w
  refine Goes.step ?_
  rw [step_jump r hp hw]
  refine Goes.mono (h _ ⟨⟨r.code, r.text, r.lim, r.whole, r.must, r.out⟩, r.msz, r.ans, ?_, r.pos⟩ i w) (Nat.le_refl _) fun m' b => b.of rfl rfl rfl rfl rfl rfl rfl
  show m.pc + 1 + m.word 1 = pc'
  rw [r.word, r.pc, hj]

/-- an item that takes one sign: the signs that it takes are those of P -/
def Takes (code : Array Nat) (pc : Nat) (P : Nat → Bool) (ok : Nat → Prop) : Prop := ∀ c, ok c → ∀ seen, ∃ seen', accepts code pc c seen = .ok (P c, seen')

def oneSign : Op → Bool
  | .LITERAL | .IN | .LITERAL_UNI_IGNORE | .IN_UNI_IGNORE => true
  | _ => false

theorem step_one {m : M} {op : Op} {w : Nat} (r : Run code t pc pos m) (hp : pc < code.size) (hw : code.getD pc 0 = w) (hop : ops[w]? = some op) (ho : oneSign op = true) :
    m.step = if pos ≥ t.size then ({ m with seen := m.seen.add (m.word 0) } : M).say false else
      match accepts code pc (t.getD pos 0) (m.seen.add (m.word 0)) with
      | .error why => ({ m with seen := m.seen.add (m.word 0) } : M).stick why
      | .ok (false, seen) => ({ m with seen } : M).say false
      | .ok (true, seen) => { m with seen, pc := m.pc + itemWidth m.code m.pc, pos := m.pos + 1 } := by
  rw [step_run r.out r.ans (r.lt hp)]
  unfold M.exec
  simp only [r.at hw hop]
  cases op <;> first | (cases ho; done) | (simp only [r.code, r.text, r.lim, r.pc, r.pos]; rfl)

theorem fails_one_no {P : Nat → Bool} {ok : Nat → Prop} {op : Op} {w : Nat} (hp : pc < code.size) (hw : code.getD pc 0 = w) (hop : ops[w]? = some op) (ho : oneSign op = true) (T : Takes code pc P ok) (hok : pos < t.size → ok (t.getD pos 0)) (h : pos < t.size → P (t.getD pos 0) = false) :
    Fails code t I B pc pos 1 := by
  intro m r i wt
  refine Goes.step ?_
  rw [step_one r hp hw hop ho]
  by_cases hl : pos ≥ t.size
  · rw [if_pos hl]
    exact Goes.now ⟨⟨r.code, r.text, r.lim, r.whole, r.must, r.out⟩, rfl, rfl, rfl, rfl, rfl, rfl, rfl, rfl⟩
  · rw [if_neg hl]
    obtain ⟨s', e⟩ := T _ (hok (Nat.lt_of_not_le hl)) (m.seen.add (m.word 0))
    rw [e, h (Nat.lt_of_not_le hl)]
    exact Goes.now ⟨⟨r.code, r.text, r.lim, r.whole, r.must, r.out⟩, rfl, rfl, rfl, rfl, rfl, rfl, rfl, rfl⟩

theorem fails_one {P : Nat → Bool} {ok : Nat → Prop} {op : Op} {w : Nat} {pc' : Nat} (hp : pc < code.size) (hw : code.getD pc 0 = w) (hop : ops[w]? = some op) (ho : oneSign op = true) (T : Takes code pc P ok) (hok : pos < t.size → ok (t.getD pos 0)) (hpc : pc + itemWidth code pc = pc')
    (h : pos < t.size → P (t.getD pos 0) = true → Fails code t I B pc' (pos + 1) N) : Fails code t I B pc pos (N + 1) := by
  by_cases hl : pos < t.size
  · cases hP : P (t.getD pos 0) with
    | false => exact (fails_one_no hp hw hop ho T hok fun _ => hP).le (Nat.le_add_left _ _) (Nat.le_refl _)
    | true =>
      intro m r i wt
      refine Goes.step ?_
      rw [step_one r hp hw hop ho, if_neg (Nat.not_le_of_lt hl)]
      obtain ⟨s', e⟩ := T _ (hok hl) (m.seen.add (m.word 0))
      rw [e, hP]
      refine Goes.mono (h hl hP _ ⟨⟨r.code, r.text, r.lim, r.whole, r.must, r.out⟩, r.msz, r.ans, ?_, ?_⟩ i wt) (Nat.le_refl _) fun m' b => b.of rfl rfl rfl rfl rfl rfl rfl
      · show m.pc + itemWidth m.code m.pc = pc'
        rw [r.code, r.pc, hpc]
      · show m.pos + 1 = pos + 1
        rw [r.pos]
  · exact (fails_one_no hp hw hop ho T hok fun x => absurd x hl).le (Nat.le_add_left _ _) (Nat.le_refl _)

/-! ## a run of signs, given back one by one -/
def sumTo (f : Nat → Nat) : Nat → Nat
  | 0 => 0
  | k + 1 => sumTo f k + f k

def cnt (P : Nat → Bool) (t : Array Nat) : (n p : Nat) → Nat
  | 0, _ => 0
  | n + 1, p => if P (t.getD p 0) then 1 + cnt P t n (p + 1) else 0
theorem cnt_le (P : Nat → Bool) (t : Array Nat) : ∀ n p, cnt P t n p ≤ n
  | 0, _ => Nat.le_refl _
  | n + 1, p => by
    unfold cnt
    split
    · have := cnt_le P t n (p + 1); omega
    · omega

theorem run_cnt {P : Nat → Bool} {ok : Nat → Prop} {i : Nat} (T : Takes code i P ok) : ∀ (n p found : Nat) (seen : Seen), (∀ q, p ≤ q → q < p + n → ok (t.getD q 0)) → ∃ seen', PySem.Sre.run code t i n p found seen = .ok (found + cnt P t n p, seen')
  | 0, p, found, seen, _ => ⟨seen, rfl⟩
  | n + 1, p, found, seen, h => by
    obtain ⟨s', e⟩ := T _ (h p (Nat.le_refl _) (by omega)) seen
    unfold PySem.Sre.run cnt
    rw [e]
    cases hP : P (t.getD p 0) with
    | false => exact ⟨s', rfl⟩
    | true =>
      obtain ⟨s'', e''⟩ := run_cnt T n (p + 1) (found + 1) s' fun q h1 h2 => h q (by omega) (by omega)
      refine ⟨s'', ?_⟩
      show PySem.Sre.run code t i n (p + 1) (found + 1) s' = _
      rw [e'', Nat.add_assoc, if_pos rfl]

theorem putBack_size {m : M} {k : Sre.Kept} (h : k.marks.size ≤ m.marks.size) : (m.putBack k).marks.size = m.marks.size := by
  unfold M.putBack
  dsimp only
  split
  · rw [Array.size_append, Array.size_extract]; omega
  · rfl
theorem keep_size (m : M) (b : Bool) : (m.keep b).marks.size ≤ m.marks.size := by
  unfold M.keep
  dsimp only
  split
  · rw [Array.size_extract]; omega
  · exact Nat.zero_le _

def pushed (m : M) (f : Sre.Frame) : M := { m with frames := f :: m.frames, weight := m.weight + 1 + f.kept.marks.size }

theorem attempt_eq {m : M} {f : Sre.Frame} {a b : Nat} {o : Bool} (h : m.weight + 1 + f.kept.marks.size ≤ 16777216) :
    m.attempt f a b o = { pushed m f with pc := a, pos := b, handed := b, outermost := o } := by
  unfold M.attempt
  rw [if_neg (Nat.not_lt.mpr h)]
  rfl

theorem resume_gb_end {m : M} {f : Sre.Frame} (hw : f.wait = .giveBack) (h : f.count - 1 < ((m.word 2 : Nat) : Int)) : m.resume f false = (m.putBack f.kept).say false := by
  unfold M.resume
  rw [hw]
  simp only [h, if_true, Bool.false_eq_true, if_false]
theorem resume_gb_on {m : M} {f : Sre.Frame} (hw : f.wait = .giveBack) (h : ¬ f.count - 1 < ((m.word 2 : Nat) : Int)) : m.resume f false = M.afterRun { m.putBack f.kept with pos := f.pos - 1 } .giveBack (f.count - 1) f.kept := by
  unfold M.resume
  rw [hw]
  simp only [h, Bool.false_eq_true, if_false]

def gbFrame (pc p k : Nat) (o : Bool) (kept : Sre.Kept) : Sre.Frame := { wait := .giveBack, pc, pos := p + k, outermost := o, count := (k : Int), kept }

theorem giveback_no {least next p₀ : Nat} {f : Nat → Nat} {o : Bool} {kept : Sre.Kept} {m₀ : M} (h2 : code.getD (pc + 2) 0 = least) (hn : pc + 1 + code.getD (pc + 1) 0 = next) (hB : B + 21 ≤ 16777216)
    (hi : I m₀.inner m₀.loops) (hw : m₀.weight ≤ B) (hk : kept.marks.size ≤ m₀.marks.size) (hz : m₀.marks.size ≤ 20) :
    ∀ (k : Nat), (∀ j, least ≤ j → j < k → Fails code t I (B + 21) next (p₀ + j) (f j)) → ∀ m, Back code t (pushed m₀ (gbFrame pc p₀ k o kept)) m → Goes (sumTo (fun j => f j + 1) k + 1) m (Back code t m₀) := by
  intro k
  induction k with
  | zero =>
    intro _ m b
    refine Goes.step ?_
    rw [step_back b.out b.ans b.frames]
    rw [resume_gb_end rfl (by show ((0 : Nat) : Int) - 1 < ((_ : Nat) : Int); omega)]
    refine Goes.now ⟨⟨b.code, b.text, b.lim, b.whole, b.must, b.out⟩, rfl, rfl, ?_, b.loops, b.inner, ?_, b.start, b.lastStart⟩
    · show m.weight - _ = _
      rw [b.weight]; show m₀.weight + 1 + kept.marks.size - (1 + kept.marks.size) = _; omega
    · show (M.putBack _ _).marks.size = _
      rw [putBack_size (by show kept.marks.size ≤ m.marks.size; rw [b.marks]; exact hk)]
      exact b.marks
  | succ k ih =>
    intro h m b
    have hwt : m.weight - (1 + kept.marks.size) = m₀.weight := by rw [b.weight]; show m₀.weight + 1 + kept.marks.size - (1 + kept.marks.size) = _; omega
    have hmk : ∀ x : M, x.marks = m.marks → (x.putBack kept).marks.size = m₀.marks.size := fun x e => by
      rw [putBack_size (by rw [e, b.marks]; exact hk), e]; exact b.marks
    by_cases hl : least ≤ k
    · refine Goes.le ?_ (show (f k) + (sumTo (fun j => f j + 1) k + 1) + 1 ≤ _ by show _ ≤ sumTo (fun j => f j + 1) k + (f k + 1) + 1; omega)
      refine Goes.step ?_
      rw [step_back b.out b.ans b.frames]
      rw [resume_gb_on rfl (by
        show ¬ ((k + 1 : Nat) : Int) - 1 < ((m.code.getD (pc + 2) 0 : Nat) : Int)
        rw [b.code, h2]; omega)]
      unfold M.afterRun
      rw [attempt_eq (by show m.weight - (1 + kept.marks.size) + 1 + kept.marks.size ≤ _; rw [hwt]; omega)]
      refine Goes.bind (h k hl (Nat.lt_succ_self _) _ ⟨⟨b.code, b.text, b.lim, b.whole, b.must, b.out⟩, ?_, rfl, ?_, rfl⟩ ?_ ?_) fun m' b' => ih (fun j h1 h2 => h j h1 (Nat.lt_succ_of_lt h2)) m' (b'.of ?_ ?_ ?_ ?_ ?_ ?_ ?_)
      · exact Nat.le_trans (Nat.le_of_eq (hmk _ rfl)) hz
      · show pc + 1 + m.code.getD (pc + 1) 0 = next
        rw [b.code, hn]
      · show I m.inner m.loops
        rw [b.inner, b.loops]; exact hi
      · show m.weight - (1 + kept.marks.size) + 1 + kept.marks.size ≤ _
        rw [hwt]; omega
      · show _ :: m₀.frames = _ :: m₀.frames
        congr 1
        show Sre.Frame.mk .giveBack pc (p₀ + (k + 1) - 1) o (((k + 1 : Nat) : Int) - 1) kept 0 none = Sre.Frame.mk .giveBack pc (p₀ + k) o (k : Int) kept 0 none
        congr 1
        omega
      · show m.weight - (1 + kept.marks.size) + 1 + kept.marks.size = m₀.weight + 1 + kept.marks.size
        rw [hwt]
      · exact b.loops
      · exact b.inner
      · exact hmk _ rfl
      · exact b.start
      · exact b.lastStart
    · refine Goes.le ?_ (show 0 + 1 ≤ _ by omega)
      refine Goes.step ?_
      rw [step_back b.out b.ans b.frames]
      rw [resume_gb_end rfl (by
        show ((k + 1 : Nat) : Int) - 1 < ((m.code.getD (pc + 2) 0 : Nat) : Int)
        rw [b.code, h2]; omega)]
      exact Goes.now ⟨⟨b.code, b.text, b.lim, b.whole, b.must, b.out⟩, rfl, rfl, hwt, b.loops, b.inner, hmk _ rfl, b.start, b.lastStart⟩

/-- the first step of a greedy run -/
theorem step_rep {P : Nat → Bool} {ok : Nat → Prop} {least most : Nat} {m : M} (r : Run code t pc pos m) (hp : pc < code.size) (hw : code.getD pc 0 = 24) (h2 : code.getD (pc + 2) 0 = least) (h3 : code.getD (pc + 3) 0 = most)
    (T : Takes code (pc + 4) P ok) (hok : ∀ q, pos ≤ q → q < t.size → ok (t.getD q 0)) (hl : pos + least ≤ t.size) :
    ∃ seen', m.step = if cnt P t (min most (t.size - pos)) pos < least then ({ m with seen := seen' } : M).say false else
      M.afterRun { m with seen := seen', pos := m.pos + cnt P t (min most (t.size - pos)) pos } .giveBack (cnt P t (min most (t.size - pos)) pos : Nat) (m.keep m.inner.isSome) := by
  have hr : ((m.lim : Int) - m.pos).toNat = t.size - pos := by rw [r.lim, r.pos]; omega
  obtain ⟨s', e⟩ := run_cnt (t := t) T (min most (t.size - pos)) pos 0 ((m.seen.add (m.word 0)).add (m.word 4)) (fun q h1 h2 => hok q h1 (by omega))
  refine ⟨s', ?_⟩
  rw [step_run r.out r.ans (r.lt hp)]
  unfold M.exec
  simp only [r.at hw (op := .REPEAT_ONE) rfl]
  have e2 : m.word 2 = least := by rw [r.word, h2]
  have e3 : m.word 3 = most := by rw [r.word, h3]
  have eg : ∀ (s : Seen) k, M.word { m with seen := s } k = m.word k := fun _ _ => rfl
  simp only [eg, e2, e3]
  rw [if_neg (by show ¬ ((least : Nat) : Int) > (m.lim : Int) - m.pos; rw [r.lim, r.pos]; omega)]
  have e' : PySem.Sre.run m.code m.text (m.pc + 4) (min most ((m.lim : Int) - m.pos).toNat) m.pos 0 ((m.seen.add (m.word 0)).add (m.word 4)) = .ok (cnt P t (min most (t.size - pos)) pos, s') := by
    rw [hr, r.code, r.text, r.pc, r.pos, e, Nat.zero_add]
  simp only [Bool.false_eq_true, if_false]
  rw [e']
  rfl

theorem fails_rep {P : Nat → Bool} {ok : Nat → Prop} {least most next n : Nat} {f : Nat → Nat} (hp : pc < code.size) (hw : code.getD pc 0 = 24) (h2 : code.getD (pc + 2) 0 = least) (h3 : code.getD (pc + 3) 0 = most) (hn : pc + 1 + code.getD (pc + 1) 0 = next)
    (T : Takes code (pc + 4) P ok) (hok : ∀ q, pos ≤ q → q < t.size → ok (t.getD q 0)) (hB : B + 21 ≤ 16777216) (hc : cnt P t (min most (t.size - pos)) pos = n)
    (h : ∀ j, least ≤ j → j ≤ n → Fails code t I (B + 21) next (pos + j) (f j)) : Fails code t I B pc pos (sumTo (fun j => f j + 1) (n + 1) + 1) := by
  intro m r i w
  have hnl : n ≤ t.size - pos := by have := cnt_le P t (min most (t.size - pos)) pos; omega
  by_cases hl : pos + least ≤ t.size
  · obtain ⟨s', e⟩ := step_rep r hp hw h2 h3 T hok hl
    rw [hc] at e
    refine Goes.step ?_
    rw [e]
    by_cases hlt : n < least
    · rw [if_pos hlt]
      exact Goes.now ⟨⟨r.code, r.text, r.lim, r.whole, r.must, r.out⟩, rfl, rfl, rfl, rfl, rfl, rfl, rfl, rfl⟩
    · rw [if_neg hlt]
      have hks := keep_size m m.inner.isSome
      have hms := r.msz
      unfold M.afterRun
      rw [attempt_eq (by show m.weight + 1 + (m.keep m.inner.isSome).marks.size ≤ _; omega)]
      refine Goes.le ?_ (show f n + (sumTo (fun j => f j + 1) n + 1) ≤ _ by show _ ≤ sumTo (fun j => f j + 1) n + (f n + 1); omega)
      refine Goes.bind (h n (Nat.le_of_not_lt hlt) (Nat.le_refl _) _ ⟨⟨r.code, r.text, r.lim, r.whole, r.must, r.out⟩, r.msz, r.ans, ?_, ?_⟩ i ?_) fun m' b =>
        giveback_no (m₀ := m) (o := m.outermost) (kept := m.keep m.inner.isSome) h2 hn hB i w hks r.msz n (fun j h1 h2 => h j h1 (Nat.le_of_lt h2)) m' (b.of ?_ rfl rfl rfl rfl rfl rfl)
      · show m.pc + 1 + m.code.getD (m.pc + 1) 0 = next
        rw [r.code, r.pc, hn]
      · show m.pos + n = pos + n
        rw [r.pos]
      · show m.weight + 1 + (m.keep m.inner.isSome).marks.size ≤ _; omega
      · show Sre.Frame.mk .giveBack m.pc (m.pos + n) m.outermost (n : Int) _ 0 none :: m.frames = _
        rw [r.pc, r.pos]
        rfl
  · refine Goes.step ?_
    rw [step_run r.out r.ans (r.lt hp)]
    unfold M.exec
    simp only [r.at hw (op := .REPEAT_ONE) rfl]
    have e2 : m.word 2 = least := by rw [r.word, h2]
    have eg : ∀ (s : Seen) k, M.word { m with seen := s } k = m.word k := fun _ _ => rfl
    simp only [eg, e2]
    rw [if_pos (by show ((least : Nat) : Int) > (m.lim : Int) - m.pos; rw [r.lim, r.pos]; omega)]
    exact Goes.now ⟨⟨r.code, r.text, r.lim, r.whole, r.must, r.out⟩, rfl, rfl, rfl, rfl, rfl, rfl, rfl, rfl⟩
end
end Mine

end
section
set_option maxRecDepth 100000
namespace Mine
open PySem PySem.Sre

section
variable {code t : Array Nat} {I : LI} {B pc pos N : Nat}

theorem word_seen (m : M) (s : Seen) (k : Nat) : M.word { m with seen := s } k = m.word k := rfl

/-! ## two ways -/
def nbFrame (alt p : Nat) (o : Bool) (kept : Sre.Kept) : Sre.Frame := { wait := .nextBranch, pc := alt, pos := p, outermost := o, kept }

theorem alt_end {m : M} {alt : Nat} {kept : Sre.Kept} (h : m.code.getD alt 0 = 0) : m.alternative alt kept = m.say false := by
  unfold M.alternative
  rw [h]; rfl
theorem alt_go {m : M} {alt : Nat} {kept : Sre.Kept} (h : m.code.getD alt 0 ≠ 0) : m.alternative alt kept = m.attempt (nbFrame alt m.pos m.outermost kept) (alt + 1) m.pos m.outermost := by
  unfold M.alternative
  have : (m.code.getD alt 0 == 0) = false := by simpa using h
  rw [this]; rfl
theorem resume_nb {m : M} {f : Sre.Frame} (hw : f.wait = .nextBranch) : m.resume f false = (m.putBack f.kept).alternative (f.pc + m.code.getD f.pc 0) f.kept := by
  unfold M.resume
  rw [hw]
  simp only [Bool.false_eq_true, if_false]
theorem resume_yes {m : M} {f : Sre.Frame} (hw : f.wait = .nextBranch ∨ f.wait = .giveBack ∨ f.wait = .nextStart) : m.resume f true = m.say true := by
  unfold M.resume
  rcases hw with h | h | h <;> rw [h] <;> rfl

theorem step_branch {m : M} (r : Run code t pc pos m) (hp : pc < code.size) (hw : code.getD pc 0 = 7) : m.step = M.alternative { m with seen := m.seen.add (m.word 0) } (m.pc + 1) (m.keep m.inner.isSome) := by
  rw [step_run r.out r.ans (r.lt hp)]
  unfold M.exec
  simp only [r.at hw (op := .BRANCH) rfl]
  rfl

theorem fails_branch2 {a1 a2 a3 s1 s2 N1 N2 : Nat} (hp : pc < code.size) (hw : code.getD pc 0 = 7) (ha1 : pc + 1 = a1) (hs1 : code.getD a1 0 = s1) (h1 : s1 ≠ 0) (ha2 : a1 + s1 = a2) (hs2 : code.getD a2 0 = s2) (h2 : s2 ≠ 0) (ha3 : a2 + s2 = a3) (h3 : code.getD a3 0 = 0)
    (hB : B + 21 ≤ 16777216) (f1 : Fails code t I (B + 21) (a1 + 1) pos N1) (f2 : Fails code t I (B + 21) (a2 + 1) pos N2) : Fails code t I B pc pos (N1 + N2 + 3) := by
  intro m r i w
  have hks := keep_size m m.inner.isSome
  have hms := r.msz
  subst ha1 hs1 ha2 hs2 ha3
  refine Goes.le ?_ (show N1 + (N2 + 1 + 1) + 1 ≤ _ by omega)
  refine Goes.step ?_
  rw [step_branch r hp hw, alt_go (by show m.code.getD (m.pc + 1) 0 ≠ 0; rw [r.code, r.pc]; exact h1), attempt_eq (by show m.weight + 1 + (m.keep m.inner.isSome).marks.size ≤ _; omega)]
  refine Goes.bind (f1 _ ⟨⟨r.code, r.text, r.lim, r.whole, r.must, r.out⟩, r.msz, r.ans, ?_, r.pos⟩ i ?_) fun m1 b1 => ?_
  · show m.pc + 1 + 1 = pc + 1 + 1
    rw [r.pc]
  · show m.weight + 1 + (m.keep m.inner.isSome).marks.size ≤ _; omega
  have hwt : m1.weight - (1 + (m.keep m.inner.isSome).marks.size) = m.weight := by rw [b1.weight]; show m.weight + 1 + (m.keep m.inner.isSome).marks.size - (1 + (m.keep m.inner.isSome).marks.size) = _; omega
  have hmk : ∀ x : M, x.marks.size = m.marks.size → (x.putBack (m.keep m.inner.isSome)).marks.size = m.marks.size := fun x e => by
    rw [putBack_size (by rw [e]; exact hks), e]
  refine Goes.step ?_
  rw [step_back b1.out b1.ans b1.frames, resume_nb rfl]
  have e1 : m.pc + 1 + m1.code.getD (m.pc + 1) 0 = pc + 1 + code.getD (pc + 1) 0 := by rw [b1.code, r.pc]
  rw [alt_go (by show m1.code.getD (m.pc + 1 + m1.code.getD (m.pc + 1) 0) 0 ≠ 0; rw [e1, b1.code]; exact h2)]
  rw [attempt_eq (by show m1.weight - (1 + (m.keep m.inner.isSome).marks.size) + 1 + (m.keep m.inner.isSome).marks.size ≤ _; rw [hwt]; omega)]
  refine Goes.bind (f2 _ ⟨⟨b1.code, b1.text, b1.lim, b1.whole, b1.must, b1.out⟩, ?_, rfl, ?_, r.pos⟩ ?_ ?_) fun m2 b2 => ?_
  · exact Nat.le_trans (Nat.le_of_eq (hmk _ b1.marks)) r.msz
  · show m.pc + 1 + m1.code.getD (m.pc + 1) 0 + 1 = _
    rw [e1]
  · show I m1.inner m1.loops
    rw [b1.inner, b1.loops]; exact i
  · show m1.weight - (1 + (m.keep m.inner.isSome).marks.size) + 1 + (m.keep m.inner.isSome).marks.size ≤ _; rw [hwt]; omega
  refine Goes.step ?_
  rw [step_back b2.out b2.ans b2.frames, resume_nb rfl]
  have e2 : m.pc + 1 + m1.code.getD (m.pc + 1) 0 + m2.code.getD (m.pc + 1 + m1.code.getD (m.pc + 1) 0) 0 = pc + 1 + code.getD (pc + 1) 0 + code.getD (pc + 1 + code.getD (pc + 1) 0) 0 := by rw [e1, b2.code]
  rw [alt_end (by show m2.code.getD (m.pc + 1 + m1.code.getD (m.pc + 1) 0 + m2.code.getD (m.pc + 1 + m1.code.getD (m.pc + 1) 0) 0) 0 = 0; rw [e2, b2.code]; exact h3)]
  refine Goes.now ⟨⟨b2.code, b2.text, b2.lim, b2.whole, b2.must, b2.out⟩, rfl, rfl, ?_, b2.loops.trans b1.loops, b2.inner.trans b1.inner, ?_, b2.start.trans b1.start, b2.lastStart.trans b1.lastStart⟩
  · show m2.weight - (1 + (m.keep m.inner.isSome).marks.size) = m.weight
    rw [b2.weight]
    show m1.weight - (1 + (m.keep m.inner.isSome).marks.size) + 1 + (m.keep m.inner.isSome).marks.size - (1 + (m.keep m.inner.isSome).marks.size) = _
    rw [hwt]; omega
  · exact hmk _ (b2.marks.trans (hmk _ b1.marks))

/-! ## places -/
theorem step_at {m : M} {k : Nat} {b : Bool} (r : Run code t pc pos m) (hp : pc < code.size) (hw : code.getD pc 0 = 6) (h1 : code.getD (pc + 1) 0 = k) (hb : ∀ x : M, x.pos = pos → x.lim = t.size → x.text = t → x.isAt k = .ok b) :
    m.step = if b then { m with seen := (m.seen.add (m.word 0)).add (43 + m.word 1), pc := m.pc + 2 } else ({ m with seen := (m.seen.add (m.word 0)).add (43 + m.word 1) } : M).say false := by
  rw [step_run r.out r.ans (r.lt hp)]
  unfold M.exec
  simp only [r.at hw (op := .AT) rfl]
  have e : M.isAt { m with seen := m.seen.add (m.word 0) } (m.word 1) = .ok b := by
    have hk : m.word 1 = k := by rw [r.word, h1]
    rw [hk]; exact hb _ r.pos r.lim r.text
  simp only [word_seen]
  rw [e]
theorem isAt_begin {x : M} {p : Nat} (h : x.pos = p) : x.isAt 0 = .ok (p == 0) := by unfold M.isAt; simp only [h]
theorem isAt_end {x : M} {p : Nat} (h : x.pos = p) (hl : x.lim = t.size) (ht : x.text = t) : x.isAt 5 = .ok (p == t.size || (p + 1 == t.size && t.getD p 0 == 10)) := by unfold M.isAt; simp only [h, hl, ht]

theorem fails_begin (hp : pc < code.size) (hw : code.getD pc 0 = 6) (h1 : code.getD (pc + 1) 0 = 0) (h : Fails code t I B (pc + 2) 0 N) : Fails code t I B pc 0 (N + 1) := by
  intro m r i w
  refine Goes.step ?_
  rw [step_at (b := true) r hp hw h1 fun x hx _ _ => by rw [isAt_begin hx]; rfl, if_pos rfl]
  refine Goes.mono (h _ ⟨⟨r.code, r.text, r.lim, r.whole, r.must, r.out⟩, r.msz, r.ans, ?_, r.pos⟩ i w) (Nat.le_refl _) fun m' b => b.of rfl rfl rfl rfl rfl rfl rfl
  show m.pc + 2 = pc + 2
  rw [r.pc]
theorem fails_end (hp : pc < code.size) (hw : code.getD pc 0 = 6) (h1 : code.getD (pc + 1) 0 = 5) (h : (pos == t.size || (pos + 1 == t.size && t.getD pos 0 == 10)) = false) : Fails code t I B pc pos 1 := by
  intro m r i w
  refine Goes.step ?_
  rw [step_at (b := false) r hp hw h1 fun x hx hl ht => by rw [isAt_end hx hl ht, h], if_neg Bool.false_ne_true]
  exact Goes.now ⟨⟨r.code, r.text, r.lim, r.whole, r.must, r.out⟩, rfl, rfl, rfl, rfl, rfl, rfl, rfl, rfl⟩

/-! ## loops -/
def loopFrame (wait : Wait) (pc p i : Nat) (o : Bool) (count : Int) (kept : Sre.Kept) (began : Option Nat) : Sre.Frame := { wait, pc, pos := p, outermost := o, count, kept, loop := i, began }

/-- in a loop that has just been entered -/
def Entered (I : LI) (pc : Nat) : LI := fun inner loops => ∃ in0 ls0, I in0 ls0 ∧ inner = some ls0.size ∧ loops = ls0.push { pc := pc, outer := in0 }

theorem step_repeat {m : M} (r : Run code t pc pos m) (hp : pc < code.size) (hw : code.getD pc 0 = 23) :
    m.step = M.attempt { m with seen := m.seen.add (m.word 0), loops := m.loops.push { pc := m.pc, outer := m.inner }, inner := some m.loops.size }
      (loopFrame .closeLoop m.pc m.pos m.loops.size m.outermost 0 {} none) (m.pc + 1 + m.word 1) m.pos m.outermost := by
  rw [step_run r.out r.ans (r.lt hp)]
  unfold M.exec
  simp only [r.at hw (op := .REPEAT) rfl]
  rfl
theorem resume_close {m : M} {f : Sre.Frame} {yes : Bool} (hw : f.wait = .closeLoop) : m.resume f yes = M.say { m with inner := (m.loopAt f.loop).outer, loops := m.loops.pop } yes := by
  unfold M.resume
  rw [hw]

theorem loopAt_push {m : M} {ls : Array Loop} {l : Loop} (h : m.loops = ls.push l) : m.loopAt ls.size = l := by
  unfold M.loopAt
  rw [h]
  simp [Array.getD]

theorem fails_repeat {u : Nat} (hp : pc < code.size) (hw : code.getD pc 0 = 23) (hu : pc + 1 + code.getD (pc + 1) 0 = u) (hB : B + 1 ≤ 16777216) (h : Fails code t (Entered I pc) (B + 1) u pos N) : Fails code t I B pc pos (N + 2) := by
  intro m r i w
  refine Goes.le ?_ (show N + 1 + 1 ≤ _ by omega)
  refine Goes.step ?_
  rw [step_repeat r hp hw, attempt_eq (by show m.weight + 1 + 0 ≤ _; omega)]
  refine Goes.bind (h _ ⟨⟨r.code, r.text, r.lim, r.whole, r.must, r.out⟩, r.msz, r.ans, ?_, r.pos⟩ ⟨m.inner, m.loops, i, rfl, ?_⟩ ?_) fun m1 b1 => ?_
  · show m.pc + 1 + m.word 1 = u
    rw [r.word, r.pc, hu]
  · show m.loops.push _ = _
    rw [r.pc]
  · show m.weight + 1 + 0 ≤ _; omega
  refine Goes.step ?_
  rw [step_back b1.out b1.ans b1.frames, resume_close rfl]
  have hl : ∀ x : M, x.loops = m1.loops → x.loopAt m.loops.size = { pc := m.pc, outer := m.inner } := fun x e => loopAt_push (e.trans b1.loops)
  refine Goes.now ⟨⟨b1.code, b1.text, b1.lim, b1.whole, b1.must, b1.out⟩, rfl, rfl, ?_, ?_, ?_, b1.marks, b1.start, b1.lastStart⟩
  · show m1.weight - (1 + 0) = m.weight
    rw [b1.weight]; show m.weight + 1 + 0 - (1 + 0) = _; omega
  · show m1.loops.pop = m.loops
    rw [b1.loops]
    exact Array.pop_push
  · exact congrArg Loop.outer (hl _ rfl)

theorem step_until {m : M} (r : Run code t pc pos m) (hp : pc < code.size) (hw : code.getD pc 0 = 18) : m.step = M.until_ { m with seen := m.seen.add (m.word 0), pc := m.pc + 1 } true := by
  rw [step_run r.out r.ans (r.lt hp)]
  unfold M.exec
  simp only [r.at hw (op := .MAX_UNTIL) rfl]

theorem until_more {m : M} {i : Nat} {l : Loop} {most : Nat} (hi : m.inner = some i) (hl : m.loopAt i = l) (h2 : m.code.getD (l.pc + 2) 0 = 0) (h3 : m.code.getD (l.pc + 3) 0 = most) (h0 : 0 ≤ l.count + 1) (hm : l.count + 1 < most ∨ most = maxRepeat) (hb : l.began ≠ some m.pos) :
    m.until_ true = M.attempt (m.setLoop i fun x => { x with count := l.count + 1, began := some m.pos }) (loopFrame .maxMore m.pc m.pos i m.outermost (l.count + 1) (m.keep true) l.began) (l.pc + 4) m.pos m.outermost := by
  unfold M.until_
  rw [hi]
  simp only [hl, h2, h3]
  rw [if_neg (by omega)]
  simp only [Bool.not_true, Bool.false_eq_true, if_false]
  rw [if_pos (by
    have h1 : (decide (l.count + 1 < ((most : Nat) : Int)) || most == maxRepeat) = true := by
      rcases hm with h | h
      · rw [decide_eq_true h]; rfl
      · rw [h]; simp
    have h2 : (l.began != some m.pos) = true := by simpa using hb
    rw [h1, h2]; rfl)]
  unfold M.round
  rw [hl]
  rfl

theorem until_tail {m : M} {i : Nat} {l : Loop} {most : Nat} (hi : m.inner = some i) (hl : m.loopAt i = l) (h2 : m.code.getD (l.pc + 2) 0 = 0) (h3 : m.code.getD (l.pc + 3) 0 = most) (h0 : 0 ≤ l.count + 1) (hm : (¬ l.count + 1 < most ∧ most ≠ maxRepeat) ∨ l.began = some m.pos) :
    m.until_ true = m.afterLoop .maxTail i (l.count + 1) fun _ => false := by
  unfold M.until_
  rw [hi]
  simp only [hl, h2, h3]
  rw [if_neg (by omega)]
  simp only [Bool.not_true, Bool.false_eq_true, if_false]
  rw [if_neg (by
    rcases hm with ⟨h1, h2⟩ | h
    · rw [decide_eq_false h1]; simp [h2]
    · simp [h])]

theorem afterLoop_tail {m : M} {i : Nat} {c : Int} {l : Loop} (hl : m.loopAt i = l) :
    m.afterLoop .maxTail i c (fun _ => false) = M.attempt { m with inner := l.outer } (loopFrame .maxTail m.pc m.pos i m.outermost c (m.keep false) none) m.pc m.pos m.outermost := by
  unfold M.afterLoop
  rw [hl]
  rfl
theorem resume_tail {m : M} {f : Sre.Frame} {yes : Bool} (hw : f.wait = .maxTail) : m.resume f yes = M.say { m with inner := some f.loop } yes := by
  unfold M.resume
  rw [hw]
theorem resume_more_no {m : M} {f : Sre.Frame} (hw : f.wait = .maxMore) : m.resume f false = M.afterLoop (M.setLoop (M.putBack (m.setLoop f.loop fun l => { l with began := f.began }) f.kept) f.loop fun l => { l with count := f.count - 1 }) .maxTail f.loop f.count fun _ => false := by
  unfold M.resume
  rw [hw]
  simp only [Bool.false_eq_true, if_false]
theorem resume_more_yes {m : M} {f : Sre.Frame} (hw : f.wait = .maxMore) : m.resume f true = M.say (m.setLoop f.loop fun l => { l with began := f.began }) true := by
  unfold M.resume
  rw [hw]
  simp only [if_true]

theorem keep_false_size (m : M) : (m.keep false).marks.size = 0 := rfl

theorem loopAt_set {ls : Array Loop} {i : Nat} {f : Loop → Loop} (h : i < ls.size) : ((ls.modify i f).getD i { pc := 0, outer := none }) = f (ls.getD i { pc := 0, outer := none }) := by
  simp [Array.getD, h, Array.getElem_modify]

theorem modify_back {ls : Array Loop} {i : Nat} {f g h : Loop → Loop} (e : ∀ l, ls[i]? = some l → h (g (f l)) = l) : ((ls.modify i f).modify i g).modify i h = ls := by
  apply Array.ext
  · simp
  · intro j h1 h2
    simp only [Array.getElem_modify]
    by_cases hj : i = j
    · subst hj
      simp only [if_true]
      exact e _ (Array.getElem?_eq_getElem h2)
    · simp only [if_neg hj]

/-- the tail behind a loop: no there, no here -/
theorem fails_tail {m : M} {i : Nat} {c : Int} {l : Loop} {u : Nat} {J : LI} (hB : B + 1 ≤ 16777216) (R : St code t m) (hmz : m.marks.size ≤ 20) (ha : m.answer = none) (hp : m.pc = u) (hpos : m.pos = pos) (hi : m.inner = some i) (hl : m.loopAt i = l) (hJ : J l.outer m.loops) (hw : m.weight ≤ B)
    (h : Fails code t J (B + 1) u pos N) : Goes (N + 1) (m.afterLoop .maxTail i c fun _ => false) (Back code t m) := by
  rw [afterLoop_tail hl, attempt_eq (by show m.weight + 1 + 0 ≤ _; omega)]
  refine Goes.bind (h _ ⟨⟨R.code, R.text, R.lim, R.whole, R.must, R.out⟩, hmz, ha, hp, hpos⟩ hJ (by show m.weight + 1 + 0 ≤ _; omega)) fun m1 b1 => ?_
  refine Goes.step ?_
  rw [step_back b1.out b1.ans b1.frames, resume_tail rfl]
  refine Goes.now ⟨⟨b1.code, b1.text, b1.lim, b1.whole, b1.must, b1.out⟩, rfl, rfl, ?_, b1.loops, hi.symm, b1.marks, b1.start, b1.lastStart⟩
  show m1.weight - (1 + 0) = m.weight
  rw [b1.weight]; show m.weight + 1 + 0 - (1 + 0) = _; omega

theorem Fails.of_li {I J : LI} (h : Fails code t I B pc pos N) (hJ : ∀ a b, J a b → I a b) : Fails code t J B pc pos N := fun m r j w => h m r (hJ _ _ j) w

/-- within an optional part, behind its first until -/
def InOpt (I : LI) (pc : Nat) : LI := fun inner loops => ∃ in0 ls0 b, I in0 ls0 ∧ inner = some ls0.size ∧ loops = ls0.push { pc := pc, count := 0, began := b, outer := in0 }

/-- one round of a loop: the body fails, then the tail fails -/
theorem fails_round {m : M} {i : Nat} {l : Loop} {u : Nat} {N1 N2 : Nat} {J1 J2 : LI} (hB : B + 42 ≤ 16777216) (R : St code t m) (hmz : m.marks.size ≤ 20) (ha : m.answer = none) (hp : m.pc = u) (hpos : m.pos = pos) (hi : m.inner = some i) (hl : m.loopAt i = l) (hin : i < m.loops.size)
    (hw : m.weight ≤ B) (hJ1 : J1 (some i) (m.loops.modify i fun x => { x with count := l.count + 1, began := some m.pos })) (hJ2 : J2 l.outer m.loops)
    (h1 : Fails code t J1 (B + 21) (l.pc + 4) pos N1) (h2 : Fails code t J2 (B + 21) u pos N2) :
    Goes (N1 + N2 + 2) (M.attempt (m.setLoop i fun x => { x with count := l.count + 1, began := some m.pos }) (loopFrame .maxMore m.pc m.pos i m.outermost (l.count + 1) (m.keep true) l.began) (l.pc + 4) m.pos m.outermost) (Back code t m) := by
  have hks := keep_size m true
  have hll : m.loops.getD i { pc := 0, outer := none } = l := hl
  have hl? : m.loops[i]? = some l := by
    rw [← hll]; simp [Array.getD, hin]
  rw [attempt_eq (by show m.weight + 1 + (m.keep true).marks.size ≤ _; omega)]
  refine Goes.le ?_ (show N1 + (N2 + 1 + 1) ≤ _ by omega)
  refine Goes.bind (h1 _ ⟨⟨R.code, R.text, R.lim, R.whole, R.must, R.out⟩, hmz, ha, rfl, hpos⟩ ?_ (by show m.weight + 1 + (m.keep true).marks.size ≤ _; omega)) fun m1 b1 => ?_
  · have hJ1' : J1 m.inner (m.loops.modify i fun x => { x with count := l.count + 1, began := some m.pos }) := by rw [hi]; exact hJ1
    exact hJ1'
  refine Goes.step ?_
  rw [step_back b1.out b1.ans b1.frames, resume_more_no rfl]
  have hwt : m1.weight - (1 + (m.keep true).marks.size) = m.weight := by rw [b1.weight]; show m.weight + 1 + (m.keep true).marks.size - (1 + (m.keep true).marks.size) = _; omega
  have hls : (m1.loops.modify i fun x => { x with began := l.began }).modify i (fun x => { x with count := l.count + 1 - 1 }) = m.loops := by
    rw [show m1.loops = m.loops.modify i (fun x => { x with count := l.count + 1, began := some m.pos }) from b1.loops]
    refine modify_back fun x hx => ?_
    rw [hl?] at hx
    cases hx
    show ({ pc := l.pc, count := l.count + 1 - 1, began := l.began, outer := l.outer } : Loop) = l
    rw [Int.add_sub_cancel]
  refine Goes.mono (fails_tail (m := M.setLoop (M.putBack (M.setLoop { m1 with answer := none, frames := m.frames, weight := m1.weight - (1 + (m.keep true).marks.size), pc := m.pc, pos := m.pos, outermost := m.outermost } i fun x => { x with began := l.began }) (m.keep true)) i fun x => { x with count := l.count + 1 - 1 })
    (B := B) (J := J2) (l := l) (by omega) ⟨b1.code, b1.text, b1.lim, b1.whole, b1.must, b1.out⟩ ?_ rfl hp hpos (b1.inner.trans hi) ?_ ?_ ?_ (h2.le (Nat.le_refl _) (by omega))) (Nat.le_refl _) fun m' b => b.of rfl ?_ ?_ b1.inner ?_ b1.start b1.lastStart
  · refine Nat.le_trans (Nat.le_of_eq (putBack_size ?_)) (Nat.le_trans (Nat.le_of_eq b1.marks) hmz)
    exact Nat.le_trans hks (Nat.le_of_eq b1.marks.symm)
  · have e : Array.getD ((m1.loops.modify i fun x => { x with began := l.began }).modify i (fun x => { x with count := l.count + 1 - 1 })) i { pc := 0, outer := none } = l := by rw [hls]; exact hll
    exact e
  · have e : J2 l.outer ((m1.loops.modify i fun x => { x with began := l.began }).modify i (fun x => { x with count := l.count + 1 - 1 })) := by rw [hls]; exact hJ2
    exact e
  · show m1.weight - (1 + (m.keep true).marks.size) ≤ B
    rw [hwt]; exact hw
  · exact hwt
  · exact hls
  · refine (putBack_size ?_).trans b1.marks
    exact Nat.le_trans hks (Nat.le_of_eq b1.marks.symm)

/-- a part that may stand once: REPEAT 0 1 .. MAX_UNTIL -/
theorem fails_opt {u N1 N2 : Nat} (hp : pc < code.size) (hw : code.getD pc 0 = 23) (hu : pc + 1 + code.getD (pc + 1) 0 = u) (hup : u < code.size) (huw : code.getD u 0 = 18) (h2 : code.getD (pc + 2) 0 = 0) (h3 : code.getD (pc + 3) 0 = 1) (hI : ∀ a b l, I a b → I a (b.push l)) (hB : B + 64 ≤ 16777216)
    (hb : Fails code t (InOpt I pc) (B + 22) (pc + 4) pos N1) (hn : Fails code t I (B + 22) (u + 1) pos N2) : Fails code t I B pc pos (N1 + N2 + 5) := by
  refine (fails_repeat (N := N1 + N2 + 3) hp hw hu (by omega) ?_)
  rintro m r ⟨in0, ls0, hi0, hin, hls⟩ w
  refine Goes.step ?_
  rw [step_until r hup huw]
  have hl : ∀ s p, M.loopAt { m with seen := s, pc := p } ls0.size = { pc := pc, outer := in0 } := fun s p => loopAt_push hls
  rw [until_more (m := { m with seen := m.seen.add (m.word 0), pc := m.pc + 1 }) (i := ls0.size) (l := { pc := pc, outer := in0 }) (most := 1) hin (hl _ _) (by show m.code.getD (pc + 2) 0 = 0; rw [r.code]; exact h2) (by show m.code.getD (pc + 3) 0 = 1; rw [r.code]; exact h3) (by show (0 : Int) ≤ -1 + 1; decide) (.inl (by show (-1 : Int) + 1 < ((1 : Nat) : Int); decide)) (by intro h; cases h)]
  refine Goes.mono (fails_round (B := B + 1) (J1 := InOpt I pc) (J2 := I) (u := u + 1) (by omega) ⟨r.code, r.text, r.lim, r.whole, r.must, r.out⟩ r.msz r.ans (by show m.pc + 1 = u + 1; rw [r.pc]) r.pos hin (hl _ _) (by show ls0.size < m.loops.size; rw [hls, Array.size_push]; omega) w ?_ ?_ hb hn) (Nat.le_refl _) fun m' b => b.of rfl rfl rfl rfl rfl rfl rfl
  · refine ⟨in0, ls0, some m.pos, hi0, rfl, ?_⟩
    show m.loops.modify ls0.size _ = _
    rw [hls]
    apply Array.ext
    · simp
    · intro j h1 h2
      simp only [Array.getElem_modify, Array.getElem_push]
      by_cases hj : ls0.size = j
      · subst hj; simp
      · simp only [if_neg hj]
        have : j < ls0.size := by simp at h1; omega
        simp [this]
  · show I in0 m.loops
    rw [hls]; exact hI _ _ _ hi0

/-- behind the body of an optional part: on with the tail -/
theorem fails_until_opt {u : Nat} (hup : u < code.size) (huw : code.getD u 0 = 18) (h2 : code.getD (pc + 2) 0 = 0) (h3 : code.getD (pc + 3) 0 = 1) (hI : ∀ a b l, I a b → I a (b.push l)) (hB : B + 1 ≤ 16777216)
    (hn : Fails code t I (B + 1) (u + 1) pos N) : Fails code t (InOpt I pc) B u pos (N + 2) := by
  rintro m r ⟨in0, ls0, b0, hi0, hin, hls⟩ w
  refine Goes.step ?_
  rw [step_until r hup huw]
  have hl : ∀ s p, M.loopAt { m with seen := s, pc := p } ls0.size = { pc := pc, count := 0, began := b0, outer := in0 } := fun s p => loopAt_push hls
  rw [until_tail (m := { m with seen := m.seen.add (m.word 0), pc := m.pc + 1 }) (i := ls0.size) (l := { pc := pc, count := 0, began := b0, outer := in0 }) (most := 1) hin (hl _ _) (by show m.code.getD (pc + 2) 0 = 0; rw [r.code]; exact h2) (by show m.code.getD (pc + 3) 0 = 1; rw [r.code]; exact h3) (by show (0 : Int) ≤ 0 + 1; decide) (.inl ⟨by show ¬ (0 : Int) + 1 < ((1 : Nat) : Int); decide, by decide⟩)]
  refine Goes.mono (fails_tail (J := I) (l := { pc := pc, count := 0, began := b0, outer := in0 }) (u := u + 1) hB ⟨r.code, r.text, r.lim, r.whole, r.must, r.out⟩ r.msz r.ans (by show m.pc + 1 = u + 1; rw [r.pc]) r.pos hin (hl _ _) ?_ w hn) (Nat.le_refl _) fun m' b => b.of rfl rfl rfl rfl rfl rfl rfl
  show I in0 m.loops
  rw [hls]; exact hI _ _ _ hi0

/-- within the outer loop -/
def InStar (pc : Nat) : LI := fun inner loops => ∃ i c b, 0 ≤ c + 1 ∧ inner = some i ∧ i < loops.size ∧ loops.getD i { pc := 0, outer := none } = { pc := pc, count := c, began := b, outer := none }
theorem InStar.push {pc : Nat} (a : Option Nat) (b : Array Loop) (l : Loop) : InStar pc a b → InStar pc a (b.push l) := by
  rintro ⟨i, c, g, h0, h1, h2, h3⟩
  refine ⟨i, c, g, h0, h1, by rw [Array.size_push]; omega, ?_⟩
  rw [← h3]
  simp [Array.getD, h2, Nat.lt_succ_of_lt h2, Array.getElem_push_lt h2]
def NoLoop : LI := fun inner _ => inner = none

theorem fails_until_star {u N1 N2 : Nat} (hup : u < code.size) (huw : code.getD u 0 = 18) (h2 : code.getD (pc + 2) 0 = 0) (h3 : code.getD (pc + 3) 0 = maxRepeat) (hB : B + 64 ≤ 16777216)
    (hb : Fails code t (InStar pc) (B + 21) (pc + 4) pos N1) (hn : Fails code t NoLoop (B + 21) (u + 1) pos N2) : Fails code t (InStar pc) B u pos (N1 + N2 + 3) := by
  rintro m r ⟨i, c, b0, h0, hin, hlt, hls⟩ w
  refine Goes.step ?_
  rw [step_until r hup huw]
  have hl : ∀ s p, M.loopAt { m with seen := s, pc := p } i = { pc := pc, count := c, began := b0, outer := none } := fun s p => hls
  by_cases hbg : b0 = some pos
  · refine Goes.le ?_ (show N2 + 1 ≤ _ by omega)
    rw [until_tail (m := { m with seen := m.seen.add (m.word 0), pc := m.pc + 1 }) (i := i) (l := { pc := pc, count := c, began := b0, outer := none }) (most := maxRepeat) hin (hl _ _) (by show m.code.getD (pc + 2) 0 = 0; rw [r.code]; exact h2) (by show m.code.getD (pc + 3) 0 = maxRepeat; rw [r.code]; exact h3) h0 (.inr (by show b0 = some m.pos; rw [r.pos]; exact hbg))]
    exact Goes.mono (fails_tail (J := NoLoop) (l := { pc := pc, count := c, began := b0, outer := none }) (u := u + 1) (B := B) (by omega) ⟨r.code, r.text, r.lim, r.whole, r.must, r.out⟩ r.msz r.ans (by show m.pc + 1 = u + 1; rw [r.pc]) r.pos hin (hl _ _) rfl w (hn.le (Nat.le_refl _) (by omega))) (Nat.le_refl _) fun m' b => b.of rfl rfl rfl rfl rfl rfl rfl
  · rw [until_more (m := { m with seen := m.seen.add (m.word 0), pc := m.pc + 1 }) (i := i) (l := { pc := pc, count := c, began := b0, outer := none }) (most := maxRepeat) hin (hl _ _) (by show m.code.getD (pc + 2) 0 = 0; rw [r.code]; exact h2) (by show m.code.getD (pc + 3) 0 = maxRepeat; rw [r.code]; exact h3) h0 (.inr rfl) (by show b0 ≠ some m.pos; rw [r.pos]; exact hbg)]
    refine Goes.mono (fails_round (B := B) (J1 := InStar pc) (J2 := NoLoop) (u := u + 1) (by omega) ⟨r.code, r.text, r.lim, r.whole, r.must, r.out⟩ r.msz r.ans (by show m.pc + 1 = u + 1; rw [r.pc]) r.pos hin (hl _ _) hlt w ?_ rfl hb hn) (Nat.le_refl _) fun m' b => b.of rfl rfl rfl rfl rfl rfl rfl
    refine ⟨i, c + 1, some m.pos, by omega, rfl, by show i < (m.loops.modify i _).size; rw [Array.size_modify]; exact hlt, ?_⟩
    show (m.loops.modify i _).getD i _ = _
    rw [loopAt_set hlt, hls]
end
end Mine

end
section
namespace Mine
/-! ## texts: their signs and weight -/
def okc (c : Nat) : Bool := (decide (c < 128) && c != 58) || c == 1635 || c == 178 || c == 233
def blankc (c : Nat) : Bool := c == 32 || (decide (9 ≤ c) && decide (c ≤ 13)) || (decide (28 ≤ c) && decide (c ≤ 31))
def sepc (c : Nat) : Bool := c == 44 || c == 59 || c == 124
def wtc (c : Nat) : Nat := if blankc c then 1 else if sepc c then 4 else 0
def wtl (l : List Nat) : Nat := (l.map wtc).sum
theorem wtl_append (l r : List Nat) : wtl (l ++ r) = wtl l + wtl r := by simp [wtl]
theorem wtl_le : ∀ l : List Nat, wtl l ≤ 4 * l.length
  | [] => Nat.le_refl _
  | c :: l => by
    have := wtl_le l
    have h : wtc c ≤ 4 := by unfold wtc; split <;> (try split) <;> omega
    show wtc c + wtl l ≤ 4 * (l.length + 1)
    omega
theorem wtl_rep (n c : Nat) : wtl (List.replicate n c) = n * wtc c := by
  induction n with
  | zero => simp [wtl]
  | succ n ih =>
    rw [List.replicate_succ]
    show wtc c + wtl (List.replicate n c) = _
    rw [ih, Nat.succ_mul]; omega
def digc (c : Nat) : Bool := decide (48 ≤ c) && decide (c ≤ 57)
def lowc (c : Nat) : Nat := if 65 ≤ c ∧ c ≤ 90 then c + 32 else c
def letc (c : Nat) : Bool := decide (97 ≤ lowc c) && decide (lowc c ≤ 122)

/-! ## the reader of ten states -/
def nx (q c : Nat) : Option Nat :=
  if digc c && decide (q < 2) then some 1
  else if digc c && (q == 5 || q == 6) then some 6
  else if blankc c && (q == 1 || q == 6 || q == 8) then some (q + 1)
  else if blankc c && (q == 0 || q == 2 || q == 5 || q == 7 || q == 9) then some q
  else if lowc c == 112 && (q == 1 || q == 2) then some 3
  else if lowc c == 101 && q == 3 then some 4
  else if lowc c == 114 && q == 4 then some 5
  else if lowc c == 47 && (q == 1 || q == 2) then some 5
  else if letc c && (q == 5 || q == 6 || q == 7 || q == 8) then some 8
  else if sepc c && decide (8 ≤ q) then some 0
  else none
def accL : Nat → List Nat → Bool
  | q, [] => decide (8 ≤ q)
  | q, c :: l => match nx q c with | some q' => accL q' l | none => false
def acc (t : Array Nat) (q p : Nat) : Bool := accL q (t.toList.drop p)
theorem acc_lt {t : Array Nat} {q p : Nat} (h : p < t.size) : acc t q p = match nx q (t.getD p 0) with | some q' => acc t q' (p + 1) | none => false := by
  unfold acc
  have hl : p < t.toList.length := by simpa using h
  rw [List.drop_eq_getElem_cons hl]
  have e : t.toList[p] = t.getD p 0 := by simp [Array.getD, h]
  rw [e]
  rfl
theorem acc_ge {t : Array Nat} {q p : Nat} (h : t.size ≤ p) : acc t q p = decide (8 ≤ q) := by
  unfold acc
  rw [List.drop_eq_nil_of_le (by simpa using h)]
  rfl
end Mine

end
section
set_option maxRecDepth 100000
namespace Mine
open PySem PySem.Sre

/-! ## which signs an item of the code takes -/
def oks : List Nat := (List.range 128).filter (fun c => c != 58) ++ [1635, 178, 233]
theorem mem_oks {c : Nat} (h : okc c = true) : c ∈ oks := by
  unfold okc at h
  simp only [Bool.or_eq_true, Bool.and_eq_true, decide_eq_true_eq, beq_iff_eq] at h
  unfold oks
  simp only [List.mem_append, List.mem_filter, List.mem_range, List.mem_cons, List.not_mem_nil, or_false]
  rcases h with ((h | h) | h) | h
  · exact .inl h
  · exact .inr (.inl h)
  · exact .inr (.inr (.inl h))
  · exact .inr (.inr (.inr h))
theorem ok_all {p : Nat → Bool} (h : oks.all p = true) {c : Nat} (hc : okc c = true) : p c = true := List.all_eq_true.mp h c (mem_oks hc)

theorem space_ok {c : Nat} (h : okc c = true) : Unicode.isSpace c = blankc c := by
  have := ok_all (p := fun c => Unicode.isSpace c == blankc c) (by decide +kernel) h
  simpa using this
theorem lower_ok {c : Nat} (h : okc c = true) : lowerUni c = lowc c := by
  have := ok_all (p := fun c => lowerUni c == lowc c) (by decide +kernel) h
  simpa using this

section
variable {code : Array Nat} {i : Nat}
abbrev okp (c : Nat) : Prop := okc c = true

theorem takes_lit {k : Nat} (h0 : code.getD i 0 = 16) (h1 : code.getD (i + 1) 0 = k) : Takes code i (fun c => c == k) okp := by
  intro c _ seen
  refine ⟨seen, ?_⟩
  unfold accepts
  simp only [h0, h1]
  rfl
theorem takes_low {k : Nat} (h0 : code.getD i 0 = 40) (h1 : code.getD (i + 1) 0 = k) : Takes code i (fun c => lowc c == k) okp := by
  intro c hc seen
  refine ⟨seen, ?_⟩
  unfold accepts
  simp only [h0, h1, ← lower_ok hc]
  rfl
theorem inSet_end {c fuel : Nat} {b : Bool} {seen : Seen} (h : code.getD i 0 = 0) : inSet code c (fuel + 1) i b seen = .ok (!b, seen.add 0) := by
  unfold inSet
  simp only [Nat.add_zero, h]
  rfl
theorem takes_blank (hs : 2 ≤ code.size) (h0 : code.getD i 0 = 13) (h2 : code.getD (i + 2) 0 = 8) (h3 : code.getD (i + 3) 0 = 12) (h4 : code.getD (i + 4) 0 = 0) : Takes code i blankc okp := by
  intro c hc seen
  obtain ⟨n, hn⟩ : ∃ n, code.size = n + 2 := ⟨code.size - 2, by omega⟩
  have e : accepts code i c seen = inSet code c (n + 2) (i + 2) true seen := by
    unfold accepts
    simp only [h0, hn]
    rfl
  rw [e]
  have e2 : inSet code c (n + 2) (i + 2) true seen = if blankc c then .ok (true, (seen.add 8).add 67) else inSet code c (n + 1) (i + 4) true ((seen.add 8).add 67) := by
    rw [inSet]
    simp only [Nat.add_zero, h2, h3]
    have hcat : category 12 c = .ok (blankc c) := by
      rw [← space_ok hc]
      show (Except.ok (Unicode.isSpace c) : Except String Bool).map (· != ((12 : Nat) % 2 == 1)) = _
      cases Unicode.isSpace c <;> rfl
    show (category 12 c >>= fun b => if b = true then _ else _) = _
    rw [hcat]
    rfl
  rw [e2]
  cases blankc c with
  | true => exact ⟨_, rfl⟩
  | false => exact ⟨_, by rw [if_neg Bool.false_ne_true, inSet_end h4]; rfl⟩
theorem takes_dig (hs : 2 ≤ code.size) (h0 : code.getD i 0 = 13) (h2 : code.getD (i + 2) 0 = 22) (h3 : code.getD (i + 3) 0 = 48) (h4 : code.getD (i + 4) 0 = 57) (h5 : code.getD (i + 5) 0 = 0) : Takes code i digc okp := by
  intro c hc seen
  obtain ⟨n, hn⟩ : ∃ n, code.size = n + 2 := ⟨code.size - 2, by omega⟩
  have e : accepts code i c seen = inSet code c (n + 2) (i + 2) true seen := by
    unfold accepts
    simp only [h0, hn]
    rfl
  rw [e]
  have e2 : inSet code c (n + 2) (i + 2) true seen = if digc c then .ok (true, seen.add 22) else inSet code c (n + 1) (i + 5) true (seen.add 22) := by
    rw [inSet]
    simp only [Nat.add_zero, h2, h3, h4]
    rfl
  rw [e2]
  cases digc c with
  | true => exact ⟨_, rfl⟩
  | false => exact ⟨_, by rw [if_neg Bool.false_ne_true, inSet_end h5]; rfl⟩

/-- the words of [,;|] -/
def sepW : Array Nat := #[9, 0, 134221824, 0, 268435456, 0, 0, 0, 0, 0]
theorem takes_sep (hs : 2 ≤ code.size) (h0 : code.getD i 0 = 13) (h2 : ∀ k, k < 10 → code.getD (i + 2 + k) 0 = sepW.getD k 0) : Takes code i sepc okp := by
  intro c hc seen
  obtain ⟨n, hn⟩ : ∃ n, code.size = n + 2 := ⟨code.size - 2, by omega⟩
  have e : accepts code i c seen = inSet code c (n + 2) (i + 2) true seen := by
    unfold accepts
    simp only [h0, hn]
    rfl
  rw [e]
  have hb : (decide (c < 256) && (sepW.getD (1 + c / 32) 0).testBit (c % 32)) = sepc c := by
    have := ok_all (p := fun c => (decide (c < 256) && (sepW.getD (1 + c / 32) 0).testBit (c % 32)) == sepc c) (by decide +kernel) hc
    simpa using this
  have e0 : code.getD (i + 2) 0 = 9 := h2 0 (by decide)
  have e2 : inSet code c (n + 2) (i + 2) true seen = if sepc c then .ok (true, seen.add 9) else inSet code c (n + 1) (i + 2 + 9) true (seen.add 9) := by
    rw [inSet]
    simp only [Nat.add_zero, e0]
    rw [← hb]
    by_cases hlt : c < 256
    · have e1 : code.getD (i + 2 + (1 + c / 32)) 0 = sepW.getD (1 + c / 32) 0 := h2 _ (by omega)
      simp only [e1]
      rfl
    · simp only [hlt, decide_false, Bool.false_and]
      rfl
  rw [e2]
  cases sepc c with
  | true => exact ⟨_, rfl⟩
  | false => exact ⟨_, by rw [if_neg Bool.false_ne_true, inSet_end (h2 9 (by decide))]; rfl⟩

/-- the words of [a-z], great and small -/
def letW : Array Nat := #[10, 3, 33685760, 33686018, 33686018, 33686018, 33686018, 33686018, 33686018, 33686018, 33686018, 33686018, 33686018, 33686018, 33686018, 33686018, 33686018, 33686018, 33686018, 33686018, 33686018, 33686018, 33686018, 33686018, 33686018, 33686018, 33686018, 33686018, 33686018, 33686018, 33686018, 33686018, 33686018, 33686018, 33686018, 33686018, 33686018, 33686018, 33686018, 33686018, 33686018, 33686018, 33686018, 33686018, 33686018, 33686018, 33686018, 33686018, 33686018, 33686018, 33686018, 33686018, 33686018, 33686018, 33686018, 33686018, 33686018, 33686018, 33686018, 33686018, 33686018, 33686018, 33686018, 33686018, 33686018, 33686018, 0, 0, 0, 134217726, 0, 0, 0, 0, 0, 131072, 0, 2147483648, 0, 0, 0, 0, 0, 0, 0, 0, 0, 0, 0, 0, 0]
def bigB (w : Nat → Nat) (c : Nat) : Bool := decide (c < 0x10000) && (w (66 + ((w (2 + c / 256 / 4) >>> (8 * (c / 256 % 4))) % 256 * 256 + c % 256) / 32)).testBit (c % 32)
theorem takes_let (hs : 2 ≤ code.size) (h0 : code.getD i 0 = 39) (h2 : ∀ k, k < 91 → code.getD (i + 2 + k) 0 = letW.getD k 0) : Takes code i letc okp := by
  intro c hc seen
  obtain ⟨n, hn⟩ : ∃ n, code.size = n + 2 := ⟨code.size - 2, by omega⟩
  have e : accepts code i c seen = inSet code (lowc c) (n + 2) (i + 2) true seen := by
    unfold accepts
    simp only [h0, hn, ← lower_ok hc]
    rfl
  rw [e]
  have hb : (bigB (fun k => letW.getD k 0) (lowc c) == letc c && decide (2 + lowc c / 256 / 4 < 91) && decide (66 + ((letW.getD (2 + lowc c / 256 / 4) 0 >>> (8 * (lowc c / 256 % 4))) % 256 * 256 + lowc c % 256) / 32 < 91)) = true :=
    ok_all (p := fun c => bigB (fun k => letW.getD k 0) (lowc c) == letc c && decide (2 + lowc c / 256 / 4 < 91) && decide (66 + ((letW.getD (2 + lowc c / 256 / 4) 0 >>> (8 * (lowc c / 256 % 4))) % 256 * 256 + lowc c % 256) / 32 < 91)) (by decide +kernel) hc
  simp only [Bool.and_eq_true, beq_iff_eq, decide_eq_true_eq] at hb
  obtain ⟨⟨hb, hl1⟩, hl2⟩ := hb
  have e0 : code.getD (i + 2) 0 = 10 := h2 0 (by decide)
  have e3 : code.getD (i + 2 + 1) 0 = 3 := h2 1 (by decide)
  have e2 : inSet code (lowc c) (n + 2) (i + 2) true seen = if bigB (fun k => code.getD (i + 2 + k) 0) (lowc c) then .ok (true, seen.add 10) else inSet code (lowc c) (n + 1) (i + 2 + 66 + 8 * 3) true (seen.add 10) := by
    rw [inSet]
    simp only [Nat.add_zero, e0, e3]
    rfl
  have e4 : bigB (fun k => code.getD (i + 2 + k) 0) (lowc c) = letc c := by
    rw [← hb]
    unfold bigB
    simp only [h2 _ hl1, h2 _ hl2]
  rw [e2, e4]
  cases letc c with
  | true => exact ⟨_, rfl⟩
  | false => exact ⟨_, by rw [if_neg Bool.false_ne_true, inSet_end (h2 90 (by decide))]; rfl⟩
end
end Mine

end
section
set_option maxRecDepth 100000
namespace Mine
open PySem PySem.Sre

/-! ## the words of one limit -/
def itmT : Array Nat := #[24, 9, 0, 4294967295, 13, 4, 8, 12, 0, 1, 17, 0, 24, 10, 1, 4294967295, 13, 5, 22, 48, 57, 0, 1, 17, 1, 24, 9, 0, 4294967295, 13, 4, 8, 12, 0, 1, 17, 2, 7, 5, 16, 47, 15, 31, 29, 24, 9, 0, 4294967295, 13, 4, 8, 12, 0, 1, 40, 112, 40, 101, 40, 114, 24, 9, 0, 4294967295, 13, 4, 8, 12, 0, 1, 15, 2, 0, 17, 3, 24, 9, 0, 4294967295, 13, 4, 8, 12, 0, 1, 23, 18, 0, 1, 17, 4, 24, 10, 1, 4294967295, 13, 5, 22, 48, 57, 0, 1, 17, 5, 18, 24, 9, 0, 4294967295, 13, 4, 8, 12, 0, 1, 17, 6, 24, 97, 1, 4294967295, 39, 92, 10, 3, 33685760, 33686018, 33686018, 33686018, 33686018, 33686018, 33686018, 33686018, 33686018, 33686018, 33686018, 33686018, 33686018, 33686018, 33686018, 33686018, 33686018, 33686018, 33686018, 33686018, 33686018, 33686018, 33686018, 33686018, 33686018, 33686018, 33686018, 33686018, 33686018, 33686018, 33686018, 33686018, 33686018, 33686018, 33686018, 33686018, 33686018, 33686018, 33686018, 33686018, 33686018, 33686018, 33686018, 33686018, 33686018, 33686018, 33686018, 33686018, 33686018, 33686018, 33686018, 33686018, 33686018, 33686018, 33686018, 33686018, 33686018, 33686018, 33686018, 33686018, 33686018, 33686018, 33686018, 33686018, 0, 0, 0, 134217726, 0, 0, 0, 0, 0, 131072, 0, 2147483648, 0, 0, 0, 0, 0, 0, 0, 0, 0, 0, 0, 0, 0, 1, 17, 7, 24, 9, 0, 4294967295, 13, 4, 8, 12, 0, 1]
def mks : List Nat := [11, 24, 36, 74, 90, 103, 116, 216]
/-- from place o on the code bears a limit, its marks from mk on -/
structure ItemAt (code : Array Nat) (o mk : Nat) : Prop where
  sz : o + 228 ≤ code.size
  w : ∀ k, k < 227 → mks.contains k = false → code.getD (o + k) 0 = itmT.getD k 0
  m : ∀ j, j < 8 → code.getD (o + mks.getD j 0) 0 = mk + j
theorem ItemAt.wd {code : Array Nat} {o mk : Nat} (I : ItemAt code o mk) (k v : Nat) (h : (decide (k < 227) && !mks.contains k && itmT.getD k 0 == v) = true) : code.getD (o + k) 0 = v := by
  simp only [Bool.and_eq_true, Bool.not_eq_true', decide_eq_true_eq, beq_iff_eq] at h
  rw [I.w k h.1.1 h.1.2, h.2]
end Mine

end
section
set_option maxRecDepth 100000
set_option linter.unusedVariables false
namespace Mine
open PySem PySem.Sre

/-! ## the weight of what is left, as a number of ways -/
def G (t : Array Nat) (p : Nat) : Nat := 2 ^ wtl (t.toList.drop p)
theorem G_pos (t : Array Nat) (p : Nat) : 1 ≤ G t p := Nat.one_le_two_pow
theorem drop_wt {t : Array Nat} {p : Nat} (h : p < t.size) : wtl (t.toList.drop p) = wtc (t.getD p 0) + wtl (t.toList.drop (p + 1)) := by
  have hl : p < t.toList.length := by simpa using h
  rw [List.drop_eq_getElem_cons hl]
  have e : t.toList[p] = t.getD p 0 := by simp [Array.getD, h]
  rw [e]
  rfl
theorem G_step {t : Array Nat} {p : Nat} (h : p < t.size) : G t p = 2 ^ wtc (t.getD p 0) * G t (p + 1) := by
  unfold G
  rw [drop_wt h, Nat.pow_add]
theorem G_succ (t : Array Nat) (p : Nat) : G t (p + 1) ≤ G t p := by
  by_cases h : p < t.size
  · rw [G_step h]
    exact Nat.le_mul_of_pos_left _ (Nat.two_pow_pos _)
  · unfold G
    rw [List.drop_eq_nil_of_le (by simp; omega), List.drop_eq_nil_of_le (by simp; omega)]
    exact Nat.le_refl _
theorem G_add (t : Array Nat) (p : Nat) : ∀ n, G t (p + n) ≤ G t p
  | 0 => Nat.le_refl _
  | n + 1 => Nat.le_trans (G_succ t (p + n)) (G_add t p n)
theorem G_blank {t : Array Nat} {p : Nat} (h : p < t.size) (hb : blankc (t.getD p 0) = true) : G t p = 2 * G t (p + 1) := by
  rw [G_step h]
  unfold wtc
  rw [if_pos hb]
theorem G_sep {t : Array Nat} {p : Nat} (h : p < t.size) (hb : sepc (t.getD p 0) = true) : G t p = 16 * G t (p + 1) := by
  rw [G_step h]
  unfold wtc
  have hn : blankc (t.getD p 0) = false := by
    revert hb
    generalize t.getD p 0 = c
    unfold sepc blankc
    simp only [Bool.or_eq_true, beq_iff_eq, Bool.or_eq_false_iff, Bool.and_eq_false_iff, decide_eq_false_iff_not, beq_eq_false_iff_ne]
    omega
  rw [if_neg (by rw [hn]; exact Bool.false_ne_true), if_pos hb]

/-! ## sums over a run -/
theorem sum_const {f : Nat → Nat} {c X : Nat} : ∀ n, (∀ j, j < n → f j ≤ c) → f n ≤ X → sumTo (fun j => f j + 1) (n + 1) ≤ n * (c + 1) + X + 1 := by
  intro n h hX
  have h0 : ∀ k, k ≤ n → sumTo (fun j => f j + 1) k ≤ k * (c + 1) := by
    intro k
    induction k with
    | zero => intro _; exact Nat.zero_le _
    | succ k ih =>
      intro hk
      have h1 := ih (by omega)
      have h2 := h k (by omega)
      show sumTo (fun j => f j + 1) k + (f k + 1) ≤ _
      rw [Nat.succ_mul]; omega
  have := h0 n (Nat.le_refl _)
  show sumTo (fun j => f j + 1) n + (f n + 1) ≤ _
  omega
theorem sum_double {f g : Nat → Nat} {a : Nat} : ∀ n, (∀ j, j < n → g j = 2 * g (j + 1)) → (∀ j, j ≤ n → f j ≤ a * g j) → sumTo (fun j => f j + 1) (n + 1) + a * g n ≤ 2 * a * g 0 + n + 1
  | 0, _, h => by
    have := h 0 (Nat.le_refl _)
    show 0 + (f 0 + 1) + a * g 0 ≤ 2 * a * g 0 + 0 + 1
    rw [Nat.mul_assoc]; omega
  | n + 1, hg, h => by
    have ih := sum_double n (fun j hj => hg j (by omega)) (fun j hj => h j (by omega))
    have h1 := h (n + 1) (Nat.le_refl _)
    have h2 := hg n (by omega)
    rw [h2, show a * (2 * g (n + 1)) = 2 * (a * g (n + 1)) by rw [Nat.mul_left_comm]] at ih
    show sumTo (fun j => f j + 1) (n + 1) + (f (n + 1) + 1) + a * g (n + 1) ≤ _
    omega

/-! ## runs -/
theorem cnt_take {P : Nat → Bool} {t : Array Nat} : ∀ {n p j : Nat}, j < cnt P t n p → P (t.getD (p + j) 0) = true
  | 0, p, j, h => by unfold cnt at h; omega
  | n + 1, p, j, h => by
    unfold cnt at h
    by_cases hp : P (t.getD p 0) = true
    · rw [if_pos hp] at h
      cases j with
      | zero => exact hp
      | succ j =>
        have := cnt_take (P := P) (t := t) (n := n) (p := p + 1) (j := j) (by omega)
        rw [show p + (j + 1) = p + 1 + j by omega]; exact this
    · rw [if_neg hp] at h; omega
theorem cnt_stop {P : Nat → Bool} {t : Array Nat} : ∀ {n p : Nat}, cnt P t n p < n → P (t.getD (p + cnt P t n p) 0) = false
  | 0, p, h => by omega
  | n + 1, p, h => by
    unfold cnt at h ⊢
    by_cases hp : P (t.getD p 0) = true
    · rw [if_pos hp] at h ⊢
      have := cnt_stop (P := P) (t := t) (n := n) (p := p + 1) (by omega)
      rw [show p + (1 + cnt P t n (p + 1)) = p + 1 + cnt P t n (p + 1) by omega]; exact this
    · rw [if_neg hp]
      simpa using hp
/-- how far the signs of P go on from p -/
def rl (P : Nat → Bool) (t : Array Nat) (p : Nat) : Nat := cnt P t (t.size - p) p
theorem rl_le (P : Nat → Bool) (t : Array Nat) (p : Nat) : rl P t p ≤ t.size - p := cnt_le _ _ _ _
theorem rl_take {P : Nat → Bool} {t : Array Nat} {p j : Nat} (h : j < rl P t p) : p + j < t.size ∧ P (t.getD (p + j) 0) = true := ⟨by have := rl_le P t p; omega, cnt_take h⟩
theorem rl_stop {P : Nat → Bool} {t : Array Nat} {p : Nat} (h : p + rl P t p < t.size) : P (t.getD (p + rl P t p) 0) = false := cnt_stop (by show rl P t p < _; omega)
theorem rl_zero {P : Nat → Bool} {t : Array Nat} {p : Nat} (h : p < t.size → P (t.getD p 0) = false) : rl P t p = 0 := by
  cases hr : rl P t p with
  | zero => rfl
  | succ n =>
    have := rl_take (P := P) (t := t) (p := p) (j := 0) (by omega)
    rw [Nat.add_zero] at this
    rw [h this.1] at this
    exact absurd this.2 Bool.false_ne_true

/-! ## the reader's steps, by kinds of signs -/
def nxAll (q : Nat) (P : Nat → Bool) (r : Option Nat) : Bool := oks.all fun c => !P c || nx q c == r
theorem nx_of {q : Nat} {P : Nat → Bool} {r : Option Nat} (h : nxAll q P r = true) {c : Nat} (hc : okc c = true) (hp : P c = true) : nx q c = r := by
  have := ok_all h hc
  rw [hp] at this
  simpa using this
section
variable {t : Array Nat} {p q r : Nat} {P : Nat → Bool}
theorem acc_go (hok : ∀ q, q < t.size → okc (t.getD q 0) = true) (h : nxAll q P (some r) = true) (hp : p < t.size) (hP : P (t.getD p 0) = true) : acc t q p = acc t r (p + 1) := by
  rw [acc_lt hp, nx_of h (hok p hp) hP]
theorem acc_star (hok : ∀ q, q < t.size → okc (t.getD q 0) = true) (h : nxAll q P (some q) = true) : ∀ n, (∀ j, j < n → p + j < t.size ∧ P (t.getD (p + j) 0) = true) → acc t q p = acc t q (p + n)
  | 0, _ => rfl
  | n + 1, hn => by
    rw [acc_star hok h n fun j hj => hn j (by omega), acc_go hok h (hn n (by omega)).1 (hn n (by omega)).2]
    rfl
theorem acc_plus (hok : ∀ q, q < t.size → okc (t.getD q 0) = true) (h1 : nxAll q P (some r) = true) (h2 : nxAll r P (some r) = true) {n : Nat} (hn : ∀ j, j < n → p + j < t.size ∧ P (t.getD (p + j) 0) = true) (h0 : 0 < n) : acc t q p = acc t r (p + n) := by
  have := hn 0 h0
  rw [Nat.add_zero] at this
  rw [acc_go hok h1 this.1 this.2, acc_star hok h2 (p := p + 1) (n - 1) fun j hj => by
    have := hn (j + 1) (by omega)
    rw [show p + 1 + j = p + (j + 1) by omega]; exact this]
  rw [show p + 1 + (n - 1) = p + n by omega]
def nxSub (q r : Nat) : Bool := (decide (8 ≤ r) == decide (8 ≤ q)) && oks.all fun c => match nx r c with | some x => nx q c == some x | none => true
theorem acc_sub (hok : ∀ q, q < t.size → okc (t.getD q 0) = true) (h : nxSub q r = true) (ha : acc t q p = false) : acc t r p = false := by
  unfold nxSub at h
  simp only [Bool.and_eq_true, beq_iff_eq] at h
  by_cases hp : p < t.size
  · rw [acc_lt hp] at ha ⊢
    have := ok_all h.2 (hok p hp)
    cases hx : nx r (t.getD p 0) with
    | none => rfl
    | some x =>
      rw [hx] at this
      simp only [beq_iff_eq] at this
      rw [this] at ha
      exact ha
  · rw [acc_ge (Nat.le_of_not_lt hp)] at ha ⊢
    rw [h.1]; exact ha
theorem acc_75 (hok : ∀ q, q < t.size → okc (t.getD q 0) = true) : ∀ n p, t.size - p = n → acc t 5 p = false → acc t 7 p = false := by
  intro n
  induction n with
  | zero => intro p h _; rw [acc_ge (by omega)]; rfl
  | succ n ih =>
    intro p h ha
    have hp : p < t.size := by omega
    have hc := hok p hp
    have : (match nx 7 (t.getD p 0) with | some 7 => nx 5 (t.getD p 0) == some 5 | some x => nx 5 (t.getD p 0) == some x | none => true) = true :=
      ok_all (p := fun c => match nx 7 c with | some 7 => nx 5 c == some 5 | some x => nx 5 c == some x | none => true) (by decide +kernel) hc
    rw [acc_lt hp] at ha ⊢
    revert this
    split
    · rename_i e
      intro this
      rw [beq_iff_eq.mp this] at ha
      rw [e]
      exact ih (p + 1) (by omega) ha
    · rename_i x _ e
      intro this
      rw [beq_iff_eq.mp this] at ha
      rw [e]
      exact ha
    · rename_i e
      intro _
      rw [e]
end
end Mine

end
section
set_option maxRecDepth 100000
set_option linter.unusedVariables false
namespace Mine
open PySem PySem.Sre

/-- a greedy run in the code -/
structure RepAt (code : Array Nat) (pc : Nat) (P : Nat → Bool) (least next : Nat) : Prop where
  hp : pc < code.size
  hw : code.getD pc 0 = 24
  h2 : code.getD (pc + 2) 0 = least
  h3 : code.getD (pc + 3) 0 = 4294967295
  hn : pc + 1 + code.getD (pc + 1) 0 = next
  T : Takes code (pc + 4) P okp

section
variable {code t : Array Nat} {I : LI} {B pc p least next : Nat} {P : Nat → Bool}

theorem cnt_rl (hs : t.size ≤ 400) : cnt P t (min 4294967295 (t.size - p)) p = rl P t p := by
  unfold rl
  rw [Nat.min_eq_right (by omega)]

theorem fails_runs {f : Nat → Nat} (R : RepAt code pc P least next) (hs : t.size ≤ 400) (hok : ∀ q, q < t.size → okc (t.getD q 0) = true) (hB : B + 21 ≤ 16777216)
    (h : ∀ j, least ≤ j → j ≤ rl P t p → Fails code t I (B + 21) next (p + j) (f j)) : Fails code t I B pc p (sumTo (fun j => f j + 1) (rl P t p + 1) + 1) :=
  fails_rep R.hp R.hw R.h2 R.h3 R.hn R.T (fun q _ hq => hok q hq) hB (cnt_rl hs) h

/-- all but the whole run fails at once -/
theorem fails_full {c X : Nat} (R : RepAt code pc P least next) (hs : t.size ≤ 400) (hok : ∀ q, q < t.size → okc (t.getD q 0) = true) (hB : B + 21 ≤ 16777216)
    (hfull : least ≤ rl P t p → Fails code t I (B + 21) next (p + rl P t p) X) (hpart : ∀ j, least ≤ j → j < rl P t p → Fails code t I (B + 21) next (p + j) c) : Fails code t I B pc p (400 * (c + 1) + X + 2) := by
  refine (fails_runs (f := fun j => if j < rl P t p then c else X) R hs hok hB ?_).le ?_ (Nat.le_refl _)
  · intro j hj hl
    by_cases h : j < rl P t p
    · rw [if_pos h]; exact hpart j hj h
    · rw [if_neg h]
      have : j = rl P t p := by omega
      subst this
      exact hfull hj
  · have h1 := sum_const (f := fun j => if j < rl P t p then c else X) (c := c) (X := X) (rl P t p) (fun j hj => by rw [if_pos hj]; exact Nat.le_refl _) (by rw [if_neg (Nat.lt_irrefl _)]; exact Nat.le_refl _)
    have h2 := rl_le P t p
    have h3 : rl P t p * (c + 1) ≤ 400 * (c + 1) := Nat.mul_le_mul_right _ (by omega)
    omega

theorem G_run {n : Nat} (h : ∀ j, j < n → p + j < t.size ∧ blankc (t.getD (p + j) 0) = true) : n + 1 ≤ G t p := by
  induction n generalizing p with
  | zero => exact G_pos t p
  | succ n ih =>
    have h0 := h 0 (by omega)
    rw [Nat.add_zero] at h0
    have := ih (p := p + 1) fun j hj => by
      have := h (j + 1) (by omega)
      rw [show p + 1 + j = p + (j + 1) by omega]; exact this
    rw [G_blank h0.1 h0.2]
    omega

/-- each part of the run may go on -/
theorem fails_many {a : Nat} (R : RepAt code pc blankc 0 next) (hs : t.size ≤ 400) (hok : ∀ q, q < t.size → okc (t.getD q 0) = true) (hB : B + 21 ≤ 16777216)
    (h : ∀ j, j ≤ rl blankc t p → Fails code t I (B + 21) next (p + j) (a * G t (p + j))) : Fails code t I B pc p ((2 * a + 2) * G t p) := by
  refine (fails_runs (f := fun j => a * G t (p + j)) R hs hok hB fun j _ hl => h j hl).le ?_ (Nat.le_refl _)
  have h1 := sum_double (f := fun j => a * G t (p + j)) (g := fun j => G t (p + j)) (a := a) (rl blankc t p) (fun j hj => by
    have := rl_take hj
    exact G_blank this.1 this.2) (fun j _ => Nat.le_refl _)
  have h2 := G_run (t := t) (p := p) fun j hj => rl_take (P := blankc) hj
  have h3 := G_pos t p
  simp only [Nat.add_zero] at h1
  rw [Nat.add_mul]
  omega

/-- no sign of the run stands there -/
theorem fails_zero {X : Nat} (R : RepAt code pc P 0 next) (hs : t.size ≤ 400) (hok : ∀ q, q < t.size → okc (t.getD q 0) = true) (hB : B + 21 ≤ 16777216) (hz : p < t.size → P (t.getD p 0) = false)
    (h : Fails code t I (B + 21) next p X) : Fails code t I B pc p (X + 2) := by
  have e := rl_zero hz
  refine (fails_runs (f := fun _ => X) R hs hok hB fun j _ hl => ?_).le ?_ (Nat.le_refl _)
  · have : j = 0 := by omega
    subst this
    exact h
  · rw [e]
    show 0 + (X + 1) + 1 ≤ _
    omega
theorem fails_less (R : RepAt code pc P 1 next) (hs : t.size ≤ 400) (hok : ∀ q, q < t.size → okc (t.getD q 0) = true) (hB : B + 21 ≤ 16777216) (hz : p < t.size → P (t.getD p 0) = false) : Fails code t I B pc p 2 := by
  have e := rl_zero hz
  refine (fails_runs (f := fun _ => 0) R hs hok hB fun j h0 hl => ?_).le ?_ (Nat.le_refl _)
  · omega
  · rw [e]
    show 0 + (0 + 1) + 1 ≤ _
    omega
end

/-! ## one limit's code -/
section
variable {code : Array Nat} {o mk : Nat}
theorem ItemAt.rep (I : ItemAt code o mk) (k : Nat) (w : Nat) {P : Nat → Bool} (least : Nat) (h : (decide (k < 227) && !mks.contains k && itmT.getD k 0 == 24) = true) (h1 : (decide (k + 1 < 227) && !mks.contains (k + 1) && itmT.getD (k + 1) 0 == w) = true)
    (h2 : (decide (k + 2 < 227) && !mks.contains (k + 2) && itmT.getD (k + 2) 0 == least) = true) (h3 : (decide (k + 3 < 227) && !mks.contains (k + 3) && itmT.getD (k + 3) 0 == 4294967295) = true) (T : Takes code (o + (k + 4)) P okp) : RepAt code (o + k) P least (o + (k + 1 + w)) where
  hp := by
    have := I.sz
    simp only [Bool.and_eq_true, decide_eq_true_eq] at h
    omega
  hw := I.wd k 24 h
  h2 := I.wd (k + 2) least h2
  h3 := I.wd (k + 3) _ h3
  hn := by rw [show o + k + 1 = o + (k + 1) by omega, I.wd (k + 1) w h1]; omega
  T := T
theorem ItemAt.sz2 (I : ItemAt code o mk) : 2 ≤ code.size := by have := I.sz; omega
theorem ItemAt.tb (I : ItemAt code o mk) (k : Nat) (h0 : (decide (k < 227) && !mks.contains k && itmT.getD k 0 == 13) = true) (h2 : (decide (k + 2 < 227) && !mks.contains (k + 2) && itmT.getD (k + 2) 0 == 8) = true) (h3 : (decide (k + 3 < 227) && !mks.contains (k + 3) && itmT.getD (k + 3) 0 == 12) = true) (h4 : (decide (k + 4 < 227) && !mks.contains (k + 4) && itmT.getD (k + 4) 0 == 0) = true) :
    Takes code (o + k) blankc okp := takes_blank I.sz2 (I.wd k _ h0) (I.wd (k + 2) _ h2) (I.wd (k + 3) _ h3) (I.wd (k + 4) _ h4)
theorem ItemAt.td (I : ItemAt code o mk) (k : Nat) (h0 : (decide (k < 227) && !mks.contains k && itmT.getD k 0 == 13) = true) (h2 : (decide (k + 2 < 227) && !mks.contains (k + 2) && itmT.getD (k + 2) 0 == 22) = true) (h3 : (decide (k + 3 < 227) && !mks.contains (k + 3) && itmT.getD (k + 3) 0 == 48) = true) (h4 : (decide (k + 4 < 227) && !mks.contains (k + 4) && itmT.getD (k + 4) 0 == 57) = true) (h5 : (decide (k + 5 < 227) && !mks.contains (k + 5) && itmT.getD (k + 5) 0 == 0) = true) :
    Takes code (o + k) digc okp := takes_dig I.sz2 (I.wd k _ h0) (I.wd (k + 2) _ h2) (I.wd (k + 3) _ h3) (I.wd (k + 4) _ h4) (I.wd (k + 5) _ h5)
theorem ItemAt.tl (I : ItemAt code o mk) : Takes code (o + 121) letc okp := takes_let I.sz2 (I.wd 121 39 (by decide +kernel)) fun k hk => by
  have hc : ((List.range 91).all fun k => decide (123 + k < 227) && !mks.contains (123 + k) && itmT.getD (123 + k) 0 == letW.getD k 0) = true := by decide +kernel
  have := List.all_eq_true.mp hc k (List.mem_range.mpr hk)
  rw [show o + 121 + 2 + k = o + (123 + k) by omega]
  exact I.wd _ _ this

theorem ItemAt.r0 (I : ItemAt code o mk) : RepAt code (o + 0) blankc 0 (o + 10) := I.rep 0 9 0 (by decide +kernel) (by decide +kernel) (by decide +kernel) (by decide +kernel) (I.tb 4 (by decide +kernel) (by decide +kernel) (by decide +kernel) (by decide +kernel))
theorem ItemAt.r12 (I : ItemAt code o mk) : RepAt code (o + 12) digc 1 (o + 23) := I.rep 12 10 1 (by decide +kernel) (by decide +kernel) (by decide +kernel) (by decide +kernel) (I.td 16 (by decide +kernel) (by decide +kernel) (by decide +kernel) (by decide +kernel) (by decide +kernel))
theorem ItemAt.r25 (I : ItemAt code o mk) : RepAt code (o + 25) blankc 0 (o + 35) := I.rep 25 9 0 (by decide +kernel) (by decide +kernel) (by decide +kernel) (by decide +kernel) (I.tb 29 (by decide +kernel) (by decide +kernel) (by decide +kernel) (by decide +kernel))
theorem ItemAt.r44 (I : ItemAt code o mk) : RepAt code (o + 44) blankc 0 (o + 54) := I.rep 44 9 0 (by decide +kernel) (by decide +kernel) (by decide +kernel) (by decide +kernel) (I.tb 48 (by decide +kernel) (by decide +kernel) (by decide +kernel) (by decide +kernel))
theorem ItemAt.r60 (I : ItemAt code o mk) : RepAt code (o + 60) blankc 0 (o + 70) := I.rep 60 9 0 (by decide +kernel) (by decide +kernel) (by decide +kernel) (by decide +kernel) (I.tb 64 (by decide +kernel) (by decide +kernel) (by decide +kernel) (by decide +kernel))
theorem ItemAt.r75 (I : ItemAt code o mk) : RepAt code (o + 75) blankc 0 (o + 85) := I.rep 75 9 0 (by decide +kernel) (by decide +kernel) (by decide +kernel) (by decide +kernel) (I.tb 79 (by decide +kernel) (by decide +kernel) (by decide +kernel) (by decide +kernel))
theorem ItemAt.r91 (I : ItemAt code o mk) : RepAt code (o + 91) digc 1 (o + 102) := I.rep 91 10 1 (by decide +kernel) (by decide +kernel) (by decide +kernel) (by decide +kernel) (I.td 95 (by decide +kernel) (by decide +kernel) (by decide +kernel) (by decide +kernel) (by decide +kernel))
theorem ItemAt.r105 (I : ItemAt code o mk) : RepAt code (o + 105) blankc 0 (o + 115) := I.rep 105 9 0 (by decide +kernel) (by decide +kernel) (by decide +kernel) (by decide +kernel) (I.tb 109 (by decide +kernel) (by decide +kernel) (by decide +kernel) (by decide +kernel))
theorem ItemAt.r117 (I : ItemAt code o mk) : RepAt code (o + 117) letc 1 (o + 215) := I.rep 117 97 1 (by decide +kernel) (by decide +kernel) (by decide +kernel) (by decide +kernel) I.tl
theorem ItemAt.r217 (I : ItemAt code o mk) : RepAt code (o + 217) blankc 0 (o + 227) := I.rep 217 9 0 (by decide +kernel) (by decide +kernel) (by decide +kernel) (by decide +kernel) (I.tb 221 (by decide +kernel) (by decide +kernel) (by decide +kernel) (by decide +kernel))
theorem ItemAt.lt (I : ItemAt code o mk) (k : Nat) (h : k < 228) : o + k < code.size := by have := I.sz; omega
end
end Mine

end
section
set_option maxRecDepth 100000
set_option linter.unusedVariables false
set_option linter.unusedSectionVars false
namespace Mine
open PySem PySem.Sre

/-! ## one limit that is no limit: the machine comes back -/
section
variable {code t : Array Nat} {I : LI} {o mk Bn A p₀ : Nat}
variable (IA : ItemAt code o mk) (hs : t.size ≤ 400) (hok : ∀ q, q < t.size → okc (t.getD q 0) = true) (hI : ∀ a b l, I a b → I a (b.push l)) (hBn : Bn + 64 ≤ 16777216)
variable (hn : ∀ p, p₀ ≤ p → acc t 9 p = false → Fails code t I Bn (o + 227) p (A * G t p))
variable (hq : ∀ p, p₀ ≤ p → p < t.size → sepc (t.getD p 0) = false → acc t 9 p = false → Fails code t I Bn (o + 227) p 20)
include IA hs hok hBn

theorem one_no {B pc p : Nat} {P : Nat → Bool} {op : Op} {w : Nat} {J : LI} (hp : pc < code.size) (hw : code.getD pc 0 = w) (hop : ops[w]? = some op) (ho : oneSign op = true) (T : Takes code pc P okp) (h : p < t.size → P (t.getD p 0) = false) : Fails code t J B pc p 1 :=
  fails_one_no hp hw hop ho T (fun hl => hok _ hl) h

theorem disj {P Q : Nat → Bool} (h : (oks.all fun c => !P c || !Q c) = true) {q : Nat} (hl : q < t.size) (hP : P (t.getD q 0) = true) : Q (t.getD q 0) = false := by
  have := ok_all (p := fun c => !P c || !Q c) h (hok q hl)
  simp only [hP, Bool.not_true, Bool.false_or, Bool.not_eq_true'] at this
  exact this

include hn hq
theorem p9 {B p : Nat} (hB : B + 21 ≤ Bn) (h0 : p₀ ≤ p) (ha : acc t 9 p = false) : Fails code t I B (o + 217) p ((A + 8800) * G t p) := by
  have h9 : ∀ j, j ≤ rl blankc t p → acc t 9 (p + j) = false := fun j hj => by
    rw [← acc_star (P := blankc) hok (by decide +kernel) j fun k hk => rl_take (by omega)]; exact ha
  refine (fails_full (c := 20) (X := A * G t (p + rl blankc t p)) IA.r217 hs hok (by omega) (fun _ => ?_) (fun j _ hj => ?_)).le ?_ (Nat.le_refl _)
  · exact (hn _ (by omega) (h9 _ (Nat.le_refl _))).le (Nat.le_refl _) (by omega)
  · have := rl_take hj
    exact (hq _ (by omega) this.1 (disj IA hs hok hBn (P := blankc) (by decide +kernel) this.1 this.2) (h9 j (by omega))).le (Nat.le_refl _) (by omega)
  · have h1 := Nat.mul_le_mul_left A (G_add t p (rl blankc t p))
    have h2 := G_pos t p
    rw [Nat.add_mul]; omega
/-- at a letter -/
theorem p9c {B p : Nat} (hB : B + 21 ≤ Bn) (h0 : p₀ ≤ p) (hl : p < t.size) (hlet : letc (t.getD p 0) = true) (ha : acc t 9 p = false) : Fails code t I B (o + 217) p 22 :=
  fails_zero (X := 20) IA.r217 hs hok (by omega) (fun _ => disj IA hs hok hBn (P := letc) (by decide +kernel) hl hlet)
    ((hq _ h0 hl (disj IA hs hok hBn (P := letc) (by decide +kernel) hl hlet) ha).le (Nat.le_refl _) (by omega))

theorem p8 {B p : Nat} (hB : B + 42 ≤ Bn) (h0 : p₀ ≤ p) (ha : acc t 7 p = false) : Fails code t I B (o + 115) p ((A + 18800) * G t p) := by
  have hlen := rl_le letc t p
  have h8 : ∀ j, 0 < j → j ≤ rl letc t p → acc t 9 (p + j) = false := fun j hj0 hj => by
    refine acc_sub hok (q := 8) (by decide +kernel) ?_
    rw [← acc_plus (P := letc) (q := 7) hok (by decide +kernel) (by decide +kernel) (fun k hk => rl_take (by omega)) hj0]; exact ha
  refine (fails_mark (N := 400 * (23 + 1) + ((A + 8800) * G t (p + rl letc t p) + 1) + 2) (IA.lt 115 (by decide)) (IA.wd 115 17 (by decide +kernel)) ?_).le ?_ (Nat.le_refl _)
  · refine fails_full IA.r117 hs hok (by omega) (fun h1 => ?_) (fun j h1 hj => ?_)
    · exact fails_mark (IA.lt 215 (by decide)) (IA.wd 215 17 (by decide +kernel)) (p9 IA hs hok hBn hn hq (by omega) (by omega) (h8 _ (by omega) (Nat.le_refl _)))
    · have := rl_take hj
      exact (fails_mark (IA.lt 215 (by decide)) (IA.wd 215 17 (by decide +kernel)) (p9c IA hs hok hBn hn hq (by omega) (by omega) this.1 this.2 (h8 j (by omega) (by omega)))).le (by omega) (Nat.le_refl _)
  · have h1 := Nat.mul_le_mul_left (A + 8800) (G_add t p (rl letc t p))
    have h2 := G_pos t p
    have e : (A + 18800) * G t p = (A + 8800) * G t p + 10000 * G t p := by rw [← Nat.add_mul]
    rw [e]; omega
omit hn hq in
theorem p8c {B p : Nat} {J : LI} (hB : B + 42 ≤ Bn) (hl : p < t.size → letc (t.getD p 0) = false) : Fails code t J B (o + 115) p 3 :=
  fails_mark (IA.lt 115 (by decide)) (IA.wd 115 17 (by decide +kernel)) (fails_less IA.r117 hs hok (by omega) hl)

theorem p7 {B p : Nat} (hB : B + 63 ≤ Bn) (h0 : p₀ ≤ p) (ha : acc t 7 p = false) : Fails code t I B (o + 105) p ((A + 20800) * G t p) := by
  have h7 : ∀ j, j ≤ rl blankc t p → acc t 7 (p + j) = false := fun j hj => by
    rw [← acc_star (P := blankc) hok (by decide +kernel) j fun k hk => rl_take (by omega)]; exact ha
  refine (fails_full (c := 3) (X := (A + 18800) * G t (p + rl blankc t p)) IA.r105 hs hok (by omega) (fun _ => ?_) (fun j _ hj => ?_)).le ?_ (Nat.le_refl _)
  · exact p8 IA hs hok hBn hn hq (by omega) (by omega) (h7 _ (Nat.le_refl _))
  · have := rl_take hj
    exact p8c IA hs hok hBn (by omega) fun _ => disj IA hs hok hBn (P := blankc) (by decide +kernel) this.1 this.2
  · have h1 := Nat.mul_le_mul_left (A + 18800) (G_add t p (rl blankc t p))
    have h2 := G_pos t p
    have e : (A + 20800) * G t p = (A + 18800) * G t p + 2000 * G t p := by rw [← Nat.add_mul]
    rw [e]; omega
omit hn hq in
/-- at a figure -/
theorem p7c {B p : Nat} {J : LI} (hB : B + 63 ≤ Bn) (hl : p < t.size) (hd : digc (t.getD p 0) = true) : Fails code t J B (o + 105) p 5 :=
  fails_zero (X := 3) IA.r105 hs hok (by omega) (fun _ => disj IA hs hok hBn (P := digc) (by decide +kernel) hl hd)
    (p8c IA hs hok hBn (by omega) fun _ => disj IA hs hok hBn (P := digc) (by decide +kernel) hl hd)

include hI
theorem p6 {B p : Nat} (hB : B + 130 ≤ Bn) (h0 : p₀ ≤ p) (ha : acc t 5 p = false) : Fails code t I B (o + 85) p ((A + 25200) * G t p) := by
  have hG := G_pos t p
  have h75 := acc_75 hok _ p rfl ha
  have opt : ∀ {N1 N2 : Nat}, Fails code t (InOpt I (o + 85)) (B + 22) (o + 89) p N1 → Fails code t I (B + 22) (o + 105) p N2 → Fails code t I B (o + 85) p (N1 + N2 + 5) := fun hb h2 =>
    fails_opt (u := o + 104) (IA.lt 85 (by decide)) (IA.wd 85 23 (by decide +kernel)) (by rw [show o + 85 + 1 = o + 86 by omega, IA.wd 86 18 (by decide +kernel)]) (IA.lt 104 (by decide)) (IA.wd 104 18 (by decide +kernel)) (IA.wd 87 0 (by decide +kernel)) (IA.wd 88 1 (by decide +kernel)) hI (by omega) hb h2
  have untl : ∀ {q N B' : Nat}, B' + 1 ≤ 16777216 → Fails code t I (B' + 1) (o + 105) q N → Fails code t (InOpt I (o + 85)) B' (o + 104) q (N + 2) := fun hb h2 =>
    fails_until_opt (IA.lt 104 (by decide)) (IA.wd 104 18 (by decide +kernel)) (IA.wd 87 0 (by decide +kernel)) (IA.wd 88 1 (by decide +kernel)) hI hb h2
  by_cases hd : p < t.size ∧ digc (t.getD p 0) = true
  · obtain ⟨hl, hd⟩ := hd
    have h6 : ∀ j, 0 < j → j ≤ rl digc t p → acc t 7 (p + j) = false := fun j hj0 hj => by
      refine acc_sub hok (q := 6) (by decide +kernel) ?_
      rw [← acc_plus (P := digc) (q := 5) hok (by decide +kernel) (by decide +kernel) (fun k hk => rl_take (by omega)) hj0]; exact ha
    refine (opt (N1 := 400 * (8 + 1) + ((A + 20800) * G t (p + rl digc t p) + 2 + 1) + 2 + 1) (N2 := 5) ?_ (p7c IA hs hok hBn (by omega) hl hd)).le ?_ (Nat.le_refl _)
    · refine fails_mark (IA.lt 89 (by decide)) (IA.wd 89 17 (by decide +kernel)) (fails_full IA.r91 hs hok (by omega) (fun h1 => ?_) (fun j h1 hj => ?_))
      · exact fails_mark (IA.lt 102 (by decide)) (IA.wd 102 17 (by decide +kernel)) (untl (by omega) (p7 IA hs hok hBn hn hq (by omega) (by omega) (h6 _ (by omega) (Nat.le_refl _))))
      · have := rl_take hj
        exact fails_mark (IA.lt 102 (by decide)) (IA.wd 102 17 (by decide +kernel)) (untl (by omega) (p7c IA hs hok hBn (by omega) this.1 this.2))
    · have h1 := Nat.mul_le_mul_left (A + 20800) (G_add t p (rl digc t p))
      have e : (A + 25200) * G t p = (A + 20800) * G t p + 4400 * G t p := by rw [← Nat.add_mul]
      rw [e]; omega
  · refine (opt (N1 := 3) (N2 := (A + 20800) * G t p) ?_ (p7 IA hs hok hBn hn hq (by omega) h0 h75)).le ?_ (Nat.le_refl _)
    · exact fails_mark (IA.lt 89 (by decide)) (IA.wd 89 17 (by decide +kernel)) (fails_less IA.r91 hs hok (by omega) fun hl => by
        cases hx : digc (t.getD p 0) with
        | false => rfl
        | true => exact absurd ⟨hl, hx⟩ hd)
    · have e : (A + 25200) * G t p = (A + 20800) * G t p + 4400 * G t p := by rw [← Nat.add_mul]
      rw [e]; omega

theorem p5 {B p : Nat} (hB : B + 151 ≤ Bn) (h0 : p₀ ≤ p) (ha : acc t 5 p = false) : Fails code t I B (o + 73) p ((2 * A + 50410) * G t p) := by
  have hG := G_pos t p
  have h5 : ∀ j, j ≤ rl blankc t p → acc t 5 (p + j) = false := fun j hj => by
    rw [← acc_star (P := blankc) hok (by decide +kernel) j fun k hk => rl_take (by omega)]; exact ha
  refine (fails_mark (N := (2 * (A + 25200) + 2) * G t p) (IA.lt 73 (by decide)) (IA.wd 73 17 (by decide +kernel)) (fails_many IA.r75 hs hok (by omega) fun j hj =>
    p6 IA hs hok hI hBn hn hq (by omega) (by omega) (h5 j hj))).le ?_ (Nat.le_refl _)
  have e : (2 * A + 50410) * G t p = (2 * (A + 25200) + 2) * G t p + 8 * G t p := by rw [← Nat.add_mul, show (2 * (A + 25200) + 2) + 8 = (2 * A + 50410) by omega]
  rw [e]; omega

theorem p4 {B p : Nat} (hB : B + 172 ≤ Bn) (h0 : p₀ ≤ p) (ha : acc t 5 p = false) : Fails code t I B (o + 60) p ((4 * A + 100840) * G t p) := by
  have h5 : ∀ j, j ≤ rl blankc t p → acc t 5 (p + j) = false := fun j hj => by
    rw [← acc_star (P := blankc) hok (by decide +kernel) j fun k hk => rl_take (by omega)]; exact ha
  refine (fails_many (a := 2 * A + 50411) IA.r60 hs hok (by omega) fun j hj => ?_).le (Nat.mul_le_mul_right _ (by omega)) (Nat.le_refl _)
  refine (fails_jump (IA.lt 70 (by decide)) (IA.wd 70 15 (by decide +kernel)) (pc' := o + 73) (by rw [show o + 70 + 1 = o + 71 by omega, IA.wd 71 2 (by decide +kernel)]) (p5 IA hs hok hI hBn hn hq (by omega) (by omega) (h5 j hj))).le ?_ (Nat.le_refl _)
  have hG := G_pos t (p + j)
  have e : (2 * A + 50411) * G t (p + j) = (2 * A + 50410) * G t (p + j) + G t (p + j) := by rw [← Nat.succ_mul]
  rw [e]; omega

theorem p3w {B p : Nat} (hB : B + 172 ≤ Bn) (h0 : p₀ ≤ p) (ha : acc t 2 p = false) : Fails code t I B (o + 54) p ((4 * A + 100850) * G t p) := by
  have w1 := IA.wd 54 40 (by decide +kernel)
  have w2 := IA.wd 56 40 (by decide +kernel)
  have w3 := IA.wd 58 40 (by decide +kernel)
  have wid : ∀ {k}, code.getD (o + k) 0 = 40 → itemWidth code (o + k) = 2 := fun h => by unfold itemWidth; rw [h]; rfl
  refine (fails_one (N := (4 * A + 100840) * G t (p + 3) + 2) (op := .LITERAL_UNI_IGNORE) (pc' := o + 56) (IA.lt 54 (by decide)) w1 rfl rfl (takes_low w1 (IA.wd 55 112 (by decide +kernel))) (fun hl => hok _ hl) (by rw [wid w1]) fun hl1 hP1 => ?_).le ?_ (Nat.le_refl _)
  · refine fails_one (N := (4 * A + 100840) * G t (p + 3) + 1) (op := .LITERAL_UNI_IGNORE) (pc' := o + 58) (IA.lt 56 (by decide)) w2 rfl rfl (takes_low w2 (IA.wd 57 101 (by decide +kernel))) (fun hl => hok _ hl) (by rw [wid w2]) fun hl2 hP2 => ?_
    refine fails_one (N := (4 * A + 100840) * G t (p + 3)) (op := .LITERAL_UNI_IGNORE) (pc' := o + 60) (IA.lt 58 (by decide)) w3 rfl rfl (takes_low w3 (IA.wd 59 114 (by decide +kernel))) (fun hl => hok _ hl) (by rw [wid w3]) fun hl3 hP3 => ?_
    refine p4 IA hs hok hI hBn hn hq (by omega) (by omega) ?_
    have e := acc_go (P := fun c => lowc c == 112) (q := 2) (r := 3) hok (by decide +kernel) hl1 hP1
    have e2 := acc_go (P := fun c => lowc c == 101) (q := 3) (r := 4) hok (by decide +kernel) hl2 hP2
    have e3 := acc_go (P := fun c => lowc c == 114) (q := 4) (r := 5) hok (by decide +kernel) hl3 hP3
    show acc t 5 (p + 1 + 1 + 1) = false
    rw [← e3, ← e2, ← e]; exact ha
  · have h1 := Nat.mul_le_mul_left (4 * A + 100840) (G_add t p 3)
    have hG := G_pos t p
    have e : (4 * A + 100850) * G t p = (4 * A + 100840) * G t p + 10 * G t p := by rw [← Nat.add_mul]
    rw [e]; omega
omit hn hq hI in
theorem p3n {B p : Nat} {J : LI} (h : p < t.size → (lowc (t.getD p 0) == 112) = false) : Fails code t J B (o + 54) p 1 :=
  one_no IA hs hok hBn (IA.lt 54 (by decide)) (IA.wd 54 40 (by decide +kernel)) (op := .LITERAL_UNI_IGNORE) rfl rfl (takes_low (IA.wd 54 40 (by decide +kernel)) (IA.wd 55 112 (by decide +kernel))) h
omit hn hq hI in
theorem p3n' {B p : Nat} {J : LI} (hB : B + 21 ≤ Bn) (hl : p < t.size) (hb : blankc (t.getD p 0) = false) (h : (lowc (t.getD p 0) == 112) = false) : Fails code t J B (o + 44) p 3 :=
  fails_zero (X := 1) IA.r44 hs hok (by omega) (fun _ => hb) (p3n IA hs hok hBn fun _ => h)

theorem p3a {B p : Nat} (hB : B + 193 ≤ Bn) (h0 : p₀ ≤ p) (ha : acc t 2 p = false) : Fails code t I B (o + 44) p ((4 * A + 101850) * G t p) := by
  have h2 : ∀ j, j ≤ rl blankc t p → acc t 2 (p + j) = false := fun j hj => by
    rw [← acc_star (P := blankc) hok (by decide +kernel) j fun k hk => rl_take (by omega)]; exact ha
  refine (fails_full (c := 1) (X := (4 * A + 100850) * G t (p + rl blankc t p)) IA.r44 hs hok (by omega) (fun _ => ?_) (fun j _ hj => ?_)).le ?_ (Nat.le_refl _)
  · exact p3w IA hs hok hI hBn hn hq (by omega) (by omega) (h2 _ (Nat.le_refl _))
  · have := rl_take hj
    exact p3n IA hs hok hBn fun _ => disj IA hs hok hBn (P := blankc) (Q := fun c => lowc c == 112) (by decide +kernel) this.1 this.2
  · have h1 := Nat.mul_le_mul_left (4 * A + 100850) (G_add t p (rl blankc t p))
    have hG := G_pos t p
    have e : (4 * A + 101850) * G t p = (4 * A + 100850) * G t p + 1000 * G t p := by rw [← Nat.add_mul]
    rw [e]; omega

omit hn hq hI in
theorem p3s {B p N : Nat} {J : LI} (h : p < t.size → (t.getD p 0 == 47) = true → Fails code t J B (o + 73) (p + 1) N) : Fails code t J B (o + 39) p (N + 2) := by
  have w1 := IA.wd 39 16 (by decide +kernel)
  refine fails_one (N := N + 1) (op := .LITERAL) (pc' := o + 41) (IA.lt 39 (by decide)) w1 rfl rfl (takes_lit w1 (IA.wd 40 47 (by decide +kernel))) (fun hl => hok _ hl) (by unfold itemWidth; rw [w1]; rfl) fun hl hP => ?_
  exact fails_jump (IA.lt 41 (by decide)) (IA.wd 41 15 (by decide +kernel)) (pc' := o + 73) (by rw [show o + 41 + 1 = o + 42 by omega, IA.wd 42 31 (by decide +kernel)]) (h hl hP)
omit hn hq hI in
theorem p3b {B p N1 N2 : Nat} {J : LI} (hB : B + 100 ≤ Bn) (h1 : Fails code t J (B + 21) (o + 39) p N1) (h2 : Fails code t J (B + 21) (o + 44) p N2) : Fails code t J B (o + 37) p (N1 + N2 + 3) :=
  fails_branch2 (a1 := o + 38) (a2 := o + 43) (a3 := o + 72) (IA.lt 37 (by decide)) (IA.wd 37 7 (by decide +kernel)) rfl (IA.wd 38 5 (by decide +kernel)) (by decide) rfl (IA.wd 43 29 (by decide +kernel)) (by decide) rfl (IA.wd 72 0 (by decide +kernel)) (by omega) h1 h2

theorem p3 {B p : Nat} (hB : B + 214 ≤ Bn) (h0 : p₀ ≤ p) (ha : acc t 2 p = false) : Fails code t I B (o + 35) p ((4 * A + 101950) * G t p) := by
  have hG := G_pos t p
  refine (fails_mark (N := (4 * A + 101850) * G t p + 20) (IA.lt 35 (by decide)) (IA.wd 35 17 (by decide +kernel)) ?_).le ?_ (Nat.le_refl _)
  · by_cases hsl : p < t.size ∧ (t.getD p 0 == 47) = true
    · obtain ⟨hl, hsl⟩ := hsl
      refine (p3b IA hs hok hBn (by omega) (p3s IA hs hok hBn (N := (2 * A + 50410) * G t (p + 1)) fun _ _ => ?_) (p3n' IA hs hok hBn (by omega) hl (disj IA hs hok hBn (P := fun c => c == 47) (by decide +kernel) hl hsl) (disj IA hs hok hBn (P := fun c => c == 47) (Q := fun c => lowc c == 112) (by decide +kernel) hl hsl))).le ?_ (Nat.le_refl _)
      · refine p5 IA hs hok hI hBn hn hq (by omega) (by omega) ?_
        rw [← acc_go (P := fun c => c == 47) (q := 2) (r := 5) hok (by decide +kernel) hl hsl]; exact ha
      · have h1 := Nat.mul_le_mul_left (2 * A + 50410) (G_add t p 1)
        have e : (4 * A + 101850) * G t p = (2 * A + 50410) * G t p + (2 * A + 51440) * G t p := by rw [← Nat.add_mul, show (2 * A + 50410) + (2 * A + 51440) = (4 * A + 101850) by omega]
        rw [e]; omega
    · refine (p3b IA hs hok hBn (by omega) (N1 := 1) ?_ (p3a IA hs hok hI hBn hn hq (by omega) h0 ha)).le (by omega) (Nat.le_refl _)
      refine one_no IA hs hok hBn (IA.lt 39 (by decide)) (IA.wd 39 16 (by decide +kernel)) (op := .LITERAL) rfl rfl (takes_lit (IA.wd 39 16 (by decide +kernel)) (IA.wd 40 47 (by decide +kernel))) fun hl => ?_
      cases hx : t.getD p 0 == 47 with
      | false => rfl
      | true => exact absurd ⟨hl, hx⟩ hsl
  · have e : (4 * A + 101950) * G t p = (4 * A + 101850) * G t p + 100 * G t p := by rw [← Nat.add_mul]
    rw [e]; omega
omit hn hq hI in
/-- at a figure -/
theorem p3c {B p : Nat} {J : LI} (hB : B + 214 ≤ Bn) (hl : p < t.size) (hd : digc (t.getD p 0) = true) : Fails code t J B (o + 35) p 8 := by
  refine fails_mark (IA.lt 35 (by decide)) (IA.wd 35 17 (by decide +kernel)) (p3b IA hs hok hBn (by omega) (N1 := 1) ?_ (p3n' IA hs hok hBn (by omega) hl (disj IA hs hok hBn (P := digc) (by decide +kernel) hl hd) (disj IA hs hok hBn (P := digc) (Q := fun c => lowc c == 112) (by decide +kernel) hl hd)))
  exact one_no IA hs hok hBn (IA.lt 39 (by decide)) (IA.wd 39 16 (by decide +kernel)) (op := .LITERAL) rfl rfl (takes_lit (IA.wd 39 16 (by decide +kernel)) (IA.wd 40 47 (by decide +kernel))) fun hl => disj IA hs hok hBn (P := digc) (Q := fun c => c == 47) (by decide +kernel) hl hd

theorem p2 {B p : Nat} (hB : B + 235 ≤ Bn) (h0 : p₀ ≤ p) (ha : acc t 1 p = false) : Fails code t I B (o + 23) p ((8 * A + 203910) * G t p) := by
  have hG := G_pos t p
  have h2 : ∀ j, j ≤ rl blankc t p → acc t 2 (p + j) = false := fun j hj => by
    rw [← acc_star (P := blankc) hok (by decide +kernel) j fun k hk => rl_take (by omega)]
    exact acc_sub hok (q := 1) (by decide +kernel) ha
  refine (fails_mark (N := (2 * (4 * A + 101950) + 2) * G t p) (IA.lt 23 (by decide)) (IA.wd 23 17 (by decide +kernel)) (fails_many IA.r25 hs hok (by omega) fun j hj =>
    p3 IA hs hok hI hBn hn hq (by omega) (by omega) (h2 j hj))).le ?_ (Nat.le_refl _)
  have e : (8 * A + 203910) * G t p = (2 * (4 * A + 101950) + 2) * G t p + 8 * G t p := by rw [← Nat.add_mul, show (2 * (4 * A + 101950) + 2) + 8 = (8 * A + 203910) by omega]
  rw [e]; omega
omit hn hq hI in
theorem p2c {B p : Nat} {J : LI} (hB : B + 235 ≤ Bn) (hl : p < t.size) (hd : digc (t.getD p 0) = true) : Fails code t J B (o + 23) p 11 :=
  fails_mark (IA.lt 23 (by decide)) (IA.wd 23 17 (by decide +kernel)) (fails_zero (X := 8) IA.r25 hs hok (by omega) (fun _ => disj IA hs hok hBn (P := digc) (by decide +kernel) hl hd) (p3c IA hs hok hBn (by omega) hl hd))

theorem p1 {B p : Nat} (hB : B + 256 ≤ Bn) (h0 : p₀ ≤ p) (ha : acc t 0 p = false) : Fails code t I B (o + 10) p ((8 * A + 208910) * G t p) := by
  have h1 : ∀ j, 0 < j → j ≤ rl digc t p → acc t 1 (p + j) = false := fun j hj0 hj => by
    rw [← acc_plus (P := digc) (q := 0) hok (by decide +kernel) (by decide +kernel) (fun k hk => rl_take (by omega)) hj0]; exact ha
  refine (fails_mark (N := 400 * (11 + 1) + (8 * A + 203910) * G t (p + rl digc t p) + 2) (IA.lt 10 (by decide)) (IA.wd 10 17 (by decide +kernel)) (fails_full IA.r12 hs hok (by omega) (fun h => ?_) (fun j h hj => ?_))).le ?_ (Nat.le_refl _)
  · exact p2 IA hs hok hI hBn hn hq (by omega) (by omega) (h1 _ (by omega) (Nat.le_refl _))
  · have := rl_take hj
    exact p2c IA hs hok hBn (by omega) this.1 this.2
  · have h1 := Nat.mul_le_mul_left (8 * A + 203910) (G_add t p (rl digc t p))
    have hG := G_pos t p
    have e : (8 * A + 208910) * G t p = (8 * A + 203910) * G t p + 5000 * G t p := by rw [← Nat.add_mul]
    rw [e]; omega
omit hn hq hI in
theorem p1c {B p : Nat} {J : LI} (hB : B + 256 ≤ Bn) (hd : p < t.size → digc (t.getD p 0) = false) : Fails code t J B (o + 10) p 3 :=
  fails_mark (IA.lt 10 (by decide)) (IA.wd 10 17 (by decide +kernel)) (fails_less IA.r12 hs hok (by omega) hd)

/-- from the reader's first state on there is no limit: the machine comes back -/
theorem p0 {B p : Nat} (hB : B + 277 ≤ Bn) (h0 : p₀ ≤ p) (ha : acc t 0 p = false) : Fails code t I B o p ((8 * A + 210910) * G t p) := by
  have h7 : ∀ j, j ≤ rl blankc t p → acc t 0 (p + j) = false := fun j hj => by
    rw [← acc_star (P := blankc) hok (by decide +kernel) j fun k hk => rl_take (by omega)]; exact ha
  refine (fails_full (c := 3) (X := (8 * A + 208910) * G t (p + rl blankc t p)) IA.r0 hs hok (by omega) (fun _ => ?_) (fun j _ hj => ?_)).le ?_ (Nat.le_refl _)
  · exact p1 IA hs hok hI hBn hn hq (by omega) (by omega) (h7 _ (Nat.le_refl _))
  · have := rl_take hj
    exact p1c IA hs hok hBn (by omega) fun _ => disj IA hs hok hBn (P := blankc) (by decide +kernel) this.1 this.2
  · have h1 := Nat.mul_le_mul_left (8 * A + 208910) (G_add t p (rl blankc t p))
    have hG := G_pos t p
    have e : (8 * A + 210910) * G t p = (8 * A + 208910) * G t p + 2000 * G t p := by rw [← Nat.add_mul]
    rw [e]; omega
end
end Mine

end
section
set_option maxRecDepth 100000
set_option linter.unusedVariables false
set_option linter.unusedSectionVars false
namespace Mine
open PySem PySem.Sre

/-! ## the three codes -/
def singC : Array Nat := #[14, 4, 0, 3, 4294967295, 24, 9, 0, 4294967295, 13, 4, 8, 12, 0, 1, 17, 0, 24, 10, 1, 4294967295, 13, 5, 22, 48, 57, 0, 1, 17, 1, 24, 9, 0, 4294967295, 13, 4, 8, 12, 0, 1, 17, 2, 7, 5, 16, 47, 15, 31, 29, 24, 9, 0, 4294967295, 13, 4, 8, 12, 0, 1, 40, 112, 40, 101, 40, 114, 24, 9, 0, 4294967295, 13, 4, 8, 12, 0, 1, 15, 2, 0, 17, 3, 24, 9, 0, 4294967295, 13, 4, 8, 12, 0, 1, 23, 18, 0, 1, 17, 4, 24, 10, 1, 4294967295, 13, 5, 22, 48, 57, 0, 1, 17, 5, 18, 24, 9, 0, 4294967295, 13, 4, 8, 12, 0, 1, 17, 6, 24, 97, 1, 4294967295, 39, 92, 10, 3, 33685760, 33686018, 33686018, 33686018, 33686018, 33686018, 33686018, 33686018, 33686018, 33686018, 33686018, 33686018, 33686018, 33686018, 33686018, 33686018, 33686018, 33686018, 33686018, 33686018, 33686018, 33686018, 33686018, 33686018, 33686018, 33686018, 33686018, 33686018, 33686018, 33686018, 33686018, 33686018, 33686018, 33686018, 33686018, 33686018, 33686018, 33686018, 33686018, 33686018, 33686018, 33686018, 33686018, 33686018, 33686018, 33686018, 33686018, 33686018, 33686018, 33686018, 33686018, 33686018, 33686018, 33686018, 33686018, 33686018, 33686018, 33686018, 33686018, 33686018, 33686018, 33686018, 33686018, 33686018, 0, 0, 0, 134217726, 0, 0, 0, 0, 0, 131072, 0, 2147483648, 0, 0, 0, 0, 0, 0, 0, 0, 0, 0, 0, 0, 0, 1, 17, 7, 24, 9, 0, 4294967295, 13, 4, 8, 12, 0, 1, 1]
def exprC : Array Nat := #[14, 4, 0, 3, 4294967295, 6, 0, 24, 9, 0, 4294967295, 13, 4, 8, 12, 0, 1, 17, 0, 24, 10, 1, 4294967295, 13, 5, 22, 48, 57, 0, 1, 17, 1, 24, 9, 0, 4294967295, 13, 4, 8, 12, 0, 1, 17, 2, 7, 5, 16, 47, 15, 31, 29, 24, 9, 0, 4294967295, 13, 4, 8, 12, 0, 1, 40, 112, 40, 101, 40, 114, 24, 9, 0, 4294967295, 13, 4, 8, 12, 0, 1, 15, 2, 0, 17, 3, 24, 9, 0, 4294967295, 13, 4, 8, 12, 0, 1, 23, 18, 0, 1, 17, 4, 24, 10, 1, 4294967295, 13, 5, 22, 48, 57, 0, 1, 17, 5, 18, 24, 9, 0, 4294967295, 13, 4, 8, 12, 0, 1, 17, 6, 24, 97, 1, 4294967295, 39, 92, 10, 3, 33685760, 33686018, 33686018, 33686018, 33686018, 33686018, 33686018, 33686018, 33686018, 33686018, 33686018, 33686018, 33686018, 33686018, 33686018, 33686018, 33686018, 33686018, 33686018, 33686018, 33686018, 33686018, 33686018, 33686018, 33686018, 33686018, 33686018, 33686018, 33686018, 33686018, 33686018, 33686018, 33686018, 33686018, 33686018, 33686018, 33686018, 33686018, 33686018, 33686018, 33686018, 33686018, 33686018, 33686018, 33686018, 33686018, 33686018, 33686018, 33686018, 33686018, 33686018, 33686018, 33686018, 33686018, 33686018, 33686018, 33686018, 33686018, 33686018, 33686018, 33686018, 33686018, 33686018, 33686018, 0, 0, 0, 134217726, 0, 0, 0, 0, 0, 131072, 0, 2147483648, 0, 0, 0, 0, 0, 0, 0, 0, 0, 0, 0, 0, 0, 1, 17, 7, 24, 9, 0, 4294967295, 13, 4, 8, 12, 0, 1, 23, 258, 0, 4294967295, 17, 8, 24, 6, 0, 1, 16, 58, 1, 24, 16, 1, 1, 13, 11, 9, 0, 134221824, 0, 268435456, 0, 0, 0, 0, 0, 1, 24, 9, 0, 4294967295, 13, 4, 8, 12, 0, 1, 17, 10, 24, 10, 1, 4294967295, 13, 5, 22, 48, 57, 0, 1, 17, 11, 24, 9, 0, 4294967295, 13, 4, 8, 12, 0, 1, 17, 12, 7, 5, 16, 47, 15, 31, 29, 24, 9, 0, 4294967295, 13, 4, 8, 12, 0, 1, 40, 112, 40, 101, 40, 114, 24, 9, 0, 4294967295, 13, 4, 8, 12, 0, 1, 15, 2, 0, 17, 13, 24, 9, 0, 4294967295, 13, 4, 8, 12, 0, 1, 23, 18, 0, 1, 17, 14, 24, 10, 1, 4294967295, 13, 5, 22, 48, 57, 0, 1, 17, 15, 18, 24, 9, 0, 4294967295, 13, 4, 8, 12, 0, 1, 17, 16, 24, 97, 1, 4294967295, 39, 92, 10, 3, 33685760, 33686018, 33686018, 33686018, 33686018, 33686018, 33686018, 33686018, 33686018, 33686018, 33686018, 33686018, 33686018, 33686018, 33686018, 33686018, 33686018, 33686018, 33686018, 33686018, 33686018, 33686018, 33686018, 33686018, 33686018, 33686018, 33686018, 33686018, 33686018, 33686018, 33686018, 33686018, 33686018, 33686018, 33686018, 33686018, 33686018, 33686018, 33686018, 33686018, 33686018, 33686018, 33686018, 33686018, 33686018, 33686018, 33686018, 33686018, 33686018, 33686018, 33686018, 33686018, 33686018, 33686018, 33686018, 33686018, 33686018, 33686018, 33686018, 33686018, 33686018, 33686018, 33686018, 33686018, 0, 0, 0, 134217726, 0, 0, 0, 0, 0, 131072, 0, 2147483648, 0, 0, 0, 0, 0, 0, 0, 0, 0, 0, 0, 0, 0, 1, 17, 17, 24, 9, 0, 4294967295, 13, 4, 8, 12, 0, 1, 17, 9, 18, 6, 5, 1]
def sepsC : Array Nat := #[14, 4, 0, 1, 1, 24, 16, 1, 1, 13, 11, 9, 0, 134221824, 0, 268435456, 0, 0, 0, 0, 0, 1, 1]
def itemB (code : Array Nat) (o mk : Nat) : Bool := decide (o + 228 ≤ code.size) && ((List.range 227).all fun k => mks.contains k || code.getD (o + k) 0 == itmT.getD k 0) && (List.range 8).all fun j => code.getD (o + mks.getD j 0) 0 == mk + j
theorem ItemAt.of {code : Array Nat} {o mk : Nat} (h : itemB code o mk = true) : ItemAt code o mk := by
  unfold itemB at h
  simp only [Bool.and_eq_true, decide_eq_true_eq, List.all_eq_true, Bool.or_eq_true, beq_iff_eq] at h
  refine ⟨h.1.1, fun k hk hm => ?_, fun j hj => h.2 j (List.mem_range.mpr hj)⟩
  rcases h.1.2 k (List.mem_range.mpr hk) with x | x
  · rw [hm] at x; cases x
  · exact x
theorem sing_item : ItemAt singC 5 0 := .of (by decide +kernel)
theorem expr_item1 : ItemAt exprC 7 0 := .of (by decide +kernel)
theorem expr_item2 : ItemAt exprC 264 10 := .of (by decide +kernel)
theorem expr_size : exprC.size = 497 := by decide +kernel

/-! ## no text of limits: the machine comes back -/
section
variable {t : Array Nat} (hs : t.size ≤ 400) (hok : ∀ q, q < t.size → okc (t.getD q 0) = true)
include hok
theorem end_no {p B : Nat} (ha : acc t 9 p = false) {J : LI} (hp : p ≤ t.size) : Fails exprC t J B 494 p 1 := by
  refine fails_end (by decide +kernel) (by decide +kernel) (by decide +kernel) ?_
  rw [Bool.or_eq_false_iff]
  have h1 : p < t.size := by
    rcases Nat.lt_or_ge p t.size with h | h
    · exact h
    · rw [acc_ge h] at ha; exact absurd ha (by decide)
  refine ⟨by simp; omega, ?_⟩
  cases hx : (p + 1 == t.size && t.getD p 0 == 10) with
  | false => rfl
  | true =>
    simp only [Bool.and_eq_true, beq_iff_eq] at hx
    rw [acc_lt h1, hx.2] at ha
    have : nx 9 10 = some 9 := by decide
    rw [this] at ha
    have ha' : acc t 9 (p + 1) = false := ha
    rw [acc_ge (by omega)] at ha'
    exact absurd ha' (by decide)
theorem no_colon {p : Nat} : rl (fun c => c == 58) t p = 0 := rl_zero fun h => by
  have := ok_all (p := fun c => !(c == 58)) (by decide +kernel) (hok p h)
  simpa using this
theorem takes_colon : Takes exprC 244 (fun c => c == 58) okp := takes_lit (by decide +kernel) (by decide +kernel)
theorem takes_sep251 : Takes exprC 251 sepc okp := takes_sep (by decide +kernel) (by decide +kernel) fun k hk => by
  have : ((List.range 10).all fun k => exprC.getD (251 + 2 + k) 0 == sepW.getD k 0) = true := by decide +kernel
  simpa using List.all_eq_true.mp this k (List.mem_range.mpr hk)
theorem cnt_zero {P : Nat → Bool} {p n : Nat} (h : p < t.size → P (t.getD p 0) = false) (hn : n ≤ t.size - p) : cnt P t n p = 0 := by
  cases n with
  | zero => rfl
  | succ n =>
    unfold cnt
    rw [h (by omega)]
    rfl

/-- the round's body: no sign of the three stands there -/
theorem body_no {p B : Nat} {J : LI} (hB : B + 100 ≤ 16777216) (hp : p < t.size → sepc (t.getD p 0) = false) : Fails exprC t J B 238 p 5 := by
  refine fails_mark (N := 4) (by decide +kernel) (by decide +kernel) ?_
  refine (fails_rep (P := fun c => c == 58) (ok := okp) (least := 0) (most := 1) (next := 247) (n := 0) (f := fun _ => 2) (by decide +kernel) (by decide +kernel) (by decide +kernel) (by decide +kernel) (by decide +kernel) (takes_colon hok) (fun q _ h => hok q h) (by omega) (cnt_zero hok (fun h => by
    have := ok_all (p := fun c => !(c == 58)) (by decide +kernel) (hok p h)
    simpa using this) (by omega)) fun j _ hj => ?_).le (by show 0 + (2 + 1) + 1 ≤ 4; omega) (Nat.le_refl _)
  have : j = 0 := by omega
  subst this
  refine (fails_rep (P := sepc) (ok := okp) (least := 1) (most := 1) (next := 264) (n := 0) (f := fun _ => 0) (by decide +kernel) (by decide +kernel) (by decide +kernel) (by decide +kernel) (by decide +kernel) (takes_sep251 hok) (fun q _ h => hok q h) (by omega) (cnt_zero hok (fun h => by simpa using hp h) (by omega)) fun j h0 hj => ?_).le (by show 0 + (0 + 1) + 1 ≤ 2; omega) (Nat.le_refl _)
  omega
theorem body_yes {p B N : Nat} {J : LI} (hB : B + 100 ≤ 16777216) (hl : p < t.size) (hp : sepc (t.getD p 0) = true) (h : Fails exprC t J (B + 42) 264 (p + 1) N) : Fails exprC t J B 238 p (N + 6) := by
  refine fails_mark (N := N + 5) (by decide +kernel) (by decide +kernel) ?_
  refine (fails_rep (P := fun c => c == 58) (ok := okp) (least := 0) (most := 1) (next := 247) (n := 0) (f := fun _ => N + 3) (by decide +kernel) (by decide +kernel) (by decide +kernel) (by decide +kernel) (by decide +kernel) (takes_colon hok) (fun q _ h => hok q h) (by omega) (cnt_zero hok (fun h => by
    have := ok_all (p := fun c => !(c == 58)) (by decide +kernel) (hok p h)
    simpa using this) (by omega)) fun j _ hj => ?_).le (by show 0 + (N + 3 + 1) + 1 ≤ N + 5; omega) (Nat.le_refl _)
  have : j = 0 := by omega
  subst this
  refine (fails_rep (P := sepc) (ok := okp) (least := 1) (most := 1) (next := 264) (n := 1) (f := fun j => if j = 0 then 0 else N) (by decide +kernel) (by decide +kernel) (by decide +kernel) (by decide +kernel) (by decide +kernel) (takes_sep251 hok) (fun q _ h => hok q h) (by omega) (by
    rw [show min 1 (t.size - (p + 0)) = 1 by omega]
    show (if sepc (t.getD p 0) then 1 + 0 else 0) = 1
    rw [if_pos hp]) fun j h0 hj => ?_).le (by show 0 + (0 + 1) + (N + 1) + 1 ≤ N + 3; omega) (Nat.le_refl _)
  have : j = 1 := by omega
  subst this
  exact h

include hs
theorem until_no : ∀ n p, t.size - p = n → p ≤ t.size → acc t 9 p = false → Fails exprC t (InStar 234) (400 * p + 400) 493 p (28000 * G t p) := by
  intro n
  induction n using Nat.strongRecOn with
  | ind n ih =>
    intro p hn hp ha
    have hG := G_pos t p
    by_cases hx : p < t.size ∧ sepc (t.getD p 0) = true
    · obtain ⟨hl, hsep⟩ := hx
      have h0 : acc t 0 (p + 1) = false := by
        rw [← acc_go (P := sepc) (q := 9) (r := 0) hok (by decide +kernel) hl hsep]; exact ha
      have item := p0 (I := InStar 234) (Bn := 400 * p + 800) (A := 28001) (p₀ := p + 1) (B := 400 * p + 463) expr_item2 hs hok InStar.push (by omega)
        (fun p' h1 h2 => by
          by_cases hp' : p' ≤ t.size
          · refine (fails_mark (N := 28000 * G t p') (by decide +kernel) (by decide +kernel) ((ih (t.size - p') (by omega) p' rfl hp' h2).le (Nat.le_refl _) (by omega))).le ?_ (Nat.le_refl _)
            have := G_pos t p'
            omega
          · rw [acc_ge (by omega)] at h2; exact absurd h2 (by decide))
        (fun p' h1 h2 h3 h4 => by
          refine (fails_mark (N := 9) (by decide +kernel) (by decide +kernel) (fails_until_star (N1 := 5) (N2 := 1) (by decide +kernel) (by decide +kernel) (by decide +kernel) (by decide +kernel) (by omega) (body_no hok (by omega) fun _ => h3) (end_no hok h4 (by omega)))).le (by omega) (Nat.le_refl _))
        (by omega) (Nat.le_refl _) h0
      refine (fails_until_star (N1 := (8 * 28001 + 210910) * G t (p + 1) + 6) (N2 := 1) (by decide +kernel) (by decide +kernel) (by decide +kernel) (by decide +kernel) (by omega) (body_yes hok (by omega) hl hsep (item.le (Nat.le_refl _) (by omega))) (end_no hok ha hp)).le ?_ (Nat.le_refl _)
      rw [G_sep hl hsep]
      have := G_pos t (p + 1)
      omega
    · refine (fails_until_star (N1 := 5) (N2 := 1) (by decide +kernel) (by decide +kernel) (by decide +kernel) (by decide +kernel) (by omega) (body_no hok (by omega) fun h => ?_) (end_no hok ha hp)).le (by omega) (Nat.le_refl _)
      cases hy : sepc (t.getD p 0) with
      | false => rfl
      | true => exact absurd ⟨h, hy⟩ hx

theorem Entered.star {a : Option Nat} {b : Array Loop} (h : Entered NoLoop 234 a b) : InStar 234 a b := by
  obtain ⟨in0, ls0, h0, h1, h2⟩ := h
  refine ⟨ls0.size, -1, none, by decide, h1, by rw [h2, Array.size_push]; omega, ?_⟩
  rw [h2, show in0 = none from h0]
  simp [Array.getD]

theorem expr_no (ha : acc t 0 0 = false) : Fails exprC t NoLoop 0 5 0 (440000 * G t 0) := by
  have item := p0 (I := NoLoop) (Bn := 300) (A := 28002) (p₀ := 0) (B := 0) expr_item1 hs hok (fun _ _ _ h => h) (by omega)
    (fun p' h1 h2 => by
      by_cases hp' : p' ≤ t.size
      · refine (fails_repeat (N := 28000 * G t p') (u := 493) (B := 300) (by decide +kernel) (by decide +kernel) (by decide +kernel) (by omega) (Fails.of_li (I := InStar 234) ?_ fun _ _ h => Entered.star hs hok h)).le ?_ (Nat.le_refl _)
        · exact (until_no hs hok _ p' rfl hp' h2).le (Nat.le_refl _) (by omega)
        · have := G_pos t p'
          omega
      · rw [acc_ge (by omega)] at h2; exact absurd h2 (by decide))
    (fun p' h1 h2 h3 h4 => by
      refine (fails_repeat (N := 9) (u := 493) (B := 300) (by decide +kernel) (by decide +kernel) (by decide +kernel) (by omega) (Fails.of_li (I := InStar 234) (fails_until_star (N1 := 5) (N2 := 1) (by decide +kernel) (by decide +kernel) (by decide +kernel) (by decide +kernel) (by omega) (body_no hok (by omega) fun _ => h3) (end_no hok h4 (by omega))) fun _ _ h => Entered.star hs hok h)).le (by omega) (Nat.le_refl _))
    (by omega) (Nat.le_refl _) ha
  refine (fails_begin (N := (8 * 28002 + 210910) * G t 0) (by decide +kernel) (by decide +kernel) (by decide +kernel) item).le ?_ (Nat.le_refl _)
  have := G_pos t 0
  omega
end
end Mine

end
section
set_option maxRecDepth 100000
set_option linter.unusedVariables false
set_option linter.unusedSectionVars false
namespace Mine
open PySem PySem.Sre

/-! ## the parts of a limit that the reader takes -/
structure Parts (t : Array Nat) (p a0 a1 a2 a3 a4 a5 a6 a7 a8 : Nat) : Prop where
  e0 : a0 = p + rl blankc t p
  e1 : a1 = a0 + rl digc t a0
  d0 : 0 < rl digc t a0
  e2 : a2 = a1 + rl blankc t a1
  mid : (a2 < t.size ∧ (t.getD a2 0 == 47) = true ∧ a3 = a2 + 1) ∨ (a2 + 2 < t.size ∧ (lowc (t.getD a2 0) == 112) = true ∧ (lowc (t.getD (a2 + 1) 0) == 101) = true ∧ (lowc (t.getD (a2 + 2) 0) == 114) = true ∧ a3 = a2 + 3 + rl blankc t (a2 + 3))
  e4 : a4 = a3 + rl blankc t a3
  e5 : a5 = a4 + rl digc t a4
  e6 : a6 = a5 + rl blankc t a5
  e7 : a7 = a6 + rl letc t a6
  d7 : 0 < rl letc t a6
  e8 : a8 = a7 + rl blankc t a7
  z8 : a8 ≤ t.size
  fin : acc t 9 a8 = true

section
variable {t : Array Nat} (hok : ∀ q, q < t.size → okc (t.getD q 0) = true)
include hok

theorem stop_of {P : Nat → Bool} {p q : Nat} (e : q = p + rl P t p) (hl : q < t.size) : P (t.getD q 0) = false := by
  subst e; exact rl_stop hl
theorem acc_in {q p : Nat} (h : acc t q p = true) (hq : q < 8) : p < t.size := by
  rcases Nat.lt_or_ge p t.size with h' | h'
  · exact h'
  · rw [acc_ge h'] at h
    simp only [decide_eq_true_eq] at h
    omega
/-- what may come next in a state -/
def nxIs (q : Nat) (P : Nat → Bool) : Bool := oks.all fun c => (nx q c).isNone || P c
theorem acc_is {q p : Nat} {P : Nat → Bool} (h : acc t q p = true) (hp : p < t.size) (hP : nxIs q P = true) : P (t.getD p 0) = true := by
  rw [acc_lt hp] at h
  have := ok_all (p := fun c => (nx q c).isNone || P c) hP (hok p hp)
  cases hx : nx q (t.getD p 0) with
  | none => rw [hx] at h; cases h
  | some r =>
    rw [hx] at this
    exact this
theorem acc_blank {q p : Nat} (h : acc t q p = true) (hq : nxAll q blankc (some q) = true) : acc t q (p + rl blankc t p) = true := by
  rw [← acc_star (P := blankc) hok hq _ fun j hj => rl_take hj]; exact h
theorem acc_run {q r p : Nat} {P : Nat → Bool} (h : acc t q p = true) (h1 : nxAll q P (some r) = true) (h2 : nxAll r P (some r) = true) (h0 : 0 < rl P t p) : acc t r (p + rl P t p) = true := by
  rw [← acc_plus (q := q) hok h1 h2 (fun j hj => rl_take hj) h0]; exact h
theorem rl_pos {P : Nat → Bool} {p : Nat} (hp : p < t.size) (h : P (t.getD p 0) = true) : 0 < rl P t p := by
  rcases Nat.eq_zero_or_pos (rl P t p) with hz | hz
  · have := rl_stop (P := P) (t := t) (p := p) (by rw [hz]; exact hp)
    rw [hz, Nat.add_zero, h] at this
    exact absurd this (by decide)
  · exact hz
theorem rl_end (P : Nat → Bool) {p : Nat} (hp : p ≤ t.size) : p + rl P t p ≤ t.size := by have := rl_le P t p; omega

/-- in state q at q's blanks' end, or in state r behind them -/
theorem parts_of {p : Nat} (ha : acc t 0 p = true) : ∃ a0 a1 a2 a3 a4 a5 a6 a7 a8, Parts t p a0 a1 a2 a3 a4 a5 a6 a7 a8 := by
  have h0 := acc_blank hok ha (by decide +kernel)
  obtain ⟨a0, e0⟩ : ∃ a0, a0 = p + rl blankc t p := ⟨_, rfl⟩
  rw [← e0] at h0
  have l0 := acc_in hok h0 (by decide)
  have b0 := stop_of hok e0 l0
  have c0 : digc (t.getD a0 0) = true := by
    have := acc_is hok (P := fun c => digc c || blankc c) h0 l0 (by decide +kernel)
    rw [b0, Bool.or_false] at this; exact this
  have d0 := rl_pos hok l0 c0
  have h1 := acc_run hok (q := 0) (r := 1) h0 (by decide +kernel) (by decide +kernel) d0
  obtain ⟨a1, e1⟩ : ∃ a1, a1 = a0 + rl digc t a0 := ⟨_, rfl⟩
  rw [← e1] at h1
  have l1 := acc_in hok h1 (by decide)
  have s1 := stop_of hok e1 l1
  obtain ⟨a2, e2⟩ : ∃ a2, a2 = a1 + rl blankc t a1 := ⟨_, rfl⟩
  have h2 : a2 < t.size ∧ (((t.getD a2 0 == 47) = true ∧ acc t 5 (a2 + 1) = true) ∨ ((lowc (t.getD a2 0) == 112) = true ∧ acc t 3 (a2 + 1) = true)) := by
    have hst : ∃ q, acc t q a2 = true ∧ (q = 2 ∨ (q = 1 ∧ a2 = a1)) := by
      rcases Nat.eq_zero_or_pos (rl blankc t a1) with hz | hz
      · refine ⟨1, ?_, .inr ⟨rfl, by omega⟩⟩
        rw [e2, hz, Nat.add_zero]; exact h1
      · refine ⟨2, ?_, .inl rfl⟩
        rw [e2]
        exact acc_run hok (q := 1) (r := 2) h1 (by decide +kernel) (by decide +kernel) hz
    obtain ⟨q, hq, hc⟩ := hst
    have l2 : a2 < t.size := acc_in hok hq (by rcases hc with h | h <;> omega)
    refine ⟨l2, ?_⟩
    have b2 := stop_of hok e2 l2
    have k2 : (t.getD a2 0 == 47) = true ∨ (lowc (t.getD a2 0) == 112) = true := by
      rcases hc with rfl | ⟨rfl, ea⟩
      · have := acc_is hok (P := fun c => (c == 47 || lowc c == 112) || blankc c) hq l2 (by decide +kernel)
        rw [b2, Bool.or_false] at this
        simpa only [Bool.or_eq_true] using this
      · have := acc_is hok (P := fun c => ((c == 47 || lowc c == 112) || blankc c) || digc c) hq l2 (by decide +kernel)
        rw [b2, Bool.or_false, show digc (t.getD a2 0) = false by rw [ea]; exact s1, Bool.or_false] at this
        simpa only [Bool.or_eq_true] using this
    rcases k2 with k | k
    · refine .inl ⟨k, ?_⟩
      rcases hc with rfl | ⟨rfl, _⟩
      · rw [← acc_go (P := fun c => c == 47) (q := 2) (r := 5) hok (by decide +kernel) l2 k]; exact hq
      · rw [← acc_go (P := fun c => c == 47) (q := 1) (r := 5) hok (by decide +kernel) l2 k]; exact hq
    · refine .inr ⟨k, ?_⟩
      rcases hc with rfl | ⟨rfl, _⟩
      · rw [← acc_go (P := fun c => lowc c == 112) (q := 2) (r := 3) hok (by decide +kernel) l2 k]; exact hq
      · rw [← acc_go (P := fun c => lowc c == 112) (q := 1) (r := 3) hok (by decide +kernel) l2 k]; exact hq
  obtain ⟨l2, h2⟩ := h2
  have h3 : ∃ a3, acc t 5 a3 = true ∧ ((a2 < t.size ∧ (t.getD a2 0 == 47) = true ∧ a3 = a2 + 1) ∨ (a2 + 2 < t.size ∧ (lowc (t.getD a2 0) == 112) = true ∧ (lowc (t.getD (a2 + 1) 0) == 101) = true ∧ (lowc (t.getD (a2 + 2) 0) == 114) = true ∧ a3 = a2 + 3 + rl blankc t (a2 + 3))) := by
    rcases h2 with ⟨k, h⟩ | ⟨k, h⟩
    · exact ⟨a2 + 1, h, .inl ⟨l2, k, rfl⟩⟩
    · have l3 := acc_in hok h (by decide)
      have k3 := acc_is hok (P := fun c => lowc c == 101) h l3 (by decide +kernel)
      rw [acc_go (P := fun c => lowc c == 101) (r := 4) hok (by decide +kernel) l3 k3] at h
      have l4 := acc_in hok h (by decide)
      have k4 := acc_is hok (P := fun c => lowc c == 114) h l4 (by decide +kernel)
      rw [acc_go (P := fun c => lowc c == 114) (r := 5) hok (by decide +kernel) l4 k4] at h
      exact ⟨_, acc_blank hok h (by decide +kernel), .inr ⟨l4, k, k3, k4, rfl⟩⟩
  obtain ⟨a3, h3, mid⟩ := h3
  have h4 := acc_blank hok h3 (by decide +kernel)
  obtain ⟨a4, e4⟩ : ∃ a4, a4 = a3 + rl blankc t a3 := ⟨_, rfl⟩
  rw [← e4] at h4
  have l4 := acc_in hok h4 (by decide)
  have b4 := stop_of hok e4 l4
  obtain ⟨a5, e5⟩ : ∃ a5, a5 = a4 + rl digc t a4 := ⟨_, rfl⟩
  obtain ⟨a6, e6⟩ : ∃ a6, a6 = a5 + rl blankc t a5 := ⟨_, rfl⟩
  have h6 : a6 < t.size ∧ letc (t.getD a6 0) = true ∧ acc t 8 (a6 + 1) = true := by
    rcases Nat.eq_zero_or_pos (rl digc t a4) with hz | hz
    · have e54 : a5 = a4 := by omega
      have z6 : rl blankc t a5 = 0 := rl_zero fun _ => by rw [e54]; exact b4
      have e64 : a6 = a4 := by omega
      have hd : digc (t.getD a4 0) = false := stop_of hok (P := digc) (p := a4) (by omega) l4
      have k := acc_is hok (P := fun c => (letc c || blankc c) || digc c) h4 l4 (by decide +kernel)
      rw [hd, Bool.or_false, b4, Bool.or_false] at k
      rw [e64]
      refine ⟨l4, k, ?_⟩
      rw [← acc_go (P := letc) (q := 5) (r := 8) hok (by decide +kernel) l4 k]; exact h4
    · have h5 := acc_run hok (q := 5) (r := 6) h4 (by decide +kernel) (by decide +kernel) hz
      rw [← e5] at h5
      have l5 := acc_in hok h5 (by decide)
      have s5 := stop_of hok e5 l5
      rcases Nat.eq_zero_or_pos (rl blankc t a5) with hy | hy
      · have e65 : a6 = a5 := by omega
        have b5 : blankc (t.getD a5 0) = false := stop_of hok (P := blankc) (p := a5) (by omega) l5
        have k := acc_is hok (P := fun c => (letc c || blankc c) || digc c) h5 l5 (by decide +kernel)
        rw [s5, Bool.or_false, b5, Bool.or_false] at k
        rw [e65]
        refine ⟨l5, k, ?_⟩
        rw [← acc_go (P := letc) (q := 6) (r := 8) hok (by decide +kernel) l5 k]; exact h5
      · have h6 := acc_run hok (q := 6) (r := 7) h5 (by decide +kernel) (by decide +kernel) hy
        rw [← e6] at h6
        have l6 := acc_in hok h6 (by decide)
        have b6 := stop_of hok e6 l6
        have k := acc_is hok (P := fun c => letc c || blankc c) h6 l6 (by decide +kernel)
        rw [b6, Bool.or_false] at k
        refine ⟨l6, k, ?_⟩
        rw [← acc_go (P := letc) (q := 7) (r := 8) hok (by decide +kernel) l6 k]; exact h6
  obtain ⟨l6, k6, h7⟩ := h6
  have d7 := rl_pos hok l6 k6
  obtain ⟨a7, e7⟩ : ∃ a7, a7 = a6 + rl letc t a6 := ⟨_, rfl⟩
  have h7' : acc t 8 a7 = true := by
    rw [acc_star (P := letc) hok (by decide +kernel) (rl letc t a6 - 1) fun j hj => by
      have := rl_take (P := letc) (t := t) (p := a6) (j := j + 1) (by omega)
      rw [show a6 + 1 + j = a6 + (j + 1) by omega]; exact this] at h7
    rw [show a6 + 1 + (rl letc t a6 - 1) = a7 by omega] at h7
    exact h7
  have z7 : a7 ≤ t.size := by rw [e7]; exact rl_end hok _ (by omega)
  obtain ⟨a8, e8⟩ : ∃ a8, a8 = a7 + rl blankc t a7 := ⟨_, rfl⟩
  have z8 : a8 ≤ t.size := by rw [e8]; exact rl_end hok _ z7
  refine ⟨a0, a1, a2, a3, a4, a5, a6, a7, a8, e0, e1, d0, e2, mid, e4, e5, e6, e7, d7, e8, z8, ?_⟩
  rcases Nat.eq_zero_or_pos (rl blankc t a7) with hz | hz
  · have e87 : a8 = a7 := by omega
    rw [e87]
    by_cases l7 : a7 < t.size
    · have s7 := stop_of hok e7 l7
      have b7 : blankc (t.getD a7 0) = false := stop_of hok (P := blankc) (p := a7) (by omega) l7
      have k := acc_is hok (P := fun c => (sepc c || blankc c) || letc c) h7' l7 (by decide +kernel)
      rw [s7, Bool.or_false, b7, Bool.or_false] at k
      rw [acc_go (P := sepc) (q := 9) (r := 0) hok (by decide +kernel) l7 k, ← acc_go (P := sepc) (q := 8) (r := 0) hok (by decide +kernel) l7 k]
      exact h7'
    · rw [acc_ge (by omega)]; rfl
  · rw [e8]
    exact acc_run hok (q := 8) (r := 9) h7' (by decide +kernel) (by decide +kernel) hz
end
end Mine

end
section
set_option maxRecDepth 100000
set_option linter.unusedVariables false
namespace Mine
open PySem PySem.Sre

/-! ## the parts of a limit, as functions of its text -/
def q0 (t : Array Nat) : Nat := 0 + rl blankc t 0
def q1 (t : Array Nat) : Nat := q0 t + rl digc t (q0 t)
def q2 (t : Array Nat) : Nat := q1 t + rl blankc t (q1 t)
def q3 (t : Array Nat) : Nat := if t.getD (q2 t) 0 == 47 then q2 t + 1 else q2 t + 3 + rl blankc t (q2 t + 3)
def q4 (t : Array Nat) : Nat := q3 t + rl blankc t (q3 t)
def q5 (t : Array Nat) : Nat := q4 t + rl digc t (q4 t)
def q6 (t : Array Nat) : Nat := q5 t + rl blankc t (q5 t)
def q7 (t : Array Nat) : Nat := q6 t + rl letc t (q6 t)
def q8 (t : Array Nat) : Nat := q7 t + rl blankc t (q7 t)
theorem parts_q {t : Array Nat} (hok : ∀ q, q < t.size → okc (t.getD q 0) = true) (ha : acc t 0 0 = true) : Parts t 0 (q0 t) (q1 t) (q2 t) (q3 t) (q4 t) (q5 t) (q6 t) (q7 t) (q8 t) := by
  obtain ⟨a0, a1, a2, a3, a4, a5, a6, a7, a8, P⟩ := parts_of hok ha
  have e0 : a0 = q0 t := by unfold q0; exact P.e0
  subst e0
  have e1 : a1 = q1 t := by unfold q1; exact P.e1
  subst e1
  have e2 : a2 = q2 t := by unfold q2; exact P.e2
  subst e2
  have e3 : a3 = q3 t := by
    unfold q3
    rcases P.mid with ⟨_, h, e⟩ | ⟨hl, h, _, _, e⟩
    · rw [if_pos h]; exact e
    · rw [if_neg ?_]
      · exact e
      · intro hq
        have := ok_all (p := fun c => !(lowc c == 112) || !(c == 47)) (by decide +kernel) (hok (q2 t) (by omega))
        rw [h, hq] at this
        exact absurd this (by decide)
  rw [e3] at P
  have e4 : a4 = q4 t := by unfold q4; exact P.e4
  rw [e4] at P
  have e5 : a5 = q5 t := by unfold q5; exact P.e5
  rw [e5] at P
  have e6 : a6 = q6 t := by unfold q6; exact P.e6
  rw [e6] at P
  have e7 : a7 = q7 t := by unfold q7; exact P.e7
  rw [e7] at P
  have e8 : a8 = q8 t := by unfold q8; exact P.e8
  rw [e8] at P
  exact P

/-! ## figures -/
/-- what figures say -/
def figs (l : List Nat) : Nat := l.foldl (fun a c => a * 10 + (c - 48)) 0
end Mine

end
section
set_option maxRecDepth 100000
set_option linter.unusedVariables false
namespace Mine
open PySem PySem.Sre

/-! ## the reader, with what it has read -/
structure RS where
  rows : List (List Nat × Nat × Nat)
  q : Nat
  amount : Nat
  many : Nat
  name : List Nat
def one (k : Nat) : Nat := if k = 0 then 1 else k
def rstep (r : RS) (c : Nat) : Option RS := match nx r.q c with
  | none => none
  | some q' =>
    if digc c then (if r.q < 2 then some { r with q := q', amount := r.amount * 10 + (c - 48) } else some { r with q := q', many := r.many * 10 + (c - 48) })
    else if blankc c then some { r with q := q' }
    else if sepc c then some { rows := r.rows ++ [(r.name, r.amount, one r.many)], q := q', amount := 0, many := 0, name := [] }
    else if 8 ≤ q' then some { r with q := q', name := r.name ++ [lowc c] }
    else some { r with q := q' }
def rdL : RS → List Nat → Option RS
  | r, [] => some r
  | r, c :: l => match rstep r c with | some r' => rdL r' l | none => none
theorem rstep_q (r : RS) (c : Nat) : (rstep r c).map RS.q = nx r.q c := by
  unfold rstep
  cases nx r.q c with
  | none => rfl
  | some q' =>
    dsimp only
    repeat' split
    all_goals rfl
theorem rd_acc : ∀ (l : List Nat) (r : RS), accL r.q l = match rdL r l with | some r' => decide (8 ≤ r'.q) | none => false
  | [], r => rfl
  | c :: l, r => by
    have h := rstep_q r c
    unfold accL rdL
    cases hs : rstep r c with
    | none =>
      rw [hs] at h
      have h : nx r.q c = none := h.symm
      rw [h]
    | some r' =>
      rw [hs] at h
      have h : nx r.q c = some r'.q := h.symm
      rw [h]
      exact rd_acc l r'
theorem rd_append : ∀ (l l' : List Nat) (r : RS), rdL r (l ++ l') = (rdL r l).bind fun r' => rdL r' l'
  | [], l', r => rfl
  | c :: l, l', r => by
    rw [List.cons_append]
    show (match rstep r c with | some r' => rdL r' (l ++ l') | none => none) = (match rstep r c with | some r' => rdL r' l | none => none).bind fun r' => rdL r' l'
    cases rstep r c with
    | none => rfl
    | some r' => exact rd_append l l' r'
end Mine

end
section
set_option maxRecDepth 100000
set_option linter.unusedVariables false
namespace Mine
open PySem PySem.Sre

def okl (l : List Nat) : Prop := ∀ c ∈ l, okc c = true
def allP (P : Nat → Bool) (l : List Nat) : Prop := ∀ c ∈ l, P c = true
def figsFrom (a : Nat) (l : List Nat) : Nat := l.foldl (fun a c => a * 10 + (c - 48)) a

theorem nx_fact {q : Nat} {P : Nat → Bool} {r : Option Nat} (h : nxAll q P r = true) {c : Nat} (hc : okc c = true) (hp : P c = true) : nx q c = r := nx_of h hc hp
theorem rd_fig {rows : List (List Nat × Nat × Nat)} {q a m c : Nat} {n : List Nat} (hc : okc c = true) (hd : digc c = true) (hq : q < 2) : rstep ⟨rows, q, a, m, n⟩ c = some ⟨rows, 1, a * 10 + (c - 48), m, n⟩ := by
  have h : nx q c = some 1 := by
    have : q = 0 ∨ q = 1 := by omega
    rcases this with rfl | rfl
    · exact nx_of (P := digc) (by decide +kernel) hc hd
    · exact nx_of (P := digc) (by decide +kernel) hc hd
  unfold rstep
  simp only [h, hd, if_true, hq]
theorem rd_figs {rows : List (List Nat × Nat × Nat)} {m : Nat} {n : List Nat} : ∀ (l : List Nat) (a : Nat), okl l → allP digc l → rdL ⟨rows, 1, a, m, n⟩ l = some ⟨rows, 1, figsFrom a l, m, n⟩
  | [], a, _, _ => rfl
  | c :: l, a, ho, hp => by
    have h := rd_fig (rows := rows) (m := m) (n := n) (a := a) (q := 1) (ho c (.head _)) (hp c (.head _)) (by omega)
    show (match rstep ⟨rows, 1, a, m, n⟩ c with | some r' => rdL r' l | none => none) = _
    rw [h]
    exact rd_figs l _ (fun x hx => ho x (.tail _ hx)) (fun x hx => hp x (.tail _ hx))
theorem rd_blank {rows : List (List Nat × Nat × Nat)} {q q' a m c : Nat} {n : List Nat} (hc : okc c = true) (hb : blankc c = true) (h : nxAll q blankc (some q') = true) : rstep ⟨rows, q, a, m, n⟩ c = some ⟨rows, q', a, m, n⟩ := by
  have h1 := nx_of h hc hb
  have hd : digc c = false := by
    have := ok_all (p := fun c => !(blankc c) || !(digc c)) (by decide +kernel) hc
    rw [hb] at this
    simpa using this
  unfold rstep
  simp only [h1, hd, hb, if_true, Bool.false_eq_true, if_false]
theorem rd_blanks {rows : List (List Nat × Nat × Nat)} {q a m : Nat} {n : List Nat} (h : nxAll q blankc (some q) = true) : ∀ (l : List Nat), okl l → allP blankc l → rdL ⟨rows, q, a, m, n⟩ l = some ⟨rows, q, a, m, n⟩
  | [], _, _ => rfl
  | c :: l, ho, hp => by
    have h1 := rd_blank (rows := rows) (a := a) (m := m) (n := n) (ho c (.head _)) (hp c (.head _)) h
    show (match rstep ⟨rows, q, a, m, n⟩ c with | some r' => rdL r' l | none => none) = _
    rw [h1]
    exact rd_blanks h l (fun x hx => ho x (.tail _ hx)) (fun x hx => hp x (.tail _ hx))
end Mine
namespace Mine
open PySem PySem.Sre
theorem rd_manyfig {rows : List (List Nat × Nat × Nat)} {q a m c : Nat} {n : List Nat} (hc : okc c = true) (hd : digc c = true) (hq : q = 5 ∨ q = 6) : rstep ⟨rows, q, a, m, n⟩ c = some ⟨rows, 6, a, m * 10 + (c - 48), n⟩ := by
  have h : nx q c = some 6 := by
    rcases hq with rfl | rfl
    · exact nx_of (P := digc) (by decide +kernel) hc hd
    · exact nx_of (P := digc) (by decide +kernel) hc hd
  unfold rstep
  have h2 : ¬ q < 2 := by omega
  simp only [h, hd, if_true, h2, if_false]
theorem rd_manys {rows : List (List Nat × Nat × Nat)} {a : Nat} {n : List Nat} : ∀ (l : List Nat) (m : Nat), okl l → allP digc l → rdL ⟨rows, 6, a, m, n⟩ l = some ⟨rows, 6, a, figsFrom m l, n⟩
  | [], m, _, _ => rfl
  | c :: l, m, ho, hp => by
    have h := rd_manyfig (rows := rows) (m := m) (n := n) (a := a) (q := 6) (ho c (.head _)) (hp c (.head _)) (.inr rfl)
    show (match rstep ⟨rows, 6, a, m, n⟩ c with | some r' => rdL r' l | none => none) = _
    rw [h]
    exact rd_manys l _ (fun x hx => ho x (.tail _ hx)) (fun x hx => hp x (.tail _ hx))
theorem rd_let {rows : List (List Nat × Nat × Nat)} {q a m c : Nat} {n : List Nat} (hc : okc c = true) (hl : letc c = true) (hq : q = 5 ∨ q = 6 ∨ q = 7 ∨ q = 8) : rstep ⟨rows, q, a, m, n⟩ c = some ⟨rows, 8, a, m, n ++ [lowc c]⟩ := by
  have h : nx q c = some 8 := by
    rcases hq with rfl | rfl | rfl | rfl
    · exact nx_of (P := letc) (by decide +kernel) hc hl
    · exact nx_of (P := letc) (by decide +kernel) hc hl
    · exact nx_of (P := letc) (by decide +kernel) hc hl
    · exact nx_of (P := letc) (by decide +kernel) hc hl
  have h3 := ok_all (p := fun c => !(letc c) || (!(digc c) && !(blankc c) && !(sepc c))) (by decide +kernel) hc
  rw [hl] at h3
  simp only [Bool.not_true, Bool.false_or, Bool.and_eq_true, Bool.not_eq_true'] at h3
  unfold rstep
  simp only [h, h3.1.1, h3.1.2, h3.2, Bool.false_eq_true, if_false, Nat.le_refl, if_true]
theorem rd_lets {rows : List (List Nat × Nat × Nat)} {a m : Nat} : ∀ (l : List Nat) (n : List Nat), okl l → allP letc l → rdL ⟨rows, 8, a, m, n⟩ l = some ⟨rows, 8, a, m, n ++ l.map lowc⟩
  | [], n, _, _ => by simp [rdL]
  | c :: l, n, ho, hp => by
    have h := rd_let (rows := rows) (m := m) (n := n) (a := a) (q := 8) (ho c (.head _)) (hp c (.head _)) (.inr (.inr (.inr rfl)))
    show (match rstep ⟨rows, 8, a, m, n⟩ c with | some r' => rdL r' l | none => none) = _
    rw [h]
    show rdL ⟨rows, 8, a, m, n ++ [lowc c]⟩ l = _
    rw [rd_lets l _ (fun x hx => ho x (.tail _ hx)) (fun x hx => hp x (.tail _ hx))]
    simp
end Mine

end
section
set_option maxRecDepth 100000
set_option linter.unusedVariables false
namespace Mine
open PySem PySem.Sre

/-! ## a text, cut at places -/
def seg (t : Array Nat) (a b : Nat) : List Nat := (t.toList.drop a).take (b - a)
theorem drop_seg {t : Array Nat} {a b : Nat} (h : a ≤ b) : t.toList.drop a = seg t a b ++ t.toList.drop b := by
  unfold seg
  have : t.toList.drop b = (t.toList.drop a).drop (b - a) := by rw [List.drop_drop]; congr 1; omega
  rw [this, List.take_append_drop]
theorem seg_extract (t : Array Nat) (a b : Nat) : (t.extract a b).toList = seg t a b := by
  unfold seg
  rw [Array.toList_extract, List.extract_eq_take_drop]
theorem seg_get {t : Array Nat} {a b c : Nat} (h : c ∈ seg t a b) : ∃ j, j < b - a ∧ a + j < t.size ∧ c = t.getD (a + j) 0 := by
  unfold seg at h
  obtain ⟨j, hj, he⟩ := List.mem_iff_getElem.mp h
  rw [List.length_take, List.length_drop] at hj
  have hl : a + j < t.toList.length := by omega
  have hs : a + j < t.size := by simpa using hl
  refine ⟨j, by omega, hs, ?_⟩
  rw [← he, List.getElem_take, List.getElem_drop]
  simp [Array.getD, hs]
theorem seg_ok {t : Array Nat} (hok : ∀ q, q < t.size → okc (t.getD q 0) = true) (a b : Nat) : okl (seg t a b) := fun c hc => by
  obtain ⟨j, _, hs, rfl⟩ := seg_get hc
  exact hok _ hs
theorem seg_run {t : Array Nat} {P : Nat → Bool} {a b : Nat} (h : b = a + rl P t a) : allP P (seg t a b) := fun c hc => by
  obtain ⟨j, hj, hs, rfl⟩ := seg_get hc
  exact (rl_take (P := P) (t := t) (p := a) (j := j) (by omega)).2
theorem seg_nil (t : Array Nat) (a : Nat) : seg t a a = [] := by unfold seg; rw [Nat.sub_self, List.take_zero]
theorem seg_len {t : Array Nat} {a b : Nat} (h : a ≤ b) (hb : b ≤ t.size) : (seg t a b).length = b - a := by
  unfold seg
  rw [List.length_take, List.length_drop, Array.length_toList]
  omega
end Mine

end
section
set_option maxRecDepth 100000
set_option linter.unusedVariables false
namespace Mine
open PySem PySem.Sre

theorem rd_bind {r r' : RS} {l l' : List Nat} (h : rdL r l = some r') : rdL r (l ++ l') = rdL r' l' := by rw [rd_append, h]; rfl
theorem rd_one {rows : List (List Nat × Nat × Nat)} {q q' a m c : Nat} {n : List Nat} (h : nx q c = some q') (hd : digc c = false) (hb : blankc c = false) (hs : sepc c = false) (hq : ¬ 8 ≤ q') : rstep ⟨rows, q, a, m, n⟩ c = some ⟨rows, q', a, m, n⟩ := by
  unfold rstep
  simp only [h, hd, hb, hs, Bool.false_eq_true, if_false, hq]
/-- blanks in a state that they leave for the next, or none of them -/
theorem rd_blanks1 {rows : List (List Nat × Nat × Nat)} {q q' a m : Nat} {n : List Nat} (h1 : nxAll q blankc (some q') = true) (h2 : nxAll q' blankc (some q') = true) (l : List Nat) (ho : okl l) (hp : allP blankc l) : rdL ⟨rows, q, a, m, n⟩ l = some ⟨rows, if l = [] then q else q', a, m, n⟩ := by
  cases l with
  | nil => rfl
  | cons c l =>
    have h := rd_blank (rows := rows) (a := a) (m := m) (n := n) (ho c (.head _)) (hp c (.head _)) h1
    show (match rstep ⟨rows, q, a, m, n⟩ c with | some r' => rdL r' l | none => none) = _
    rw [h]
    exact rd_blanks h2 l (fun x hx => ho x (.tail _ hx)) (fun x hx => hp x (.tail _ hx))
theorem rd_figs1 {rows : List (List Nat × Nat × Nat)} {m : Nat} {n : List Nat} (l : List Nat) (h0 : l ≠ []) (ho : okl l) (hp : allP digc l) : rdL ⟨rows, 0, 0, m, n⟩ l = some ⟨rows, 1, figs l, m, n⟩ := by
  cases l with
  | nil => exact absurd rfl h0
  | cons c l =>
    have h := rd_fig (rows := rows) (m := m) (n := n) (a := 0) (q := 0) (ho c (.head _)) (hp c (.head _)) (by omega)
    show (match rstep ⟨rows, 0, 0, m, n⟩ c with | some r' => rdL r' l | none => none) = _
    rw [h]
    exact rd_figs l _ (fun x hx => ho x (.tail _ hx)) (fun x hx => hp x (.tail _ hx))
theorem rd_manys1 {rows : List (List Nat × Nat × Nat)} {a : Nat} {n : List Nat} (l : List Nat) (ho : okl l) (hp : allP digc l) : rdL ⟨rows, 5, a, 0, n⟩ l = some ⟨rows, if l = [] then 5 else 6, a, figs l, n⟩ := by
  cases l with
  | nil => rfl
  | cons c l =>
    have h := rd_manyfig (rows := rows) (m := 0) (n := n) (a := a) (q := 5) (ho c (.head _)) (hp c (.head _)) (.inl rfl)
    show (match rstep ⟨rows, 5, a, 0, n⟩ c with | some r' => rdL r' l | none => none) = _
    rw [h]
    exact rd_manys l _ (fun x hx => ho x (.tail _ hx)) (fun x hx => hp x (.tail _ hx))
theorem rd_lets1 {rows : List (List Nat × Nat × Nat)} {q a m : Nat} (l : List Nat) (h0 : l ≠ []) (hq : q = 5 ∨ q = 6 ∨ q = 7) (ho : okl l) (hp : allP letc l) : rdL ⟨rows, q, a, m, []⟩ l = some ⟨rows, 8, a, m, l.map lowc⟩ := by
  cases l with
  | nil => exact absurd rfl h0
  | cons c l =>
    have h := rd_let (rows := rows) (m := m) (n := []) (a := a) (q := q) (ho c (.head _)) (hp c (.head _)) (by omega)
    show (match rstep ⟨rows, q, a, m, []⟩ c with | some r' => rdL r' l | none => none) = _
    rw [h]
    show rdL ⟨rows, 8, a, m, [] ++ [lowc c]⟩ l = _
    rw [rd_lets l _ (fun x hx => ho x (.tail _ hx)) (fun x hx => hp x (.tail _ hx))]
    simp
end Mine

end
section
set_option maxRecDepth 100000
set_option linter.unusedVariables false
set_option linter.unusedSectionVars false
namespace Mine
open PySem PySem.Sre

/-! ## the marks that count -/
def visOf (m : M) (j : Nat) : Option Nat := if (j : Int) ≤ m.lastmark then m.marks.getD j none else none
def up (V : Nat → Option Nat) (i x : Nat) : Nat → Option Nat := fun j => if j = i then some x else V j

theorem getD_set (a : Array (Option Nat)) (i j : Nat) (v : Option Nat) : (a.setIfInBounds i v).getD j none = if j = i ∧ i < a.size then v else a.getD j none := by
  rw [Array.getD_eq_getD_getElem?, Array.getD_eq_getD_getElem?, Array.getElem?_setIfInBounds]
  by_cases h : i = j
  · subst h
    rw [if_pos rfl]
    by_cases h2 : i < a.size
    · rw [if_pos h2, if_pos ⟨rfl, h2⟩]; rfl
    · rw [if_neg h2, if_neg (fun x => h2 x.2), Array.getElem?_eq_none (by omega)]
  · rw [if_neg h, if_neg (fun x => h x.1.symm)]

theorem clear_get (k : Int) : ∀ (l : List Nat) (a : Array (Option Nat)) (j : Nat),
    (l.foldl (fun (a : Array (Option Nat)) (x : Nat) => if (x : Int) > k then a.setIfInBounds x none else a) a).getD j none = if j ∈ l ∧ (j : Int) > k then none else a.getD j none
  | [], a, j => by simp
  | x :: l, a, j => by
    rw [List.foldl_cons, clear_get k l]
    by_cases hl : j ∈ l ∧ (j : Int) > k
    · rw [if_pos hl, if_pos ⟨List.mem_cons_of_mem _ hl.1, hl.2⟩]
    · rw [if_neg hl]
      by_cases hx : (x : Int) > k
      · rw [if_pos hx, getD_set]
        by_cases hj : j = x
        · subst hj
          rw [if_pos (show j ∈ j :: l ∧ (j : Int) > k from ⟨.head _, hx⟩)]
          by_cases h2 : j < a.size
          · rw [if_pos ⟨rfl, h2⟩]
          · rw [if_neg (fun y => h2 y.2), Array.getD_eq_getD_getElem?, Array.getElem?_eq_none (by omega)]; rfl
        · rw [if_neg (fun y => hj y.1), if_neg]
          rintro ⟨h1, h2⟩
          rcases List.mem_cons.mp h1 with h1 | h1
          · exact hj h1
          · exact hl ⟨h1, h2⟩
      · rw [if_neg hx, if_neg]
        rintro ⟨h1, h2⟩
        rcases List.mem_cons.mp h1 with h1 | h1
        · subst h1; exact hx h2
        · exact hl ⟨h1, h2⟩

theorem clear_size (k : Int) : ∀ (l : List Nat) (a : Array (Option Nat)), (l.foldl (fun (a : Array (Option Nat)) (j : Nat) => if (j : Int) > k then a.setIfInBounds j none else a) a).size = a.size
  | [], _ => rfl
  | x :: l, a => by rw [List.foldl_cons, clear_size k l]; split <;> simp

theorem mark_size (m : M) (i : Nat) : (m.mark i).marks.size = m.marks.size := by
  unfold M.mark
  simp only [Array.size_setIfInBounds]
  split
  · rfl
  · rw [clear_size]
theorem mark_vis {m : M} {i : Nat} (hi : i < m.marks.size) (j : Nat) : visOf (m.mark i) j = up (visOf m) i m.pos j := by
  unfold visOf up
  dsimp only
  have e : (m.mark i).lastmark = max m.lastmark (i : Int) := rfl
  rw [e]
  have hm : (m.mark i).marks = (if (i : Int) ≤ m.lastmark + 1 then m.marks else (List.range i).foldl (fun (a : Array (Option Nat)) (j : Nat) => if (j : Int) > m.lastmark then a.setIfInBounds j none else a) m.marks).setIfInBounds i (some m.pos) := rfl
  have hz : (if (i : Int) ≤ m.lastmark + 1 then m.marks else (List.range i).foldl (fun (a : Array (Option Nat)) (j : Nat) => if (j : Int) > m.lastmark then a.setIfInBounds j none else a) m.marks).size = m.marks.size := by
    split
    · rfl
    · rw [clear_size]
  rw [hm, getD_set, hz]
  by_cases hji : j = i
  · subst hji
    rw [if_pos (by omega), if_pos ⟨rfl, hi⟩, if_pos rfl]
  · rw [if_neg (show ¬ (j = i ∧ i < m.marks.size) from fun x => hji x.1), if_neg hji]
    by_cases hl : (i : Int) ≤ m.lastmark + 1
    · rw [if_pos hl]
      by_cases h2 : (j : Int) ≤ m.lastmark
      · rw [if_pos (by omega : (j : Int) ≤ max m.lastmark (i : Int)), if_pos h2]
      · rw [if_neg (by omega : ¬ (j : Int) ≤ max m.lastmark (i : Int)), if_neg h2]
    · rw [if_neg hl, clear_get]
      by_cases h2 : (j : Int) ≤ m.lastmark
      · rw [if_pos (by omega : (j : Int) ≤ max m.lastmark (i : Int)), if_neg (by omega), if_pos h2]
      · rw [if_neg h2]
        by_cases h3 : (j : Int) ≤ max m.lastmark (i : Int)
        · rw [if_pos h3, if_pos ⟨List.mem_range.mpr (by omega), by omega⟩]
        · rw [if_neg h3]

theorem putBack_vis {m m' : M} {b : Bool} (hs : m'.marks.size = m.marks.size) (h : b = true ∨ m'.marks = m.marks) (j : Nat) : visOf (m'.putBack (m.keep b)) j = visOf m j := by
  unfold visOf
  have e : (m'.putBack (m.keep b)).lastmark = m.lastmark := rfl
  rw [e]
  by_cases hj : (j : Int) ≤ m.lastmark
  · rw [if_pos hj, if_pos hj]
    have em : (m'.putBack (m.keep b)).marks = if b then (m.marks.extract 0 (m.lastmark + 1).toNat) ++ m'.marks.extract (m.marks.extract 0 (m.lastmark + 1).toNat).size m'.marks.size else m'.marks := by
      unfold M.putBack M.keep
      cases b <;> rfl
    rw [em]
    cases b with
    | false =>
      rw [if_neg Bool.false_ne_true]
      rcases h with h | h
      · cases h
      · rw [h]
    | true =>
      rw [if_pos rfl]
      by_cases hjs : j < m.marks.size
      · have h1 : j < (m.marks.extract 0 (m.lastmark + 1).toNat).size := by rw [Array.size_extract]; omega
        rw [Array.getD_eq_getD_getElem?, Array.getD_eq_getD_getElem?, Array.getElem?_append_left h1]
        congr 1
        rw [Array.getElem?_extract, if_pos (by omega), Nat.zero_add]
      · rw [Array.getD_eq_getD_getElem?, Array.getD_eq_getD_getElem?, Array.getElem?_eq_none (by rw [Array.size_append, Array.size_extract, Array.size_extract]; omega), Array.getElem?_eq_none (by omega)]
  · rw [if_neg hj, if_neg hj]

/-! ## the way on -/
def okW : Wait → Bool
  | .nextStart | .nextBranch | .giveBack | .closeLoop | .maxMore | .maxTail => true
  | _ => false
structure Fwd (code t : Array Nat) (I : LI) (gs B : Nat) (V : Nat → Option Nat) (pc pos : Nat) (m : M) : Prop extends Run code t pc pos m where
  vis : ∀ j, visOf m j = V j
  gsz : m.marks.size = gs
  fr : ∀ f ∈ m.frames, okW f.wait = true
  fl : m.frames.length ≤ m.weight
  wt : m.weight ≤ B
  li : I m.inner m.loops
  st : m.start = 0

section
variable {code t : Array Nat} {I : LI} {gs B : Nat} {V : Nat → Option Nat} {pc pos : Nat} {m : M}

theorem Fwd.mark (F : Fwd code t I gs B V pc pos m) (hp : pc < code.size) (hw : code.getD pc 0 = 17) {i : Nat} (h1 : code.getD (pc + 1) 0 = i) (hi : i < gs) : Goes 1 m (Fwd code t I gs B (up V i pos) (pc + 2) pos) := by
  refine Goes.step (Goes.now ?_)
  rw [step_mark F.toRun hp hw]
  have e1 : m.word 1 = i := by rw [F.word, h1]
  rw [e1]
  have hz := mark_size ({ m with seen := m.seen.add (m.word 0) } : M) i
  refine ⟨⟨⟨F.code, F.text, F.lim, F.whole, F.must, F.out⟩, ?_, F.ans, ?_, F.pos⟩, fun j => ?_, hz.trans F.gsz, F.fr, F.fl, F.wt, F.li, F.st⟩
  · rw [hz]; exact F.msz
  · show m.pc + 2 = pc + 2
    rw [F.pc]
  · rw [mark_vis (by show i < m.marks.size; rw [F.gsz]; exact hi)]
    show up (visOf m) i m.pos j = up V i pos j
    unfold up
    rw [F.pos, F.vis j]

theorem Fwd.jump (F : Fwd code t I gs B V pc pos m) (hp : pc < code.size) (hw : code.getD pc 0 = 15) {pc' : Nat} (hj : pc + 1 + code.getD (pc + 1) 0 = pc') : Goes 1 m (Fwd code t I gs B V pc' pos) := by
  refine Goes.step (Goes.now ?_)
  rw [step_jump F.toRun hp hw]
  refine ⟨⟨⟨F.code, F.text, F.lim, F.whole, F.must, F.out⟩, F.msz, F.ans, ?_, F.pos⟩, F.vis, F.gsz, F.fr, F.fl, F.wt, F.li, F.st⟩
  show m.pc + 1 + m.word 1 = pc'
  rw [F.word, F.pc, hj]

theorem Fwd.one (F : Fwd code t I gs B V pc pos m) {P : Nat → Bool} {ok : Nat → Prop} {op : Op} {w : Nat} {pc' : Nat} (hp : pc < code.size) (hw : code.getD pc 0 = w) (hop : ops[w]? = some op) (ho : oneSign op = true) (T : Takes code pc P ok) (hl : pos < t.size) (hok : ok (t.getD pos 0)) (hpc : pc + itemWidth code pc = pc')
    (hP : P (t.getD pos 0) = true) : Goes 1 m (Fwd code t I gs B V pc' (pos + 1)) := by
  refine Goes.step (Goes.now ?_)
  rw [step_one F.toRun hp hw hop ho, if_neg (Nat.not_le_of_lt hl)]
  obtain ⟨s', e⟩ := T _ hok (m.seen.add (m.word 0))
  rw [e, hP]
  refine ⟨⟨⟨F.code, F.text, F.lim, F.whole, F.must, F.out⟩, F.msz, F.ans, ?_, ?_⟩, F.vis, F.gsz, F.fr, F.fl, F.wt, F.li, F.st⟩
  · show m.pc + itemWidth m.code m.pc = pc'
    rw [F.code, F.pc, hpc]
  · show m.pos + 1 = pos + 1
    rw [F.pos]

theorem keep_le (F : Fwd code t I gs B V pc pos m) (b : Bool) : (m.keep b).marks.size ≤ 20 := Nat.le_trans (keep_size m b) F.msz

theorem Fwd.rep (F : Fwd code t I gs B V pc pos m) {P : Nat → Bool} {ok : Nat → Prop} {least most next : Nat} (hp : pc < code.size) (hw : code.getD pc 0 = 24) (h2 : code.getD (pc + 2) 0 = least) (h3 : code.getD (pc + 3) 0 = most) (hn : pc + 1 + code.getD (pc + 1) 0 = next)
    (T : Takes code (pc + 4) P ok) (hok : ∀ q, pos ≤ q → q < t.size → ok (t.getD q 0)) (hB : B + 21 ≤ 16777216) {n : Nat} (hc : cnt P t (min most (t.size - pos)) pos = n) (hl : least ≤ n) (hz : pos ≤ t.size) :
    Goes 1 m (Fwd code t I gs (B + 21) V next (pos + n)) := by
  have hnl : n ≤ t.size - pos := by have := cnt_le P t (min most (t.size - pos)) pos; omega
  have hks := keep_le F m.inner.isSome
  have hwt := F.wt
  have hfl := F.fl
  refine Goes.step (Goes.now ?_)
  obtain ⟨s', e⟩ := step_rep F.toRun hp hw h2 h3 T hok (by omega)
  rw [hc] at e
  rw [e, if_neg (Nat.not_lt.mpr hl)]
  unfold M.afterRun
  rw [attempt_eq (by show m.weight + 1 + (m.keep m.inner.isSome).marks.size ≤ _; omega)]
  refine ⟨⟨⟨F.code, F.text, F.lim, F.whole, F.must, F.out⟩, F.msz, F.ans, ?_, ?_⟩, F.vis, F.gsz, ?_, ?_, ?_, F.li, F.st⟩
  · show m.pc + 1 + m.code.getD (m.pc + 1) 0 = next
    rw [F.code, F.pc, hn]
  · show m.pos + n = pos + n
    rw [F.pos]
  · intro f hf
    rcases List.mem_cons.mp hf with rfl | hf
    · rfl
    · exact F.fr f hf
  · show m.frames.length + 1 ≤ m.weight + 1 + (m.keep m.inner.isSome).marks.size
    omega
  · show m.weight + 1 + (m.keep m.inner.isSome).marks.size ≤ B + 21
    omega

/-- two ways, the first of them a sign -/
theorem Fwd.alt1 (F : Fwd code t I gs B V pc pos m) {a1 : Nat} (hp : pc < code.size) (hw : code.getD pc 0 = 7) (ha1 : pc + 1 = a1) (h1 : code.getD a1 0 ≠ 0) (hB : B + 21 ≤ 16777216) : Goes 1 m (Fwd code t I gs (B + 21) V (a1 + 1) pos) := by
  have hks := keep_le F m.inner.isSome
  have hwt := F.wt
  have hfl := F.fl
  subst ha1
  refine Goes.step (Goes.now ?_)
  rw [step_branch F.toRun hp hw, alt_go (by show m.code.getD (m.pc + 1) 0 ≠ 0; rw [F.code, F.pc]; exact h1), attempt_eq (by show m.weight + 1 + (m.keep m.inner.isSome).marks.size ≤ _; omega)]
  refine ⟨⟨⟨F.code, F.text, F.lim, F.whole, F.must, F.out⟩, F.msz, F.ans, ?_, F.pos⟩, F.vis, F.gsz, ?_, ?_, ?_, F.li, F.st⟩
  · show m.pc + 1 + 1 = pc + 1 + 1
    rw [F.pc]
  · intro f hf
    rcases List.mem_cons.mp hf with rfl | hf
    · rfl
    · exact F.fr f hf
  · show m.frames.length + 1 ≤ m.weight + 1 + (m.keep m.inner.isSome).marks.size
    omega
  · show m.weight + 1 + (m.keep m.inner.isSome).marks.size ≤ B + 21
    omega

theorem goes_one_no {N : Nat} {Q : M → Prop} {P : Nat → Bool} {ok : Nat → Prop} {op : Op} {w : Nat} (r : Run code t pc pos m) (hp : pc < code.size) (hw : code.getD pc 0 = w) (hop : ops[w]? = some op) (ho : oneSign op = true) (T : Takes code pc P ok) (hok : pos < t.size → ok (t.getD pos 0)) (h : pos < t.size → P (t.getD pos 0) = false)
    (k : ∀ s', Goes N ({ m with seen := s', answer := some false } : M) Q) : Goes (N + 1) m Q := by
  refine Goes.step ?_
  rw [step_one r hp hw hop ho]
  by_cases hl : pos ≥ t.size
  · rw [if_pos hl]; exact k _
  · rw [if_neg hl]
    obtain ⟨s', e⟩ := T _ (hok (Nat.lt_of_not_le hl)) (m.seen.add (m.word 0))
    rw [e, h (Nat.lt_of_not_le hl)]
    exact k _

theorem Fwd.alt2 (F : Fwd code t I gs B V pc pos m) {a1 a2 s1 s2 : Nat} {ok : Nat → Prop} {P : Nat → Bool} (hp : pc < code.size) (hw : code.getD pc 0 = 7) (ha1 : pc + 1 = a1) (hs1 : code.getD a1 0 = s1) (h1 : s1 ≠ 0) (ha2 : a1 + s1 = a2) (hs2 : code.getD a2 0 = s2) (h2 : s2 ≠ 0) (hB : B + 21 ≤ 16777216)
    (hp1 : a1 + 1 < code.size) (hw1 : code.getD (a1 + 1) 0 = 16) (T : Takes code (a1 + 1) P ok) (hok : pos < t.size → ok (t.getD pos 0)) (hP : pos < t.size → P (t.getD pos 0) = false) : Goes 3 m (Fwd code t I gs (B + 21) V (a2 + 1) pos) := by
  have hks := keep_le F m.inner.isSome
  have hks' := keep_size m m.inner.isSome
  have hwt := F.wt
  have hfl := F.fl
  subst ha1 hs1 ha2 hs2
  refine Goes.step ?_
  rw [step_branch F.toRun hp hw, alt_go (by show m.code.getD (m.pc + 1) 0 ≠ 0; rw [F.code, F.pc]; exact h1), attempt_eq (by show m.weight + 1 + (m.keep m.inner.isSome).marks.size ≤ _; omega)]
  refine goes_one_no (op := .LITERAL) (pc := pc + 1 + 1) (pos := pos) (code := code) (t := t) ⟨⟨F.code, F.text, F.lim, F.whole, F.must, F.out⟩, F.msz, F.ans, by show m.pc + 1 + 1 = pc + 1 + 1; rw [F.pc], F.pos⟩ hp1 hw1 rfl rfl T hok hP fun s' => ?_
  refine Goes.step (Goes.now ?_)
  rw [step_back (f := nbFrame (m.pc + 1) m.pos m.outermost (m.keep m.inner.isSome)) (rest := m.frames) (yes := false) ?so ?sa ?sf, resume_nb rfl]
  case so => exact F.out
  case sa => rfl
  case sf => rfl
  have e1 : m.pc + 1 + m.code.getD (m.pc + 1) 0 = pc + 1 + code.getD (pc + 1) 0 := by rw [F.code, F.pc]
  rw [alt_go (by show m.code.getD (m.pc + 1 + m.code.getD (m.pc + 1) 0) 0 ≠ 0; rw [e1, F.code]; exact h2)]
  have hwt' : m.weight + 1 + (m.keep m.inner.isSome).marks.size - (1 + (m.keep m.inner.isSome).marks.size) = m.weight := by omega
  rw [attempt_eq (by show m.weight + 1 + (m.keep m.inner.isSome).marks.size - (1 + (m.keep m.inner.isSome).marks.size) + 1 + (m.keep m.inner.isSome).marks.size ≤ _; omega)]
  have hsz : ∀ x : M, x.marks = m.marks → (x.putBack (m.keep m.inner.isSome)).marks.size = m.marks.size := fun x e => by rw [putBack_size (by rw [e]; exact hks'), e]
  refine ⟨⟨⟨F.code, F.text, F.lim, F.whole, F.must, F.out⟩, ?_, rfl, ?_, F.pos⟩, ?_, ?_, ?_, ?_, ?_, F.li, F.st⟩
  · exact Nat.le_trans (Nat.le_of_eq (hsz _ rfl)) F.msz
  · show m.pc + 1 + m.code.getD (m.pc + 1) 0 + 1 = _
    rw [e1]
  · intro j
    rw [← F.vis j]
    exact putBack_vis (m := m) (b := m.inner.isSome) (m' := _) rfl (.inr rfl) j
  · exact (hsz _ rfl).trans F.gsz
  · intro f hf
    rcases List.mem_cons.mp hf with rfl | hf
    · rfl
    · exact F.fr f hf
  · show m.frames.length + 1 ≤ m.weight + 1 + (m.keep m.inner.isSome).marks.size - (1 + (m.keep m.inner.isSome).marks.size) + 1 + (m.keep m.inner.isSome).marks.size
    omega
  · show m.weight + 1 + (m.keep m.inner.isSome).marks.size - (1 + (m.keep m.inner.isSome).marks.size) + 1 + (m.keep m.inner.isSome).marks.size ≤ B + 21
    omega

/-- into a loop -/
theorem Fwd.repeat (F : Fwd code t I gs B V pc pos m) {u : Nat} (hp : pc < code.size) (hw : code.getD pc 0 = 23) (hu : pc + 1 + code.getD (pc + 1) 0 = u) (hB : B + 1 ≤ 16777216) : Goes 1 m (Fwd code t (Entered I pc) gs (B + 1) V u pos) := by
  have hwt := F.wt
  have hfl := F.fl
  refine Goes.step (Goes.now ?_)
  rw [step_repeat F.toRun hp hw, attempt_eq (by show m.weight + 1 + 0 ≤ _; omega)]
  refine ⟨⟨⟨F.code, F.text, F.lim, F.whole, F.must, F.out⟩, F.msz, F.ans, ?_, F.pos⟩, F.vis, F.gsz, ?_, ?_, ?_, ⟨m.inner, m.loops, F.li, rfl, ?_⟩, F.st⟩
  · show m.pc + 1 + m.word 1 = u
    rw [F.word, F.pc, hu]
  · intro f hf
    rcases List.mem_cons.mp hf with rfl | hf
    · rfl
    · exact F.fr f hf
  · show m.frames.length + 1 ≤ m.weight + 1 + 0
    omega
  · show m.weight + 1 + 0 ≤ B + 1
    omega
  · show m.loops.push _ = _
    rw [F.pc]

/-- what a loop's until finds -/
structure At (pc : Nat) (i : Nat) (l : Loop) (m : M) : Prop where
  inn : m.inner = some i
  lt : i < m.loops.size
  at_ : m.loopAt i = l
  lpc : l.pc = pc

/-- a round of the loop is tried -/
theorem Fwd.more {J : LI} (F : Fwd code t I gs B V pc pos m) {i q most : Nat} {l : Loop} (hp : pc < code.size) (hw : code.getD pc 0 = 18) (A : At q i l m) (h2 : code.getD (q + 2) 0 = 0) (h3 : code.getD (q + 3) 0 = most) (h0 : 0 ≤ l.count + 1) (hm : l.count + 1 < most ∨ most = maxRepeat) (hb : l.began ≠ some pos) (hB : B + 21 ≤ 16777216)
    (hJ : ∀ x : Loop, x = { l with count := l.count + 1, began := some pos } → J m.inner (m.loops.modify i fun _ => x)) : Goes 1 m (Fwd code t J gs (B + 21) V (q + 4) pos) := by
  have hks := keep_le F true
  have hwt := F.wt
  have hfl := F.fl
  have hlp := A.lpc
  refine Goes.step (Goes.now ?_)
  rw [step_until F.toRun hp hw]
  have hl : ∀ s p, M.loopAt { m with seen := s, pc := p } i = l := fun s p => A.at_
  rw [until_more (m := { m with seen := m.seen.add (m.word 0), pc := m.pc + 1 }) (i := i) (l := l) (most := most) A.inn (hl _ _) (by rw [hlp]; show m.code.getD (q + 2) 0 = 0; rw [F.code]; exact h2) (by rw [hlp]; show m.code.getD (q + 3) 0 = most; rw [F.code]; exact h3) h0 hm (by show l.began ≠ some m.pos; rw [F.pos]; exact hb)]
  rw [attempt_eq (by show m.weight + 1 + (m.keep true).marks.size ≤ _; omega)]
  refine ⟨⟨⟨F.code, F.text, F.lim, F.whole, F.must, F.out⟩, F.msz, F.ans, ?_, F.pos⟩, F.vis, F.gsz, ?_, ?_, ?_, ?_, F.st⟩
  · show l.pc + 4 = q + 4
    rw [hlp]
  · intro f hf
    rcases List.mem_cons.mp hf with rfl | hf
    · rfl
    · exact F.fr f hf
  · show m.frames.length + 1 ≤ m.weight + 1 + (m.keep true).marks.size
    omega
  · show m.weight + 1 + (m.keep true).marks.size ≤ B + 21
    omega
  · have := hJ _ rfl
    have e : (m.loops.modify i fun x => { x with count := l.count + 1, began := some m.pos }) = m.loops.modify i fun _ => { l with count := l.count + 1, began := some pos } := by
      apply Array.ext
      · simp
      · intro j h1 h2
        simp only [Array.getElem_modify]
        by_cases hj : i = j
        · subst hj
          simp only [if_true]
          have : m.loops[i]'A.lt = l := by
            have := A.at_
            unfold M.loopAt at this
            simpa [Array.getD, A.lt] using this
          rw [this, F.pos]
        · simp only [if_neg hj]
    show J m.inner (m.loops.modify i fun x => { x with count := l.count + 1, began := some m.pos })
    rw [e]; exact this

/-- behind a loop -/
theorem tail_fwd {J : LI} {i u : Nat} {c : Int} {l : Loop} {x : M} (hB : B + 1 ≤ 16777216) (R : Run code t u pos x) (hv : ∀ j, visOf x j = V j) (hg : x.marks.size = gs) (hfr : ∀ f ∈ x.frames, okW f.wait = true) (hfl : x.frames.length ≤ x.weight) (hw : x.weight ≤ B) (hst : x.start = 0) (hl : x.loopAt i = l) (hJ : J l.outer x.loops) :
    Fwd code t J gs (B + 1) V u pos (x.afterLoop .maxTail i c fun _ => false) := by
  rw [afterLoop_tail hl, attempt_eq (by show x.weight + 1 + 0 ≤ _; omega)]
  refine ⟨⟨⟨R.code, R.text, R.lim, R.whole, R.must, R.out⟩, R.msz, R.ans, R.pc, R.pos⟩, hv, hg, ?_, ?_, ?_, hJ, hst⟩
  · intro f hf
    rcases List.mem_cons.mp hf with rfl | hf
    · rfl
    · exact hfr f hf
  · show x.frames.length + 1 ≤ x.weight + 1 + 0
    omega
  · show x.weight + 1 + 0 ≤ B + 1
    omega

theorem Fwd.leave {J : LI} (F : Fwd code t I gs B V pc pos m) {i q most : Nat} {l : Loop} (hp : pc < code.size) (hw : code.getD pc 0 = 18) (A : At q i l m) (h2 : code.getD (q + 2) 0 = 0) (h3 : code.getD (q + 3) 0 = most) (h0 : 0 ≤ l.count + 1) (hm : (¬ l.count + 1 < most ∧ most ≠ maxRepeat) ∨ l.began = some pos) (hB : B + 1 ≤ 16777216)
    (hJ : J l.outer m.loops) : Goes 1 m (Fwd code t J gs (B + 1) V (pc + 1) pos) := by
  have hlp := A.lpc
  refine Goes.step (Goes.now ?_)
  rw [step_until F.toRun hp hw]
  have hl : ∀ s p, M.loopAt { m with seen := s, pc := p } i = l := fun s p => A.at_
  rw [until_tail (m := { m with seen := m.seen.add (m.word 0), pc := m.pc + 1 }) (i := i) (l := l) (most := most) A.inn (hl _ _) (by rw [hlp]; show m.code.getD (q + 2) 0 = 0; rw [F.code]; exact h2) (by rw [hlp]; show m.code.getD (q + 3) 0 = most; rw [F.code]; exact h3) h0 (by
    rcases hm with h | h
    · exact .inl h
    · exact .inr (by show l.began = some m.pos; rw [F.pos]; exact h))]
  exact tail_fwd hB ⟨⟨F.code, F.text, F.lim, F.whole, F.must, F.out⟩, F.msz, F.ans, by show m.pc + 1 = pc + 1; rw [F.pc], F.pos⟩ F.vis F.gsz F.fr F.fl F.wt F.st (hl _ _) hJ

/-- a round is tried, comes back, and the loop is left -/
theorem Fwd.skip {J1 J2 : LI} {N : Nat} (F : Fwd code t I gs B V pc pos m) {i q most : Nat} {l : Loop} (hp : pc < code.size) (hw : code.getD pc 0 = 18) (A : At q i l m) (h2 : code.getD (q + 2) 0 = 0) (h3 : code.getD (q + 3) 0 = most) (h0 : 0 ≤ l.count + 1) (hm : l.count + 1 < most ∨ most = maxRepeat) (hb : l.began ≠ some pos) (hB : B + 42 ≤ 16777216)
    (hJ1 : ∀ x : Loop, x = { l with count := l.count + 1, began := some pos } → J1 m.inner (m.loops.modify i fun _ => x)) (hJ2 : J2 l.outer m.loops) (hN : Fails code t J1 (B + 21) (q + 4) pos N) : Goes (1 + (N + 1)) m (Fwd code t J2 gs (B + 1) V (pc + 1) pos) := by
  have hks := keep_le F true
  have hks' := keep_size m true
  have hwt := F.wt
  have hlp := A.lpc
  have hll : m.loops.getD i { pc := 0, outer := none } = l := A.at_
  have hl? : m.loops[i]? = some l := by
    have := A.lt
    rw [Array.getElem?_eq_getElem this]
    simpa [Array.getD, this] using hll
  refine Goes.le ?_ (show (N + 1) + 1 ≤ _ by omega)
  refine Goes.step ?_
  rw [step_until F.toRun hp hw]
  have hl : ∀ s p, M.loopAt { m with seen := s, pc := p } i = l := fun s p => A.at_
  rw [until_more (m := { m with seen := m.seen.add (m.word 0), pc := m.pc + 1 }) (i := i) (l := l) (most := most) A.inn (hl _ _) (by rw [hlp]; show m.code.getD (q + 2) 0 = 0; rw [F.code]; exact h2) (by rw [hlp]; show m.code.getD (q + 3) 0 = most; rw [F.code]; exact h3) h0 hm (by show l.began ≠ some m.pos; rw [F.pos]; exact hb)]
  rw [attempt_eq (by show m.weight + 1 + (m.keep true).marks.size ≤ _; omega)]
  have e0 : (m.loops.modify i fun x => { x with count := l.count + 1, began := some m.pos }) = m.loops.modify i fun _ => { l with count := l.count + 1, began := some pos } := by
    apply Array.ext
    · simp
    · intro j h1 h2
      simp only [Array.getElem_modify]
      by_cases hj : i = j
      · subst hj
        simp only [if_true]
        have : m.loops[i]'A.lt = l := by simpa [Array.getD, A.lt] using hll
        rw [this, F.pos]
      · simp only [if_neg hj]
  refine Goes.bind (hN _ ⟨⟨F.code, F.text, F.lim, F.whole, F.must, F.out⟩, F.msz, F.ans, ?_, F.pos⟩ ?_ ?_) fun m1 b1 => ?_
  · show l.pc + 4 = q + 4
    rw [hlp]
  · show J1 m.inner (m.loops.modify i fun x => { x with count := l.count + 1, began := some m.pos })
    rw [e0]; exact hJ1 _ rfl
  · show m.weight + 1 + (m.keep true).marks.size ≤ B + 21
    omega
  refine Goes.step (Goes.now ?_)
  rw [step_back b1.out b1.ans b1.frames, resume_more_no rfl]
  have hls : (m1.loops.modify i fun x => { x with began := l.began }).modify i (fun x => { x with count := l.count + 1 - 1 }) = m.loops := by
    rw [b1.loops]
    show ((m.loops.modify i fun x => { x with count := l.count + 1, began := some m.pos }).modify i fun x => { x with began := l.began }).modify i (fun x => { x with count := l.count + 1 - 1 }) = m.loops
    refine modify_back fun x hx => ?_
    rw [hl?] at hx
    cases hx
    cases l
 
    show Loop.mk _ _ _ _ = Loop.mk _ _ _ _
    congr 1
    exact Int.add_sub_cancel _ _
  have hwt' : m1.weight - (1 + (m.keep true).marks.size) = m.weight := by rw [b1.weight]; show m.weight + 1 + (m.keep true).marks.size - (1 + (m.keep true).marks.size) = _; omega
  have hms : m1.marks.size = m.marks.size := b1.marks
  refine tail_fwd (l := l) (by omega) ⟨⟨b1.code, b1.text, b1.lim, b1.whole, b1.must, b1.out⟩, ?_, rfl, by show m.pc + 1 = pc + 1; rw [F.pc], F.pos⟩ ?_ ?_ ?_ ?_ ?_ ?_ ?_ ?_
  · refine Nat.le_trans (Nat.le_of_eq (putBack_size ?_)) (Nat.le_trans (Nat.le_of_eq hms) F.msz)
    exact Nat.le_trans hks' (Nat.le_of_eq hms.symm)
  · intro j
    rw [← F.vis j]
    exact putBack_vis (m := m) (b := true) (m' := _) hms (.inl rfl) j
  · refine (putBack_size ?_).trans (hms.trans F.gsz)
    exact Nat.le_trans hks' (Nat.le_of_eq hms.symm)
  · exact F.fr
  · show m.frames.length ≤ m1.weight - (1 + (m.keep true).marks.size)
    rw [hwt']; exact F.fl
  · show m1.weight - (1 + (m.keep true).marks.size) ≤ B
    rw [hwt']; exact F.wt
  · exact b1.start.trans F.st
  · have e : Array.getD ((m1.loops.modify i fun x => { x with began := l.began }).modify i (fun x => { x with count := l.count + 1 - 1 })) i { pc := 0, outer := none } = l := by rw [hls]; exact hll
    exact e
  · have e : J2 l.outer ((m1.loops.modify i fun x => { x with began := l.began }).modify i (fun x => { x with count := l.count + 1 - 1 })) := by rw [hls]; exact hJ2
    exact e

/-! ## the end of a match -/
structure Won (V : Nat → Option Nat) (p gs : Nat) (m : M) : Prop where
  out : m.outcome = some .matched
  vis : ∀ j, visOf m j = V j
  start : m.start = 0
  handed : m.handed = p
  gsz : m.marks.size = gs

theorem pop_yes {p : Nat} : ∀ (fs : List Sre.Frame) (x : M), x.frames = fs → (∀ f ∈ fs, okW f.wait = true) → x.outcome = none → x.answer = some true → (∀ j, visOf x j = V j) → x.start = 0 → x.handed = p → x.marks.size = gs → Goes (fs.length + 1) x (Won V p gs)
  | [], x, hf, _, ho, ha, hv, hs, hh, hg => by
    refine Goes.step (Goes.now ?_)
    have e : x.step = { x with outcome := some .matched } := by
      unfold M.step
      rw [if_neg (by rw [ho]; exact Bool.false_ne_true)]
      split
      · rename_i h1 h2; rw [ha] at h1; cases h1; rfl
      · rename_i h1 h2; rw [hf] at h2; cases h2
      · rename_i h; rw [ha] at h; cases h
    rw [e]
    exact ⟨rfl, hv, hs, hh, hg⟩
  | f :: fs, x, hf, hok, ho, ha, hv, hs, hh, hg => by
    refine Goes.step ?_
    rw [step_back ho ha hf]
    have hw := hok f (.head _)
    have rest := fun (y : M) (a1 : y.frames = fs) (a2 : y.outcome = none) (a3 : y.answer = some true) (a4 : ∀ j, visOf y j = V j) (a5 : y.start = 0) (a6 : y.handed = p) (a7 : y.marks.size = gs) => pop_yes fs y a1 (fun g hg => hok g (.tail _ hg)) a2 a3 a4 a5 a6 a7
    cases hwt : f.wait <;> rw [hwt] at hw <;> first | (cases hw; done) | skip
    · rw [resume_yes (.inr (.inr hwt))]
      exact rest _ rfl ho rfl hv hs hh hg
    · rw [resume_yes (.inl hwt)]
      exact rest _ rfl ho rfl hv hs hh hg
    · rw [resume_yes (.inr (.inl hwt))]
      exact rest _ rfl ho rfl hv hs hh hg
    · rw [resume_close hwt]
      exact rest _ rfl ho rfl hv hs hh hg
    · rw [resume_more_yes hwt]
      exact rest _ rfl ho rfl hv hs hh hg
    · rw [resume_tail hwt]
      exact rest _ rfl ho rfl hv hs hh hg

theorem Fwd.success (F : Fwd code t I gs B V pc pos m) (hp : pc < code.size) (hw : code.getD pc 0 = 1) : Goes (B + 2) m (Won V pos gs) := by
  have e : m.step = M.say { m with seen := m.seen.add (m.word 0), handed := m.pos } true := by
    rw [step_run F.out F.ans (F.lt hp)]
    unfold M.exec
    simp only [F.at hw (op := .SUCCESS) rfl]
    rw [F.whole, F.must]
    simp
  refine Goes.step (Goes.le ?_ (show m.frames.length + 1 ≤ B + 1 by have := F.fl; have := F.wt; omega))
  rw [e]
  exact pop_yes m.frames _ rfl F.fr F.out rfl F.vis F.st F.pos F.gsz

/-- at the text's end -/
theorem Fwd.atEnd (F : Fwd code t I gs B V pc pos m) (hp : pc < code.size) (hw : code.getD pc 0 = 6) (h1 : code.getD (pc + 1) 0 = 5) (h : pos = t.size) : Goes 1 m (Fwd code t I gs B V (pc + 2) pos) := by
  refine Goes.step (Goes.now ?_)
  rw [step_at (b := true) F.toRun hp hw h1 fun x hx hl ht => by rw [isAt_end hx hl ht, h]; simp, if_pos rfl]
  refine ⟨⟨⟨F.code, F.text, F.lim, F.whole, F.must, F.out⟩, F.msz, F.ans, ?_, F.pos⟩, F.vis, F.gsz, F.fr, F.fl, F.wt, F.li, F.st⟩
  show m.pc + 2 = pc + 2
  rw [F.pc]
theorem Fwd.atBegin (F : Fwd code t I gs B V pc pos m) (hp : pc < code.size) (hw : code.getD pc 0 = 6) (h1 : code.getD (pc + 1) 0 = 0) (h : pos = 0) : Goes 1 m (Fwd code t I gs B V (pc + 2) pos) := by
  refine Goes.step (Goes.now ?_)
  rw [step_at (b := true) F.toRun hp hw h1 fun x hx _ _ => by rw [isAt_begin hx, h]; rfl, if_pos rfl]
  refine ⟨⟨⟨F.code, F.text, F.lim, F.whole, F.must, F.out⟩, F.msz, F.ans, ?_, F.pos⟩, F.vis, F.gsz, F.fr, F.fl, F.wt, F.li, F.st⟩
  show m.pc + 2 = pc + 2
  rw [F.pc]
theorem Fwd.li_of {J : LI} (F : Fwd code t I gs B V pc pos m) (h : J m.inner m.loops) : Fwd code t J gs B V pc pos m := { F with li := h }
theorem Fwd.le {B' : Nat} (F : Fwd code t I gs B V pc pos m) (h : B ≤ B') : Fwd code t I gs B' V pc pos m := { F with wt := Nat.le_trans F.wt h }
end
end Mine

end
section
set_option maxRecDepth 100000
set_option linter.unusedVariables false
set_option linter.unusedSectionVars false
namespace Mine
open PySem PySem.Sre

theorem ItemAt.mw {code : Array Nat} {o mk : Nat} (I : ItemAt code o mk) (j k : Nat) (h : (mks.getD j 0 == k && decide (j < 8)) = true) : code.getD (o + k) 0 = mk + j := by
  simp only [Bool.and_eq_true, decide_eq_true_eq, beq_iff_eq] at h
  rw [← h.1]
  exact I.m j h.2

/-- the marks behind a limit -/
def itemV (mk a0 a1 a2 a3 a4 a5 a6 a7 : Nat) (V : Nat → Option Nat) : Nat → Option Nat :=
  up (up ((fun W => if a4 < a5 then up (up W (mk + 4) a4) (mk + 5) a5 else W) (up (up (up (up V (mk + 0) a0) (mk + 1) a1) (mk + 2) a2) (mk + 3) a3)) (mk + 6) a6) (mk + 7) a7

section
variable {code t : Array Nat} {I : LI} {gs B o mk : Nat} {V : Nat → Option Nat} {pc pos : Nat} {m : M}

theorem Fwd.run {P : Nat → Bool} {least next q : Nat} (F : Fwd code t I gs B V pc pos m) (R : RepAt code pc P least next) (hs : t.size ≤ 400) (hok : ∀ q, q < t.size → okc (t.getD q 0) = true) (hB : B + 21 ≤ 16777216) (hl : least ≤ rl P t pos) (hz : pos ≤ t.size) (hq : q = pos + rl P t pos) : Goes 1 m (Fwd code t I gs (B + 21) V next q) := by
  rw [hq]
  exact F.rep R.hp R.hw R.h2 R.h3 R.hn R.T (fun q _ h => hok q h) hB (cnt_rl hs) hl hz

theorem InOpt.into {q : Nat} (hq : (Entered I q) m.inner m.loops) : ∃ i l, At q i l m ∧ l.count = -1 ∧ l.began = none ∧ I l.outer m.loops.pop ∧ m.loops = m.loops.pop.push l ∧ i = m.loops.pop.size ∧ l = { pc := q, outer := l.outer } := by
  obtain ⟨in0, ls0, h0, h1, h2⟩ := hq
  refine ⟨ls0.size, { pc := q, outer := in0 }, ⟨h1, by rw [h2, Array.size_push]; omega, loopAt_push h2, rfl⟩, rfl, rfl, ?_, ?_, ?_, rfl⟩
  · rw [h2, Array.pop_push]; exact h0
  · rw [h2, Array.pop_push]
  · rw [h2, Array.pop_push]

theorem push_modify (ls : Array Loop) (l x : Loop) : (ls.push l).modify ls.size (fun _ => x) = ls.push x := by
  apply Array.ext
  · simp
  · intro j h1 h2
    simp only [Array.getElem_modify, Array.getElem_push]
    by_cases hj : ls.size = j
    · subst hj; simp
    · simp only [if_neg hj]
      have : j < ls.size := by simp at h1; omega
      simp [this]

theorem Fwd.item {p a0 a1 a2 a3 a4 a5 a6 a7 a8 : Nat} (F : Fwd code t I gs B V o p m) (IA : ItemAt code o mk) (hs : t.size ≤ 400) (hok : ∀ q, q < t.size → okc (t.getD q 0) = true) (hI : ∀ a b l, I a b → I a (b.push l)) (P : Parts t p a0 a1 a2 a3 a4 a5 a6 a7 a8) (hp : p ≤ t.size) (hB : B + 400 ≤ 16777216) (hg : mk + 8 ≤ gs) :
    Goes 60 m (Fwd code t I gs (B + 300) (itemV mk a0 a1 a2 a3 a4 a5 a6 a7 V) (o + 227) a8) := by
  have z0 : a0 ≤ t.size := by rw [P.e0]; exact rl_end hok _ hp
  have z1 : a1 ≤ t.size := by rw [P.e1]; exact rl_end hok _ z0
  have z2 : a2 ≤ t.size := by rw [P.e2]; exact rl_end hok _ z1
  have z3 : a3 ≤ t.size := by
    rcases P.mid with h | h
    · omega
    · rw [h.2.2.2.2]; exact rl_end hok _ (by omega)
  have z4 : a4 ≤ t.size := by rw [P.e4]; exact rl_end hok _ z3
  have z5 : a5 ≤ t.size := by rw [P.e5]; exact rl_end hok _ z4
  have z6 : a6 ≤ t.size := by rw [P.e6]; exact rl_end hok _ z5
  have z7 : a7 ≤ t.size := by rw [P.e7]; exact rl_end hok _ z6
  have w39 := IA.wd 39 16 (by decide +kernel)
  have wid : ∀ {k}, code.getD (o + k) 0 = 40 → itemWidth code (o + k) = 2 := fun h => by unfold itemWidth; rw [h]; rfl
  refine Goes.le (N := 1 + (1 + (1 + (1 + (1 + (1 + (20 + (1 + (1 + (1 + (20 + (1 + (1 + (1 + (1 + 1))))))))))))))) ?_ (by omega)
  refine Goes.bind (F.run IA.r0 hs hok (by omega) (Nat.zero_le _) hp P.e0) fun m1 F => ?_
  refine Goes.bind (F.mark (IA.lt 10 (by decide)) (IA.wd 10 17 (by decide +kernel)) (IA.mw 0 11 (by decide)) (by omega)) fun m2 F => ?_
  refine Goes.bind (F.run IA.r12 hs hok (by omega) P.d0 z0 P.e1) fun m3 F => ?_
  refine Goes.bind (F.mark (IA.lt 23 (by decide)) (IA.wd 23 17 (by decide +kernel)) (IA.mw 1 24 (by decide)) (by omega)) fun m4 F => ?_
  refine Goes.bind (F.run IA.r25 hs hok (by omega) (Nat.zero_le _) z1 P.e2) fun m5 F => ?_
  refine Goes.bind (F.mark (IA.lt 35 (by decide)) (IA.wd 35 17 (by decide +kernel)) (IA.mw 2 36 (by decide)) (by omega)) fun m6 F => ?_
  refine Goes.bind (P := Fwd code t I gs (B + 21 + 21 + 21 + 63) (up (up (up V (mk + 0) a0) (mk + 1) a1) (mk + 2) a2) (o + 73) a3) ?_ fun m7 F => ?_
  · rcases P.mid with ⟨hl, hsl, e3⟩ | ⟨hl, hc1, hc2, hc3, e3⟩
    · refine Goes.le (N := 1 + (1 + 1)) ?_ (by omega)
      refine Goes.bind (F.alt1 (a1 := o + 38) (IA.lt 37 (by decide)) (IA.wd 37 7 (by decide +kernel)) rfl (by rw [IA.wd 38 5 (by decide +kernel)]; decide) (by omega)) fun m F => ?_
      refine Goes.bind (F.one (op := .LITERAL) (pc' := o + 41) (IA.lt 39 (by decide)) w39 rfl rfl (takes_lit w39 (IA.wd 40 47 (by decide +kernel))) hl (hok _ hl) (by unfold itemWidth; rw [w39]; rfl) hsl) fun m F => ?_
      refine Goes.mono (F.jump (IA.lt 41 (by decide)) (IA.wd 41 15 (by decide +kernel)) (pc' := o + 73) (by rw [show o + 41 + 1 = o + 42 by omega, IA.wd 42 31 (by decide +kernel)])) (Nat.le_refl _) fun m F => ?_
      rw [e3]
      exact F.le (by omega)
    · have hl2 : a2 < t.size := by omega
      have w1 := IA.wd 54 40 (by decide +kernel)
      have w2 := IA.wd 56 40 (by decide +kernel)
      have w3 := IA.wd 58 40 (by decide +kernel)
      have nsl : (t.getD a2 0 == 47) = false := by
        have := ok_all (p := fun c => !(lowc c == 112) || !(c == 47)) (by decide +kernel) (hok a2 hl2)
        rw [hc1] at this
        simpa using this
      have nbl : blankc (t.getD a2 0) = false := by
        have := ok_all (p := fun c => !(lowc c == 112) || !(blankc c)) (by decide +kernel) (hok a2 hl2)
        rw [hc1] at this
        simpa using this
      refine Goes.le (N := 3 + (1 + (1 + (1 + (1 + (1 + 1)))))) ?_ (by omega)
      refine Goes.bind (F.alt2 (a1 := o + 38) (a2 := o + 43) (IA.lt 37 (by decide)) (IA.wd 37 7 (by decide +kernel)) rfl (IA.wd 38 5 (by decide +kernel)) (by decide) rfl (IA.wd 43 29 (by decide +kernel)) (by decide) (by omega) (IA.lt 39 (by decide)) w39 (takes_lit w39 (IA.wd 40 47 (by decide +kernel))) (fun h => hok _ h) (fun _ => nsl)) fun m F => ?_
      refine Goes.bind (F.run (q := a2) IA.r44 hs hok (by omega) (Nat.zero_le _) z2 (by rw [rl_zero fun _ => nbl, Nat.add_zero])) fun m F => ?_
      refine Goes.bind (F.one (op := .LITERAL_UNI_IGNORE) (pc' := o + 56) (IA.lt 54 (by decide)) w1 rfl rfl (takes_low w1 (IA.wd 55 112 (by decide +kernel))) hl2 (hok _ hl2) (by rw [wid w1]) hc1) fun m F => ?_
      refine Goes.bind (F.one (op := .LITERAL_UNI_IGNORE) (pc' := o + 58) (IA.lt 56 (by decide)) w2 rfl rfl (takes_low w2 (IA.wd 57 101 (by decide +kernel))) (by omega) (hok _ (by omega)) (by rw [wid w2]) hc2) fun m F => ?_
      refine Goes.bind (F.one (op := .LITERAL_UNI_IGNORE) (pc' := o + 60) (IA.lt 58 (by decide)) w3 rfl rfl (takes_low w3 (IA.wd 59 114 (by decide +kernel))) (by omega) (hok _ (by omega)) (by rw [wid w3]) hc3) fun m F => ?_
      refine Goes.bind (F.run (q := a3) IA.r60 hs hok (by omega) (Nat.zero_le _) (by omega) e3) fun m F => ?_
      refine Goes.mono (F.jump (IA.lt 70 (by decide)) (IA.wd 70 15 (by decide +kernel)) (pc' := o + 73) (by rw [show o + 70 + 1 = o + 71 by omega, IA.wd 71 2 (by decide +kernel)])) (Nat.le_refl _) fun m F => ?_
      exact F.le (by omega)
  refine Goes.bind (F.mark (IA.lt 73 (by decide)) (IA.wd 73 17 (by decide +kernel)) (IA.mw 3 74 (by decide)) (by omega)) fun m8 F => ?_
  refine Goes.bind (F.run IA.r75 hs hok (by omega) (Nat.zero_le _) z3 P.e4) fun m9 F => ?_
  refine Goes.bind (F.repeat (u := o + 104) (IA.lt 85 (by decide)) (IA.wd 85 23 (by decide +kernel)) (by rw [show o + 85 + 1 = o + 86 by omega, IA.wd 86 18 (by decide +kernel)]) (by omega)) fun m10 F => ?_
  refine Goes.bind (P := Fwd code t I gs (B + 21 + 21 + 21 + 63 + 21 + 1 + 43) ((fun W => if a4 < a5 then up (up W (mk + 4) a4) (mk + 5) a5 else W) (up (up (up (up V (mk + 0) a0) (mk + 1) a1) (mk + 2) a2) (mk + 3) a3)) (o + 105) a5) ?_ fun m11 F => ?_
  · obtain ⟨i, l, hA, hcnt, hbeg, hi0, hpp, hii, hle⟩ := InOpt.into F.li
    have hmod : ∀ x, m10.loops.modify i (fun _ => x) = m10.loops.pop.push x := fun x => by
      revert hpp
      rw [hii]
      generalize m10.loops.pop = ls
      intro hpp
      rw [hpp, push_modify]
    have hJ : ∀ x : Loop, x = { l with count := l.count + 1, began := some a4 } → InOpt I (o + 85) m10.inner (m10.loops.modify i fun _ => x) := fun x hx => by
      refine ⟨l.outer, m10.loops.pop, some a4, hi0, ?_, ?_⟩
      · rw [hA.inn, hii]
      · rw [hmod, hx, hcnt]
        congr 1
        rw [show l.pc = o + 85 from hA.lpc]
        rfl
    rcases Nat.eq_zero_or_pos (rl digc t a4) with hz | hz
    · have e54 : a5 = a4 := by have := P.e5; omega
      have hnd : a4 < t.size → digc (t.getD a4 0) = false := fun h => stop_of hok (P := digc) (p := a4) (by omega) h
      have := F.skip (J1 := InOpt I (o + 85)) (J2 := I) (N := 3) (most := 1) (IA.lt 104 (by decide)) (IA.wd 104 18 (by decide +kernel)) hA (IA.wd 87 0 (by decide +kernel)) (IA.wd 88 1 (by decide +kernel)) (by rw [hcnt]; decide) (.inl (by rw [hcnt]; decide)) (by rw [hbeg]; intro h; cases h) (by omega) hJ (by rw [hpp]; exact hI _ _ _ hi0)
        (fails_mark (N := 2) (IA.lt 89 (by decide)) (IA.wd 89 17 (by decide +kernel)) (fails_less IA.r91 hs hok (by omega) hnd))
      refine Goes.mono this (by omega) fun m F => ?_
      dsimp only
      rw [e54, if_neg (Nat.lt_irrefl _)]
      exact F.le (by omega)
    · have h45 : a4 < a5 := by have := P.e5; omega
      refine Goes.le (N := 1 + (1 + (1 + (1 + 1)))) ?_ (by omega)
      refine Goes.bind (F.more (J := InOpt I (o + 85)) (most := 1) (IA.lt 104 (by decide)) (IA.wd 104 18 (by decide +kernel)) hA (IA.wd 87 0 (by decide +kernel)) (IA.wd 88 1 (by decide +kernel)) (by rw [hcnt]; decide) (.inl (by rw [hcnt]; decide)) (by rw [hbeg]; intro h; cases h) (by omega) hJ) fun m F => ?_
      refine Goes.bind (F.mark (IA.lt 89 (by decide)) (IA.wd 89 17 (by decide +kernel)) (IA.mw 4 90 (by decide)) (by omega)) fun m F => ?_
      refine Goes.bind (F.run IA.r91 hs hok (by omega) hz z4 P.e5) fun m F => ?_
      refine Goes.bind (F.mark (IA.lt 102 (by decide)) (IA.wd 102 17 (by decide +kernel)) (IA.mw 5 103 (by decide)) (by omega)) fun m F => ?_
      obtain ⟨in0, ls0, b0, h0, h1, h2⟩ := F.li
      refine Goes.mono (F.leave (J := I) (i := ls0.size) (q := o + 85) (most := 1) (l := { pc := o + 85, count := 0, began := b0, outer := in0 }) (IA.lt 104 (by decide)) (IA.wd 104 18 (by decide +kernel)) ⟨h1, by rw [h2, Array.size_push]; omega, loopAt_push h2, rfl⟩ (IA.wd 87 0 (by decide +kernel)) (IA.wd 88 1 (by decide +kernel)) (by show (0 : Int) ≤ 0 + 1; decide) (.inl ⟨by show ¬ (0 : Int) + 1 < ((1 : Nat) : Int); decide, by decide⟩) (by omega) (by rw [h2]; exact hI _ _ _ h0)) (Nat.le_refl _) fun m F => ?_
      dsimp only
      rw [if_pos h45]
      exact F.le (by omega)
  refine Goes.bind (F.run IA.r105 hs hok (by omega) (Nat.zero_le _) z5 P.e6) fun m12 F => ?_
  refine Goes.bind (F.mark (IA.lt 115 (by decide)) (IA.wd 115 17 (by decide +kernel)) (IA.mw 6 116 (by decide)) (by omega)) fun m13 F => ?_
  refine Goes.bind (F.run IA.r117 hs hok (by omega) P.d7 z6 P.e7) fun m14 F => ?_
  refine Goes.bind (F.mark (IA.lt 215 (by decide)) (IA.wd 215 17 (by decide +kernel)) (IA.mw 7 216 (by decide)) (by omega)) fun m15 F => ?_
  exact Goes.mono (F.run IA.r217 hs hok (by omega) (Nat.zero_le _) z7 P.e8) (Nat.le_refl _) fun m F => F.le (by omega)
end
end Mine

end
section
set_option maxRecDepth 100000
set_option linter.unusedVariables false
set_option linter.unusedSectionVars false
namespace Mine
open PySem PySem.Sre

def OrdOn (S : Nat → Prop) (V : Nat → Option Nat) : Prop := ∀ g b e, S g → V (2 * g) = some b → V (2 * g + 1) = some e → b ≤ e
def OrdV (V : Nat → Option Nat) : Prop := OrdOn (fun _ => True) V
def nilV : Nat → Option Nat := fun _ => none

theorem Parts.ord {t : Array Nat} {p a0 a1 a2 a3 a4 a5 a6 a7 a8 : Nat} (P : Parts t p a0 a1 a2 a3 a4 a5 a6 a7 a8) : p ≤ a0 ∧ a0 < a1 ∧ a1 ≤ a2 ∧ a2 < a3 ∧ a3 ≤ a4 ∧ a4 ≤ a5 ∧ a5 ≤ a6 ∧ a6 < a7 ∧ a7 ≤ a8 := by
  have h0 := P.e0; have h1 := P.e1; have h2 := P.e2; have h4 := P.e4; have h5 := P.e5; have h6 := P.e6; have h7 := P.e7; have h8 := P.e8
  have d0 := P.d0; have d7 := P.d7
  have h3 : a2 < a3 := by rcases P.mid with h | h <;> omega
  omega

theorem up_ord {S : Nat → Prop} {W : Nat → Option Nat} {i x y : Nat} (hW : OrdOn S W) (hxy : x ≤ y) : OrdOn S (up (up W (2 * i) x) (2 * i + 1) y) := by
  intro g b e hs hb he
  unfold up at hb he
  by_cases hg : g = i
  · subst hg
    rw [if_neg (by omega), if_pos rfl] at hb
    rw [if_pos rfl] at he
    cases hb; cases he; exact hxy
  · rw [if_neg (by omega), if_neg (by omega)] at hb
    rw [if_neg (by omega), if_neg (by omega)] at he
    exact hW g b e hs hb he
theorem itemV_ord {S : Nat → Prop} {k a0 a1 a2 a3 a4 a5 a6 a7 : Nat} {V : Nat → Option Nat} (h : OrdOn S V) (h1 : a0 ≤ a1) (h2 : a2 ≤ a3) (h3 : a4 ≤ a5) (h4 : a6 ≤ a7) : OrdOn S (itemV (2 * k) a0 a1 a2 a3 a4 a5 a6 a7 V) := by
  unfold itemV
  dsimp only
  have s0 := up_ord (i := k) h h1
  have s1 := up_ord (i := k + 1) s0 h2
  have s2 : OrdOn S (if a4 < a5 then up (up (up (up (up (up V (2 * k + 0) a0) (2 * k + 1) a1) (2 * k + 2) a2) (2 * k + 3) a3) (2 * k + 4) a4) (2 * k + 5) a5 else up (up (up (up V (2 * k + 0) a0) (2 * k + 1) a1) (2 * k + 2) a2) (2 * k + 3) a3) := by
    split
    · exact up_ord (i := k + 2) s1 h3
    · exact s1
  exact up_ord (i := k + 3) s2 h4
/-- the outer group's marks round about a limit's -/
theorem star_ord {p a0 a1 a2 a3 a4 a5 a6 a7 a8 : Nat} {V : Nat → Option Nat} (h : OrdV V) (h1 : a0 ≤ a1) (h2 : a2 ≤ a3) (h3 : a4 ≤ a5) (h4 : a6 ≤ a7) (h5 : p ≤ a8) : OrdV (up (itemV 10 a0 a1 a2 a3 a4 a5 a6 a7 (up V 8 p)) 9 a8) := by
  have hx : OrdOn (fun g => g ≠ 4) (itemV (2 * 5) a0 a1 a2 a3 a4 a5 a6 a7 (up V 8 p)) := itemV_ord (k := 5) (fun g b e hs hb he => by
    unfold up at hb he
    rw [if_neg (by omega)] at hb
    rw [if_neg (by omega)] at he
    exact h g b e trivial hb he) h1 h2 h3 h4
  intro g b e _ hb he
  by_cases hg : g = 4
  · subst hg
    have eb : itemV 10 a0 a1 a2 a3 a4 a5 a6 a7 (up V 8 p) 8 = some p := by
      unfold itemV
      dsimp only
      split <;> simp [up]
    unfold up at hb he
    rw [if_neg (by decide)] at hb
    rw [if_pos rfl] at he
    have : some p = some b := eb.symm.trans hb
    cases this; cases he
    exact h5
  · unfold up at hb he
    rw [if_neg (by omega)] at hb
    rw [if_neg (by omega)] at he
    exact hx g b e hg hb he

/-- within the outer loop, its last round begun ahead of q -/
def InStarB (pc q : Nat) : LI := fun inner loops => ∃ i c b, (0 : Int) ≤ c + 1 ∧ inner = some i ∧ i < loops.size ∧ loops.getD i { pc := 0, outer := none } = { pc := pc, count := c, began := b, outer := none } ∧ ∀ x, b = some x → x < q
theorem InStarB.push {pc q : Nat} (a : Option Nat) (b : Array Loop) (l : Loop) : InStarB pc q a b → InStarB pc q a (b.push l) := by
  rintro ⟨i, c, g, h0, h1, h2, h3, h4⟩
  refine ⟨i, c, g, h0, h1, by rw [Array.size_push]; omega, ?_, h4⟩
  rw [← h3]
  simp [Array.getD, h2, Nat.lt_succ_of_lt h2, Array.getElem_push_lt h2]
theorem InStarB.mono {pc q q' : Nat} (h : q ≤ q') {a : Option Nat} {b : Array Loop} : InStarB pc q a b → InStarB pc q' a b := by
  rintro ⟨i, c, g, h0, h1, h2, h3, h4⟩
  exact ⟨i, c, g, h0, h1, h2, h3, fun x hx => Nat.lt_of_lt_of_le (h4 x hx) h⟩
theorem Entered.starB {a : Option Nat} {b : Array Loop} {q : Nat} (h : Entered NoLoop 234 a b) : InStarB 234 q a b := by
  obtain ⟨in0, ls0, h0, h1, h2⟩ := h
  refine ⟨ls0.size, -1, none, by decide, h1, by rw [h2, Array.size_push]; omega, ?_, fun x hx => by cases hx⟩
  rw [h2, show in0 = none from h0]
  simp [Array.getD]

theorem Goes.post {N : Nat} {m : M} {P Q : M → Prop} (h : Goes N m P) (k : ∀ m', P m' → Q m') : Goes N m Q := h.mono (Nat.le_refl _) k

theorem yes_le (d : Nat) (h : d ≤ 400) : 1 + (60 + (1 + 1000000 * (d + 1))) ≤ 1152921504606846976 := by omega
theorem fail_le (x : Nat) (h : x ≤ 1099511627776) : 440000 * x + 1 ≤ 1152921504606846976 := by omega
theorem step_le (n d : Nat) (h : d < n) : 1 + (1 + (1 + (1 + (60 + (1 + 1000000 * (d + 1)))))) ≤ 1000000 * (n + 1) := by omega
section
variable {t : Array Nat} (hs : t.size ≤ 400) (hok : ∀ q, q < t.size → okc (t.getD q 0) = true)
include hs hok

set_option maxHeartbeats 4000000 in
theorem star_yes : ∀ n p, t.size - p = n → p ≤ t.size → acc t 9 p = true → (p < t.size → blankc (t.getD p 0) = false) → ∀ V m, OrdV V → Fwd exprC t (InStarB 234 p) 18 (400 * p + 400) V 493 p m → Goes (1000000 * (n + 1)) m (fun m' => ∃ V', Won V' t.size 18 m' ∧ OrdV V') := by
  intro n
  induction n using Nat.strongRecOn with
  | ind n ih =>
    intro p hn hp ha hb V m hV F
    obtain ⟨i, c, b0, h0, h1, h2, h3, h4⟩ := F.li
    have hA : At 234 i { pc := 234, count := c, began := b0, outer := none } m := ⟨h1, h2, h3, rfl⟩
    have hbg : b0 ≠ some p := fun h => Nat.lt_irrefl _ (h4 p h)
    have hmod : ∀ {q}, p < q → ∀ x : Loop, x = { pc := 234, count := c + 1, began := some p, outer := none } → InStarB 234 q m.inner (m.loops.modify i fun _ => x) := fun hq x hx => by
      refine ⟨i, c + 1, some p, by omega, h1, by rw [Array.size_modify]; exact h2, ?_, fun x hx => by cases hx; exact hq⟩
      rw [loopAt_set h2, hx]
    rcases Nat.lt_or_ge p t.size with hl | hge
    · have hsep : sepc (t.getD p 0) = true := by
        have := acc_is hok (P := fun c => sepc c || blankc c) ha hl (by decide +kernel)
        rw [hb hl, Bool.or_false] at this; exact this
      have a0 : acc t 0 (p + 1) = true := by
        rw [← acc_go (P := sepc) (q := 9) (r := 0) hok (by decide +kernel) hl hsep]; exact ha
      obtain ⟨a0, a1, a2, a3, a4, a5, a6, a7, a8, P⟩ := parts_of hok a0
      have hord := P.ord
      have z8 := P.z8
      refine Goes.le (N := 1 + (1 + (1 + (1 + (60 + (1 + 1000000 * (t.size - a8 + 1))))))) ?_ (step_le n (t.size - a8) (by omega))
      refine Goes.bind (F.more (J := InStarB 234 (p + 1)) (most := maxRepeat) (by decide +kernel) (by decide +kernel) hA (by decide +kernel) (by decide +kernel) h0 (.inr rfl) hbg (by omega) (hmod (Nat.lt_succ_self p))) fun m1 F => ?_
      refine Goes.bind (F.mark (i := 8) (by decide +kernel) (by decide +kernel) (by decide +kernel) (by decide)) fun m2 F => ?_
      refine Goes.bind (F.rep (P := fun c => c == 58) (ok := okp) (least := 0) (most := 1) (next := 247) (n := 0) (by decide +kernel) (by decide +kernel) (by decide +kernel) (by decide +kernel) (by decide +kernel) (takes_colon hok) (fun q _ h => hok q h) (by omega) (cnt_zero hok (fun h => by
        have := ok_all (p := fun c => !(c == 58)) (by decide +kernel) (hok p h)
        simpa using this) (by omega)) (Nat.le_refl _) hp) fun m3 F => ?_
      refine Goes.bind (F.rep (P := sepc) (ok := okp) (least := 1) (most := 1) (next := 264) (n := 1) (by decide +kernel) (by decide +kernel) (by decide +kernel) (by decide +kernel) (by decide +kernel) (takes_sep251 hok) (fun q _ h => hok q h) (by omega) (by
        rw [show min 1 (t.size - (p + 0)) = 1 by omega]
        show (if sepc (t.getD p 0) then 1 + 0 else 0) = 1
        rw [if_pos hsep]) (Nat.le_refl _) (by omega)) fun m4 F => ?_
      refine Goes.bind (F.item expr_item2 hs hok InStarB.push P (by omega) (by omega) (by decide)) fun m5 F => ?_
      refine Goes.bind (F.mark (i := 9) (by decide +kernel) (by decide +kernel) (by decide +kernel) (by decide)) fun m6 F => ?_
      refine ih (t.size - a8) (by omega) a8 rfl z8 P.fin (fun h => stop_of hok P.e8 h) _ m6 ?_ ((F.li_of (InStarB.mono (by omega) F.li)).le (by omega))
      exact star_ord hV (by omega) (by omega) (by omega) (by omega) (by omega)
    · have hpe : p = t.size := by omega
      have hno : ¬ p < t.size := by omega
      refine Goes.le (N := (1 + (5 + 1)) + (1 + (400 * p + 400 + 1 + 2))) ?_ (by omega)
      refine Goes.bind (F.skip (J1 := InStarB 234 (p + 1)) (J2 := NoLoop) (N := 5) (most := maxRepeat) (by decide +kernel) (by decide +kernel) hA (by decide +kernel) (by decide +kernel) h0 (.inr rfl) hbg (by omega) (hmod (Nat.lt_succ_self p)) rfl (body_no hok (by omega) fun h => absurd h hno)) fun m1 F => ?_
      refine Goes.bind (F.atEnd (by decide +kernel) (by decide +kernel) (by decide +kernel) hpe) fun m2 F => ?_
      refine Goes.post (F.success (by decide +kernel) (by decide +kernel)) fun m' W => ⟨V, ?_, hV⟩
      rw [← hpe]; exact W

theorem begin_eq {code : Array Nat} {g : Nat} (h : header code = (3, 5)) : ∃ s, forMatch code t g 0 t.size false false =
    if 3 ≤ t.size then ({ code := code, text := t, lim := t.size, start := 0, pc := 5, pos := 0, handed := 0, marks := Array.replicate (2 * g) none, mustAdvance := false, wholeText := false, seen := s } : M)
    else { code := code, text := t, lim := t.size, start := 0, pc := 5, pos := 0, handed := 0, marks := Array.replicate (2 * g) none, mustAdvance := false, wholeText := false, seen := s, answer := some false } := by
  refine ⟨if (header code).2 == 0 then {} else ({} : Seen).add 14, ?_⟩
  have h2 : (5 : Nat) = (header code).2 := by rw [h]
  by_cases hl : 3 ≤ t.size
  · rw [if_pos hl]
    unfold forMatch
    dsimp only
    rw [if_neg (by rw [h]; simp; omega), h2]
    rfl
  · rw [if_neg hl]
    unfold forMatch
    dsimp only
    rw [if_pos (by rw [h]; simp; omega), h2]
    rfl

theorem begin_fwd {code : Array Nat} {g : Nat} {s : Seen} (hg : 2 * g ≤ 20) : Fwd code t NoLoop (2 * g) 0 nilV 5 0 ({ code := code, text := t, lim := t.size, start := 0, pc := 5, pos := 0, handed := 0, marks := Array.replicate (2 * g) none, mustAdvance := false, wholeText := false, seen := s } : M) := by
  refine ⟨⟨⟨rfl, rfl, rfl, rfl, rfl, rfl⟩, by show (Array.replicate (2 * g) none).size ≤ 20; rw [Array.size_replicate]; exact hg, rfl, rfl, rfl⟩, fun j => ?_, Array.size_replicate, fun f hf => (by cases hf), Nat.le_refl _, Nat.le_refl _, rfl, rfl⟩
  unfold visOf
  rw [if_neg (by show ¬ (j : Int) ≤ -1; omega)]
  rfl

theorem parts_3 {p a0 a1 a2 a3 a4 a5 a6 a7 a8 : Nat} (P : Parts t p a0 a1 a2 a3 a4 a5 a6 a7 a8) : 3 ≤ t.size := by
  have := P.ord
  have := P.z8
  omega

set_option maxHeartbeats 4000000 in
/-- the whole pattern matches a text of limits -/
theorem expr_yes (ha : acc t 0 0 = true) : Goes 1152921504606846976 (forMatch exprC t 9 0 t.size false false) (fun m' => ∃ V', Won V' t.size 18 m' ∧ OrdV V') := by
  obtain ⟨a0, a1, a2, a3, a4, a5, a6, a7, a8, P⟩ := parts_of hok ha
  have hord := P.ord
  have z8 := P.z8
  obtain ⟨s, e⟩ := begin_eq (t := t) hs hok (code := exprC) (g := 9) (by decide +kernel)
  rw [e, if_pos (parts_3 hs hok P)]
  have F := begin_fwd (t := t) hs hok (code := exprC) (g := 9) (s := s) (by decide)
  refine Goes.le (N := 1 + (60 + (1 + 1000000 * (t.size - a8 + 1)))) ?_ (yes_le (t.size - a8) (by omega))
  refine Goes.bind (F.atBegin (by decide +kernel) (by decide +kernel) (by decide +kernel) rfl) fun m1 F => ?_
  refine Goes.bind (F.item expr_item1 hs hok (fun _ _ _ h => h) P (by omega) (by omega) (by decide)) fun m2 F => ?_
  refine Goes.bind (F.repeat (u := 493) (by decide +kernel) (by decide +kernel) (by decide +kernel) (by omega)) fun m3 F => ?_
  refine star_yes hs hok _ a8 rfl z8 P.fin (fun h => stop_of hok P.e8 h) _ m3 ?_ ((F.li_of (Entered.starB F.li)).le (by omega))
  exact itemV_ord (k := 0) (fun g b e _ hb he => by cases hb) (by omega) (by omega) (by omega) (by omega)

set_option maxHeartbeats 4000000 in
/-- the pattern of one limit matches, its groups are the parts -/
theorem sing_yes {a0 a1 a2 a3 a4 a5 a6 a7 a8 : Nat} (P : Parts t 0 a0 a1 a2 a3 a4 a5 a6 a7 a8) : Goes 1152921504606846976 (forMatch singC t 4 0 t.size false false) (Won (itemV 0 a0 a1 a2 a3 a4 a5 a6 a7 nilV) a8 8) := by
  obtain ⟨s, e⟩ := begin_eq (t := t) hs hok (code := singC) (g := 4) (by decide +kernel)
  rw [e, if_pos (parts_3 hs hok P)]
  have F := begin_fwd (t := t) hs hok (code := singC) (g := 4) (s := s) (by decide)
  refine Goes.le (N := 60 + (0 + 300 + 2)) ?_ (by omega)
  refine Goes.bind (F.item sing_item hs hok (fun _ _ _ h => h) P (Nat.zero_le _) (by omega) (by decide)) fun m1 F => ?_
  exact F.success (by decide +kernel) (by decide +kernel)

set_option maxHeartbeats 4000000 in
/-- the whole pattern refuses what is no text of limits -/
theorem expr_fail (hw : wtl t.toList ≤ 40) (ha : acc t 0 0 = false) : Goes 1152921504606846976 (forMatch exprC t 9 0 t.size false false) (fun m' => m'.outcome = some .failed) := by
  have last : ∀ m : M, m.outcome = none → m.answer = some false → m.frames = [] → Goes 1 m fun m' => m'.outcome = some .failed := by
    intro m ho h hf
    refine Goes.step (Goes.now ?_)
    unfold M.step
    rw [if_neg (by rw [ho]; exact Bool.false_ne_true)]
    split
    · rename_i h1 h2; rw [h] at h1; cases h1; rfl
    · rename_i h1 h2; rw [hf] at h2; cases h2
    · rename_i h1; rw [h] at h1; cases h1
  obtain ⟨s, e⟩ := begin_eq (t := t) hs hok (code := exprC) (g := 9) (by decide +kernel)
  rw [e]
  by_cases hl : 3 ≤ t.size
  · rw [if_pos hl]
    have F := begin_fwd (t := t) hs hok (code := exprC) (g := 9) (s := s) (by decide)
    have hG : G t 0 ≤ 1099511627776 := Nat.le_trans (Nat.pow_le_pow_right (n := 2) (j := 40) (by decide) (by rw [List.drop_zero]; exact hw)) (by decide)
    refine Goes.le (N := 440000 * G t 0 + 1) ?_ (fail_le _ hG)
    refine Goes.bind (expr_no hs hok ha _ F.toRun F.li F.wt) fun m' b => ?_
    exact last m' b.out b.ans b.frames
  · rw [if_neg hl]
    exact (last _ rfl rfl rfl).le (by omega)
end
end Mine

end
section
set_option maxRecDepth 100000
set_option linter.unusedVariables false
namespace Mine
open PySem PySem.Sre

/-- a limit, read sign by sign: what its parts say -/
theorem rd_item {t : Array Nat} {p a0 a1 a2 a3 a4 a5 a6 a7 a8 : Nat} (hok : ∀ q, q < t.size → okc (t.getD q 0) = true) (P : Parts t p a0 a1 a2 a3 a4 a5 a6 a7 a8) (rows : List (List Nat × Nat × Nat)) :
    ∃ q, 8 ≤ q ∧ rdL ⟨rows, 0, 0, 0, []⟩ (t.toList.drop p) = rdL ⟨rows, q, figs (seg t a0 a1), figs (seg t a4 a5), (seg t a6 a7).map lowc⟩ (t.toList.drop a8) := by
  have hord := P.ord
  have z8 := P.z8
  have hk := fun a b => seg_ok hok a b
  rw [drop_seg (t := t) (a := p) (b := a0) (by omega), rd_bind (rd_blanks (by decide +kernel) _ (hk _ _) (seg_run P.e0))]
  rw [drop_seg (t := t) (a := a0) (b := a1) (by omega), rd_bind (rd_figs1 _ (by
    intro h
    have := seg_len (t := t) (a := a0) (b := a1) (by omega) (by omega)
    rw [h] at this; simp at this; omega) (hk _ _) (seg_run P.e1))]
  rw [drop_seg (t := t) (a := a1) (b := a2) (by omega), rd_bind (rd_blanks1 (q := 1) (q' := 2) (by decide +kernel) (by decide +kernel) _ (hk _ _) (seg_run P.e2))]
  -- the stroke, or per
  obtain ⟨q, hq⟩ : ∃ q, q = (if seg t a1 a2 = [] then 1 else 2) := ⟨_, rfl⟩
  rw [← hq]
  have hq12 : q = 1 ∨ q = 2 := by rw [hq]; split <;> simp
  have hmid : rdL ⟨rows, q, figs (seg t a0 a1), 0, []⟩ (t.toList.drop a2) = rdL ⟨rows, 5, figs (seg t a0 a1), 0, []⟩ (t.toList.drop a3) := by
    have one_ : ∀ (q q' b : Nat), b < t.size → nx q (t.getD b 0) = some q' → ¬ 8 ≤ q' → digc (t.getD b 0) = false → blankc (t.getD b 0) = false → sepc (t.getD b 0) = false → rdL ⟨rows, q, figs (seg t a0 a1), 0, []⟩ (t.toList.drop b) = rdL ⟨rows, q', figs (seg t a0 a1), 0, []⟩ (t.toList.drop (b + 1)) := fun q q' b hb h hq hd hbl hs => by
      have hl : b < t.toList.length := by simpa using hb
      have e : t.toList[b] = t.getD b 0 := by simp [Array.getD, hb]
      rw [List.drop_eq_getElem_cons hl, e]
      have h1 := rd_one (rows := rows) (a := figs (seg t a0 a1)) (m := 0) (n := []) h hd hbl hs hq
      show (match rstep ⟨rows, q, figs (seg t a0 a1), 0, []⟩ (t.getD b 0) with | some r' => rdL r' (t.toList.drop (b + 1)) | none => none) = _
      rw [h1]
    have cls : ∀ (F : Nat → Bool), (oks.all fun c => !(F c) || (!(digc c) && !(blankc c) && !(sepc c))) = true → ∀ b, b < t.size → F (t.getD b 0) = true → digc (t.getD b 0) = false ∧ blankc (t.getD b 0) = false ∧ sepc (t.getD b 0) = false := fun F hF b hb h => by
      have := ok_all (p := fun c => !(F c) || (!(digc c) && !(blankc c) && !(sepc c))) hF (hok b hb)
      rw [h] at this
      simp only [Bool.not_true, Bool.false_or, Bool.and_eq_true, Bool.not_eq_true'] at this
      exact ⟨this.1.1, this.1.2, this.2⟩
    rcases P.mid with ⟨hl, hc, e3⟩ | ⟨hl, hc1, hc2, hc3, e3⟩
    · obtain ⟨x1, x2, x3⟩ := cls (fun c => c == 47) (by decide +kernel) a2 hl hc
      rw [e3]
      refine one_ q 5 a2 hl ?_ (by omega) x1 x2 x3
      rcases hq12 with rfl | rfl
      · exact nx_of (P := fun c => c == 47) (by decide +kernel) (hok _ hl) hc
      · exact nx_of (P := fun c => c == 47) (by decide +kernel) (hok _ hl) hc
    · obtain ⟨x1, x2, x3⟩ := cls (fun c => lowc c == 112) (by decide +kernel) a2 (by omega) hc1
      obtain ⟨y1, y2, y3⟩ := cls (fun c => lowc c == 101) (by decide +kernel) (a2 + 1) (by omega) hc2
      obtain ⟨z1, z2, z3⟩ := cls (fun c => lowc c == 114) (by decide +kernel) (a2 + 2) (by omega) hc3
      rw [one_ q 3 a2 (by omega) (by
        rcases hq12 with rfl | rfl
        · exact nx_of (P := fun c => lowc c == 112) (by decide +kernel) (hok _ (by omega)) hc1
        · exact nx_of (P := fun c => lowc c == 112) (by decide +kernel) (hok _ (by omega)) hc1) (by omega) x1 x2 x3]
      rw [one_ 3 4 (a2 + 1) (by omega) (nx_of (P := fun c => lowc c == 101) (by decide +kernel) (hok _ (by omega)) hc2) (by omega) y1 y2 y3]
      rw [one_ 4 5 (a2 + 1 + 1) (by omega) (nx_of (P := fun c => lowc c == 114) (by decide +kernel) (hok _ (by omega)) hc3) (by omega) z1 z2 z3]
      rw [drop_seg (t := t) (a := a2 + 1 + 1 + 1) (b := a3) (by omega), rd_bind (rd_blanks (by decide +kernel) _ (hk _ _) (seg_run e3))]
  rw [hmid]
  rw [drop_seg (t := t) (a := a3) (b := a4) (by omega), rd_bind (rd_blanks (by decide +kernel) _ (hk _ _) (seg_run P.e4))]
  rw [drop_seg (t := t) (a := a4) (b := a5) (by omega), rd_bind (rd_manys1 _ (hk _ _) (seg_run P.e5))]
  rw [drop_seg (t := t) (a := a5) (b := a6) (by omega)]
  have hlets : ∀ q, (q = 5 ∨ q = 6 ∨ q = 7) → rdL ⟨rows, q, figs (seg t a0 a1), figs (seg t a4 a5), []⟩ (t.toList.drop a6) = rdL ⟨rows, 8, figs (seg t a0 a1), figs (seg t a4 a5), (seg t a6 a7).map lowc⟩ (t.toList.drop a7) := fun q hq => by
    rw [drop_seg (t := t) (a := a6) (b := a7) (by omega), rd_bind (rd_lets1 _ (by
      intro h
      have := seg_len (t := t) (a := a6) (b := a7) (by omega) (by omega)
      rw [h] at this; simp at this; omega) hq (hk _ _) (seg_run P.e7))]
  have hfin : rdL ⟨rows, 8, figs (seg t a0 a1), figs (seg t a4 a5), (seg t a6 a7).map lowc⟩ (t.toList.drop a7) = rdL ⟨rows, if seg t a7 a8 = [] then 8 else 9, figs (seg t a0 a1), figs (seg t a4 a5), (seg t a6 a7).map lowc⟩ (t.toList.drop a8) := by
    rw [drop_seg (t := t) (a := a7) (b := a8) (by omega), rd_bind (rd_blanks1 (q := 8) (q' := 9) (by decide +kernel) (by decide +kernel) _ (hk _ _) (seg_run P.e8))]
  refine ⟨if seg t a7 a8 = [] then 8 else 9, by split <;> omega, ?_⟩
  rw [← hfin]
  by_cases h45 : seg t a4 a5 = []
  · rw [if_pos h45, rd_bind (rd_blanks (by decide +kernel) _ (hk _ _) (seg_run P.e6))]
    exact hlets 5 (.inl rfl)
  · rw [if_neg h45, rd_bind (rd_blanks1 (q := 6) (q' := 7) (by decide +kernel) (by decide +kernel) _ (hk _ _) (seg_run P.e6))]
    exact hlets _ (by split <;> simp)
end Mine

end
section
set_option maxRecDepth 100000
set_option linter.unusedVariables false
namespace Mine
open PySem PySem.Sre

/-- one of the three signs comes behind a limit alone -/
theorem nx_sep {q c : Nat} (hc : okc c = true) (hs : sepc c = true) : nx q c = if 8 ≤ q then some 0 else none := by
  have h3 := ok_all (p := fun c => !(sepc c) || (!(digc c) && !(blankc c) && !(letc c) && !(lowc c == 112) && !(lowc c == 101) && !(lowc c == 114) && !(lowc c == 47))) (by decide +kernel) hc
  rw [hs] at h3
  simp only [Bool.not_true, Bool.false_or, Bool.and_eq_true, Bool.not_eq_true'] at h3
  obtain ⟨⟨⟨⟨⟨⟨a1, a2⟩, a3⟩, a4⟩, a5⟩, a6⟩, a7⟩ := h3
  unfold nx
  simp only [a1, a2, a3, a4, a5, a6, a7, hs, Bool.false_and, Bool.false_eq_true, if_false, Bool.true_and, decide_eq_true_eq]
theorem acc_cut {c : Nat} (hc : okc c = true) (hs : sepc c = true) : ∀ (l : List Nat) (q : Nat) (r : List Nat), accL q (l ++ c :: r) = (accL q l && accL 0 r)
  | [], q, r => by
    show (match nx q c with | some q' => accL q' r | none => false) = (decide (8 ≤ q) && accL 0 r)
    rw [nx_sep hc hs]
    by_cases h : 8 ≤ q
    · rw [if_pos h, decide_eq_true h, Bool.true_and]
    · rw [if_neg h, decide_eq_false h, Bool.false_and]
  | x :: l, q, r => by
    show (match nx q x with | some q' => accL q' (l ++ c :: r) | none => false) = ((match nx q x with | some q' => accL q' l | none => false) && accL 0 r)
    cases nx q x with
    | none => rfl
    | some q' => exact acc_cut hc hs l q' r
end Mine

end
section
set_option maxRecDepth 100000
set_option linter.unusedVariables false
namespace Mine
open PySem PySem.Sre

/-- what a limit's text says: the name, the amount, how many -/
def rowOf (u : Array Nat) : List Nat × Nat × Nat := ((seg u (q6 u) (q7 u)).map lowc, figs (seg u (q0 u) (q1 u)), one (figs (seg u (q4 u) (q5 u))))
/-- a text without the three signs that is accepted is read to the whole -/
theorem rd_piece {u : Array Nat} (hok : ∀ q, q < u.size → okc (u.getD q 0) = true) (hs : ∀ q, q < u.size → sepc (u.getD q 0) = false) (ha : acc u 0 0 = true) (rows : List (List Nat × Nat × Nat)) :
    ∃ q, 8 ≤ q ∧ rdL ⟨rows, 0, 0, 0, []⟩ u.toList = some ⟨rows, q, figs (seg u (q0 u) (q1 u)), figs (seg u (q4 u) (q5 u)), (seg u (q6 u) (q7 u)).map lowc⟩ := by
  have P := parts_q hok ha
  obtain ⟨q, hq, h⟩ := rd_item hok P rows
  refine ⟨q, hq, ?_⟩
  have z8 := P.z8
  have e8 : q8 u = u.size := by
    rcases Nat.lt_or_ge (q8 u) u.size with hl | hl
    · exfalso
      have hb := stop_of hok P.e8 hl
      have := acc_is hok (P := fun c => sepc c || blankc c) P.fin hl (by decide +kernel)
      rw [hb, Bool.or_false, hs _ hl] at this
      cases this
    · omega
  rw [List.drop_zero] at h
  rw [h, e8, List.drop_eq_nil_of_le (by simp)]
  rfl
end Mine

end
section
set_option maxRecDepth 100000
set_option linter.unusedVariables false
set_option linter.unusedSectionVars false
namespace Mine
open PySem PySem.Sre

theorem pop_all : ∀ (fs : List Sre.Frame) (x : M), x.frames = fs → (∀ f ∈ fs, okW f.wait = true) → x.outcome = none → x.answer = some true → Goes (fs.length + 1) x (fun m' => m'.outcome = some .matched ∧ m'.start = x.start ∧ m'.handed = x.handed)
  | [], x, hf, _, ho, ha => by
    refine Goes.step (Goes.now ?_)
    have e : x.step = { x with outcome := some .matched } := by
      unfold M.step
      rw [if_neg (by rw [ho]; exact Bool.false_ne_true)]
      split
      · rename_i h1 h2; rw [ha] at h1; cases h1; rfl
      · rename_i h1 h2; rw [hf] at h2; cases h2
      · rename_i h; rw [ha] at h; cases h
    rw [e]
    exact ⟨rfl, rfl, rfl⟩
  | f :: fs, x, hf, hok, ho, ha => by
    refine Goes.step ?_
    rw [step_back ho ha hf]
    have hw := hok f (.head _)
    have rest := fun (y : M) (a1 : y.frames = fs) (a2 : y.outcome = none) (a3 : y.answer = some true) (a5 : y.start = x.start) (a6 : y.handed = x.handed) => (pop_all fs y a1 (fun g hg => hok g (.tail _ hg)) a2 a3).post fun m' h => (⟨h.1, h.2.1.trans a5, h.2.2.trans a6⟩ : m'.outcome = some .matched ∧ m'.start = x.start ∧ m'.handed = x.handed)
    cases hwt : f.wait <;> rw [hwt] at hw <;> first | (cases hw; done) | skip
    · rw [resume_yes (.inr (.inr hwt))]
      exact rest _ rfl ho rfl rfl rfl
    · rw [resume_yes (.inl hwt)]
      exact rest _ rfl ho rfl rfl rfl
    · rw [resume_yes (.inr (.inl hwt))]
      exact rest _ rfl ho rfl rfl rfl
    · rw [resume_close hwt]
      exact rest _ rfl ho rfl rfl rfl
    · rw [resume_more_yes hwt]
      exact rest _ rfl ho rfl rfl rfl
    · rw [resume_tail hwt]
      exact rest _ rfl ho rfl rfl rfl

theorem pop_le {k : Nat} (x : M) (hk : x.frames.length + 1 ≤ k) (hf : ∀ f ∈ x.frames, okW f.wait = true) (ho : x.outcome = none) (ha : x.answer = some true) : Goes k x (fun m' => m'.outcome = some .matched ∧ m'.start = x.start ∧ m'.handed = x.handed) := (pop_all x.frames x rfl hf ho ha).le hk

/-- a search for one of the three signs, about to look at pos -/
structure Seek (t : Array Nat) (q : Nat) (m : M) : Prop extends Run sepsC t 5 q m where
  fr : ∃ o, m.frames = [{ wait := .nextStart, pc := 5, pos := q, outermost := o }]
  wt : m.weight = 1
  st : m.start = q
  last : m.lastStart = t.size
theorem takes_seps : Takes sepsC 9 sepc okp := takes_sep (by decide +kernel) (by decide +kernel) fun k hk => by
  have : ((List.range 10).all fun k => sepsC.getD (9 + 2 + k) 0 == sepW.getD k 0) = true := by decide +kernel
  simpa using List.all_eq_true.mp this k (List.mem_range.mpr hk)

section
variable {t : Array Nat} (hs : t.size ≤ 400) (hok : ∀ q, q < t.size → okc (t.getD q 0) = true)
include hs hok

theorem seek_hit {p : Nat} {m : M} (S : Seek t p m) (hl : p < t.size) (h : sepc (t.getD p 0) = true) : Goes 6 m (fun m' => m'.outcome = some .matched ∧ m'.start = p ∧ m'.handed = p + 1) := by
  obtain ⟨o, hf⟩ := S.fr
  have hwt := S.wt
  have hks := keep_size m m.inner.isSome
  have hms := S.msz
  refine Goes.le (N := 3 + 1 + 1) ?_ (by omega)
  refine Goes.step ?_
  obtain ⟨s', e⟩ := step_rep (P := sepc) (ok := okp) (least := 1) (most := 1) S.toRun (by decide +kernel) (by decide +kernel) (by decide +kernel) (by decide +kernel) takes_seps (fun q _ h => hok q h) (by omega)
  have ec : cnt sepc t (min 1 (t.size - p)) p = 1 := by
    rw [show min 1 (t.size - p) = 1 by omega]
    show (if sepc (t.getD p 0) then 1 + 0 else 0) = 1
    rw [if_pos h]
  rw [ec] at e
  rw [e, if_neg (Nat.lt_irrefl _)]
  unfold M.afterRun
  rw [attempt_eq (by show m.weight + 1 + (m.keep m.inner.isSome).marks.size ≤ _; omega)]
  refine Goes.step ?_
  have hpc : m.pc + 1 + m.code.getD (m.pc + 1) 0 = 22 := by rw [S.pc, S.code]; decide +kernel
  have es : ∀ x : M, x.outcome = none → x.answer = none → x.pc = 22 → x.code = sepsC → x.wholeText = false → x.mustAdvance = false → x.step = M.say { x with seen := x.seen.add (x.word 0), handed := x.pos } true := by
    intro x h1 h2 h3 h4 h5 h6
    rw [step_run h1 h2 (by rw [h3, h4]; decide +kernel)]
    unfold M.exec
    have hw : ops[x.word 0]? = some .SUCCESS := by
      unfold M.word
      rw [h3, h4]
      rfl
    simp only [hw, h5, h6]
    simp
  rw [es _ ?e1 ?e2 ?e3 ?e4 ?e5 ?e6]
  case e1 => exact S.out
  case e2 => exact S.ans
  case e3 => exact hpc
  case e4 => exact S.code
  case e5 => exact S.whole
  case e6 => exact S.must
  refine Goes.post (pop_le _ ?_ ?_ ?_ ?_) ?_
  · show m.frames.length + 1 + 1 ≤ 3
    rw [hf]
    exact Nat.le_refl _
  · intro f hf'
    rcases List.mem_cons.mp hf' with rfl | hf'
    · rfl
    · have hf'' : f ∈ m.frames := hf'
      rw [hf] at hf''
      rcases List.mem_cons.mp hf'' with rfl | hf''
      · rfl
      · cases hf''
  · exact S.out
  · rfl
  · exact fun m' h => ⟨h.1, h.2.1.trans S.st, h.2.2.trans (by show m.pos + 1 = p + 1; rw [S.pos])⟩

theorem seek_miss {p : Nat} {m : M} (S : Seek t p m) (h : p < t.size → sepc (t.getD p 0) = false) (hp : p ≤ t.size) : Goes 3 m (fun m' => if p < t.size then Seek t (p + 1) m' else m'.outcome = some .failed) := by
  obtain ⟨o, hf⟩ := S.fr
  have hwt := S.wt
  have hno : ∃ s', m.step = { m with seen := s', answer := some false } := by
    rcases Nat.lt_or_ge p t.size with hl | hl
    · obtain ⟨s', e⟩ := step_rep (P := sepc) (ok := okp) (least := 1) (most := 1) S.toRun (by decide +kernel) (by decide +kernel) (by decide +kernel) (by decide +kernel) takes_seps (fun q _ h => hok q h) (by omega)
      have ec : cnt sepc t (min 1 (t.size - p)) p = 0 := by
        rw [show min 1 (t.size - p) = 1 by omega]
        show (if sepc (t.getD p 0) then 1 + 0 else 0) = 0
        rw [h hl]; rfl
      rw [ec, if_pos (by decide)] at e
      exact ⟨s', e⟩
    · refine ⟨m.seen.add (m.word 0), ?_⟩
      rw [step_run S.out S.ans (by rw [S.pc, S.code]; decide +kernel)]
      unfold M.exec
      have e2 : m.word 2 = 1 := by rw [S.word]; decide +kernel
      simp only [S.at (w := 24) (by decide +kernel) (op := .REPEAT_ONE) rfl, word_seen, e2]
      rw [if_pos (by show ((1 : Nat) : Int) > (m.lim : Int) - m.pos; rw [S.lim, S.pos]; omega)]
      rfl
  obtain ⟨s', e⟩ := hno
  refine Goes.step ?_
  rw [e]
  refine Goes.step ?_
  rw [step_back (f := { wait := .nextStart, pc := 5, pos := p, outermost := o }) (rest := []) (yes := false) ?so ?sa ?sf]
  case so => exact S.out
  case sa => rfl
  case sf => exact hf
  have er : ∀ x : M, M.resume x { wait := .nextStart, pc := 5, pos := p, outermost := o } false = if p < x.lastStart then ({ x with mustAdvance := false } : M).attemptFrom (p + 1) false else x.say false := by
    intro x
    unfold M.resume
    simp only [Bool.false_eq_true, if_false]
  rw [er]
  by_cases hl : p < t.size
  · rw [if_pos (by show p < m.lastStart; rw [S.last]; exact hl)]
    refine Goes.now ?_
    rw [if_pos hl]
    have hfs : ∀ x : M, x.code = sepsC → x.hasFirstSet = false := by
      intro x hx
      unfold M.hasFirstSet
      rw [hx]
      decide +kernel
    unfold M.attemptFrom
    rw [hfs _ ?hc]
    case hc => exact S.code
    simp only [Bool.not_false, if_true]
    unfold M.attemptAt
    rw [attempt_eq (by show m.weight - (1 + 0) + 1 + 0 ≤ _; omega)]
    refine ⟨⟨⟨S.code, S.text, S.lim, S.whole, rfl, S.out⟩, S.msz, rfl, rfl, rfl⟩, ⟨false, rfl⟩, ?_, rfl, S.last⟩
    show m.weight - (1 + 0) + 1 + 0 = 1
    omega
  · rw [if_neg (by show ¬ p < m.lastStart; rw [S.last]; exact hl)]
    refine Goes.step (Goes.now ?_)
    rw [if_neg hl]
    unfold M.step
    rw [if_neg (by show ¬ m.outcome.isSome = true; rw [S.out]; exact Bool.false_ne_true)]
    rfl

/-- where the next of the three signs stands -/
def nextSep (t : Array Nat) (p : Nat) : Nat := p + rl (fun c => !sepc c) t p

theorem seek_runs : ∀ n p m, t.size - p = n → p ≤ t.size → Seek t p m → Goes (10 * (n + 1)) m (fun m' => if nextSep t p < t.size then m'.outcome = some .matched ∧ m'.start = nextSep t p ∧ m'.handed = nextSep t p + 1 else m'.outcome = some .failed) := by
  intro n
  induction n with
  | zero =>
    intro p m hn hp S
    have : nextSep t p = p := by
      unfold nextSep
      rw [rl_zero fun h => by omega, Nat.add_zero]
    have hno : ¬ p < t.size := by omega
    simp only [this, hno, if_false]
    refine (seek_miss hs hok S (fun h => by omega) hp).mono (by omega) fun m' h => ?_
    rw [if_neg (by omega)] at h
    exact h
  | succ n ih =>
    intro p m hn hp S
    have hl : p < t.size := by omega
    cases hsep : sepc (t.getD p 0) with
    | true =>
      have : nextSep t p = p := by
        unfold nextSep
        rw [rl_zero fun _ => by rw [hsep]; rfl, Nat.add_zero]
      simp only [this, hl, if_true]
      exact (seek_hit hs hok S hl hsep).le (by omega)
    | false =>
      have : nextSep t p = nextSep t (p + 1) := by
        unfold nextSep rl
        rw [show t.size - p = (t.size - (p + 1)) + 1 by omega]
        rw [cnt]
        rw [if_pos (by rw [hsep]; rfl)]
        omega
      rw [this]
      refine Goes.le (N := 3 + 10 * (n + 1)) ?_ (by omega)
      refine Goes.bind (seek_miss hs hok S (fun _ => hsep) hp) fun m' S' => ?_
      rw [if_pos hl] at S'
      exact ih (p + 1) m' (by omega) (by omega) S'

theorem search_begin {p : Nat} (hp : p ≤ t.size) : if p < t.size then Seek t p (forSearch sepsC t 0 p t.size false) else (forSearch sepsC t 0 p t.size false).answer = some false ∧ (forSearch sepsC t 0 p t.size false).outcome = none ∧ (forSearch sepsC t 0 p t.size false).frames = [] := by
  have hh : header sepsC = (1, 5) := by decide +kernel
  have h5 : (header sepsC).2 = 5 := by decide +kernel
  have hfs : ∀ x : M, x.code = sepsC → x.hasFirstSet = false := by
    intro x hx
    unfold M.hasFirstSet
    rw [hx]
    decide +kernel
  by_cases hl : p < t.size
  · rw [if_pos hl]
    unfold forSearch
    dsimp only
    have h2 : ((header sepsC).2 != 0 && sepsC.getD 2 0 &&& 5 != 0) = false := by decide +kernel
    rw [if_neg (by rw [hh]; simp; omega)]
    have hlast : (if (header sepsC).1 > 1 && !((header sepsC).2 != 0 && sepsC.getD 2 0 &&& 5 != 0) then max p (t.size - ((header sepsC).1 - 1)) else t.size) = t.size := by
      rw [hh]; rfl
    unfold M.attemptFrom
    rw [hfs _ ?hc]
    case hc => rfl
    simp only [Bool.not_false, if_true]
    unfold M.attemptAt
    rw [attempt_eq (by show 0 + 1 + 0 ≤ _; omega)]
    exact ⟨⟨⟨rfl, rfl, rfl, rfl, rfl, rfl⟩, by show (Array.replicate (2 * 0) none).size ≤ 20; rw [Array.size_replicate]; omega, rfl, h5, rfl⟩, ⟨true, by show [_] = [_]; rw [← h5]; rfl⟩, rfl, rfl, hlast⟩
  · rw [if_neg hl]
    unfold forSearch
    dsimp only
    rw [if_pos (by rw [hh]; simp; omega)]
    exact ⟨rfl, rfl, rfl⟩

/-- the search's verdict -/
theorem search_verdict {p : Nat} (hp : p ≤ t.size) : Goes 10000 (forSearch sepsC t 0 p t.size false) (fun m' => if nextSep t p < t.size then m'.outcome = some .matched ∧ m'.start = nextSep t p ∧ m'.handed = nextSep t p + 1 else m'.outcome = some .failed) := by
  have hb := search_begin hs hok hp
  by_cases hl : p < t.size
  · rw [if_pos hl] at hb
    exact (seek_runs hs hok _ p _ rfl hp hb).le (by omega)
  · rw [if_neg hl] at hb
    obtain ⟨ha, ho, hf⟩ := hb
    have : nextSep t p = p := by
      unfold nextSep
      rw [rl_zero fun h => by omega, Nat.add_zero]
    simp only [this, hl, if_false]
    revert ha ho hf
    generalize forSearch sepsC t 0 p t.size false = x
    intro ha ho hf
    refine Goes.le (N := 0 + 1) (Goes.step (Goes.now ?_)) (by omega)
    unfold M.step
    rw [if_neg (by rw [ho]; exact Bool.false_ne_true)]
    split
    · rename_i h1 h2; rw [ha] at h1; cases h1; rfl
    · rename_i h1 h2; rw [hf] at h2; cases h2
    · rename_i h; rw [ha] at h; cases h
end
end Mine

end
section
open PySem PySem.W PyProof.Rows
set_option maxRecDepth 100000
set_option linter.unusedVariables false
namespace Mine
open PySem.Builtin.Re

/-! ## the machine, run by the model -/
section
variable {Mo : Model} {A : Around} {E : Value → Shared → Prop} {s : Shared}

theorem wp_drive : ∀ (turns k : Nat) (m : Sre.M) {Q : Sre.M → Shared → Prop}, k ≤ 4 * turns → 0 < turns → (Sre.M.runFor k m).outcome.isSome = true → Q (Sre.M.runFor k m) s → wpAny Mo A (reDrive turns m) Q E s
  | 0, _, _, _, _, h, _, _ => absurd h (Nat.lt_irrefl _)
  | n + 1, k, m, Q, hk, _, hd, hq => by
    show wpAny Mo A (if (Sre.M.runFor 4 m).outcome.isSome then pure (Sre.M.runFor 4 m) else do rule "sre.turn"; reDrive n (Sre.M.runFor 4 m)) Q E s
    by_cases h4 : (Sre.M.runFor 4 m).outcome.isSome = true
    · rw [if_pos h4]
      refine wpAny_pure ?_
      have e : Sre.M.runFor 4 m = Sre.M.runFor k m := by
        rcases Nat.le_total k 4 with h | h
        · rw [show 4 = k + (4 - k) by omega, runFor_add, runFor_done hd]
        · rw [show k = 4 + (k - 4) by omega, runFor_add, runFor_done h4]
      rw [e]; exact hq
    · rw [if_neg h4]
      refine wpAny_bind (wpAny_rule ?_)
      have hgt : 4 < k := by
        rcases Nat.lt_or_ge 4 k with h | h
        · exact h
        · exfalso
          refine h4 ?_
          rw [show 4 = k + (4 - k) by omega, runFor_add, runFor_done hd]; exact hd
      have e : Sre.M.runFor k m = Sre.M.runFor (k - 4) (Sre.M.runFor 4 m) := by
        rw [← runFor_add]; congr 1; omega
      refine wp_drive n (k - 4) _ (by omega) (by omega) (by rw [← e]; exact hd) (by rw [← e]; exact hq)

theorem wp_rules (p : Nat → Bool) (r : Nat → String) : ∀ (l : List Nat) {Q : PUnit → Shared → Prop}, Q ⟨⟩ s → wpAny Mo A (forIn l PUnit.unit fun i _ => if p i then (do rule (r i); pure (ForInStep.yield PUnit.unit)) else pure (ForInStep.yield PUnit.unit)) Q E s
  | [], Q, h => by rw [List.forIn_nil]; exact wpAny_pure h
  | i :: l, Q, h => by
    rw [List.forIn_cons]
    refine wpAny_bind ?_
    by_cases hp : p i = true
    · rw [if_pos hp]
      exact wpAny_bind (wpAny_rule (wpAny_pure (wp_rules p r l h)))
    · rw [if_neg hp]
      exact wpAny_pure (wp_rules p r l h)

theorem wp_reRun {m : Sre.M} {N : Nat} {P : Sre.M → Prop} {Q : Option Sre.M → Shared → Prop} (hG : Goes N m P) (hN : N ≤ 1152921504606846976) (h : ∀ m', P m' → (m'.outcome = some .matched ∧ Q (some m') s) ∨ (m'.outcome = some .failed ∧ Q none s)) : wpAny Mo A (reRunToEnd m) Q E s := by
  obtain ⟨k, hk, hp⟩ := hG
  have hd : (Sre.M.runFor k m).outcome.isSome = true := by rcases h _ hp with x | x <;> rw [x.1] <;> rfl
  unfold reRunToEnd
  refine wpAny_bind (wp_drive (2 ^ 64) k m ?_ (Nat.two_pow_pos _) hd ?_)
  · have : (2 : Nat) ^ 64 = 18446744073709551616 := by decide
    rw [this]; omega
  refine wpAny_bind (wp_rules (fun i => (Sre.M.runFor k m).seen.has i) (fun i => Sre.names.getD i "") _ ?_)
  rcases h _ hp with x | x
  · rw [x.1]; exact wpAny_pure x.2
  · rw [x.1]; exact wpAny_pure x.2
end
end Mine

end
section
open PySem PySem.W PyProof.Rows
set_option maxRecDepth 100000
set_option linter.unusedVariables false
namespace Mine
open PySem.Builtin.Re

/-! ## a pattern in the heap -/
structure PatAt (h : Heap) (pat : Addr) (code : Array Nat) (g : Nat) : Prop where
  ex : ∃ po ps pt fl flt gt kt ca co items n, h.get? pat = some po ∧ po.cls = .type "re.Pattern" ∧ po.data = .fields #[.str ps pt, .int fl flt, .int (g : Nat) gt, .none, .none, .ref ca, .int 0 kt] ∧ h.get? ca = some co ∧ co.data = .seq items n ∧ (items.map reRawOf).map Int.toNat = code

theorem named_match (v : Value) : reNamed "re.Pattern.match" "match" ["string", "pos", "endpos"] 1 [v] [] = pure [some v, none, none] := by kernel_rfl
theorem named_split (v : Value) : reNamed "re.Pattern.split" "split" ["string", "maxsplit"] 1 [v] [] = pure [some v, none] := by kernel_rfl
theorem named_groups : reNamed "re.Match.groups" "groups" ["default"] 0 [] [] = pure [none] := by kernel_rfl
theorem textOf_str (x : PySem.Str) (tk : Tok) : reTextOf (.str x tk) = pure (x.cps, 0) := by kernel_rfl

section
variable {Mo : Model} {A : Around} {E : Value → Shared → Prop} {s : Shared}

theorem wp_rawItems {a : Addr} {o : Obj} {items : Array Value} {n : Nat} {Q : Array Int → Shared → Prop} (ho : s.heap.get? a = some o) (hd : o.data = .seq items n) (h : Q (items.map reRawOf) s) : wpAny Mo A (reRawItems (.ref a)) Q E s := by
  unfold reRawItems
  exact wpAny_bind (wpAny_seqItems ho hd (wpAny_pure h))

theorem noColl (v : Value) : reNoCollectionInside v 0 = pure () := rfl
theorem target_end {a b : ReTarget} {Q : ReTarget → Shared → Prop} (e : a = b) (h : Q b s) : wpAny Mo A (pure a) Q E s := by rw [e]; exact wpAny_pure h
theorem lim_eq {n : Nat} (h : n ≤ 1000) : min (Int.toNat (2 ^ 63 - 1)) n = n := by
  have : Int.toNat (2 ^ 63 - 1) = 9223372036854775807 := by decide
  rw [this]; omega

theorem wp_target {pat : Addr} {code : Array Nat} {g : Nat} {x : PySem.Str} {tk : Tok} {Q : ReTarget → Shared → Prop} (P : PatAt s.heap pat code g) (hx : x.cps.size ≤ 1000)
    (h : Q { pattern := .ref pat, string := .str x tk, code := code, text := x.cps, kind := 0, groups := g, pos := 0, lim := x.cps.size } s) : wpAny Mo A (reTarget "re.Pattern.match" "match" ⟨[.ref pat, .str x tk], []⟩) Q E s := by
  obtain ⟨po, ps, pt, fl, flt, gt, kt, ca, co, items, n, hp, hc, hd, hco, hcd, hcode⟩ := P.ex
  unfold reTarget
  dsimp only
  rw [named_match]
  refine wpAny_bind (wpAny_pure ?_)
  dsimp only
  refine wpAny_bind (wpAny_pure (wpAny_bind (wpAny_pure ?_)))
  refine wpAny_bind (wpAny_fieldsOf hp hd ?_)
  rw [textOf_str]
  refine wpAny_bind (wpAny_pure ?_)
  rw [if_neg (by intro h; cases h), if_neg (by intro h; cases h)]
  rw [show reNoCollectionInside (Value.str x tk) (x.cps, 0).snd = pure () from rfl]
  refine wpAny_bind (wpAny_pure ?_)
  refine wpAny_bind (wp_rawItems hco hcd ?_)
  refine target_end ?_ h
  rw [show Array.map (fun x => x.toNat) (Array.map reRawOf items) = code from hcode, lim_eq hx]
  rfl
theorem wp_wholeTarget {pat : Addr} {code : Array Nat} {g : Nat} {x : PySem.Str} {tk : Tok} {Q : ReTarget → Shared → Prop} (P : PatAt s.heap pat code g) (hx : x.cps.size ≤ 1000)
    (h : Q { pattern := .ref pat, string := .str x tk, code := code, text := x.cps, kind := 0, groups := g, pos := 0, lim := x.cps.size } s) : wpAny Mo A (reWholeTarget (.ref pat) (.str x tk)) Q E s := by
  obtain ⟨po, ps, pt, fl, flt, gt, kt, ca, co, items, n, hp, hc, hd, hco, hcd, hcode⟩ := P.ex
  unfold reWholeTarget
  refine wpAny_bind (wpAny_fieldsOf hp hd ?_)
  rw [textOf_str]
  refine wpAny_bind (wpAny_pure ?_)
  dsimp only
  rw [if_neg (by intro h; cases h), if_neg (by intro h; cases h)]
  rw [show reNoCollectionInside (Value.str x tk) 0 = pure () from rfl]
  refine wpAny_bind (wpAny_pure ?_)
  refine wpAny_bind (wp_rawItems hco hcd ?_)
  refine target_end ?_ h
  rw [show Array.map (fun x => x.toNat) (Array.map reRawOf items) = code from hcode]
  rfl

/-! ## a match's object -/
def spanV (V : Nat → Option Nat) (g : Nat) : List Value := match V (2 * g), V (2 * g + 1) with
  | some b, some e => [rawInt (b : Nat), rawInt (e : Nat)]
  | _, _ => [rawInt (-1), rawInt (-1)]
def spansV (V : Nat → Option Nat) (groups : Nat) : List Value := (List.range groups).flatMap (spanV V)
theorem span_vis {m : Sre.M} {V : Nat → Option Nat} (h : ∀ j, visOf m j = V j) (g : Nat) :
    (match if ((2 * g + 1 : Nat) : Int) ≤ m.lastmark then (m.marks.getD (2 * g) none, m.marks.getD (2 * g + 1) none) else (none, none) with
    | (some b, some e) => [rawInt (b : Nat), rawInt (e : Nat)]
    | _ => [rawInt (-1), rawInt (-1)]) = spanV V g := by
  unfold spanV
  rw [← h, ← h]
  unfold visOf
  by_cases hl : ((2 * g + 1 : Nat) : Int) ≤ m.lastmark
  · rw [if_pos hl, if_pos hl, if_pos (by omega)]
    cases m.marks.getD (2 * g) none <;> cases m.marks.getD (2 * g + 1) none <;> rfl
  · rw [if_neg hl, if_neg hl]
    generalize (if ((2 * g : Nat) : Int) ≤ m.lastmark then m.marks.getD (2 * g) none else none) = a
    cases a <;> rfl
theorem ord_any {m : Sre.M} {V : Nat → Option Nat} (h : ∀ j, visOf m j = V j) (hV : OrdV V) (groups : Nat) :
    ((List.range groups).any fun g => match m.marks.getD (2 * g) none, m.marks.getD (2 * g + 1) none with | some b, some e => decide (((2 * g + 1 : Nat) : Int) ≤ m.lastmark) && decide (e < b) | _, _ => false) = false := by
  rw [List.any_eq_false]
  intro g _
  cases hb : m.marks.getD (2 * g) none with
  | none => simp
  | some b =>
    cases he : m.marks.getD (2 * g + 1) none with
    | none => simp
    | some e =>
      by_cases hl : ((2 * g + 1 : Nat) : Int) ≤ m.lastmark
      · have h1 := h (2 * g)
        have h2 := h (2 * g + 1)
        unfold visOf at h1 h2
        rw [if_pos (by omega), hb] at h1
        rw [if_pos hl, he] at h2
        have := hV g b e trivial h1.symm h2.symm
        simp; omega
      · simp; omega
def matchObj (pat : Addr) (x : PySem.Str) (tk : Tok) (li : Int) (ta : Addr) : Obj := { cls := .type "re.Match", data := .fields #[.str x tk, .ref pat, rawInt 0, rawInt (x.cps.size : Nat), rawInt li, .ref ta] }
def matchTup (V : Nat → Option Nat) (g p : Nat) : Obj := { cls := .type "tuple", data := .seq (rawInt (0 : Nat) :: rawInt (p : Nat) :: spansV V g).toArray }
theorem span_len (V : Nat → Option Nat) (g : Nat) : (spanV V g).length = 2 := by unfold spanV; split <;> rfl
theorem spans_len (V : Nat → Option Nat) (g : Nat) : (spansV V g).length = 2 * g := by
  unfold spansV
  induction g with
  | zero => rfl
  | succ g ih => rw [List.range_succ, List.flatMap_append, List.length_append, ih, List.flatMap_cons, List.flatMap_nil, List.append_nil, span_len]; omega

theorem wp_newMatch {pat : Addr} {x : PySem.Str} {tk : Tok} {g gs p : Nat} {m : Sre.M} {V : Nat → Option Nat} {Q : Value → Shared → Prop} (Wn : Won V p gs m) (hV : OrdV V) (hg : g ≤ 100)
    (h : ∀ li, Q (.ref (s.heap.objs.size + 1)) { s with heap := (s.heap.push (matchTup V g p)).push (matchObj pat x tk li s.heap.objs.size) }) : wpAny Mo A (reNewMatch (.ref pat) (.str x tk) g 0 x.cps.size m) Q E s := by
  unfold reNewMatch
  generalize hsp : List.flatMap _ (List.range g) = sp
  have e : sp = spansV V g := by
    rw [← hsp]
    unfold spansV
    congr 1
    funext g
    exact span_vis Wn.vis g
  dsimp only
  rw [if_neg ?hn]
  case hn => exact fun hh => Bool.noConfusion ((ord_any Wn.vis hV g).symm.trans hh)
  rw [e, Wn.start, Wn.handed]
  refine wpAny_bind (wpAny_newTuple ?_ ?_)
  · refine wpAny_newObj_type ?_ ?_
    · have := h m.lastindex
      rw [show s.heap.objs.size + 1 = (s.heap.push (matchTup V g p)).objs.size by unfold Heap.push; simp] at this
      exact this
    · show (6 : Nat) ≤ sizeLine + 2
      decide
  · rw [List.length_cons, List.length_cons, spans_len]
    have : (210 : Nat) ≤ sizeLine := by decide
    omega
end
end Mine

end
section
open PySem PySem.W PyProof.Rows
set_option maxRecDepth 100000
set_option linter.unusedVariables false
namespace Mine
open PySem.Builtin.Re

theorem slot_re_match : Slot "re.Pattern" (PySem.Str.ofString "match") "re.Pattern.match" :=
  .of (owner := "re.Pattern") (n := "match") (by rw [typeLookup_type, builtinLookup_eq_fast]; kernel_rfl) (by decide +kernel) (by decide +kernel) (by decide +kernel)
    (by first | exact .inl (by decide +kernel) | exact .inr (by decide +kernel)) (by rw [isSubtype_type]; kernel_rfl)
theorem slot_re_split : Slot "re.Pattern" (PySem.Str.ofString "split") "re.Pattern.split" :=
  .of (owner := "re.Pattern") (n := "split") (by rw [typeLookup_type, builtinLookup_eq_fast]; kernel_rfl) (by decide +kernel) (by decide +kernel) (by decide +kernel)
    (by first | exact .inl (by decide +kernel) | exact .inr (by decide +kernel)) (by rw [isSubtype_type]; kernel_rfl)
theorem slot_re_groups : Slot "re.Match" (PySem.Str.ofString "groups") "re.Match.groups" :=
  .of (owner := "re.Match") (n := "groups") (by rw [typeLookup_type, builtinLookup_eq_fast]; kernel_rfl) (by decide +kernel) (by decide +kernel) (by decide +kernel)
    (by first | exact .inl (by decide +kernel) | exact .inr (by decide +kernel)) (by rw [isSubtype_type]; kernel_rfl)
theorem entry_re_match : entryFor table "re.Pattern.match" = some Builtin.«re.Pattern.match» := entryFor_of_tree (by kernel_rfl)
theorem entry_re_split : entryFor table "re.Pattern.split" = some Builtin.«re.Pattern.split» := entryFor_of_tree (by kernel_rfl)
theorem entry_re_groups : entryFor table "re.Match.groups" = some Builtin.«re.Match.groups» := entryFor_of_tree (by kernel_rfl)
theorem args_re_match (a b : Value) : argsOk "re.Pattern.match" ⟨[a, b], []⟩ := by unfold argsOk; kernel_rfl
theorem args_re_split (a b : Value) : argsOk "re.Pattern.split" ⟨[a, b], []⟩ := by unfold argsOk; kernel_rfl
theorem args_re_groups (a : Value) : argsOk "re.Match.groups" ⟨[a], []⟩ := by unfold argsOk; kernel_rfl
theorem type_re_match : typeOf (.builtin "re.Pattern.match") = pure (.type "method_descriptor") := by show builtinType _ = _; rw [builtinType_eq_fast]; kernel_rfl
theorem type_re_split : typeOf (.builtin "re.Pattern.split") = pure (.type "method_descriptor") := by show builtinType _ = _; rw [builtinType_eq_fast]; kernel_rfl
theorem type_re_groups : typeOf (.builtin "re.Match.groups") = pure (.type "method_descriptor") := by show builtinType _ = _; rw [builtinType_eq_fast]; kernel_rfl
theorem plainAttrs_pattern : PlainAttrs "re.Pattern" :=
  ⟨⟨"object.__getattribute__", by rw [typeLookup_type, builtinLookup_eq_fast]; kernel_rfl, by decide +kernel⟩, by rw [typeLookup_type, builtinLookup_eq_fast]; kernel_rfl⟩
theorem plainAttrs_match : PlainAttrs "re.Match" :=
  ⟨⟨"object.__getattribute__", by rw [typeLookup_type, builtinLookup_eq_fast]; kernel_rfl, by decide +kernel⟩, by rw [typeLookup_type, builtinLookup_eq_fast]; kernel_rfl⟩
end Mine

end
section
open PySem PySem.W PyProof.Rows
set_option maxRecDepth 100000
set_option linter.unusedVariables false
namespace Mine
open PySem.Builtin.Re

section
variable {prog : Program} {w : World} {A : Around} {E : Value → Shared → Prop} {s : Shared}

theorem wp_match {pat : Addr} {code : Array Nat} {g gs N : Nat} {x : PySem.Str} {tk : Tok} {Pm : Sre.M → Prop} {Q : Value → Shared → Prop} (hT : s.TypeIs (.ref pat) "re.Pattern") (P : PatAt s.heap pat code g) (hx : x.cps.size ≤ 1000) (hg : g ≤ 100) (hG : Goes N (Sre.forMatch code x.cps g 0 x.cps.size false false) Pm) (hN : N ≤ 1152921504606846976)
    (h : ∀ m', Pm m' → (m'.outcome = some .failed ∧ Q .none s) ∨ (m'.outcome = some .matched ∧ ∃ V p, Won V p gs m' ∧ OrdV V ∧ ∀ li, Q (.ref (s.heap.objs.size + 1)) { s with heap := (s.heap.push (matchTup V g p)).push (matchObj pat x tk li s.heap.objs.size) })) :
    wpAny (model prog w) A (call (.builtin "re.Pattern.match") [.ref pat, .str x tk]) Q E s := by
  refine wpAny_call_entry slot_re_match hT entry_re_match ?_ (args_re_match _ _)
  unfold Builtin.«re.Pattern.match»
  refine wpAny_bind (wp_target P hx ?_)
  unfold reAnswer
  refine wpAny_bind (wp_reRun hG hN fun m' hm => ?_)
  rcases h m' hm with ⟨ho, hq⟩ | ⟨ho, V, p, hw, hV, hq⟩
  · exact .inr ⟨ho, wpAny_pure ⟨_, rfl, hq⟩⟩
  · refine .inl ⟨ho, ?_⟩
    refine wpAny_bind (wp_newMatch hw hV hg fun li => ?_)
    exact wpAny_pure ⟨_, rfl, hq li⟩

/-! ## the text cut at the three signs -/
def cutFrom (t : Array Nat) : Nat → Nat → List PySem.Str
  | 0, p => [⟨t.extract p t.size⟩]
  | k + 1, p => if nextSep t p < t.size then ⟨t.extract p (nextSep t p)⟩ :: cutFrom t k (nextSep t p + 1) else [⟨t.extract p t.size⟩]
theorem cut_len (t : Array Nat) : ∀ k p, (cutFrom t k p).length ≤ k + 1
  | 0, p => Nat.le_refl _
  | k + 1, p => by
    unfold cutFrom
    split
    · have := cut_len t k (nextSep t p + 1)
      simp only [List.length_cons]; omega
    · simp
abbrev LS := Array Value × Nat × Nat × Bool × Int × Bool

theorem over_loop {f : Nat → LS → Sem (ForInStep LS)} (hf : ∀ i (x : LS) s' (Q : ForInStep LS → Shared → Prop), x.2.2.2.2.2 = true → Q (.yield x) s' → wpAny (model prog w) A (f i x) Q E s') : ∀ (l : List Nat) (x : LS) {s' : Shared} {Q : LS → Shared → Prop}, x.2.2.2.2.2 = true → Q x s' → wpAny (model prog w) A (forIn l x f) Q E s'
  | [], x, s', Q, _, h => by rw [List.forIn_nil]; exact wpAny_pure h
  | i :: l, x, s', Q, hx, h => by
    rw [List.forIn_cons]
    refine wpAny_bind (hf i x s' _ hx ?_)
    exact over_loop hf l x hx h

theorem split_loop {t : Array Nat} {f : Nat → LS → Sem (ForInStep LS)} (hf : ∀ i (x : LS) s' (Q : ForInStep LS → Shared → Prop), x.2.2.2.2.2 = true → Q (.yield x) s' → wpAny (model prog w) A (f i x) Q E s')
    (hg : ∀ i (out : Array Value) (p : Nat) (n : Int) s' (Q : ForInStep LS → Shared → Prop), p ≤ t.size → (nextSep t p < t.size → Q (.yield (out.push (.str ⟨t.extract p (nextSep t p)⟩ s'.toks), nextSep t p + 1, nextSep t p + 1, false, n + 1, false)) { s' with toks := s'.toks + 1 }) → (¬ nextSep t p < t.size → Q (.yield (out, p, p, false, n, true)) s') → wpAny (model prog w) A (f i (out, p, p, false, n, false)) Q E s') :
    ∀ (k : Nat) (l : List Nat) (out : Array Value) (p : Nat) (n : Int) {s' : Shared} {Q : LS → Shared → Prop}, t.size + 1 ≤ k + p → k + 1 ≤ l.length → p ≤ t.size →
      (∀ vs ws p' n' tk', StrsAre vs ws → p' ≤ t.size → cutFrom t k p = ws ++ [⟨t.extract p' t.size⟩] → Q (out ++ vs.toArray, p', p', false, n', true) { s' with toks := tk' }) → wpAny (model prog w) A (forIn l (out, p, p, false, n, false) f) Q E s' := by
  intro k
  induction k with
  | zero => intro l out p n s' Q hk _ hp _; omega
  | succ k ih =>
    intro l out p n s' Q hk hl hp h
    cases l with
    | nil => simp at hl
    | cons i l =>
      rw [List.forIn_cons]
      refine wpAny_bind (hg i out p n s' _ hp (fun hlt => ?_) fun hge => ?_)
      · refine ih l _ _ _ (by have : p ≤ nextSep t p := Nat.le_add_right _ _; omega) (by simpa using hl) hlt fun vs ws p' n' tk' hv hp' hc => ?_
        have := h (.str ⟨t.extract p (nextSep t p)⟩ s'.toks :: vs) (⟨t.extract p (nextSep t p)⟩ :: ws) p' n' tk' (.cons _ _ hv) hp' (by unfold cutFrom; rw [if_pos hlt, hc]; rfl)
        have e : out ++ (.str ⟨t.extract p (nextSep t p)⟩ s'.toks :: vs).toArray = out.push (.str ⟨t.extract p (nextSep t p)⟩ s'.toks) ++ vs.toArray := by
          apply Array.toList_inj.mp
          simp
        rw [e] at this
        exact this
      · refine over_loop hf l _ rfl ?_
        have := h [] [] p n s'.toks .nil hp (by unfold cutFrom; rw [if_neg hge]; rfl)
        simpa using this

theorem wp_split {h₀ : Heap} {L : Addr} {m : PySem.Str → Option Value} {news : List (Addr × Obj)} {pat : Addr} {x : PySem.Str} {tk : Tok} {Q : Value → Shared → Prop} (F : Fr h₀ L s.heap m) (N : News h₀ L s.heap news) (hT : s.TypeIs (.ref pat) "re.Pattern") (P : PatAt s.heap pat sepsC 0) (hx : x.cps.size ≤ 400) (hok : ∀ q, q < x.cps.size → okc (x.cps.getD q 0) = true)
    (h : ∀ l h' vs tk', Fr h₀ L h' m → News h₀ L h' ((l, listOf vs.toArray 0) :: news) → (∀ b o, s.heap.get? b = some o → h'.get? b = some o) → StrsAre vs (cutFrom x.cps (x.cps.size + 1) 0) → Q (.ref l) { s with heap := h', toks := tk' }) :
    wpAny (model prog w) A (call (.builtin "re.Pattern.split") [.ref pat, .str x tk]) Q E s := by
  refine wpAny_call_entry slot_re_split hT entry_re_split ?_ (args_re_split _ _)
  unfold Builtin.«re.Pattern.split»
  dsimp only
  rw [named_split]
  refine wpAny_bind (wpAny_pure ?_)
  dsimp only
  refine wpAny_bind (wpAny_pure ?_)
  refine wpAny_bind (wp_wholeTarget P (by omega) ?_)
  refine wpAny_bind ?_
  refine split_loop (t := x.cps) ?_ ?_ (x.cps.size + 1) _ #[] 0 0 (by omega) ?_ (Nat.zero_le _) ?_
  · intro i y s' Q hy hq
    rw [hy]
    rw [if_neg (by decide)]
    refine wpAny_pure ?_
    have e : (y.fst, y.snd.fst, y.snd.snd.fst, y.snd.snd.snd.fst, y.snd.snd.snd.snd.fst, true) = y := by
      obtain ⟨a, b, c, d, e, g⟩ := y
      cases hy; rfl
    rw [e]; exact hq
  · intro i out p n s' Q hp h1 h2
    dsimp only
    rw [if_pos (by decide)]
    rw [if_neg (by intro hh; cases hh)]
    refine wpAny_bind (wp_reRun (search_verdict hx hok hp) (by decide) fun m' hm => ?_)
    by_cases hlt : nextSep x.cps p < x.cps.size
    · rw [if_pos hlt] at hm
      obtain ⟨ho, hst, hh⟩ := hm
      refine .inl ⟨ho, ?_⟩
      dsimp only
      rw [hst, hh]
      unfold reSlice
      rw [if_pos (by rfl)]
      refine wpAny_bind (wpAny_mkStr ?_ ?_)
      · refine wpAny_bind ?_
        rw [show List.range 0 = [] from rfl, List.forIn_nil]
        refine wpAny_pure (wpAny_pure ?_)
        have : (nextSep x.cps p + 1 == nextSep x.cps p) = false := by simp
        rw [this]
        exact h1 hlt
      · show (x.cps.extract p (nextSep x.cps p)).size ≤ sizeLine
        rw [Array.size_extract]
        have : (400 : Nat) ≤ sizeLine := by decide
        omega
    · rw [if_neg hlt] at hm
      refine .inr ⟨hm, ?_⟩
      exact wpAny_pure (h2 hlt)
  · rw [List.length_range]
    unfold reMostMatches
    show _ ≤ 2 * x.cps.size + 3
    omega
  · intro vs ws p' n' tk' hv hp' hc
    dsimp only
    rw [if_neg (by decide)]
    unfold reSlice
    rw [if_pos (by rfl)]
    refine wpAny_bind (wpAny_mkStr ?_ ?_)
    · have e : ∀ v : Value, ((#[] ++ vs.toArray).push v).toList = vs ++ [v] := fun v => by simp
      rw [e]
      refine wpAny_bind (newList_NK (s := { s with toks := tk' + 1 }) F N (fun h' F' N' k' => wpAny_pure ⟨_, rfl, h _ _ _ _ F' N' k' ?_⟩) ?_)
      · rw [hc]
        exact StrsAre.append' hv (.cons _ _ .nil)
      · have h1 := hv.len_eq
        have h2 := cut_len x.cps (x.cps.size + 1) 0
        rw [hc] at h2
        rw [List.length_append, h1]
        rw [List.length_append] at h2
        have : (1000 : Nat) ≤ sizeLine := by decide
        simp only [List.length_cons, List.length_nil] at h2 ⊢
        omega
    · show (x.cps.extract _ _).size ≤ sizeLine
      rw [Array.size_extract]
      have : (400 : Nat) ≤ sizeLine := by decide
      omega
theorem wp_groupText {fs : Array Value} {sp : Array Int} {g b e : Nat} {x : PySem.Str} {tk : Tok} {d : Value} {Q : Value → Shared → Prop} (hb : sp.getD (2 * g) (-1) = (b : Nat)) (he : sp.getD (2 * g + 1) (-1) = (e : Nat)) (hf : fs.getD 0 .none = .str x tk) (hx : x.cps.size ≤ 1000)
    (h : Q (.str ⟨x.cps.extract b e⟩ s.toks) { s with toks := s.toks + 1 }) : wpAny (model prog w) A (reGroupText ⟨fs, sp⟩ g d) Q E s := by
  unfold reGroupText
  dsimp only
  rw [hb, he, hf, textOf_str]
  rw [if_neg (by simp)]
  refine wpAny_bind (wpAny_pure ?_)
  unfold reSlice
  rw [if_pos (by rfl)]
  refine wpAny_mkStr h ?_
  show (x.cps.extract _ _).size ≤ sizeLine
  rw [Array.size_extract]
  have : (1000 : Nat) ≤ sizeLine := by decide
  omega
theorem wp_groupNone {fs : Array Value} {sp : Array Int} {g : Nat} {d : Value} {Q : Value → Shared → Prop} (hb : sp.getD (2 * g) (-1) = -1) (h : Q d s) : wpAny (model prog w) A (reGroupText ⟨fs, sp⟩ g d) Q E s := by
  unfold reGroupText
  dsimp only
  rw [hb, if_pos (by simp)]
  exact wpAny_pure h
theorem truthy_match {o : Addr} {Q : Bool → Shared → Prop} (hT : s.TypeIs (.ref o) "re.Match") (h : Q true s) :
    wpAny (model prog w) A (truthy (.ref o)) Q E s := by
  unfold truthy
  dsimp only
  refine wpAny_bind (wpAny_callSpecial?_none (name := PySem.Str.ofString "__bool__") hT (by rw [typeLookup_type, builtinLookup_eq_fast]; kernel_rfl) ?_)
  refine wpAny_bind (wpAny_specialOf (name := PySem.Str.ofString "__len__") (r := none) hT (by rw [typeLookup_type, builtinLookup_eq_fast]; kernel_rfl) ?_)
  rw [if_pos (by rfl)]
  exact wpAny_pure h
end
end Mine

end
section
open PySem PySem.W PyProof.Rows
set_option maxRecDepth 100000
set_option linter.unusedVariables false
namespace Mine
open PySem.Builtin.Re

section
variable {prog : Program} {w : World} {A : Around} {E : Value → Shared → Prop} {s : Shared}
def sub (x : PySem.Str) (b e : Nat) : PySem.Str := ⟨x.cps.extract b e⟩

theorem sing_spans (p a0 a1 a2 a3 a4 a5 a6 a7 : Nat) : ((rawInt (0 : Nat) :: rawInt (p : Nat) :: spansV (itemV 0 a0 a1 a2 a3 a4 a5 a6 a7 nilV) 4).toArray.map reRawOf) =
    #[(0 : Int), (p : Int), (a0 : Int), (a1 : Int), (a2 : Int), (a3 : Int), if a4 < a5 then (a4 : Int) else -1, if a4 < a5 then (a5 : Int) else -1, (a6 : Int), (a7 : Int)] := by
  have e : ∀ V, spansV V 4 = spanV V 0 ++ (spanV V 1 ++ (spanV V 2 ++ spanV V 3)) := fun V => by
    unfold spansV
    rw [show List.range 4 = [0, 1, 2, 3] from rfl]
    simp
  rw [e]
  by_cases h : a4 < a5 <;> simp [spanV, itemV, up, nilV, h, reRawOf, rawInt]

theorem wp_groups {h₀ : Heap} {L : Addr} {m : PySem.Str → Option Value} {news : List (Addr × Obj)} {o ta pat : Addr} {x : PySem.Str} {tk : Tok} {li : Int} {p a0 a1 a2 a3 a4 a5 a6 a7 : Nat} {Q : Value → Shared → Prop} (F : Fr h₀ L s.heap m) (N : News h₀ L s.heap news) (hx : x.cps.size ≤ 1000)
    (ho : s.heap.get? o = some (matchObj pat x tk li ta)) (ht : s.heap.get? ta = some (matchTup (itemV 0 a0 a1 a2 a3 a4 a5 a6 a7 nilV) 4 p))
    (h : ∀ l h' t1 t2 t3 t4 tk', Fr h₀ L h' m → News h₀ L h' ((l, { cls := .type "tuple", data := .seq #[.str (sub x a0 a1) t1, .str (sub x a2 a3) t2, if a4 < a5 then .str (sub x a4 a5) t3 else .none, .str (sub x a6 a7) t4] }) :: news) → (∀ b o, s.heap.get? b = some o → h'.get? b = some o) → Q (.ref l) { s with heap := h', toks := tk' }) :
    wpAny (model prog w) A (call (.builtin "re.Match.groups") [.ref o]) Q E s := by
  have hT : s.TypeIs (.ref o) "re.Match" := ⟨_, ho, rfl⟩
  refine wpAny_call_entry slot_re_groups hT entry_re_groups ?_ (args_re_groups _)
  unfold Builtin.«re.Match.groups» reWithDefault
  dsimp only
  rw [named_groups]
  refine wpAny_bind (wpAny_bind (wpAny_pure ?_))
  dsimp only
  unfold reFound
  refine wpAny_bind (wpAny_bind (wpAny_fieldsOf ho rfl ?_))
  refine wpAny_bind (wp_rawItems (o := matchTup (itemV 0 a0 a1 a2 a3 a4 a5 a6 a7 nilV) 4 p) ht rfl ?_)
  rw [sing_spans]
  refine wpAny_pure (wpAny_pure ?_)
  dsimp only
  rw [show Array.size #[(0 : Int), (p : Int), (a0 : Int), (a1 : Int), (a2 : Int), (a3 : Int), if a4 < a5 then (a4 : Int) else -1, if a4 < a5 then (a5 : Int) else -1, (a6 : Int), (a7 : Int)] = 10 from rfl, show List.range (10 / 2 - 1) = [0, 1, 2, 3] by decide]
  refine wpAny_bind ?_
  rw [List.mapM_cons]
  refine wpAny_bind (wp_groupText (b := a0) (e := a1) (x := x) (tk := tk) rfl rfl rfl hx ?_)
  rw [List.mapM_cons]
  refine wpAny_bind (wpAny_bind (wp_groupText (b := a2) (e := a3) (x := x) (tk := tk) rfl rfl rfl hx ?_))
  rw [List.mapM_cons]
  refine wpAny_bind (wpAny_bind ?_)
  by_cases hm : a4 < a5
  · refine wp_groupText (b := a4) (e := a5) (x := x) (tk := tk) (by show (if a4 < a5 then (a4 : Int) else -1) = _; rw [if_pos hm]) (by show (if a4 < a5 then (a5 : Int) else -1) = _; rw [if_pos hm]) rfl hx ?_
    rw [List.mapM_cons]
    refine wpAny_bind (wpAny_bind (wp_groupText (b := a6) (e := a7) (x := x) (tk := tk) rfl rfl rfl hx ?_))
    rw [List.mapM_nil]
    refine wpAny_bind (wpAny_pure (wpAny_pure (wpAny_pure (wpAny_pure (wpAny_pure ?_)))))
    refine wpAny_bind (wpAny_newTuple ?_ (by show (4 : Nat) ≤ sizeLine; decide))
    refine wpAny_pure ⟨_, rfl, ?_⟩
    have := h s.heap.objs.size _ s.toks (s.toks + 1) (s.toks + 1 + 1) (s.toks + 1 + 1 + 1) (s.toks + 1 + 1 + 1 + 1) (F.push _) (N.push F _) (fun _ _ e => Heap.get?_push_of_some _ e)
    simp only [hm, if_true] at this
    exact this
  · refine wp_groupNone (by show (if a4 < a5 then (a4 : Int) else -1) = _; rw [if_neg hm]) ?_
    rw [List.mapM_cons]
    refine wpAny_bind (wpAny_bind (wp_groupText (b := a6) (e := a7) (x := x) (tk := tk) rfl rfl rfl hx ?_))
    rw [List.mapM_nil]
    refine wpAny_bind (wpAny_pure (wpAny_pure (wpAny_pure (wpAny_pure (wpAny_pure ?_)))))
    refine wpAny_bind (wpAny_newTuple ?_ (by show (4 : Nat) ≤ sizeLine; decide))
    refine wpAny_pure ⟨_, rfl, ?_⟩
    have := h s.heap.objs.size _ s.toks (s.toks + 1) 0 (s.toks + 1 + 1) (s.toks + 1 + 1 + 1) (F.push _) (N.push F _) (fun _ _ e => Heap.get?_push_of_some _ e)
    simp only [hm, if_false] at this
    exact this
end
end Mine

end
section
set_option maxRecDepth 100000
set_option linter.unusedVariables false
namespace Mine
open PySem PySem.Sre

/-! ## the rows of a text: one for each of its pieces -/
structure PieceOk (u : Array Nat) : Prop where
  ok : ∀ q, q < u.size → okc (u.getD q 0) = true
  nosep : ∀ q, q < u.size → sepc (u.getD q 0) = false
  acc : acc u 0 0 = true
theorem acc_toList {u : Array Nat} : acc u 0 0 = accL 0 u.toList := by unfold acc; rw [List.drop_zero]
theorem extract_get {t : Array Nat} {a b q : Nat} (h : q < (t.extract a b).size) : a + q < t.size ∧ q < b - a ∧ (t.extract a b).getD q 0 = t.getD (a + q) 0 := by
  rw [Array.size_extract] at h
  have h1 : a + q < t.size := by omega
  refine ⟨h1, by omega, ?_⟩
  have h2 : q < (t.extract a b).size := by rw [Array.size_extract]; omega
  simp only [Array.getD, h1, h2, dif_pos]
  simp
theorem extract_ok {t : Array Nat} (hok : ∀ q, q < t.size → okc (t.getD q 0) = true) (a b : Nat) : ∀ q, q < (t.extract a b).size → okc ((t.extract a b).getD q 0) = true := fun q hq => by
  obtain ⟨h1, _, h3⟩ := extract_get hq
  rw [h3]; exact hok _ h1
theorem extract_nosep {t : Array Nat} (p : Nat) {e : Nat} (he : e ≤ nextSep t p) : ∀ q, q < (t.extract p e).size → sepc ((t.extract p e).getD q 0) = false := fun q hq => by
  obtain ⟨h1, h2, h3⟩ := extract_get hq
  rw [h3]
  have := (rl_take (P := fun c => !sepc c) (t := t) (p := p) (j := q) (by unfold nextSep at he; omega)).2
  simpa using this
theorem drop_cons {t : Array Nat} {e : Nat} (h : e < t.size) : t.toList.drop e = t.getD e 0 :: t.toList.drop (e + 1) := by
  have hl : e < t.toList.length := by simpa using h
  rw [List.drop_eq_getElem_cons hl]
  have : t.toList[e] = t.getD e 0 := by simp [Array.getD, h]
  rw [this]
theorem rd_sep {rows : List (List Nat × Nat × Nat)} {q a m c : Nat} {n : List Nat} (hc : okc c = true) (hs : sepc c = true) (hq : 8 ≤ q) : rstep ⟨rows, q, a, m, n⟩ c = some ⟨rows ++ [(n, a, one m)], 0, 0, 0, []⟩ := by
  have h3 := ok_all (p := fun c => !(sepc c) || (!(digc c) && !(blankc c))) (by decide +kernel) hc
  rw [hs] at h3
  simp only [Bool.not_true, Bool.false_or, Bool.and_eq_true, Bool.not_eq_true'] at h3
  unfold rstep
  have h := nx_sep hc hs (q := q)
  rw [if_pos hq] at h
  simp only [h, h3.1, h3.2, hs, Bool.false_eq_true, if_false, if_true]

theorem rd_pieces {t : Array Nat} (hok : ∀ q, q < t.size → okc (t.getD q 0) = true) : ∀ (k p : Nat), p ≤ t.size → t.size + 1 ≤ k + p → acc t 0 p = true → ∀ rows,
    (∃ r, rdL ⟨rows, 0, 0, 0, []⟩ (t.toList.drop p) = some r ∧ 8 ≤ r.q ∧ r.rows ++ [(r.name, r.amount, one r.many)] = rows ++ (cutFrom t k p).map (fun u => rowOf u.cps)) ∧ ∀ u ∈ cutFrom t k p, PieceOk u.cps := by
  intro k
  induction k with
  | zero => intro p hp hk; omega
  | succ k ih =>
    intro p hp hk ha rows
    unfold cutFrom
    have hle : p ≤ nextSep t p := Nat.le_add_right _ _
    by_cases hlt : nextSep t p < t.size
    · rw [if_pos hlt]
      have hsp : sepc (t.getD (nextSep t p) 0) = true := by
        have := rl_stop (P := fun c => !sepc c) (t := t) (p := p) hlt
        simpa [nextSep] using this
      have hco := hok _ hlt
      have hd : t.toList.drop p = (t.extract p (nextSep t p)).toList ++ t.getD (nextSep t p) 0 :: t.toList.drop (nextSep t p + 1) := by
        rw [seg_extract, drop_seg hle, drop_cons hlt]
      have ha2 : accL 0 (t.extract p (nextSep t p)).toList = true ∧ accL 0 (t.toList.drop (nextSep t p + 1)) = true := by
        have : accL 0 (t.toList.drop p) = true := ha
        rw [hd, acc_cut hco hsp, Bool.and_eq_true] at this
        exact this
      have PO : PieceOk (t.extract p (nextSep t p)) := ⟨extract_ok hok _ _, extract_nosep p (Nat.le_refl _), by rw [acc_toList]; exact ha2.1⟩
      obtain ⟨q, hq, hr⟩ := rd_piece PO.ok PO.nosep PO.acc rows
      obtain ⟨⟨r, h1, h2, h3⟩, h4⟩ := ih (nextSep t p + 1) hlt (by omega) ha2.2 (rows ++ [rowOf (t.extract p (nextSep t p))])
      refine ⟨⟨r, ?_, h2, ?_⟩, ?_⟩
      · rw [hd, rd_bind hr]
        show (match rstep _ _ with | some r' => rdL r' _ | none => none) = _
        rw [rd_sep hco hsp hq]
        exact h1
      · rw [h3]
        simp
      · intro u hu
        rcases List.mem_cons.mp hu with rfl | hu
        · exact PO
        · exact h4 u hu
    · rw [if_neg hlt]
      have he : t.toList.drop p = (t.extract p t.size).toList := by
        rw [seg_extract, drop_seg (t := t) (a := p) (b := t.size) hp, List.drop_eq_nil_of_le (by simp), List.append_nil]
      have hne : t.size ≤ nextSep t p := by omega
      have PO : PieceOk (t.extract p t.size) := ⟨extract_ok hok _ _, extract_nosep p hne, by rw [acc_toList, ← he]; exact ha⟩
      obtain ⟨q, hq, hr⟩ := rd_piece PO.ok PO.nosep PO.acc rows
      refine ⟨⟨_, by rw [he]; exact hr, hq, rfl⟩, ?_⟩
      intro u hu
      rcases List.mem_cons.mp hu with rfl | hu
      · exact PO
      · cases hu

/-- the pieces of a text -/
def pieces (x : PySem.Str) : List PySem.Str := cutFrom x.cps (x.cps.size + 1) 0
/-- what the reader has of a text at its end -/
def rowsOf (x : PySem.Str) : Option (List (List Nat × Nat × Nat)) := match rdL ⟨[], 0, 0, 0, []⟩ x.cps.toList with
  | some r => if 8 ≤ r.q then some (r.rows ++ [(r.name, r.amount, one r.many)]) else none
  | none => none
theorem rowsOf_eq {x : PySem.Str} (hok : ∀ q, q < x.cps.size → okc (x.cps.getD q 0) = true) : rowsOf x = if acc x.cps 0 0 then some ((pieces x).map fun u => rowOf u.cps) else none := by
  unfold rowsOf
  cases ha : acc x.cps 0 0 with
  | true =>
    obtain ⟨⟨r, h1, h2, h3⟩, _⟩ := rd_pieces hok (x.cps.size + 1) 0 (Nat.zero_le _) (by omega) ha []
    rw [List.drop_zero] at h1
    rw [h1]
    show (if 8 ≤ r.q then _ else _) = _
    rw [if_pos h2, h3, if_pos rfl]
    rfl
  | false =>
    have h := rd_acc x.cps.toList ⟨[], 0, 0, 0, []⟩
    rw [← acc_toList, ha] at h
    rw [if_neg Bool.false_ne_true]
    revert h
    cases rdL ⟨[], 0, 0, 0, []⟩ x.cps.toList with
    | none => intro _; rfl
    | some r =>
      intro h
      have : ¬ 8 ≤ r.q := by simpa using h.symm
      show (if 8 ≤ r.q then _ else _) = _
      rw [if_neg this]
theorem pieces_ok {x : PySem.Str} (hok : ∀ q, q < x.cps.size → okc (x.cps.getD q 0) = true) (ha : acc x.cps 0 0 = true) : ∀ u ∈ pieces x, PieceOk u.cps :=
  (rd_pieces hok (x.cps.size + 1) 0 (Nat.zero_le _) (by omega) ha []).2
theorem cut_size (t : Array Nat) : ∀ k p, ∀ u ∈ cutFrom t k p, u.cps.size ≤ t.size
  | 0, p, u, hu => by
    unfold cutFrom at hu
    have : u = ⟨t.extract p t.size⟩ := by simpa using hu
    rw [this]; show (t.extract p t.size).size ≤ _; rw [Array.size_extract]; omega
  | k + 1, p, u, hu => by
    unfold cutFrom at hu
    split at hu
    · rcases List.mem_cons.mp hu with rfl | hu
      · show (t.extract _ _).size ≤ _; rw [Array.size_extract]; omega
      · exact cut_size t k _ u hu
    · have : u = ⟨t.extract p t.size⟩ := by simpa using hu
      rw [this]; show (t.extract p t.size).size ≤ _; rw [Array.size_extract]; omega
theorem pieces_ne (x : PySem.Str) : pieces x ≠ [] := by
  unfold pieces cutFrom
  split <;> exact List.cons_ne_nil _ _
end Mine

end
section
open PySem PySem.W PyProof.Rows
namespace Mine

/-! ## texts: their signs, length and weight -/
structure Good (a b : Nat) (x : PySem.Str) : Prop where
  len : x.length ≤ a
  wt : wtl x.cps.toList ≤ b
  ok : ∀ c ∈ x.cps.toList, okc c = true
theorem Good.append {a b a' b' : Nat} {x y : PySem.Str} (h : Good a b x) (h' : Good a' b' y) : Good (a + a') (b + b') (x ++ y) where
  len := by rw [PySem.Str.length_append]; exact Nat.add_le_add h.len h'.len
  wt := by rw [PySem.Str.cps_append, Array.toList_append, wtl_append]; exact Nat.add_le_add h.wt h'.wt
  ok := fun c hc => by
    rw [PySem.Str.cps_append, Array.toList_append] at hc
    exact (List.mem_append.mp hc).elim (h.ok c) (h'.ok c)
theorem Good.mono {a b a' b' : Nat} {x : PySem.Str} (h : Good a b x) (ha : a ≤ a') (hb : b ≤ b') : Good a' b' x := ⟨Nat.le_trans h.len ha, Nat.le_trans h.wt hb, h.ok⟩
def goodB (a b : Nat) (x : PySem.Str) : Bool := decide (x.length ≤ a) && decide (wtl x.cps.toList ≤ b) && x.cps.toList.all okc
theorem Good.of {a b : Nat} {x : PySem.Str} (h : goodB a b x = true) : Good a b x := by
  unfold goodB at h
  simp only [Bool.and_eq_true, decide_eq_true_eq, List.all_eq_true] at h
  exact ⟨h.1.1, h.1.2, h.2⟩
theorem good_all {a b : Nat} {ws : List PySem.Str} (h : ws.all (goodB a b) = true) : ∀ x ∈ ws, Good a b x := fun x hx => Good.of (List.all_eq_true.mp h x hx)

/-! ## a number's figures -/
theorem dec_list (n : Nat) : (PySem.Str.ofString (toString (n : Int))).cps.toList = (Nat.toDigits 10 n).map Char.toNat := by
  rw [PySem.Str.ofString_eq_toList]
  show List.map Char.toNat (toString (n : Int)).toList = _
  have : toString (n : Int) = String.ofList (Nat.toDigits 10 n) := rfl
  rw [this, String.toList_ofList]
theorem dec_digit {n c : Nat} (h : c ∈ (Nat.toDigits 10 n).map Char.toNat) : 48 ≤ c ∧ c ≤ 57 := by
  obtain ⟨d, hd, rfl⟩ := List.mem_map.mp h
  have := Nat.isDigit_of_mem_toDigits (by decide) (by decide) hd
  simp only [Char.isDigit, Bool.and_eq_true, decide_eq_true_eq] at this
  exact ⟨this.1, this.2⟩
theorem dec_good {k : Int} {n : Nat} (h0 : 0 ≤ k) (hn : k < ((10 ^ n : Nat) : Int)) (h1 : 1 ≤ n) : Good n 0 (PySem.Str.ofString (toString k)) := by
  obtain ⟨j, rfl⟩ := Int.eq_ofNat_of_zero_le h0
  have hl := dec_list j
  have hlen : (PySem.Str.ofString (toString (j : Int))).length = (Nat.toDigits 10 j).length := by
    show Array.size _ = _
    rw [← Array.length_toList, hl, List.length_map]
  refine ⟨?_, ?_, ?_⟩
  · rw [hlen]
    exact toDigits_len_pow (by decide) h1 (by exact_mod_cast hn)
  · rw [hl]
    have : ∀ l : List Nat, (∀ c ∈ l, 48 ≤ c ∧ c ≤ 57) → wtl l = 0 := by
      intro l
      induction l with
      | nil => intro _; rfl
      | cons c l ih =>
        intro h
        have hc := h c (.head _)
        have e : wtc c = 0 := by
          unfold wtc blankc sepc
          rw [if_neg (by simp; omega), if_neg (by simp; omega)]
        show wtc c + wtl l = 0
        rw [e, ih fun d hd => h d (.tail _ hd)]
    rw [this _ fun c hc => dec_digit hc]
    exact Nat.le_refl _
  · intro c hc
    rw [hl] at hc
    have := dec_digit hc
    unfold okc
    have h1 : decide (c < 128) = true := by simp; omega
    have h2 : (c != 58) = true := by simp; omega
    rw [h1, h2]; rfl

/-! ## a gap -/
def blanksS : PySem.Str := Str.ofString " \t\n\x0b\x0c\x0d\x1c\x1d\x1e\x1f"
theorem gap_item (k : Int) : ∃ c, Txt.item blanksS k = ⟨#[c]⟩ ∧ (0 ≤ k → k < 10 → blankc c = true ∧ okc c = true) := by
  refine ⟨(Txt.charAt blanksS k).getD 0, rfl, fun h0 h1 => ?_⟩
  have : ∀ j : Fin 10, blankc ((Txt.charAt blanksS (j.val : Int)).getD 0) = true ∧ okc ((Txt.charAt blanksS (j.val : Int)).getD 0) = true := by decide +kernel
  have e := this ⟨k.toNat, by omega⟩
  have hk : ((k.toNat : Nat) : Int) = k := Int.toNat_of_nonneg h0
  simp only [hk] at e
  exact e
theorem gap_good (n : Int) : Good 2 2 (Txt.mul (Txt.item blanksS (n.fmod 10)) (n.fmod 3)) := by
  have h1 := Int.fmod_nonneg_of_pos n (show (0:Int) < 10 by decide)
  have h2 := Int.fmod_lt_of_pos n (show (0:Int) < 10 by decide)
  have h3 := Int.fmod_nonneg_of_pos n (show (0:Int) < 3 by decide)
  have h4 := Int.fmod_lt_of_pos n (show (0:Int) < 3 by decide)
  obtain ⟨c, e, hc⟩ := gap_item (n.fmod 10)
  obtain ⟨hb, ho⟩ := hc h1 h2
  rw [e]
  have hl := mul_one_list c (n.fmod 3)
  have hn : (n.fmod 3).toNat ≤ 2 := by omega
  refine ⟨?_, ?_, ?_⟩
  · show (Txt.mul _ _).cps.size ≤ 2
    rw [← Array.length_toList, hl, List.length_replicate]; exact hn
  · rw [hl, wtl_rep]
    have : wtc c = 1 := by unfold wtc; rw [if_pos hb]
    rw [this]; omega
  · intro d hd
    rw [hl] at hd
    rw [List.eq_of_mem_replicate hd]; exact ho

abbrev TopA (hl : Option Value) (dp un : Nat) (gd : Option (List Code)) (env : Env) (outer : List Env) : Around := { handled := hl, depth := dp, frames := some (env :: outer), guards := gd, units := un }

section
variable {prog : Program} {w : World} {A : Around} {E : Value → Shared → Prop} {s : Shared} {value slice : PySem.Expr} {l : Addr} {vs : List Value} {ws : List PySem.Str} {x : PySem.Str} {n k : Nat} {i : Int} {t u : Tok} {Q : Value → Shared → Prop}
theorem all_getD {P : PySem.Str → Prop} (h0 : 0 ≤ i) (h1 : i < (ws.length : Int)) (hP : ∀ x ∈ ws, P x) : P (ws.getD i.toNat PySem.Str.empty) := by
  have hlt : i.toNat < ws.length := by omega
  rw [List.getD_eq_getElem?_getD, List.getElem?_eq_getElem hlt]
  exact hP _ (List.getElem_mem hlt)
theorem item_listG (P : PySem.Str → Prop) (hl : s.heap.IsList l vs.toArray) (hw : StrsAre vs ws) (h0 : 0 ≤ i) (h1 : i < (ws.length : Int)) (hfit : i < 2 ^ 63) (hP : ∀ x ∈ ws, P x) (h : ∀ x t', P x → Q (.str x t') s)
    (hs : subscripted slice false (.ref l) (.int i u) = operate [.ref l, .int i u] (getItem (.ref l) (.int i u)) := by with_unfolding_all rfl) :
    wpAny (model prog w) A (subscriptTail value slice (.ref l) (.int i u)) Q E s :=
  KTb.item_list hl hw h0 h1 hfit (fun t' _ => h _ t' (all_getD h0 h1 hP)) hs
theorem item_tupG (P : PySem.Str → Prop) (ht : IsTup s.heap l vs.toArray) (hw : StrsAre vs ws) (h0 : 0 ≤ i) (h1 : i < (ws.length : Int)) (hfit : i < 2 ^ 63) (hP : ∀ x ∈ ws, P x) (h : ∀ x t', P x → Q (.str x t') s)
    (hs : subscripted slice false (.ref l) (.int i u) = operate [.ref l, .int i u] (getItem (.ref l) (.int i u)) := by with_unfolding_all rfl) :
    wpAny (model prog w) A (subscriptTail value slice (.ref l) (.int i u)) Q E s :=
  KTb.item_tup ht hw h0 h1 hfit (fun t' _ => h _ t' (all_getD h0 h1 hP)) hs
end

section
variable {w : World} {p : Program} {loose : List PySem.Str} {mean : ExcName → Option Value} {mg mb : PySem.Str → Option Value} {A₀ : Around} {base h₀ : Heap} {hl : Option Value} {dp un : Nat} {gd : Option (List Code)} {outer : List Env} {env : Env} {L : Addr} {m : PySem.Str → Option Value} {news : List (Addr × Obj)} {s : Shared} {Q E : Value → Shared → Prop}

local macro_rules | `(tactic| walk_at "m room") => `(tactic| first | assumption | ((try simp only [depth_under_make, depth_under_kw, depth_in1, depth_deeper, depth_caller]); (try dsimp only [TopA]); omega))
local macro_rules | `(tactic| walk_at "m enter") => `(tactic| (refine wpAny_call ?_; k_dflt (refine' code_def ?k1 ?k2 ?k3 ?k4 ?k5 ?kA ?kF ?kK ?k6 ?k7 ?k8 ?k9 ?kB ?_ ?c2 ?c3 ?c4 ?c5; (case kA => exact rfl); (case kF => assumption); (case kK => assumption); (case k1 => k_asm); (case k2 => k_asm); (case k3 => k_asm); (case k4 => k_asm); (case k5 => k_asm); (case k6 => k_is); (case k7 => k_is); (case k8 => walk_at "m room"); (case k9 => exact BindsTo.of_eq rfl); (case c5 => decide); (case kB => exact locs rfl); (case c2 => exact rfl); (case c3 => exact rfl); (case c4 => exact rfl); k_whole; intro g' L' h' FG' F' N' B' X' T'; (try dsimp only); (try k_lift B'); (try k_fold))))
-- the premises of a call by contract
local macro_rules | `(tactic| walk_at "m prem") => `(tactic| ((case kB => k_asm); (case kF => k_asm); (case kX => k_asm); (case kN => k_asm); (case kT => k_asm); (case kf => exact rfl); (case kk => exact rfl); (case kd => walk_at "m room"); (case ku => walk_at "m units")))
local macro_rules | `(tactic| walk_at "m units") => `(tactic| first | assumption | ((try simp only [units_in1, units_deeper, Around.mark_units, units_caller]); (try dsimp only [TopA]); omega))

local macro_rules | `(tactic| walk_at "binaryOp Mult str int") => `(tactic| (k_here; (with_reducible show wpAny _ _ (binaryOp Operator.Mult (Value.str _ _) (Value.int _ _)) _ _ _); (refine SB.mul (mulOk_of 16 1048576 (by omega) (by have := Int.fmod_lt_of_pos ‹Int› (show (0:Int) < 3 by decide); omega) (by have := Int.fmod_nonneg_of_pos ‹Int› (show (0:Int) < 3 by decide); omega) (by decide) (by decide)) ?_); intro _ _))

set_option maxRecDepth 100000 in
set_option maxHeartbeats 8000000 in
theorem gap_call (n : Int) (t : Tok) (B : Below A₀ base outer h₀) (F : Fr h₀ L s.heap m) (X : (hd.heap_39 w.params).In h₀) (N : News h₀ L s.heap news) (T : Top p loose mean mg mb h₀) (hf : env.frame = some L) (hke : env.scope.kind = .function)
    (hdp : dp + 5 < recursionLimit) (hun : un + 20 < cLine)
    (hret : ∀ x t h' tk', Good 2 2 x → Fr h₀ L h' m → News h₀ L h' news → Q (.str x t) { s with heap := h', toks := tk' }) :
    wpAny (model PySem.Challenge.rw_bn0039_01.row.prog w) (TopA hl dp un gd env outer) (call (.ref 383) [.int n t]) Q E s := by
  revert X; k_fill; intro X
  walk_at "m enter"
  k_steps
  exact hret _ _ _ _ (gap_good n) (by k_asm) (by k_asm)
end
end Mine

end
section
open PySem PySem.W PyProof.Rows
set_option linter.unusedVariables false
namespace Mine
theorem str_goodN {prog : Program} {w : World} {A : Around} {E : Value → Shared → Prop} {s : Shared} {Q : Value → Shared → Prop} {k : Int} {t : Tok} (n : Nat) (h0 : 0 ≤ k) (hn : k < ((10 ^ n : Nat) : Int)) (h1 : 1 ≤ n) (h9 : n ≤ 9)
    (h : ∀ x t' tk, Good n 0 x → Q (.str x t') { s with toks := tk }) : wpAny (model prog w) A (call (.type "str") [.int k t]) Q E s := by
  refine P.str_of_int ?_ (h _ _ _ (dec_good h0 hn h1))
  have h2 : k.natAbs < 2 ^ 1919 := by
    have : (10 : Nat) ^ n ≤ 10 ^ 9 := Nat.pow_le_pow_right (by decide) h9
    have h3 : k.natAbs < 10 ^ 9 := by omega
    exact Nat.lt_of_lt_of_le h3 (Nat.le_trans (show 10 ^ 9 ≤ 2 ^ 30 by decide) (Nat.pow_le_pow_right (by decide) (by decide)))
  by_cases h0 : k.natAbs = 0
  · rw [h0]; decide
  · exact Nat.lt_succ_of_lt ((Nat.log2_lt h0).mpr h2)
theorem good5 {a b c d e : PySem.Str} (h1 : goodB 6 0 a = true) (h2 : goodB 6 0 b = true) (h3 : goodB 6 0 c = true) (h4 : Good 6 0 d) (h5 : goodB 6 0 e = true) : ∀ x ∈ [a, b, c, d, e], Good 6 0 x := by
  intro x hx
  simp only [List.mem_cons, List.not_mem_nil, or_false] at hx
  rcases hx with rfl | rfl | rfl | rfl | rfl
  · exact Good.of h1
  · exact Good.of h2
  · exact Good.of h3
  · exact h4
  · exact Good.of h5
section
variable {w : World} {p : Program} {loose : List PySem.Str} {mean : ExcName → Option Value} {mg mb : PySem.Str → Option Value} {A₀ : Around} {base h₀ : Heap} {hl : Option Value} {dp un : Nat} {gd : Option (List Code)} {outer : List Env} {env : Env} {L : Addr} {m : PySem.Str → Option Value} {news : List (Addr × Obj)} {s : Shared} {Q E : Value → Shared → Prop}
local macro_rules | `(tactic| walk_at "m room") => `(tactic| first | assumption | ((try simp only [depth_under_make, depth_under_kw, depth_in1, depth_deeper, depth_caller]); (try dsimp only [TopA]); omega))
local macro_rules | `(tactic| walk_at "m enter") => `(tactic| (refine wpAny_call ?_; k_dflt (refine' code_def ?k1 ?k2 ?k3 ?k4 ?k5 ?kA ?kF ?kK ?k6 ?k7 ?k8 ?k9 ?kB ?_ ?c2 ?c3 ?c4 ?c5; (case kA => exact rfl); (case kF => assumption); (case kK => assumption); (case k1 => k_asm); (case k2 => k_asm); (case k3 => k_asm); (case k4 => k_asm); (case k5 => k_asm); (case k6 => k_is); (case k7 => k_is); (case k8 => walk_at "m room"); (case k9 => exact BindsTo.of_eq rfl); (case c5 => decide); (case kB => exact locs rfl); (case c2 => exact rfl); (case c3 => exact rfl); (case c4 => exact rfl); k_whole; intro g' L' h' FG' F' N' B' X' T'; (try dsimp only); (try k_lift B'); (try k_fold))))
local macro_rules | `(tactic| walk_at "m units") => `(tactic| first | assumption | ((try simp only [units_in1, units_deeper, Around.mark_units, units_caller]); (try dsimp only [TopA]); omega))
local macro_rules | `(tactic| walk_at "m prem") => `(tactic| ((case kB => k_asm); (case kF => k_asm); (case kX => k_asm); (case kN => k_asm); (case kT => k_asm); (case kf => exact rfl); (case kk => exact rfl); (case kd => walk_at "m room"); (case ku => walk_at "m units")))

local macro_rules | `(tactic| walk_at "call type:str") => `(tactic| (k_here; (with_reducible show wpAny _ _ (call (Value.type "str") [Value.int _ _]) _ _ _); k_dflt (refine' str_goodN 9 ?s0 ?s1 (by decide) (by decide) ?_; (case s0 => exact Int.fmod_nonneg_of_pos _ (by decide)); (case s1 => exact Int.fmod_lt_of_pos _ (by decide))); intro x9 t9 tk9 G9; (have l9 := G9.len)))
local macro_rules | `(tactic| walk_at "call type:str") => `(tactic| (k_here; (with_reducible show wpAny _ _ (call (Value.type "str") [Value.int _ _]) _ _ _); k_dflt (refine' str_goodN 6 ?s0 ?s1 (by decide) (by decide) ?_; (case s0 => exact Int.fmod_nonneg_of_pos _ (by decide)); (case s1 => exact Int.fmod_lt_of_pos _ (by decide))); intro x9 t9 tk9 G9; (have l9 := G9.len)))
local macro_rules | `(tactic| walk_at "call ref") => `(tactic| (k_here; k_dflt (show wpAny _ _ (call (Value.ref 383) [Value.int _ _]) _ _ _); k_dflt (refine' gap_call _ _ ?kB ?kF ?kX ?kN ?kT ?kf ?kk ?kd ?ku ?_); (walk_at "m prem"); intro x9 t9 h9 tk9 G9 F9 N9; (have l9 := G9.len); (try dsimp only)))
local macro_rules | `(tactic| walk_at "subscriptTail") => `(tactic| (k_here; (with_reducible show wpAny _ _ (subscriptTail _ _ (Value.ref _) (Value.int _ _)) _ _ _); k_dflt (refine' item_tupG (Good 7 0) ?ktbl ?ktbw ?ktb0 ?ktb1 ?ktbf ?ktbP ?_; (case ktbl => ktb_isTup); (case ktbw => repeat constructor); (case ktb0 => ktb_idx); (case ktb1 => ktb_idx); (case ktbf => ktb_idx); (case ktbP => first | exact good_all (by decide +kernel) | exact good5 (by decide +kernel) (by decide +kernel) (by decide +kernel) (by assumption) (by decide +kernel))); intro x9 t9 G9; (have l9 := G9.len)))
local macro_rules | `(tactic| walk_at "subscriptTail") => `(tactic| (k_here; (with_reducible show wpAny _ _ (subscriptTail _ _ (Value.ref _) (Value.int _ _)) _ _ _); k_dflt (refine' item_tupG (Good 3 0) ?ktbl ?ktbw ?ktb0 ?ktb1 ?ktbf ?ktbP ?_; (case ktbl => ktb_isTup); (case ktbw => repeat constructor); (case ktb0 => ktb_idx); (case ktb1 => ktb_idx); (case ktbf => ktb_idx); (case ktbP => first | exact good_all (by decide +kernel) | exact good5 (by decide +kernel) (by decide +kernel) (by decide +kernel) (by assumption) (by decide +kernel))); intro x9 t9 G9; (have l9 := G9.len)))
local macro_rules | `(tactic| walk_at "subscriptTail") => `(tactic| (k_here; (with_reducible show wpAny _ _ (subscriptTail _ _ (Value.ref _) (Value.int _ _)) _ _ _); k_dflt (refine' item_listG (Good 6 0) ?ktbl ?ktbw ?ktb0 ?ktb1 ?ktbf ?ktbP ?_; (case ktbl => ktb_isList); (case ktbw => repeat constructor); (case ktb0 => ktb_idx); (case ktb1 => ktb_idx); (case ktbf => ktb_idx); (case ktbP => first | exact good_all (by decide +kernel) | exact good5 (by decide +kernel) (by decide +kernel) (by decide +kernel) (by assumption) (by decide +kernel))); intro x9 t9 G9; (have l9 := G9.len)))


set_option maxRecDepth 100000 in
set_option maxHeartbeats 8000000 in
theorem limit_call (n : Int) (t : Tok) (B : Below A₀ base outer h₀) (F : Fr h₀ L s.heap m) (X : (hd.heap_39 w.params).In h₀) (N : News h₀ L s.heap news) (T : Top p loose mean mg mb h₀) (hf : env.frame = some L) (hke : env.scope.kind = .function)
    (hdp : dp + 15 < recursionLimit) (hun : un + 40 < cLine)
    (hret : ∀ x t h' tk', Good 41 12 x → Fr h₀ L h' m → News h₀ L h' news → Q (.str x t) { s with heap := h', toks := tk' }) :
    wpAny (model PySem.Challenge.rw_bn0039_01.row.prog w) (TopA hl dp un gd env outer) (call (.ref 390) [.int n t]) Q E s := by
  revert X; k_fill; intro X
  walk_at "m enter"
  k_with "table" => skip
  k_steps
  refine hret _ _ _ _ (Good.mono (by repeat' (first | assumption | apply Good.append)) (by decide) (by decide)) (by k_asm) (cb_drop (by assumption) (fun p hp => by simp only [List.mem_cons]; exact .inr (.inr hp)))
end
end Mine

end
section
open PySem PySem.W PyProof.Rows PySem.Builtin PySem.Builtin.Str
namespace Mine
theorem sliceRange_nat (a b : Nat) : sliceRange (a : Int) (b : Int) 1 = (List.range (b - a)).map (fun k => a + k) := by
  unfold sliceRange
  simp only [show ((1 : Int) > 0) = True from by simp, if_true]
  by_cases hlt : (a : Int) < b
  · rw [if_pos hlt]
    have e : (((b : Int) - a + 1 - 1) / 1).toNat = b - a := by
      rw [Int.ediv_one]; omega
    rw [e]
    refine List.map_congr_left fun k _ => ?_
    omega
  · rw [if_neg hlt]
    have : b - a = 0 := by omega
    rw [this]; rfl
theorem sliceIdx (l u : Option Nat) (n : Nat) : strSliceIndices (l.map fun (k : Nat) => (k : Int)) (u.map fun (k : Nat) => (k : Int)) 1 n = (List.range (min (u.getD n) n - min (l.getD 0) n)).map (fun k => min (l.getD 0) n + k) := by
  rw [← sliceRange_nat]
  unfold strSliceIndices
  cases l with
  | none =>
    cases u with
    | none => simp
    | some b =>
      have h : ¬ ((b : Int) < 0) := by omega
      simp only [Option.map_some, Option.map_none, Option.getD_some, Option.getD_none, h, if_false, show ((1 : Int) > 0) = True from by simp, if_true]
      congr 1 <;> omega
  | some a =>
    have ha : ¬ ((a : Int) < 0) := by omega
    cases u with
    | none =>
      simp only [Option.map_some, Option.map_none, Option.getD_some, Option.getD_none, ha, if_false, show ((1 : Int) > 0) = True from by simp, if_true]
      congr 1 <;> omega
    | some b =>
      have h : ¬ ((b : Int) < 0) := by omega
      simp only [Option.map_some, Option.getD_some, ha, h, if_false, show ((1 : Int) > 0) = True from by simp, if_true]
      congr 1 <;> omega
theorem slice_list (x : PySem.Str) (l u : Option Nat) : (Txt.slice x (l.map fun (k : Nat) => (k : Int)) (u.map fun (k : Nat) => (k : Int))).cps.toList = (x.cps.toList.drop (l.getD 0)).take (u.getD x.length - l.getD 0) := by
  have hlen : x.cps.toList.length = x.length := by simp [PySem.Str.length]
  have key : ((strSliceIndices (l.map fun (k : Nat) => (k : Int)) (u.map fun (k : Nat) => (k : Int)) 1 x.length).filterMap (x.cps[·]?)) = (x.cps.toList.drop (l.getD 0)).take (u.getD x.length - l.getD 0) := by
    rw [sliceIdx]
    by_cases hz : min (u.getD x.length) x.length ≤ min (l.getD 0) x.length
    · rw [Nat.sub_eq_zero_of_le hz]
      by_cases hl : l.getD 0 ≤ x.length
      · rw [Nat.min_eq_left hl] at hz
        by_cases hu : u.getD x.length ≤ x.length
        · rw [Nat.min_eq_left hu] at hz
          rw [Nat.sub_eq_zero_of_le hz]; simp
        · have : x.length ≤ l.getD 0 := by omega
          rw [List.drop_eq_nil_of_le (by omega)]; simp
      · rw [List.drop_eq_nil_of_le (by omega)]; simp
    have h := StrLaws.picks x.cps.toList (min (u.getD x.length) x.length - min (l.getD 0) x.length) (min (l.getD 0) x.length) (by rw [hlen]; omega)
    have h' : (List.map (fun k => min (l.getD 0) x.length + k) (List.range (min (u.getD x.length) x.length - min (l.getD 0) x.length))).filterMap (x.cps[·]?) = (x.cps.toList.drop (min (l.getD 0) x.length)).take (min (u.getD x.length) x.length - min (l.getD 0) x.length) := by simpa using h
    rw [h']
    by_cases hl : l.getD 0 ≤ x.length
    · rw [Nat.min_eq_left hl]
      by_cases hu : u.getD x.length ≤ x.length
      · rw [Nat.min_eq_left hu]
      · rw [Nat.min_eq_right (by omega)]
        rw [List.take_of_length_le (by rw [List.length_drop]; omega), List.take_of_length_le (by rw [List.length_drop]; omega)]
    · rw [Nat.min_eq_right (by omega), List.drop_eq_nil_of_le (by omega), List.drop_eq_nil_of_le (by omega)]
      simp
  unfold Txt.slice
  split
  · rename_i h
    have h2 : (strSliceIndices (l.map fun (k : Nat) => (k : Int)) (u.map fun (k : Nat) => (k : Int)) 1 x.length).length = x.length := by simpa using h
    rw [sliceIdx, List.length_map, List.length_range] at h2
    have h3 : (min (u.getD x.length) x.length - min (l.getD 0) x.length) = x.length := h2
    by_cases h0 : x.length = 0
    · have : x.cps.toList = [] := List.eq_nil_of_length_eq_zero (by omega)
      rw [this]; simp
    · have hl0 : l.getD 0 = 0 := by omega
      have hu0 : x.length ≤ u.getD x.length := by omega
      rw [hl0, List.drop_zero, List.take_of_length_le (by omega)]
  · exact key
theorem slice_to (x : PySem.Str) (b : Nat) : (Txt.slice x none (some (b : Int))).cps.toList = x.cps.toList.take b := by
  have := slice_list x none (some b)
  simpa using this
theorem slice_from (x : PySem.Str) (a : Nat) : (Txt.slice x (some (a : Int)) none).cps.toList = x.cps.toList.drop a := by
  have := slice_list x (some a) none
  simp only [Option.map_some, Option.map_none, Option.getD_some, Option.getD_none] at this
  rw [this, List.take_of_length_le]
  rw [List.length_drop]; simp [PySem.Str.length]
theorem slice_mid (x : PySem.Str) (a b : Nat) : (Txt.slice x (some (a : Int)) (some (b : Int))).cps.toList = (x.cps.toList.drop a).take (b - a) := by
  have := slice_list x (some a) (some b)
  simpa using this

theorem good_of_list {a b : Nat} {x : PySem.Str} {l : List Nat} (e : x.cps.toList = l) (h1 : l.length ≤ a) (h2 : wtl l ≤ b) (h3 : ∀ c ∈ l, okc c = true) : Good a b x where
  len := by show x.cps.size ≤ a; rw [← Array.length_toList, e]; exact h1
  wt := by rw [e]; exact h2
  ok := fun c hc => h3 c (e ▸ hc)
theorem Good.llen {a b : Nat} {x : PySem.Str} (h : Good a b x) : x.cps.toList.length ≤ a := by simpa [PySem.Str.length] using h.len
theorem wtl_take_drop (l : List Nat) (k : Nat) : wtl (l.take k) + wtl (l.drop k) = wtl l := by rw [← wtl_append, List.take_append_drop]
theorem wtl_drop_le (l : List Nat) (k : Nat) : wtl (l.drop k) ≤ wtl l := by have := wtl_take_drop l k; omega
theorem drop_cut (l : List Nat) (q j : Nat) : wtl (l.drop (q + j)) + wtl ((l.drop q).take j) = wtl (l.drop q) := by
  have := wtl_take_drop (l.drop q) j
  rw [List.drop_drop] at this
  omega
section
variable {a b : Nat} {x y : PySem.Str} {i : Int}
theorem ch_ins (h : Good a b x) (hy : Good 1 4 y) (h0 : 0 ≤ i) : Good (a + 1) (b + 4) (Txt.slice x none (some i) ++ y ++ Txt.slice x (some i) none) := by
  obtain ⟨q, rfl⟩ := Int.eq_ofNat_of_zero_le h0
  have hl := h.llen
  have hw := wtl_take_drop x.cps.toList q
  refine good_of_list (by rw [PySem.Str.cps_append, PySem.Str.cps_append, Array.toList_append, Array.toList_append, slice_to, slice_from]) ?_ ?_ fun c hc => ?_
  · have := hy.llen
    rw [List.length_append, List.length_append, List.length_take, List.length_drop]; omega
  · have h1 := hy.wt; have h2 := h.wt
    rw [wtl_append, wtl_append]; omega
  · rcases List.mem_append.mp hc with hc | hc
    · rcases List.mem_append.mp hc with hc | hc
      · exact h.ok c (List.mem_of_mem_take hc)
      · exact hy.ok c hc
    · exact h.ok c (List.mem_of_mem_drop hc)
theorem ch_over (h : Good a b x) (hy : Good 1 4 y) (h0 : 0 ≤ i) : Good (a + 1) (b + 4) (Txt.slice x none (some i) ++ y ++ Txt.slice x (some (i + 1)) none) := by
  obtain ⟨q, rfl⟩ := Int.eq_ofNat_of_zero_le h0
  have hl := h.llen
  have hw := wtl_take_drop x.cps.toList q
  have hw2 := drop_cut x.cps.toList q 1
  refine good_of_list (by rw [PySem.Str.cps_append, PySem.Str.cps_append, Array.toList_append, Array.toList_append, slice_to, show ((q : Int) + 1) = ((q + 1 : Nat) : Int) from rfl, slice_from]) ?_ ?_ fun c hc => ?_
  · have := hy.llen
    rw [List.length_append, List.length_append, List.length_take, List.length_drop]; omega
  · have h1 := hy.wt; have h2 := h.wt
    rw [wtl_append, wtl_append]; omega
  · rcases List.mem_append.mp hc with hc | hc
    · rcases List.mem_append.mp hc with hc | hc
      · exact h.ok c (List.mem_of_mem_take hc)
      · exact hy.ok c hc
    · exact h.ok c (List.mem_of_mem_drop hc)
theorem ch_out (h : Good a b x) (h0 : 0 ≤ i) : Good (a + 1) (b + 4) (Txt.slice x none (some i) ++ Txt.slice x (some (i + 1)) none) := by
  obtain ⟨q, rfl⟩ := Int.eq_ofNat_of_zero_le h0
  have hl := h.llen
  have hw := wtl_take_drop x.cps.toList q
  have hw2 := drop_cut x.cps.toList q 1
  refine good_of_list (by rw [PySem.Str.cps_append, Array.toList_append, slice_to, show ((q : Int) + 1) = ((q + 1 : Nat) : Int) from rfl, slice_from]) ?_ ?_ fun c hc => ?_
  · rw [List.length_append, List.length_take, List.length_drop]; omega
  · have h2 := h.wt
    rw [wtl_append]; omega
  · rcases List.mem_append.mp hc with hc | hc
    · exact h.ok c (List.mem_of_mem_take hc)
    · exact h.ok c (List.mem_of_mem_drop hc)
theorem wtl_take1 (l : List Nat) : wtl (l.take 1) ≤ 4 := by
  have := wtl_le (l.take 1)
  have h : (l.take 1).length ≤ 1 := by rw [List.length_take]; omega
  omega
theorem ch_dbl (h : Good a b x) (h0 : 0 ≤ i) : Good (a + 1) (b + 4) (Txt.slice x none (some i) ++ Txt.slice x (some i) (some (i + 1)) ++ Txt.slice x (some i) none) := by
  obtain ⟨q, rfl⟩ := Int.eq_ofNat_of_zero_le h0
  have hl := h.llen
  have hw := wtl_take_drop x.cps.toList q
  have hw2 := wtl_take1 (x.cps.toList.drop q)
  refine good_of_list (by rw [PySem.Str.cps_append, PySem.Str.cps_append, Array.toList_append, Array.toList_append, slice_to, slice_from, show ((q : Int) + 1) = ((q + 1 : Nat) : Int) from rfl, slice_mid, Nat.add_sub_cancel_left]) ?_ ?_ fun c hc => ?_
  · rw [List.length_append, List.length_append, List.length_take, List.length_drop, List.length_take, List.length_drop]; omega
  · have h2 := h.wt
    rw [wtl_append, wtl_append]; omega
  · rcases List.mem_append.mp hc with hc | hc
    · rcases List.mem_append.mp hc with hc | hc
      · exact h.ok c (List.mem_of_mem_take hc)
      · exact h.ok c (List.mem_of_mem_drop (List.mem_of_mem_take hc))
    · exact h.ok c (List.mem_of_mem_drop hc)
end
end Mine

end
section
open PySem PySem.W PyProof.Rows
set_option linter.unusedVariables false
namespace Mine
theorem sign_often {k : Int} (h0 : 0 ≤ k) (h1 : k < 14) : Good 1 4 (Txt.item (Str.ofString "0 s/,1;|9PerS\t") k) := by
  have h : ∀ j : Fin 14, goodB 1 4 (Txt.item (Str.ofString "0 s/,1;|9PerS\t") (j.val : Int)) = true := by decide +kernel
  have e := h ⟨k.toNat, by omega⟩
  have hk : ((k.toNat : Nat) : Int) = k := Int.toNat_of_nonneg h0
  simp only [hk] at e
  exact Good.of e
theorem one_good {c : Nat} (h : okc c = true) : Good 1 4 ⟨#[c]⟩ where
  len := Nat.le_refl _
  wt := by
    show wtc c + 0 ≤ 4
    unfold wtc; split <;> (try split) <;> omega
  ok := fun d hd => by
    have : d = c := by simpa using hd
    rw [this]; exact h
theorem ok_ascii {c : Nat} (h : c < 128) (h' : c ≠ 58) : okc c = true := by
  unfold okc
  have h1 : decide (c < 128) = true := by simpa using h
  have h2 : (c != 58) = true := by simpa using h'
  rw [h1, h2]; rfl
theorem sign_last (j : Nat) : 0 ≤ ([1635, 178, 233].getD j 0 : Int) ∧ ([1635, 178, 233].getD j 0 : Int) ≤ 1114111 := by
  rcases j with _ | _ | _ | j
  · decide
  · decide
  · decide
  · exact ⟨Int.le_refl _, (by decide : (0 : Int) ≤ 1114111)⟩
theorem sign_last_ok {j : Nat} (h : j < 3) : okc ([1635, 178, 233].getD j 0 : Int).toNat = true := by
  have : ∀ j : Fin 3, okc ([1635, 178, 233].getD j.val 0 : Int).toNat = true := by decide +kernel
  exact this ⟨j, h⟩
section
variable {w : World} {p : Program} {loose : List PySem.Str} {mean : ExcName → Option Value} {mg mb : PySem.Str → Option Value} {A₀ : Around} {base h₀ : Heap} {hl : Option Value} {dp un : Nat} {gd : Option (List Code)} {outer : List Env} {env : Env} {L : Addr} {m : PySem.Str → Option Value} {news : List (Addr × Obj)} {s : Shared} {Q E : Value → Shared → Prop}
local macro_rules | `(tactic| walk_at "m room") => `(tactic| first | assumption | ((try simp only [depth_under_make, depth_under_kw, depth_in1, depth_deeper, depth_caller]); (try dsimp only [TopA]); omega))
local macro_rules | `(tactic| walk_at "m enter") => `(tactic| (refine wpAny_call ?_; k_dflt (refine' code_def ?k1 ?k2 ?k3 ?k4 ?k5 ?kA ?kF ?kK ?k6 ?k7 ?k8 ?k9 ?kB ?_ ?c2 ?c3 ?c4 ?c5; (case kA => exact rfl); (case kF => assumption); (case kK => assumption); (case k1 => k_asm); (case k2 => k_asm); (case k3 => k_asm); (case k4 => k_asm); (case k5 => k_asm); (case k6 => k_is); (case k7 => k_is); (case k8 => walk_at "m room"); (case k9 => exact BindsTo.of_eq rfl); (case c5 => decide); (case kB => exact locs rfl); (case c2 => exact rfl); (case c3 => exact rfl); (case c4 => exact rfl); k_whole; intro g' L' h' FG' F' N' B' X' T'; (try dsimp only); (try k_lift B'); (try k_fold))))
local macro_rules | `(tactic| walk_at "m units") => `(tactic| first | assumption | ((try simp only [units_in1, units_deeper, Around.mark_units, units_caller]); (try dsimp only [TopA]); omega))
local macro_rules | `(tactic| walk_at "m prem") => `(tactic| ((case kB => k_asm); (case kF => k_asm); (case kX => k_asm); (case kN => k_asm); (case kT => k_asm); (case kf => exact rfl); (case kk => exact rfl); (case kd => walk_at "m room"); (case ku => walk_at "m units")))


local macro_rules | `(tactic| walk_at "call builtin:chr") => `(tactic| (k_here; (with_reducible show wpAny _ _ (call (Value.builtin "chr") [Value.int (List.getD _ _ _) _]) _ _ _); k_dflt (refine chr_of_range (sign_last _).1 (sign_last _).2 ?_)))
set_option maxRecDepth 100000 in
set_option maxHeartbeats 8000000 in
theorem sign_call (k : Int) (t : Tok) (h0 : 0 ≤ k) (h1 : k < 144) (B : Below A₀ base outer h₀) (F : Fr h₀ L s.heap m) (X : (hd.heap_39 w.params).In h₀) (N : News h₀ L s.heap news) (T : Top p loose mean mg mb h₀) (hf : env.frame = some L) (hke : env.scope.kind = .function)
    (hdp : dp + 5 < recursionLimit) (hun : un + 20 < cLine)
    (hret : ∀ x t h' tk', Good 1 4 x → Fr h₀ L h' m → News h₀ L h' news → Q (.str x t) { s with heap := h', toks := tk' }) :
    wpAny (model PySem.Challenge.rw_bn0039_01.row.prog w) (TopA hl dp un gd env outer) (call (.ref 397) [.int k t]) Q E s := by
  revert X; k_fill; intro X
  walk_at "m enter"
  k_with "table" => skip
  k_steps
  · exact hret _ _ _ _ (sign_often h0 (by assumption)) (by k_asm) (by k_asm)
  · exact hret _ _ _ _ (one_good (ok_ascii (by omega) (by omega))) (by k_asm) (by k_asm)
  · exact hret _ _ _ _ (one_good (ok_ascii (by omega) (by omega))) (by k_asm) (by k_asm)
  · exact hret _ _ _ _ (one_good (sign_last_ok (by omega))) (by k_asm) (cb_drop (by assumption) (fun p hp => by simp only [List.mem_cons]; exact .inr hp))

local macro_rules | `(tactic| walk_at "call ref") => `(tactic| (k_here; k_dflt (show wpAny _ _ (call (Value.ref 397) [Value.int _ _]) _ _ _); k_dflt (refine' sign_call _ _ ?k0 ?k1 ?kB ?kF ?kX ?kN ?kT ?kf ?kk ?kd ?ku ?_); (case k0 => exact Int.fmod_nonneg_of_pos _ (by decide)); (case k1 => exact Int.fmod_lt_of_pos _ (by decide)); (walk_at "m prem"); intro x9 t9 h9 tk9 G9 F9 N9; (have l9 := G9.len); (try dsimp only)))
set_option maxRecDepth 100000 in
set_option maxHeartbeats 8000000 in
theorem change_call {a b : Nat} (x : PySem.Str) (u : Tok) (n : Int) (t : Tok) (hG : Good a b x) (ha : a ≤ 1000) (B : Below A₀ base outer h₀) (F : Fr h₀ L s.heap m) (X : (hd.heap_39 w.params).In h₀) (N : News h₀ L s.heap news) (T : Top p loose mean mg mb h₀) (hf : env.frame = some L) (hke : env.scope.kind = .function)
    (hdp : dp + 15 < recursionLimit) (hun : un + 40 < cLine)
    (hret : ∀ x t h' tk', Good (a + 1) (b + 4) x → Fr h₀ L h' m → News h₀ L h' news → Q (.str x t) { s with heap := h', toks := tk' }) :
    wpAny (model PySem.Challenge.rw_bn0039_01.row.prog w) (TopA hl dp un gd env outer) (call (.ref 404) [.str x u, .int n t]) Q E s := by
  revert X; k_fill; intro X
  walk_at "m enter"
  have hx : x.length ≤ 1000 := Nat.le_trans hG.len ha
  k_steps
  · exact hret _ _ _ _ (ch_ins hG (by assumption) (Int.fmod_nonneg_of_pos _ (by omega))) (by k_asm) (by k_asm)
  · exact hret _ _ _ _ (ch_over hG (by assumption) (Int.fmod_nonneg_of_pos _ (by omega))) (by k_asm) (by k_asm)
  · exact hret _ _ _ _ (ch_out hG (Int.fmod_nonneg_of_pos _ (by omega))) (by k_asm) (by k_asm)
  · exact hret _ _ _ _ (ch_dbl hG (Int.fmod_nonneg_of_pos _ (by omega))) (by k_asm) (by k_asm)
end
end Mine

end
section
open PySem PySem.W PyProof.Rows PySem.Calls
set_option maxRecDepth 100000


namespace Mine
section
variable {prog : Program} {w : World} {M : Model} {A : Around} {E : Value → Shared → Prop} {s : Shared} {K : Frag} {C : Addr}
theorem meta_tuple {M : Model} {h : Heap} : Looks M h (typeOf (.type "tuple")) (.type "type") := Looks.of_pure (by kernel_rfl)
theorem issub_nested {dep : Int} {tk : Tok} {Q : Fin → Shared → Prop} {cd : ClassData} {oc : Value} {od : Option Addr} {sl : Array (Option Value)} (X : K.In s.heap) (ho : K.lookup C = some ⟨oc, od, .cls cd, sl⟩) (hm : mroIn K C (.type "tuple") = some true) (h : Q (.done (.ret (.bool true))) s) :
    wpAny M A (Builtin.«issubclass.nested» ⟨[.ref C, .type "tuple", .int dep tk], []⟩) Q E s := by
  obtain ⟨hh, g, d, tt, os⟩ := s
  unfold Builtin.«issubclass.nested»
  refine wpAny_bind (meta_tuple.at ?_)
  rw [if_pos (by decide)]
  k_delta "plainIsSubclass"
  unfold isType
  refine wpAny_bind (wpAny_bind (wpAny_bind (wpAny_loadPart (X _ _ ho) (wpAny_pure ?_))))
  refine wpAny_bind (wpAny_pure ?_)
  dsimp only
  rw [if_pos (by rfl)]
  exact (looks_mroIn X hm).at (wpAny_pure h)
theorem issub_call {Q : Value → Shared → Prop} {cd : ClassData} {oc : Value} {od : Option Addr} {sl : Array (Option Value)} (X : K.In s.heap) (ho : K.lookup C = some ⟨oc, od, .cls cd, sl⟩) (hm : mroIn K C (.type "tuple") = some true) (h : Q (.bool true) s) :
    wpAny (model prog w) A (call (.builtin "issubclass") [.ref C, .type "tuple"]) Q E s :=
  call_issubclass (S := fun _ R s => K.In s.heap ∧ R (.ok (.ret (.bool true))) s) (fun _ _ _ _ _ hs => issubclass_outer (issub_nested hs.1 ho hm hs.2)) ⟨X, h⟩
/-- an instance of the top's whose class is the text's own -/
theorem inst_K {h : Heap} {x dx : Addr} {od : Obj} {dt : Data} {sl : Array (Option Value)} (X : K.In h) (h1 : K.lookup x = some ⟨.ref C, some dx, dt, sl⟩) (hn : notCls ⟨.ref C, some dx, dt, sl⟩ = true) (h2 : K.lookup dx = some od) :
    InstAt h x ⟨.ref C, some dx, dt, sl⟩ C (some od) := ⟨X _ _ h1, rfl, hn, X _ _ h2⟩

/-- a built-in slot on an instance of the text's own subclass -/
theorem check_sub {id owner n : String} {self : Value} {rest : List Value} {kw : List (Str × Value)} {Q : Unit → Shared → Prop} (hk : builtinKind id = some .slot) (hsplit : splitId id = some (owner, n)) (hI : Looks M s.heap (isInstance self (.type owner)) true)
    (ha : argsOk id ⟨self :: rest, kw⟩) (hQ : Q () s) : wpAny M A (checkBuiltinCall id ⟨self :: rest, kw⟩) Q E s := by
  simp only [checkBuiltinCall, hk, hsplit]
  refine wpAny_bind (hI.here ?_)
  simp only [Bool.not_true, Bool.false_eq_true, if_false]
  cases hsig : Manifest.signature? id with
  | none => exact wpAny_pure hQ
  | some sig =>
    simp only [argsOk, hsig] at ha
    have h2 : Bind.checkArgs id sig ⟨self :: rest, kw⟩ = pure () := ha
    show wpAny M A (Bind.checkArgs id sig ⟨self :: rest, kw⟩) Q E s
    rw [h2]; exact wpAny_pure hQ
theorem kind_tgi : builtinKind "tuple.__getitem__" = some .slot := by decide +kernel
theorem split_tgi : splitId "tuple.__getitem__" = some ("tuple", "__getitem__") := by decide +kernel
theorem call_sub {id owner n : String} {B : Builtin} {self : Value} {rest : List Value} {S : PySem.Spec} {Q : Value → Shared → Prop} (hk : builtinKind id = some .slot) (hsplit : splitId id = some (owner, n)) (hp : plainId id = true)
    (entry : entryFor table id = some B) (args : argsOk id ⟨self :: rest, []⟩) (hI : Looks (model prog w) s.heap (isInstance self (.type owner)) true) (g : Meets (B ⟨self :: rest, []⟩) S) (h : S A (wants Q E) s) :
    wpAny (model prog w) A (call (.builtin id) (self :: rest)) Q E s :=
  wpAny_call (codeAny_call_builtin hp entry (check_sub hk hsplit hI args (g prog w A (wants Q E) s h)))
theorem tgi_meets {x : Addr} {ox : Obj} {items : Array Value} {n : Nat} {k : Int} {u : Tok} {j : Nat} {v : Value} (hd : ox.data = .seq items n)
    (hlo : -(2 ^ 63) ≤ k) (hhi : k < 2 ^ 63) (hj : seqIndex? k items.size = some j) (hx : items[j]? = some v) :
    Meets (Builtin.«tuple.__getitem__» ⟨[.ref x, .int k u], []⟩) (fun _ R s => s.heap.get? x = some ox ∧ R (.ok (.ret v)) s) := by
  intro prog w A R s hs
  show wpAny _ _ (Builtin.Tuple.tupleItemsOf (.ref x) >>= _) _ _ s
  refine wpAny_bind (m := Builtin.Tuple.tupleItemsOf (.ref x)) ?_
  unfold Builtin.Tuple.tupleItemsOf
  refine wpAny_bind (wpAny_seqItems hs.1 hd (wpAny_pure ?_))
  refine wpAny_bind (wpAny_typeOf (typeIs_int s k u) ?_)
  rw [if_neg (by decide)]
  refine wpAny_bind (wpAny_specialOf (T := "int") (typeIs_int s k u) int_index ?_)
  rw [if_neg (by simp)]
  refine wpAny_bind (wpAny_of_eq (a := k) rfl ?_)
  rw [if_neg (by simp only [Bool.or_eq_true, decide_eq_true_eq]; omega)]
  simp only [hj, Option.bind_some, hx]
  exact wpAny_pure hs.2
theorem plain_tgi : plainId "tuple.__getitem__" = true := by decide +kernel
theorem tgi_call {x : Addr} {items : Array Value} {n : Nat} {dd : Option Addr} {sl : Array (Option Value)} {od : Option Obj} {k : Int} {u : Tok} {j : Nat} {v : Value} {Q : Value → Shared → Prop} (X : K.In s.heap) (I : InstAt s.heap x ⟨.ref C, dd, .seq items n, sl⟩ C od) (hm : mroIn K C (.type "tuple") = some true)
    (hlo : -(2 ^ 63) ≤ k) (hhi : k < 2 ^ 63) (hj : seqIndex? k items.size = some j) (hx : items[j]? = some v) (h : Q v s) : wpAny (model prog w) A (call (.builtin "tuple.__getitem__") [.ref x, .int k u]) Q E s :=
  call_sub kind_tgi split_tgi plain_tgi entry_tuple_getitem (args_tuple_getitem _ _) (I.type.andThen (looks_mroIn X hm)) (tgi_meets rfl hlo hhi hj hx) ⟨I.at_, h⟩
theorem typeOf_tuple : typeOf (.type "tuple") = pure (.type "type") := by kernel_rfl
theorem stub_tuple : Manifest.isStub "tuple" = false := by decide +kernel
theorem cls_tgi (K : Frag) : findCls K (.type "tuple") (.type "type") "__getitem__" = some (.val (.builtin "tuple.__getitem__")) := by kernel_rfl
set_option maxHeartbeats 4000000 in
theorem handed_tgi : handedIn (.builtin "tuple.__getitem__") = true := by decide +kernel
theorem method_tgi {h₀ : Heap} {L : Addr} {m : Str → Option Value} {pl : Sem Bool} {Q : Value × List Value → Shared → Prop} (F : Fr h₀ L s.heap m) (X₀ : K.In h₀) (h : Q (.builtin "tuple.__getitem__", []) { s with toks := s.toks + 1 }) : wpAny (model prog w) A (getMethod (.type "tuple") "__getitem__" pl) Q E s :=
  method_type (T := "tuple") (name := "__getitem__") (v := .builtin "tuple.__getitem__") F X₀ typeOf_tuple stub_tuple (cls_tgi K) handed_tgi h

theorem kind_tga : builtinKind "tuple.__getattribute__" = some .slot := by decide +kernel
theorem split_tga : splitId "tuple.__getattribute__" = some ("tuple", "__getattribute__") := by decide +kernel
theorem call_subD {id owner n : String} {B : Builtin} {self : Value} {rest : List Value} {Q : Value → Shared → Prop} (hk : builtinKind id = some .slot) (hsplit : splitId id = some (owner, n)) (hp : plainId id = true)
    (entry : entryFor table id = some B) (args : argsOk id ⟨self :: rest, []⟩) (hI : Looks (model prog w) s.heap (isInstance self (.type owner)) true)
    (h : wpAny (model prog w) A.in1 (B ⟨self :: rest, []⟩) (fun fin s' => match fin with | .done f => wants Q E (.ok f) s' | .again c' => c'.quiet = true ∧ codeAny (model prog w) A c' (wants Q E) s') (fun e s' => E e s') s) :
    wpAny (model prog w) A (call (.builtin id) (self :: rest)) Q E s :=
  wpAny_call (codeAny_call_builtin hp entry (check_sub hk hsplit hI args h))
theorem tga_body {x : Addr} {name : PySem.Str} {tk : Tok} {g : Addr} {a : Value} {ox : Obj} {od : Option Obj} {P : Fin → Shared → Prop} (hf : findObj K C od name = some (.bind (.ref g) a)) (X : K.In s.heap) (I : InstAt s.heap x ox C od)
    (h : wpAny (model prog w) A (call (.ref g) [a, .ref x, .ref C]) (fun v s' => P (.done (.ret v)) s') E s) : wpAny (model prog w) A (Builtin.«object.__getattribute__» ⟨[.ref x, .str name tk], []⟩) P E s := by
  obtain ⟨hh, gg, d, t, os⟩ := s
  have L0 := I.type (M := model prog w)
  have L1 := looks_find (M := model prog w) X I hf
  unfold Builtin.«object.__getattribute__»
  refine wpAny_bind (wpAny_pure (wpAny_bind (wpAny_pure (wpAny_bind (L0.at (wpAny_bind (L1.at ?_)))))))
  show wpAny _ _ (holding [a] (call (.ref g) [a, .ref x, .ref C]) >>= ret) _ _ _
  exact wpAny_bind (wpAny_holding (wpAny_mono h (fun v s' z => wpAny_pure z) fun _ _ z => z))
theorem get_tup {x : Addr} {name : PySem.Str} {expr : Bool} {g : Addr} {a : Value} {ox : Obj} {od : Option Obj} {Q : Value → Shared → Prop} (X : K.In s.heap) (I : InstAt s.heap x ox C od)
    (hga : findIn K (.ref C) "__getattribute__" = some (some (.builtin "tuple.__getattribute__"))) (hk : findIn K (.ref C) "__getattr__" = some none) (hm : mroIn K C (.type "tuple") = some true) (hf : findObj K C od name = some (.bind (.ref g) a))
    (h : wpAny (model prog w) A.in1 (call (.ref g) [a, .ref x, .ref C]) (fun v s' => wpAny (model prog w) A (handedOut v) Q E s') (fun _ _ => False) { s with toks := s.toks + 1 }) :
    wpAny (model prog w) A (getAttr (.ref x) name expr) Q E s := by
  obtain ⟨hh, gg, d, t, os⟩ := s
  have L0 := I.type (M := model prog w)
  have L1 := looks_findIn (M := model prog w) X hga
  have L2 := looks_findIn (M := model prog w) X hk
  have L3 : Looks (model prog w) hh (isInstance (.ref x) (.type "tuple")) true := I.type.andThen (looks_mroIn X hm)
  unfold getAttr getAttrBy
  refine wpAny_bind (wpAny_mkText (wpAny_holding (wpAny_bind (L0.at (wpAny_bind (L1.at ?_))))))
  show wpAny _ _ (getAttrByItsOwn _ _ _ _ _ _) _ _ _
  unfold getAttrByItsOwn
  refine wpAny_bind (m := hookBefore (.ref C)) (L2.at ?_)
  refine wpAny_bind (wpAny_attempt (wpAny_holding ?_))
  have e : callGetattribute (.ref x) (.str name t) (.builtin "tuple.__getattribute__") expr = boundAndCalled (.builtin "tuple.__getattribute__") (.ref x) (.str name t) := by
    unfold callGetattribute
    cases expr <;> rfl
  rw [e]
  unfold boundAndCalled
  refine wpAny_bind (wpAny_of_eq (F.slot_tuple_getattribute.bind (.ref x)) ?_)
  refine call_subD (rest := [.str name t]) kind_tga split_tga F.slot_tuple_getattribute.plain F.entry_tuple_ga (F.args_tuple_getattribute_2 _ _) L3 (tga_body hf X I ?_)
  exact wpAny_mono h (fun v s' z => z) fun _ _ z => z.elim
end
end Mine

end
section
open PySem PySem.W PyProof.Rows PySem.Calls
set_option linter.unusedVariables false
set_option maxRecDepth 100000
namespace Mine
/-! ## the six lengths -/
inductive Gr
  | year | month | day | hour | minute | second
def Gr.cls : Gr → Addr
  | .year => 263
  | .month => 277
  | .day => 291
  | .hour => 305
  | .minute => 319
  | .second => 333
def Gr.tup : Gr → Addr
  | .year => 167
  | .month => 162
  | .day => 157
  | .hour => 172
  | .minute => 177
  | .second => 182
def Gr.sec : Gr → Int
  | .year => 31104000
  | .month => 2592000
  | .day => 86400
  | .hour => 3600
  | .minute => 60
  | .second => 1
def Gr.t0 : Gr → Tok
  | .year => 497
  | .month => 481
  | .day => 467
  | .hour => 507
  | .minute => 515
  | .second => 523
def Gr.t1 : Gr → Tok
  | .year => 498
  | .month => 482
  | .day => 468
  | .hour => 508
  | .minute => 516
  | .second => 524
def Gr.dx : Gr → Addr
  | .year => 166
  | .month => 161
  | .day => 156
  | .hour => 171
  | .minute => 176
  | .second => 181
def Gr.name : Gr → PySem.Str
  | .year => Str.ofString "year"
  | .month => Str.ofString "month"
  | .day => Str.ofString "day"
  | .hour => Str.ofString "hour"
  | .minute => Str.ofString "minute"
  | .second => Str.ofString "second"

section
variable {w : World}
theorem gr_tup (g : Gr) : (hd.heap_39 w.params).lookup g.tup = some ⟨.ref 149, some g.dx, .seq #[.int g.sec g.t0, .str g.name g.t1] 0, #[]⟩ := by cases g <;> rfl
theorem gr_dict (g : Gr) : (hd.heap_39 w.params).lookup g.dx = some ⟨.type "dict", none, .dict #[] 0, #[]⟩ := by cases g <;> rfl
noncomputable abbrev KF (w : World) : Frag := hd.heap_39 w.params
theorem gr_plain (g : Gr) (n : PySem.Str) : plainGet (KF w) g.cls n = true := by cases g <;> kernel_rfl
theorem gr_hasDict (g : Gr) : hasDictIn (KF w) g.cls = true := by cases g <;> kernel_rfl
theorem gr_isCls (g : Gr) : isClsIn (KF w) g.cls = true := by cases g <;> kernel_rfl
theorem gr_gran (g : Gr) : findIn (KF w) (.ref g.cls) "GRANULARITY" = some (some (.ref g.tup)) := by cases g <;> kernel_rfl
theorem gr_noget (g : Gr) : specialIn (KF w) (.ref g.tup) "__get__" = some none := by cases g <;> kernel_rfl
theorem gr_amount (g : Gr) : findIn (KF w) (.ref g.cls) "amount" = some (some (.ref 249)) := by cases g <;> kernel_rfl
theorem gr_multiples (g : Gr) : findIn (KF w) (.ref g.cls) "multiples" = some (some (.ref 250)) := by cases g <;> kernel_rfl
theorem gr_namespace (g : Gr) : findIn (KF w) (.ref g.cls) "namespace" = some (some (.ref 251)) := by cases g <;> kernel_rfl
theorem md_get (p : Addr) (hp : p = 249 ∨ p = 250 ∨ p = 251) : specialIn (KF w) (.ref p) "__get__" = some (some (.builtin "member_descriptor.__get__")) := by rcases hp with rfl | rfl | rfl <;> kernel_rfl
theorem md_takes (p : Addr) (hp : p = 249 ∨ p = 250 ∨ p = 251) : takesIn (KF w) (.ref p) = some true := by rcases hp with rfl | rfl | rfl <;> kernel_rfl
theorem md_type (p : Addr) (hp : p = 249 ∨ p = 250 ∨ p = 251) : typeIn (KF w) (.ref p) = some (.type "member_descriptor") := by rcases hp with rfl | rfl | rfl <;> kernel_rfl
theorem gr_slot0 (g : Gr) : slotIn (KF w) 249 g.cls = some 0 := by cases g <;> kernel_rfl
theorem gr_slot1 (g : Gr) : slotIn (KF w) 250 g.cls = some 1 := by cases g <;> kernel_rfl
theorem gr_slot2 (g : Gr) : slotIn (KF w) 251 g.cls = some 2 := by cases g <;> kernel_rfl
theorem gr_set (g : Gr) : findIn (KF w) (.ref g.cls) "__setattr__" = some (some (.builtin "object.__setattr__")) := by cases g <;> kernel_rfl
theorem gr_over (g : Gr) : plainOver (KF w) g.cls = true := by cases g <;> kernel_rfl
theorem gr_taker0 (g : Gr) : takerIn (KF w) g.cls "amount" = some (some (.ref 249)) := by cases g <;> kernel_rfl
theorem gr_taker1 (g : Gr) : takerIn (KF w) g.cls "multiples" = some (some (.ref 250)) := by cases g <;> kernel_rfl
theorem gr_taker2 (g : Gr) : takerIn (KF w) g.cls "namespace" = some (some (.ref 251)) := by cases g <;> kernel_rfl
theorem gr_makes (g : Gr) : makesIn (KF w) g.cls = true := by cases g <;> kernel_rfl
theorem gr_init (g : Gr) : findIn (KF w) (.ref g.cls) "__init__" = some (some (.ref 199)) := by cases g <;> kernel_rfl
theorem isFn_init : isFn (KF w) (.ref 199) = true := by kernel_rfl
theorem gr_expiry (g : Gr) : findIn (KF w) (.ref g.cls) "get_expiry" = some (some (.ref 216)) := by cases g <;> kernel_rfl
theorem isFn_expiry : isFn (KF w) (.ref 216) = true := by kernel_rfl
theorem tg_ga : findIn (KF w) (.ref 149) "__getattribute__" = some (some (.builtin "tuple.__getattribute__")) := by kernel_rfl
theorem tg_hook : findIn (KF w) (.ref 149) "__getattr__" = some none := by kernel_rfl
theorem tg_mro : mroIn (KF w) 149 (.type "tuple") = some true := by kernel_rfl
theorem tg_isCls : isClsIn (KF w) 149 = true := by kernel_rfl
theorem tg_sec : findIn (KF w) (.ref 149) "seconds" = some (some (.ref 141)) := by kernel_rfl
theorem tg_name : findIn (KF w) (.ref 149) "name" = some (some (.ref 144)) := by kernel_rfl
theorem tg_get0 : specialIn (KF w) (.ref 141) "__get__" = some (some (.ref 60)) := by kernel_rfl
theorem tg_get1 : specialIn (KF w) (.ref 144) "__get__" = some (some (.ref 60)) := by kernel_rfl
theorem tg_takes0 : takesIn (KF w) (.ref 141) = some true := by kernel_rfl
theorem tg_takes1 : takesIn (KF w) (.ref 144) = some true := by kernel_rfl
theorem gr_meta (g : Gr) : typeIn (KF w) (.ref g.cls) = some (.type "type") := by cases g <;> kernel_rfl
theorem gr_reads (g : Gr) : readsIn (KF w) g.cls (.type "type") = true := by cases g <;> kernel_rfl
theorem gr_clsgran (g : Gr) : findCls (KF w) (.ref g.cls) (.type "type") "GRANULARITY" = some (.val (.ref g.tup)) := by cases g <;> kernel_rfl
theorem gr_clscheck (g : Gr) : findCls (KF w) (.ref g.cls) (.type "type") "check_granularity_string" = some (.get (.builtin "classmethod.__get__") (.ref 208) .none (.ref g.cls)) := by cases g <;> kernel_rfl
theorem check_rec : recIn (KF w) 208 "classmethod" = some [.ref 206, .bool false] := by kernel_rfl
theorem gr_special (g : Gr) : specialIn (KF w) (.ref g.cls) "__getattribute__" = some (some (.builtin "type.__getattribute__")) := by cases g <;> kernel_rfl
theorem tg_eq : findIn (KF w) (.ref 149) "__eq__" = some (some (.builtin "tuple.__eq__")) := by kernel_rfl
theorem gr_same (g g' : Gr) : (g.sec == g'.sec && g.name == g'.name) = decide (g.sec = g'.sec) := by cases g <;> cases g' <;> decide +kernel
theorem gr_namelen (g : Gr) : g.name.length ≤ 6 := by cases g <;> decide +kernel
theorem gr_bits (g : Gr) : Builtin.Int.intBits g.sec ≤ 64 := by cases g <;> decide +kernel
theorem gr_isIn (g : Gr) : isIn (KF w) (.ref g.cls) 248 = true := by cases g <;> kernel_rfl
end
end Mine

end
section
open PySem PySem.W PyProof.Rows
set_option maxRecDepth 100000
set_option linter.unusedVariables false
namespace Mine
section
variable {w : World} {p : Program} {loose : List PySem.Str} {mean : ExcName → Option Value} {mg mb : PySem.Str → Option Value} {A₀ : Around} {base h₀ : Heap} {hl : Option Value} {dp un : Nat} {gd : Option (List Code)} {outer : List Env} {env : Env} {L : Addr} {m : PySem.Str → Option Value} {news : List (Addr × Obj)} {s : Shared} {Q E : Value → Shared → Prop}
local macro_rules | `(tactic| walk_at "m room") => `(tactic| first | assumption | ((try simp only [depth_under_make, depth_under_kw, depth_in1, depth_deeper, depth_caller]); (try dsimp only [TopA]); omega))
local macro_rules | `(tactic| walk_at "m enter") => `(tactic| (refine wpAny_call ?_; k_dflt (refine' code_def ?k1 ?k2 ?k3 ?k4 ?k5 ?kA ?kF ?kK ?k6 ?k7 ?k8 ?k9 ?kB ?_ ?c2 ?c3 ?c4 ?c5; (case kA => exact rfl); (case kF => assumption); (case kK => assumption); (case k1 => k_asm); (case k2 => k_asm); (case k3 => k_asm); (case k4 => k_asm); (case k5 => k_asm); (case k6 => k_is); (case k7 => k_is); (case k8 => walk_at "m room"); (case k9 => first | exact BindsTo.of_eq rfl | exact binds_K (by k_in) rfl (by k_is) rfl rfl rfl); (case c5 => decide); (case kB => exact locs rfl); (case c2 => exact rfl); (case c3 => exact rfl); (case c4 => exact rfl); k_whole; intro g' L' h' FG' F' N' B' X' T'; (try dsimp only); (try k_lift B'); (try k_fold))))
local macro_rules | `(tactic| walk_at "m units") => `(tactic| first | assumption | ((try simp only [units_in1, units_deeper, Around.mark_units, units_caller]); (try dsimp only [TopA]); omega))
local macro_rules | `(tactic| walk_at "m prem") => `(tactic| ((case kB => k_asm); (case kF => k_asm); (case kX => k_asm); (case kN => k_asm); (case kT => k_asm); (case kf => exact rfl); (case kk => exact rfl); (case kd => walk_at "m room"); (case ku => walk_at "m units")))


local macro_rules | `(tactic| k_inst) => `(tactic| (refine' inst_K ?X ?h1 ?hn ?h2; (case X => first | assumption | exact Frag.In.keeps (by k_asm) (Fr.keep (by k_asm))); (case h1 => assumption); (case h2 => assumption); (case hn => rfl)))
local macro_rules | `(tactic| walk_at "call builtin:issubclass") => `(tactic| (k_here; (with_reducible show wpAny _ _ (call (Value.builtin "issubclass") [Value.ref _, Value.type "tuple"]) _ _ _); k_dflt (refine' issub_call ?X ?ho ?hm ?_; (case X => k_in); (case ho => k_is); (case hm => k_is))))
local macro_rules | `(tactic| walk_at "getMethod type:tuple") => `(tactic| (k_here; k_dflt (refine method_tgi (by k_asm) (by k_asm) ?_)))
local macro_rules | `(tactic| walk_at "call builtin:tuple.__getitem__") => `(tactic| (k_here; k_dflt (refine' tgi_call ?X ?I ?m ?a ?b ?c ?d ?_; (case X => k_in); (case I => k_inst); (case m => k_is); (case a => decide); (case b => decide); (case c => rfl); (case d => rfl))))

set_option maxHeartbeats 8000000 in
theorem get_sec (g : Gr) (B : Below A₀ base outer h₀) (F : Fr h₀ L s.heap m) (X : (hd.heap_39 w.params).In h₀) (N : News h₀ L s.heap news) (T : Top p loose mean mg mb h₀) (hf : env.frame = some L) (hke : env.scope.kind = .function)
    (hdp : dp + 5 < recursionLimit) (hun : un + 20 < cLine)
    (hret : ∀ h' tk', Fr h₀ L h' m → News h₀ L h' news → Q (.int g.sec g.t0) { s with heap := h', toks := tk' }) :
    wpAny (model PySem.Challenge.rw_bn0039_01.row.prog w) (TopA hl dp un gd env outer) (call (.ref 60) [.ref 141, .ref g.tup, .ref 149]) Q E s := by
  have hG1 := gr_tup (w := w) g
  have hG2 := gr_dict (w := w) g
  revert X; k_fill; intro X
  walk_at "m enter"
  k_steps
  exact hret _ _ (by k_asm) (by k_asm)

set_option maxHeartbeats 8000000 in
theorem get_name (g : Gr) (B : Below A₀ base outer h₀) (F : Fr h₀ L s.heap m) (X : (hd.heap_39 w.params).In h₀) (N : News h₀ L s.heap news) (T : Top p loose mean mg mb h₀) (hf : env.frame = some L) (hke : env.scope.kind = .function)
    (hdp : dp + 5 < recursionLimit) (hun : un + 20 < cLine)
    (hret : ∀ h' tk', Fr h₀ L h' m → News h₀ L h' news → Q (.str g.name g.t1) { s with heap := h', toks := tk' }) :
    wpAny (model PySem.Challenge.rw_bn0039_01.row.prog w) (TopA hl dp un gd env outer) (call (.ref 60) [.ref 144, .ref g.tup, .ref 149]) Q E s := by
  have hG1 := gr_tup (w := w) g
  have hG2 := gr_dict (w := w) g
  revert X; k_fill; intro X
  walk_at "m enter"
  k_steps
  exact hret _ _ (by k_asm) (by k_asm)

end
end Mine

end
section
open PySem PySem.W PyProof.Rows
set_option maxRecDepth 100000
set_option linter.unusedVariables false
namespace Mine

def itemO (g : Gr) (dx : Addr) (a n : Int) (ta tn tk : Tok) : Obj := ⟨.ref g.cls, some dx, .plain, #[some (.int a ta), some (.int n tn), some (.str "LIMITER" tk)]⟩
/-- at x there lies a limit of the length g, of a per n -/
def Item (h : Heap) (x : Addr) (g : Gr) (a n : Int) : Prop := ∃ dx ta tn tk, h.get? x = some (itemO g dx a n ta tn tk) ∧ h.get? dx = some (dictOf [] 0)
theorem Item.keeps {h h' : Heap} {x : Addr} {g : Gr} {a n : Int} (i : Item h x g a n) (k : ∀ b o, h.get? b = some o → h'.get? b = some o) : Item h' x g a n := by
  obtain ⟨dx, ta, tn, tk, h1, h2⟩ := i
  exact ⟨dx, ta, tn, tk, k _ _ h1, k _ _ h2⟩
theorem item_inst {h : Heap} {x dx : Addr} {g : Gr} {a n : Int} {ta tn tk : Tok} (h1 : h.get? x = some (itemO g dx a n ta tn tk)) (h2 : h.get? dx = some (dictOf [] 0)) : InstAt h x (itemO g dx a n ta tn tk) g.cls (some (dictOf [] 0)) := ⟨h1, rfl, rfl, h2⟩
section
variable {w : World} {p : Program} {loose : List PySem.Str} {mean : ExcName → Option Value} {mg mb : PySem.Str → Option Value} {A₀ : Around} {base h₀ : Heap} {hl : Option Value} {dp un : Nat} {gd : Option (List Code)} {outer : List Env} {env : Env} {L : Addr} {m : PySem.Str → Option Value} {news : List (Addr × Obj)} {s : Shared} {Q E : Value → Shared → Prop}
local macro_rules | `(tactic| walk_at "m room") => `(tactic| first | assumption | ((try simp only [depth_under_make, depth_under_kw, depth_in1, depth_deeper, depth_caller]); (try dsimp only [TopA]); omega))
local macro_rules | `(tactic| walk_at "m enter") => `(tactic| (refine wpAny_call ?_; k_dflt (refine' code_def ?k1 ?k2 ?k3 ?k4 ?k5 ?kA ?kF ?kK ?k6 ?k7 ?k8 ?k9 ?kB ?_ ?c2 ?c3 ?c4 ?c5; (case kA => exact rfl); (case kF => assumption); (case kK => assumption); (case k1 => k_asm); (case k2 => k_asm); (case k3 => k_asm); (case k4 => k_asm); (case k5 => k_asm); (case k6 => k_is); (case k7 => k_is); (case k8 => walk_at "m room"); (case k9 => first | exact BindsTo.of_eq rfl | exact binds_K (by k_in) rfl (by k_is) rfl rfl rfl); (case c5 => decide); (case kB => exact locs rfl); (case c2 => exact rfl); (case c3 => exact rfl); (case c4 => exact rfl); k_whole; intro g' L' h' FG' F' N' B' X' T'; (try dsimp only); (try k_lift B'); (try k_fold))))
local macro_rules | `(tactic| walk_at "m units") => `(tactic| first | assumption | ((try simp only [units_in1, units_deeper, Around.mark_units, units_caller]); (try dsimp only [TopA]); omega))
local macro_rules | `(tactic| walk_at "m prem") => `(tactic| ((case kB => k_asm); (case kF => k_asm); (case kX => k_asm); (case kN => k_asm); (case kT => k_asm); (case kf => exact rfl); (case kk => exact rfl); (case kd => walk_at "m room"); (case ku => walk_at "m units")))


theorem sec_attr (g : Gr) {expr : Bool} (B : Below A₀ base outer h₀) (F : Fr h₀ L s.heap m) (X : (hd.heap_39 w.params).In h₀) (N : News h₀ L s.heap news) (T : Top p loose mean mg mb h₀) (hf : env.frame = some L) (hke : env.scope.kind = .function)
    (hdp : dp + 10 < recursionLimit) (hun : un + 40 < cLine)
    (hret : ∀ h' tk', Fr h₀ L h' m → News h₀ L h' news → Q (.int g.sec g.t0) { s with heap := h', toks := tk' }) :
    wpAny (model PySem.Challenge.rw_bn0039_01.row.prog w) (TopA hl dp un gd env outer) (getAttr (.ref g.tup) "seconds" expr) Q E s :=
  get_tup (X.keeps F.keep) (inst_K (X.keeps F.keep) (gr_tup g) rfl (gr_dict g)) tg_ga tg_hook tg_mro (findObj_data tg_isCls tg_sec tg_get0 tg_takes0)
    (get_sec (s := { s with toks := s.toks + 1 }) (un := un + 1) g B F X N T hf hke (by show dp + 5 < _; omega) (by omega) fun h' tk' F' N' => handed_on rfl (hret h' tk' F' N'))
theorem name_attr (g : Gr) {expr : Bool} (B : Below A₀ base outer h₀) (F : Fr h₀ L s.heap m) (X : (hd.heap_39 w.params).In h₀) (N : News h₀ L s.heap news) (T : Top p loose mean mg mb h₀) (hf : env.frame = some L) (hke : env.scope.kind = .function)
    (hdp : dp + 10 < recursionLimit) (hun : un + 40 < cLine)
    (hret : ∀ h' tk', Fr h₀ L h' m → News h₀ L h' news → Q (.str g.name g.t1) { s with heap := h', toks := tk' }) :
    wpAny (model PySem.Challenge.rw_bn0039_01.row.prog w) (TopA hl dp un gd env outer) (getAttr (.ref g.tup) "name" expr) Q E s :=
  get_tup (X.keeps F.keep) (inst_K (X.keeps F.keep) (gr_tup g) rfl (gr_dict g)) tg_ga tg_hook tg_mro (findObj_data tg_isCls tg_name tg_get1 tg_takes1)
    (get_name (s := { s with toks := s.toks + 1 }) (un := un + 1) g B F X N T hf hke (by show dp + 5 < _; omega) (by omega) fun h' tk' F' N' => handed_on rfl (hret h' tk' F' N'))
theorem item_gran {x : Addr} {g : Gr} {a n : Int} {expr : Bool} {A : Around} (F : Fr h₀ L s.heap m) (X : (hd.heap_39 w.params).In h₀) (i : Item s.heap x g a n) (h : Q (.ref g.tup) { s with toks := s.toks + 1 }) :
    wpAny (model PySem.Challenge.rw_bn0039_01.row.prog w) A (getAttr (.ref x) "GRANULARITY" expr) Q E s := by
  obtain ⟨dx, ta, tn, tk, h1, h2⟩ := i
  exact get_cls F X (item_inst h1 h2) (gr_plain g _) (gr_hasDict g) (gr_gran g) (gr_noget g) rfl (by decide +kernel) (by rfl) h
theorem item_amount {x : Addr} {g : Gr} {a n : Int} {expr : Bool} {A : Around} (F : Fr h₀ L s.heap m) (X : (hd.heap_39 w.params).In h₀) (i : Item s.heap x g a n) (h : ∀ t, Q (.int a t) { s with toks := s.toks + 1 }) :
    wpAny (model PySem.Challenge.rw_bn0039_01.row.prog w) A (getAttr (.ref x) "amount" expr) Q E s := by
  obtain ⟨dx, ta, tn, tk, h1, h2⟩ := i
  exact get_slot F X (item_inst h1 h2) (gr_plain g _) (gr_isCls g) (gr_amount g) (md_get _ (.inl rfl)) (md_takes _ (.inl rfl)) (gr_slot0 g) rfl rfl (h ta)
theorem item_multiples {x : Addr} {g : Gr} {a n : Int} {expr : Bool} {A : Around} (F : Fr h₀ L s.heap m) (X : (hd.heap_39 w.params).In h₀) (i : Item s.heap x g a n) (h : ∀ t, Q (.int n t) { s with toks := s.toks + 1 }) :
    wpAny (model PySem.Challenge.rw_bn0039_01.row.prog w) A (getAttr (.ref x) "multiples" expr) Q E s := by
  obtain ⟨dx, ta, tn, tk, h1, h2⟩ := i
  exact get_slot F X (item_inst h1 h2) (gr_plain g _) (gr_isCls g) (gr_multiples g) (md_get _ (.inr (.inl rfl))) (md_takes _ (.inr (.inl rfl))) (gr_slot1 g) rfl rfl (h tn)
theorem item_namespace {x : Addr} {g : Gr} {a n : Int} {expr : Bool} {A : Around} (F : Fr h₀ L s.heap m) (X : (hd.heap_39 w.params).In h₀) (i : Item s.heap x g a n) (h : ∀ t, Q (.str "LIMITER" t) { s with toks := s.toks + 1 }) :
    wpAny (model PySem.Challenge.rw_bn0039_01.row.prog w) A (getAttr (.ref x) "namespace" expr) Q E s := by
  obtain ⟨dx, ta, tn, tk, h1, h2⟩ := i
  exact get_slot F X (item_inst h1 h2) (gr_plain g _) (gr_isCls g) (gr_namespace g) (md_get _ (.inr (.inr rfl))) (md_takes _ (.inr (.inr rfl))) (gr_slot2 g) rfl rfl (h tk)
theorem item_expiry {x : Addr} {g : Gr} {a n : Int} {pl : Sem Bool} {A : Around} {Q : Value × List Value → Shared → Prop} (F : Fr h₀ L s.heap m) (X : (hd.heap_39 w.params).In h₀) (i : Item s.heap x g a n) (h : Q (.ref 216, [.ref x]) s) :
    wpAny (model PySem.Challenge.rw_bn0039_01.row.prog w) A (getMethod (.ref x) "get_expiry" pl) Q E s := by
  obtain ⟨dx, ta, tn, tk, h1, h2⟩ := i
  exact method_inst F X (item_inst h1 h2) (gr_plain g _) (gr_expiry g) isFn_expiry (by rfl) h

theorem isi_item {x : Addr} {g : Gr} {a n : Int} {A : Around} (X : (hd.heap_39 w.params).In s.heap) (i : Item s.heap x g a n) (h : Q (.bool true) s) :
    wpAny (model PySem.Challenge.rw_bn0039_01.row.prog w) A (call (.builtin "isinstance") [.ref x, .ref 248]) Q E s := by
  obtain ⟨dx, ta, tn, tk, h1, h2⟩ := i
  exact isi_call X (fun M => (item_inst h1 h2).type) (gr_isIn g) (by intro e; cases e) h
end
end Mine

end
section
open PySem PySem.W PyProof.Rows PySem.Calls
set_option linter.unusedVariables false
set_option maxRecDepth 100000
namespace Mine
section
variable {prog : Program} {w : World} {A A₀ : Around} {E : Value → Shared → Prop} {s : Shared} {K : Frag} {L : Addr} {h₀ base : Heap} {m mg mb : PySem.Str → Option Value} {news : List (Addr × Obj)} {p : Program} {loose : List PySem.Str} {mean : ExcName → Option Value} {Q : Value → Shared → Prop}
/-- a call, its base the whole heap as it stands -/
theorem enterS {env : Env} {outer : List Env} {R : Result → Shared → Prop} {name qual : PySem.Str} {params : Arguments} {body : List Stmt} {scope : Scope} {dV kV doc pm cdv ct oc : Value} {an od : Option Addr} {osl : Array (Option Value)} {f : Addr} {args : Args} {binds : List (PySem.Str × Value)}
    (B : Below A₀ base outer h₀) (F : Fr h₀ L s.heap m) (X₀ : K.In h₀) (T : Top p loose mean mg mb h₀) (hA : A.frames = some (env :: outer)) (hf : env.frame = some L) (hke : env.scope.kind = .function)
    (ho : K.lookup f = some ⟨oc, od, .func (fnOf name qual params body scope dV kV doc pm an cdv ct), osl⟩) (hcd : codeIn K cdv qual = true) (hroom : A.depth < recursionLimit)
    (hbind : BindsTo s (fnOf name qual params body scope dV kV doc pm an cdv ct) args binds) (hloc : ∀ y ∈ binds, scope.names.lookup y.1 = some .local)
    (h : ∀ L' h₁, L' = s.heap.objs.size → Fr s.heap L' h₁ (fun y => binds.reverse.lookup y) → News s.heap L' h₁ [] → Below A base (env :: outer) s.heap → K.In s.heap → Top p loose mean mg mb s.heap →
      wpAny (model prog w) (A.deeper (envOf qual scope L' f cdv)) (execs body (envOf qual scope L' f cdv))
        (fun fl s' => R (.ok (.ret (match fl with | .ret v => v | _ => .none))) s')
        (fun e s' => wpAny (model prog w) (A.deeper (envOf qual scope L' f cdv)) (leaving (envOf qual scope L' f cdv) e) (fun _ s'' => R (.error e) s'') (fun e' s'' => R (.error e') s'') s')
        { s with heap := h₁, toks := s.toks + binds.length })
    (hco : scope.isCoroutine = false) (hgen : scope.isGenerator = false) (hk : scope.kind = .function)
    (hcell : ∀ x ∈ scope.names, x.2 ≠ .cell) : codeAny (model prog w) A (.call (.ref f) args) R s := by
  obtain ⟨_, BG, _, _⟩ := groundX (R := R) (news := []) B F News.nil hA hf hke
  have X := X₀.keeps F.keep
  have T' := T.keeps F.keep
  refine codeAny_call_def (fd := fnOf name qual params body scope dV kV doc pm an cdv ct) (body := body) (binds := binds) hroom (X _ _ ho) rfl T'.nolimit (codeRec_of X hcd) rfl hbind hcell hloc (fun h₁ hns hk₁ => ?_) hco hgen hk
  exact h _ h₁ rfl ⟨hns, hk₁, Nat.le_refl _⟩ News.nil BG X T'
end
end Mine

end
section
open PySem PySem.W PyProof.Rows PySem.Calls
set_option linter.unusedVariables false
set_option maxRecDepth 100000
namespace Mine
section
variable {prog : Program} {w : World} {A : Around} {E : Value → Shared → Prop} {s : Shared} {K : Frag} {C : Addr}
theorem geq_body {x y : Addr} {ox oy : Obj} {a b : Int} {ta tb : Tok} {u v : PySem.Str} {tu tv : Tok} {n n' : Nat} {P : PySem.Fin → Shared → Prop} (hx : s.heap.get? x = some ox) (hxd : ox.data = .seq #[.int a ta, .str u tu] n) (hy : s.heap.get? y = some oy) (hyd : oy.data = .seq #[.int b tb, .str v tv] n')
    (L : Looks (model prog w) s.heap (isInstance (.ref y) (.type "tuple")) true) (h : P (.done (.ret (.bool (a == b && u == v)))) s) :
    wpAny (model prog w) A (Builtin.«tuple.__eq__» ⟨[.ref x, .ref y], []⟩) P E s := by
  unfold Builtin.«tuple.__eq__»
  k_delta "compare"
  refine wpAny_bind (wpAny_pure (wpAny_bind (L.here ?_)))
  simp only [Bool.not_true, Bool.false_eq_true, if_false]
  unfold Builtin.Tuple.tupleItemsOf
  refine wpAny_bind (wpAny_bind (wpAny_seqItems hx hxd (wpAny_pure ?_)))
  refine wpAny_bind (wpAny_bind (wpAny_seqItems hy hyd (wpAny_pure ?_)))
  simp only [List.zip_cons_cons, List.zip_nil_right, List.forIn_cons]
  refine wpAny_bind (wpAny_bind (wpAny_bind (wpAny_eqBool_int ?_)))
  cases hab : (a == b) with
  | false =>
    rw [hab] at h
    simp only [Bool.not_false, if_true]
    exact wpAny_bind (wpAny_pure (wpAny_pure (wpAny_pure (wpAny_pure h))))
  | true =>
    rw [hab] at h
    simp only [Bool.not_true, Bool.false_eq_true, if_false]
    refine wpAny_pure (wpAny_bind (wpAny_bind (eqBool_str ?_)))
    cases huv : (u == v) with
    | false =>
      rw [huv] at h
      simp only [Bool.not_false, if_true]
      exact wpAny_bind (wpAny_pure (wpAny_pure (wpAny_pure (wpAny_pure h))))
    | true =>
      rw [huv] at h
      simp only [Bool.not_true, Bool.false_eq_true, if_false]
      exact wpAny_pure (wpAny_pure (wpAny_pure h))
theorem kind_teq : builtinKind "tuple.__eq__" = some .slot := by decide +kernel
theorem split_teq : splitId "tuple.__eq__" = some ("tuple", "__eq__") := by decide +kernel
theorem geq_call {x y : Addr} {a b : Int} {ta tb : Tok} {u v : PySem.Str} {tu tv : Tok} {n n' : Nat} {dd dd' : Option Addr} {sl sl' : Array (Option Value)} {od od' : Option Obj} {Q : Value → Shared → Prop} (X : K.In s.heap)
    (I : InstAt s.heap x ⟨.ref C, dd, .seq #[.int a ta, .str u tu] n, sl⟩ C od) (I' : InstAt s.heap y ⟨.ref C, dd', .seq #[.int b tb, .str v tv] n', sl'⟩ C od') (hm : mroIn K C (.type "tuple") = some true)
    (h : Q (.bool (a == b && u == v)) s) : wpAny (model prog w) A (call (.builtin "tuple.__eq__") [.ref x, .ref y]) Q E s :=
  call_subD kind_teq split_teq F.slot_tuple_eq.plain F.entry_tuple_eq (F.args_tuple_eq_2 _ _) (I.type.andThen (looks_mroIn X hm)) (geq_body I.at_ rfl I'.at_ rfl (I'.type.andThen (looks_mroIn X hm)) h)
theorem geq_rich {x y : Addr} {a b : Int} {ta tb : Tok} {u v : PySem.Str} {tu tv : Tok} {n n' : Nat} {dd dd' : Option Addr} {sl sl' : Array (Option Value)} {od od' : Option Obj} {Q : Value → Shared → Prop} (hu : A.units < cLine) (X : K.In s.heap)
    (I : InstAt s.heap x ⟨.ref C, dd, .seq #[.int a ta, .str u tu] n, sl⟩ C od) (I' : InstAt s.heap y ⟨.ref C, dd', .seq #[.int b tb, .str v tv] n', sl'⟩ C od') (hm : mroIn K C (.type "tuple") = some true)
    (hs : findIn K (.ref C) "__eq__" = some (some (.builtin "tuple.__eq__")))
    (h : Q (.bool (a == b && u == v)) s) : wpAny (model prog w) A (compareOp .Eq (.ref x) (.ref y)) Q E s := by
  show wpAny (model prog w) A (richCompare .Eq (.ref x) (.ref y)) Q E s
  have one : wpAny (model prog w) A (tryCompare (.ref x) "__eq__" (.ref y)) (fun r s' => ∃ v, r = some v ∧ Q v s') E s := by
    unfold tryCompare
    refine wpAny_bind ?_
    simp only [callSpecialIfBound?, bindSpecialIfBound?]
    refine wpAny_holding (wpAny_bind (wpAny_bind (wpAny_bind (I.type.here ((looks_findIn X hs).here ?_)))))
    refine wpAny_bind (wpAny_askSetting (wpAny_ite ?_))
    have fin : wpAny (model prog w) A (call (.builtin "tuple.__eq__") ([.ref x] ++ [.ref y]) >>= fun v => pure (some v)) (fun r s' => wpAny (model prog w) A (match r with | some .notImplemented | none => pure none | some v => pure (some v)) (fun r s' => ∃ v, r = some v ∧ Q v s') E s') E s :=
      wpAny_bind (geq_call X I I' hm (wpAny_pure (wpAny_pure ⟨_, rfl, h⟩)))
    split
    · exact wpAny_bind (wpAny_of_eq (F.slot_tuple_eq.bind (.ref x)) (wpAny_pure (by exact fin)))
    · exact wpAny_tryCatch (wpAny_bind (wpAny_of_eq (F.slot_tuple_eq.bind (.ref x)) (wpAny_pure (by exact fin))))
  unfold richCompare
  simp only [oneThing_ref]
  refine wpAny_holding (wpAny_bind (wpAny_cRoomFor hu ?_))
  refine wpAny_bind (I.type.here (wpAny_bind (I'.type.here ?_)))
  simp only [bne_self_eq_false, Bool.false_eq_true, if_false]
  refine wpAny_bind (wpAny_pure ?_)
  refine wpAny_bind (wpAny_mono one (fun r s' z => ?_) fun _ _ z => z)
  obtain ⟨v, rfl, q⟩ := z
  exact wpAny_pure q
end
end Mine

end
section
open PySem PySem.W PyProof.Rows
set_option maxRecDepth 100000
set_option linter.unusedVariables false
namespace Mine
section
variable {w : World} {p : Program} {loose : List PySem.Str} {mean : ExcName → Option Value} {mg mb : PySem.Str → Option Value} {A₀ : Around} {base h₀ : Heap} {hl : Option Value} {dp un : Nat} {gd : Option (List Code)} {outer : List Env} {env : Env} {L : Addr} {m : PySem.Str → Option Value} {news : List (Addr × Obj)} {s : Shared} {Q E : Value → Shared → Prop}
local macro_rules | `(tactic| walk_at "m room") => `(tactic| first | assumption | ((try simp only [depth_under_make, depth_under_kw, depth_in1, depth_deeper, depth_caller]); (try dsimp only [TopA]); omega))
local macro_rules | `(tactic| walk_at "m enter") => `(tactic| (refine wpAny_call ?_; k_dflt (refine' code_def ?k1 ?k2 ?k3 ?k4 ?k5 ?kA ?kF ?kK ?k6 ?k7 ?k8 ?k9 ?kB ?_ ?c2 ?c3 ?c4 ?c5; (case kA => exact rfl); (case kF => assumption); (case kK => assumption); (case k1 => k_asm); (case k2 => k_asm); (case k3 => k_asm); (case k4 => k_asm); (case k5 => k_asm); (case k6 => k_is); (case k7 => k_is); (case k8 => walk_at "m room"); (case k9 => first | exact BindsTo.of_eq rfl | exact binds_K (by k_in) rfl (by k_is) rfl rfl rfl); (case c5 => decide); (case kB => exact locs rfl); (case c2 => exact rfl); (case c3 => exact rfl); (case c4 => exact rfl); k_whole; intro g' L' h' FG' F' N' B' X' T'; (try dsimp only); (try k_lift B'); (try k_fold))))
local macro_rules | `(tactic| walk_at "m units") => `(tactic| first | assumption | ((try simp only [units_in1, units_deeper, Around.mark_units, units_caller]); (try dsimp only [TopA]); omega))
local macro_rules | `(tactic| walk_at "m prem") => `(tactic| ((case kB => k_asm); (case kF => k_asm); (case kX => k_asm); (case kN => k_asm); (case kT => k_asm); (case kf => exact rfl); (case kk => exact rfl); (case kd => walk_at "m room"); (case ku => walk_at "m units")))

local macro_rules | `(tactic| walk_at "m enterS") => `(tactic| (refine wpAny_call ?_; k_dflt (refine' enterS ?k1 ?k2 ?k3 ?k5 ?kA ?kF ?kK ?k6 ?k7 ?k8 ?k9 ?kB ?_ ?c2 ?c3 ?c4 ?c5; (case kA => exact rfl); (case kF => assumption); (case kK => assumption); (case k1 => k_asm); (case k2 => k_asm); (case k3 => k_asm); (case k5 => k_asm); (case k6 => k_is); (case k7 => k_is); (case k8 => walk_at "m room"); (case k9 => first | exact BindsTo.of_eq rfl | exact binds_K (by k_in) rfl (by k_is) rfl rfl rfl); (case c5 => decide); (case kB => exact locs rfl); (case c2 => exact rfl); (case c3 => exact rfl); (case c4 => exact rfl); k_whole; intro L' h' eL' F' N' B' X' T'; (try dsimp only); (try k_fold))))
local macro_rules | `(tactic| walk_at "m item") => `(tactic| (refine' Item.keeps ?mi (Fr.keep ?mF); (case mF => k_asm); (case mi => assumption)))
local macro_rules | `(tactic| walk_at "getAttr ref") => `(tactic| (k_here; (with_reducible show wpAny _ _ (getAttr (Value.ref _) (PySem.Str.ofString "seconds") _) _ _ _); k_dflt (refine' sec_attr _ ?kB ?kF ?kX ?kN ?kT ?kf ?kk ?kd ?ku ?_; (walk_at "m prem")); intro h9 tk9 F9 N9; (try dsimp only)))
local macro_rules | `(tactic| walk_at "getAttr ref") => `(tactic| (k_here; (with_reducible show wpAny _ _ (getAttr (Value.ref _) (PySem.Str.ofString "name") _) _ _ _); k_dflt (refine' name_attr _ ?kB ?kF ?kX ?kN ?kT ?kf ?kk ?kd ?ku ?_; (walk_at "m prem")); intro h9 tk9 F9 N9; (try dsimp only)))
local macro_rules | `(tactic| walk_at "getAttr ref") => `(tactic| (k_here; (with_reducible show wpAny _ _ (getAttr (Value.ref _) (PySem.Str.ofString "GRANULARITY") _) _ _ _); k_dflt (refine' item_gran ?kF ?kX ?ki ?_; (case kF => k_asm); (case kX => k_asm); (case ki => walk_at "m item"))))
local macro_rules | `(tactic| walk_at "getAttr ref") => `(tactic| (k_here; (with_reducible show wpAny _ _ (getAttr (Value.ref _) (PySem.Str.ofString "amount") _) _ _ _); k_dflt (refine' item_amount ?kF ?kX ?ki ?_; (case kF => k_asm); (case kX => k_asm); (case ki => walk_at "m item")); intro t9))
local macro_rules | `(tactic| walk_at "getAttr ref") => `(tactic| (k_here; (with_reducible show wpAny _ _ (getAttr (Value.ref _) (PySem.Str.ofString "multiples") _) _ _ _); k_dflt (refine' item_multiples ?kF ?kX ?ki ?_; (case kF => k_asm); (case kX => k_asm); (case ki => walk_at "m item")); intro t9))
local macro_rules | `(tactic| walk_at "getAttr ref") => `(tactic| (k_here; (with_reducible show wpAny _ _ (getAttr (Value.ref _) (PySem.Str.ofString "namespace") _) _ _ _); k_dflt (refine' item_namespace ?kF ?kX ?ki ?_; (case kF => k_asm); (case kX => k_asm); (case ki => walk_at "m item")); intro t9))

local macro_rules | `(tactic| walk_at "binaryOp Mult int int") => `(tactic| (k_here; (with_reducible show wpAny _ _ (binaryOp Operator.Mult (Value.int (Gr.sec _) _) (Value.int _ _)) _ _ _); k_dflt (refine PyProof.Rows.mul_int ?_ (IntMulOk.of_left (gr_bits _)))))
local macro_rules | `(tactic| walk_at "call builtin:isinstance") => `(tactic| (k_here; (with_reducible show wpAny _ _ (call (Value.builtin "isinstance") [Value.ref _, Value.ref 248]) _ _ _); k_dflt (refine' isi_item ?kX ?ki ?_; (case kX => k_in); (case ki => walk_at "m item"))))
local macro_rules | `(tactic| walk_at "compareOp Eq") => `(tactic| (k_here; (with_reducible show wpAny _ _ (compareOp CmpOp.Eq (Value.ref (Gr.tup _)) (Value.ref (Gr.tup _))) _ _ _); k_dflt (refine' geq_rich ?ku ?kX (inst_K ?kX1 (gr_tup _) rfl (gr_dict _)) (inst_K ?kX2 (gr_tup _) rfl (gr_dict _)) tg_mro tg_eq ?_; (case ku => walk_at "m units"); (case kX => k_in); (case kX1 => k_in); (case kX2 => k_in))))
local macro_rules | `(tactic| walk_at "formatField") => `(tactic| (k_here; (with_reducible show wpAny _ _ (formatField (Value.str (Gr.name _) _) _) _ _ _); k_dflt (refine SB.field_str ?_ (Nat.le_trans (gr_namelen _) (by decide))); intro t9 tk9))

set_option maxHeartbeats 8000000 in
theorem expiry_call {x : Addr} {g : Gr} {a n : Int} (i : Item s.heap x g a n) (B : Below A₀ base outer h₀) (F : Fr h₀ L s.heap m) (X : (hd.heap_39 w.params).In h₀) (T : Top p loose mean mg mb h₀) (hf : env.frame = some L) (hke : env.scope.kind = .function)
    (hdp : dp + 20 < recursionLimit) (hun : un + 80 < cLine)
    (hret : ∀ t h' tk', (∀ b o, s.heap.get? b = some o → h'.get? b = some o) → Q (.int (g.sec * n) t) { s with heap := h', toks := tk' }) :
    wpAny (model PySem.Challenge.rw_bn0039_01.row.prog w) (TopA hl dp un gd env outer) (call (.ref 216) [.ref x]) Q E s := by
  revert X; k_fill; intro X
  walk_at "m enterS"
  k_steps
  exact hret _ _ _ (Fr.keep (by k_asm))

set_option maxHeartbeats 8000000 in
theorem lt_call {x y : Addr} {g g' : Gr} {a n a' n' : Int} (i : Item s.heap x g a n) (i' : Item s.heap y g' a' n') (B : Below A₀ base outer h₀) (F : Fr h₀ L s.heap m) (X : (hd.heap_39 w.params).In h₀) (T : Top p loose mean mg mb h₀) (hf : env.frame = some L) (hke : env.scope.kind = .function)
    (hdp : dp + 20 < recursionLimit) (hun : un + 80 < cLine)
    (hret : ∀ h' tk', (∀ b o, s.heap.get? b = some o → h'.get? b = some o) → Q (.bool (decide (g.sec < g'.sec))) { s with heap := h', toks := tk' }) :
    wpAny (model PySem.Challenge.rw_bn0039_01.row.prog w) (TopA hl dp un gd env outer) (call (.ref 244) [.ref x, .ref y]) Q E s := by
  revert X; k_fill; intro X
  walk_at "m enterS"
  k_steps
  exact hret _ _ (Fr.keep (by k_asm))

theorem cast_bool {b c : Bool} {Q : Value → Shared → Prop} {s : Shared} (e : b = c) (h : Q (.bool c) s) : Q (.bool b) s := e ▸ h

theorem eq_fin1 {a a' n n' : Int} {g g' : Gr} (e1 : a = a') (e2 : (g.sec == g'.sec && g.name == g'.name) = true) : (n == n') = decide (a = a' ∧ g.sec = g'.sec ∧ n = n') := by
  rw [gr_same, decide_eq_true_eq] at e2
  rw [Bool.eq_iff_iff]
  simp [e1, e2]
theorem eq_fin2 {a a' n n' : Int} {g g' : Gr} (e2 : (g.sec == g'.sec && g.name == g'.name) = false) : (g.sec == g'.sec && g.name == g'.name) = decide (a = a' ∧ g.sec = g'.sec ∧ n = n') := by
  rw [e2]
  rw [gr_same, decide_eq_false_iff_not] at e2
  simp [e2]
theorem eq_fin3 {a a' n n' : Int} {g g' : Gr} (e1 : a ≠ a') : (a == a') = decide (a = a' ∧ g.sec = g'.sec ∧ n = n') := by
  simp [e1]

set_option maxHeartbeats 8000000 in
theorem eq_call {x y : Addr} {g g' : Gr} {a n a' n' : Int} (i : Item s.heap x g a n) (i' : Item s.heap y g' a' n') (B : Below A₀ base outer h₀) (F : Fr h₀ L s.heap m) (X : (hd.heap_39 w.params).In h₀) (T : Top p loose mean mg mb h₀) (hf : env.frame = some L) (hke : env.scope.kind = .function)
    (hdp : dp + 20 < recursionLimit) (hun : un + 80 < cLine)
    (hret : ∀ h' tk', (∀ b o, s.heap.get? b = some o → h'.get? b = some o) → Q (.bool (decide (a = a' ∧ g.sec = g'.sec ∧ n = n'))) { s with heap := h', toks := tk' }) :
    wpAny (model PySem.Challenge.rw_bn0039_01.row.prog w) (TopA hl dp un gd env outer) (call (.ref 230) [.ref x, .ref y]) Q E s := by
  revert X; k_fill; intro X
  walk_at "m enterS"
  k_steps
  all_goals dsimp only
  k_steps
  all_goals (refine cast_bool ?_ (hret _ _ (Fr.keep (by k_asm))))
  · exact eq_fin1 (by assumption) (by assumption)
  · exact eq_fin2 (by assumption)
  · exact eq_fin3 (by assumption)

set_option maxHeartbeats 8000000 in
theorem repr_call {x : Addr} {g : Gr} {a n : Int} (i : Item s.heap x g a n) (ha : 0 ≤ a) (ha' : a < 10 ^ 200) (hn : 0 ≤ n) (hn' : n < 10 ^ 200) (B : Below A₀ base outer h₀) (F : Fr h₀ L s.heap m) (X : (hd.heap_39 w.params).In h₀) (T : Top p loose mean mg mb h₀) (hf : env.frame = some L) (hke : env.scope.kind = .function)
    (hdp : dp + 20 < recursionLimit) (hun : un + 80 < cLine)
    (hret : ∀ t h' tk', (∀ b o, s.heap.get? b = some o → h'.get? b = some o) → Q (.str (Str.ofString (toString a) ++ Str.ofString " per " ++ Str.ofString (toString n) ++ Str.ofString " " ++ g.name) t) { s with heap := h', toks := tk' }) :
    wpAny (model PySem.Challenge.rw_bn0039_01.row.prog w) (TopA hl dp un gd env outer) (call (.ref 237) [.ref x]) Q E s := by
  revert X; k_fill; intro X
  walk_at "m enterS"
  have hla := (dec_good (n := 200) ha (by exact_mod_cast ha') (by decide)).len
  have hln := (dec_good (n := 200) hn (by exact_mod_cast hn') (by decide)).len
  have hlg := gr_namelen g
  k_steps
  rw [PySem.Str.empty_append]
  exact hret _ _ _ (Fr.keep (by k_asm))
end
end Mine

end
section
open PySem PySem.W PyProof.Rows
set_option maxRecDepth 100000
set_option linter.unusedVariables false
namespace Mine
section
variable {w : World} {p : Program} {loose : List PySem.Str} {mean : ExcName → Option Value} {mg mb : PySem.Str → Option Value} {A₀ : Around} {base h₀ : Heap} {hl : Option Value} {dp un : Nat} {gd : Option (List Code)} {outer : List Env} {env : Env} {L : Addr} {m : PySem.Str → Option Value} {news : List (Addr × Obj)} {s : Shared} {Q E : Value → Shared → Prop}
local macro_rules | `(tactic| walk_at "m room") => `(tactic| first | assumption | ((try simp only [depth_under_make, depth_under_kw, depth_in1, depth_deeper, depth_caller]); (try dsimp only [TopA]); omega))
local macro_rules | `(tactic| walk_at "m enter") => `(tactic| (refine wpAny_call ?_; k_dflt (refine' code_def ?k1 ?k2 ?k3 ?k4 ?k5 ?kA ?kF ?kK ?k6 ?k7 ?k8 ?k9 ?kB ?_ ?c2 ?c3 ?c4 ?c5; (case kA => exact rfl); (case kF => assumption); (case kK => assumption); (case k1 => k_asm); (case k2 => k_asm); (case k3 => k_asm); (case k4 => k_asm); (case k5 => k_asm); (case k6 => k_is); (case k7 => k_is); (case k8 => walk_at "m room"); (case k9 => first | exact BindsTo.of_eq rfl | exact binds_K (by k_in) rfl (by k_is) rfl rfl rfl); (case c5 => decide); (case kB => exact locs rfl); (case c2 => exact rfl); (case c3 => exact rfl); (case c4 => exact rfl); k_whole; intro g' L' h' FG' F' N' B' X' T'; (try dsimp only); (try k_lift B'); (try k_fold))))
local macro_rules | `(tactic| walk_at "m units") => `(tactic| first | assumption | ((try simp only [units_in1, units_deeper, Around.mark_units, units_caller]); (try dsimp only [TopA]); omega))
local macro_rules | `(tactic| walk_at "m prem") => `(tactic| ((case kB => k_asm); (case kF => k_asm); (case kX => k_asm); (case kN => k_asm); (case kT => k_asm); (case kf => exact rfl); (case kk => exact rfl); (case kd => walk_at "m room"); (case ku => walk_at "m units")))

local macro_rules | `(tactic| walk_at "m enterS") => `(tactic| (refine wpAny_call ?_; k_dflt (refine' enterS ?k1 ?k2 ?k3 ?k5 ?kA ?kF ?kK ?k6 ?k7 ?k8 ?k9 ?kB ?_ ?c2 ?c3 ?c4 ?c5; (case kA => exact rfl); (case kF => assumption); (case kK => assumption); (case k1 => k_asm); (case k2 => k_asm); (case k3 => k_asm); (case k5 => k_asm); (case k6 => k_is); (case k7 => k_is); (case k8 => walk_at "m room"); (case k9 => first | exact BindsTo.of_eq rfl | exact binds_K (by k_in) rfl (by k_is) rfl rfl rfl); (case c5 => decide); (case kB => exact locs rfl); (case c2 => exact rfl); (case c3 => exact rfl); (case c4 => exact rfl); k_whole; intro L' h' eL' F' N' B' X' T'; (try dsimp only); (try k_fold))))
local macro_rules | `(tactic| walk_at "m item") => `(tactic| (refine' Item.keeps ?mi (Fr.keep ?mF); (case mF => k_asm); (case mi => assumption)))
local macro_rules | `(tactic| walk_at "getAttr ref") => `(tactic| (k_here; (with_reducible show wpAny _ _ (getAttr (Value.ref _) (PySem.Str.ofString "seconds") _) _ _ _); k_dflt (refine' sec_attr _ ?kB ?kF ?kX ?kN ?kT ?kf ?kk ?kd ?ku ?_; (walk_at "m prem")); intro h9 tk9 F9 N9; (try dsimp only)))
local macro_rules | `(tactic| walk_at "getAttr ref") => `(tactic| (k_here; (with_reducible show wpAny _ _ (getAttr (Value.ref _) (PySem.Str.ofString "name") _) _ _ _); k_dflt (refine' name_attr _ ?kB ?kF ?kX ?kN ?kT ?kf ?kk ?kd ?ku ?_; (walk_at "m prem")); intro h9 tk9 F9 N9; (try dsimp only)))
local macro_rules | `(tactic| walk_at "getAttr ref") => `(tactic| (k_here; (with_reducible show wpAny _ _ (getAttr (Value.ref _) (PySem.Str.ofString "GRANULARITY") _) _ _ _); k_dflt (refine' item_gran ?kF ?kX ?ki ?_; (case kF => k_asm); (case kX => k_asm); (case ki => walk_at "m item"))))
local macro_rules | `(tactic| walk_at "getAttr ref") => `(tactic| (k_here; (with_reducible show wpAny _ _ (getAttr (Value.ref _) (PySem.Str.ofString "amount") _) _ _ _); k_dflt (refine' item_amount ?kF ?kX ?ki ?_; (case kF => k_asm); (case kX => k_asm); (case ki => walk_at "m item")); intro t9))
local macro_rules | `(tactic| walk_at "getAttr ref") => `(tactic| (k_here; (with_reducible show wpAny _ _ (getAttr (Value.ref _) (PySem.Str.ofString "multiples") _) _ _ _); k_dflt (refine' item_multiples ?kF ?kX ?ki ?_; (case kF => k_asm); (case kX => k_asm); (case ki => walk_at "m item")); intro t9))
local macro_rules | `(tactic| walk_at "getAttr ref") => `(tactic| (k_here; (with_reducible show wpAny _ _ (getAttr (Value.ref _) (PySem.Str.ofString "namespace") _) _ _ _); k_dflt (refine' item_namespace ?kF ?kX ?ki ?_; (case kF => k_asm); (case kX => k_asm); (case ki => walk_at "m item")); intro t9))

local macro_rules | `(tactic| walk_at "binaryOp Mult int int") => `(tactic| (k_here; (with_reducible show wpAny _ _ (binaryOp Operator.Mult (Value.int (Gr.sec _) _) (Value.int _ _)) _ _ _); k_dflt (refine PyProof.Rows.mul_int ?_ (IntMulOk.of_left (gr_bits _)))))
local macro_rules | `(tactic| walk_at "call builtin:isinstance") => `(tactic| (k_here; (with_reducible show wpAny _ _ (call (Value.builtin "isinstance") [Value.ref _, Value.ref 248]) _ _ _); k_dflt (refine' isi_item ?kX ?ki ?_; (case kX => k_in); (case ki => walk_at "m item"))))
local macro_rules | `(tactic| walk_at "compareOp Eq") => `(tactic| (k_here; (with_reducible show wpAny _ _ (compareOp CmpOp.Eq (Value.ref (Gr.tup _)) (Value.ref (Gr.tup _))) _ _ _); k_dflt (refine' geq_rich ?ku ?kX (inst_K ?kX1 (gr_tup _) rfl (gr_dict _)) (inst_K ?kX2 (gr_tup _) rfl (gr_dict _)) tg_mro tg_eq ?_; (case ku => walk_at "m units"); (case kX => k_in); (case kX1 => k_in); (case kX2 => k_in))))
local macro_rules | `(tactic| walk_at "formatField") => `(tactic| (k_here; (with_reducible show wpAny _ _ (formatField (Value.str (Gr.name _) _) _) _ _ _); k_dflt (refine SB.field_str ?_ (Nat.le_trans (gr_namelen _) (by decide))); intro t9 tk9))


local macro_rules | `(tactic| walk_at "m init") => `(tactic| (k_dflt (refine' code_def ?k1 ?k2 ?k3 ?k4 ?k5 ?kA ?kF ?kK ?k6 ?k7 ?k8 ?k9 ?kB ?_ ?c2 ?c3 ?c4 ?c5; (case kA => exact rfl); (case kF => assumption); (case kK => assumption); (case k1 => k_asm); (case k2 => k_asm); (case k3 => k_asm); (case k4 => k_asm); (case k5 => k_asm); (case k6 => k_is); (case k7 => k_is); (case k8 => walk_at "m room"); (case k9 => first | exact BindsTo.of_eq rfl | exact binds_K (by k_in) rfl (by k_is) rfl rfl rfl); (case c5 => decide); (case kB => exact locs rfl); (case c2 => exact rfl); (case c3 => exact rfl); (case c4 => exact rfl); k_whole; intro g' L' h' FG' F' N' B' X' T'; (try dsimp only); (try k_lift B'); (try k_fold))))
local macro_rules | `(tactic| walk_at "setAttr ref") => `(tactic| (k_here; k_dflt (refine' set_slot ?k1 ?k2 ?k3 ?k4 ?k5 ?k6 ?k7 ?k8 ?k9 ?k10 ?k11 ?k12 ?k13 ?_; (case k1 => k_asm); (case k2 => k_asm); (case k3 => k_asm); (case k4 => k_inst); (case k5 => exact gr_set _); (case k6 => exact gr_over _); (case k7 => first | exact gr_taker0 _ | exact gr_taker1 _ | exact gr_taker2 _); (case k8 => first | exact md_type 249 (.inl rfl) | exact md_type 250 (.inr (.inl rfl)) | exact md_type 251 (.inr (.inr rfl))); (case k9 => first | exact gr_slot0 _ | exact gr_slot1 _ | exact gr_slot2 _); (case k10 => decide); (case k11 => k_slotset); (case k12 => exact rfl); (case k13 => first | (refine Upd.head ?_; assumption) | k_upd); k_whole; intro h' F' N'; (try k_sweep))))

set_option maxHeartbeats 8000000 in
theorem new_item (g : Gr) {a : Int} {ta : Tok} {mv : Value} {mn : Int} (hmv : (mv = .none ∧ mn = 1) ∨ ∃ k tk, mv = .int k tk ∧ mn = if k = 0 then 1 else k) (B : Below A₀ base outer h₀) (F : Fr h₀ L s.heap m) (X : (hd.heap_39 w.params).In h₀) (N : News h₀ L s.heap news) (T : Top p loose mean mg mb h₀) (hf : env.frame = some L) (hke : env.scope.kind = .function)
    (hdp : dp + 10 < recursionLimit) (hun : un + 40 < cLine)
    (hret : ∀ x dx h' t1 t2 t3 tk', Fr h₀ L h' m → News h₀ L h' ((x, itemO g dx a mn t1 t2 t3) :: (dx, dictOf [] 0) :: news) → (∀ p ∈ news, p.1 < dx) → dx < x → Q (.ref x) { s with heap := h', toks := tk' }) :
    wpAny (model PySem.Challenge.rw_bn0039_01.row.prog w) (TopA hl dp un gd env outer) (call (.ref g.cls) [.int a ta, mv]) Q E s := by
  refine call_cls F X N (gr_makes g) (gr_init g) isFn_init fun x dx h1 F1 N1 l1 l2 => ?_
  have hne : ∀ p ∈ ((dx, dictOf [] 0) :: news), p.1 ≠ x := fun p hp => by
    rcases List.mem_cons.mp hp with rfl | hp
    · exact Nat.ne_of_lt l2
    · exact Nat.ne_of_lt (Nat.lt_trans (l1 p hp) l2)
  rcases hmv with ⟨rfl, rfl⟩ | ⟨k, tk, rfl, rfl⟩
  · revert X; k_fill; intro X
    walk_at "m init"
    k_steps
    exact hret x dx _ _ _ _ _ (by k_asm) (by k_asm) l1 l2
  · revert X; k_fill; intro X
    walk_at "m init"
    k_steps
    · rw [if_neg (by assumption)] at hret
      exact hret x dx _ _ _ _ _ (by k_asm) (by k_asm) l1 l2
    · rw [if_pos (by assumption)] at hret
      exact hret x dx _ _ _ _ _ (by k_asm) (by k_asm) l1 l2
end
end Mine

end
section
open PySem PySem.W PyProof.Rows
set_option maxRecDepth 100000
set_option linter.unusedVariables false
namespace Mine
section
variable {w : World} {p : Program} {loose : List PySem.Str} {mean : ExcName → Option Value} {mg mb : PySem.Str → Option Value} {A₀ : Around} {base h₀ : Heap} {hl : Option Value} {dp un : Nat} {gd : Option (List Code)} {outer : List Env} {env : Env} {L : Addr} {m : PySem.Str → Option Value} {news : List (Addr × Obj)} {s : Shared} {Q E : Value → Shared → Prop}
local macro_rules | `(tactic| walk_at "m room") => `(tactic| first | assumption | ((try simp only [depth_under_make, depth_under_kw, depth_in1, depth_deeper, depth_caller]); (try dsimp only [TopA]); omega))
local macro_rules | `(tactic| walk_at "m enter") => `(tactic| (refine wpAny_call ?_; k_dflt (refine' code_def ?k1 ?k2 ?k3 ?k4 ?k5 ?kA ?kF ?kK ?k6 ?k7 ?k8 ?k9 ?kB ?_ ?c2 ?c3 ?c4 ?c5; (case kA => exact rfl); (case kF => assumption); (case kK => assumption); (case k1 => k_asm); (case k2 => k_asm); (case k3 => k_asm); (case k4 => k_asm); (case k5 => k_asm); (case k6 => k_is); (case k7 => k_is); (case k8 => walk_at "m room"); (case k9 => first | exact BindsTo.of_eq rfl | exact binds_K (by k_in) rfl (by k_is) rfl rfl rfl); (case c5 => decide); (case kB => exact locs rfl); (case c2 => exact rfl); (case c3 => exact rfl); (case c4 => exact rfl); k_whole; intro g' L' h' FG' F' N' B' X' T'; (try dsimp only); (try k_lift B'); (try k_fold))))
local macro_rules | `(tactic| walk_at "m units") => `(tactic| first | assumption | ((try simp only [units_in1, units_deeper, Around.mark_units, units_caller]); (try dsimp only [TopA]); omega))
local macro_rules | `(tactic| walk_at "m prem") => `(tactic| ((case kB => k_asm); (case kF => k_asm); (case kX => k_asm); (case kN => k_asm); (case kT => k_asm); (case kf => exact rfl); (case kk => exact rfl); (case kd => walk_at "m room"); (case ku => walk_at "m units")))

local macro_rules | `(tactic| walk_at "m enterS") => `(tactic| (refine wpAny_call ?_; k_dflt (refine' enterS ?k1 ?k2 ?k3 ?k5 ?kA ?kF ?kK ?k6 ?k7 ?k8 ?k9 ?kB ?_ ?c2 ?c3 ?c4 ?c5; (case kA => exact rfl); (case kF => assumption); (case kK => assumption); (case k1 => k_asm); (case k2 => k_asm); (case k3 => k_asm); (case k5 => k_asm); (case k6 => k_is); (case k7 => k_is); (case k8 => walk_at "m room"); (case k9 => first | exact BindsTo.of_eq rfl | exact binds_K (by k_in) rfl (by k_is) rfl rfl rfl); (case c5 => decide); (case kB => exact locs rfl); (case c2 => exact rfl); (case c3 => exact rfl); (case c4 => exact rfl); k_whole; intro L' h' eL' F' N' B' X' T'; (try dsimp only); (try k_fold))))
local macro_rules | `(tactic| walk_at "m item") => `(tactic| (refine' Item.keeps ?mi (Fr.keep ?mF); (case mF => k_asm); (case mi => assumption)))
local macro_rules | `(tactic| walk_at "getAttr ref") => `(tactic| (k_here; (with_reducible show wpAny _ _ (getAttr (Value.ref _) (PySem.Str.ofString "seconds") _) _ _ _); k_dflt (refine' sec_attr _ ?kB ?kF ?kX ?kN ?kT ?kf ?kk ?kd ?ku ?_; (walk_at "m prem")); intro h9 tk9 F9 N9; (try dsimp only)))
local macro_rules | `(tactic| walk_at "getAttr ref") => `(tactic| (k_here; (with_reducible show wpAny _ _ (getAttr (Value.ref _) (PySem.Str.ofString "name") _) _ _ _); k_dflt (refine' name_attr _ ?kB ?kF ?kX ?kN ?kT ?kf ?kk ?kd ?ku ?_; (walk_at "m prem")); intro h9 tk9 F9 N9; (try dsimp only)))
local macro_rules | `(tactic| walk_at "getAttr ref") => `(tactic| (k_here; (with_reducible show wpAny _ _ (getAttr (Value.ref _) (PySem.Str.ofString "GRANULARITY") _) _ _ _); k_dflt (refine' item_gran ?kF ?kX ?ki ?_; (case kF => k_asm); (case kX => k_asm); (case ki => walk_at "m item"))))
local macro_rules | `(tactic| walk_at "getAttr ref") => `(tactic| (k_here; (with_reducible show wpAny _ _ (getAttr (Value.ref _) (PySem.Str.ofString "amount") _) _ _ _); k_dflt (refine' item_amount ?kF ?kX ?ki ?_; (case kF => k_asm); (case kX => k_asm); (case ki => walk_at "m item")); intro t9))
local macro_rules | `(tactic| walk_at "getAttr ref") => `(tactic| (k_here; (with_reducible show wpAny _ _ (getAttr (Value.ref _) (PySem.Str.ofString "multiples") _) _ _ _); k_dflt (refine' item_multiples ?kF ?kX ?ki ?_; (case kF => k_asm); (case kX => k_asm); (case ki => walk_at "m item")); intro t9))
local macro_rules | `(tactic| walk_at "getAttr ref") => `(tactic| (k_here; (with_reducible show wpAny _ _ (getAttr (Value.ref _) (PySem.Str.ofString "namespace") _) _ _ _); k_dflt (refine' item_namespace ?kF ?kX ?ki ?_; (case kF => k_asm); (case kX => k_asm); (case ki => walk_at "m item")); intro t9))

local macro_rules | `(tactic| walk_at "binaryOp Mult int int") => `(tactic| (k_here; (with_reducible show wpAny _ _ (binaryOp Operator.Mult (Value.int (Gr.sec _) _) (Value.int _ _)) _ _ _); k_dflt (refine PyProof.Rows.mul_int ?_ (IntMulOk.of_left (gr_bits _)))))
local macro_rules | `(tactic| walk_at "call builtin:isinstance") => `(tactic| (k_here; (with_reducible show wpAny _ _ (call (Value.builtin "isinstance") [Value.ref _, Value.ref 248]) _ _ _); k_dflt (refine' isi_item ?kX ?ki ?_; (case kX => k_in); (case ki => walk_at "m item"))))
local macro_rules | `(tactic| walk_at "compareOp Eq") => `(tactic| (k_here; (with_reducible show wpAny _ _ (compareOp CmpOp.Eq (Value.ref (Gr.tup _)) (Value.ref (Gr.tup _))) _ _ _); k_dflt (refine' geq_rich ?ku ?kX (inst_K ?kX1 (gr_tup _) rfl (gr_dict _)) (inst_K ?kX2 (gr_tup _) rfl (gr_dict _)) tg_mro tg_eq ?_; (case ku => walk_at "m units"); (case kX => k_in); (case kX1 => k_in); (case kX2 => k_in))))
local macro_rules | `(tactic| walk_at "formatField") => `(tactic| (k_here; (with_reducible show wpAny _ _ (formatField (Value.str (Gr.name _) _) _) _ _ _); k_dflt (refine SB.field_str ?_ (Nat.le_trans (gr_namelen _) (by decide))); intro t9 tk9))


local macro_rules | `(tactic| walk_at "getAttr ref") => `(tactic| (k_here; (with_reducible show wpAny _ _ (getAttr (Value.ref (Gr.cls _)) (PySem.Str.ofString "GRANULARITY") _) _ _ _); k_dflt (refine' cls_val ?k1 ?k2 ?k3 ?k4 ?k5 ?k6 ?_; (case k1 => k_asm); (case k2 => k_asm); (case k3 => exact gr_meta _); (case k4 => exact gr_reads _); (case k5 => exact gr_clsgran _); (case k6 => exact rfl))))

local macro_rules | `(tactic| walk_at "m enterC") => `(tactic| (k_dflt (refine' enterS ?k1 ?k2 ?k3 ?k5 ?kA ?kF ?kK ?k6 ?k7 ?k8 ?k9 ?kB ?_ ?c2 ?c3 ?c4 ?c5; (case kA => exact rfl); (case kF => assumption); (case kK => assumption); (case k1 => k_asm); (case k2 => k_asm); (case k3 => k_asm); (case k5 => k_asm); (case k6 => k_is); (case k7 => k_is); (case k8 => walk_at "m room"); (case k9 => first | exact BindsTo.of_eq rfl | exact binds_K (by k_in) rfl (by k_is) rfl rfl rfl); (case c5 => decide); (case kB => exact locs rfl); (case c2 => exact rfl); (case c3 => exact rfl); (case c4 => exact rfl); k_whole; intro L' h' eL' F' N' B' X' T'; (try dsimp only); (try k_fold))))

set_option maxHeartbeats 8000000 in
theorem check_code (g : Gr) {x : PySem.Str} {tk : Tok} (hx : x.length ≤ 400) (B : Below A₀ base outer h₀) (F : Fr h₀ L s.heap m) (X : (hd.heap_39 w.params).In h₀) (T : Top p loose mean mg mb h₀) (hf : env.frame = some L) (hke : env.scope.kind = .function)
    (hdp : dp + 20 < recursionLimit) (hun : un + 80 < cLine)
    (hret : ∀ h' tk', (∀ b o, s.heap.get? b = some o → h'.get? b = some o) → Q (.bool (decide (Txt.lower x = g.name) || decide (Txt.lower x = g.name ++ Str.ofString "s"))) { s with heap := h', toks := tk' }) :
    codeAny (model PySem.Challenge.rw_bn0039_01.row.prog w) (TopA hl dp un gd env outer) (.call (.ref 206) ⟨[.ref g.cls, .str x tk], []⟩) (fun r s' => match r with | .ok (.ret v) => Q v s' | .ok _ => False | .error e => E e s') s := by
  have hlg := gr_namelen g
  revert X; k_fill; intro X
  walk_at "m enterC"
  k_steps
  all_goals first
    | (rw [PySem.Str.empty_append] ; have : (1000 : Nat) ≤ sizeLine := by decide
       first | (rw [PySem.Str.length_append]; show _ + 1 ≤ _; omega) | omega)
    | skip
  rw [PySem.Str.empty_append, Bool.false_or]
  exact hret _ _ (Fr.keep (by k_asm))

/-- which length a name means -/
def grIs (g : Gr) (x : PySem.Str) : Bool := decide (Txt.lower x = g.name) || decide (Txt.lower x = g.name ++ Str.ofString "s")
def grOf (x : PySem.Str) : Option Gr := [Gr.year, .month, .day, .hour, .minute, .second].find? fun g => grIs g x

end
end Mine

end
section
open PySem PySem.W PyProof.Rows
set_option maxRecDepth 100000
set_option linter.unusedVariables false
namespace Mine

/-! ## an exception on its way, with what it was raised under -/
/-- the exception at e, its record of the way at T; fl: where it is now -/
def TrC (h base : Heap) (e : Addr) (cls c2 fl : Value) : Prop :=
  ∃ oe vs T oT ts, h.get? e = some oe ∧ oe.cls = cls ∧ vs[2]? = some c2 ∧ oe.data = .fields vs ∧ vs[1]? = some (.ref T) ∧ base.get? T = none ∧ T ≠ e ∧ h.get? T = some oT ∧ oT.data = .fields ts ∧ ts[3]? = some fl
structure FlC (base : Heap) (l : List Env) (e : Addr) (cls c2 fl : Value) (h : Heap) : Prop where
  stays : base.StaysIn h
  new : base.get? e = none
  frames : h.FunFrames base l
  tr : TrC h base e cls c2 fl
theorem FlC.there {base h : Heap} {l : List Env} {e : Addr} {cls c2 fl : Value} (x : FlC base l e cls c2 fl h) : ∃ oe vs, h.get? e = some oe ∧ oe.cls = cls ∧ oe.data = .fields vs ∧ vs[2]? = some c2 := by
  obtain ⟨oe, vs, _, _, _, he, hc, h2, hd, _⟩ := x.tr
  exact ⟨oe, vs, he, hc, hd, h2⟩

section
variable {M : Model} {A : Around} {E : Value → Shared → Prop} {s : Shared}

theorem entryC {base : Heap} {env : Env} {outer : List Env} {L e : Addr} {oe : Obj} {vs : Array Value} {head c2 : Value} {hadNext : Bool} {Q : Unit → Shared → Prop}
    (hfr : A.frames = some (env :: outer)) (hl : s.heap.FunFrames base (env :: outer)) (hf : env.frame = some L)
    (he : s.heap.get? e = some oe) (hkb : base.StaysIn s.heap) (hen : base.get? e = none) (hd : oe.data = .fields vs) (hsz : 1 < vs.size) (h2 : vs[2]? = some c2)
    (h : ∀ h', FlC base (env :: outer) e oe.cls c2 (rawInt L) h' → s.heap.UpToSlots h' → Q () { s with heap := h' }) :
    wpAny M A (do let a ← frameOf env; let pl ← entryPlaceOf L hadNext; let b ← EntryCells.newEntry head a .none (rawInt L) .none pl; setField (.ref e) 1 b) Q E s := by
  have hene : e ∉ (env :: outer).filterMap (·.frame) := fun hm => by
    obtain ⟨_, o, ho, hnf⟩ := hl.mem hm
    rw [he] at ho; injection ho with ho; subst ho; exact hnf vs hd
  refine wpAny_bind (wpAny_frameOf_fun hfr hl hf fun h₁ hs₁ => ?_)
  refine wpAny_bind (wpAny_entryPlaceOf fun pl hpl => ?_)
  unfold EntryCells.newEntry newFields
  refine wpAny_bind (wpAny_newObj_type ?_ (hpl.sizeOk5 _ _ _ _ _))
  have he₁ : h₁.get? e = some oe := (hs₁.2.1 e hene).trans he
  have kb₁ : base.StaysIn h₁ := fun b o hbo => (hs₁.2.1 b fun hm => by rw [(hl.mem hm).1] at hbo; cases hbo).trans (hkb b o hbo)
  generalize hO : ({ cls := .type "traceback", dict := none, data := .fields ([head, .ref L, .none, rawInt L, .none] ++ (if pl.isEmpty then List.replicate 6 Value.none else pl)).toArray } : Obj) = O
  have hOd : ∃ ts, O.data = .fields ts ∧ ts[3]? = some (rawInt L) := by
    subst hO
    refine ⟨_, rfl, ?_⟩
    first | (simp; done) | (rcases hpl with rfl | ⟨_, _, _, _, _, _, _, rfl⟩ <;> simp)
  have he₂ := Heap.get?_push_of_some (h := h₁) O he₁
  refine wpAny_setField he₂ hd hsz (h _ ?_ ?_)
  all_goals
    have hTe : h₁.objs.size ≠ e := Nat.ne_of_gt (Heap.lt_size he₁)
    have hd₃ := Obj.data_mapFields hd (·.setIfInBounds 1 (Value.ref h₁.objs.size))
    have he₃ := Heap.get?_update_self (Obj.mapFields (·.setIfInBounds 1 (Value.ref h₁.objs.size))) he₂ (Obj.isFreed_of_fields hd₃)
    have keep : ∀ b o, b ≠ e → h₁.get? b = some o → ((h₁.push O).update e (Obj.mapFields (·.setIfInBounds 1 (Value.ref h₁.objs.size)))).get? b = some o := fun b o hbe hb => by
      rw [Heap.get?_update_other _ _ (Ne.symm hbe)]
      exact Heap.get?_push_of_some _ hb
    have noRecord : ∀ b o, s.heap.get? b = some o → (∀ vs, o.data ≠ .fields vs) → b ≠ e := fun b o hb hnf q => by
      rw [q, he] at hb; injection hb with hb; subst hb; exact hnf vs hd
  · obtain ⟨ts, hOd, h3⟩ := hOd
    have hfree : O.isFreed = false := Obj.isFreed_of_fields hOd
    have hT₃ := (Heap.get?_update_other (h₁.push O) (Obj.mapFields (·.setIfInBounds 1 (Value.ref h₁.objs.size))) (Ne.symm hTe)).trans (Heap.get?_push_size h₁ hfree)
    refine ⟨fun b o hbo => keep b o (fun q => by rw [q, hen] at hbo; cases hbo) (kb₁ b o hbo), hen, hl.of_keeps fun b o hb hnf => ?_, ?_⟩
    · obtain ⟨sl, hs⟩ := hs₁.2.2 b o hb
      exact ⟨_, keep b _ (noRecord b o hb hnf) hs, rfl⟩
    · exact ⟨_, _, h₁.objs.size, _, _, he₃, Obj.cls_mapFields _ _, by rw [Array.getElem?_setIfInBounds_ne (by decide)]; exact h2, hd₃, by simp [hsz], kb₁.fresh, hTe, hT₃, hOd, h3⟩
  · intro b o hb hnf
    obtain ⟨sl, hs⟩ := hs₁.2.2 b o hb
    exact ⟨sl, keep b _ (noRecord b o hb hnf) hs⟩

theorem landsC {base : Heap} {l : List Env} {e : Addr} {cls c2 fl : Value} {Q : Unit → Shared → Prop} (x : FlC base l e cls c2 fl s.heap)
    (h : ∀ h', FlC base l e cls c2 .none h' → s.heap.UpToSlots h' → Q () { s with heap := h' }) : wpAny M A (setFlight (.ref e) none) Q E s := by
  obtain ⟨hkb, hen, hl, oe, vs, T, oT, ts, he, hcls, h2, hd, h1, hnT, hTe, hT, hdT, h3⟩ := x
  have hsz3 : 3 < ts.size := (Array.getElem?_eq_some_iff.mp h3).1
  have other : ∀ b, b ≠ T → (s.heap.update T (Obj.mapFields (·.setIfInBounds 3 ((none : Option Addr).elim Value.none fun f => rawInt f)))).get? b = s.heap.get? b :=
    fun b hb => Heap.get?_update_other _ _ (Ne.symm hb)
  have noRecord : ∀ b o, s.heap.get? b = some o → (∀ vs, o.data ≠ .fields vs) → b ≠ T := fun b o hb hnf q => by
    rw [q, hT] at hb; injection hb with hb; subst hb; exact hnf ts hdT
  unfold setFlight
  refine wpAny_bind (wpAny_field he hd h1 ?_)
  rw [if_pos (show (Value.ref T != Value.none) = true from by simp)]
  refine wpAny_setField hT hdT hsz3 (h _ ⟨fun b o hbo => (other b fun q => by rw [q, hnT] at hbo; cases hbo).trans (hkb b o hbo), hen, hl.of_keeps fun b o hb hnf => ⟨o, (other b (noRecord b o hb hnf)).trans hb, rfl⟩, ?_⟩ fun b o hb hnf => ⟨o.slots, (other b (noRecord b o hb hnf)).trans hb⟩)
  exact ⟨oe, vs, T, _, _, (other e (Ne.symm hTe)).trans he, hcls, h2, hd, h1, hnT, hTe, Heap.get?_update_self _ hT (Obj.isFreed_of_fields (Obj.data_mapFields hdT _)), Obj.data_mapFields hdT _, by simp [hsz3]⟩

/-- the frame notes the exception -/
theorem looksC {base : Heap} {env : Env} {outer : List Env} {L e : Addr} {cls c2 : Value} {Q : Unit → Shared → Prop} (hfr : A.frames = some (env :: outer)) (hf : env.frame = some L) (x : FlC base (env :: outer) e cls c2 .none s.heap)
    (h : ∀ h', FlC base (env :: outer) e cls c2 (rawInt L) h' → s.heap.UpToSlots h' → Q () { s with heap := h' }) : wpAny M A (noteFrame (.ref e) env) Q E s := by
  obtain ⟨hkb, hen, hl, oe, vs, T, oT, ts, he, hcls, h2, hd, h1, hnT, hTe, hT, hdT, h3⟩ := x
  subst hcls
  unfold noteFrame
  simp only [hf]
  refine wpAny_bind (wpAny_field he hd h1 ?_)
  rw [if_pos (show (Value.ref T != Value.none) = true from by simp)]
  refine wpAny_bind (wpAny_field hT hdT h3 ?_)
  rw [if_neg (show ¬ ((Value.none == rawInt L) = true) from by simp [rawInt])]
  refine wpAny_bind (wpAny_setField hT hdT (Array.getElem?_eq_some_iff.mp h3).1 ?_)
  have other : ∀ b, b ≠ T → (s.heap.update T (Obj.mapFields (·.setIfInBounds 3 Value.none))).get? b = s.heap.get? b := fun b hb => Heap.get?_update_other _ _ (Ne.symm hb)
  have noRecord : ∀ b o, s.heap.get? b = some o → (∀ vs, o.data ≠ .fields vs) → b ≠ T := fun b o hb hnf q => by
    rw [q, hT] at hb; injection hb with hb; subst hb; exact hnf ts hdT
  refine entryC hfr (hl.of_keeps fun b o hb hnf => ⟨o, (other b (noRecord b o hb hnf)).trans hb, rfl⟩) hf ((other e (Ne.symm hTe)).trans he)
    (fun b o hbo => (other b fun q => by rw [q, hnT] at hbo; cases hbo).trans (hkb b o hbo)) hen hd (Array.getElem?_eq_some_iff.mp h1).1 h2
    fun h' x1 x4 => h h' x1 fun b o hb hnf => x4 b o ((other b (noRecord b o hb hnf)).trans hb) hnf

/-- out of a frame, on to the next -/
theorem leaveC_on {base : Heap} {env : Env} {outer : List Env} {L e : Addr} {cls c2 : Value} {Q : Unit → Shared → Prop} (hfr : A.frames = some (env :: outer)) (hf : env.frame = some L) (x : FlC base (env :: outer) e cls c2 .none s.heap)
    (h : ∀ h', FlC base outer e cls c2 .none h' → s.heap.UpToSlots h' → Q () { s with heap := h' }) : wpAny M A (leaving env (.ref e)) Q E s := by
  unfold leaving
  refine wpAny_bind (looksC hfr hf x fun h₁ x₁ u₁ => ?_)
  refine landsC x₁ fun h₂ x₂ u₂ => ?_
  exact h h₂ ⟨x₂.stays, x₂.new, x₂.frames.2.2, x₂.tr⟩ (u₁.trans u₂)

/-- out of the frame that raised it -/
theorem leaveC_first {base : Heap} {env : Env} {outer : List Env} {L e : Addr} {oe : Obj} {vs : Array Value} {c2 : Value} {Q : Unit → Shared → Prop}
    (hfr : A.frames = some (env :: outer)) (hl : s.heap.FunFrames base (env :: outer)) (hf : env.frame = some L)
    (he : s.heap.get? e = some oe) (hkb : base.StaysIn s.heap) (hen : base.get? e = none) (hd : oe.data = .fields vs) (h1 : vs[1]? = some .none) (h2 : vs[2]? = some c2)
    (h : ∀ h', FlC base outer e oe.cls c2 .none h' → s.heap.UpToSlots h' → Q () { s with heap := h' }) : wpAny M A (leaving env (.ref e)) Q E s := by
  unfold leaving noteFrame
  simp only [hf]
  refine wpAny_bind (wpAny_bind (wpAny_field he hd h1 ?_))
  rw [if_neg (by decide)]
  refine entryC hfr hl hf he hkb hen hd (Array.getElem?_eq_some_iff.mp h1).1 h2 fun h₁ x₁ u₁ => ?_
  refine landsC x₁ fun h₂ x₂ u₂ => ?_
  exact h h₂ ⟨x₂.stays, x₂.new, x₂.frames.2.2, x₂.tr⟩ (u₁.trans u₂)
end
end Mine

end
section
open PySem PySem.W PyProof.Rows
set_option maxRecDepth 100000
set_option linter.unusedVariables false
namespace Mine

/-! ## raising, an exception being handled or not -/
/-- what is handled was itself raised under nothing -/
def HOk (hl : Option Value) (h : Heap) : Prop := hl = none ∨ ∃ a o vs, hl = some (.ref a) ∧ h.get? a = some o ∧ o.data = .fields vs ∧ vs[2]? = some .none
theorem HOk.keeps {hl : Option Value} {h h' : Heap} (x : HOk hl h) (k : ∀ b o, h.get? b = some o → h'.get? b = some o) : HOk hl h' := by
  rcases x with x | ⟨a, o, vs, h1, h2, h3⟩
  · exact .inl x
  · exact .inr ⟨a, o, vs, h1, k _ _ h2, h3⟩
theorem entry_unchain : entryFor table "proto.unchain" = some Builtin.«proto.unchain» := entryFor_of_tree (by kernel_rfl)

/-- an exception that has just been made, above h -/
structure NewC (h h' : Heap) (e : Addr) (cls c2 : Value) : Prop where
  keeps : ∀ b o, h.get? b = some o → h'.get? b = some o
  new : h.get? e = none
  there : ∃ oe vs, h'.get? e = some oe ∧ oe.cls = cls ∧ oe.data = .fields vs ∧ vs[1]? = some .none ∧ vs[2]? = some c2

section
variable {prog : Program} {w : World} {A : Around} {E : Value → Shared → Prop} {s : Shared} {env : Env}

theorem raiseNewC {α : Type} {h₀ : Heap} {e : Addr} {cls : Value} {hl : Option Value} {Q : α → Shared → Prop} (hh : A.handled = hl) (H : HOk hl h₀) (x : NewC h₀ s.heap e cls .none)
    (hE : ∀ h' c2, NewC h₀ h' e cls c2 → (hl = none → c2 = .none) → E (.ref e) { s with heap := h' }) : wpAny (model prog w) A (raiseNew (.ref e) : Sem α) Q E s := by
  unfold raiseNew
  refine wpAny_bind (wpAny_handled ?_)
  rw [hh]
  rcases H with rfl | ⟨a, o, vs, rfl, ha, hd, h2⟩
  · dsimp only
    first
      | exact wpAny_throw (hE _ .none x fun _ => rfl)
      | exact wpAny_bind (wpAny_pure (wpAny_throw (hE _ .none x fun _ => rfl)))
  · have hne : a ≠ e := fun q => by subst q; rw [x.new] at ha; cases ha
    have ha' := x.keeps _ _ ha
    obtain ⟨oe, ws, he, hc, hwd, hw1, hw2⟩ := x.there
    dsimp only
    rw [if_pos (by simp [hne])]
    have key : wpAny (model prog w) A (runValue (.builtin "proto.unchain" ⟨[.ref e, .ref a, .ref a, .bool false], []⟩)) (fun _ s' => s' = s) E s := by
      refine wpAny_runValue (codeAny_builtin entry_unchain ?_)
      unfold Builtin.«proto.unchain»
      refine wpAny_bind (wpAny_field ha' hd h2 ?_)
      rw [if_pos (by decide)]
      refine wpAny_bind (wpAny_pure (wpAny_pure ?_))
      show s = s
      rfl
    refine wpAny_bind (wpAny_holding (wpAny_mono key (fun _ s' hs => ?_) fun _ _ y => y))
    subst hs
    have hsz : 2 < ws.size := (Array.getElem?_eq_some_iff.mp hw2).1
    refine wpAny_bind (show wpAny _ _ (setField (.ref e) 2 (.ref a)) _ _ _ from wpAny_setField he hwd hsz ?_)
    refine wpAny_throw (hE _ (.ref a) ⟨fun b ob hb => ?_, x.new, ?_⟩ fun q => by cases q)
    · rw [Heap.get?_update_other _ _ (fun q => by subst q; rw [x.new] at hb; cases hb)]
      exact x.keeps _ _ hb
    · have hd₃ := Obj.data_mapFields hwd (·.setIfInBounds 2 (Value.ref a))
      exact ⟨_, _, Heap.get?_update_self _ he (Obj.isFreed_of_fields hd₃), (Obj.cls_mapFields _ _).trans hc, hd₃, by rw [Array.getElem?_setIfInBounds_ne (by decide)]; exact hw1, by simp [hsz]⟩

theorem Raise_C {e : Expr} {pos : Pos} {X N I : String} {hl : Option Value} {h₀ : Heap} {Q : Flow → Shared → Prop} (hc : ExcClass X N I) (hh : A.handled = hl) (H : HOk hl h₀)
    (h : wpAny (model prog w) A (eval e env) (fun v s₁ => ∃ a, v = .ref a ∧ NewC h₀ s₁.heap a (.type X) .none ∧ ∀ h' c2, NewC h₀ h' a (.type X) c2 → (hl = none → c2 = .none) → E (.ref a) { s₁ with heap := h' }) E s) :
    wpAny (model prog w) A (exec (.Raise (some e) none pos) env) Q E s := by
  show wpAny _ A (do standAt pos; raiseStmt env (some (do let v ← eval e env; standAt pos; pure v)) none) Q E s
  refine wpAny_bind (wpAny_standAt ?_)
  unfold raiseStmt
  dsimp only
  refine wpAny_bind (wpAny_bind (wpAny_mono h (fun v s₁ h₁ => wpAny_bind (wpAny_standAt (wpAny_pure ?_))) fun _ _ x => x))
  obtain ⟨a, rfl, x, hE⟩ := h₁
  obtain ⟨ob, vs, ha, hcls, hd, h1, h2⟩ := x.there
  have hT : s₁.TypeIs (.ref a) X := ⟨ob, ha, hcls⟩
  have hnt : ∀ {Q' : Bool → Shared → Prop}, Q' false s₁ → wpAny (model prog w) A (isType (.ref a)) Q' E s₁ := by
    intro Q' hq
    simp only [isType, loadHead]
    refine wpAny_bind (wpAny_loadPart ha ?_)
    rw [hd]; exact wpAny_pure hq
  refine wpAny_bind (wpAny_pure ?_)
  dsimp only
  refine wpAny_bind (wpAny_holding ?_)
  unfold excFromValue isExcClass
  refine wpAny_bind (wpAny_bind (hnt ?_))
  simp only [Bool.false_eq_true, if_false]
  refine wpAny_pure ?_
  simp only [Bool.false_eq_true, if_false]
  refine wpAny_bind (wpAny_isInstance hT hc.base ?_)
  simp only [if_true]
  refine wpAny_pure ?_
  refine wpAny_bind (hnt ?_)
  simp only [Bool.false_eq_true, if_false]
  unfold raisedInstance
  refine wpAny_bind (wpAny_bind (wpAny_typeOf hT (wpAny_bind (m := typeOf (.type X)) (wpAny_pure ?_))))
  rw [if_pos hc.metaType]
  refine wpAny_pure ?_
  unfold setFlight
  refine wpAny_bind (wpAny_bind (wpAny_field ha hd h1 ?_))
  rw [if_neg (by decide)]
  refine wpAny_pure ?_
  exact raiseNewC hh H x hE
end
end Mine

end
section
open PySem PySem.W PyProof.Rows
set_option maxRecDepth 100000
set_option linter.unusedVariables false
namespace Mine

theorem newC_push (h : Heap) (a : Obj) (T : String) (x : Value) : NewC h ((h.push a).push { cls := .type T, data := .fields (#[x, .none, .none, .none, .bool false, .none] ++ #[]) }) (h.push a).objs.size (.type T) .none :=
  ⟨fun b o hb => Heap.get?_push_of_some _ (Heap.get?_push_of_some _ hb), Heap.get?_none_of_le (by simp), _, _, Heap.get?_push_size _ rfl, rfl, rfl, rfl, rfl⟩
theorem own_stop : ownMembersOf (.type "StopIteration") [] = #[] := by unfold ownMembersOf; rfl
section
variable {prog : Program} {w : World} {K : Type} [DecidableEq K] {knd : KeyKind prog w K} {A : Around} {E : Value → Shared → Prop} {s : Shared}
/-- a dict's values are at their end, an exception being handled or not -/
theorem values_end {it d : Addr} {i ep : Nat} {kvs : List (K × Value)} {hl : Option Value} {Q : Option Value → Shared → Prop} (hh : A.handled = hl) (H : HOk hl s.heap) (Hn : ∀ a, hl = some (.ref a) → a ≠ it) (hit : s.heap.IsValIter it d i kvs.length ep)
    (hm : s.heap.DictAt knd d kvs ep) (hx : kvs[i]? = none)
    (hQ : ∀ h', Heap.ExtBut it s.heap h' → Q none { s with heap := h' }) : wpAny (model prog w) A (pyNext (.ref it)) Q E s := by
  obtain ⟨o, ho, hc, hd⟩ := id hit
  obtain ⟨od, es, hod, hcd, hdd, hk, hp, hn⟩ := id hm
  unfold pyNext
  refine wpAny_bind (wpAny_attempt (wpAny_callSpecial?_slot (name := Str.ofString "__next__") hit.typeIs F.slot_dict_valueiterator_next
    (wpAny_call_entry F.slot_dict_valueiterator_next hit.typeIs F.entry_dict_valueiterator_next ?_ (F.args_dict_valueiterator_next_1 _))))
  refine wpAny_bind (wpAny_pure ?_)
  refine wpAny_bind ?_
  refine wpAny_bind ?_
  refine wpAny_bind (wpAny_typeNameOfWhole_valiter hit.typeIs (wpAny_pure ?_))
  refine wpAny_bind (wpAny_fieldsOf ho hd ?_)
  have hown : Builtin.Dict_items.ownsTuple "dict_valueiterator" = false := by decide
  simp only [hown, Bool.false_eq_true, if_false]
  show wpAny _ _ (if (Value.ref d == Value.none) = true then _ else _) _ _ s
  rw [if_neg (show ¬ ((Value.ref d == Value.none) = true) from Bool.false_ne_true)]
  refine wpAny_bind (wpAny_pure (wpAny_bind (wpAny_dictEntries hod hdd ?_)))
  have hsz : es.size = kvs.length := by rw [← hp.length]; simp
  rw [if_neg (by rw [hsz]; simp)]
  refine wpAny_bind (wpAny_pure (wpAny_bind (wpAny_dictEpoch hod hdd ?_)))
  rw [if_neg (by simp)]
  refine wpAny_pure ?_
  have hge : es.size ≤ i := by rw [hsz]; simpa using hx
  simp only [show ¬ ((i : Int) < 0) from by omega, if_false, Int.toNat_natCast, Array.getElem?_eq_none hge]
  refine wpAny_bind ?_
  refine wpAny_bind (wpAny_typeNameOfWhole_valiter hit.typeIs (wpAny_pure ?_))
  show wpAny _ _ (setField (.ref it) 0 .none >>= _) _ _ s
  refine wpAny_bind (wpAny_setField ho hd (by simp) ?_)
  show wpAny _ _ (newExc (.type "StopIteration") [] >>= _) _ _ _
  refine wpAny_bind ?_
  simp only [newExc, newTuple]
  refine wpAny_bind (wpAny_newObj_type ?_ (by size_fits))
  refine wpAny_bind (m := firstArgMember _ _) (wpAny_of_eq (a := Value.none) (by first | rfl | (simp only [firstArgMember]; rfl)) ?_)
  refine wpAny_newObj_type ?_ (by size_fits)
  have H' : HOk hl (s.heap.update it (Obj.mapFields (·.setIfInBounds 0 Value.none))) := by
    rcases H with H | ⟨a, o', vs, h1, h2, h3⟩
    · exact .inl H
    · exact .inr ⟨a, o', vs, h1, by rw [Heap.get?_update_other _ _ (Ne.symm (Hn a h1))]; exact h2, h3⟩
  refine raiseNewC (h₀ := s.heap.update it (Obj.mapFields (·.setIfInBounds 0 Value.none))) (cls := .type "StopIteration") (hl := hl) hh H' ?_ ?_
  · have e : ownMembersOf (.type "StopIteration") [] = #[] := own_stop
    rw [e]
    exact newC_push _ _ "StopIteration" _
  · intro h' c2 x _
    obtain ⟨oe, vs, he, hcl, _⟩ := x.there
    refine wpAny_bind (wpAny_isInstance (T := "StopIteration") (b := true) ⟨_, he, hcl⟩ isSubtype_stop ?_)
    refine wpAny_pure (hQ h' fun b ob hb hbo => ?_)
    exact x.keeps _ _ ((Heap.get?_update_other _ _ (Ne.symm hb)).trans hbo)
end
end Mine

end
section
open PySem PySem.W PyProof.Rows
set_option maxRecDepth 100000
set_option linter.unusedVariables false
namespace Mine
def grAll : List Gr := [.year, .month, .day, .hour, .minute, .second]
def grKvs : List (PySem.Str × Value) := grAll.map fun g => (g.name, .ref g.cls)
theorem gr_nodup : (grKvs.map (·.1)).Nodup := by decide +kernel
section
variable {w : World} {prog : Program}
theorem gran_at {h : Heap} (X : (hd.heap_39 w.params).In h) : h.DictAt (strKind prog w) 338 grKvs 6 := by
  have hp : ∀ {n : PySem.Str} {t : Tok}, (strKind prog w).is n (.str n t) = true := fun {n t} => by rw [strKind_is]
  have hl : ∃ es, (hd.heap_39 w.params).lookup 338 = some ⟨.type "dict", none, .dict es 6, #[]⟩ ∧ KeysLit w.params es.toList ∧ Pairs (strKind prog w) es.toList grKvs := by
    refine ⟨_, rfl, ?_, ?_⟩
    · refine ⟨⟨_, _, rfl, rfl⟩, ⟨_, _, rfl, rfl⟩, ⟨_, _, rfl, rfl⟩, ⟨_, _, rfl, rfl⟩, ⟨_, _, rfl, rfl⟩, ⟨_, _, rfl, rfl⟩, trivial⟩
    · refine .cons ?_ rfl (.cons ?_ rfl (.cons ?_ rfl (.cons ?_ rfl (.cons ?_ rfl (.cons ?_ rfl .nil)))))
      all_goals exact hp
  obtain ⟨es, h1, hk, h2⟩ := hl
  exact ⟨_, es, X _ _ h1, ⟨rfl, rfl, rfl⟩, rfl, fun e he => by
    obtain ⟨x, t, e1, e2⟩ := hk.all e (Array.mem_toList_iff.mpr he)
    exact ⟨x, by rw [e1]; exact hp, e2⟩, h2, gr_nodup⟩

/-- the turns of a loop over the lengths -/
theorem gran_loop {A : Around} {s : Shared} {env : Env} {R : Result → Shared → Prop} {x : PySem.Str} {xp : Pos} {body : List Stmt} {it : Addr} {hl : Option Value} (hh : A.handled = hl) (J : Nat → Shared → Prop)
    (hJ : ∀ i s', J i s' → s'.heap.IsValIter it 338 i 6 6 ∧ (hd.heap_39 w.params).In s'.heap ∧ HOk hl s'.heap ∧ ∀ a, hl = some (.ref a) → a ≠ it)
    (step : ∀ i g s' h', grAll[i]? = some g → J i s' → h'.IsValIter it 338 (i + 1) 6 6 → Heap.SameBut it s'.heap h' →
      wpAny (model prog w) A (assign (.Name x xp) env (.ref g.cls)) (fun _ s₂ => wpAny (model prog w) A (execs body env) (fun f s₃ => match f with | .next => J (i + 1) s₃ | .ret v => R (.ok (.ret v)) s₃ | _ => False) (notedBy (model prog w) A env fun e s' => R (.error e) s') s₂) (notedBy (model prog w) A env fun e s' => R (.error e) s') { s' with heap := h' })
    (stop : ∀ s' h', J 6 s' → Heap.ExtBut it s'.heap h' → R (.ok .next) { s' with heap := h' })
    (h0 : J 0 s) : codeAny (model prog w) A (.forLoop (.Name x xp) (.ref it) body [] env) R s := by
  have hlen : grKvs.length = 6 := rfl
  refine codeAny_forLoop_any (fun n s' => ∃ i, n = 6 - i ∧ i ≤ 6 ∧ J i s') ?_ 6 ⟨0, rfl, Nat.zero_le _, h0⟩
  rintro n s' ⟨i, rfl, hi, hj⟩
  obtain ⟨hit, X, H, Hn⟩ := hJ i s' hj
  have hm := gran_at (prog := prog) X
  cases hg : grAll[i]? with
  | none =>
    have hi6 : i = 6 := by
      have : grAll.length ≤ i := by simpa using hg
      have : (6 : Nat) ≤ i := this
      omega
    subst hi6
    refine values_end (kvs := grKvs) hh H Hn hit hm rfl fun h' he => wpAny_execs_nil ?_
    exact stop s' h' hj he
  | some g =>
    have hlt : i < 6 := by
      have := (List.getElem?_eq_some_iff.mp hg).1
      exact this
    have hk : grKvs[i]? = some (g.name, .ref g.cls) := by
      unfold grKvs
      rw [List.getElem?_map, hg]; rfl
    refine wpAny_pyNext_values_item (kvs := grKvs) hit hm hk fun h' hit' hs => ?_
    refine wpAny_mono (Q := fun _ s₁ => s₁ = { s' with heap := h' }) (E := fun _ _ => False) (by unfold letOwnedTupleGo; exact wpAny_pure rfl) (fun _ s₁ e₁ => ?_) fun _ _ q => q.elim
    subst e₁
    refine wpAny_mono (step i g s' h' hg hj hit' hs) (fun _ s₂ h₂ => wpAny_mono h₂ (fun f s₃ h₃ => ?_) fun _ _ q => q) fun _ _ q => q
    cases f with
    | next => exact ⟨6 - (i + 1), by omega, i + 1, rfl, by omega, h₃⟩
    | ret v => exact h₃
    | brk => exact h₃.elim
    | cont => exact h₃.elim
end
end Mine

end
section
open PySem PySem.W PyProof.Rows
set_option maxRecDepth 100000
set_option linter.unusedVariables false
namespace Mine

/-! ## the limits of a text -/
abbrev Lim := Gr × Nat × Nat
def wordOf (n : List Nat) : List Nat := if n.getLast? = some 115 then n.dropLast else n
def grW (n : List Nat) : Option Gr := grAll.find? fun g => g.name.cps.toList == wordOf n
def limOf (r : List Nat × Nat × Nat) : Option Lim := (grW r.1).map fun g => (g, r.2.1, r.2.2)
def allLim : List (List Nat × Nat × Nat) → Option (List Lim)
  | [] => some []
  | r :: rs => (limOf r).bind fun l => (allLim rs).map fun ls => l :: ls
def meant (x : PySem.Str) : Option (List Lim) := (rowsOf x).bind allLim
theorem allLim_snoc : ∀ (rs : List (List Nat × Nat × Nat)) (r : List Nat × Nat × Nat), allLim (rs ++ [r]) = (allLim rs).bind fun ls => (limOf r).map fun l => ls ++ [l]
  | [], r => by
    show (limOf r).bind (fun l => some [l]) = (limOf r).map fun l => [] ++ [l]
    cases limOf r <;> rfl
  | a :: rs, r => by
    show (limOf a).bind (fun l => (allLim (rs ++ [r])).map fun ls => l :: ls) = ((limOf a).bind fun l => (allLim rs).map fun ls => l :: ls).bind fun ls => (limOf r).map fun l => ls ++ [l]
    rw [allLim_snoc rs r]
    cases limOf a <;> cases allLim rs <;> cases limOf r <;> rfl
theorem allLim_step {rs : List (List Nat × Nat × Nat)} {i : Nat} {r : List Nat × Nat × Nat} {l : Lim} {ls : List Lim} (h : allLim (rs.take i) = some ls) (hr : rs[i]? = some r) (hl : limOf r = some l) : allLim (rs.take (i + 1)) = some (ls ++ [l]) := by
  have : rs.take (i + 1) = rs.take i ++ [r] := by rw [List.take_add_one, hr]; rfl
  rw [this, allLim_snoc, h, hl]; rfl
theorem allLim_bad : ∀ {rs : List (List Nat × Nat × Nat)} {i : Nat} {r : List Nat × Nat × Nat}, rs[i]? = some r → limOf r = none → allLim rs = none
  | [], i, r, h, _ => by simp at h
  | a :: rs, 0, r, h, hl => by
    have : a = r := by simpa using h
    subst this
    show (limOf a).bind _ = none
    rw [hl]; rfl
  | a :: rs, i + 1, r, h, hl => by
    have := allLim_bad (rs := rs) (i := i) (r := r) (by simpa using h) hl
    show (limOf a).bind _ = none
    rw [this]
    cases limOf a <;> rfl
theorem allLim_len : ∀ {rs : List (List Nat × Nat × Nat)} {ls : List Lim}, allLim rs = some ls → ls.length = rs.length
  | [], ls, h => by cases h; rfl
  | a :: rs, ls, h => by
    have h : (limOf a).bind (fun l => (allLim rs).map fun ls => l :: ls) = some ls := h
    cases ha : limOf a with
    | none => rw [ha] at h; cases h
    | some l =>
      cases hb : allLim rs with
      | none => rw [ha, hb] at h; cases h
      | some ls' =>
        rw [ha, hb] at h
        have h : l :: ls' = ls := Option.some.inj h
        subst h
        simp [allLim_len hb]

theorem word_iff {n gl : List Nat} (h0 : gl ≠ []) (hs : gl.getLast? ≠ some 115) : (gl = wordOf n) ↔ (n = gl ∨ n = gl ++ [115]) := by
  unfold wordOf
  by_cases h : n.getLast? = some 115
  · rw [if_pos h]
    have hn : n = n.dropLast ++ [115] := by
      have hne : n ≠ [] := by intro e; rw [e] at h; cases h
      rw [List.getLast?_eq_some_getLast hne] at h
      have := List.dropLast_concat_getLast hne
      rw [Option.some.inj h] at this
      exact this.symm
    constructor
    · intro e; right; rw [e]; exact hn
    · rintro (e | e)
      · rw [e] at h; exact absurd h hs
      · rw [e]; simp
  · rw [if_neg h]
    constructor
    · intro e; exact .inl e.symm
    · rintro (e | e)
      · exact e.symm
      · rw [e] at h; simp at h
theorem gr_cps (g : Gr) : g.name.cps.toList ≠ [] ∧ g.name.cps.toList.getLast? ≠ some 115 := by cases g <;> decide +kernel
theorem str_ext {x y : PySem.Str} : x = y ↔ x.cps.toList = y.cps.toList := ⟨fun h => by rw [h], fun h => by cases x; cases y; exact congrArg _ (Array.toList_inj.mp h)⟩
theorem s_cps : (Str.ofString "s").cps.toList = [115] := by decide +kernel
theorem grIs_eq {g : Gr} {x : PySem.Str} {n : List Nat} (h : (Txt.lower x).cps.toList = n) : grIs g x = (g.name.cps.toList == wordOf n) := by
  unfold grIs
  have hw := word_iff (n := n) (gr_cps g).1 (gr_cps g).2
  rw [Bool.eq_iff_iff, Bool.or_eq_true, decide_eq_true_eq, decide_eq_true_eq, beq_iff_eq, hw, str_ext, str_ext, h, PySem.Str.cps_append, Array.toList_append, s_cps]
theorem let_ascii {c : Nat} (ho : okc c = true) (hl : letc c = true) : c < 128 := by
  have := ok_all (p := fun c => !(letc c) || decide (c < 128)) (by decide +kernel) ho
  rw [hl] at this
  simpa using this
theorem grOf_eq {u : PySem.Str} {b e : Nat} (hok : ∀ q, q < u.cps.size → okc (u.cps.getD q 0) = true) (he : e = b + rl letc u.cps b) : grOf (sub u b e) = grW ((seg u.cps b e).map lowc) := by
  have hseg : (sub u b e).cps.toList = seg u.cps b e := seg_extract _ _ _
  have hA : ∀ c ∈ (sub u b e).cps.toList, c < 128 := fun c hc => by
    rw [hseg] at hc
    exact let_ascii (seg_ok hok b e c hc) (seg_run he c hc)
  have hlow : (Txt.lower (sub u b e)).cps.toList = (seg u.cps b e).map lowc := by
    rw [lower_ascii hA]
    show (Array.map lo1 (sub u b e).cps).toList = _
    rw [Array.toList_map, hseg]
    rfl
  unfold grOf grW
  congr 1
  funext g
  exact grIs_eq hlow
theorem dig_all {t : Array Nat} {a b : Nat} (h : b = a + rl digc t a) : PySem.NumText.AllDigits (seg t a b) := fun c hc => by
  have := seg_run (P := digc) h c hc
  unfold digc at this
  simpa using this
/-- int(..) of a run of figures -/
theorem int_figs {u : PySem.Str} {a b : Nat} (hu : u.cps.size ≤ 400) (h : b = a + rl digc u.cps a) (hlt : a < b) (hb : b ≤ u.cps.size) : PySem.intText? (sub u a b) = some ((figs (seg u.cps a b) : Nat) : Int) := by
  have hseg : (sub u a b).cps.toList = seg u.cps a b := seg_extract _ _ _
  have hl : (sub u a b).length ≤ 4300 := by
    show (u.cps.extract a b).size ≤ 4300
    rw [Array.size_extract]; omega
  have := PySem.intText_digits (x := sub u a b) (by rw [hseg]; exact dig_all h) (by
    rw [hseg]
    intro e
    have h1 := seg_len (t := u.cps) (a := a) (b := b) (by omega) hb
    rw [e] at h1
    simp at h1; omega) hl
  rw [this, hseg]
  rfl
end Mine

end
section
set_option maxRecDepth 100000
set_option linter.unusedVariables false
namespace Mine
open PySem PySem.Sre

/-! ## the reader's step, test by test -/
def b1 (r : RS) (c : Nat) : Bool := digc c && decide (r.q < 2)
def b2 (r : RS) (c : Nat) : Bool := digc c && (r.q == 5 || r.q == 6)
def b3 (r : RS) (c : Nat) : Bool := blankc c && (r.q == 1 || r.q == 6 || r.q == 8)
def b4 (r : RS) (c : Nat) : Bool := blankc c && (r.q == 0 || r.q == 2 || r.q == 5 || r.q == 7 || r.q == 9)
def b5 (r : RS) (c : Nat) : Bool := lowc c == 112 && (r.q == 1 || r.q == 2)
def b6 (r : RS) (c : Nat) : Bool := lowc c == 101 && r.q == 3
def b7 (r : RS) (c : Nat) : Bool := lowc c == 114 && r.q == 4
def b8 (r : RS) (c : Nat) : Bool := lowc c == 47 && (r.q == 1 || r.q == 2)
def b9 (r : RS) (c : Nat) : Bool := letc c && (r.q == 5 || r.q == 6 || r.q == 7 || r.q == 8)
def b10 (r : RS) (c : Nat) : Bool := sepc c && decide (8 ≤ r.q)
theorem nx_b (r : RS) (c : Nat) : nx r.q c = if b1 r c then some 1 else if b2 r c then some 6 else if b3 r c then some (r.q + 1) else if b4 r c then some r.q else if b5 r c then some 3 else if b6 r c then some 4 else if b7 r c then some 5 else if b8 r c then some 5 else if b9 r c then some 8 else if b10 r c then some 0 else none := rfl
theorem sign_facts {c : Nat} (hc : okc c = true) : (blankc c = true → digc c = false) ∧ (lowc c = 112 ∨ lowc c = 101 ∨ lowc c = 114 ∨ lowc c = 47 → digc c = false ∧ blankc c = false ∧ sepc c = false) ∧ (letc c = true → digc c = false ∧ blankc c = false ∧ sepc c = false) ∧ (sepc c = true → digc c = false ∧ blankc c = false) := by
  have := ok_all (p := fun c => (!(blankc c) || !(digc c)) && (!(lowc c == 112 || lowc c == 101 || lowc c == 114 || lowc c == 47) || (!(digc c) && !(blankc c) && !(sepc c))) && (!(letc c) || (!(digc c) && !(blankc c) && !(sepc c))) && (!(sepc c) || (!(digc c) && !(blankc c)))) (by decide +kernel) hc
  simp only [Bool.and_eq_true, Bool.or_eq_true, Bool.not_eq_true', beq_iff_eq, Bool.or_eq_false_iff, beq_eq_false_iff_ne] at this
  obtain ⟨⟨⟨h1, h2⟩, h3⟩, h4⟩ := this
  refine ⟨fun h => ?_, fun h => ?_, fun h => ?_, fun h => ?_⟩
  · exact h1.resolve_left (by rw [h]; decide)
  · rcases h2 with h2 | h2
    · exfalso; omega
    · exact ⟨h2.1.1, h2.1.2, h2.2⟩
  · have := h3.resolve_left (by rw [h]; decide)
    exact ⟨this.1.1, this.1.2, this.2⟩
  · exact h4.resolve_left (by rw [h]; decide)
theorem step_1 {r : RS} {c : Nat} (h1 : b1 r c = true) : rstep r c = some { r with q := 1, amount := r.amount * 10 + (c - 48) } := by
  have hn := nx_b r c
  rw [h1, if_pos rfl] at hn
  unfold b1 at h1
  simp only [Bool.and_eq_true, decide_eq_true_eq] at h1
  unfold rstep
  simp only [hn, h1.1, if_true, h1.2]
theorem step_2 {r : RS} {c : Nat} (h1 : b1 r c = false) (h2 : b2 r c = true) : rstep r c = some { r with q := 6, many := r.many * 10 + (c - 48) } := by
  have hn := nx_b r c
  rw [h1, if_neg Bool.false_ne_true, h2, if_pos rfl] at hn
  unfold b2 at h2
  simp only [Bool.and_eq_true, Bool.or_eq_true, beq_iff_eq] at h2
  have hq : ¬ r.q < 2 := by omega
  unfold rstep
  simp only [hn, h2.1, if_true, hq, if_false]
theorem step_3 {r : RS} {c : Nat} (hc : okc c = true) (h1 : b1 r c = false) (h2 : b2 r c = false) (h3 : b3 r c = true) : rstep r c = some { r with q := r.q + 1 } := by
  have hn := nx_b r c
  rw [h1, if_neg Bool.false_ne_true, h2, if_neg Bool.false_ne_true, h3, if_pos rfl] at hn
  unfold b3 at h3
  simp only [Bool.and_eq_true] at h3
  have hd := (sign_facts hc).1 h3.1
  unfold rstep
  simp only [hn, h3.1, hd, if_true, Bool.false_eq_true, if_false]
theorem step_4 {r : RS} {c : Nat} (hc : okc c = true) (h1 : b1 r c = false) (h2 : b2 r c = false) (h3 : b3 r c = false) (h4 : b4 r c = true) : rstep r c = some r := by
  have hn := nx_b r c
  rw [h1, if_neg Bool.false_ne_true, h2, if_neg Bool.false_ne_true, h3, if_neg Bool.false_ne_true, h4, if_pos rfl] at hn
  unfold b4 at h4
  simp only [Bool.and_eq_true] at h4
  have hd := (sign_facts hc).1 h4.1
  unfold rstep
  simp only [hn, h4.1, hd, if_true, Bool.false_eq_true, if_false]
theorem rstep_one {r : RS} {c q' : Nat} (hn : nx r.q c = some q') (hf : digc c = false ∧ blankc c = false ∧ sepc c = false) (hq : ¬ 8 ≤ q') : rstep r c = some { r with q := q' } := by
  unfold rstep
  simp only [hn, hf.1, hf.2.1, hf.2.2, Bool.false_eq_true, if_false, hq]
section
variable {r : RS} {c : Nat} (hc : okc c = true) (h1 : b1 r c = false) (h2 : b2 r c = false) (h3 : b3 r c = false) (h4 : b4 r c = false)
include hc h1 h2 h3 h4
theorem step_5 (h5 : b5 r c = true) : rstep r c = some { r with q := 3 } := by
  have hn := nx_b r c
  simp only [h1, h2, h3, h4, h5, if_true, Bool.false_eq_true, if_false] at hn
  unfold b5 at h5
  simp only [Bool.and_eq_true, beq_iff_eq] at h5
  exact rstep_one hn ((sign_facts hc).2.1 (.inl h5.1)) (by omega)
theorem step_6 (h5 : b5 r c = false) (h6 : b6 r c = true) : rstep r c = some { r with q := 4 } := by
  have hn := nx_b r c
  simp only [h1, h2, h3, h4, h5, h6, if_true, Bool.false_eq_true, if_false] at hn
  unfold b6 at h6
  simp only [Bool.and_eq_true, beq_iff_eq] at h6
  exact rstep_one hn ((sign_facts hc).2.1 (.inr (.inl h6.1))) (by omega)
theorem step_7 (h5 : b5 r c = false) (h6 : b6 r c = false) (h7 : b7 r c = true) : rstep r c = some { r with q := 5 } := by
  have hn := nx_b r c
  simp only [h1, h2, h3, h4, h5, h6, h7, if_true, Bool.false_eq_true, if_false] at hn
  unfold b7 at h7
  simp only [Bool.and_eq_true, beq_iff_eq] at h7
  exact rstep_one hn ((sign_facts hc).2.1 (.inr (.inr (.inl h7.1)))) (by omega)
theorem step_8 (h5 : b5 r c = false) (h6 : b6 r c = false) (h7 : b7 r c = false) (h8 : b8 r c = true) : rstep r c = some { r with q := 5 } := by
  have hn := nx_b r c
  simp only [h1, h2, h3, h4, h5, h6, h7, h8, if_true, Bool.false_eq_true, if_false] at hn
  unfold b8 at h8
  simp only [Bool.and_eq_true, beq_iff_eq] at h8
  exact rstep_one hn ((sign_facts hc).2.1 (.inr (.inr (.inr h8.1)))) (by omega)
theorem step_9 (h5 : b5 r c = false) (h6 : b6 r c = false) (h7 : b7 r c = false) (h8 : b8 r c = false) (h9 : b9 r c = true) : rstep r c = some { r with q := 8, name := r.name ++ [lowc c] } := by
  have hn := nx_b r c
  simp only [h1, h2, h3, h4, h5, h6, h7, h8, h9, if_true, Bool.false_eq_true, if_false] at hn
  unfold b9 at h9
  simp only [Bool.and_eq_true] at h9
  have hf := (sign_facts hc).2.2.1 h9.1
  unfold rstep
  simp only [hn, hf.1, hf.2.1, hf.2.2, Bool.false_eq_true, if_false, Nat.le_refl, if_true]
theorem step_10 (h5 : b5 r c = false) (h6 : b6 r c = false) (h7 : b7 r c = false) (h8 : b8 r c = false) (h9 : b9 r c = false) (h10 : b10 r c = true) : rstep r c = some { rows := r.rows ++ [(r.name, r.amount, one r.many)], q := 0, amount := 0, many := 0, name := [] } := by
  have hn := nx_b r c
  simp only [h1, h2, h3, h4, h5, h6, h7, h8, h9, h10, if_true, Bool.false_eq_true, if_false] at hn
  unfold b10 at h10
  simp only [Bool.and_eq_true] at h10
  have hf := (sign_facts hc).2.2.2 h10.1
  unfold rstep
  simp only [hn, hf.1, hf.2, h10.1, Bool.false_eq_true, if_false, if_true]
theorem step_none (h5 : b5 r c = false) (h6 : b6 r c = false) (h7 : b7 r c = false) (h8 : b8 r c = false) (h9 : b9 r c = false) (h10 : b10 r c = false) : rstep r c = none := by
  have hn := nx_b r c
  simp only [h1, h2, h3, h4, h5, h6, h7, h8, h9, h10, Bool.false_eq_true, if_false] at hn
  unfold rstep
  simp only [hn]
end
end Mine

end
section
set_option maxRecDepth 100000
set_option linter.unusedVariables false
namespace Mine
open PySem PySem.Sre

/-! ## how long the numbers of a text are -/
def decL (n : Nat) : List Nat := (Nat.toDigits 10 n).map Char.toNat
def decN (n : Nat) : Nat := (decL n).length
theorem decL_lt {n : Nat} (h : n < 10) : decL n = [n + 48] := by
  have : ∀ n : Fin 10, decL n.val = [n.val + 48] := by decide +kernel
  exact this ⟨n, h⟩
theorem decL_ge {n : Nat} (h : 10 ≤ n) : decL n = decL (n / 10) ++ [n % 10 + 48] := by
  unfold decL
  rw [Nat.toDigits_of_base_le (by decide) h, List.map_append]
  congr 1
  have : ∀ k : Fin 10, List.map Char.toNat [Nat.digitChar k.val] = [k.val + 48] := by decide +kernel
  exact this ⟨n % 10, Nat.mod_lt _ (by decide)⟩
theorem decN_pos (n : Nat) : 1 ≤ decN n := by
  unfold decN
  by_cases h : n < 10
  · rw [decL_lt h]; exact Nat.le_refl _
  · rw [decL_ge (by omega), List.length_append]; exact Nat.le_add_left _ _
theorem decN_zero : decN 0 = 1 := by unfold decN; rw [decL_lt (by decide)]; rfl
theorem decN_one (k : Nat) : decN (one k) = decN k := by
  unfold one
  split
  · rename_i h; subst h; unfold decN; rw [decL_lt (by decide), decL_lt (by decide)]; rfl
  · rfl
theorem decN_dig {d : Nat} (h : d ≤ 9) : decN d = 1 := by unfold decN; rw [decL_lt (by omega)]; rfl
theorem decN_grow {a d : Nat} (h : d ≤ 9) : decN (a * 10 + d) ≤ decN a + 1 := by
  by_cases ha : a = 0
  · subst ha
    rw [show 0 * 10 + d = d by omega, decN_dig h]; omega
  · unfold decN
    rw [decL_ge (n := a * 10 + d) (by omega), List.length_append]
    have : (a * 10 + d) / 10 = a := by omega
    rw [this]; exact Nat.le_refl _
theorem decN_pow {n : Nat} : ∀ {k : Nat}, decN n ≤ k → n < 10 ^ k := by
  intro k
  induction k generalizing n with
  | zero => intro h; have := decN_pos n; omega
  | succ k ih =>
    intro h
    by_cases hn : n < 10
    · have : 10 ^ 1 ≤ 10 ^ (k + 1) := Nat.pow_le_pow_right (by decide) (by omega)
      omega
    · unfold decN at h
      rw [decL_ge (by omega), List.length_append] at h
      have := ih (n := n / 10) (by unfold decN; simp at h; omega)
      rw [Nat.pow_succ]
      omega
theorem decL_dig : ∀ (k : Nat) {n : Nat}, n < k → allP digc (decL n)
  | 0, n, h => absurd h (Nat.not_lt_zero _)
  | k + 1, n, h => by
    by_cases hn : n < 10
    · rw [decL_lt hn]
      intro c hc
      rw [List.mem_singleton.mp hc]
      unfold digc; simp; omega
    · rw [decL_ge (by omega)]
      intro c hc
      rcases List.mem_append.mp hc with hc | hc
      · exact decL_dig k (n := n / 10) (by omega) c hc
      · rw [List.mem_singleton.mp hc]
        unfold digc; simp; omega
theorem dig_okc {c : Nat} (h : digc c = true) : okc c = true := by
  unfold digc at h
  simp at h
  unfold okc
  have h1 : decide (c < 128) = true := by simp; omega
  have h2 : (c != 58) = true := by simp; omega
  rw [h1, h2]; rfl
theorem decL_all (n : Nat) : allP digc (decL n) := decL_dig (n + 1) (Nat.lt_succ_self _)
theorem decL_ok (n : Nat) : okl (decL n) := fun c hc => dig_okc (decL_all n c hc)
theorem decL_ne (n : Nat) : decL n ≠ [] := fun e => by
  have := decN_pos n
  unfold decN at this
  rw [e] at this
  simp at this
theorem figs_dec : ∀ (k : Nat) {n : Nat}, n < k → figs (decL n) = n
  | 0, n, h => absurd h (Nat.not_lt_zero _)
  | k + 1, n, h => by
    by_cases hn : n < 10
    · rw [decL_lt hn]
      show 0 * 10 + (n + 48 - 48) = n
      omega
    · rw [decL_ge (by omega)]
      unfold figs
      rw [List.foldl_append]
      have := figs_dec k (n := n / 10) (by omega)
      unfold figs at this
      rw [this]
      show n / 10 * 10 + (n % 10 + 48 - 48) = n
      omega
theorem figs_decL (n : Nat) : figs (decL n) = n := figs_dec (n + 1) (Nat.lt_succ_self _)

def rowCost (r : List Nat × Nat × Nat) : Nat := decN r.2.1 + decN r.2.2 + 2
def rowsCost (rs : List (List Nat × Nat × Nat)) : Nat := (rs.map rowCost).sum
def pot (r : RS) : Nat := if r.q = 0 then 0 else if r.q ≤ 2 then decN r.amount else if r.q = 3 then decN r.amount + 1 else if r.q = 4 then decN r.amount + 2 else if r.q = 5 then decN r.amount + 1 else if r.q ≤ 7 then decN r.amount + decN r.many + 1 else decN r.amount + decN r.many + 1
structure RInv (r : RS) : Prop where
  z0 : r.q = 0 → r.amount = 0
  z5 : r.q ≤ 5 → r.many = 0
  rows : ∀ x ∈ r.rows, 1 ≤ x.2.2
  q9 : r.q ≤ 9
theorem one_pos (k : Nat) : 1 ≤ one k := by unfold one; split <;> omega
theorem pot_step {r r' : RS} {c : Nat} (hc : okc c = true) (I : RInv r) (h : rstep r c = some r') : RInv r' ∧ rowsCost r'.rows + pot r' ≤ rowsCost r.rows + pot r + 1 := by
  obtain ⟨z0, z5, hrows, q9⟩ := I
  obtain ⟨rows, q, a, mny, nm⟩ := r
  dsimp only at z0 z5 hrows q9
  have hpa := decN_pos a
  have hpm := decN_pos mny
  have hd9 : digc c = true → c - 48 ≤ 9 := fun h => by unfold digc at h; simp at h; omega
  cases h1 : b1 ⟨rows, q, a, mny, nm⟩ c with
  | true =>
    rw [step_1 h1] at h
    obtain rfl := Option.some.inj h
    unfold b1 at h1
    simp only [Bool.and_eq_true, decide_eq_true_eq] at h1
    have h9 := hd9 h1.1
    have hg := decN_grow (a := a) h9
    have hg0 : q = 0 → decN (a * 10 + (c - 48)) = 1 := fun e => by
      rw [z0 e, show 0 * 10 + (c - 48) = c - 48 by omega, decN_dig h9]
    refine ⟨⟨fun e => (by cases e), fun _ => z5 (by omega), hrows, (by dsimp only; omega)⟩, ?_⟩
    unfold pot
    dsimp only
    have : q = 0 ∨ q = 1 := by omega
    rcases this with rfl | rfl
    · have := hg0 rfl
      simp; omega
    · simp; omega
  | false =>
  cases h2 : b2 ⟨rows, q, a, mny, nm⟩ c with
  | true =>
    rw [step_2 h1 h2] at h
    obtain rfl := Option.some.inj h
    unfold b2 at h2
    simp only [Bool.and_eq_true, Bool.or_eq_true, beq_iff_eq] at h2
    have h9 := hd9 h2.1
    have hg := decN_grow (a := mny) h9
    have hg0 : q = 5 → decN (mny * 10 + (c - 48)) = 1 := fun e => by
      rw [z5 (by omega), show 0 * 10 + (c - 48) = c - 48 by omega, decN_dig h9]
    refine ⟨⟨fun e => (by cases e), fun e => (by simp at e), hrows, (by dsimp only; omega)⟩, ?_⟩
    unfold pot
    dsimp only
    rcases h2.2 with rfl | rfl
    · have := hg0 rfl
      simp; omega
    · simp; omega
  | false =>
  cases h3 : b3 ⟨rows, q, a, mny, nm⟩ c with
  | true =>
    rw [step_3 hc h1 h2 h3] at h
    obtain rfl := Option.some.inj h
    unfold b3 at h3
    simp only [Bool.and_eq_true, Bool.or_eq_true, beq_iff_eq] at h3
    refine ⟨⟨fun e => (by simp at e), fun e => (by dsimp only at e ⊢; exact z5 (by omega)), hrows, by dsimp only; omega⟩, ?_⟩
    unfold pot
    dsimp only
    rcases h3.2 with (rfl | rfl) | rfl <;> simp
  | false =>
  cases h4 : b4 ⟨rows, q, a, mny, nm⟩ c with
  | true =>
    rw [step_4 hc h1 h2 h3 h4] at h
    obtain rfl := Option.some.inj h
    exact ⟨⟨z0, z5, hrows, q9⟩, by omega⟩
  | false =>
  cases h5 : b5 ⟨rows, q, a, mny, nm⟩ c with
  | true =>
    rw [step_5 hc h1 h2 h3 h4 h5] at h
    obtain rfl := Option.some.inj h
    unfold b5 at h5
    simp only [Bool.and_eq_true, Bool.or_eq_true, beq_iff_eq] at h5
    refine ⟨⟨fun e => (by cases e), fun e => z5 (by omega), hrows, (by dsimp only; omega)⟩, ?_⟩
    unfold pot
    dsimp only
    rcases h5.2 with rfl | rfl <;> simp <;> omega
  | false =>
  cases h6 : b6 ⟨rows, q, a, mny, nm⟩ c with
  | true =>
    rw [step_6 hc h1 h2 h3 h4 h5 h6] at h
    obtain rfl := Option.some.inj h
    unfold b6 at h6
    simp only [Bool.and_eq_true, Bool.or_eq_true, beq_iff_eq] at h6
    refine ⟨⟨fun e => (by cases e), fun e => z5 (by omega), hrows, (by dsimp only; omega)⟩, ?_⟩
    unfold pot
    dsimp only
    obtain ⟨_, rfl⟩ := h6
    simp; omega
  | false =>
  cases h7 : b7 ⟨rows, q, a, mny, nm⟩ c with
  | true =>
    rw [step_7 hc h1 h2 h3 h4 h5 h6 h7] at h
    obtain rfl := Option.some.inj h
    unfold b7 at h7
    simp only [Bool.and_eq_true, Bool.or_eq_true, beq_iff_eq] at h7
    refine ⟨⟨fun e => (by cases e), fun e => z5 (by omega), hrows, (by dsimp only; omega)⟩, ?_⟩
    unfold pot
    dsimp only
    obtain ⟨_, rfl⟩ := h7
    simp; omega
  | false =>
  cases h8 : b8 ⟨rows, q, a, mny, nm⟩ c with
  | true =>
    rw [step_8 hc h1 h2 h3 h4 h5 h6 h7 h8] at h
    obtain rfl := Option.some.inj h
    unfold b8 at h8
    simp only [Bool.and_eq_true, Bool.or_eq_true, beq_iff_eq] at h8
    refine ⟨⟨fun e => (by cases e), fun e => z5 (by omega), hrows, (by dsimp only; omega)⟩, ?_⟩
    unfold pot
    dsimp only
    rcases h8.2 with rfl | rfl <;> simp
    all_goals omega
  | false =>
  cases h9 : b9 ⟨rows, q, a, mny, nm⟩ c with
  | true =>
    rw [step_9 hc h1 h2 h3 h4 h5 h6 h7 h8 h9] at h
    obtain rfl := Option.some.inj h
    unfold b9 at h9
    simp only [Bool.and_eq_true, Bool.or_eq_true, beq_iff_eq] at h9
    refine ⟨⟨fun e => (by cases e), fun e => (by simp at e), hrows, (by dsimp only; omega)⟩, ?_⟩
    unfold pot
    dsimp only
    rcases h9.2 with ((rfl | rfl) | rfl) | rfl
    · have := z5 (by decide)
      subst this
      rw [decN_zero]
      simp; omega
    · simp
    · simp
    · simp
  | false =>
  cases h10 : b10 ⟨rows, q, a, mny, nm⟩ c with
  | true =>
    rw [step_10 hc h1 h2 h3 h4 h5 h6 h7 h8 h9 h10] at h
    obtain rfl := Option.some.inj h
    unfold b10 at h10
    simp only [Bool.and_eq_true, decide_eq_true_eq] at h10
    refine ⟨⟨fun _ => rfl, fun _ => rfl, fun x hx => ?_, (by dsimp only; omega)⟩, ?_⟩
    · rcases List.mem_append.mp hx with hx | hx
      · exact hrows x hx
      · rw [List.mem_singleton.mp hx]; exact one_pos _
    unfold pot rowsCost
    dsimp only
    rw [List.map_append, List.sum_append]
    have h8' : 8 ≤ q := h10.2
    have e : rowCost (nm, a, one mny) = decN a + decN mny + 2 := by unfold rowCost; dsimp only; rw [decN_one]
    rw [List.map_cons, List.map_nil, e]
    rw [if_pos rfl, if_neg (by omega), if_neg (by omega), if_neg (by omega), if_neg (by omega), if_neg (by omega), if_neg (by omega)]
    simp; omega
  | false =>
    rw [step_none hc h1 h2 h3 h4 h5 h6 h7 h8 h9 h10] at h
    cases h
theorem pot_all : ∀ (l : List Nat) {r r' : RS}, okl l → RInv r → rdL r l = some r' → RInv r' ∧ rowsCost r'.rows + pot r' ≤ rowsCost r.rows + pot r + l.length
  | [], r, r', _, I, h => by
    obtain rfl := Option.some.inj h
    exact ⟨I, Nat.le_refl _⟩
  | c :: l, r, r', ho, I, h => by
    have h : (match rstep r c with | some r' => rdL r' l | none => none) = some r' := h
    cases hs : rstep r c with
    | none => rw [hs] at h; cases h
    | some r1 =>
      rw [hs] at h
      obtain ⟨I1, k1⟩ := pot_step (ho c (.head _)) I hs
      obtain ⟨I2, k2⟩ := pot_all l (fun x hx => ho x (.tail _ hx)) I1 h
      refine ⟨I2, ?_⟩
      rw [List.length_cons]; omega
theorem rows_cost {x : PySem.Str} {rs : List (List Nat × Nat × Nat)} (ho : okl x.cps.toList) (h : rowsOf x = some rs) : rowsCost rs ≤ x.cps.size + 1 ∧ ∀ r ∈ rs, 1 ≤ r.2.2 := by
  unfold rowsOf at h
  cases hr : rdL ⟨[], 0, 0, 0, []⟩ x.cps.toList with
  | none => rw [hr] at h; cases h
  | some r =>
    rw [hr] at h
    have h : (if 8 ≤ r.q then some (r.rows ++ [(r.name, r.amount, one r.many)]) else none) = some rs := h
    by_cases hq : 8 ≤ r.q
    · rw [if_pos hq] at h
      obtain rfl := Option.some.inj h
      obtain ⟨I, k⟩ := pot_all x.cps.toList ho ⟨fun _ => rfl, fun _ => rfl, fun x hx => (by cases hx), (by decide)⟩ hr
      constructor
      · have e : rowCost (r.name, r.amount, one r.many) = decN r.amount + decN r.many + 2 := by unfold rowCost; dsimp only; rw [decN_one]
        have hp : pot r = decN r.amount + decN r.many + 1 := by
          unfold pot
          rw [if_neg (by omega), if_neg (by omega), if_neg (by omega), if_neg (by omega), if_neg (by omega), if_neg (by omega)]
        rw [hp, Array.length_toList] at k
        unfold rowsCost at k ⊢
        rw [List.map_append, List.sum_append, List.map_cons, List.map_nil, e]
        have hz : pot ⟨[], 0, 0, 0, []⟩ = 0 := rfl
        rw [hz] at k
        simp at k ⊢
        omega
      · intro y hy
        rcases List.mem_append.mp hy with hy | hy
        · exact I.rows y hy
        · rw [List.mem_singleton.mp hy]; exact one_pos _
    · rw [if_neg hq] at h; cases h
end Mine

end
section
set_option maxRecDepth 100000
set_option linter.unusedVariables false
namespace Mine
open PySem PySem.Sre PyProof.Rows

/-! ## what the items say of themselves, joined and read back -/
def reprL (l : Lim) : List Nat := decL l.2.1 ++ ([32, 112, 101, 114, 32] ++ (decL l.2.2 ++ (32 :: l.1.name.cps.toList)))
def joinL : List Lim → List Nat
  | [] => []
  | [l] => reprL l
  | l :: l' :: r => reprL l ++ (59 :: 32 :: joinL (l' :: r))
def toRow (l : Lim) : List Nat × Nat × Nat := (l.1.name.cps.toList, l.2.1, l.2.2)
theorem gr_lets (g : Gr) : (g.name.cps.toList.all fun c => okc c && letc c && (lowc c == c)) = true := by cases g <;> decide +kernel
theorem gr_let {g : Gr} {c : Nat} (h : c ∈ g.name.cps.toList) : okc c = true ∧ letc c = true ∧ lowc c = c := by
  have := List.all_eq_true.mp (gr_lets g) c h
  simp only [Bool.and_eq_true, beq_iff_eq] at this
  exact ⟨this.1.1, this.1.2, this.2⟩
theorem gr_low (g : Gr) : g.name.cps.toList.map lowc = g.name.cps.toList := by
  have : ∀ l : List Nat, (∀ c ∈ l, lowc c = c) → l.map lowc = l := fun l h => by
    induction l with
    | nil => rfl
    | cons c l ih =>
      rw [List.map_cons, h c (.head _), ih fun d hd => h d (.tail _ hd)]
  exact this _ fun c hc => (gr_let hc).2.2
theorem gr_len (g : Gr) : g.name.cps.toList.length ≤ 6 := by cases g <;> decide +kernel
theorem rd_repr (l : Lim) (rows : List (List Nat × Nat × Nat)) : rdL ⟨rows, 0, 0, 0, []⟩ (reprL l) = some ⟨rows, 8, l.2.1, l.2.2, l.1.name.cps.toList⟩ := by
  unfold reprL
  rw [rd_bind (rd_figs1 _ (decL_ne _) (decL_ok _) (decL_all _)), figs_decL]
  rw [rd_bind (l := [32, 112, 101, 114, 32]) (r := ⟨rows, 1, l.2.1, 0, []⟩) (r' := ⟨rows, 5, l.2.1, 0, []⟩) rfl]
  rw [rd_bind (rd_manys1 _ (decL_ok _) (decL_all _)), if_neg (decL_ne _), figs_decL]
  have e : rdL ⟨rows, 6, l.2.1, l.2.2, []⟩ (32 :: l.1.name.cps.toList) = rdL ⟨rows, 7, l.2.1, l.2.2, []⟩ l.1.name.cps.toList := rfl
  rw [e, rd_lets1 _ (gr_cps l.1).1 (.inr (.inr rfl)) (fun c hc => (gr_let hc).1) (fun c hc => (gr_let hc).2.1), gr_low]
theorem one_of {k : Nat} (h : 1 ≤ k) : one k = k := by unfold one; rw [if_neg (by omega)]
theorem rd_step {r r' : RS} {c : Nat} {l : List Nat} (h : rstep r c = some r') : rdL r (c :: l) = rdL r' l := by
  show (match rstep r c with | some r' => rdL r' l | none => none) = _
  rw [h]
theorem rd_join : ∀ (r : List Lim) (l : Lim) (rows : List (List Nat × Nat × Nat)), (∀ x ∈ l :: r, 1 ≤ x.2.2) → ∃ r', rdL ⟨rows, 0, 0, 0, []⟩ (joinL (l :: r)) = some r' ∧ 8 ≤ r'.q ∧ r'.rows ++ [(r'.name, r'.amount, one r'.many)] = rows ++ (l :: r).map toRow
  | [], l, rows, h => by
    refine ⟨_, rd_repr l rows, Nat.le_refl 8, ?_⟩
    dsimp only
    rw [one_of (h l (.head _))]
    rfl
  | l' :: r, l, rows, h => by
    obtain ⟨r', h1, h2, h3⟩ := rd_join r l' (rows ++ [toRow l]) fun x hx => h x (.tail _ hx)
    refine ⟨r', ?_, h2, ?_⟩
    · show rdL _ (reprL l ++ (59 :: 32 :: joinL (l' :: r))) = _
      rw [rd_bind (rd_repr l rows)]
      rw [rd_step (rd_sep (by decide) (by decide) (Nat.le_refl 8)), one_of (h l (.head _))]
      exact (rd_step (rd_blank (c := 32) (q := 0) (q' := 0) (by decide) (by decide) (by decide +kernel))).trans h1
    · rw [h3]; simp
theorem rowsOf_join {y : PySem.Str} {l : Lim} {r : List Lim} (hy : y.cps.toList = joinL (l :: r)) (h : ∀ x ∈ l :: r, 1 ≤ x.2.2) : rowsOf y = some ((l :: r).map toRow) := by
  obtain ⟨r', h1, h2, h3⟩ := rd_join r l [] h
  unfold rowsOf
  rw [hy, h1]
  show (if 8 ≤ r'.q then _ else _) = _
  rw [if_pos h2, h3]
  rfl
theorem grW_name (g : Gr) : grW g.name.cps.toList = some g := by cases g <;> kernel_rfl
theorem limOf_row (l : Lim) : limOf (toRow l) = some l := by
  show (grW l.1.name.cps.toList).map _ = _
  rw [grW_name]; rfl
theorem allLim_rows : ∀ ls : List Lim, allLim (ls.map toRow) = some ls
  | [] => rfl
  | l :: ls => by
    show (limOf (toRow l)).bind (fun l => (allLim (ls.map toRow)).map fun ls => l :: ls) = _
    rw [limOf_row, allLim_rows ls]; rfl
theorem meant_join {y : PySem.Str} {ls : List Lim} (hn : ls ≠ []) (hy : y.cps.toList = joinL ls) (h : ∀ x ∈ ls, 1 ≤ x.2.2) : meant y = some ls := by
  cases ls with
  | nil => exact absurd rfl hn
  | cons l r =>
    unfold meant
    rw [rowsOf_join hy h]
    exact allLim_rows (l :: r)
theorem reprL_ok (l : Lim) : okl (reprL l) := fun c hc => by
  unfold reprL at hc
  rcases List.mem_append.mp hc with hc | hc
  · exact decL_ok _ c hc
  · rcases List.mem_append.mp hc with hc | hc
    · have : ∀ c ∈ [32, 112, 101, 114, 32], okc c = true := by decide +kernel
      exact this c hc
    · rcases List.mem_append.mp hc with hc | hc
      · exact decL_ok _ c hc
      · rcases List.mem_cons.mp hc with rfl | hc
        · decide
        · exact (gr_let hc).1
theorem joinL_ok : ∀ ls : List Lim, okl (joinL ls)
  | [], c, hc => by cases hc
  | [l], c, hc => reprL_ok l c hc
  | l :: l' :: r, c, hc => by
    rcases List.mem_append.mp hc with hc | hc
    · exact reprL_ok l c hc
    · rcases List.mem_cons.mp hc with rfl | hc
      · decide
      · rcases List.mem_cons.mp hc with rfl | hc
        · decide
        · exact joinL_ok (l' :: r) c hc
theorem reprL_len (l : Lim) : (reprL l).length + 2 ≤ rowCost (toRow l) + 12 := by
  unfold reprL rowCost toRow decN
  have := gr_len l.1
  simp only [List.length_append, List.length_cons, List.length_nil]
  omega
theorem joinL_len : ∀ ls : List Lim, (joinL ls).length ≤ (ls.map fun l => rowCost (toRow l) + 12).sum
  | [] => Nat.zero_le _
  | [l] => by
    have := reprL_len l
    show (reprL l).length ≤ _
    rw [List.map_cons, List.map_nil, List.sum_cons, List.sum_nil]
    omega
  | l :: l' :: r => by
    have := reprL_len l
    have h := joinL_len (l' :: r)
    show (reprL l ++ (59 :: 32 :: joinL (l' :: r))).length ≤ _
    rw [List.map_cons, List.sum_cons, List.length_append, List.length_cons, List.length_cons]
    omega
theorem sum_more (f : Lim → Nat) (k : Nat) : ∀ ls : List Lim, (ls.map fun l => f l + k).sum = (ls.map f).sum + k * ls.length
  | [] => rfl
  | l :: ls => by
    rw [List.map_cons, List.sum_cons, List.map_cons, List.sum_cons, sum_more f k ls, List.length_cons, Nat.mul_succ]
    omega
theorem sum_each (f : Lim → Nat) : ∀ {ls : List Lim} {l : Lim}, l ∈ ls → f l ≤ (ls.map f).sum
  | _ :: ls, l, .head _ => by rw [List.map_cons, List.sum_cons]; exact Nat.le_add_right _ _
  | x :: ls, l, .tail _ h => by
    rw [List.map_cons, List.sum_cons]
    exact Nat.le_trans (sum_each f h) (Nat.le_add_left _ _)
theorem sum_count : ∀ ls : List Lim, 4 * ls.length ≤ (ls.map fun l => rowCost (toRow l)).sum
  | [] => Nat.zero_le _
  | l :: ls => by
    have h := sum_count ls
    have h1 := decN_pos l.2.1
    have h2 := decN_pos l.2.2
    have e : rowCost (toRow l) = decN l.2.1 + decN l.2.2 + 2 := rfl
    rw [List.map_cons, List.sum_cons, List.length_cons, e]
    omega
theorem allLim_cost : ∀ {rs : List (List Nat × Nat × Nat)} {ls : List Lim}, allLim rs = some ls → (∀ r ∈ rs, 1 ≤ r.2.2) → (ls.map fun l => rowCost (toRow l)).sum = rowsCost rs ∧ ∀ l ∈ ls, 1 ≤ l.2.2
  | [], ls, h, _ => by
    cases h
    exact ⟨rfl, fun l hl => by cases hl⟩
  | r :: rs, ls, h, h1 => by
    have h : (limOf r).bind (fun l => (allLim rs).map fun ls => l :: ls) = some ls := h
    cases ha : limOf r with
    | none => rw [ha] at h; cases h
    | some l =>
      cases hb : allLim rs with
      | none => rw [ha, hb] at h; cases h
      | some ls' =>
        rw [ha, hb] at h
        have h : l :: ls' = ls := Option.some.inj h
        subst h
        obtain ⟨k1, k2⟩ := allLim_cost hb fun x hx => h1 x (.tail _ hx)
        have e : l.2 = r.2 := by
          unfold limOf at ha
          obtain ⟨g, hg, rfl⟩ := Option.map_eq_some_iff.mp ha
          rfl
        constructor
        · rw [List.map_cons, List.sum_cons, k1]
          unfold rowsCost
          rw [List.map_cons, List.sum_cons]
          congr 1
          unfold rowCost toRow
          rw [e]
        · intro x hx
          rcases List.mem_cons.mp hx with rfl | hx
          · rw [e]; exact h1 r (.head _)
          · exact k2 x hx
theorem meant_cost {x : PySem.Str} {ls : List Lim} (ho : okl x.cps.toList) (h : meant x = some ls) : (ls.map fun l => rowCost (toRow l)).sum ≤ x.cps.size + 1 ∧ ∀ l ∈ ls, 1 ≤ l.2.2 := by
  unfold meant at h
  obtain ⟨rs, h1, h2⟩ := Option.bind_eq_some_iff.mp h
  obtain ⟨k1, k2⟩ := rows_cost ho h1
  obtain ⟨k3, k4⟩ := allLim_cost h2 k2
  exact ⟨by rw [k3]; exact k1, k4⟩
structure Short (ls : List Lim) : Prop where
  cost : (ls.map fun l => rowCost (toRow l)).sum ≤ 91
  pos : ∀ l ∈ ls, 1 ≤ l.2.2
theorem Short.of {x : PySem.Str} {ls : List Lim} (ho : okl x.cps.toList) (hx : x.cps.size ≤ 90) (h : meant x = some ls) : Short ls := by
  obtain ⟨h1, h2⟩ := meant_cost ho h
  exact ⟨by omega, h2⟩
theorem Short.len {ls : List Lim} (h : Short ls) : ls.length ≤ 22 := by
  have := sum_count ls
  have := h.cost
  omega
theorem Short.small {ls : List Lim} (h : Short ls) {l : Lim} (hl : l ∈ ls) : l.2.1 < 10 ^ 200 ∧ l.2.2 < 10 ^ 200 := by
  have h1 := sum_each (fun l => rowCost (toRow l)) hl
  have h2 := h.cost
  have e : rowCost (toRow l) = decN l.2.1 + decN l.2.2 + 2 := rfl
  have h1 : rowCost (toRow l) ≤ _ := h1
  rw [e] at h1
  exact ⟨decN_pow (by omega), decN_pow (by omega)⟩
theorem Short.perm {ls ls' : List Lim} (h : Short ls) (p : ls'.Perm ls) : Short ls' := by
  refine ⟨?_, fun l hl => h.pos l (p.mem_iff.mp hl)⟩
  rw [(p.map fun l => rowCost (toRow l)).sum_nat]
  exact h.cost
theorem Short.join {ls : List Lim} (h : Short ls) (hn : ls ≠ []) {y : PySem.Str} (hy : y.cps.toList = joinL ls) : y.cps.size ≤ 400 ∧ okl y.cps.toList ∧ meant y = some ls := by
  refine ⟨?_, by rw [hy]; exact joinL_ok ls, meant_join hn hy h.pos⟩
  rw [← Array.length_toList, hy]
  have h1 := joinL_len ls
  rw [sum_more] at h1
  have h2 := h.cost
  have h3 := h.len
  omega
end Mine

end
section
open PySem PySem.W PyProof.Rows
set_option maxRecDepth 100000
set_option linter.unusedVariables false
namespace Mine

/-- a call has raised: what stood in g outside the frames stands yet -/
def RaisedC (base g : Heap) (l : List Env) (e : Addr) (cls c2 : Value) (h : Heap) : Prop :=
  ∃ Bs, base.StaysIn Bs ∧ (∀ b o, g.get? b = some o → b ∉ l.filterMap (·.frame) → Bs.get? b = some o) ∧ FlC Bs l e cls c2 .none h ∧ g.UpToSlots h

section
variable {M : Model} {A : Around} {E : Value → Shared → Prop} {s' : Shared} {base g g₂ h : Heap} {outer : List Env} {L a e : Addr} {m : PySem.Str → Option Value} {name : PySem.Str} {scope : Scope} {cd cls c2 : Value} {Q : Unit → Shared → Prop}

theorem leave_new (K : Below A base outer g) (F : Fr g L h m) (x : NewC h s'.heap e cls c2)
    (hQ : ∀ h', RaisedC base g outer e cls c2 h' → Q () { s' with heap := h' }) (hk : scope.kind = .function := by rfl) :
    wpAny M (A.deeper (envOf name scope L a cd)) (leaving (envOf name scope L a cd) (.ref e)) Q E s' := by
  have K' := K.push (name := name) (a := a) (cd := cd) F hk
  have hin : ∀ env ∈ (envOf name scope L a cd :: outer), ∀ b, env.frame = some b → b ∈ (envOf name scope L a cd :: outer).filterMap (·.frame) := fun env he b hb => List.mem_filterMap.mpr ⟨env, he, hb⟩
  have st : base.StaysIn (hideAll h ((envOf name scope L a cd :: outer).filterMap (·.frame))) := fun b o q => hideAll_get _ (K'.stays b o q) fun hm => by
    rw [(K'.frames.mem hm).1] at q; cases q
  obtain ⟨oe, vs, he, hc, hd, h1, h2⟩ := x.there
  subst hc
  refine leaveC_first (base := hideAll h ((envOf name scope L a cd :: outer).filterMap (·.frame))) K'.stack ((funFrames_hide K'.frames hin).of_keeps fun b o hb _ => ⟨o, x.keeps b o hb, rfl⟩) rfl he (fun b o q => x.keeps b o (of_hideAll _ q)) ?_ hd h1 h2 fun h' fl u => hQ h' ⟨_, st, fun b o hb hn => hideAll_get _ (F.keep b o hb) ?_, fl, (Heap.UpToSlots.of_keeps F.keep).trans ((Heap.UpToSlots.of_keeps x.keeps).trans u)⟩
  · cases q : (hideAll h ((envOf name scope L a cd :: outer).filterMap (·.frame))).get? e with
    | none => rfl
    | some o => have := of_hideAll _ q; rw [x.new] at this; cases this
  · intro hm
    obtain ⟨env, he', hf⟩ := List.mem_filterMap.mp hm
    rcases List.mem_cons.mp he' with rfl | he'
    · have : L = b := Option.some.inj hf
      subst this
      have := (Nat.not_lt.mpr F.above) (Heap.lt_size hb)
      exact this
    · exact hn (List.mem_filterMap.mpr ⟨env, he', hf⟩)

theorem leave_next (K : Below A base outer g) (F : Fr g L g₂ m) (R : RaisedC base g₂ (envOf name scope L a cd :: outer) e cls c2 s'.heap)
    (hQ : ∀ h', RaisedC base g outer e cls c2 h' → Q () { s' with heap := h' }) :
    wpAny M (A.deeper (envOf name scope L a cd)) (leaving (envOf name scope L a cd) (.ref e)) Q E s' := by
  obtain ⟨Bs, st, old, fl, u⟩ := R
  refine leaveC_on (Around.frames_deeper K.stack) rfl fl fun h' fl' u' => hQ h' ⟨Bs, st, fun b o hb hn => old b o (F.keep b o hb) fun hm => ?_, fl', (Heap.UpToSlots.of_keeps F.keep).trans (u.trans u')⟩
  obtain ⟨env, he', hf⟩ := List.mem_filterMap.mp hm
  rcases List.mem_cons.mp he' with rfl | he'
  · have : L = b := Option.some.inj hf
    subst this
    exact (Nat.not_lt.mpr F.above) (Heap.lt_size hb)
  · exact hn (List.mem_filterMap.mpr ⟨env, he', hf⟩)
end
end Mine

end
section
open PySem PySem.W PyProof.Rows
set_option maxRecDepth 100000
set_option linter.unusedVariables false
namespace Mine

def Hold (P : Prop) : Prop := P
theorem hold {P : Prop} (h : Hold P) : P := h
theorem news_keeps {h₀ h h' : Heap} {L : Addr} {news : List (Addr × Obj)} (N : News h₀ L h news) (k : ∀ b o, h.get? b = some o → h'.get? b = some o) : News h₀ L h' news := fun p hp => ⟨k _ _ (N p hp).1, (N p hp).2⟩
def viewO : Obj := { cls := .type "dict_values", data := .fields #[.ref 338] }
def iterO (i : Nat) : Obj := { cls := .type "dict_valueiterator", data := .fields #[.ref 338, .int (i : Nat) 0, .int ((6 : Nat) : Int) 0, .int ((6 : Nat) : Int) 0] }
theorem nodict338 {w : World} {h : Heap} (X : (hd.heap_39 w.params).In h) : ∃ o, h.get? 338 = some o ∧ o.cls = .type "dict" ∧ o.dict = none := by
  have hl : ∃ es, (hd.heap_39 w.params).lookup 338 = some ⟨.type "dict", none, .dict es 6, #[]⟩ := ⟨_, rfl⟩
  obtain ⟨es, hl⟩ := hl
  exact ⟨_, X _ _ hl, rfl, rfl⟩
section
variable {w : World} {p : Program} {loose : List PySem.Str} {mean : ExcName → Option Value} {mg mb : PySem.Str → Option Value} {A₀ : Around} {base h₀ : Heap} {hl : Option Value} {dp un : Nat} {gd : Option (List Code)} {outer : List Env} {env : Env} {L : Addr} {m : PySem.Str → Option Value} {news : List (Addr × Obj)} {s : Shared} {Q E : Value → Shared → Prop}
local macro_rules | `(tactic| walk_at "m room") => `(tactic| first | assumption | ((try simp only [depth_under_make, depth_under_kw, depth_in1, depth_deeper, depth_caller]); (try dsimp only [TopA]); omega))
local macro_rules | `(tactic| walk_at "m enter") => `(tactic| (refine wpAny_call ?_; k_dflt (refine' code_def ?k1 ?k2 ?k3 ?k4 ?k5 ?kA ?kF ?kK ?k6 ?k7 ?k8 ?k9 ?kB ?_ ?c2 ?c3 ?c4 ?c5; (case kA => exact rfl); (case kF => assumption); (case kK => assumption); (case k1 => k_asm); (case k2 => k_asm); (case k3 => k_asm); (case k4 => k_asm); (case k5 => k_asm); (case k6 => k_is); (case k7 => k_is); (case k8 => walk_at "m room"); (case k9 => first | exact BindsTo.of_eq rfl | exact binds_K (by k_in) rfl (by k_is) rfl rfl rfl); (case c5 => decide); (case kB => exact locs rfl); (case c2 => exact rfl); (case c3 => exact rfl); (case c4 => exact rfl); k_whole; intro g' L' h' FG' F' N' B' X' T'; (try dsimp only); (try k_lift B'); (try k_fold))))
local macro_rules | `(tactic| walk_at "m units") => `(tactic| first | assumption | ((try simp only [units_in1, units_deeper, Around.mark_units, units_caller]); (try dsimp only [TopA]); omega))
local macro_rules | `(tactic| walk_at "m prem") => `(tactic| ((case kB => k_asm); (case kF => k_asm); (case kX => k_asm); (case kN => k_asm); (case kT => k_asm); (case kf => exact rfl); (case kk => exact rfl); (case kd => walk_at "m room"); (case ku => walk_at "m units")))

local macro_rules | `(tactic| walk_at "m enterS") => `(tactic| (refine wpAny_call ?_; k_dflt (refine' enterS ?k1 ?k2 ?k3 ?k5 ?kA ?kF ?kK ?k6 ?k7 ?k8 ?k9 ?kB ?_ ?c2 ?c3 ?c4 ?c5; (case kA => exact rfl); (case kF => assumption); (case kK => assumption); (case k1 => k_asm); (case k2 => k_asm); (case k3 => k_asm); (case k5 => k_asm); (case k6 => k_is); (case k7 => k_is); (case k8 => walk_at "m room"); (case k9 => first | exact BindsTo.of_eq rfl | exact binds_K (by k_in) rfl (by k_is) rfl rfl rfl); (case c5 => decide); (case kB => exact locs rfl); (case c2 => exact rfl); (case c3 => exact rfl); (case c4 => exact rfl); k_whole; intro L' h' eL' F' N' B' X' T'; (try dsimp only); (try k_fold))))
local macro_rules | `(tactic| walk_at "m item") => `(tactic| (refine' Item.keeps ?mi (Fr.keep ?mF); (case mF => k_asm); (case mi => assumption)))
local macro_rules | `(tactic| walk_at "getAttr ref") => `(tactic| (k_here; (with_reducible show wpAny _ _ (getAttr (Value.ref _) (PySem.Str.ofString "seconds") _) _ _ _); k_dflt (refine' sec_attr _ ?kB ?kF ?kX ?kN ?kT ?kf ?kk ?kd ?ku ?_; (walk_at "m prem")); intro h9 tk9 F9 N9; (try dsimp only)))
local macro_rules | `(tactic| walk_at "getAttr ref") => `(tactic| (k_here; (with_reducible show wpAny _ _ (getAttr (Value.ref _) (PySem.Str.ofString "name") _) _ _ _); k_dflt (refine' name_attr _ ?kB ?kF ?kX ?kN ?kT ?kf ?kk ?kd ?ku ?_; (walk_at "m prem")); intro h9 tk9 F9 N9; (try dsimp only)))
local macro_rules | `(tactic| walk_at "getAttr ref") => `(tactic| (k_here; (with_reducible show wpAny _ _ (getAttr (Value.ref _) (PySem.Str.ofString "GRANULARITY") _) _ _ _); k_dflt (refine' item_gran ?kF ?kX ?ki ?_; (case kF => k_asm); (case kX => k_asm); (case ki => walk_at "m item"))))
local macro_rules | `(tactic| walk_at "getAttr ref") => `(tactic| (k_here; (with_reducible show wpAny _ _ (getAttr (Value.ref _) (PySem.Str.ofString "amount") _) _ _ _); k_dflt (refine' item_amount ?kF ?kX ?ki ?_; (case kF => k_asm); (case kX => k_asm); (case ki => walk_at "m item")); intro t9))
local macro_rules | `(tactic| walk_at "getAttr ref") => `(tactic| (k_here; (with_reducible show wpAny _ _ (getAttr (Value.ref _) (PySem.Str.ofString "multiples") _) _ _ _); k_dflt (refine' item_multiples ?kF ?kX ?ki ?_; (case kF => k_asm); (case kX => k_asm); (case ki => walk_at "m item")); intro t9))
local macro_rules | `(tactic| walk_at "getAttr ref") => `(tactic| (k_here; (with_reducible show wpAny _ _ (getAttr (Value.ref _) (PySem.Str.ofString "namespace") _) _ _ _); k_dflt (refine' item_namespace ?kF ?kX ?ki ?_; (case kF => k_asm); (case kX => k_asm); (case ki => walk_at "m item")); intro t9))

local macro_rules | `(tactic| walk_at "binaryOp Mult int int") => `(tactic| (k_here; (with_reducible show wpAny _ _ (binaryOp Operator.Mult (Value.int (Gr.sec _) _) (Value.int _ _)) _ _ _); k_dflt (refine PyProof.Rows.mul_int ?_ (IntMulOk.of_left (gr_bits _)))))
local macro_rules | `(tactic| walk_at "call builtin:isinstance") => `(tactic| (k_here; (with_reducible show wpAny _ _ (call (Value.builtin "isinstance") [Value.ref _, Value.ref 248]) _ _ _); k_dflt (refine' isi_item ?kX ?ki ?_; (case kX => k_in); (case ki => walk_at "m item"))))
local macro_rules | `(tactic| walk_at "compareOp Eq") => `(tactic| (k_here; (with_reducible show wpAny _ _ (compareOp CmpOp.Eq (Value.ref (Gr.tup _)) (Value.ref (Gr.tup _))) _ _ _); k_dflt (refine' geq_rich ?ku ?kX (inst_K ?kX1 (gr_tup _) rfl (gr_dict _)) (inst_K ?kX2 (gr_tup _) rfl (gr_dict _)) tg_mro tg_eq ?_; (case ku => walk_at "m units"); (case kX => k_in); (case kX1 => k_in); (case kX2 => k_in))))
local macro_rules | `(tactic| walk_at "formatField") => `(tactic| (k_here; (with_reducible show wpAny _ _ (formatField (Value.str (Gr.name _) _) _) _ _ _); k_dflt (refine SB.field_str ?_ (Nat.le_trans (gr_namelen _) (by decide))); intro t9 tk9))


theorem values_meth {pl : Sem Bool} {A : Around} {Q : Value × List Value → Shared → Prop} (X : (hd.heap_39 w.params).In s.heap) (h : Q (.builtin "dict.values", [.ref 338]) s) : wpAny (model PySem.Challenge.rw_bn0039_01.row.prog w) A (getMethod (.ref 338) "values" pl) Q E s := by
  obtain ⟨o, ho, hc, hd⟩ := nodict338 X
  exact getMethod_builtin ⟨o, ho, hc⟩ PySem.F.plainAttrs_dict PySem.F.slot_dict_values PySem.F.type_dict_values (fun a e => by cases e; exact ⟨o, ho, hd⟩) h
theorem values_made {A : Around} (F : Fr h₀ L s.heap m) (N : News h₀ L s.heap news) (X : (hd.heap_39 w.params).In s.heap)
    (h : ∀ v h', Fr h₀ L h' m → News h₀ L h' ((v, viewO) :: news) → (∀ p ∈ news, p.1 < v) → Q (.ref v) { s with heap := h' }) : wpAny (model PySem.Challenge.rw_bn0039_01.row.prog w) A (call (.builtin "dict.values") [.ref 338]) Q E s := by
  obtain ⟨o, ho, hc, hd⟩ := nodict338 X
  have hm := gran_at (prog := PySem.Challenge.rw_bn0039_01.row.prog) X
  obtain ⟨od, es, h1, h2, h3, h4, h5, h6⟩ := hm
  refine call_meetsIn PySem.F.slot_dict_values ⟨o, ho, hc⟩ PySem.F.entry_dict_values (PySem.F.args_dict_values_1 _) (meets_dict_values (strKind _ _) 338 (by decide)) ⟨⟨_, od, es, 6, h1, h2, h3, h4, h5, h6⟩, ?_⟩
  exact h _ _ (F.push _) (N.push F _) fun p hp => Heap.lt_size (N p hp).1
theorem values_iter {A : Around} {v : Addr} (F : Fr h₀ L s.heap m) (N : News h₀ L s.heap news) (hv : (v, viewO) ∈ news) (X : (hd.heap_39 w.params).In s.heap)
    (h : ∀ it h', Fr h₀ L h' m → News h₀ L h' ((it, iterO 0) :: news) → (∀ p ∈ news, p.1 < it) → Q (.ref it) { s with heap := h' }) : wpAny (model PySem.Challenge.rw_bn0039_01.row.prog w) A (pyIter (.ref v)) Q E s :=
  wpAny_pyIter_values (kvs := grKvs) ⟨_, (N _ hv).1, rfl, rfl⟩ (gran_at X) (h _ _ (F.push _) (N.push F _) fun p hp => Heap.lt_size (N p hp).1)


theorem swap_upd {a b : PySem.Str} {u v : Option Value} {m : PySem.Str → Option Value} (h : a ≠ b) : (fun y => if y = a then u else if y = b then v else m y) = fun y => if y = b then v else if y = a then u else m y := by
  funext y
  by_cases h1 : y = a
  · subst h1; rw [if_pos rfl, if_neg h, if_pos rfl]
  · rw [if_neg h1]
    by_cases h2 : y = b
    · rw [if_pos h2, if_pos h2]
    · rw [if_neg h2, if_neg h2, if_neg h1]
theorem same_upd {b : PySem.Str} {v : Value} {m : PySem.Str → Option Value} (h : m b = some v) : m = fun y => if y = b then some v else m y := by
  funext y
  by_cases h2 : y = b
  · rw [if_pos h2, h2, h]
  · rw [if_neg h2]
theorem gran_next {h₁ h'' : Heap} {tk'' : Nat} {it v : Addr} {o : Obj} {q : Addr × Obj} {a gs : PySem.Str} {u : Option Value} {val : Value} {b : Bool} {m₁ : PySem.Str → Option Value} (hp : b = false) (F : Fr h₁ L h'' (fun y => if y = a then u else if y = gs then some val else m₁ y)) (ha : a ≠ gs) (N : News h₁ L h'' (q :: [(it, o), (v, viewO)])) :
    Hold (b = false ∧ ∃ h3 tk3, ∃ (m₂ : PySem.Str → Option Value), ({ s with heap := h'', toks := tk'' } : Shared) = { s with heap := h3, toks := tk3 } ∧ Fr h₁ L h3 (fun y => if y = gs then some val else m₂ y) ∧ News h₁ L h3 [(it, o), (v, viewO)]) :=
  ⟨hp, h'', tk'', fun y => if y = a then u else m₁ y, rfl, by rw [← swap_upd ha]; exact F, fun p hp => N p (.tail _ hp)⟩
theorem find_first {P : Gr → Bool} {i : Nat} {g : Gr} (hg : grAll[i]? = some g) (hno : ∀ j g, j < i → grAll[j]? = some g → P g = false) (hp : P g = true) : grAll.find? P = some g := by
  rw [List.find?_eq_some_iff_getElem]
  refine ⟨hp, i, (List.getElem?_eq_some_iff.mp hg).1, (List.getElem?_eq_some_iff.mp hg).2, fun j hj => ?_⟩
  have hl : j < grAll.length := Nat.lt_trans hj (List.getElem?_eq_some_iff.mp hg).1
  rw [hno j _ hj (List.getElem?_eq_getElem hl)]
  rfl

theorem gran_fr {A : Around} {R : Result → Shared → Prop} {y : PySem.Str} {yp : Pos} {body : List Stmt} {it v : Addr} {h₁ : Heap} {gs : PySem.Str} {val : Value} {P : Gr → Bool} (hh : A.handled = hl) (F : Fr h₁ L s.heap m) (N : News h₁ L s.heap [(it, iterO 0), (v, viewO)]) (X : (hd.heap_39 w.params).In h₁) (H : HOk hl h₁) (hm : m gs = some val)
    (step : ∀ (i : Nat) g h' tk' (m₁ : PySem.Str → Option Value) (o : Obj), grAll[i]? = some g → (P g = true → grAll.find? P = some g) → Fr h₁ L h' (fun y => if y = gs then some val else m₁ y) → News h₁ L h' [(it, o), (v, viewO)] →
      wpAny (model PySem.Challenge.rw_bn0039_01.row.prog w) A (assign (.Name y yp) env (.ref g.cls)) (fun _ s₂ => wpAny (model PySem.Challenge.rw_bn0039_01.row.prog w) A (execs body env) (fun f s₃ => match f with
        | .next => Hold (P g = false ∧ ∃ h'' tk'' , ∃ (m₂ : PySem.Str → Option Value), s₃ = { s with heap := h'', toks := tk'' } ∧ Fr h₁ L h'' (fun y => if y = gs then some val else m₂ y) ∧ News h₁ L h'' [(it, o), (v, viewO)])
        | .ret v => R (.ok (.ret v)) s₃ | _ => False) (notedBy (model PySem.Challenge.rw_bn0039_01.row.prog w) A env fun e s' => R (.error e) s') s₂) (notedBy (model PySem.Challenge.rw_bn0039_01.row.prog w) A env fun e s' => R (.error e) s') { s with heap := h', toks := tk' })
    (stop : ∀ h' tk' (m₁ : PySem.Str → Option Value), grAll.find? P = none → Fr h₁ L h' (fun y => if y = gs then some val else m₁ y) → R (.ok .next) { s with heap := h', toks := tk' }) :
    codeAny (model PySem.Challenge.rw_bn0039_01.row.prog w) A (.forLoop (.Name y yp) (.ref it) body [] env) R s := by
  refine gran_loop hh (fun i s' => ∃ h' tk', ∃ (m₁ : PySem.Str → Option Value) (o : Obj), s' = { s with heap := h', toks := tk' } ∧ o.cls = .type "dict_valueiterator" ∧ o.data = .fields #[.ref 338, .int (i : Nat) 0, .int ((6 : Nat) : Int) 0, .int ((6 : Nat) : Int) 0] ∧ Fr h₁ L h' (fun y => if y = gs then some val else m₁ y) ∧ News h₁ L h' [(it, o), (v, viewO)] ∧ ∀ j g, j < i → grAll[j]? = some g → P g = false) ?_ ?_ ?_ ?_
  · rintro i s' ⟨h', tk', m₁, o, rfl, hoc, hod, F', N', hno⟩
    refine ⟨⟨_, (N' _ (.head _)).1, hoc, hod⟩, X.keeps F'.keep, H.keeps F'.keep, fun a ha q => ?_⟩
    have hn : h₁.get? it = none := (N' (it, o) (.head _)).2.2
    rw [← q] at hn
    rcases H with H | ⟨b, o', vs, h1, h2, _⟩
    · rw [H] at ha; cases ha
    · rw [h1] at ha; cases ha
      rw [hn] at h2; cases h2
  · rintro i g s' h'' hg ⟨h', tk', m₁, o, rfl, hoc, hod, F', N', hno⟩ hit hs
    obtain ⟨o2, ho2, hc2, hd2⟩ := hit
    have hne : v ≠ it := fun q => by
      have h1 := (N' _ (.head _)).1
      have h2 := (N' (v, viewO) (.tail _ (.head _))).1
      rw [q] at h2
      rw [show h'.get? it = some o from h1] at h2
      have := congrArg Obj.cls (Option.some.inj h2)
      rw [hoc] at this
      have this : Value.type "dict_valueiterator" = Value.type "dict_values" := this
      exact absurd this (by decide)
    have F'' : Fr h₁ L h'' (fun y => if y = gs then some val else m₁ y) := F'.change hs (N' _ (.head _)).2.1 (N' _ (.head _)).2.2
    have N'' : News h₁ L h'' [(it, o2), (v, viewO)] := N'.setHead (fun p hp => by
      rcases List.mem_cons.mp hp with rfl | hp
      · exact hne
      · cases hp) hs ho2
    refine wpAny_mono (step i g h'' tk' m₁ o2 hg (find_first hg hno) F'' N'') (fun _ s₂ h₂ => wpAny_mono h₂ (fun f s₃ h₃ => ?_) fun _ _ q => q) fun _ _ q => q
    cases f with
    | next =>
      obtain ⟨hp, h3, tk3, m₂, rfl, F3, N3⟩ := h₃
      exact ⟨h3, tk3, m₂, o2, rfl, hc2, hd2, F3, N3, fun j g' hj hg' => by
        rcases Nat.lt_or_ge j i with hlt | hge
        · exact hno j g' hlt hg'
        · have : j = i := by omega
          subst this
          rw [hg] at hg'; cases hg'; exact hp⟩
    | ret v => exact h₃
    | brk => exact h₃.elim
    | cont => exact h₃.elim
  · rintro s' h'' ⟨h', tk', m₁, o, rfl, hoc, hod, F', N', hno⟩ he
    refine stop h'' tk' m₁ ?_ ?_
    · rw [List.find?_eq_none]
      intro g hg hp
      obtain ⟨j, hj⟩ := List.mem_iff_getElem?.mp hg
      rw [hno j g ((List.getElem?_eq_some_iff.mp hj).1) hj] at hp
      cases hp
    · exact ⟨F'.ns.extBut he (Ne.symm (N' (it, o) (.head _)).2.1), fun b ob hb => he b ob (fun q => by subst q; rw [show h₁.get? b = none from (N' (b, o) (.head _)).2.2] at hb; cases hb) (F'.keep b ob hb), F'.above⟩
  · exact ⟨s.heap, s.toks, m, iterO 0, rfl, rfl, rfl, by rw [← same_upd hm]; exact F, N, fun j g hj => absurd hj (Nat.not_lt_zero _)⟩

theorem Raise_H {A : Around} {e : Expr} {pos : Pos} {X N I : String} {h₀ : Heap} {Q : Flow → Shared → Prop} (hc : ExcClass X N I) (hh : A.handled = hl) (H : HOk hl h₀)
    (h : wpAny (model PySem.Challenge.rw_bn0039_01.row.prog w) A (eval e env) (fun v s₁ => Hold (∃ a, v = .ref a ∧ NewC h₀ s₁.heap a (.type X) .none ∧ ∀ h' c2, NewC h₀ h' a (.type X) c2 → (hl = none → c2 = .none) → E (.ref a) { s₁ with heap := h' })) E s) :
    wpAny (model PySem.Challenge.rw_bn0039_01.row.prog w) A (exec (.Raise (some e) none pos) env) Q E s := Raise_C hc hh H h
theorem call_val {A : Around} {v : Value} (h : ∀ h' e, NewC s.heap h' e (.type "ValueError") .none → Q (.ref e) { s with heap := h' }) : wpAny (model PySem.Challenge.rw_bn0039_01.row.prog w) A (call (.type "ValueError") [v]) Q E s :=
  call_exc excClass_ValueError (fun h' e hx => h h' e ⟨hx.keeps, hx.new, by
    obtain ⟨ob, t, he, hcl, hd⟩ := hx.there
    exact ⟨ob, _, he, hcl, hd, rfl, rfl⟩⟩) (by show (1 : Nat) ≤ sizeLine; decide)

local macro_rules | `(tactic| walk_at "call type:ValueError") => `(tactic| (k_here; k_dflt (refine call_val ?_); intro h9 e9 x9; (try dsimp only)))
local macro_rules | `(tactic| walk_at "exec For Name Call cons nil") => `(tactic| refine hold ?_)
local macro_rules | `(tactic| walk_at "getMethod ref") => `(tactic| (k_here; (with_reducible show wpAny _ _ (getMethod (Value.ref 338) (PySem.Str.ofString "values") _) _ _ _); k_dflt (refine' values_meth ?X ?_; (case X => k_in))))
local macro_rules | `(tactic| walk_at "call builtin:dict.values") => `(tactic| (k_here; k_dflt (refine' values_made ?F ?N ?X ?_; (case F => k_asm); (case N => k_asm); (case X => k_in)); intro v9 h9 F9 N9 l9; (try k_lt l9)))
local macro_rules | `(tactic| walk_at "pyIter ref") => `(tactic| (k_here; k_dflt (refine' values_iter ?F ?N ?V ?X ?_; (case F => k_asm); (case N => k_asm); (case V => k_mem); (case X => k_in)); intro it9 h9 F9 N9 l9; (try k_lt l9)))


local macro_rules | `(tactic| walk_at "getMethod ref") => `(tactic| (k_here; (with_reducible show wpAny _ _ (getMethod (Value.ref (Gr.cls _)) _ _) _ _ _); k_dflt (refine' method_of_cls ?k1 ?k2 (gr_special _) ?_; (case k1 => k_asm); (case k2 => k_asm))))
local macro_rules | `(tactic| walk_at "getAttr ref") => `(tactic| (k_here; (with_reducible show wpAny _ _ (getAttr (Value.ref (Gr.cls _)) (PySem.Str.ofString "check_granularity_string") _) _ _ _); k_dflt (refine' cls_cm ?k1 ?k2 ?k3 (gr_meta _) (gr_reads _) (gr_clscheck _) check_rec ?_; (case k1 => k_asm); (case k2 => k_asm); (case k3 => k_asm)); intro q9 h9 F9 N9 l9; (try k_lt l9)))
local macro_rules | `(tactic| walk_at "call ref") => `(tactic| (k_here; k_dflt (refine' call_meth ?k1 ?k2 ?_; (case k1 => k_asm); (case k2 => first | exact List.Mem.head _ | k_mem); (refine' check_code _ ?kx ?kB ?kF ?kX ?kT ?kf ?kk ?kd ?ku ?_; (case kx => assumption); (case kB => k_asm); (case kF => k_asm); (case kX => k_asm); (case kT => k_asm); (case kf => exact rfl); (case kk => exact rfl); (case kd => walk_at "m room"); (case ku => walk_at "m units"))); intro h9 tk9 K9; (try dsimp only); (have F9 := Fr.keeps (by k_asm) K9); (have N9 := news_keeps (by k_asm) K9)))

set_option maxHeartbeats 8000000 in
theorem from_call {x : PySem.Str} {tq : Tok} (hx : x.length ≤ 400) (B : Below A₀ base outer h₀) (F : Fr h₀ L s.heap m) (X : (hd.heap_39 w.params).In h₀) (T : Top p loose mean mg mb h₀) (hf : env.frame = some L) (hke : env.scope.kind = .function) (H : HOk hl s.heap)
    (hdp : dp + 40 < recursionLimit) (hun : un + 120 < cLine)
    (hret : ∀ g h' tk', grOf x = some g → (∀ b o, s.heap.get? b = some o → h'.get? b = some o) → Q (.ref g.cls) { s with heap := h', toks := tk' })
    (hexc : ∀ e h' tk' c2, grOf x = none → (hl = none → c2 = .none) → RaisedC base s.heap (env :: outer) e (.type "ValueError") c2 h' → E (.ref e) { s with heap := h', toks := tk' }) :
    wpAny (model PySem.Challenge.rw_bn0039_01.row.prog w) (TopA hl dp un gd env outer) (call (.ref 374) [.str x tq]) Q E s := by
  revert X; k_fill; intro X
  walk_at "m enterS"
  k_steps
  unfold Hold
  refine wpAny_For ?_
  k_steps
  refine' gran_fr (hl := hl) (P := fun g => grIs g x) (gs := "granularity_string") (val := .str x tq) rfl ?gF ?gN ?gX ?gH ?gM ?gstep ?gstop
  case gF => k_asm
  case gN => k_asm
  case gX => assumption
  case gH => assumption
  case gM => exact rfl
  case gstep =>
    intro i g h8 tk8 m8 o8 hg hfind F8 N8
    k_steps
    · exact methP (by assumption) (List.Mem.head _) (by k_in)
    · exact hret g _ _ (hfind (by assumption)) (Fr.keep (by k_asm))
    · exact gran_next (by assumption) (by assumption) (by decide) (by assumption)
  case gstop =>
    intro h8 tk8 m8 hnone F8
    walk_at "execs cons"
    refine Raise_H excClass_ValueError (hl := hl) (h₀ := h8) rfl (HOk.keeps (by assumption) F8.keep) ?_
    k_steps
    refine ⟨_, rfl, by assumption, fun h7 c2 hn hc => ?_⟩
    exact leave_new (g := s.heap) (by assumption) F8 hn fun h6 R => hexc _ _ _ _ hnone hc R
end
end Mine

end
section
open PySem PySem.W PyProof.Rows
set_option maxRecDepth 100000
set_option linter.unusedVariables false
namespace Mine
open PySem.Builtin.Re
section
variable {w : World}
theorem pat_expr {h : Heap} (X : (hd.heap_39 w.params).In h) : PatAt h 353 exprC 9 := by
  have hl : ∃ ps pt fl flt gt kt items, (hd.heap_39 w.params).lookup 353 = some ⟨.type "re.Pattern", none, .fields #[.str ps pt, .int fl flt, .int ((9 : Nat) : Int) gt, .none, .none, .ref 352, .int 0 kt], #[]⟩ ∧ (hd.heap_39 w.params).lookup 352 = some ⟨.type "tuple", none, .seq items 0, #[]⟩ ∧ (items.map reRawOf).map Int.toNat = exprC :=
    ⟨_, _, _, _, _, _, _, rfl, rfl, by rw [Array.map_map]; apply Array.toList_inj.mp; rw [Array.toList_map]; kernel_rfl⟩
  obtain ⟨ps, pt, fl, flt, gt, kt, items, h1, h2, h3⟩ := hl
  exact ⟨_, ps, pt, fl, flt, gt, kt, 352, _, items, 0, X _ _ h1, rfl, rfl, X _ _ h2, rfl, h3⟩
theorem pat_sing {h : Heap} (X : (hd.heap_39 w.params).In h) : PatAt h 348 singC 4 := by
  have hl : ∃ ps pt fl flt gt kt items, (hd.heap_39 w.params).lookup 348 = some ⟨.type "re.Pattern", none, .fields #[.str ps pt, .int fl flt, .int ((4 : Nat) : Int) gt, .none, .none, .ref 347, .int 0 kt], #[]⟩ ∧ (hd.heap_39 w.params).lookup 347 = some ⟨.type "tuple", none, .seq items 0, #[]⟩ ∧ (items.map reRawOf).map Int.toNat = singC :=
    ⟨_, _, _, _, _, _, _, rfl, rfl, by rw [Array.map_map]; apply Array.toList_inj.mp; rw [Array.toList_map]; kernel_rfl⟩
  obtain ⟨ps, pt, fl, flt, gt, kt, items, h1, h2, h3⟩ := hl
  exact ⟨_, ps, pt, fl, flt, gt, kt, 347, _, items, 0, X _ _ h1, rfl, rfl, X _ _ h2, rfl, h3⟩
theorem pat_seps {h : Heap} (X : (hd.heap_39 w.params).In h) : PatAt h 343 sepsC 0 := by
  have hl : ∃ ps pt fl flt gt kt items, (hd.heap_39 w.params).lookup 343 = some ⟨.type "re.Pattern", none, .fields #[.str ps pt, .int fl flt, .int ((0 : Nat) : Int) gt, .none, .none, .ref 342, .int 0 kt], #[]⟩ ∧ (hd.heap_39 w.params).lookup 342 = some ⟨.type "tuple", none, .seq items 0, #[]⟩ ∧ (items.map reRawOf).map Int.toNat = sepsC :=
    ⟨_, _, _, _, _, _, _, rfl, rfl, by rw [Array.map_map]; apply Array.toList_inj.mp; rw [Array.toList_map]; kernel_rfl⟩
  obtain ⟨ps, pt, fl, flt, gt, kt, items, h1, h2, h3⟩ := hl
  exact ⟨_, ps, pt, fl, flt, gt, kt, 342, _, items, 0, X _ _ h1, rfl, rfl, X _ _ h2, rfl, h3⟩
theorem pat_type {h : Heap} {p : Addr} {code : Array Nat} {g : Nat} (P : PatAt h p code g) : ∃ o, h.get? p = some o ∧ o.cls = .type "re.Pattern" := by
  obtain ⟨po, _, _, _, _, _, _, _, _, _, _, h1, h2, _⟩ := P.ex
  exact ⟨po, h1, h2⟩
end
end Mine

end
section
open PySem PySem.W PyProof.Rows
set_option maxRecDepth 100000
set_option linter.unusedVariables false
namespace Mine
open PySem.Builtin.Re

/-- a text that the patterns' machine is proved for -/
structure OkT (x : PySem.Str) : Prop where
  sz : x.cps.size ≤ 400
  ok : ∀ q, q < x.cps.size → okc (x.cps.getD q 0) = true
theorem Good.okT {a b : Nat} {x : PySem.Str} (h : Good a b x) (ha : a ≤ 400) : OkT x where
  sz := Nat.le_trans h.len ha
  ok := fun q hq => h.ok _ (by
    have : x.cps.getD q 0 = x.cps[q] := by simp [Array.getD, hq]
    rw [this]
    exact Array.mem_toList_iff.mpr (Array.getElem_mem hq))

section
variable {w : World} {prog : Program} {A : Around} {E : Value → Shared → Prop} {s : Shared} {h₀ : Heap} {L : Addr} {m : PySem.Str → Option Value} {news : List (Addr × Obj)}
theorem pat_meth {p : Addr} {code : Array Nat} {g : Nat} {name : PySem.Str} {id : String} {pl : Sem Bool} {Q : Value × List Value → Shared → Prop} (P : PatAt s.heap p code g) (hnd : ∃ o, s.heap.get? p = some o ∧ o.dict = none) (slot : Slot "re.Pattern" name id) (hty : typeOf (.builtin id) = pure (.type "method_descriptor")) (h : Q (.builtin id, [.ref p]) s) :
    wpAny (model prog w) A (getMethod (.ref p) name pl) Q E s := by
  obtain ⟨o, ho, hc⟩ := pat_type P
  exact getMethod_builtin ⟨o, ho, hc⟩ plainAttrs_pattern slot hty (fun a e => by cases e; exact hnd) h

theorem m_expr {x : PySem.Str} {tk : Tok} {Q : Value → Shared → Prop} (F : Fr h₀ L s.heap m) (N : News h₀ L s.heap news) (X : (hd.heap_39 w.params).In s.heap) (O : OkT x) (hw : wtl x.cps.toList ≤ 40 ∨ acc x.cps 0 0 = true)
    (hno : acc x.cps 0 0 = false → Q .none s)
    (hyes : acc x.cps 0 0 = true → ∀ o t h' ob ot, ob.cls = .type "re.Match" → Fr h₀ L h' m → News h₀ L h' ((o, ob) :: (t, ot) :: news) → Q (.ref o) { s with heap := h' }) :
    wpAny (model prog w) A (call (.builtin "re.Pattern.match") [.ref 353, .str x tk]) Q E s := by
  have P := pat_expr X
  obtain ⟨o, ho, hc⟩ := pat_type P
  have hz := O.sz
  cases ha : acc x.cps 0 0 with
  | false =>
    refine wp_match (gs := 18) ⟨o, ho, hc⟩ P (by omega) (by decide) (expr_fail O.sz O.ok (hw.resolve_right (by rw [ha]; exact Bool.false_ne_true)) ha) (Nat.le_refl _) fun m' hm => .inl ⟨hm, hno ha⟩
  | true =>
    refine wp_match ⟨o, ho, hc⟩ P (by omega) (by decide) (expr_yes O.sz O.ok ha) (Nat.le_refl _) fun m' ⟨V, hW, hV⟩ => .inr ⟨hW.out, V, _, hW, hV, fun li => ?_⟩
    exact hyes ha _ _ _ _ _ rfl ((F.push _).push _) (by
      have := (N.push F (matchTup V 9 x.cps.size)).push (F.push (matchTup V 9 x.cps.size)) (matchObj 353 x tk li s.heap.objs.size)
      rw [show (s.heap.push (matchTup V 9 x.cps.size)).objs.size = s.heap.objs.size + 1 by unfold Heap.push; simp] at this
      exact this)

theorem m_sing {x : PySem.Str} {tk : Tok} {Q : Value → Shared → Prop} {a0 a1 a2 a3 a4 a5 a6 a7 a8 : Nat} (F : Fr h₀ L s.heap m) (N : News h₀ L s.heap news) (X : (hd.heap_39 w.params).In s.heap) (O : OkT x) (P8 : Parts x.cps 0 a0 a1 a2 a3 a4 a5 a6 a7 a8)
    (h : ∀ o t li h', Fr h₀ L h' m → News h₀ L h' ((o, matchObj 348 x tk li t) :: (t, matchTup (itemV 0 a0 a1 a2 a3 a4 a5 a6 a7 nilV) 4 a8) :: news) → Q (.ref o) { s with heap := h' }) :
    wpAny (model prog w) A (call (.builtin "re.Pattern.match") [.ref 348, .str x tk]) Q E s := by
  have P := pat_sing X
  obtain ⟨o, ho, hc⟩ := pat_type P
  have hz := O.sz
  have hord := P8.ord
  refine wp_match ⟨o, ho, hc⟩ P (by omega) (by decide) (sing_yes O.sz O.ok P8) (Nat.le_refl _) fun m' hW => .inr ⟨hW.out, _, _, hW, itemV_ord (k := 0) (fun g b e _ hb _ => by cases hb) (by omega) (by omega) (by omega) (by omega), fun li => ?_⟩
  exact h _ _ li _ ((F.push _).push _) (by
      have := (N.push F (matchTup (itemV 0 a0 a1 a2 a3 a4 a5 a6 a7 nilV) 4 a8)).push (F.push (matchTup (itemV 0 a0 a1 a2 a3 a4 a5 a6 a7 nilV) 4 a8)) (matchObj 348 x tk li s.heap.objs.size)
      rw [show (s.heap.push (matchTup (itemV 0 a0 a1 a2 a3 a4 a5 a6 a7 nilV) 4 a8)).objs.size = s.heap.objs.size + 1 by unfold Heap.push; simp] at this
      exact this)
end
end Mine

end
section
open PySem PySem.W PyProof.Rows
set_option maxRecDepth 100000
set_option linter.unusedVariables false
namespace Mine
section
variable {w : World} {p : Program} {loose : List PySem.Str} {mean : ExcName → Option Value} {mg mb : PySem.Str → Option Value} {A₀ : Around} {base h₀ : Heap} {hl : Option Value} {dp un : Nat} {gd : Option (List Code)} {outer : List Env} {env : Env} {L : Addr} {m : PySem.Str → Option Value} {news : List (Addr × Obj)} {s : Shared} {Q E : Value → Shared → Prop}
local macro_rules | `(tactic| walk_at "m room") => `(tactic| first | assumption | ((try simp only [depth_under_make, depth_under_kw, depth_in1, depth_deeper, depth_caller]); (try dsimp only [TopA]); omega))
local macro_rules | `(tactic| walk_at "m enter") => `(tactic| (refine wpAny_call ?_; k_dflt (refine' code_def ?k1 ?k2 ?k3 ?k4 ?k5 ?kA ?kF ?kK ?k6 ?k7 ?k8 ?k9 ?kB ?_ ?c2 ?c3 ?c4 ?c5; (case kA => exact rfl); (case kF => assumption); (case kK => assumption); (case k1 => k_asm); (case k2 => k_asm); (case k3 => k_asm); (case k4 => k_asm); (case k5 => k_asm); (case k6 => k_is); (case k7 => k_is); (case k8 => walk_at "m room"); (case k9 => first | exact BindsTo.of_eq rfl | exact binds_K (by k_in) rfl (by k_is) rfl rfl rfl); (case c5 => decide); (case kB => exact locs rfl); (case c2 => exact rfl); (case c3 => exact rfl); (case c4 => exact rfl); k_whole; intro g' L' h' FG' F' N' B' X' T'; (try dsimp only); (try k_lift B'); (try k_fold))))
local macro_rules | `(tactic| walk_at "m units") => `(tactic| first | assumption | ((try simp only [units_in1, units_deeper, Around.mark_units, units_caller]); (try dsimp only [TopA]); omega))
local macro_rules | `(tactic| walk_at "m prem") => `(tactic| ((case kB => k_asm); (case kF => k_asm); (case kX => k_asm); (case kN => k_asm); (case kT => k_asm); (case kf => exact rfl); (case kk => exact rfl); (case kd => walk_at "m room"); (case ku => walk_at "m units")))

local macro_rules | `(tactic| walk_at "m enterS") => `(tactic| (refine wpAny_call ?_; k_dflt (refine' enterS ?k1 ?k2 ?k3 ?k5 ?kA ?kF ?kK ?k6 ?k7 ?k8 ?k9 ?kB ?_ ?c2 ?c3 ?c4 ?c5; (case kA => exact rfl); (case kF => assumption); (case kK => assumption); (case k1 => k_asm); (case k2 => k_asm); (case k3 => k_asm); (case k5 => k_asm); (case k6 => k_is); (case k7 => k_is); (case k8 => walk_at "m room"); (case k9 => first | exact BindsTo.of_eq rfl | exact binds_K (by k_in) rfl (by k_is) rfl rfl rfl); (case c5 => decide); (case kB => exact locs rfl); (case c2 => exact rfl); (case c3 => exact rfl); (case c4 => exact rfl); k_whole; intro L' h' eL' F' N' B' X' T'; (try dsimp only); (try k_fold))))
local macro_rules | `(tactic| walk_at "m item") => `(tactic| (refine' Item.keeps ?mi (Fr.keep ?mF); (case mF => k_asm); (case mi => assumption)))
local macro_rules | `(tactic| walk_at "getAttr ref") => `(tactic| (k_here; (with_reducible show wpAny _ _ (getAttr (Value.ref _) (PySem.Str.ofString "seconds") _) _ _ _); k_dflt (refine' sec_attr _ ?kB ?kF ?kX ?kN ?kT ?kf ?kk ?kd ?ku ?_; (walk_at "m prem")); intro h9 tk9 F9 N9; (try dsimp only)))
local macro_rules | `(tactic| walk_at "getAttr ref") => `(tactic| (k_here; (with_reducible show wpAny _ _ (getAttr (Value.ref _) (PySem.Str.ofString "name") _) _ _ _); k_dflt (refine' name_attr _ ?kB ?kF ?kX ?kN ?kT ?kf ?kk ?kd ?ku ?_; (walk_at "m prem")); intro h9 tk9 F9 N9; (try dsimp only)))
local macro_rules | `(tactic| walk_at "getAttr ref") => `(tactic| (k_here; (with_reducible show wpAny _ _ (getAttr (Value.ref _) (PySem.Str.ofString "GRANULARITY") _) _ _ _); k_dflt (refine' item_gran ?kF ?kX ?ki ?_; (case kF => k_asm); (case kX => k_asm); (case ki => walk_at "m item"))))
local macro_rules | `(tactic| walk_at "getAttr ref") => `(tactic| (k_here; (with_reducible show wpAny _ _ (getAttr (Value.ref _) (PySem.Str.ofString "amount") _) _ _ _); k_dflt (refine' item_amount ?kF ?kX ?ki ?_; (case kF => k_asm); (case kX => k_asm); (case ki => walk_at "m item")); intro t9))
local macro_rules | `(tactic| walk_at "getAttr ref") => `(tactic| (k_here; (with_reducible show wpAny _ _ (getAttr (Value.ref _) (PySem.Str.ofString "multiples") _) _ _ _); k_dflt (refine' item_multiples ?kF ?kX ?ki ?_; (case kF => k_asm); (case kX => k_asm); (case ki => walk_at "m item")); intro t9))
local macro_rules | `(tactic| walk_at "getAttr ref") => `(tactic| (k_here; (with_reducible show wpAny _ _ (getAttr (Value.ref _) (PySem.Str.ofString "namespace") _) _ _ _); k_dflt (refine' item_namespace ?kF ?kX ?ki ?_; (case kF => k_asm); (case kX => k_asm); (case ki => walk_at "m item")); intro t9))

local macro_rules | `(tactic| walk_at "binaryOp Mult int int") => `(tactic| (k_here; (with_reducible show wpAny _ _ (binaryOp Operator.Mult (Value.int (Gr.sec _) _) (Value.int _ _)) _ _ _); k_dflt (refine PyProof.Rows.mul_int ?_ (IntMulOk.of_left (gr_bits _)))))
local macro_rules | `(tactic| walk_at "call builtin:isinstance") => `(tactic| (k_here; (with_reducible show wpAny _ _ (call (Value.builtin "isinstance") [Value.ref _, Value.ref 248]) _ _ _); k_dflt (refine' isi_item ?kX ?ki ?_; (case kX => k_in); (case ki => walk_at "m item"))))
local macro_rules | `(tactic| walk_at "compareOp Eq") => `(tactic| (k_here; (with_reducible show wpAny _ _ (compareOp CmpOp.Eq (Value.ref (Gr.tup _)) (Value.ref (Gr.tup _))) _ _ _); k_dflt (refine' geq_rich ?ku ?kX (inst_K ?kX1 (gr_tup _) rfl (gr_dict _)) (inst_K ?kX2 (gr_tup _) rfl (gr_dict _)) tg_mro tg_eq ?_; (case ku => walk_at "m units"); (case kX => k_in); (case kX1 => k_in); (case kX2 => k_in))))
local macro_rules | `(tactic| walk_at "formatField") => `(tactic| (k_here; (with_reducible show wpAny _ _ (formatField (Value.str (Gr.name _) _) _) _ _ _); k_dflt (refine SB.field_str ?_ (Nat.le_trans (gr_namelen _) (by decide))); intro t9 tk9))


theorem expr_meth {pl : Sem Bool} {A : Around} {Q : Value × List Value → Shared → Prop} (X : (hd.heap_39 w.params).In s.heap) (h : Q (.builtin "re.Pattern.match", [.ref 353]) s) : wpAny (model PySem.Challenge.rw_bn0039_01.row.prog w) A (getMethod (.ref 353) "match" pl) Q E s := by
  refine pat_meth (pat_expr X) ?_ slot_re_match type_re_match h
  have hl : ∃ d, (hd.heap_39 w.params).lookup 353 = some ⟨.type "re.Pattern", none, d, #[]⟩ := ⟨_, rfl⟩
  obtain ⟨d, hl⟩ := hl
  exact ⟨_, X _ _ hl, rfl⟩
theorem sing_meth {pl : Sem Bool} {A : Around} {Q : Value × List Value → Shared → Prop} (X : (hd.heap_39 w.params).In s.heap) (h : Q (.builtin "re.Pattern.match", [.ref 348]) s) : wpAny (model PySem.Challenge.rw_bn0039_01.row.prog w) A (getMethod (.ref 348) "match" pl) Q E s := by
  refine pat_meth (pat_sing X) ?_ slot_re_match type_re_match h
  have hl : ∃ d, (hd.heap_39 w.params).lookup 348 = some ⟨.type "re.Pattern", none, d, #[]⟩ := ⟨_, rfl⟩
  obtain ⟨d, hl⟩ := hl
  exact ⟨_, X _ _ hl, rfl⟩
theorem seps_meth {pl : Sem Bool} {A : Around} {Q : Value × List Value → Shared → Prop} (X : (hd.heap_39 w.params).In s.heap) (h : Q (.builtin "re.Pattern.split", [.ref 343]) s) : wpAny (model PySem.Challenge.rw_bn0039_01.row.prog w) A (getMethod (.ref 343) "split" pl) Q E s := by
  refine pat_meth (pat_seps X) ?_ slot_re_split type_re_split h
  have hl : ∃ d, (hd.heap_39 w.params).lookup 343 = some ⟨.type "re.Pattern", none, d, #[]⟩ := ⟨_, rfl⟩
  obtain ⟨d, hl⟩ := hl
  exact ⟨_, X _ _ hl, rfl⟩
theorem m_expr_no {x : PySem.Str} {tk : Tok} {A : Around} (F : Fr h₀ L s.heap m) (N : News h₀ L s.heap news) (X : (hd.heap_39 w.params).In s.heap) (O : OkT x) (hw : wtl x.cps.toList ≤ 40) (ha : acc x.cps 0 0 = false) (h : Q .none s) :
    wpAny (model PySem.Challenge.rw_bn0039_01.row.prog w) A (call (.builtin "re.Pattern.match") [.ref 353, .str x tk]) Q E s :=
  m_expr F N X O (.inl hw) (fun _ => h) fun q => by rw [ha] at q; cases q
theorem Raise_S {A : Around} {e : Expr} {pos : Pos} {X N I : String} {Q : Flow → Shared → Prop} (hc : ExcClass X N I) (hh : A.handled = hl) (H : HOk hl s.heap)
    (h : wpAny (model PySem.Challenge.rw_bn0039_01.row.prog w) A (eval e env) (fun v s₁ => Hold (∃ a, v = .ref a ∧ NewC s.heap s₁.heap a (.type X) .none ∧ ∀ h' c2, NewC s.heap h' a (.type X) c2 → (hl = none → c2 = .none) → E (.ref a) { s₁ with heap := h' })) E s) :
    wpAny (model PySem.Challenge.rw_bn0039_01.row.prog w) A (exec (.Raise (some e) none pos) env) Q E s := Raise_H hc hh H h
local macro_rules | `(tactic| walk_at "call type:ValueError") => `(tactic| (k_here; k_dflt (refine call_val ?_); intro h9 e9 x9; (try dsimp only)))
local macro_rules | `(tactic| walk_at "getMethod ref") => `(tactic| (k_here; k_dflt (first | (refine' expr_meth ?X ?_; (case X => k_in)) | (refine' sing_meth ?X ?_; (case X => k_in)) | (refine' seps_meth ?X ?_; (case X => k_in)))))
local macro_rules | `(tactic| walk_at "call builtin:re.Pattern.match") => `(tactic| (k_here; k_dflt (refine' m_expr_no ?F ?N ?X ?O ?W ?H ?_; (case F => k_asm); (case N => k_asm); (case X => k_in); (case O => assumption); (case W => assumption); (case H => assumption))))

set_option maxHeartbeats 8000000 in
theorem many_no {x : PySem.Str} {tq : Tok} (O : OkT x) (hw : wtl x.cps.toList ≤ 40) (ha : acc x.cps 0 0 = false) (B : Below A₀ base outer h₀) (F : Fr h₀ L s.heap m) (X : (hd.heap_39 w.params).In h₀) (T : Top p loose mean mg mb h₀) (hf : env.frame = some L) (hke : env.scope.kind = .function) (H : HOk hl s.heap)
    (hdp : dp + 60 < recursionLimit) (hun : un + 200 < cLine)
    (hexc : ∀ e h' tk' c2, (hl = none → c2 = .none) → RaisedC base s.heap (env :: outer) e (.type "ValueError") c2 h' → E (.ref e) { s with heap := h', toks := tk' }) :
    wpAny (model PySem.Challenge.rw_bn0039_01.row.prog w) (TopA hl dp un gd env outer) (call (.ref 360) [.str x tq]) Q E s := by
  have hx : x.length ≤ 400 := O.sz
  revert X; k_fill; intro X
  walk_at "m enterS"
  k_steps
  refine Raise_S excClass_ValueError (hl := hl) rfl (HOk.keeps H (Fr.keep (by k_asm))) ?_
  k_steps
  refine ⟨_, rfl, by assumption, fun h7 c2 hn hc => ?_⟩
  exact leave_new (g := s.heap) (by assumption) (by k_asm) hn fun h6 R => hexc _ _ _ _ hc R
end
end Mine

end
section
open PySem PySem.W PyProof.Rows
set_option maxRecDepth 100000
set_option linter.unusedVariables false
namespace Mine
section
variable {prog : Program} {w : World} {A : Around} {E : Value → Shared → Prop} {s : Shared} {hl : Option Value}
/-- a tuple is at its end, an exception being handled or not -/
theorem tuple_endH {it t : Addr} {i : Nat} {items : Array Value} {Q : Option Value → Shared → Prop} (hh : A.handled = hl) (H : HOk hl s.heap) (Hn : ∀ a, hl = some (.ref a) → a ≠ it)
    (hit : IsTupIter s.heap it t i) (ht : IsTup s.heap t items) (hx : items[i]? = none)
    (hQ : ∀ h', Heap.ExtBut it s.heap h' → Q none { s with heap := h' }) : wpAny (model prog w) A (pyNext (.ref it)) Q E s := by
  obtain ⟨o, ho, hc, hd⟩ := id hit
  obtain ⟨ol, hol, _, nl, hdl⟩ := ht
  unfold pyNext
  refine wpAny_bind (wpAny_attempt (wpAny_callSpecial?_slot (name := Str.ofString "__next__") hit.typeIs slot_tupleiter_next
    (wpAny_call_entry slot_tupleiter_next hit.typeIs entry_tupleiter_next ?_ (args_tupleiter_next _))))
  show wpAny _ _ (field (.ref it) 0 >>= _) _ _ s
  refine wpAny_bind (wpAny_field ho hd (x := .ref t) rfl ?_)
  show wpAny _ _ (if (Value.ref t == Value.none) = true then _ else _) _ _ s
  rw [if_neg (show ¬ ((Value.ref t == Value.none) = true) from Bool.false_ne_true)]
  show wpAny _ _ (field (.ref it) 1 >>= _) _ _ s
  refine wpAny_bind (wpAny_field ho hd (x := .int i 0) rfl ?_)
  show wpAny _ _ (seqItems? (.ref t) >>= _) _ _ s
  refine wpAny_bind (wpAny_seqItems hol hdl ?_)
  simp only [Int.toNat_natCast, hx]
  refine wpAny_bind (wpAny_rule (wpAny_bind (wpAny_setField ho hd (by simp) ?_)))
  show wpAny _ _ (newExc (.type "StopIteration") [] >>= _) _ _ _
  refine wpAny_bind ?_
  simp only [newExc, newTuple]
  refine wpAny_bind (wpAny_newObj_type ?_ (by size_fits))
  refine wpAny_bind (m := firstArgMember _ _) (wpAny_of_eq (a := Value.none) (by first | rfl | (simp only [firstArgMember]; rfl)) ?_)
  refine wpAny_newObj_type ?_ (by size_fits)
  have H' : HOk hl (s.heap.update it (Obj.mapFields (·.setIfInBounds 0 Value.none))) := by
    rcases H with H | ⟨a, o', vs, h1, h2, h3⟩
    · exact .inl H
    · exact .inr ⟨a, o', vs, h1, by rw [Heap.get?_update_other _ _ (Ne.symm (Hn a h1))]; exact h2, h3⟩
  refine raiseNewC (h₀ := s.heap.update it (Obj.mapFields (·.setIfInBounds 0 Value.none))) (cls := .type "StopIteration") (hl := hl) hh H' ?_ ?_
  · have e : ownMembersOf (.type "StopIteration") [] = #[] := own_stop
    rw [e]
    exact newC_push _ _ "StopIteration" _
  · intro h' c2 x _
    obtain ⟨oe, vs, he, hcl, _⟩ := x.there
    refine wpAny_bind (wpAny_isInstance (T := "StopIteration") (b := true) ⟨_, he, hcl⟩ isSubtype_stop ?_)
    refine wpAny_pure (hQ h' fun b ob hb hbo => ?_)
    exact x.keeps _ _ ((Heap.get?_update_other _ _ (Ne.symm hb)).trans hbo)

theorem unpackItemsH {t : Addr} {items : Array Value} {Q : List Value → Shared → Prop} (hh : A.handled = hl) (H : HOk hl s.heap) (ht : IsTup s.heap t items)
    (hQ : ∀ h', Heap.ExtBut s.heap.objs.size s.heap h' → Q items.toList { s with heap := h' }) : wpAny (model prog w) A (unpackItems (.ref t) items.size none) Q E s := by
  have hlt : t ≠ s.heap.objs.size := by obtain ⟨o, ho, _⟩ := ht; exact Nat.ne_of_lt (Heap.lt_size ho)
  unfold unpackItems
  refine wpAny_bind ?_
  unfold notIterableAtAll
  refine wpAny_bind (wpAny_specialOf ht.typeIs slot_tuple_iter.lookup ?_)
  refine wpAny_pure ?_
  simp only [Bool.false_eq_true, if_false]
  refine wpAny_bind (wpAny_holding (iter_tuple ht ?_))
  refine wpAny_bind (wpAny_holding (draw_tuple hlt items.size 0 _ _ ⟨_, Heap.get?_push_size _ rfl, rfl, rfl⟩ (ht.push _) (by omega) fun h₁ hit₁ hs₁ => ?_))
  have hall : List.take items.size (List.drop 0 items.toList) = items.toList := by
    rw [List.drop_zero]; exact List.take_of_length_le (by simp)
  rw [hall]
  rw [if_neg (by simp)]
  have ht₁ : IsTup h₁ t items := (ht.push _).extBut hs₁.extBut hlt
  have H₁ : HOk hl h₁ := by
    rcases H with H | ⟨a, o, vs, h1, h2, h3⟩
    · exact .inl H
    · exact .inr ⟨a, o, vs, h1, hs₁.extBut a o (Nat.ne_of_lt (Heap.lt_size h2)) (Heap.get?_push_of_some _ h2), h3⟩
  have Hn : ∀ a, hl = some (.ref a) → a ≠ s.heap.objs.size := fun a ha => by
    rcases H with H | ⟨b, o, vs, h1, h2, _⟩
    · rw [H] at ha; cases ha
    · rw [h1] at ha; cases ha
      exact Nat.ne_of_lt (Heap.lt_size h2)
  refine wpAny_bind (wpAny_holding (tuple_endH hh H₁ Hn hit₁ ht₁ (by simp) fun h₂ he₂ => ?_))
  simp only [Option.isSome_none, Bool.false_eq_true, if_false]
  refine wpAny_pure (hQ h₂ fun b o hb e => he₂ b o hb (hs₁.extBut b o hb (Heap.get?_push_of_some _ e)))

theorem unpackH {env : Env} {elts : List Expr} {k} {pos : Pos} {t : Addr} {items : Array Value} {h₀ : Heap} {L : Addr} {m : PySem.Str → Option Value} {news : List (Addr × Obj)} {Q : Unit → Shared → Prop} (hh : A.handled = hl) (H : HOk hl s.heap) (F : Fr h₀ L s.heap m) (N : News h₀ L s.heap news) (ht : IsTup s.heap t items)
    (hn : (assignEach elts env).length = items.size) (hstar : (assignEach elts env).findIdx? (·.1) = none)
    (h : ∀ h', Fr h₀ L h' m → News h₀ L h' news → wpAny (model prog w) A (assignInOrder ((assignEach elts env).map (·.2)) items.toList) Q E { s with heap := h' }) :
    wpAny (model prog w) A (assign (.Tuple elts k pos) env (.ref t)) Q E s := by
  rw [assign_Tuple]
  refine wpAny_bind (wpAny_standAt ?_)
  unfold unpack
  rw [hn, hstar]
  exact wpAny_bind (wpAny_holding (unpackItemsH hh H ht fun h' he => h h' (F.extBut he (Nat.le_refl _)) (N.extBut he (Nat.le_refl _))))
end
end Mine

end
section
open PySem PySem.W PyProof.Rows
set_option maxRecDepth 100000
set_option linter.unusedVariables false
namespace Mine
section
variable {M : Model} {A : Around} {E : Value → Shared → Prop} {s s' : Shared}
/-- the frame has noted it already -/
theorem looksC_same {base : Heap} {l : List Env} {env : Env} {L e : Addr} {cls c2 : Value} {Q : Unit → Shared → Prop} (hf : env.frame = some L) (x : FlC base l e cls c2 (rawInt L) s.heap)
    (h : Q () s) : wpAny M A (noteFrame (.ref e) env) Q E s := by
  obtain ⟨hkb, hen, hl, oe, vs, T, oT, ts, he, hcls, h2, hd, h1, hnT, hTe, hT, hdT, h3⟩ := x
  unfold noteFrame
  simp only [hf]
  refine wpAny_bind (wpAny_field he hd h1 ?_)
  rw [if_pos (show (Value.ref T != Value.none) = true from by simp)]
  refine wpAny_bind (wpAny_field hT hdT h3 ?_)
  rw [if_pos (show (rawInt L == rawInt L) = true from by simp)]
  exact wpAny_pure h
theorem cameC {base : Heap} {l : List Env} {e L : Addr} {cls c2 fl : Value} {Q : Unit → Shared → Prop} (x : FlC base l e cls c2 fl s.heap)
    (h : ∀ h', FlC base l e cls c2 (rawInt L) h' → s.heap.UpToSlots h' → Q () { s with heap := h' }) : wpAny M A (setFlight (.ref e) (some L)) Q E s := by
  obtain ⟨hkb, hen, hl, oe, vs, T, oT, ts, he, hcls, h2, hd, h1, hnT, hTe, hT, hdT, h3⟩ := x
  have hsz3 : 3 < ts.size := (Array.getElem?_eq_some_iff.mp h3).1
  have other : ∀ b, b ≠ T → (s.heap.update T (Obj.mapFields (·.setIfInBounds 3 ((some L : Option Addr).elim Value.none fun f => rawInt f)))).get? b = s.heap.get? b :=
    fun b hb => Heap.get?_update_other _ _ (Ne.symm hb)
  have noRecord : ∀ b o, s.heap.get? b = some o → (∀ vs, o.data ≠ .fields vs) → b ≠ T := fun b o hb hnf q => by
    rw [q, hT] at hb; injection hb with hb; subst hb; exact hnf ts hdT
  unfold setFlight
  refine wpAny_bind (wpAny_field he hd h1 ?_)
  rw [if_pos (show (Value.ref T != Value.none) = true from by simp)]
  refine wpAny_setField hT hdT hsz3 (h _ ⟨fun b o hbo => (other b fun q => by rw [q, hnT] at hbo; cases hbo).trans (hkb b o hbo), hen, hl.of_keeps fun b o hb hnf => ⟨o, (other b (noRecord b o hb hnf)).trans hb, rfl⟩, ?_⟩ fun b o hb hnf => ⟨o.slots, (other b (noRecord b o hb hnf)).trans hb⟩)
  exact ⟨oe, vs, T, _, _, (other e (Ne.symm hTe)).trans he, hcls, h2, hd, h1, hnT, hTe, Heap.get?_update_self _ hT (Obj.isFreed_of_fields (Obj.data_mapFields hdT _)), Obj.data_mapFields hdT _, by simp [hsz3]⟩
/-- back from a statement of its own -/
theorem cameC_by {base : Heap} {l : List Env} {env : Env} {e L : Addr} {cls c2 fl : Value} (hf : env.frame = some L) (x : FlC base l e cls c2 fl s.heap)
    (h : ∀ h', FlC base l e cls c2 (rawInt L) h' → s.heap.UpToSlots h' → E (.ref e) { s with heap := h' }) : cameBackBy M A env E (.ref e) s := by
  obtain ⟨oe, vs, T, oT, ts, he, hcls, h2, hd, h1, hr⟩ := x.tr
  unfold cameBackBy
  refine wpAny_bind (wpAny_field he hd h1 ?_)
  rw [if_neg (by simp)]
  rw [hf]
  exact cameC x h
/-- noted by a loop, back from it, then out of the frame -/
theorem noted_leave {base g g₂ : Heap} {outer : List Env} {L a e : Addr} {m : PySem.Str → Option Value} {name : PySem.Str} {scope : Scope} {cd cls c2 : Value} {Q : Value → Unit → Shared → Prop} {E' : Value → Value → Shared → Prop}
    (K : Below A base outer g) (F : Fr g L g₂ m) (R : RaisedC base g₂ (envOf name scope L a cd :: outer) e cls c2 s'.heap)
    (hQ : ∀ h', RaisedC base g outer e cls c2 h' → Q (.ref e) () { s' with heap := h' }) :
    notedBy M (A.deeper (envOf name scope L a cd)) (envOf name scope L a cd) (fun e s'' => cameBackBy M (A.deeper (envOf name scope L a cd)) (envOf name scope L a cd) (fun e s'' => wpAny M (A.deeper (envOf name scope L a cd)) (leaving (envOf name scope L a cd) e) (Q e) (E' e) s'') e s'') (.ref e) s' := by
  obtain ⟨Bs, st, old, fl, u⟩ := R
  unfold notedBy
  refine looksC (Around.frames_deeper K.stack) rfl fl fun h1 fl1 u1 => ?_
  refine cameC_by (s := { s' with heap := h1 }) rfl fl1 fun h3 fl3 u3 => ?_
  unfold leaving
  refine wpAny_bind (looksC_same (s := { s' with heap := h3 }) rfl fl3 ?_)
  refine landsC (s := { s' with heap := h3 }) fl3 fun h2 fl2 u2 => ?_
  refine hQ h2 ⟨Bs, st, fun b o hb hn => old b o (F.keep b o hb) fun hm => ?_, ⟨fl2.stays, fl2.new, fl2.frames.2.2, fl2.tr⟩, (Heap.UpToSlots.of_keeps F.keep).trans (u.trans (u1.trans (u3.trans u2)))⟩
  obtain ⟨env, he', hf⟩ := List.mem_filterMap.mp hm
  rcases List.mem_cons.mp he' with rfl | he'
  · have : L = b := Option.some.inj hf
    subst this
    exact (Nat.not_lt.mpr F.above) (Heap.lt_size hb)
  · exact hn (List.mem_filterMap.mpr ⟨env, he', hf⟩)
end
end Mine

end
section
open PySem PySem.W PyProof.Rows
set_option maxRecDepth 100000
set_option linter.unusedVariables false
namespace Mine
section
variable {w : World} {prog : Program}
/-- the turns of a loop over a list -/
theorem list_loop {A : Around} {s : Shared} {env : Env} {R : Result → Shared → Prop} {x : PySem.Str} {xp : Pos} {body : List Stmt} {it l : Addr} {items : Array Value} (J : Nat → Shared → Prop)
    (hJ : ∀ i s', J i s' → i ≤ items.size ∧ s'.heap.IsListIter it l i ∧ s'.heap.IsList l items)
    (step : ∀ i v s' h', items[i]? = some v → J i s' → h'.IsListIter it l (i + 1) → Heap.SameBut it s'.heap h' →
      wpAny (model prog w) A (assign (.Name x xp) env v) (fun _ s₂ => wpAny (model prog w) A (execs body env) (fun f s₃ => match f with | .next => J (i + 1) s₃ | .ret v => R (.ok (.ret v)) s₃ | _ => False) (notedBy (model prog w) A env fun e s' => R (.error e) s') s₂) (notedBy (model prog w) A env fun e s' => R (.error e) s') { s' with heap := h' })
    (stop : ∀ s', J items.size s' → A.handled = none ∧ ∀ h', Heap.ExtBut it s'.heap h' → R (.ok .next) { s' with heap := h' })
    (h0 : J 0 s) : codeAny (model prog w) A (.forLoop (.Name x xp) (.ref it) body [] env) R s := by
  refine codeAny_forLoop_any (fun n s' => ∃ i, n = items.size - i ∧ J i s') ?_ items.size ⟨0, rfl, h0⟩
  rintro n s' ⟨i, rfl, hj⟩
  obtain ⟨hi, hit, hl⟩ := hJ i s' hj
  cases hg : items[i]? with
  | none =>
    have hi6 : i = items.size := by
      have : items.size ≤ i := by simpa using hg
      omega
    subst hi6
    obtain ⟨hh, hs⟩ := stop s' hj
    exact wpAny_pyNext_list_end hh hit hl hg fun h' he => wpAny_execs_nil (hs h' he)
  | some v =>
    have hlt : i < items.size := (Array.getElem?_eq_some_iff.mp hg).1
    refine wpAny_pyNext_list_item hit hl hg fun h' hit' hs => ?_
    refine wpAny_mono (Q := fun _ s₁ => s₁ = { s' with heap := h' }) (E := fun _ _ => False) (by unfold letOwnedTupleGo; exact wpAny_pure rfl) (fun _ s₁ e₁ => ?_) fun _ _ q => q.elim
    subst e₁
    refine wpAny_mono (step i v s' h' hg hj hit' hs) (fun _ s₂ h₂ => wpAny_mono h₂ (fun f s₃ h₃ => ?_) fun _ _ q => q) fun _ _ q => q
    cases f with
    | next => exact ⟨items.size - (i + 1), by omega, i + 1, rfl, h₃⟩
    | ret v => exact h₃
    | brk => exact h₃.elim
    | cont => exact h₃.elim
end
end Mine

end
section
open PySem PySem.W PyProof.Rows
set_option maxRecDepth 100000
set_option linter.unusedVariables false
namespace Mine
open PySem.Builtin.Re

/-! ## a call, its names given -/
def WithB (b : List (PySem.Str × Value)) (P : Prop) : Prop := P
theorem withB {P : Prop} (b : List (PySem.Str × Value)) (h : WithB b P) : P := h
section
variable {prog : Program} {w : World} {A A₀ : Around} {E : Value → Shared → Prop} {s : Shared} {K : Frag} {L : Addr} {h₀ base : Heap} {m mg mb : PySem.Str → Option Value} {p : Program} {loose : List PySem.Str} {mean : ExcName → Option Value} {Q : Value → Shared → Prop}
open PySem.Calls
theorem enterW {env : Env} {outer : List Env} {R : Result → Shared → Prop} {name qual : PySem.Str} {params : Arguments} {body : List Stmt} {scope : Scope} {dV kV doc pm cdv ct oc : Value} {an od : Option Addr} {osl : Array (Option Value)} {f : Addr} {args : Args} {binds : List (PySem.Str × Value)}
    (B : Below A₀ base outer h₀) (F : Fr h₀ L s.heap m) (X₀ : K.In h₀) (T : Top p loose mean mg mb h₀) (hA : A.frames = some (env :: outer)) (hf : env.frame = some L) (hke : env.scope.kind = .function)
    (ho : K.lookup f = some ⟨oc, od, .func (fnOf name qual params body scope dV kV doc pm an cdv ct), osl⟩) (hcd : codeIn K cdv qual = true) (hroom : A.depth < recursionLimit)
    (hbind : BindsTo s (fnOf name qual params body scope dV kV doc pm an cdv ct) args binds) (hloc : ∀ y ∈ binds, scope.names.lookup y.1 = some .local)
    (h : ∀ L' h₁, L' = s.heap.objs.size → Fr s.heap L' h₁ (fun y => binds.reverse.lookup y) → News s.heap L' h₁ [] → Below A base (env :: outer) s.heap → K.In s.heap → Top p loose mean mg mb s.heap →
      wpAny (model prog w) (A.deeper (envOf qual scope L' f cdv)) (execs body (envOf qual scope L' f cdv))
        (fun fl s' => R (.ok (.ret (match fl with | .ret v => v | _ => .none))) s')
        (fun e s' => wpAny (model prog w) (A.deeper (envOf qual scope L' f cdv)) (leaving (envOf qual scope L' f cdv) e) (fun _ s'' => R (.error e) s'') (fun e' s'' => R (.error e') s'') s')
        { s with heap := h₁, toks := s.toks + binds.length })
    (hco : scope.isCoroutine = false) (hgen : scope.isGenerator = false) (hk : scope.kind = .function)
    (hcell : ∀ x ∈ scope.names, x.2 ≠ .cell) : WithB binds (codeAny (model prog w) A (.call (.ref f) args) R s) :=
  enterS B F X₀ T hA hf hke ho hcd hroom hbind hloc h hco hgen hk hcell
end

/-! ## what a call has made -/
def Made (h h' : Heap) (own : List (Addr × Obj)) : Prop := (∀ b o, h.get? b = some o → h'.get? b = some o) ∧ ∀ p ∈ own, h'.get? p.1 = some p.2 ∧ h.get? p.1 = none
theorem Made.fr {h₀ h h' : Heap} {L : Addr} {m : PySem.Str → Option Value} {own : List (Addr × Obj)} (M : Made h h' own) (F : Fr h₀ L h m) : Fr h₀ L h' m := F.kept M.1
theorem Made.news {h₀ h h' : Heap} {L : Addr} {m : PySem.Str → Option Value} {own news : List (Addr × Obj)} (M : Made h h' own) (F : Fr h₀ L h m) (N : News h₀ L h news) : News h₀ L h' (own ++ news) := fun p hp => by
  rcases List.mem_append.mp hp with hp | hp
  · obtain ⟨h1, h2⟩ := M.2 p hp
    refine ⟨h1, fun e => ?_, ?_⟩
    · obtain ⟨o, es, ep, ho, _⟩ := F.ns
      rw [e, ho] at h2; cases h2
    · cases hq : h₀.get? p.1 with
      | none => rfl
      | some o => rw [F.keep _ _ hq] at h2; cases h2
  · exact ⟨M.1 _ _ (N p hp).1, (N p hp).2⟩
theorem made_of {h h' : Heap} {L : Addr} {m : PySem.Str → Option Value} {own : List (Addr × Obj)} (F : Fr h L h' m) (N : News h L h' own) : Made h h' own := ⟨F.keep, fun p hp => ⟨(N p hp).1, (N p hp).2.2⟩⟩

/-! ## the limits that were made -/
def IsI (o : Obj) : Prop := (∃ g dx a n ta tn tk, o = itemO g dx a n ta tn tk) ∨ o = dictOf [] 0
def ItemV (own : List (Addr × Obj)) (v : Value) (l : Lim) : Prop := ∃ x dx ta tn tk, v = .ref x ∧ (x, itemO l.1 dx (l.2.1 : Nat) (l.2.2 : Nat) ta tn tk) ∈ own ∧ (dx, dictOf [] 0) ∈ own
inductive ItemsIn (own : List (Addr × Obj)) : List Value → List Lim → Prop
  | nil : ItemsIn own [] []
  | cons {v l vs ls} : ItemV own v l → ItemsIn own vs ls → ItemsIn own (v :: vs) (l :: ls)
theorem ItemV.mono {own own' : List (Addr × Obj)} {v : Value} {l : Lim} (h : ItemV own v l) (k : ∀ p ∈ own, p ∈ own') : ItemV own' v l := by
  obtain ⟨x, dx, ta, tn, tk, h1, h2, h3⟩ := h
  exact ⟨x, dx, ta, tn, tk, h1, k _ h2, k _ h3⟩
theorem ItemsIn.mono {own own' : List (Addr × Obj)} (k : ∀ p ∈ own, p ∈ own') : ∀ {vs : List Value} {ls : List Lim}, ItemsIn own vs ls → ItemsIn own' vs ls
  | _, _, .nil => .nil
  | _, _, .cons h r => .cons (h.mono k) (r.mono k)
theorem ItemsIn.snoc {own : List (Addr × Obj)} {v : Value} {l : Lim} (h : ItemV own v l) : ∀ {vs : List Value} {ls : List Lim}, ItemsIn own vs ls → ItemsIn own (vs ++ [v]) (ls ++ [l])
  | _, _, .nil => .cons h .nil
  | _, _, .cons h' r => .cons h' (r.snoc h)
theorem ItemsIn.len {own : List (Addr × Obj)} : ∀ {vs : List Value} {ls : List Lim}, ItemsIn own vs ls → vs.length = ls.length
  | _, _, .nil => rfl
  | _, _, .cons _ r => by simp [r.len]
theorem isI_cls {o : Obj} (h : IsI o) {T : String} (hT : T ≠ "dict") : o.cls ≠ .type T := by
  rcases h with ⟨g, dx, a, n, ta, tn, tk, rfl⟩ | rfl
  · intro e; cases e
  · intro e
    have : ("dict" : String) = T := by injection e
    exact hT this.symm
theorem ne_cls {h : Heap} {a b : Addr} {o o' : Obj} (ha : h.get? a = some o) (hb : h.get? b = some o') (hc : o.cls ≠ o'.cls) : a ≠ b := fun e => by
  subst e; rw [ha] at hb; cases hb; exact hc rfl

section
variable {prog : Program} {w : World} {A : Around} {E : Value → Shared → Prop} {s : Shared} {h₀ : Heap} {L : Addr} {m : PySem.Str → Option Value} {news : List (Addr × Obj)} {Q : Value → Shared → Prop}
theorem lm_meth {D : Addr} {its : Array Value} {n : Nat} {name : PySem.Str} {id : String} {pl : Sem Bool} {Q : Value × List Value → Shared → Prop} (N : News h₀ L s.heap news) (hm : (D, PySem.W.listOf its n) ∈ news) (slot : Slot "list" name id) (hty : typeOf (.builtin id) = pure (.type "method_descriptor"))
    (h : Q (.builtin id, [.ref D]) s) : wpAny (model prog w) A (getMethod (.ref D) name pl) Q E s :=
  getMethod_builtin ⟨_, (N _ hm).1, rfl⟩ PySem.F.plainAttrs_list slot hty (fun a e => by cases e; exact ⟨_, (N _ hm).1, rfl⟩) h
theorem append_any {D : Addr} {its : List Value} {n : Nat} {x : Value} (F : Fr h₀ L s.heap m) (N : News h₀ L s.heap news) (hD : (D, PySem.W.listOf its.toArray n) ∈ news) (hsz : its.length ≤ 1000)
    (h : ∀ h', Fr h₀ L h' m → (∀ p ∈ news, p.1 ≠ D → h'.get? p.1 = some p.2) → (∃ n', h'.get? D = some (PySem.W.listOf (its ++ [x]).toArray n')) → Q .none { s with heap := h' }) :
    wpAny (model prog w) A (call (.builtin "list.append") [.ref D, x]) Q E s := by
  have h1000 : (1000 : Nat) ≤ sizeLine := by decide
  refine wpAny_list_append_plain ⟨n, (N _ hD).1⟩ (fun h' hp hs => h h' (F.change hs (N _ hD).2.1 (N _ hD).2.2) (fun p hp hne => (hs.2 _ hne).trans (N p hp).1) ?_) (by rw [List.size_toArray]; omega)
  obtain ⟨n', hn⟩ := hp
  refine ⟨n', ?_⟩
  rw [hn]
  simp
/-- a match of SINGLE at a piece -/
def MatchAt (u : PySem.Str) (ob ot : Obj) (t : Addr) : Prop := ∃ tk li, ob = matchObj 348 u tk li t ∧ ot = matchTup (itemV 0 (q0 u.cps) (q1 u.cps) (q2 u.cps) (q3 u.cps) (q4 u.cps) (q5 u.cps) (q6 u.cps) (q7 u.cps) nilV) 4 (q8 u.cps)
theorem m_singP {u : PySem.Str} {tk : Tok} (F : Fr h₀ L s.heap m) (N : News h₀ L s.heap news) (X : (hd.heap_39 w.params).In s.heap) (hu : u.cps.size ≤ 400) (P : PieceOk u.cps)
    (h : ∀ o ob t ot h', MatchAt u ob ot t → Fr h₀ L h' m → News h₀ L h' ((o, ob) :: (t, ot) :: news) → Q (.ref o) { s with heap := h' }) :
    wpAny (model prog w) A (call (.builtin "re.Pattern.match") [.ref 348, .str u tk]) Q E s := m_sing F N X ⟨hu, P.ok⟩ (parts_q P.ok P.acc) fun o t li h' F' N' => h o _ t _ h' ⟨tk, li, rfl, rfl⟩ F' N'
theorem m_truthy {u : PySem.Str} {o t : Addr} {ob ot : Obj} {Q : Bool → Shared → Prop} (M : MatchAt u ob ot t) (N : News h₀ L s.heap news) (ho : (o, ob) ∈ news) (h : Q true s) : wpAny (model prog w) A (truthy (.ref o)) Q E s := by
  obtain ⟨tk, li, rfl, rfl⟩ := M
  exact truthy_match ⟨_, (N _ ho).1, rfl⟩ h
theorem m_groups_meth {u : PySem.Str} {o t : Addr} {ob ot : Obj} {pl : Sem Bool} {Q : Value × List Value → Shared → Prop} (M : MatchAt u ob ot t) (N : News h₀ L s.heap news) (ho : (o, ob) ∈ news) (h : Q (.builtin "re.Match.groups", [.ref o]) s) :
    wpAny (model prog w) A (getMethod (.ref o) "groups" pl) Q E s := by
  obtain ⟨tk, li, rfl, rfl⟩ := M
  exact getMethod_builtin ⟨_, (N _ ho).1, rfl⟩ plainAttrs_match slot_re_groups type_re_groups (fun a e => by cases e; exact ⟨_, (N _ ho).1, rfl⟩) h
theorem sub_len {u : PySem.Str} (a b : Nat) (hu : u.cps.size ≤ 400) : (sub u a b).length ≤ 400 := by
  show (u.cps.extract a b).size ≤ 400
  rw [Array.size_extract]; omega
/-- the parts of a piece, the third there or not -/
structure GroupsAt (u x1 x4 : PySem.Str) (a : Nat) : Prop where
  int1 : PySem.intText? x1 = some (a : Int)
  len1 : x1.length ≤ 640
  len4 : x4.length ≤ 400
  name : grOf x4 = grW (rowOf u.cps).1
theorem groups_at {u : PySem.Str} (hu : u.cps.size ≤ 400) (P : PieceOk u.cps) : GroupsAt u (sub u (q0 u.cps) (q1 u.cps)) (sub u (q6 u.cps) (q7 u.cps)) (figs (seg u.cps (q0 u.cps) (q1 u.cps))) := by
  have P8 := parts_q P.ok P.acc
  have hord := P8.ord
  have hz := P8.z8
  refine ⟨int_figs hu P8.e1 (by omega) (by omega), Nat.le_trans (sub_len _ _ hu) (by decide), sub_len _ _ hu, ?_⟩
  show _ = grW ((seg u.cps (q6 u.cps) (q7 u.cps)).map lowc)
  exact grOf_eq P.ok P8.e7
theorem m_groups {u : PySem.Str} {o t : Addr} {ob ot : Obj} (M : MatchAt u ob ot t) (F : Fr h₀ L s.heap m) (N : News h₀ L s.heap news) (ho : (o, ob) ∈ news) (ht : (t, ot) ∈ news) (hu : u.cps.size ≤ 400) (P : PieceOk u.cps)
    (h1 : ∀ l h' x1 x2 x3 x4 a k t1 t2 t3 t4 tk', GroupsAt u x1 x4 a → PySem.intText? x3 = some ((k : Nat) : Int) → x3.length ≤ 640 → x3.length ≠ 0 → (rowOf u.cps).2 = (a, one k) → Fr h₀ L h' m → News h₀ L h' ((l, { cls := .type "tuple", data := .seq #[.str x1 t1, .str x2 t2, .str x3 t3, .str x4 t4] }) :: news) → Q (.ref l) { s with heap := h', toks := tk' })
    (h2 : ∀ l h' x1 x2 x4 a t1 t2 t4 tk', GroupsAt u x1 x4 a → (rowOf u.cps).2 = (a, 1) → Fr h₀ L h' m → News h₀ L h' ((l, { cls := .type "tuple", data := .seq #[.str x1 t1, .str x2 t2, .none, .str x4 t4] }) :: news) → Q (.ref l) { s with heap := h', toks := tk' }) :
    wpAny (model prog w) A (call (.builtin "re.Match.groups") [.ref o]) Q E s := by
  obtain ⟨tk, li, rfl, rfl⟩ := M
  have G := groups_at hu P
  have P8 := parts_q P.ok P.acc
  have hord := P8.ord
  have hz := P8.z8
  refine wp_groups F N (by omega) (N _ ho).1 (N _ ht).1 fun l h' t1 t2 t3 t4 tk' F' N' _ => ?_
  by_cases hq : q4 u.cps < q5 u.cps
  · rw [if_pos hq] at N'
    refine h1 l h' _ _ _ _ _ _ t1 t2 t3 t4 tk' G (int_figs hu P8.e5 hq (by omega)) (Nat.le_trans (sub_len _ _ hu) (by decide)) ?_ rfl F' N'
    show (u.cps.extract _ _).size ≠ 0
    rw [Array.size_extract]; omega
  · rw [if_neg hq] at N'
    refine h2 l h' _ _ _ _ t1 t2 t4 tk' G ?_ F' N'
    show (figs (seg u.cps (q0 u.cps) (q1 u.cps)), one (figs (seg u.cps (q4 u.cps) (q5 u.cps)))) = _
    have e : q5 u.cps = q4 u.cps := by omega
    rw [e, seg_nil]
    rfl
end

theorem gr_keep {w : World} (g : Gr) : keepIn (KF w) (.ref g.cls) = true := by cases g <;> kernel_rfl
def listIterO (l : Addr) (i : Nat) : Obj := { cls := .type "list_iterator", data := .fields #[.ref l, .int (i : Nat) 0] }
theorem list_iter {prog : Program} {w : World} {A : Around} {E : Value → Shared → Prop} {s : Shared} {h₀ : Heap} {L l : Addr} {m : PySem.Str → Option Value} {news : List (Addr × Obj)} {Q : Value → Shared → Prop} {its : Array Value} (F : Fr h₀ L s.heap m) (N : News h₀ L s.heap news) (hl : s.heap.IsList l its)
    (h : ∀ it h', Fr h₀ L h' m → News h₀ L h' ((it, listIterO l 0) :: news) → Q (.ref it) { s with heap := h' }) : wpAny (model prog w) A (pyIter (.ref l)) Q E s :=
  wpAny_pyIter_list hl (h _ _ (F.push _) (N.push F _))

/-! ## the turns of parse_many's loop -/
theorem strsAre_get : ∀ {vs : List Value} {ws : List PySem.Str}, StrsAre vs ws → ∀ {i : Nat} {v : Value}, vs[i]? = some v → ∃ u t, ws[i]? = some u ∧ v = .str u t
  | _, _, .nil, i, v, h => by simp at h
  | _, _, .cons a t r, 0, v, h => by
    have : .str a t = v := by simpa using h
    exact ⟨a, t, by simp, this.symm⟩
  | _, _, .cons a t r, i + 1, v, h => by
    obtain ⟨u, t', h1, h2⟩ := strsAre_get r (i := i) (v := v) (by simpa using h)
    exact ⟨u, t', by simpa using h1, h2⟩

theorem spl_ne {h₁ h : Heap} {L it spl lim : Addr} {o : Obj} {vs : List Value} {us : List PySem.Str} (N : News h₁ L h [(it, o), (spl, PySem.W.listOf vs.toArray 0), (lim, PySem.W.listOf #[] 0)]) (hv : StrsAre vs us) (hn : us ≠ []) : lim ≠ spl := by
  intro e
  have h1 := (N _ (.tail _ (.head _))).1
  have h2 := (N _ (.tail _ (.tail _ (.head _)))).1
  dsimp only at h1 h2
  rw [← e, h2] at h1
  have h3 := congrArg Obj.data (Option.some.inj h1)
  have h4 := StrsAre.len_eq hv
  have h5 : vs = [] := by
    have : Data.seq #[] 0 = Data.seq vs.toArray 0 := h3
    injection this with h6
    have := congrArg Array.toList h6
    simpa using this.symm
  rw [h5] at h4
  exact hn (List.eq_nil_of_length_eq_zero (by simpa using h4.symm))

section
variable {w : World} {prog : Program} {A : Around} {s : Shared} {L : Addr} {m : PySem.Str → Option Value}
theorem many_fr {env : Env} {R : Result → Shared → Prop} {y : PySem.Str} {yp : Pos} {body : List Stmt} {it spl lim : Addr} {h₁ : Heap} {vs : List Value} {us : List PySem.Str} {rows : List (List Nat × Nat × Nat)}
    (F : Fr h₁ L s.heap m) (N : News h₁ L s.heap [(it, listIterO spl 0), (spl, PySem.W.listOf vs.toArray 0), (lim, PySem.W.listOf #[] 0)]) (hm : m "limits" = some (.ref lim)) (hv : StrsAre vs us) (hrows : rows = us.map fun u => rowOf u.cps)
    (step : ∀ (i : Nat) u t ls own its n h' tk' (m₁ : PySem.Str → Option Value) (o : Obj), us[i]? = some u → allLim (rows.take i) = some ls → its.length = i → ItemsIn own its ls → (∀ p ∈ own, IsI p.2) → o.cls = .type "list_iterator" → Fr h₁ L h' (fun y => if y = Str.ofString "limits" then some (.ref lim) else m₁ y) →
      News h₁ L h' ((it, o) :: (spl, PySem.W.listOf vs.toArray 0) :: (lim, PySem.W.listOf its.toArray n) :: own) →
      wpAny (model prog w) A (assign (.Name y yp) env (.str u t)) (fun _ s₂ => wpAny (model prog w) A (execs body env) (fun f s₃ => match f with
        | .next => Hold (∃ l x own' h'' tk'' n', ∃ (m₂ : PySem.Str → Option Value), limOf (rowOf u.cps) = some l ∧ s₃ = { s with heap := h'', toks := tk'' } ∧ m₂ "limits" = some (.ref lim) ∧ Fr h₁ L h'' m₂ ∧
            News h₁ L h'' ((it, o) :: (spl, PySem.W.listOf vs.toArray 0) :: (lim, PySem.W.listOf (its ++ [x]).toArray n') :: own') ∧ ItemsIn own' (its ++ [x]) (ls ++ [l]) ∧ (∀ p ∈ own', IsI p.2))
        | .ret v => R (.ok (.ret v)) s₃ | _ => False) (notedBy (model prog w) A env fun e s' => R (.error e) s') s₂) (notedBy (model prog w) A env fun e s' => R (.error e) s') { s with heap := h', toks := tk' })
    (stop : ∀ ls own its n tk' (m₁ : PySem.Str → Option Value), allLim rows = some ls → ItemsIn own its ls → (∀ p ∈ own, IsI p.2) → A.handled = none ∧ (∀ h'', Fr h₁ L h'' (fun y => if y = Str.ofString "limits" then some (.ref lim) else m₁ y) → News h₁ L h'' ((lim, PySem.W.listOf its.toArray n) :: own) →
      R (.ok .next) { s with heap := h'', toks := tk' })) :
    codeAny (model prog w) A (.forLoop (.Name y yp) (.ref it) body [] env) R s := by
  refine list_loop (l := spl) (items := vs.toArray) (fun i s' => ∃ ls own its n h' tk', ∃ (m₁ : PySem.Str → Option Value) (o : Obj), s' = { s with heap := h', toks := tk' } ∧ i ≤ vs.length ∧ allLim (rows.take i) = some ls ∧ its.length = i ∧ ItemsIn own its ls ∧ (∀ p ∈ own, IsI p.2) ∧
      o.cls = .type "list_iterator" ∧ o.data = .fields #[.ref spl, .int (i : Nat) 0] ∧ m₁ "limits" = some (.ref lim) ∧ Fr h₁ L h' m₁ ∧ News h₁ L h' ((it, o) :: (spl, PySem.W.listOf vs.toArray 0) :: (lim, PySem.W.listOf its.toArray n) :: own)) ?_ ?_ ?_ ?_
  · rintro i s' ⟨ls, own, its, n, h', tk', m₁, o, rfl, hi, hls, hil, hI, hO, hoc, hod, hm₁, F', N'⟩
    exact ⟨by simpa using hi, ⟨o, (N' _ (.head _)).1, hoc, hod⟩, News.isList N' (.tail _ (.head _))⟩
  · rintro i v s' h'' hg ⟨ls, own, its, n, h', tk', m₁, o, rfl, hi, hls, hil, hI, hO, hoc, hod, hm₁, F', N'⟩ hit hs
    have hg' : vs[i]? = some v := by simpa using hg
    obtain ⟨u, t, hu, rfl⟩ := strsAre_get hv hg'
    obtain ⟨o2, ho2, hc2, hd2⟩ := hit
    have nit : ∀ p ∈ ((spl, PySem.W.listOf vs.toArray 0) :: (lim, PySem.W.listOf its.toArray n) :: own), p.1 ≠ it := fun p hp => by
      have hp' := (N' p (.tail _ hp)).1
      refine ne_cls hp' (N' _ (.head _)).1 ?_
      rw [hoc]
      rcases List.mem_cons.mp hp with rfl | hp
      · show Value.type "list" ≠ _; decide
      · rcases List.mem_cons.mp hp with rfl | hp
        · show Value.type "list" ≠ _; decide
        · exact isI_cls (hO p hp) (by decide)
    have F'' : Fr h₁ L h'' m₁ := F'.change hs (N' _ (.head _)).2.1 (N' _ (.head _)).2.2
    have N'' := N'.setHead nit hs ho2
    have hmm : m₁ = fun y => if y = Str.ofString "limits" then some (.ref lim) else m₁ y := same_upd hm₁
    rw [hmm] at F''
    refine wpAny_mono (step i u t ls own its n h'' tk' m₁ o2 hu hls hil hI hO hc2 F'' N'') (fun _ s₂ h₂ => wpAny_mono h₂ (fun f s₃ h₃ => ?_) fun _ _ q => q) fun _ _ q => q
    cases f with
    | next =>
      obtain ⟨l, x, own', h3, tk3, n', m₂, hl, rfl, hm₂, F3, N3, hI3, hO3⟩ := h₃
      have hrow : rows[i]? = some (rowOf u.cps) := by rw [hrows, List.getElem?_map, hu]; rfl
      exact ⟨ls ++ [l], own', its ++ [x], n', h3, tk3, m₂, o2, rfl, (List.getElem?_eq_some_iff.mp hg').1, allLim_step hls hrow hl, by simp [hil], hI3, hO3, hc2, hd2, hm₂, F3, N3⟩
    | ret v => exact h₃
    | brk => exact h₃.elim
    | cont => exact h₃.elim
  · rintro s' ⟨ls, own, its, n, h', tk', m₁, o, rfl, hi, hls, hil, hI, hO, hoc, hod, hm₁, F', N'⟩
    have hfull : rows.take vs.toArray.size = rows := by
      rw [hrows]
      have := StrsAre.len_eq hv
      rw [List.take_of_length_le]
      rw [List.length_map, List.size_toArray]; omega
    rw [hfull] at hls
    obtain ⟨hh, hst⟩ := stop ls own its n tk' m₁ hls hI hO
    refine ⟨hh, fun h'' he => ?_⟩
    have hmm : m₁ = fun y => if y = Str.ofString "limits" then some (.ref lim) else m₁ y := same_upd hm₁
    rw [hmm] at F'
    have nit := (N' (it, o) (.head _))
    refine hst h'' ⟨F'.ns.extBut he (Ne.symm nit.2.1), fun b ob hb => he b ob (fun q => by subst q; rw [show h₁.get? b = none from nit.2.2] at hb; cases hb) (F'.keep b ob hb), F'.above⟩ fun p hp => ?_
    have hp' := N' p (.tail _ (.tail _ hp))
    refine ⟨he _ _ (ne_cls hp'.1 nit.1 ?_) hp'.1, hp'.2⟩
    rw [hoc]
    rcases List.mem_cons.mp hp with rfl | hp
    · show Value.type "list" ≠ _; decide
    · exact isI_cls (hO p hp) (by decide)
  · exact ⟨[], [], [], 0, s.heap, s.toks, m, listIterO spl 0, rfl, Nat.zero_le _, by rw [List.take_zero]; rfl, rfl, .nil, (fun p hp => by cases hp), rfl, rfl, hm, F, N⟩
end

theorem many_next {h₁ h9 h9' : Heap} {s : Shared} {L it spl lim x dx : Addr} {tk : Nat} {o8 : Obj} {vs its : List Value} {n a k : Nat} {own : List (Addr × Obj)} {c1 c2 c3 : Addr × Obj} {g : Gr} {mn : Int} {t1 t2 t3 : Tok} {u x1 x4 : PySem.Str} {ls : List Lim} {m₂ : PySem.Str → Option Value}
    (F : Fr h₁ L h9' m₂) (hm : m₂ (Str.ofString "limits") = some (.ref lim)) (N : News h₁ L h9 ((x, itemO g dx (a : Nat) mn t1 t2 t3) :: (dx, dictOf [] 0) :: c1 :: c2 :: c3 :: (it, o8) :: (spl, PySem.W.listOf vs.toArray 0) :: (lim, PySem.W.listOf its.toArray n) :: own))
    (K : ∀ p ∈ ((x, itemO g dx (a : Nat) mn t1 t2 t3) :: (dx, dictOf [] 0) :: c1 :: c2 :: c3 :: (it, o8) :: (spl, PySem.W.listOf vs.toArray 0) :: (lim, PySem.W.listOf its.toArray n) :: own), p.1 ≠ lim → h9'.get? p.1 = some p.2)
    (D : ∃ n', h9'.get? lim = some (PySem.W.listOf (its ++ [Value.ref x]).toArray n')) (hne : lim ≠ spl) (hoc : o8.cls = .type "list_iterator") (hO : ∀ p ∈ own, IsI p.2) (hI : ItemsIn own its ls)
    (G : GroupsAt u x1 x4 a) (hg : grOf x4 = some g) (hr : (rowOf u.cps).2 = (a, k)) (hk : mn = ((k : Nat) : Int)) :
    Hold (∃ l x own' h'' tk'' n', ∃ (m₂ : PySem.Str → Option Value), limOf (rowOf u.cps) = some l ∧ ({ s with heap := h9', toks := tk } : Shared) = { s with heap := h'', toks := tk'' } ∧ m₂ "limits" = some (.ref lim) ∧ Fr h₁ L h'' m₂ ∧
            News h₁ L h'' ((it, o8) :: (spl, PySem.W.listOf vs.toArray 0) :: (lim, PySem.W.listOf (its ++ [x]).toArray n') :: own') ∧ ItemsIn own' (its ++ [x]) (ls ++ [l]) ∧ (∀ p ∈ own', IsI p.2)) := by
  obtain ⟨n', hD⟩ := D
  subst hk
  have hlim : h9.get? lim = some (PySem.W.listOf its.toArray n) := (N (lim, PySem.W.listOf its.toArray n) (by simp)).1
  have hl : limOf (rowOf u.cps) = some (g, a, k) := by
    unfold limOf
    rw [← G.name, hg, hr]; rfl
  have key : ∀ p ∈ ((x, itemO g dx (a : Nat) (k : Nat) t1 t2 t3) :: (dx, dictOf [] 0) :: c1 :: c2 :: c3 :: (it, o8) :: (spl, PySem.W.listOf vs.toArray 0) :: (lim, PySem.W.listOf its.toArray n) :: own), p.1 ≠ lim → h9'.get? p.1 = some p.2 ∧ p.1 ≠ L ∧ h₁.get? p.1 = none := fun p hp hne => ⟨K p hp hne, (N p hp).2⟩
  have hI' : ∀ p ∈ ((x, itemO g dx (a : Nat) (k : Nat) t1 t2 t3) :: (dx, dictOf [] 0) :: own), IsI p.2 := fun p hp => by
    rcases List.mem_cons.mp hp with rfl | hp
    · exact .inl ⟨_, _, _, _, _, _, _, rfl⟩
    · rcases List.mem_cons.mp hp with rfl | hp
      · exact .inr rfl
      · exact hO p hp
  have hne' : ∀ p ∈ ((x, itemO g dx (a : Nat) (k : Nat) t1 t2 t3) :: (dx, dictOf [] 0) :: c1 :: c2 :: c3 :: (it, o8) :: (spl, PySem.W.listOf vs.toArray 0) :: (lim, PySem.W.listOf its.toArray n) :: own), IsI p.2 → p.1 ≠ lim := fun p hp hi => ne_cls (N p hp).1 hlim (by show _ ≠ Value.type "list"; exact isI_cls hi (by decide))
  refine ⟨(g, a, k), .ref x, (x, itemO g dx (a : Nat) (k : Nat) t1 t2 t3) :: (dx, dictOf [] 0) :: own, h9', tk, n', m₂, hl, rfl, hm, F, ?_, ?_, hI'⟩
  · intro p hp
    rcases List.mem_cons.mp hp with rfl | hp
    · exact key _ (by simp) (ne_cls (N (it, o8) (by simp)).1 hlim (by rw [hoc]; show _ ≠ Value.type "list"; decide))
    · rcases List.mem_cons.mp hp with rfl | hp
      · exact key _ (by simp) (Ne.symm hne)
      · rcases List.mem_cons.mp hp with rfl | hp
        · exact ⟨hD, (N (lim, PySem.W.listOf its.toArray n) (by simp)).2⟩
        · have hp' : p ∈ ((x, itemO g dx (a : Nat) (k : Nat) t1 t2 t3) :: (dx, dictOf [] 0) :: c1 :: c2 :: c3 :: (it, o8) :: (spl, PySem.W.listOf vs.toArray 0) :: (lim, PySem.W.listOf its.toArray n) :: own) := by
            rcases List.mem_cons.mp hp with rfl | hp
            · exact .head _
            · rcases List.mem_cons.mp hp with rfl | hp
              · exact .tail _ (.head _)
              · exact .tail _ (.tail _ (.tail _ (.tail _ (.tail _ (.tail _ (.tail _ (.tail _ hp)))))))
          exact key p hp' (hne' p hp' (hI' p hp))
  · refine ItemsIn.snoc (l := (g, a, k)) ⟨x, dx, t1, t2, t3, rfl, .head _, .tail _ (.head _)⟩ (hI.mono fun p hp => .tail _ (.tail _ hp))
theorem one_int (k : Nat) : (if (k : Int) = 0 then 1 else (k : Int)) = ((one k : Nat) : Int) := by
  unfold one
  by_cases h : k = 0
  · simp [h]
  · rw [if_neg (by omega), if_neg h]
theorem limOf_bad {u x1 x4 : PySem.Str} {a : Nat} (G : GroupsAt u x1 x4 a) (hg : grOf x4 = none) : limOf (rowOf u.cps) = none := by
  unfold limOf
  rw [← G.name, hg]; rfl
end Mine

end
section
open PySem PySem.W PyProof.Rows
set_option maxRecDepth 100000
set_option linter.unusedVariables false
namespace Mine
/-! ## the turns of a loop over a text -/
def strIt (x : PySem.Str) : String := if x.cps.all (· < 128) = true then "str_ascii_iterator" else "str_iterator"
def strItO (x : PySem.Str) (t : Tok) (i : Nat) : Obj := { cls := .type (strIt x), data := .fields #[.str x t, .int (i : Nat) 0] }
section
variable {prog : Program} {w : World} {A : Around} {E : Value → Shared → Prop} {s : Shared}
theorem str_iter {h₀ : Heap} {L : Addr} {m : PySem.Str → Option Value} {news : List (Addr × Obj)} {x : PySem.Str} {t : Tok} {Q : Value → Shared → Prop} (F : Fr h₀ L s.heap m) (N : News h₀ L s.heap news)
    (h : ∀ it h', Fr h₀ L h' m → News h₀ L h' ((it, strItO x t 0) :: news) → Q (.ref it) { s with heap := h' }) : wpAny (model prog w) A (pyIter (.str x t)) Q E s := by
  by_cases ha : x.cps.all (· < 128) = true
  · have e : strItO x t 0 = { cls := .type "str_ascii_iterator", data := .fields #[.str x t, .int 0 0] } := by unfold strItO strIt; rw [if_pos ha]; rfl
    refine PySem.wpAny_pyIter_ascii ha ?_
    have := h _ _ (F.push (strItO x t 0)) (N.push F (strItO x t 0))
    rw [e] at this
    exact this
  · have e : strItO x t 0 = { cls := .type "str_iterator", data := .fields #[.str x t, .int 0 0] } := by unfold strItO strIt; rw [if_neg ha]; rfl
    refine PySem.wpAny_pyIter_wide (by simpa using ha) ?_
    have := h _ _ (F.push (strItO x t 0)) (N.push F (strItO x t 0))
    rw [e] at this
    exact this
theorem str_next {it : Addr} {x : PySem.Str} {t : Tok} {i c : Nat} {Q : Option Value → Shared → Prop} (hit : s.heap.IsStrIter it (strIt x) x t i) (hx : x.cps[i]? = some c)
    (hQ : ∀ h', h'.IsStrIter it (strIt x) x t (i + 1) → Heap.SameBut it s.heap h' → Q (some (.str ⟨#[c]⟩ s.toks)) { s with heap := h', toks := s.toks + 1 }) :
    wpAny (model prog w) A (pyNext (.ref it)) Q E s := by
  by_cases ha : x.cps.all (· < 128) = true
  · have e : strIt x = "str_ascii_iterator" := if_pos ha
    rw [e] at hit hQ
    exact PySem.wpAny_pyNext_ascii_item hit hx hQ
  · have e : strIt x = "str_iterator" := if_neg ha
    rw [e] at hit hQ
    exact PySem.wpAny_pyNext_wide_item hit hx hQ
theorem str_stop {it : Addr} {x : PySem.Str} {t : Tok} {i : Nat} {Q : Option Value → Shared → Prop} (hh : A.handled = none) (hit : s.heap.IsStrIter it (strIt x) x t i) (hx : x.cps[i]? = none)
    (hQ : ∀ h', Heap.ExtBut it s.heap h' → Q none { s with heap := h' }) : wpAny (model prog w) A (pyNext (.ref it)) Q E s := by
  by_cases ha : x.cps.all (· < 128) = true
  · have e : strIt x = "str_ascii_iterator" := if_pos ha
    rw [e] at hit
    exact PySem.wpAny_pyNext_ascii_end hh hit hx hQ
  · have e : strIt x = "str_iterator" := if_neg ha
    rw [e] at hit
    exact PySem.wpAny_pyNext_wide_end hh hit hx hQ
theorem str_loop {env : Env} {R : Result → Shared → Prop} {y : PySem.Str} {yp : Pos} {body : List Stmt} {it : Addr} {x : PySem.Str} {t : Tok} (J : Nat → Shared → Prop)
    (hJ : ∀ i s', J i s' → i ≤ x.cps.size ∧ s'.heap.IsStrIter it (strIt x) x t i)
    (step : ∀ i c s' h', x.cps[i]? = some c → J i s' → h'.IsStrIter it (strIt x) x t (i + 1) → Heap.SameBut it s'.heap h' →
      wpAny (model prog w) A (assign (.Name y yp) env (.str ⟨#[c]⟩ s'.toks)) (fun _ s₂ => wpAny (model prog w) A (execs body env) (fun f s₃ => match f with | .next => J (i + 1) s₃ | .cont => J (i + 1) s₃ | .ret v => R (.ok (.ret v)) s₃ | .brk => False) (notedBy (model prog w) A env fun e s' => R (.error e) s') s₂) (notedBy (model prog w) A env fun e s' => R (.error e) s') { s' with heap := h', toks := s'.toks + 1 })
    (stop : ∀ s', J x.cps.size s' → A.handled = none ∧ ∀ h', Heap.ExtBut it s'.heap h' → R (.ok .next) { s' with heap := h' })
    (h0 : J 0 s) : codeAny (model prog w) A (.forLoop (.Name y yp) (.ref it) body [] env) R s := by
  refine codeAny_forLoop_any (fun n s' => ∃ i, n = x.cps.size - i ∧ J i s') ?_ x.cps.size ⟨0, rfl, h0⟩
  rintro n s' ⟨i, rfl, hj⟩
  obtain ⟨hi, hit⟩ := hJ i s' hj
  cases hg : x.cps[i]? with
  | none =>
    have hi6 : i = x.cps.size := by
      have : x.cps.size ≤ i := by simpa using hg
      omega
    subst hi6
    obtain ⟨hh, hs⟩ := stop s' hj
    exact str_stop hh hit hg fun h' he => wpAny_execs_nil (hs h' he)
  | some c =>
    have hlt : i < x.cps.size := (Array.getElem?_eq_some_iff.mp hg).1
    refine str_next hit hg fun h' hit' hs => ?_
    refine wpAny_mono (Q := fun _ s₁ => s₁ = { s' with heap := h', toks := s'.toks + 1 }) (E := fun _ _ => False) (by unfold letOwnedTupleGo; exact wpAny_pure rfl) (fun _ s₁ e₁ => ?_) fun _ _ q => q.elim
    subst e₁
    refine wpAny_mono (step i c s' h' hg hj hit' hs) (fun _ s₂ h₂ => wpAny_mono h₂ (fun f s₃ h₃ => ?_) fun _ _ q => q) fun _ _ q => q
    cases f with
    | next => exact ⟨x.cps.size - (i + 1), by omega, i + 1, rfl, h₃⟩
    | ret v => exact h₃
    | brk => exact h₃.elim
    | cont => exact ⟨x.cps.size - (i + 1), by omega, i + 1, rfl, h₃⟩
end
end Mine

end
section
open PySem PySem.W PyProof.Rows
set_option maxRecDepth 100000
set_option linter.unusedVariables false
namespace Mine

/-! ## a list made item by item -/
def IsTupO (o : Obj) : Prop := ∃ its n, o = { cls := .type "tuple", data := .seq its n }
/-- the object that holds a comprehension's own names -/
def IsNs (o : Obj) (m : PySem.Str → Option Value) : Prop := ∃ es ep, o.data = .dict es ep ∧ StrKeys es ∧ ∀ name, nsFind es name = m name
theorem IsNs.ns {h : Heap} {C : Addr} {o : Obj} {m : PySem.Str → Option Value} (i : IsNs o m) (hC : h.get? C = some o) : h.Ns C m := by
  obtain ⟨es, ep, h1, h2, h3⟩ := i
  exact ⟨o, es, ep, hC, h1, h2, h3⟩
theorem ns_is {h : Heap} {C : Addr} {m : PySem.Str → Option Value} (i : h.Ns C m) : ∃ o, h.get? C = some o ∧ IsNs o m := by
  obtain ⟨o, es, ep, h0, h1, h2, h3⟩ := i
  exact ⟨o, h0, es, ep, h1, h2, h3⟩
theorem ne_ns_seq {h : Heap} {a b : Addr} {o o' : Obj} {m : PySem.Str → Option Value} {its : Array Value} {n : Nat} (i : IsNs o m) (ha : h.get? a = some o) (hb : h.get? b = some o') (hd : o'.data = .seq its n) : b ≠ a := by
  intro e; subst e
  rw [ha] at hb; cases hb
  obtain ⟨es, ep, h1, _⟩ := i
  rw [h1] at hd; cases hd
theorem ne_ns_fields {h : Heap} {a b : Addr} {o o' : Obj} {m : PySem.Str → Option Value} {its : Array Value} (i : IsNs o m) (ha : h.get? a = some o) (hb : h.get? b = some o') (hd : o'.data = .fields its) : b ≠ a := by
  intro e; subst e
  rw [ha] at hb; cases hb
  obtain ⟨es, ep, h1, _⟩ := i
  rw [h1] at hd; cases hd

section
variable {prog : Program} {w : World} {A : Around} {E : Value → Shared → Prop} {s : Shared} {env : Env} {h₁ : Heap} {L it l : Addr} {m : PySem.Str → Option Value} {vs : List Value} {elt iter : Expr} {x : PySem.Str} {px pos : Pos} {scope : Scope} {Q : Value → Shared → Prop}
theorem comp_go (J : Nat → List (Addr × Obj) → List Value → Prop) (hh : A.handled = none) (F : Fr h₁ L s.heap m) (N : News h₁ L s.heap [(it, listIterO l 0)]) (hl : h₁.IsList l vs.toArray) (hvs : vs.length ≤ 1000) (hJ0 : J 0 [] []) (hJlen : ∀ i own outs, J i own outs → outs.length = i) (hJtup : ∀ i own outs, J i own outs → ∀ p ∈ own, IsTupO p.2)
    (hcell : ∀ y ∈ scope.names, y.2 ≠ .cell) (hkind : scope.kind = .function) (hx : scope.names.lookup x = some .local)
    (turn : ∀ (i : Nat) v own outs C oC D n o h' tk' (mC : PySem.Str → Option Value), vs[i]? = some v → J i own outs → IsNs oC (fun y => if y = x then some v else mC y) → Fr h₁ L h' m → News h₁ L h' ((C, oC) :: (it, o) :: (D, PySem.W.listOf outs.toArray n) :: own) →
      wpAny (model prog w) A (eval elt (compEnv scope C env)) (fun y s₃ => Hold (∃ own' h'' tk'', s₃ = { s with heap := h'', toks := tk'' } ∧ J (i + 1) own' (outs ++ [y]) ∧ Fr h₁ L h'' m ∧ News h₁ L h'' ((C, oC) :: (it, o) :: (D, PySem.W.listOf outs.toArray n) :: own'))) (fun _ _ => False) { s with heap := h', toks := tk' })
    (done : ∀ D outs own n h' tk', J vs.length own outs → Fr h₁ L h' m → News h₁ L h' ((D, PySem.W.listOf outs.toArray n) :: own) → Q (.ref D) { s with heap := h', toks := tk' }) :
    wpAny (model prog w) A (newList []) (fun acc s₃ => wpAny (model prog w) A (newFunctionEnv scope env.globals [] [] env.qual none .none (some env)) (fun cenv s₄ =>
      codeAny (model prog w) A (.compStart (.ListComp elt [⟨.Name x px, iter, [], 0⟩] scope pos) 0 (.ref it) acc { cenv with scope := scope })
        (fun r s' => ∃ m, s'.heap.Ns cenv.locals m ∧ ∀ h', Heap.SameBut cenv.locals s'.heap h' →
          match r with | .ok _ => Q acc { s' with heap := h' } | .error x => wpAny (model prog w) A (PySem.passOn "comprehension.variables-let-go" x { cenv with scope := scope }) Q E { s' with heap := h' }) s₄) E s₃) E s := by
  have h1000 : (1000 : Nat) ≤ sizeLine := by decide
  refine wpAny_newObj_type (wpAny_newFunctionEnv hcell (by intro y hy; simp at hy) (fun h2 hns hsb => ?_) hkind)
  dsimp only at hns hsb ⊢
  have F1 := F.push { cls := .type "list", data := .seq ([] : List Value).toArray }
  have N1 := N.push F { cls := .type "list", data := .seq ([] : List Value).toArray }
  generalize hD : s.heap.objs.size = D at *
  generalize hH : s.heap.push { cls := .type "list", dict := none, data := .seq ([] : List Value).toArray } = H at *
  have F2 := F1.push { cls := .type "dict", data := .dict #[] }
  have N2 := N1.push F1 { cls := .type "dict", data := .dict #[] }
  generalize hC : H.objs.size = C at *
  have F3 : Fr h₁ L h2 m := F2.change hsb (N2 _ (.head _)).2.1 (N2 _ (.head _)).2.2
  obtain ⟨oC, hoC, iC⟩ := ns_is hns
  have nC : ∀ p ∈ [(D, ({ cls := .type "list", data := .seq ([] : List Value).toArray } : Obj)), (it, listIterO l 0)], p.1 ≠ C := fun p hp => by
    rw [← hC]
    have := Heap.lt_size (N1 p hp).1
    exact Nat.ne_of_lt this
  have N3 := N2.setHead nC hsb hoC
  -- the loop
  have loop : ∀ s3 : Shared, s3 = { s with heap := h2, toks := s.toks + ([] : List (PySem.Str × Value)).length } →
      codeAny (model prog w) A (.compLoop (.ListComp elt [⟨.Name x px, iter, [], 0⟩] scope pos) 0 (.ref it) (.ref D) (compEnv scope C env))
        (fun r s' => ∃ m, s'.heap.Ns C m ∧ ∀ h', Heap.SameBut C s'.heap h' →
          match r with | .ok _ => Q (.ref D) { s' with heap := h' } | .error x => wpAny (model prog w) A (PySem.passOn "comprehension.variables-let-go" x (compEnv scope C env)) Q E { s' with heap := h' }) s3 := by
    rintro s3 rfl
    refine codeAny_compLoop_list (fun k s' => ∃ i own outs n h' tk' oC o, ∃ (mC : PySem.Str → Option Value), k = vs.length - i ∧ i ≤ vs.length ∧ J i own outs ∧ s' = { s with heap := h', toks := tk' } ∧ IsNs oC mC ∧ o.cls = .type "list_iterator" ∧ o.data = .fields #[.ref l, .int (i : Nat) 0] ∧ Fr h₁ L h' m ∧ News h₁ L h' ((C, oC) :: (it, o) :: (D, PySem.W.listOf outs.toArray n) :: own)) ?_ vs.length ?_
    · rintro k s' ⟨i, own, outs, n, h', tk', oC, o, mC, rfl, hi, hj, rfl, iC, hoc, hod, F', N'⟩
      have hl' : h'.IsList l vs.toArray := by
        obtain ⟨ol, hol, r⟩ := hl
        exact ⟨ol, F'.keep _ _ hol, r⟩
      have hit : h'.IsListIter it l i := ⟨o, (N' (it, o) (.tail _ (.head _))).1, hoc, hod⟩
      have hit' := N' (it, o) (.tail _ (.head _))
      have htup := hJtup _ _ _ hj
      have nit : ∀ p ∈ ((C, oC) :: (D, PySem.W.listOf outs.toArray n) :: own), p.1 ≠ it := fun p hp => by
        rcases List.mem_cons.mp hp with rfl | hp
        · exact Ne.symm (ne_ns_fields iC (N' (C, oC) (.head _)).1 hit'.1 hod)
        · have hp' := N' p (.tail _ (.tail _ hp))
          refine ne_cls hp'.1 hit'.1 ?_
          rw [hoc]
          rcases List.mem_cons.mp hp with rfl | hp
          · show Value.type "list" ≠ _; decide
          · obtain ⟨its, k, e⟩ := htup p hp
            rw [e]; show Value.type "tuple" ≠ _; decide
      cases hg : vs[i]? with
      | none =>
        have hi' : i = vs.length := by
          have : vs.length ≤ i := by simpa using hg
          omega
        refine wpAny_pyNext_list_end hh hit hl' (by simpa using hg) fun h'' he => ?_
        have keep : ∀ p ∈ ((C, oC) :: (D, PySem.W.listOf outs.toArray n) :: own), h''.get? p.1 = some p.2 := fun p hp => he _ _ (nit p hp) (by
          rcases List.mem_cons.mp hp with rfl | hp
          · exact (N' (C, oC) (.head _)).1
          · exact (N' p (.tail _ (.tail _ hp))).1)
        have F'' : Fr h₁ L h'' m := ⟨F'.ns.extBut he (Ne.symm hit'.2.1), fun b ob hb => he b ob (fun q => by subst q; rw [hit'.2.2] at hb; cases hb) (F'.keep b ob hb), F'.above⟩
        refine ⟨mC, iC.ns (keep _ (.head _)), fun h3 hs3 => ?_⟩
        have nC' : ∀ p ∈ ((D, PySem.W.listOf outs.toArray n) :: own), p.1 ≠ C := fun p hp => by
          have hp' := (N' p (.tail _ (.tail _ hp))).1
          rcases List.mem_cons.mp hp with rfl | hp
          · exact ne_ns_seq iC (N' (C, oC) (.head _)).1 hp' rfl
          · obtain ⟨its, k, e⟩ := htup p hp
            exact ne_ns_seq iC (N' (C, oC) (.head _)).1 hp' (by rw [e])
        subst hi'
        refine done D outs own n h3 tk' hj (F''.change hs3 (N' (C, oC) (.head _)).2.1 (N' (C, oC) (.head _)).2.2) fun p hp => ?_
        exact ⟨(hs3.2 _ (nC' p hp)).trans (keep p (.tail _ hp)), (N' p (.tail _ (.tail _ hp))).2⟩
      | some v =>
        refine wpAny_pyNext_list_item hit hl' (by simpa using hg) fun h3 hit3 hs3 => ?_
        obtain ⟨o3, ho3, hc3, hd3⟩ := hit3
        have F3 : Fr h₁ L h3 m := F'.change hs3 hit'.2.1 hit'.2.2
        have keep3 : ∀ p ∈ ((C, oC) :: (D, PySem.W.listOf outs.toArray n) :: own), h3.get? p.1 = some p.2 := fun p hp => (hs3.2 _ (nit p hp)).trans (by
          rcases List.mem_cons.mp hp with rfl | hp
          · exact (N' (C, oC) (.head _)).1
          · exact (N' p (.tail _ (.tail _ hp))).1)
        refine wpAny_assign_Name (wpAny_storeName_local (env := compEnv scope C env) hx (iC.ns (keep3 _ (.head _))) (fun h4 hn4 hs4 => ?_) (by show (scope.kind == .class || (scope.kind == .module && _)) = false; rw [hkind]; rfl))
        obtain ⟨oC4, hoC4, iC4⟩ := ns_is hn4
        have hCn := (N' (C, oC) (.head _)).2
        have F4 : Fr h₁ L h4 m := F3.change hs4 hCn.1 hCn.2
        have N4 : News h₁ L h4 ((C, oC4) :: (it, o3) :: (D, PySem.W.listOf outs.toArray n) :: own) := fun p hp => by
          rcases List.mem_cons.mp hp with rfl | hp
          · exact ⟨hoC4, hCn⟩
          · rcases List.mem_cons.mp hp with rfl | hp
            · refine ⟨(hs4.2 _ ?_).trans ho3, hit'.2⟩
              exact ne_ns_fields iC (keep3 _ (.head _)) ho3 hd3
            · refine ⟨(hs4.2 _ ?_).trans (keep3 p (.tail _ hp)), (N' p (.tail _ (.tail _ hp))).2⟩
              rcases List.mem_cons.mp hp with rfl | hp
              · exact ne_ns_seq iC (keep3 _ (.head _)) (keep3 _ (.tail _ (.head _))) rfl
              · obtain ⟨its, k, e⟩ := htup p hp
                exact ne_ns_seq iC (keep3 _ (.head _)) (keep3 p (.tail _ (.tail _ hp))) (by rw [e])
        dsimp only
        refine wpAny_mono (turn i v own outs C oC4 D n o3 h4 _ _ hg hj iC4 F4 N4) (fun y s5 h5 => ?_) fun _ _ (q : False) => q.elim
        obtain ⟨own', h6, tk6, rfl, hj6, F6, N6⟩ := h5
        have hD6 := N6 (D, PySem.W.listOf outs.toArray n) (.tail _ (.tail _ (.head _)))
        have hlen := hJlen _ _ _ hj
        have hilt : i < vs.length := (List.getElem?_eq_some_iff.mp hg).1
        refine wpAny_list_append_plain ⟨n, hD6.1⟩ (fun h7 hp7 hs7 => ?_) (by rw [List.size_toArray]; omega)
        obtain ⟨n7, hn7⟩ := hp7
        have e7 : outs.toArray.push y = (outs ++ [y]).toArray := by simp
        rw [e7] at hn7
        have htup6 := hJtup _ _ _ hj6
        refine ⟨vs.length - (i + 1), by omega, i + 1, own', outs ++ [y], n7, h7, tk6, oC4, o3, _, rfl, hilt, hj6, rfl, iC4, hc3, hd3, F6.change hs7 hD6.2.1 hD6.2.2, fun p hp => ?_⟩
        rcases List.mem_cons.mp hp with rfl | hp
        · have q := N6 (C, oC4) (.head _)
          exact ⟨(hs7.2 _ (Ne.symm (ne_ns_seq iC4 q.1 hD6.1 rfl))).trans q.1, q.2⟩
        · rcases List.mem_cons.mp hp with rfl | hp
          · have q := N6 (it, o3) (.tail _ (.head _))
            exact ⟨(hs7.2 _ (ne_cls q.1 hD6.1 (by rw [hc3]; show _ ≠ Value.type "list"; decide))).trans q.1, q.2⟩
          · rcases List.mem_cons.mp hp with rfl | hp
            · exact ⟨hn7, hD6.2⟩
            · have q := N6 p (.tail _ (.tail _ (.tail _ hp)))
              obtain ⟨its, k, e⟩ := htup6 p hp
              exact ⟨(hs7.2 _ (ne_cls q.1 hD6.1 (by rw [e]; show Value.type "tuple" ≠ Value.type "list"; decide))).trans q.1, q.2⟩
    · refine ⟨0, [], [], 0, h2, _, oC, listIterO l 0, _, rfl, Nat.zero_le _, hJ0, rfl, iC, rfl, rfl, F3, fun p hp => ?_⟩
      rcases List.mem_cons.mp hp with rfl | hp
      · exact N3 _ (.head _)
      · rcases List.mem_cons.mp hp with rfl | hp
        · exact N3 _ (.tail _ (.tail _ (.head _)))
        · rcases List.mem_cons.mp hp with rfl | hp
          · exact N3 _ (.tail _ (.head _))
          · cases hp
  refine codeAny_compStart_list (loop _ rfl) ?_
  exact wpAny_pyIter_listiter (by
    have q := N3 (it, listIterO l 0) (.tail _ (.tail _ (.head _)))
    exact ⟨_, q.1, rfl, rfl⟩) (loop _ rfl)
end
end Mine

end
section
open PySem PySem.W PyProof.Rows
set_option maxRecDepth 100000
set_option linter.unusedVariables false
namespace Mine
section
variable {w : World} {p : Program} {loose : List PySem.Str} {mean : ExcName → Option Value} {mg mb : PySem.Str → Option Value} {A₀ : Around} {base h₀ : Heap} {hl : Option Value} {dp un : Nat} {gd : Option (List Code)} {outer : List Env} {env : Env} {L : Addr} {m : PySem.Str → Option Value} {news : List (Addr × Obj)} {s : Shared} {Q E : Value → Shared → Prop}
local macro_rules | `(tactic| walk_at "m room") => `(tactic| first | assumption | ((try simp only [depth_under_make, depth_under_kw, depth_in1, depth_deeper, depth_caller]); (try dsimp only [TopA]); omega))
local macro_rules | `(tactic| walk_at "m units") => `(tactic| first | assumption | ((try simp only [units_in1, units_deeper, Around.mark_units, units_caller]); (try dsimp only [TopA]); omega))
local macro_rules | `(tactic| walk_at "m prem") => `(tactic| ((case kB => k_asm); (case kF => k_asm); (case kX => k_asm); (case kN => k_asm); (case kT => k_asm); (case kf => exact rfl); (case kk => exact rfl); (case kd => walk_at "m room"); (case ku => walk_at "m units")))
local macro_rules | `(tactic| walk_at "m enterB") => `(tactic| (k_dflt (refine' enterW ?k1 ?k2 ?k3 ?k5 ?kA ?kF ?kK ?k6 ?k7 ?k8 ?k9 ?kB ?_ ?c2 ?c3 ?c4 ?c5; (case kA => exact rfl); (case kF => assumption); (case kK => assumption); (case k1 => k_asm); (case k2 => k_asm); (case k3 => k_asm); (case k5 => k_asm); (case k6 => k_is); (case k7 => k_is); (case k8 => walk_at "m room"); (case k9 => first | exact BindsTo.of_eq rfl | exact binds_K (by k_in) rfl (by k_is) rfl rfl rfl); (case c5 => decide); (case kB => exact locs rfl); (case c2 => exact rfl); (case c3 => exact rfl); (case c4 => exact rfl); k_whole; intro L' h' eL' F' N' B' X' T'; (try dsimp only); (try k_fold))))

theorem m_expr_yes {x : PySem.Str} {tk : Tok} {A : Around} (F : Fr h₀ L s.heap m) (N : News h₀ L s.heap news) (X : (hd.heap_39 w.params).In s.heap) (O : OkT x) (ha : acc x.cps 0 0 = true)
    (h : ∀ o h', Fr h₀ L h' m → News h₀ L h' news → h'.get? o ≠ none → (∃ ob, h'.get? o = some ob ∧ ob.cls = .type "re.Match") → Q (.ref o) { s with heap := h' }) :
    wpAny (model PySem.Challenge.rw_bn0039_01.row.prog w) A (call (.builtin "re.Pattern.match") [.ref 353, .str x tk]) Q E s :=
  m_expr F N X O (.inr ha) (fun q => by rw [ha] at q; cases q) fun _ o t h' ob ot hc F' N' => h o h' F' (fun p hp => N' p (.tail _ (.tail _ hp))) (by rw [show h'.get? o = some ob from (N' _ (.head _)).1]; intro q; cases q) ⟨ob, (N' _ (.head _)).1, hc⟩
theorem split_made {x : PySem.Str} {tk : Tok} {A : Around} (F : Fr h₀ L s.heap m) (N : News h₀ L s.heap news) (X : (hd.heap_39 w.params).In s.heap) (O : OkT x)
    (h : ∀ l h' vs tk', Fr h₀ L h' m → News h₀ L h' ((l, PySem.W.listOf vs.toArray 0) :: news) → StrsAre vs (pieces x) → Q (.ref l) { s with heap := h', toks := tk' }) :
    wpAny (model PySem.Challenge.rw_bn0039_01.row.prog w) A (call (.builtin "re.Pattern.split") [.ref 343, .str x tk]) Q E s := by
  have P := pat_seps X
  obtain ⟨o, ho, hc⟩ := pat_type P
  exact wp_split F N ⟨o, ho, hc⟩ P O.sz O.ok fun l h' vs tk' F' N' _ hv => h l h' vs tk' F' N' hv
local macro_rules | `(tactic| walk_at "getMethod ref") => `(tactic| (k_here; k_dflt (first | (refine' expr_meth ?X ?_; (case X => k_in)) | (refine' sing_meth ?X ?_; (case X => k_in)) | (refine' seps_meth ?X ?_; (case X => k_in)))))
local macro_rules | `(tactic| walk_at "call builtin:re.Pattern.match") => `(tactic| (k_here; (with_reducible show wpAny _ _ (call _ [Value.ref 353, _]) _ _ _); k_dflt (refine' m_expr_yes ?F ?N ?X ?O ?H ?_; (case F => k_asm); (case N => k_asm); (case X => k_in); (case O => assumption); (case H => assumption)); intro o9 h9 F9 N9 n9 c9; (try dsimp only)))
local macro_rules | `(tactic| walk_at "call builtin:re.Pattern.split") => `(tactic| (k_here; k_dflt (refine' split_made ?F ?N ?X ?O ?_; (case F => k_asm); (case N => k_asm); (case X => k_in); (case O => assumption)); intro l9 h9 vs9 tk9 F9 N9 S9; (try dsimp only)))
local macro_rules | `(tactic| walk_at "truthy ref") => `(tactic| (k_here; k_dflt (first | (refine' m_truthy ?M ?N ?o ?_; (case M => assumption); (case N => k_asm); (case o => exact List.Mem.head _)) | refine truthy_match (by assumption) ?_)))
local macro_rules | `(tactic| walk_at "exec For Name Call") => `(tactic| refine hold ?_)
local macro_rules | `(tactic| walk_at "exec For Name Call cons nil") => `(tactic| refine hold ?_)
local macro_rules | `(tactic| walk_at "pyIter ref") => `(tactic| (k_here; k_dflt (refine' list_iter ?F ?N ?l ?_; (case F => k_asm); (case N => k_asm); (case l => exact News.isList (by k_asm) (List.Mem.head _))); intro it9 h9 F9 N9; (try dsimp only)))
-- the loop's turn
local macro_rules | `(tactic| walk_at "call builtin:re.Pattern.match") => `(tactic| (k_here; (with_reducible show wpAny _ _ (call _ [Value.ref 348, _]) _ _ _); k_dflt (refine' m_singP ?F ?N ?X ?O ?H ?_; (case F => k_asm); (case N => k_asm); (case X => k_in); (case O => assumption); (case H => assumption)); intro o9 ob9 t9 ot9 h9 M9 F9 N9; (try dsimp only)))
local macro_rules | `(tactic| walk_at "getMethod ref") => `(tactic| (k_here; (with_reducible show wpAny _ _ (getMethod _ (PySem.Str.ofString "groups") _) _ _ _); k_dflt (refine' m_groups_meth ?M ?N ?o ?_; (case M => assumption); (case N => k_asm); (case o => exact List.Mem.head _))))
local macro_rules | `(tactic| walk_at "call builtin:re.Match.groups") => `(tactic| (k_here; k_dflt (refine' m_groups ?M ?F ?N ?o ?t ?u ?P ?g1 ?g2; (case M => assumption); (case F => k_asm); (case N => k_asm); (case u => assumption); (case P => assumption); (case o => exact List.Mem.head _); (case t => exact List.Mem.tail _ (List.Mem.head _))); (case' g1 => intro l9 h9 x91 x92 x93 x94 a9 k9 t91 t92 t93 t94 tk9 G9 i93 l93 n93 r93 F9 N9; (have i91 := G9.int1); (have l91 := G9.len1); (have l94 := G9.len4)); (case' g2 => intro l9 h9 x91 x92 x94 a9 t91 t92 t94 tk9 G9 r93 F9 N9; (have i91 := G9.int1); (have l91 := G9.len1); (have l94 := G9.len4)); all_goals (try dsimp only)))
local macro_rules | `(tactic| walk_at "assign Tuple") => `(tactic| (k_here; k_dflt (refine' unpackH ?hh ?H ?F ?N ?t ?n ?st ?_; (case hh => exact rfl); (case F => k_asm); (case H => exact HOk.keeps (by assumption) (Fr.keep (by k_asm))); (case N => k_asm); (case t => exact News.isTup (by k_asm) (List.Mem.head _)); (case n => exact rfl); (case st => exact rfl)); intro h9 F9 N9; (try dsimp only)))
local macro_rules | `(tactic| walk_at "call type:int") => `(tactic| (k_here; k_dflt (refine' call_text ?a ?b ?_; (case a => assumption); (case b => assumption))))
local macro_rules | `(tactic| walk_at "call ref") => `(tactic| (k_here; k_dflt (show wpAny _ _ (call (Value.ref 374) [Value.str _ _]) _ _ _); k_dflt (refine' from_call ?kx ?kB ?kF ?kX ?kT ?kf ?kk ?kH ?kd ?ku ?ret ?exc; (case kx => assumption); (case kB => k_asm); (case kF => k_asm); (case kX => k_asm); (case kT => k_asm); (case kf => exact rfl); (case kk => exact rfl); (case kH => exact HOk.keeps (by assumption) (Fr.keep (by k_asm))); (case kd => walk_at "m room"); (case ku => walk_at "m units")); case' ret => (intro g9 h9 tk9 hg9 K9; (try dsimp only); (have F9 := Fr.keeps (by k_asm) K9); (have N9 := news_keeps (by k_asm) K9))))
local macro_rules | `(tactic| walk_at "call ref") => `(tactic| (k_here; (with_reducible show wpAny _ _ (call (Value.ref (Gr.cls _)) [Value.int _ _, _]) _ _ _); k_dflt (refine' new_item _ ?kmv ?kB ?kF ?kX ?kN ?kT ?kf ?kk ?kd ?ku ?_; (case kmv => first | exact .inl ⟨rfl, rfl⟩ | exact .inr ⟨_, _, rfl, rfl⟩); (walk_at "m prem")); intro x9 dx9 h9 t91 t92 t93 tk9 F9 N9 l91 l92; (try dsimp only)))
local macro_rules | `(tactic| walk_at "getMethod ref") => `(tactic| (k_here; (with_reducible show wpAny _ _ (getMethod _ (PySem.Str.ofString "append") _) _ _ _); k_dflt (refine' lm_meth ?N ?m PySem.slot_list_append PySem.type_list_append ?_; (case N => k_asm); (case m => k_mem))))
local macro_rules | `(tactic| walk_at "callWith ref") => `(tactic| (k_here; (with_reducible show wpAny _ _ (callWith _ (Value.ref (Gr.cls _)) _ _ _) _ _ _); k_dflt (refine' callWith_K ?k1 (gr_keep _) ?_; (case k1 => k_asm); k_whole)))
local macro_rules | `(tactic| walk_at "call builtin:list.append") => `(tactic| (k_here; k_dflt (refine' append_any ?F ?N ?D ?z ?_; (case F => k_asm); (case N => k_asm); (case D => k_mem); (case z => assumption)); intro h9 F9 K9 D9; (try dsimp only)))

set_option maxHeartbeats 8000000 in
theorem many_yes {x : PySem.Str} {tq : Tok} (O : OkT x) (ha : acc x.cps 0 0 = true) (B : Below A₀ base outer h₀) (F : Fr h₀ L s.heap m) (X : (hd.heap_39 w.params).In h₀) (T : Top p loose mean mg mb h₀) (hf : env.frame = some L) (hke : env.scope.kind = .function) (H : HOk hl s.heap)
    (hdp : dp + 60 < recursionLimit) (hun : un + 200 < cLine) (hh : ∀ ls, meant x = some ls → hl = none)
    (hret : ∀ ls l vs n own h' tk', meant x = some ls → Made s.heap h' ((l, PySem.W.listOf vs.toArray n) :: own) → ItemsIn own vs ls → (∀ p ∈ own, IsI p.2) → Q (.ref l) { s with heap := h', toks := tk' })
    (hexc : ∀ e h' tk' c2, meant x = none → (hl = none → c2 = .none) → RaisedC base s.heap (env :: outer) e (.type "ValueError") c2 h' → E (.ref e) { s with heap := h', toks := tk' }) :
    wpAny (model PySem.Challenge.rw_bn0039_01.row.prog w) (TopA hl dp un gd env outer) (call (.ref 360) [.str x tq]) Q E s := by
  have hx : x.length ≤ 400 := O.sz
  have hmean : meant x = allLim ((pieces x).map fun u => rowOf u.cps) := by
    unfold meant; rw [rowsOf_eq O.ok, ha]; rfl
  have hpo := pieces_ok O.ok ha
  have hps : ∀ u ∈ pieces x, u.cps.size ≤ 400 := fun u hu => Nat.le_trans (cut_size _ _ _ u hu) O.sz
  have hpn := pieces_ne x
  revert X; k_fill; intro X
  refine wpAny_call (withB [(PySem.Str.ofString "limit_string", .str x tq)] ?_)
  walk_at "m enterB"
  k_steps
  unfold Hold
  refine wpAny_For ?_
  k_steps
  rename StrsAre _ _ => hv
  rename Fr _ _ _ _ => F3
  rename News _ _ _ _ => N3
  have hspl := spl_ne N3 hv hpn
  refine' many_fr (us := pieces x) (rows := (pieces x).map fun u => rowOf u.cps) ?gF ?gN ?gM ?gv ?gr ?gstep ?gstop
  case gF => exact F3
  case gN => exact N3
  case gM => exact rfl
  case gv => exact hv
  case gr => exact rfl
  case gstep =>
    intro i u t ls own its n h8 tk8 m8 o8 hu hls hil hI hO hoc F8 N8
    have hmem := List.mem_of_getElem? hu
    have hsz := hps u hmem
    have hP := hpo u hmem
    have hlen : its.length ≤ 1000 := by
      have h1 := (List.getElem?_eq_some_iff.mp hu).1
      have h2 := cut_len x.cps (x.cps.size + 1) 0
      have h3 : (pieces x).length ≤ x.cps.size + 1 + 1 := h2
      have h4 := O.sz
      omega
    have hrow : ((pieces x).map fun u => rowOf u.cps)[i]? = some (rowOf u.cps) := by rw [List.getElem?_map, hu]; rfl
    have hbad : limOf (rowOf u.cps) = none → meant x = none := fun hb => hmean.trans (allLim_bad hrow hb)
    k_steps
    · exact many_next (by assumption) rfl (by assumption) (by assumption) (by assumption) hspl hoc hO hI (by assumption) (by assumption) (by assumption) rfl
    · intros
      rename RaisedC _ _ _ _ _ _ _ => R
      exact noted_leave (Q := fun e _ s' => E e s') (E' := fun _ e s' => E e s') (by assumption) (by assumption) R fun h6 R6 => hexc _ h6 _ _ (hbad (limOf_bad (by assumption) (by assumption))) (by assumption) R6
    · walk_at "call ref"
      k_steps
      · exact many_next (by assumption) rfl (by assumption) (by assumption) (by assumption) hspl hoc hO hI (by assumption) (by assumption) (by assumption) (one_int _)
      · exact many_next (by assumption) rfl (by assumption) (by assumption) (by assumption) hspl hoc hO hI (by assumption) (by assumption) (by assumption) (by unfold one; rw [if_pos (by omega)]; rfl)
      · exfalso; omega
      · intros
        rename RaisedC _ _ _ _ _ _ _ => R
        exact noted_leave (Q := fun e _ s' => E e s') (E' := fun _ e s' => E e s') (by assumption) (by assumption) R fun h6 R6 => hexc _ h6 _ _ (hbad (limOf_bad (by assumption) (by assumption))) (by assumption) R6
  case gstop =>
    intro ls own its n tk8 m8 hls hI hO
    have hhl := hh ls (hmean.trans hls)
    refine ⟨hhl, fun h8 F8 N8 => ?_⟩
    k_steps
    exact hret ls _ its n own h8 tk8 (hmean.trans hls) (made_of F8 N8) hI hO
end
end Mine

end
section
open PySem PySem.W PyProof.Rows
set_option maxRecDepth 100000
set_option linter.unusedVariables false
namespace Mine
section
variable {w : World} {p : Program} {loose : List PySem.Str} {mean : ExcName → Option Value} {mg mb : PySem.Str → Option Value} {A₀ : Around} {base h₀ : Heap} {hl : Option Value} {dp un : Nat} {gd : Option (List Code)} {outer : List Env} {env : Env} {L : Addr} {m : PySem.Str → Option Value} {news : List (Addr × Obj)} {s : Shared} {Q E : Value → Shared → Prop}
local macro_rules | `(tactic| walk_at "m room") => `(tactic| first | assumption | ((try simp only [depth_under_make, depth_under_kw, depth_in1, depth_deeper, depth_caller]); (try dsimp only [TopA]); omega))
local macro_rules | `(tactic| walk_at "m units") => `(tactic| first | assumption | ((try simp only [units_in1, units_deeper, Around.mark_units, units_caller]); (try dsimp only [TopA]); omega))
local macro_rules | `(tactic| walk_at "m prem") => `(tactic| ((case kB => k_asm); (case kF => k_asm); (case kX => k_asm); (case kN => k_asm); (case kT => k_asm); (case kf => exact rfl); (case kk => exact rfl); (case kd => walk_at "m room"); (case ku => walk_at "m units")))
local macro_rules | `(tactic| walk_at "m enterB") => `(tactic| (k_dflt (refine' enterW ?k1 ?k2 ?k3 ?k5 ?kA ?kF ?kK ?k6 ?k7 ?k8 ?k9 ?kB ?_ ?c2 ?c3 ?c4 ?c5; (case kA => exact rfl); (case kF => assumption); (case kK => assumption); (case k1 => k_asm); (case k2 => k_asm); (case k3 => k_asm); (case k5 => k_asm); (case k6 => k_is); (case k7 => k_is); (case k8 => walk_at "m room"); (case k9 => first | exact BindsTo.of_eq rfl | exact binds_K (by k_in) rfl (by k_is) rfl rfl rfl); (case c5 => decide); (case kB => exact locs rfl); (case c2 => exact rfl); (case c3 => exact rfl); (case c4 => exact rfl); k_whole; intro L' h' eL' F' N' B' X' T'; (try dsimp only); (try k_fold))))

theorem many_call {x : PySem.Str} {tq : Tok} (O : OkT x) (hw : wtl x.cps.toList ≤ 40 ∨ acc x.cps 0 0 = true) (B : Below A₀ base outer h₀) (F : Fr h₀ L s.heap m) (X : (hd.heap_39 w.params).In h₀) (T : Top p loose mean mg mb h₀) (hf : env.frame = some L) (hke : env.scope.kind = .function) (H : HOk hl s.heap)
    (hdp : dp + 60 < recursionLimit) (hun : un + 200 < cLine) (hh : ∀ ls, meant x = some ls → hl = none)
    (hret : ∀ ls l vs n own h' tk', meant x = some ls → Made s.heap h' ((l, PySem.W.listOf vs.toArray n) :: own) → ItemsIn own vs ls → (∀ p ∈ own, IsI p.2) → Q (.ref l) { s with heap := h', toks := tk' })
    (hexc : ∀ e h' tk' c2, meant x = none → (hl = none → c2 = .none) → RaisedC base s.heap (env :: outer) e (.type "ValueError") c2 h' → E (.ref e) { s with heap := h', toks := tk' }) :
    wpAny (model PySem.Challenge.rw_bn0039_01.row.prog w) (TopA hl dp un gd env outer) (call (.ref 360) [.str x tq]) Q E s := by
  cases ha : acc x.cps 0 0 with
  | true => exact many_yes O ha B F X T hf hke H hdp hun hh hret hexc
  | false =>
    have hm : meant x = none := by unfold meant; rw [rowsOf_eq O.ok, ha]; rfl
    exact many_no O (hw.resolve_right (by rw [ha]; exact Bool.false_ne_true)) ha B F X T hf hke H hdp hun fun e h' tk' c2 hc R => hexc e h' tk' c2 hm hc R

theorem meant_len {x : PySem.Str} {ls : List Lim} (O : OkT x) (h : meant x = some ls) : acc x.cps 0 0 = true ∧ ls ≠ [] ∧ ls.length ≤ 402 := by
  unfold meant at h
  rw [rowsOf_eq O.ok] at h
  cases ha : acc x.cps 0 0 with
  | false => rw [ha] at h; cases h
  | true =>
    rw [ha] at h
    have h' : allLim ((pieces x).map fun u => rowOf u.cps) = some ls := h
    have hl := allLim_len h'
    rw [List.length_map] at hl
    refine ⟨rfl, fun e => ?_, ?_⟩
    · rw [e] at hl
      exact pieces_ne x (List.eq_nil_of_length_eq_zero hl.symm)
    · have h2 : (pieces x).length ≤ x.cps.size + 1 + 1 := cut_len x.cps (x.cps.size + 1) 0
      have := O.sz
      omega
theorem first_item {A : Around} {value slice : PySem.Expr} {D : Addr} {u : Tok} {vs : List Value} {n : Nat} {ls : List Lim} {own : List (Addr × Obj)} (N : News h₀ L s.heap news) (hD : (D, PySem.W.listOf vs.toArray n) ∈ news) (hI : ItemsIn own vs ls) (hn : ls ≠ [])
    (h : ∀ v l r, ls = l :: r → ItemV own v l → Q v s) (hs : subscripted slice false (.ref D) (.int 0 u) = operate [.ref D, .int 0 u] (getItem (.ref D) (.int 0 u)) := by with_unfolding_all rfl) :
    wpAny (model PySem.Challenge.rw_bn0039_01.row.prog w) A (subscriptTail value slice (.ref D) (.int 0 u)) Q E s := by
  cases hI with
  | nil => exact absurd rfl hn
  | cons hv hr => exact tail_any (News.isList N hD).typeIs slot_list_getitem.lookup (wpAny_getItem_list (News.isList N hD) (by decide) (by decide) rfl (h _ _ _ rfl hv)) hs

local macro_rules | `(tactic| walk_at "call ref") => `(tactic| (k_here; k_dflt (show wpAny _ _ (call (Value.ref 360) [Value.str _ _]) _ _ _); k_dflt (refine' many_call ?kO ?kw ?kB ?kF ?kX ?kT ?kf ?kk ?kH ?kd ?ku ?kh ?ret ?exc; (case kO => assumption); (case kw => assumption); (case kB => k_asm); (case kF => k_asm); (case kX => k_asm); (case kT => k_asm); (case kf => exact rfl); (case kk => exact rfl); (case kH => exact HOk.keeps (by assumption) (Fr.keep (by k_asm))); (case kd => walk_at "m room"); (case ku => walk_at "m units"); (case kh => assumption)); case' ret => (intro ls9 l9 vs9 n9 own9 h9 tk9 hm9 M9 I9 O9; (try dsimp only); (have F9 := Made.fr M9 (by k_asm)); (have N9 := Made.news M9 (by k_asm) (by k_asm)); (have hn9 := (meant_len (by assumption) hm9).2.1); (have hc9 := (meant_len (by assumption) hm9).2.2); (have hz9 := ItemsIn.len I9); (try simp only [List.cons_append, List.nil_append, List.append_nil] at N9))))
local macro_rules | `(tactic| walk_at "call type:list") => `(tactic| (k_here; k_dflt (refine' list_copyK ?F ?N ?l ?_ ?z; (case F => k_asm); (case N => k_asm); (case l => exact News.isList (by k_asm) (List.Mem.head _)); (case z => (rw [List.size_toArray]; have hh9 : (1000 : Nat) ≤ sizeLine := (by decide); omega)); intro D9 c9 h9 F9 N9 l9; (try dsimp only))))
local macro_rules | `(tactic| walk_at "subscriptTail") => `(tactic| (k_here; k_dflt (refine' first_item ?N ?D ?I ?n ?_ (by with_unfolding_all rfl); (case N => k_asm); (case D => exact List.Mem.head _); (case I => assumption); (case n => assumption); intro v9 l9 r9 e9 V9; (try dsimp only))))

set_option maxHeartbeats 2000000 in
theorem parse_call {x : PySem.Str} {tq : Tok} (O : OkT x) (hw : wtl x.cps.toList ≤ 40 ∨ acc x.cps 0 0 = true) (B : Below A₀ base outer h₀) (F : Fr h₀ L s.heap m) (X : (hd.heap_39 w.params).In h₀) (T : Top p loose mean mg mb h₀) (hf : env.frame = some L) (hke : env.scope.kind = .function) (H : HOk hl s.heap)
    (hdp : dp + 80 < recursionLimit) (hun : un + 260 < cLine) (hh : ∀ ls, meant x = some ls → hl = none)
    (hret : ∀ l r v own h' tk', meant x = some (l :: r) → Made s.heap h' own → ItemV own v l → Q v { s with heap := h', toks := tk' })
    (hexc : ∀ e h' tk' c2, meant x = none → (hl = none → c2 = .none) → RaisedC base s.heap (env :: outer) e (.type "ValueError") c2 h' → E (.ref e) { s with heap := h', toks := tk' }) :
    wpAny (model PySem.Challenge.rw_bn0039_01.row.prog w) (TopA hl dp un gd env outer) (call (.ref 367) [.str x tq]) Q E s := by
  revert X; k_fill; intro X
  refine wpAny_call (withB [(PySem.Str.ofString "limit_string", .str x tq)] ?_)
  walk_at "m enterB"
  k_steps
  · rename ItemV _ _ _ => V
    rename_i e
    subst e
    exact hret _ _ _ _ _ _ (by assumption) (made_of (by assumption) (by assumption)) (V.mono fun q hq => by simp only [List.mem_cons, List.mem_append]; simp [hq])
  · intros
    rename RaisedC _ _ _ _ _ _ _ => R
    exact leave_next (by assumption) (by assumption) R fun h6 R6 => hexc _ h6 _ _ (by assumption) (by assumption) R6
end
end Mine

end
section
open PySem PySem.W PyProof.Rows
set_option maxRecDepth 100000
set_option linter.unusedVariables false
namespace Mine

/-! ## the lengths, as a dict made in the call -/
def lensK (t : Gr → Tok) : List (PySem.Str × Value) := grAll.map fun g => (g.name, .int g.sec (t g))
section
variable {prog : Program} {w : World} {A : Around} {E : Value → Shared → Prop} {s : Shared} {h₀ : Heap} {L d : Addr} {m : PySem.Str → Option Value} {news : List (Addr × Obj)} {g : Obj → List (Addr × Obj)} {o : Obj} {Q : Value → Shared → Prop}
theorem lens_made {k1 k2 k3 k4 k5 k6 t1 t2 t3 t4 t5 t6 : Tok} (F : Fr h₀ L s.heap m) (N : News h₀ L s.heap news) (U : UpdF d o news g) (hd : o.IsDictOf (PySem.strKind prog w) [])
    (h : ∀ h' o' t tk', Fr h₀ L h' m → News h₀ L h' (g o') → o'.IsDictOf (PySem.strKind prog w) (lensK t) → Q (.ref d) { s with heap := h', toks := tk' }) :
    KdnMade prog w (PySem.strKind prog w) d Q [(.str (Str.ofString "year") k1, .int 31104000 t1), (.str (Str.ofString "month") k2, .int 2592000 t2), (.str (Str.ofString "day") k3, .int 86400 t3), (.str (Str.ofString "hour") k4, .int 3600 t4), (.str (Str.ofString "minute") k5, .int 60 t5), (.str (Str.ofString "second") k6, .int 1 t6)] s := by
  refine kdn_made_str F N U hd rfl (by show [Str.ofString "year", Str.ofString "month", Str.ofString "day", Str.ofString "hour", Str.ofString "minute", Str.ofString "second"].Nodup; decide +kernel) fun h' o' F' N' hd' => h h' o' (fun g => match g with | .year => t1 | .month => t2 | .day => t3 | .hour => t4 | .minute => t5 | .second => t6) _ F' N' hd'
theorem lens_at (t : Gr → Tok) (k : PySem.Str) : valueAt (lensK t) k = (grAll.find? fun g => g.name == k).map fun g => Value.int g.sec (t g) := by
  unfold valueAt lensK
  rw [List.find?_map, Option.map_map]
  have e : ((fun kv : PySem.Str × Value => decide (kv.1 = k)) ∘ fun g : Gr => (g.name, Value.int g.sec (t g))) = fun g => g.name == k := by
    funext g
    show decide (g.name = k) = (g.name == k)
    rw [Bool.eq_iff_iff, decide_eq_true_eq, beq_iff_eq]
  rw [e]
  rfl
theorem lens_notin {x : PySem.Str} {tk : Tok} {t : Gr → Tok} (N : News h₀ L s.heap news) (hm : (d, o) ∈ news) (hd : o.IsDictOf (PySem.strKind prog w) (lensK t)) (hlo : (d == sysModules) = false)
    (h : ∀ tk', Q (.bool (!(grAll.find? fun g => g.name == x).isSome)) { s with toks := tk' }) : wpAny (model prog w) A (compareOp .NotIn (.str x tk) (.ref d)) Q E s := by
  refine wpAny_notIn_of (knd := PySem.strKind prog w) (k := x) (by rw [strKind_is]) hlo (Heap.dictOf_iff.mpr ⟨o, N.get hm, hd⟩).mapOf ?_
  rw [lens_at]
  have := h (s.toks + 1)
  cases hf : (grAll.find? fun g => g.name == x) <;> (rw [hf] at this; exact this)
theorem lens_item {value slice : PySem.Expr} {x : PySem.Str} {tk : Tok} {t : Gr → Tok} {g : Gr} (N : News h₀ L s.heap news) (hm : (d, o) ∈ news) (hd : o.IsDictOf (PySem.strKind prog w) (lensK t)) (hg : (grAll.find? fun g => g.name == x) = some g)
    (h : ∀ tk', Q (.int g.sec (t g)) { s with toks := tk' })
    (hs : subscripted slice false (.ref d) (.str x tk) = operate [.ref d, .str x tk] (getItem (.ref d) (.str x tk)) := by with_unfolding_all rfl) (hgo : ∀ r, letTemporaryGo value (.ref d) r = pure () := by intro _; with_unfolding_all rfl) :
    wpAny (model prog w) A (subscriptTail value slice (.ref d) (.str x tk)) Q E s := by
  have hdo : s.heap.DictOf (PySem.strKind prog w) d (lensK t) := Heap.dictOf_iff.mpr ⟨o, N.get hm, hd⟩
  exact subscriptTail_builtin hdo.typeIs slot_dict_getitem.lookup (wpAny_getItem_of (k := x) (by rw [strKind_is]) hdo.mapOf (by rw [lens_at, hg]; rfl) (h _)) hs hgo
end

/-! ## the rows that the reader has -/
abbrev Row := List Nat × Nat × Nat
def rowO (nm : PySem.Str) (a k : Nat) (t0 t1 t2 : Tok) : Obj := { cls := .type "tuple", data := .seq #[.str nm t0, .int (a : Nat) t1, .int (k : Nat) t2] }
def RowV (own : List (Addr × Obj)) (v : Value) (r : Row) : Prop := ∃ t nm t0 t1 t2, v = .ref t ∧ nm.cps.toList = r.1 ∧ nm.length ≤ 400 ∧ (t, rowO nm r.2.1 r.2.2 t0 t1 t2) ∈ own
inductive RowsIn (own : List (Addr × Obj)) : List Value → List Row → Prop
  | nil : RowsIn own [] []
  | cons {v r vs rs} : RowV own v r → RowsIn own vs rs → RowsIn own (v :: vs) (r :: rs)
theorem RowV.mono {own own' : List (Addr × Obj)} {v : Value} {r : Row} (h : RowV own v r) (k : ∀ p ∈ own, p ∈ own') : RowV own' v r := by
  obtain ⟨t, nm, t0, t1, t2, h1, h2, h2', h3⟩ := h
  exact ⟨t, nm, t0, t1, t2, h1, h2, h2', k _ h3⟩
theorem RowsIn.mono {own own' : List (Addr × Obj)} (k : ∀ p ∈ own, p ∈ own') : ∀ {vs : List Value} {rs : List Row}, RowsIn own vs rs → RowsIn own' vs rs
  | _, _, .nil => .nil
  | _, _, .cons h r => .cons (h.mono k) (r.mono k)
theorem RowsIn.snoc {own : List (Addr × Obj)} {v : Value} {r : Row} (h : RowV own v r) : ∀ {vs : List Value} {rs : List Row}, RowsIn own vs rs → RowsIn own (vs ++ [v]) (rs ++ [r])
  | _, _, .nil => .cons h .nil
  | _, _, .cons h' q => .cons h' (q.snoc h)
theorem RowsIn.len {own : List (Addr × Obj)} : ∀ {vs : List Value} {rs : List Row}, RowsIn own vs rs → vs.length = rs.length
  | _, _, .nil => rfl
  | _, _, .cons _ r => by simp [r.len]
theorem RowsIn.get {own : List (Addr × Obj)} : ∀ {vs : List Value} {rs : List Row}, RowsIn own vs rs → ∀ {i : Nat} {v : Value}, vs[i]? = some v → ∃ r, rs[i]? = some r ∧ RowV own v r
  | _, _, .nil, i, v, e => by simp at e
  | _, _, .cons (v := v') (r := r) h q, 0, v, e => by
    have : v' = v := by simpa using e
    subst this
    exact ⟨r, by simp, h⟩
  | _, _, .cons h q, i + 1, v, e => by
    obtain ⟨r, h1, h2⟩ := q.get (i := i) (v := v) (by simpa using e)
    exact ⟨r, by simpa using h1, h2⟩

/-! ## the turns of the reader's loop -/
/-- the reader's names -/
def rdF (len R0 : Addr) (r : RS) (nm : PySem.Str) (t1 t2 t3 t4 : Tok) (m₁ : PySem.Str → Option Value) : PySem.Str → Option Value := fun y => if y = Str.ofString "lengths" then some (.ref len) else if y = Str.ofString "rows" then some (.ref R0) else if y = Str.ofString "state" then some (.int (r.q : Nat) t1) else if y = Str.ofString "amount" then some (.int (r.amount : Nat) t2) else if y = Str.ofString "many" then some (.int (r.many : Nat) t3) else if y = Str.ofString "name" then some (.str nm t4) else m₁ y
structure RdM (len R0 : Addr) (r : RS) (nm : PySem.Str) (t1 t2 t3 t4 : Tok) (m₁ : PySem.Str → Option Value) : Prop where
  h0 : m₁ (Str.ofString "lengths") = some (.ref len)
  h1 : m₁ (Str.ofString "rows") = some (.ref R0)
  h2 : m₁ (Str.ofString "state") = some (.int (r.q : Nat) t1)
  h3 : m₁ (Str.ofString "amount") = some (.int (r.amount : Nat) t2)
  h4 : m₁ (Str.ofString "many") = some (.int (r.many : Nat) t3)
  h5 : m₁ (Str.ofString "name") = some (.str nm t4)
theorem RdM.eq {len R0 : Addr} {r : RS} {nm : PySem.Str} {t1 t2 t3 t4 : Tok} {m₁ : PySem.Str → Option Value} (h : RdM len R0 r nm t1 t2 t3 t4 m₁) : m₁ = rdF len R0 r nm t1 t2 t3 t4 m₁ := by
  funext y
  unfold rdF
  repeat' split
  all_goals first | rfl | (rename_i e; rw [e]; first | exact h.h0 | exact h.h1 | exact h.h2 | exact h.h3 | exact h.h4 | exact h.h5)
def rd0 : RS := ⟨[], 0, 0, 0, []⟩
theorem rd_snoc {l : List Nat} {c : Nat} {r r' : RS} (h : rdL rd0 l = some r) (hs : rstep r c = some r') : rdL rd0 (l ++ [c]) = some r' := by
  rw [rd_bind h]
  show (match rstep r c with | some r' => rdL r' [] | none => none) = _
  rw [hs]; rfl
theorem rd_none {l l' : List Nat} {c : Nat} {r : RS} (h : rdL rd0 l = some r) (hs : rstep r c = none) : rdL rd0 (l ++ c :: l') = none := by
  rw [rd_bind h]
  show (match rstep r c with | some r' => rdL r' l' | none => none) = _
  rw [hs]
def RdNext (h₁ : Heap) (L : Addr) (s s₃ : Shared) (it R0 len : Addr) (o lenO : Obj) (i c : Nat) (r : RS) : Prop :=
  ∃ r', ∃ (rvs' : List Value), ∃ own' n' h'' tk'' nm' t1 t2 t3 t4, ∃ (m₂ : PySem.Str → Option Value), rstep r c = some r' ∧ s₃ = { s with heap := h'', toks := tk'' } ∧ RdM len R0 r' nm' t1 t2 t3 t4 m₂ ∧ Fr h₁ L h'' m₂ ∧ News h₁ L h'' ((it, o) :: (R0, PySem.W.listOf rvs'.toArray n') :: (len, lenO) :: own') ∧ RowsIn own' rvs' r'.rows ∧ (∀ p ∈ own', IsTupO p.2) ∧ nm'.cps.toList = r'.name ∧ nm'.length ≤ i + 1 ∧ rvs'.length ≤ i + 1
section
variable {w : World} {prog : Program} {A : Around} {s : Shared} {L : Addr} {m : PySem.Str → Option Value}
theorem read_fr {env : Env} {R : Result → Shared → Prop} {y : PySem.Str} {yp : Pos} {body : List Stmt} {it R0 len : Addr} {lenO : Obj} {h₁ : Heap} {x : PySem.Str} {t t1 t2 t3 t4 : Tok}
    (F : Fr h₁ L s.heap m) (N : News h₁ L s.heap [(it, strItO x t 0), (R0, PySem.W.listOf #[] 0), (len, lenO)]) (hlenO : lenO.cls = .type "dict") (hm : RdM len R0 rd0 PySem.Str.empty t1 t2 t3 t4 m)
    (step : ∀ (i c : Nat) r rvs own n h' tk' nm t1 t2 t3 t4 (m₁ : PySem.Str → Option Value) (o : Obj) tc, x.cps[i]? = some c → rdL rd0 (x.cps.toList.take i) = some r → RowsIn own rvs r.rows → (∀ p ∈ own, IsTupO p.2) → nm.cps.toList = r.name → nm.length ≤ i → rvs.length ≤ i → o.cls = .type (strIt x) →
      Fr h₁ L h' (rdF len R0 r nm t1 t2 t3 t4 m₁) → News h₁ L h' ((it, o) :: (R0, PySem.W.listOf rvs.toArray n) :: (len, lenO) :: own) →
      wpAny (model prog w) A (assign (.Name y yp) env (.str ⟨#[c]⟩ tc)) (fun _ s₂ => wpAny (model prog w) A (execs body env) (fun f s₃ => match f with
        | .next => Hold (RdNext h₁ L s s₃ it R0 len o lenO i c r)
        | .cont => Hold (RdNext h₁ L s s₃ it R0 len o lenO i c r)
        | .ret v => R (.ok (.ret v)) s₃ | .brk => False) (notedBy (model prog w) A env fun e s' => R (.error e) s') s₂) (notedBy (model prog w) A env fun e s' => R (.error e) s') { s with heap := h', toks := tk' })
    (stop : ∀ r rvs own n tk' nm t1 t2 t3 t4 (m₁ : PySem.Str → Option Value), rdL rd0 x.cps.toList = some r → RowsIn own rvs r.rows → (∀ p ∈ own, IsTupO p.2) → nm.cps.toList = r.name → nm.length ≤ x.cps.size → rvs.length ≤ x.cps.size → A.handled = none ∧ (∀ h'', Fr h₁ L h'' (rdF len R0 r nm t1 t2 t3 t4 m₁) → News h₁ L h'' ((R0, PySem.W.listOf rvs.toArray n) :: (len, lenO) :: own) →
      R (.ok .next) { s with heap := h'', toks := tk' })) :
    codeAny (model prog w) A (.forLoop (.Name y yp) (.ref it) body [] env) R s := by
  have hne : ∀ T : String, T = "list" ∨ T = "dict" ∨ T = "tuple" → Value.type T ≠ .type (strIt x) := fun T hT e => by
    have : T = strIt x := by injection e
    unfold strIt at this
    rcases hT with rfl | rfl | rfl <;> (split at this <;> exact absurd this (by decide))
  have apart : ∀ {h' : Heap} {o : Obj} {rvs : List Value} {n : Nat} {own : List (Addr × Obj)}, o.cls = .type (strIt x) → (∀ p ∈ own, IsTupO p.2) → News h₁ L h' ((it, o) :: (R0, PySem.W.listOf rvs.toArray n) :: (len, lenO) :: own) → ∀ p ∈ ((R0, PySem.W.listOf rvs.toArray n) :: (len, lenO) :: own), p.1 ≠ it := fun {h' o rvs n own} hoc hO N' p hp => by
    have hp' := (N' p (.tail _ hp)).1
    refine ne_cls hp' (N' _ (.head _)).1 ?_
    rw [hoc]
    rcases List.mem_cons.mp hp with rfl | hp
    · exact hne _ (.inl rfl)
    · rcases List.mem_cons.mp hp with rfl | hp
      · rw [hlenO]; exact hne _ (.inr (.inl rfl))
      · obtain ⟨its, k, e⟩ := hO p hp
        rw [e]; exact hne _ (.inr (.inr rfl))
  refine str_loop (x := x) (t := t) (fun i s' => ∃ r rvs own n h' tk' nm t1 t2 t3 t4, ∃ (m₁ : PySem.Str → Option Value) (o : Obj), s' = { s with heap := h', toks := tk' } ∧ i ≤ x.cps.size ∧ rdL rd0 (x.cps.toList.take i) = some r ∧ RowsIn own rvs r.rows ∧ (∀ p ∈ own, IsTupO p.2) ∧ nm.cps.toList = r.name ∧ nm.length ≤ i ∧ rvs.length ≤ i ∧
      o.cls = .type (strIt x) ∧ o.data = .fields #[.str x t, .int ((i : Nat) : Int) 0] ∧ RdM len R0 r nm t1 t2 t3 t4 m₁ ∧ Fr h₁ L h' m₁ ∧ News h₁ L h' ((it, o) :: (R0, PySem.W.listOf rvs.toArray n) :: (len, lenO) :: own)) ?_ ?_ ?_ ?_
  · rintro i s' ⟨r, rvs, own, n, h', tk', nm, t1, t2, t3, t4, m₁, o, rfl, hi, hr, hR, hO, hnm, hnl, hrl, hoc, hod, hM, F', N'⟩
    exact ⟨hi, _, (N' _ (.head _)).1, hoc, hod⟩
  · rintro i c s' h'' hg ⟨r, rvs, own, n, h', tk', nm, t1, t2, t3, t4, m₁, o, rfl, hi, hr, hR, hO, hnm, hnl, hrl, hoc, hod, hM, F', N'⟩ hit hs
    obtain ⟨o2, ho2, hc2, hd2⟩ := hit
    have nit := apart hoc hO N'
    have F'' : Fr h₁ L h'' m₁ := F'.change hs (N' _ (.head _)).2.1 (N' _ (.head _)).2.2
    have N'' := N'.setHead nit hs ho2
    rw [hM.eq] at F''
    have hlt : i < x.cps.size := (Array.getElem?_eq_some_iff.mp hg).1
    have htake : x.cps.toList.take (i + 1) = x.cps.toList.take i ++ [c] := by
      rw [List.take_add_one]
      have : x.cps.toList[i]? = some c := by rw [Array.getElem?_toList]; exact hg
      rw [this]; rfl
    have hlast : ∀ s₃, RdNext h₁ L s s₃ it R0 len o2 lenO i c r → ∃ r rvs own n h' tk' nm t1 t2 t3 t4, ∃ (m₁ : PySem.Str → Option Value) (o : Obj), s₃ = { s with heap := h', toks := tk' } ∧ i + 1 ≤ x.cps.size ∧ rdL rd0 (x.cps.toList.take (i + 1)) = some r ∧ RowsIn own rvs r.rows ∧ (∀ p ∈ own, IsTupO p.2) ∧ nm.cps.toList = r.name ∧ nm.length ≤ i + 1 ∧ rvs.length ≤ i + 1 ∧
        o.cls = .type (strIt x) ∧ o.data = .fields #[.str x t, .int ((i + 1 : Nat) : Int) 0] ∧ RdM len R0 r nm t1 t2 t3 t4 m₁ ∧ Fr h₁ L h' m₁ ∧ News h₁ L h' ((it, o) :: (R0, PySem.W.listOf rvs.toArray n) :: (len, lenO) :: own) := fun s₃ hN => by
      obtain ⟨r', rvs', own', n', h3, tk3, nm', u1, u2, u3, u4, m₂, hst, e3, hM3, F3, N3, hR3, hO3, hnm3, hnl3, hrl3⟩ := hN
      exact ⟨r', rvs', own', n', h3, tk3, nm', u1, u2, u3, u4, m₂, o2, e3, hlt, by rw [htake]; exact rd_snoc hr hst, hR3, hO3, hnm3, hnl3, hrl3, hc2, hd2, hM3, F3, N3⟩
    refine wpAny_mono (step i c r rvs own n h'' _ nm t1 t2 t3 t4 m₁ o2 _ hg hr hR hO hnm hnl hrl hc2 F'' N'') (fun _ s₂ h₂ => wpAny_mono h₂ (fun f s₃ h₃ => ?_) fun _ _ q => q) fun _ _ q => q
    cases f with
    | next => exact hlast s₃ h₃
    | ret v => exact h₃
    | brk => exact h₃
    | cont => exact hlast s₃ h₃
  · rintro s' ⟨r, rvs, own, n, h', tk', nm, t1, t2, t3, t4, m₁, o, rfl, hi, hr, hR, hO, hnm, hnl, hrl, hoc, hod, hM, F', N'⟩
    have nit := apart hoc hO N'
    rw [List.take_of_length_le (by simp)] at hr
    obtain ⟨hh, hst⟩ := stop r rvs own n tk' nm t1 t2 t3 t4 m₁ hr hR hO hnm hnl hrl
    refine ⟨hh, fun h'' he => ?_⟩
    rw [hM.eq] at F'
    have hitN := N' (it, o) (.head _)
    refine hst h'' ⟨F'.ns.extBut he (Ne.symm hitN.2.1), fun b ob hb => he b ob (fun q => by subst q; rw [show h₁.get? b = none from hitN.2.2] at hb; cases hb) (F'.keep b ob hb), F'.above⟩ fun p hp => ?_
    have hp' := N' p (.tail _ hp)
    exact ⟨he _ _ (nit p hp) hp'.1, hp'.2⟩
  · exact ⟨rd0, [], [], 0, s.heap, s.toks, PySem.Str.empty, t1, t2, t3, t4, m, strItO x t 0, rfl, Nat.zero_le _, by rw [List.take_zero]; rfl, .nil, (fun p hp => by cases hp), rfl, Nat.zero_le _, Nat.zero_le _, rfl, rfl, hm, F, N⟩
end
end Mine

end
section
open PySem PySem.W PyProof.Rows
set_option maxRecDepth 100000
set_option linter.unusedVariables false
namespace Mine
section
variable {M : Model} {A : Around} {E : Value → Shared → Prop} {s : Shared} {env : Env} {h₁ : Heap} {L : Addr} {m : PySem.Str → Option Value} {news : List (Addr × Obj)} {Q : Flow → Shared → Prop}
/-- what a test leaves: its verdict, the frame and the ledger as they stood -/
def Test (h₁ : Heap) (L : Addr) (m : PySem.Str → Option Value) (news : List (Addr × Obj)) (s : Shared) (B b : Bool) (s' : Shared) : Prop := b = B ∧ ∃ h' tk, s' = { s with heap := h', toks := tk } ∧ Fr h₁ L h' m ∧ News h₁ L h' news
theorem Test.intro {h' : Heap} {tk : Nat} {B b : Bool} (F : Fr h₁ L h' m) (N : News h₁ L h' news) (h : b = B) : Test h₁ L m news s B b { s with heap := h', toks := tk } := ⟨h, h', tk, rfl, F, N⟩
theorem if_val {test : PySem.Expr} {body orelse : List Stmt} {pos : Pos} (F : Fr h₁ L s.heap m) (N : News h₁ L s.heap news) (B : Bool) (ht : wpAny M A (isTrue test env (eval test env)) (fun b s' => Hold (Test h₁ L m news s B b s')) E s)
    (h1 : B = true → ∀ h' tk, Fr h₁ L h' m → News h₁ L h' news → wpAny M A (execs body env) Q E { s with heap := h', toks := tk })
    (h2 : B = false → ∀ h' tk, Fr h₁ L h' m → News h₁ L h' news → wpAny M A (execs orelse env) Q E { s with heap := h', toks := tk }) :
    wpAny M A (exec (.If test body orelse pos) env) Q E s := by
  refine wpAny_If (wpAny_mono ht (fun b s' h => ?_) fun _ _ e => e)
  obtain ⟨rfl, h', tk, rfl, F', N'⟩ := h
  cases hB : b with
  | true => exact h1 hB h' tk F' N'
  | false => exact h2 hB h' tk F' N'
/-- an if that stores one name, its ways joined -/
theorem if_join {test : PySem.Expr} {body orelse : List Stmt} {pos : Pos} (F : Fr h₁ L s.heap m) (N : News h₁ L s.heap news) (x : PySem.Str) (V : Value → Prop)
    (ht : wpAny M A (exec (.If test body orelse pos) env) (fun f s' => Hold (f = .next ∧ ∃ h' tk v, s' = { s with heap := h', toks := tk } ∧ V v ∧ Fr h₁ L h' (fun y => if y = x then some v else m y) ∧ News h₁ L h' news)) E s)
    (h : ∀ h' tk v, V v → Fr h₁ L h' (fun y => if y = x then some v else m y) → News h₁ L h' news → Q .next { s with heap := h', toks := tk }) :
    wpAny M A (exec (.If test body orelse pos) env) Q E s := by
  refine wpAny_mono ht (fun f s' hh => ?_) fun _ _ e => e
  obtain ⟨rfl, h', tk, v, rfl, hv, F', N'⟩ := hh
  exact h h' tk v hv F' N'
end
theorem find_digits {c : Nat} (hc : okc c = true) : Txt.find (Str.ofString "0123456789") ⟨#[c]⟩ = if digc c = true then (c : Int) - 48 else -1 := by
  have := ok_all (p := fun c => Txt.find (Str.ofString "0123456789") ⟨#[c]⟩ == if digc c = true then (c : Int) - 48 else -1) (by decide +kernel) hc
  simpa using this
theorem blank_in {c : Nat} (hc : okc c = true) : (!(Builtin.Str.occurrences (Str.ofString " \t\n\x0b\x0c\x0d\x1c\x1d\x1e\x1f") { cps := #[c] } 0 (Str.ofString " \t\n\x0b\x0c\x0d\x1c\x1d\x1e\x1f").length 1).isEmpty) = blankc c := by
  have := ok_all (p := fun c => (!(Builtin.Str.occurrences (Str.ofString " \t\n\x0b\x0c\x0d\x1c\x1d\x1e\x1f") { cps := #[c] } 0 (Str.ofString " \t\n\x0b\x0c\x0d\x1c\x1d\x1e\x1f").length 1).isEmpty) == blankc c) (by decide +kernel) hc
  simpa using this
theorem cap_yes {c : Nat} (h1 : (65 : Int) ≤ c) (h2 : (c : Int) ≤ 90) : (c : Int) + 32 = ((lowc c : Nat) : Int) := by
  unfold lowc
  rw [if_pos (by omega)]; rfl
theorem cap_no {c : Nat} (h : ¬ ((65 : Int) ≤ c ∧ (c : Int) ≤ 90)) : (c : Int) = ((lowc c : Nat) : Int) := by
  unfold lowc
  rw [if_neg (by omega)]
theorem join_keep {h₁ h' : Heap} {L : Addr} {m : PySem.Str → Option Value} {x : PySem.Str} {v : Value} (F : Fr h₁ L h' m) (hm : m x = some v) : Fr h₁ L h' (fun y => if y = x then some v else m y) := by
  rw [← same_upd hm]; exact F
theorem int_tok {a b : Int} {t : Tok} (h : a = b) : ∃ tq, Value.int a t = .int b tq := ⟨t, by rw [h]⟩

/-! ## the tests' verdicts -/
theorem any_q {l : List Nat} {q : Nat} : ((l.map fun n : Nat => (n : Int)).any fun x => x == (q : Int)) = l.any fun n => q == n := by
  induction l with
  | nil => rfl
  | cons a l ih =>
    rw [List.map_cons, List.any_cons, List.any_cons, ih]
    congr 1
    rw [Bool.eq_iff_iff, beq_iff_eq, beq_iff_eq]
    omega
theorem any_2 {a b q : Nat} : ([(a : Int), (b : Int)].any fun x => x == (q : Int)) = (q == a || q == b) := by
  have := any_q (l := [a, b]) (q := q)
  simpa using this
theorem any_3 {a b d q : Nat} : ([(a : Int), (b : Int), (d : Int)].any fun x => x == (q : Int)) = (q == a || q == b || q == d) := by
  have := any_q (l := [a, b, d]) (q := q)
  simpa [Bool.or_assoc] using this
theorem any_4 {a b d e q : Nat} : ([(a : Int), (b : Int), (d : Int), (e : Int)].any fun x => x == (q : Int)) = (q == a || q == b || q == d || q == e) := by
  have := any_q (l := [a, b, d, e]) (q := q)
  simpa [Bool.or_assoc] using this
theorem any_5 {a b d e f q : Nat} : ([(a : Int), (b : Int), (d : Int), (e : Int), (f : Int)].any fun x => x == (q : Int)) = (q == a || q == b || q == d || q == e || q == f) := by
  have := any_q (l := [a, b, d, e, f]) (q := q)
  simpa [Bool.or_assoc] using this
theorem sep_any {c : Nat} (hc : okc c = true) : ([Str.ofString ",", Str.ofString ";", Str.ofString "|"].any fun x => x == ({ cps := #[c] } : PySem.Str)) = sepc c := by
  have := ok_all (p := fun c => ([Str.ofString ",", Str.ofString ";", Str.ofString "|"].any fun x => x == ({ cps := #[c] } : PySem.Str)) == sepc c) (by decide +kernel) hc
  simpa using this
theorem and_t {a b : Bool} (h1 : a = true) (h2 : b = true) : true = (a && b) := by rw [h1, h2]; rfl
theorem and_f1 {a b : Bool} (h1 : a = false) : false = (a && b) := by rw [h1]; rfl
theorem and_f2 {a b : Bool} (h1 : b = false) : false = (a && b) := by rw [h1, Bool.and_false]
section
variable {r : RS} {c : Nat} {fg : Int}
theorem tc1 (hdg : digc c = decide (0 ≤ fg)) : (0 ≤ fg → (r.q : Int) < 2 → true = b1 r c) ∧ (¬ (r.q : Int) < 2 → false = b1 r c) ∧ (¬ 0 ≤ fg → false = b1 r c) :=
  ⟨fun h h' => and_t (by rw [hdg]; exact decide_eq_true h) (decide_eq_true (by omega)), fun h => and_f2 (decide_eq_false (by omega)), fun h => and_f1 (by rw [hdg]; exact decide_eq_false h)⟩
theorem tc2 (hdg : digc c = decide (0 ≤ fg)) : (0 ≤ fg → ([(5 : Int), 6].any fun x => x == (r.q : Int)) = true → true = b2 r c) ∧ (([(5 : Int), 6].any fun x => x == (r.q : Int)) = false → false = b2 r c) ∧ (¬ 0 ≤ fg → false = b2 r c) :=
  ⟨fun h h' => and_t (by rw [hdg]; exact decide_eq_true h) (any_2.symm.trans h'), fun h => and_f2 (any_2.symm.trans h), fun h => and_f1 (by rw [hdg]; exact decide_eq_false h)⟩
theorem tc3 : (blankc c = true → ([(1 : Int), 6, 8].any fun x => x == (r.q : Int)) = true → true = b3 r c) ∧ (([(1 : Int), 6, 8].any fun x => x == (r.q : Int)) = false → false = b3 r c) ∧ (blankc c = false → false = b3 r c) :=
  ⟨fun h h' => and_t h (any_3.symm.trans h'), fun h => and_f2 (any_3.symm.trans h), fun h => and_f1 h⟩
theorem tc4 : (blankc c = true → ([(0 : Int), 2, 5, 7, 9].any fun x => x == (r.q : Int)) = true → true = b4 r c) ∧ (([(0 : Int), 2, 5, 7, 9].any fun x => x == (r.q : Int)) = false → false = b4 r c) ∧ (blankc c = false → false = b4 r c) :=
  ⟨fun h h' => and_t h (any_5.symm.trans h'), fun h => and_f2 (any_5.symm.trans h), fun h => and_f1 h⟩
theorem beq_t {a b : Nat} {z : Int} (hz : z = (b : Int)) (h : (a : Int) = z) : (a == b) = true := by rw [beq_iff_eq]; omega
theorem beq_f {a b : Nat} {z : Int} (hz : z = (b : Int)) (h : (a : Int) ≠ z) : (a == b) = false := by rw [beq_eq_false_iff_ne]; omega
theorem tc5 : (((lowc c : Nat) : Int) = 112 → ([(1 : Int), 2].any fun x => x == (r.q : Int)) = true → true = b5 r c) ∧ (([(1 : Int), 2].any fun x => x == (r.q : Int)) = false → false = b5 r c) ∧ (((lowc c : Nat) : Int) ≠ 112 → false = b5 r c) :=
  ⟨fun h h' => and_t (beq_t rfl h) (any_2.symm.trans h'), fun h => and_f2 (any_2.symm.trans h), fun h => and_f1 (beq_f rfl h)⟩
theorem tc6 : (((lowc c : Nat) : Int) = 101 → (r.q : Int) = 3 → true = b6 r c) ∧ ((r.q : Int) ≠ 3 → false = b6 r c) ∧ (((lowc c : Nat) : Int) ≠ 101 → false = b6 r c) :=
  ⟨fun h h' => and_t (beq_t rfl h) (beq_t rfl h'), fun h => and_f2 (beq_f rfl h), fun h => and_f1 (beq_f rfl h)⟩
theorem tc7 : (((lowc c : Nat) : Int) = 114 → (r.q : Int) = 4 → true = b7 r c) ∧ ((r.q : Int) ≠ 4 → false = b7 r c) ∧ (((lowc c : Nat) : Int) ≠ 114 → false = b7 r c) :=
  ⟨fun h h' => and_t (beq_t rfl h) (beq_t rfl h'), fun h => and_f2 (beq_f rfl h), fun h => and_f1 (beq_f rfl h)⟩
theorem tc8 : (((lowc c : Nat) : Int) = 47 → ([(1 : Int), 2].any fun x => x == (r.q : Int)) = true → true = b8 r c) ∧ (([(1 : Int), 2].any fun x => x == (r.q : Int)) = false → false = b8 r c) ∧ (((lowc c : Nat) : Int) ≠ 47 → false = b8 r c) :=
  ⟨fun h h' => and_t (beq_t rfl h) (any_2.symm.trans h'), fun h => and_f2 (any_2.symm.trans h), fun h => and_f1 (beq_f rfl h)⟩
theorem tc9 : ((97 : Int) ≤ ((lowc c : Nat) : Int) → ((lowc c : Nat) : Int) ≤ 122 → ([(5 : Int), 6, 7, 8].any fun x => x == (r.q : Int)) = true → true = b9 r c) ∧ (([(5 : Int), 6, 7, 8].any fun x => x == (r.q : Int)) = false → false = b9 r c) ∧ (¬ ((lowc c : Nat) : Int) ≤ 122 → false = b9 r c) ∧ (¬ (97 : Int) ≤ ((lowc c : Nat) : Int) → false = b9 r c) :=
  ⟨fun h h2 h' => and_t (and_t (decide_eq_true (by omega)) (decide_eq_true (by omega))).symm (any_4.symm.trans h'), fun h => and_f2 (any_4.symm.trans h), fun h => and_f1 (and_f2 (decide_eq_false (by omega))).symm, fun h => and_f1 (and_f1 (decide_eq_false (by omega))).symm⟩
theorem tc10 (hc : okc c = true) : (([Str.ofString ",", Str.ofString ";", Str.ofString "|"].any fun x => x == ({ cps := #[c] } : PySem.Str)) = true → (8 : Int) ≤ (r.q : Int) → true = b10 r c) ∧ (¬ (8 : Int) ≤ (r.q : Int) → false = b10 r c) ∧ (([Str.ofString ",", Str.ofString ";", Str.ofString "|"].any fun x => x == ({ cps := #[c] } : PySem.Str)) = false → false = b10 r c) :=
  ⟨fun h h' => and_t ((sep_any hc).symm.trans h) (decide_eq_true (by omega)), fun h => and_f2 (decide_eq_false (by omega)), fun h => and_f1 ((sep_any hc).symm.trans h)⟩
end
theorem fg_dig {c : Nat} {fg : Int} (h : fg = if digc c = true then (c : Int) - 48 else -1) : digc c = decide (0 ≤ fg) := by
  cases hd : digc c with
  | true =>
    rw [hd, if_pos rfl] at h
    unfold digc at hd
    simp only [Bool.and_eq_true, decide_eq_true_eq] at hd
    exact (decide_eq_true (by omega)).symm
  | false =>
    rw [hd, if_neg Bool.false_ne_true] at h
    exact (decide_eq_false (by omega)).symm
theorem fg_val {c : Nat} {fg : Int} (h : fg = if digc c = true then (c : Int) - 48 else -1) (hd : digc c = true) : fg = ((c - 48 : Nat) : Int) := by
  rw [hd, if_pos rfl] at h
  unfold digc at hd
  simp only [Bool.and_eq_true, decide_eq_true_eq] at hd
  omega
theorem fig_add {a d : Nat} {fg : Int} (h : fg = (d : Int)) : (a : Int) * 10 + fg = ((a * 10 + d : Nat) : Int) := by rw [h]; push_cast; rfl
theorem b1_dig {r : RS} {c : Nat} (h : b1 r c = true) : digc c = true := by unfold b1 at h; simp only [Bool.and_eq_true] at h; exact h.1
theorem b2_dig {r : RS} {c : Nat} (h : b2 r c = true) : digc c = true := by unfold b2 at h; simp only [Bool.and_eq_true] at h; exact h.1
theorem b9_low {r : RS} {c : Nat} (h : b9 r c = true) : lowc c ≤ 122 := by unfold b9 letc at h; simp only [Bool.and_eq_true, decide_eq_true_eq] at h; exact h.1.2
theorem news_drop {h₁ h : Heap} {L : Addr} {q : Addr × Obj} {news : List (Addr × Obj)} (N : News h₁ L h (q :: news)) : News h₁ L h news := fun p hp => N p (.tail _ hp)
theorem RdM.of {len R0 : Addr} {r : RS} {nm : PySem.Str} {t1 t2 t3 t4 : Tok} {m₁ : PySem.Str → Option Value} {z2 z3 z4 : Int} (h0 : m₁ (Str.ofString "lengths") = some (.ref len)) (h1 : m₁ (Str.ofString "rows") = some (.ref R0))
    (h2 : m₁ (Str.ofString "state") = some (.int z2 t1)) (h3 : m₁ (Str.ofString "amount") = some (.int z3 t2)) (h4 : m₁ (Str.ofString "many") = some (.int z4 t3)) (h5 : m₁ (Str.ofString "name") = some (.str nm t4)) (e2 : z2 = (r.q : Nat)) (e3 : z3 = (r.amount : Nat)) (e4 : z4 = (r.many : Nat)) : RdM len R0 r nm t1 t2 t3 t4 m₁ := by
  subst e2; subst e3; subst e4
  exact ⟨h0, h1, h2, h3, h4, h5⟩
theorem rd_next {h₁ h'' : Heap} {L : Addr} {s : Shared} {it R0 len : Addr} {o lenO : Obj} {i c : Nat} {r r' : RS} {rvs : List Value} {own : List (Addr × Obj)} {n tk'' : Nat} {nm : PySem.Str} {t1 t2 t3 t4 : Tok} {m₂ : PySem.Str → Option Value}
    (hst : rstep r c = some r') (hM : RdM len R0 r' nm t1 t2 t3 t4 m₂) (F : Fr h₁ L h'' m₂) (N : News h₁ L h'' ((it, o) :: (R0, PySem.W.listOf rvs.toArray n) :: (len, lenO) :: own)) (hR : RowsIn own rvs r'.rows) (hO : ∀ p ∈ own, IsTupO p.2) (hnm : nm.cps.toList = r'.name) (hnl : nm.length ≤ i + 1) (hrl : rvs.length ≤ i) :
    Hold (RdNext h₁ L s { s with heap := h'', toks := tk'' } it R0 len o lenO i c r) :=
  ⟨r', rvs, own, n, h'', tk'', nm, t1, t2, t3, t4, m₂, hst, rfl, hM, F, N, hR, hO, hnm, hnl, Nat.le_succ_of_le hrl⟩

theorem append_row {prog : Program} {w : World} {A : Around} {E : Value → Shared → Prop} {s : Shared} {h₀ : Heap} {L : Addr} {m : PySem.Str → Option Value} {Q : Value → Shared → Prop} {T it D len : Addr} {to o lenO : Obj} {own : List (Addr × Obj)} {its : List Value} {n : Nat} {x : Value}
    (F : Fr h₀ L s.heap m) (N : News h₀ L s.heap ((T, to) :: (it, o) :: (D, PySem.W.listOf its.toArray n) :: (len, lenO) :: own)) (hto : to.cls ≠ .type "list") (ho : o.cls ≠ .type "list") (hl : lenO.cls ≠ .type "list") (hO : ∀ p ∈ own, IsTupO p.2) (hsz : its.length ≤ 1000)
    (h : ∀ h' n', Fr h₀ L h' m → News h₀ L h' ((T, to) :: (it, o) :: (D, PySem.W.listOf (its ++ [x]).toArray n') :: (len, lenO) :: own) → Q .none { s with heap := h' }) :
    wpAny (model prog w) A (call (.builtin "list.append") [.ref D, x]) Q E s := by
  have hD := N (D, PySem.W.listOf its.toArray n) (.tail _ (.tail _ (.head _)))
  refine append_any F N (.tail _ (.tail _ (.head _))) hsz fun h' F' K' D' => ?_
  obtain ⟨n', hn'⟩ := D'
  refine h h' n' F' fun p hp => ?_
  have key : ∀ p ∈ ((T, to) :: (it, o) :: (D, PySem.W.listOf its.toArray n) :: (len, lenO) :: own), p.2.cls ≠ .type "list" → h'.get? p.1 = some p.2 ∧ p.1 ≠ L ∧ h₀.get? p.1 = none := fun p hp hc => ⟨K' p hp (ne_cls (N p hp).1 hD.1 hc), (N p hp).2⟩
  rcases List.mem_cons.mp hp with rfl | hp
  · exact key _ (.head _) hto
  · rcases List.mem_cons.mp hp with rfl | hp
    · exact key _ (.tail _ (.head _)) ho
    · rcases List.mem_cons.mp hp with rfl | hp
      · exact ⟨hn', hD.2⟩
      · rcases List.mem_cons.mp hp with rfl | hp
        · exact key _ (.tail _ (.tail _ (.tail _ (.head _)))) hl
        · refine key p (.tail _ (.tail _ (.tail _ (.tail _ hp)))) ?_
          obtain ⟨its, k, e⟩ := hO p hp
          rw [e]; show Value.type "tuple" ≠ Value.type "list"; decide
theorem strIt_ne (x : PySem.Str) : Value.type (strIt x) ≠ .type "list" := fun e => by
  have : strIt x = "list" := by injection e
  unfold strIt at this
  split at this <;> exact absurd this (by decide)
theorem name_snoc {nm : PySem.Str} {l : List Nat} {k : Nat} (h : nm.cps.toList = l) : (nm ++ ({ cps := #[((k : Nat) : Int).toNat] } : PySem.Str)).cps.toList = l ++ [k] := by
  rw [PySem.Str.cps_append, Array.toList_append, h, Int.toNat_natCast]
theorem name_len {nm : PySem.Str} {k i : Nat} (h : nm.length ≤ i) : (nm ++ ({ cps := #[((k : Nat) : Int).toNat] } : PySem.Str)).length ≤ i + 1 := by
  rw [PySem.Str.length_append]
  show nm.length + 1 ≤ _
  omega
theorem one_0 {k : Nat} (h : (k : Int) = 0) : (1 : Int) = ((one k : Nat) : Int) := by unfold one; rw [if_pos (by omega)]; rfl
theorem one_1 {k : Nat} (h : (k : Int) ≠ 0) : (k : Int) = ((one k : Nat) : Int) := by unfold one; rw [if_neg (by omega)]
theorem rd_next_row {h₁ h'' : Heap} {L : Addr} {s : Shared} {it R0 len T : Addr} {o lenO : Obj} {i c : Nat} {r : RS} {rvs : List Value} {own : List (Addr × Obj)} {n tk'' : Nat} {nm nm' : PySem.Str} {t1 t2 t3 t4 u0 u1 u2 : Tok} {zk : Int} {m₂ : PySem.Str → Option Value}
    (hst : rstep r c = some { rows := r.rows ++ [(r.name, r.amount, one r.many)], q := 0, amount := 0, many := 0, name := [] }) (hM : RdM len R0 { rows := r.rows ++ [(r.name, r.amount, one r.many)], q := 0, amount := 0, many := 0, name := [] } nm' t1 t2 t3 t4 m₂) (F : Fr h₁ L h'' m₂)
    (N : News h₁ L h'' ((T, { cls := .type "tuple", data := .seq #[.str nm u0, .int (r.amount : Nat) u1, .int zk u2] }) :: (it, o) :: (R0, PySem.W.listOf (rvs ++ [Value.ref T]).toArray n) :: (len, lenO) :: own)) (hk : zk = ((one r.many : Nat) : Int)) (hR : RowsIn own rvs r.rows) (hO : ∀ p ∈ own, IsTupO p.2) (hnm : nm.cps.toList = r.name) (hnl : nm.length ≤ 400) (hnm' : nm' = PySem.Str.empty) (hrl : rvs.length ≤ i) :
    Hold (RdNext h₁ L s { s with heap := h'', toks := tk'' } it R0 len o lenO i c r) := by
  subst hk
  subst hnm'
  refine ⟨_, rvs ++ [Value.ref T], (T, rowO nm r.amount (one r.many) u0 u1 u2) :: own, n, h'', tk'', PySem.Str.empty, t1, t2, t3, t4, m₂, hst, rfl, hM, F, fun p hp => ?_, RowsIn.snoc (r := (r.name, r.amount, one r.many)) ⟨T, nm, u0, u1, u2, rfl, hnm, hnl, .head _⟩ (hR.mono fun p hp => .tail _ hp), fun p hp => ?_, rfl, Nat.zero_le _, by simp; omega⟩
  · rcases List.mem_cons.mp hp with rfl | hp
    · exact N _ (.tail _ (.head _))
    · rcases List.mem_cons.mp hp with rfl | hp
      · exact N _ (.tail _ (.tail _ (.head _)))
      · rcases List.mem_cons.mp hp with rfl | hp
        · exact N _ (.tail _ (.tail _ (.tail _ (.head _))))
        · rcases List.mem_cons.mp hp with rfl | hp
          · exact N _ (.head _)
          · exact N p (.tail _ (.tail _ (.tail _ (.tail _ hp))))
  · rcases List.mem_cons.mp hp with rfl | hp
    · exact ⟨_, _, rfl⟩
    · exact hO p hp
theorem meant_bad {x : PySem.Str} {i c : Nat} {r : RS} (hc : x.cps[i]? = some c) (hr : rdL rd0 (x.cps.toList.take i) = some r) (h : rstep r c = none) : meant x = none := by
  have hlt : i < x.cps.size := (Array.getElem?_eq_some_iff.mp hc).1
  have hl : i < x.cps.toList.length := by simpa using hlt
  have e : x.cps.toList = x.cps.toList.take i ++ c :: x.cps.toList.drop (i + 1) := by
    have h1 := List.take_append_drop i x.cps.toList
    rw [List.drop_eq_getElem_cons hl] at h1
    have h2 : x.cps.toList[i] = c := by
      have := (Array.getElem?_eq_some_iff.mp hc).2
      simpa using this
    rw [h2] at h1
    exact h1.symm
  have h3 : rdL ⟨[], 0, 0, 0, []⟩ x.cps.toList = none := by rw [e]; exact rd_none hr h
  unfold meant rowsOf
  rw [h3]
  rfl
theorem meant_short {x : PySem.Str} {r : RS} (hr : rdL rd0 x.cps.toList = some r) (h : r.q < 8) : meant x = none := by
  unfold meant rowsOf
  have hr' : rdL ⟨[], 0, 0, 0, []⟩ x.cps.toList = some r := hr
  rw [hr']
  show (if 8 ≤ r.q then some _ else none).bind _ = none
  rw [if_neg (by omega)]
  rfl
theorem meant_full {x : PySem.Str} {r : RS} (hr : rdL rd0 x.cps.toList = some r) (h : ¬ r.q < 8) : meant x = allLim (r.rows ++ [(r.name, r.amount, one r.many)]) := by
  unfold meant rowsOf
  have hr' : rdL ⟨[], 0, 0, 0, []⟩ x.cps.toList = some r := hr
  rw [hr']
  show (if 8 ≤ r.q then some _ else none).bind _ = _
  rw [if_pos (by omega)]
  rfl
theorem dict_cls {prog : Program} {w : World} {o : Obj} {kvs : List (PySem.Str × Value)} (h : o.IsDictOf (PySem.strKind prog w) kvs) : o.cls = .type "dict" := by
  obtain ⟨es, ep, h1, _⟩ := h
  exact h1.1
theorem empty_of : Str.ofString "" = PySem.Str.empty := by decide +kernel
end Mine

end
section
open PySem PySem.W PyProof.Rows
set_option maxRecDepth 100000
set_option linter.unusedVariables false
namespace Mine
section
variable {w : World} {p : Program} {loose : List PySem.Str} {mean : ExcName → Option Value} {mg mb : PySem.Str → Option Value} {A₀ : Around} {base h₀ : Heap} {hl : Option Value} {dp un : Nat} {gd : Option (List Code)} {outer : List Env} {env : Env} {L : Addr} {m : PySem.Str → Option Value} {news : List (Addr × Obj)} {s : Shared} {Q E : Value → Shared → Prop}
local macro_rules | `(tactic| walk_at "m room") => `(tactic| first | assumption | ((try simp only [depth_under_make, depth_under_kw, depth_in1, depth_deeper, depth_caller]); (try dsimp only [TopA]); omega))
local macro_rules | `(tactic| walk_at "m units") => `(tactic| first | assumption | ((try simp only [units_in1, units_deeper, Around.mark_units, units_caller]); (try dsimp only [TopA]); omega))
local macro_rules | `(tactic| walk_at "m prem") => `(tactic| ((case kB => k_asm); (case kF => k_asm); (case kX => k_asm); (case kN => k_asm); (case kT => k_asm); (case kf => exact rfl); (case kk => exact rfl); (case kd => walk_at "m room"); (case ku => walk_at "m units")))
local macro_rules | `(tactic| walk_at "m enterB") => `(tactic| (k_dflt (refine' enterW ?k1 ?k2 ?k3 ?k5 ?kA ?kF ?kK ?k6 ?k7 ?k8 ?k9 ?kB ?_ ?c2 ?c3 ?c4 ?c5; (case kA => exact rfl); (case kF => assumption); (case kK => assumption); (case k1 => k_asm); (case k2 => k_asm); (case k3 => k_asm); (case k5 => k_asm); (case k6 => k_is); (case k7 => k_is); (case k8 => walk_at "m room"); (case k9 => first | exact BindsTo.of_eq rfl | exact binds_K (by k_in) rfl (by k_is) rfl rfl rfl); (case c5 => decide); (case kB => exact locs rfl); (case c2 => exact rfl); (case c3 => exact rfl); (case c4 => exact rfl); k_whole; intro L' h' eL' F' N' B' X' T'; (try dsimp only); (try k_fold))))
local macro_rules | `(tactic| walk_at "m item") => `(tactic| (refine' Item.keeps ?mi (Fr.keep ?mF); (case mF => k_asm); (case mi => assumption)))
local macro_rules | `(tactic| walk_at "getAttr ref") => `(tactic| (k_here; (with_reducible show wpAny _ _ (getAttr (Value.ref _) (PySem.Str.ofString "seconds") _) _ _ _); k_dflt (refine' sec_attr _ ?kB ?kF ?kX ?kN ?kT ?kf ?kk ?kd ?ku ?_; (walk_at "m prem")); intro h9 tk9 F9 N9; (try dsimp only)))
local macro_rules | `(tactic| walk_at "getAttr ref") => `(tactic| (k_here; (with_reducible show wpAny _ _ (getAttr (Value.ref _) (PySem.Str.ofString "name") _) _ _ _); k_dflt (refine' name_attr _ ?kB ?kF ?kX ?kN ?kT ?kf ?kk ?kd ?ku ?_; (walk_at "m prem")); intro h9 tk9 F9 N9; (try dsimp only)))
local macro_rules | `(tactic| walk_at "getAttr ref") => `(tactic| (k_here; (with_reducible show wpAny _ _ (getAttr (Value.ref _) (PySem.Str.ofString "GRANULARITY") _) _ _ _); k_dflt (refine' item_gran ?kF ?kX ?ki ?_; (case kF => k_asm); (case kX => k_asm); (case ki => walk_at "m item"))))
local macro_rules | `(tactic| walk_at "getAttr ref") => `(tactic| (k_here; (with_reducible show wpAny _ _ (getAttr (Value.ref _) (PySem.Str.ofString "amount") _) _ _ _); k_dflt (refine' item_amount ?kF ?kX ?ki ?_; (case kF => k_asm); (case kX => k_asm); (case ki => walk_at "m item")); intro t9))
local macro_rules | `(tactic| walk_at "getAttr ref") => `(tactic| (k_here; (with_reducible show wpAny _ _ (getAttr (Value.ref _) (PySem.Str.ofString "multiples") _) _ _ _); k_dflt (refine' item_multiples ?kF ?kX ?ki ?_; (case kF => k_asm); (case kX => k_asm); (case ki => walk_at "m item")); intro t9))
local macro_rules | `(tactic| walk_at "getAttr ref") => `(tactic| (k_here; (with_reducible show wpAny _ _ (getAttr (Value.ref _) (PySem.Str.ofString "namespace") _) _ _ _); k_dflt (refine' item_namespace ?kF ?kX ?ki ?_; (case kF => k_asm); (case kX => k_asm); (case ki => walk_at "m item")); intro t9))

/-- the items, in the heap -/
inductive ItemsAt (h : Heap) : List Value → List Lim → Prop
  | nil : ItemsAt h [] []
  | cons {x : Addr} {l : Lim} {vs ls} : Item h x l.1 (l.2.1 : Nat) (l.2.2 : Nat) → ItemsAt h vs ls → ItemsAt h (.ref x :: vs) (l :: ls)
theorem ItemsAt.get {h : Heap} : ∀ {vs : List Value} {ls : List Lim}, ItemsAt h vs ls → ∀ {i : Nat} {v : Value}, vs[i]? = some v → ∃ x l, ls[i]? = some l ∧ v = .ref x ∧ Item h x l.1 (l.2.1 : Nat) (l.2.2 : Nat)
  | _, _, .nil, i, v, e => by simp at e
  | _, _, .cons (x := x) (l := l) hx r, 0, v, e => by
    have : Value.ref x = v := by simpa using e
    exact ⟨x, l, by simp, this.symm, hx⟩
  | _, _, .cons hx r, i + 1, v, e => by
    obtain ⟨x, l, h1, h2⟩ := r.get (i := i) (v := v) (by simpa using e)
    exact ⟨x, l, by simpa using h1, h2⟩
theorem ItemsAt.len {h : Heap} : ∀ {vs : List Value} {ls : List Lim}, ItemsAt h vs ls → vs.length = ls.length
  | _, _, .nil => rfl
  | _, _, .cons _ r => by simp [r.len]
theorem ItemsAt.keeps {h h' : Heap} (k : ∀ b o, h.get? b = some o → h'.get? b = some o) : ∀ {vs : List Value} {ls : List Lim}, ItemsAt h vs ls → ItemsAt h' vs ls
  | _, _, .nil => .nil
  | _, _, .cons hx r => .cons (hx.keeps k) (r.keeps k)
theorem ItemV.at {h₀ h : Heap} {L : Addr} {own news : List (Addr × Obj)} {v : Value} {l : Lim} (N : News h₀ L h news) (hs : ∀ p ∈ own, p ∈ news) (i : ItemV own v l) : ∃ x, v = .ref x ∧ Item h x l.1 (l.2.1 : Nat) (l.2.2 : Nat) := by
  obtain ⟨x, dx, ta, tn, tk, e, h1, h2⟩ := i
  exact ⟨x, e, dx, ta, tn, tk, (N _ (hs _ h1)).1, (N _ (hs _ h2)).1⟩
theorem ItemsIn.at {h₀ h : Heap} {L : Addr} {own news : List (Addr × Obj)} (N : News h₀ L h news) (hs : ∀ p ∈ own, p ∈ news) : ∀ {vs : List Value} {ls : List Lim}, ItemsIn own vs ls → ItemsAt h vs ls
  | _, _, .nil => .nil
  | _, _, .cons hv r => by
    obtain ⟨x, rfl, i⟩ := hv.at N hs
    exact .cons i (r.at N hs)

/-- what is told of a limit -/
def toldO (l : Lim) (t0 t1 ta tn tk te : Tok) : Obj := { cls := .type "tuple", data := .seq #[.int l.1.sec t0, .str l.1.name t1, .int (l.2.1 : Nat) ta, .int (l.2.2 : Nat) tn, .str "LIMITER" tk, .int (l.1.sec * (l.2.2 : Nat)) te] }
def TupV (own : List (Addr × Obj)) (v : Value) (l : Lim) : Prop := ∃ t t0 t1 ta tn tk te, v = .ref t ∧ (t, toldO l t0 t1 ta tn tk te) ∈ own
inductive ToldIn (own : List (Addr × Obj)) : List Value → List Lim → Prop
  | nil : ToldIn own [] []
  | cons {v l vs ls} : TupV own v l → ToldIn own vs ls → ToldIn own (v :: vs) (l :: ls)
theorem TupV.mono {own own' : List (Addr × Obj)} {v : Value} {l : Lim} (h : TupV own v l) (k : ∀ p ∈ own, p ∈ own') : TupV own' v l := by
  obtain ⟨t, t0, t1, ta, tn, tk, te, h1, h2⟩ := h
  exact ⟨t, t0, t1, ta, tn, tk, te, h1, k _ h2⟩
theorem ToldIn.mono {own own' : List (Addr × Obj)} (k : ∀ p ∈ own, p ∈ own') : ∀ {vs : List Value} {ls : List Lim}, ToldIn own vs ls → ToldIn own' vs ls
  | _, _, .nil => .nil
  | _, _, .cons h r => .cons (h.mono k) (r.mono k)
theorem ToldIn.snoc {own : List (Addr × Obj)} {v : Value} {l : Lim} (h : TupV own v l) : ∀ {vs : List Value} {ls : List Lim}, ToldIn own vs ls → ToldIn own (vs ++ [v]) (ls ++ [l])
  | _, _, .nil => .cons h .nil
  | _, _, .cons h' r => .cons h' (r.snoc h)
theorem ToldIn.len {own : List (Addr × Obj)} : ∀ {vs : List Value} {ls : List Lim}, ToldIn own vs ls → vs.length = ls.length
  | _, _, .nil => rfl
  | _, _, .cons _ r => by simp [r.len]
theorem comp_name {A : Around} {C : Addr} {oC : Obj} {mC : PySem.Str → Option Value} {x : PySem.Str} {pos : Pos} {v : Value} {scope : Scope} (i : IsNs oC (fun y => if y = x then some v else mC y)) (N : News h₀ L s.heap news) (hC : (C, oC) ∈ news) (h : Q v s) (hk : scope.kind = .function := by rfl) (hx : scope.names.lookup x = some .local := by rfl) (hd : (x == ("__debug__" : PySem.Str)) = false := by decide) :
    wpAny (model PySem.Challenge.rw_bn0039_01.row.prog w) A (eval (.Name x pos) (compEnv scope C env)) Q E s := PySem.wpAny_Name (wpAny_loadName_local (env := compEnv scope C env) hk hx (i.ns (N _ hC).1) (if_pos rfl) h) hd
theorem told_next {h₁ h9 : Heap} {tk9 : Nat} {C it D t : Addr} {oC o : Obj} {i n : Nat} {outs : List Value} {own : List (Addr × Obj)} {ls : List Lim} {l : Lim} {t0 t1 ta tn tk te : Tok} (F : Fr h₁ L h9 m) (N : News h₁ L h9 ((t, { cls := .type "tuple", data := .seq [.int l.1.sec t0, .str l.1.name t1, .int (l.2.1 : Nat) ta, .int (l.2.2 : Nat) tn, .str "LIMITER" tk, .int (l.1.sec * (l.2.2 : Nat)) te].toArray }) :: (C, oC) :: (it, o) :: (D, PySem.W.listOf outs.toArray n) :: own))
    (hl : ls[i]? = some l) (hj : (ToldIn own outs (ls.take i) ∧ ∀ p ∈ own, IsTupO p.2) ∧ outs.length = i) :
    Hold (∃ own' h'' tk'', ({ s with heap := h9, toks := tk9 } : Shared) = { s with heap := h'', toks := tk'' } ∧ ((ToldIn own' (outs ++ [Value.ref t]) (ls.take (i + 1)) ∧ ∀ p ∈ own', IsTupO p.2) ∧ (outs ++ [Value.ref t]).length = i + 1) ∧ Fr h₁ L h'' m ∧ News h₁ L h'' ((C, oC) :: (it, o) :: (D, PySem.W.listOf outs.toArray n) :: own')) := by
  have e : ls.take (i + 1) = ls.take i ++ [l] := by rw [List.take_add_one, hl]; rfl
  refine ⟨(t, toldO l t0 t1 ta tn tk te) :: own, h9, tk9, rfl, ⟨⟨?_, fun p hp => ?_⟩, by simp [hj.2]⟩, F, fun p hp => ?_⟩
  · rw [e]
    exact ToldIn.snoc ⟨t, t0, t1, ta, tn, tk, te, rfl, .head _⟩ (hj.1.1.mono fun p hp => .tail _ hp)
  · rcases List.mem_cons.mp hp with rfl | hp
    · exact ⟨_, _, rfl⟩
    · exact hj.1.2 p hp
  · rcases List.mem_cons.mp hp with rfl | hp
    · exact N _ (.tail _ (.head _))
    · rcases List.mem_cons.mp hp with rfl | hp
      · exact N _ (.tail _ (.tail _ (.head _)))
      · rcases List.mem_cons.mp hp with rfl | hp
        · exact N _ (.tail _ (.tail _ (.tail _ (.head _))))
        · rcases List.mem_cons.mp hp with rfl | hp
          · exact N _ (.head _)
          · exact N p (.tail _ (.tail _ (.tail _ (.tail _ hp))))

local macro_rules | `(tactic| walk_at "newList") => `(tactic| refine hold ?_)
local macro_rules | `(tactic| walk_at "eval ListComp") => `(tactic| refine hold ?_)
local macro_rules | `(tactic| walk_at "pyIter ref") => `(tactic| (k_here; k_dflt (refine' list_iter ?F ?N ?l ?_; (case F => k_asm); (case N => k_asm); (case l => exact stays_list (Fr.keep (by k_asm)) (by assumption))); intro it9 h9 F9 N9; (try dsimp only)))
local macro_rules | `(tactic| walk_at "eval Name") => `(tactic| (k_here; (with_reducible show wpAny _ _ (eval _ (compEnv _ _ _)) _ _ _); k_dflt (refine' comp_name ?i ?N ?C ?_; (case i => assumption); (case N => k_asm); (case C => k_mem))))
local macro_rules | `(tactic| walk_at "eval Tuple") => `(tactic| refine Tuple_ ?_)
local macro_rules | `(tactic| walk_at "getMethod ref") => `(tactic| (k_here; (with_reducible show wpAny _ _ (getMethod _ (PySem.Str.ofString "get_expiry") _) _ _ _); k_dflt (refine' item_expiry ?kF ?kX ?ki ?_; (case kF => k_asm); (case kX => k_asm); (case ki => walk_at "m item"))))
local macro_rules | `(tactic| walk_at "call ref") => `(tactic| (k_here; k_dflt (show wpAny _ _ (call (Value.ref 216) [Value.ref _]) _ _ _); k_dflt (refine' expiry_call ?ki ?kB ?kF ?kX ?kT ?kf ?kk ?kd ?ku ?_; (case ki => walk_at "m item"); (case kB => k_asm); (case kF => k_asm); (case kX => k_asm); (case kT => k_asm); (case kf => exact rfl); (case kk => exact rfl); (case kd => walk_at "m room"); (case ku => walk_at "m units")); intro t9 h9 tk9 K9; (try dsimp only); (have F9 := Fr.keeps (by k_asm) K9); (have N9 := news_keeps (by k_asm) K9)))

set_option maxHeartbeats 4000000 in
theorem told_call {l : Addr} {vs : List Value} {ls : List Lim} (hl9 : s.heap.IsList l vs.toArray) (hI : ItemsAt s.heap vs ls) (hvs : vs.length ≤ 1000) (B : Below A₀ base outer h₀) (F : Fr h₀ L s.heap m) (X : (hd.heap_39 w.params).In h₀) (T : Top p loose mean mg mb h₀) (hf : env.frame = some L) (hke : env.scope.kind = .function) (hhl : hl = none)
    (hdp : dp + 60 < recursionLimit) (hun : un + 260 < cLine)
    (hret : ∀ D outs own n h' tk', Made s.heap h' ((D, PySem.W.listOf outs.toArray n) :: own) → ToldIn own outs ls → (∀ p ∈ own, IsTupO p.2) → Q (.ref D) { s with heap := h', toks := tk' }) :
    wpAny (model PySem.Challenge.rw_bn0039_01.row.prog w) (TopA hl dp un gd env outer) (call (.ref 416) [.ref l]) Q E s := by
  revert X; k_fill; intro X
  refine wpAny_call (withB [(PySem.Str.ofString "items", .ref l)] ?_)
  walk_at "m enterB"
  k_steps
  unfold Hold
  refine wpAny_ListComp (by decide) rfl (by decide) ?_
  k_steps
  unfold Hold
  refine' comp_go (vs := vs) (fun i own outs => (ToldIn own outs (ls.take i) ∧ ∀ p ∈ own, IsTupO p.2) ∧ outs.length = i) hhl ?gF ?gN ?gl hvs ?g0 ?glen ?gtup ?gc ?gk ?gx ?gturn ?gdone
  case gc => decide
  case gk => exact rfl
  case gx => exact rfl
  case gF => k_asm
  case gN => k_asm
  case gl => exact hl9
  case g0 => exact ⟨⟨.nil, fun p hp => by cases hp⟩, rfl⟩
  case glen =>
    exact fun i own outs hj => hj.2
  case gtup => exact fun i own outs hj => hj.1.2
  case gturn =>
    intro i v own outs C oC D n o h8 tk8 mC hv hj iC F8 N8
    obtain ⟨x, l9, hl, rfl, hit⟩ := hI.get hv
    k_steps
    exact told_next (by assumption) (by assumption) hl hj
  case gdone =>
    intro D outs own n h8 tk8 hj F8 N8
    k_steps
    refine hret D outs own n h8 tk8 (made_of F8 N8) ?_ hj.1.2
    have := hj.1.1
    rwa [List.take_of_length_le (by rw [hI.len]; exact Nat.le_refl _)] at this
end
end Mine

end
section
open PySem PySem.W PyProof.Rows
set_option maxRecDepth 100000
set_option linter.unusedVariables false
namespace Mine
section
variable {w : World} {prog : Program}
theorem go_list {M : Model} {A : Around} {E : Value → Shared → Prop} {s : Shared} {elts : List PySem.Expr} {k} {pos : Pos} {it l : Addr} {i : Nat} {v : Value} {Q : Unit → Shared → Prop} (hit : s.heap.IsListIter it l i) (h : Q () s) : wpAny M A (letOwnedTupleGo (.Tuple elts k pos) (.ref it) v) Q E s := by
  obtain ⟨o, ho, hc, hd⟩ := hit
  unfold letOwnedTupleGo
  dsimp only
  cases v with
  | ref a =>
    dsimp only
    refine wpAny_bind (wpAny_load ho ?_)
    rw [hc, hd]
    dsimp only
    rw [if_neg (by simp)]
    exact wpAny_pure h
  | _ => exact wpAny_pure h
theorem list_loopT {A : Around} {s : Shared} {env : Env} {R : Result → Shared → Prop} {elts : List PySem.Expr} {k} {pos : Pos} {body : List Stmt} {it l : Addr} {items : Array Value} (J : Nat → Shared → Prop)
    (hJ : ∀ i s', J i s' → i ≤ items.size ∧ s'.heap.IsListIter it l i ∧ s'.heap.IsList l items)
    (step : ∀ i v s' h', items[i]? = some v → J i s' → h'.IsListIter it l (i + 1) → Heap.SameBut it s'.heap h' →
      wpAny (model prog w) A (assign (.Tuple elts k pos) env v) (fun _ s₂ => wpAny (model prog w) A (execs body env) (fun f s₃ => match f with | .next => J (i + 1) s₃ | .ret v => R (.ok (.ret v)) s₃ | _ => False) (notedBy (model prog w) A env fun e s' => R (.error e) s') s₂) (notedBy (model prog w) A env fun e s' => R (.error e) s') { s' with heap := h' })
    (stop : ∀ s', J items.size s' → A.handled = none ∧ ∀ h', Heap.ExtBut it s'.heap h' → R (.ok .next) { s' with heap := h' })
    (h0 : J 0 s) : codeAny (model prog w) A (.forLoop (.Tuple elts k pos) (.ref it) body [] env) R s := by
  refine codeAny_forLoop_any (fun n s' => ∃ i, n = items.size - i ∧ J i s') ?_ items.size ⟨0, rfl, h0⟩
  rintro n s' ⟨i, rfl, hj⟩
  obtain ⟨hi, hit, hl⟩ := hJ i s' hj
  cases hg : items[i]? with
  | none =>
    have hi6 : i = items.size := by
      have : items.size ≤ i := by simpa using hg
      omega
    subst hi6
    obtain ⟨hh, hs⟩ := stop s' hj
    exact wpAny_pyNext_list_end hh hit hl hg fun h' he => wpAny_execs_nil (hs h' he)
  | some v =>
    have hlt : i < items.size := (Array.getElem?_eq_some_iff.mp hg).1
    refine wpAny_pyNext_list_item hit hl hg fun h' hit' hs => ?_
    refine go_list (s := { s' with heap := h' }) hit' ?_
    refine wpAny_mono (step i v s' h' hg hj hit' hs) (fun _ s₂ h₂ => wpAny_mono h₂ (fun f s₃ h₃ => ?_) fun _ _ q => q) fun _ _ q => q
    cases f with
    | next => exact ⟨items.size - (i + 1), by omega, i + 1, rfl, h₃⟩
    | ret v => exact h₃
    | brk => exact h₃.elim
    | cont => exact h₃.elim

/-- the frame's two names that the loop keeps -/
structure FdM (len D0 : Addr) (m₁ : PySem.Str → Option Value) : Prop where
  h0 : m₁ (Str.ofString "lengths") = some (.ref len)
  h1 : m₁ (Str.ofString "found") = some (.ref D0)
def fdF (len D0 : Addr) (m₁ : PySem.Str → Option Value) : PySem.Str → Option Value := fun y => if y = Str.ofString "lengths" then some (.ref len) else if y = Str.ofString "found" then some (.ref D0) else m₁ y
theorem FdM.eq {len D0 : Addr} {m₁ : PySem.Str → Option Value} (h : FdM len D0 m₁) : m₁ = fdF len D0 m₁ := by
  funext y
  unfold fdF
  repeat' split
  all_goals first | rfl | (rename_i e; rw [e]; first | exact h.h0 | exact h.h1)
def FdNext (h₁ : Heap) (L : Addr) (s s₃ : Shared) (it src D0 len : Addr) (o lenO : Obj) (vs : List Value) (n0 : Nat) (rows : List Row) (outs : List Value) (ls : List Lim) (r : Row) : Prop :=
  ∃ (l : Lim), ∃ x own' n' h'' tk'', ∃ (m₂ : PySem.Str → Option Value), limOf r = some l ∧ s₃ = { s with heap := h'', toks := tk'' } ∧ FdM len D0 m₂ ∧ Fr h₁ L h'' m₂ ∧ News h₁ L h'' ((it, o) :: (src, PySem.W.listOf vs.toArray n0) :: (D0, PySem.W.listOf (outs ++ [x]).toArray n') :: (len, lenO) :: own') ∧ RowsIn own' vs rows ∧ ToldIn own' (outs ++ [x]) (ls ++ [l]) ∧ (∀ p ∈ own', IsTupO p.2)
theorem found_fr {A : Around} {s : Shared} {L : Addr} {m : PySem.Str → Option Value} {env : Env} {R : Result → Shared → Prop} {elts : List PySem.Expr} {k} {pos : Pos} {body : List Stmt} {it src D0 len : Addr} {lenO : Obj} {h₁ : Heap} {vs : List Value} {n0 : Nat} {rows : List Row} {own₀ : List (Addr × Obj)}
    (F : Fr h₁ L s.heap m) (N : News h₁ L s.heap ((it, listIterO src 0) :: (src, PySem.W.listOf vs.toArray n0) :: (D0, PySem.W.listOf #[] 0) :: (len, lenO) :: own₀)) (hlenO : lenO.cls = .type "dict") (hm : FdM len D0 m) (hR0 : RowsIn own₀ vs rows) (hO0 : ∀ p ∈ own₀, IsTupO p.2)
    (step : ∀ (i : Nat) r v outs ls own n h' tk' (m₁ : PySem.Str → Option Value) (o : Obj), vs[i]? = some v → rows[i]? = some r → RowV own v r → allLim (rows.take i) = some ls → outs.length = i → RowsIn own vs rows → ToldIn own outs ls → (∀ p ∈ own, IsTupO p.2) → o.cls = .type "list_iterator" →
      Fr h₁ L h' (fdF len D0 m₁) → News h₁ L h' ((it, o) :: (src, PySem.W.listOf vs.toArray n0) :: (D0, PySem.W.listOf outs.toArray n) :: (len, lenO) :: own) →
      wpAny (model prog w) A (assign (.Tuple elts k pos) env v) (fun _ s₂ => wpAny (model prog w) A (execs body env) (fun f s₃ => match f with
        | .next => Hold (FdNext h₁ L s s₃ it src D0 len o lenO vs n0 rows outs ls r)
        | .ret v => R (.ok (.ret v)) s₃ | _ => False) (notedBy (model prog w) A env fun e s' => R (.error e) s') s₂) (notedBy (model prog w) A env fun e s' => R (.error e) s') { s with heap := h', toks := tk' })
    (stop : ∀ outs ls own n tk' (m₁ : PySem.Str → Option Value), allLim rows = some ls → ToldIn own outs ls → (∀ p ∈ own, IsTupO p.2) → A.handled = none ∧ (∀ h'', Fr h₁ L h'' (fdF len D0 m₁) → News h₁ L h'' ((D0, PySem.W.listOf outs.toArray n) :: own) →
      R (.ok .next) { s with heap := h'', toks := tk' })) :
    codeAny (model prog w) A (.forLoop (.Tuple elts k pos) (.ref it) body [] env) R s := by
  have apart : ∀ {h' : Heap} {o : Obj} {outs : List Value} {n : Nat} {own : List (Addr × Obj)}, o.cls = .type "list_iterator" → (∀ p ∈ own, IsTupO p.2) → News h₁ L h' ((it, o) :: (src, PySem.W.listOf vs.toArray n0) :: (D0, PySem.W.listOf outs.toArray n) :: (len, lenO) :: own) → ∀ p ∈ ((src, PySem.W.listOf vs.toArray n0) :: (D0, PySem.W.listOf outs.toArray n) :: (len, lenO) :: own), p.1 ≠ it := fun {h' o outs n own} hoc hO N' p hp => by
    have hp' := (N' p (.tail _ hp)).1
    refine ne_cls hp' (N' _ (.head _)).1 ?_
    rw [hoc]
    rcases List.mem_cons.mp hp with rfl | hp
    · show Value.type "list" ≠ _; decide
    · rcases List.mem_cons.mp hp with rfl | hp
      · show Value.type "list" ≠ _; decide
      · rcases List.mem_cons.mp hp with rfl | hp
        · rw [hlenO]; decide
        · obtain ⟨its, k, e⟩ := hO p hp
          rw [e]; show Value.type "tuple" ≠ _; decide
  have hlen := hR0.len
  refine list_loopT (l := src) (items := vs.toArray) (fun i s' => ∃ outs ls own n h' tk', ∃ (m₁ : PySem.Str → Option Value) (o : Obj), s' = { s with heap := h', toks := tk' } ∧ i ≤ vs.length ∧ allLim (rows.take i) = some ls ∧ outs.length = i ∧ RowsIn own vs rows ∧ ToldIn own outs ls ∧ (∀ p ∈ own, IsTupO p.2) ∧
      o.cls = .type "list_iterator" ∧ o.data = .fields #[.ref src, .int (i : Nat) 0] ∧ FdM len D0 m₁ ∧ Fr h₁ L h' m₁ ∧ News h₁ L h' ((it, o) :: (src, PySem.W.listOf vs.toArray n0) :: (D0, PySem.W.listOf outs.toArray n) :: (len, lenO) :: own)) ?_ ?_ ?_ ?_
  · rintro i s' ⟨outs, ls, own, n, h', tk', m₁, o, rfl, hi, hls, hol, hR, hT, hO, hoc, hod, hM, F', N'⟩
    exact ⟨by simpa using hi, ⟨o, (N' _ (.head _)).1, hoc, hod⟩, News.isList N' (.tail _ (.head _))⟩
  · rintro i v s' h'' hg ⟨outs, ls, own, n, h', tk', m₁, o, rfl, hi, hls, hol, hR, hT, hO, hoc, hod, hM, F', N'⟩ hit hs
    have hg' : vs[i]? = some v := by simpa using hg
    obtain ⟨r, hr, hrv⟩ := hR.get hg'
    obtain ⟨o2, ho2, hc2, hd2⟩ := hit
    have nit := apart hoc hO N'
    have F'' : Fr h₁ L h'' m₁ := F'.change hs (N' _ (.head _)).2.1 (N' _ (.head _)).2.2
    have N'' := N'.setHead nit hs ho2
    rw [hM.eq] at F''
    refine wpAny_mono (step i r v outs ls own n h'' tk' m₁ o2 hg' hr hrv hls hol hR hT hO hc2 F'' N'') (fun _ s₂ h₂ => wpAny_mono h₂ (fun f s₃ h₃ => ?_) fun _ _ q => q) fun _ _ q => q
    cases f with
    | next =>
      obtain ⟨l, x, own', n', h3, tk3, m₂, hl, rfl, hM3, F3, N3, hR3, hT3, hO3⟩ := h₃
      exact ⟨outs ++ [x], ls ++ [l], own', n', h3, tk3, m₂, o2, rfl, (List.getElem?_eq_some_iff.mp hg').1, allLim_step hls hr hl, by simp [hol], hR3, hT3, hO3, hc2, hd2, hM3, F3, N3⟩
    | ret v => exact h₃
    | brk => exact h₃.elim
    | cont => exact h₃.elim
  · rintro s' ⟨outs, ls, own, n, h', tk', m₁, o, rfl, hi, hls, hol, hR, hT, hO, hoc, hod, hM, F', N'⟩
    rw [List.take_of_length_le (by rw [List.size_toArray]; omega)] at hls
    have nit := apart hoc hO N'
    obtain ⟨hh, hst⟩ := stop outs ls own n tk' m₁ hls hT hO
    refine ⟨hh, fun h'' he => ?_⟩
    rw [hM.eq] at F'
    have hitN := N' (it, o) (.head _)
    refine hst h'' ⟨F'.ns.extBut he (Ne.symm hitN.2.1), fun b ob hb => he b ob (fun q => by subst q; rw [show h₁.get? b = none from hitN.2.2] at hb; cases hb) (F'.keep b ob hb), F'.above⟩ fun p hp => ?_
    have hp2 : p ∈ ((src, PySem.W.listOf vs.toArray n0) :: (D0, PySem.W.listOf outs.toArray n) :: (len, lenO) :: own) := by
      rcases List.mem_cons.mp hp with rfl | hp
      · exact .tail _ (.head _)
      · exact .tail _ (.tail _ (.tail _ hp))
    have hp' := N' p (.tail _ hp2)
    exact ⟨he _ _ (nit p hp2) hp'.1, hp'.2⟩
  · exact ⟨[], [], own₀, 0, s.heap, s.toks, m, listIterO src 0, rfl, Nat.zero_le _, by rw [List.take_zero]; rfl, rfl, hR0, .nil, hO0, rfl, rfl, hm, F, N⟩
end

theorem or_one {prog : Program} {w : World} {A : Around} {E : Value → Shared → Prop} {s : Shared} {h₁ : Heap} {L a : Addr} {m : PySem.Str → Option Value} {name x : PySem.Str} {scope : Scope} {cd : Value} {p1 p2 pos : Pos} {k : Nat} {t : Tok} {kn : Nat} {Q : Value → Shared → Prop} (F : Fr h₁ L s.heap m) (hm : m x = some (.int (k : Nat) t))
    (h : ∀ t' tk, Q (.int ((one k : Nat) : Int) t') { s with toks := tk })
    (hk : scope.kind = .function := by rfl) (hl : (envOf name scope L a cd).kindOf x = some .local := by rfl) (hd : (x == ("__debug__" : PySem.Str)) = false := by decide) :
    wpAny (model prog w) A (eval (.BoolOp .Or [.Name x p1, .Constant (.int 1) kn p2] pos) (envOf name scope L a cd)) Q E s := by
  refine wpAny_Or2 (ld F hm (PyProof.Rows.truthy_int ?_) hk hl hd)
  by_cases hz : k = 0
  · subst hz
    rw [if_neg (by decide)]
    exact wpAny_Constant_int (h _ _)
  · have : (((k : Nat) : Int) != 0) = true := by rw [bne_iff_ne]; omega
    rw [this, if_pos rfl]
    have e : ((one k : Nat) : Int) = ((k : Nat) : Int) := by unfold one; rw [if_neg hz]
    have := h t s.toks
    rw [e] at this
    exact this

theorem news_found {h₁ h : Heap} {L : Addr} {a b c d e : Addr × Obj} {f g : Addr × Obj} {own : List (Addr × Obj)} (N : News h₁ L h (a :: b :: c :: d :: e :: f :: g :: own)) : News h₁ L h (a :: b :: e :: g :: d :: own) := fun p hp => by
  refine N p ?_
  simp only [List.mem_cons] at hp ⊢
  rcases hp with h | h | h | h | h | h <;> simp [h]

theorem rows_ne {x : PySem.Str} {r : RS} (O : OkT x) (hr : rdL rd0 x.cps.toList = some r) (hq : ¬ r.q < 8) : ∀ row ∈ r.rows ++ [(r.name, r.amount, one r.many)], row.1 ≠ [] := by
  have h1 : rowsOf x = some (r.rows ++ [(r.name, r.amount, one r.many)]) := by
    unfold rowsOf
    have hr' : rdL ⟨[], 0, 0, 0, []⟩ x.cps.toList = some r := hr
    rw [hr']
    show (if 8 ≤ r.q then some _ else none) = _
    rw [if_pos (by omega)]
  rw [rowsOf_eq O.ok] at h1
  cases ha : acc x.cps 0 0 with
  | false => rw [ha] at h1; cases h1
  | true =>
    rw [ha, if_pos rfl] at h1
    rw [← Option.some.inj h1]
    intro row hrow
    obtain ⟨u, hu, rfl⟩ := List.mem_map.mp hrow
    have P := pieces_ok O.ok ha u hu
    have P8 := parts_q P.ok P.acc
    have hord := P8.ord
    have hz := P8.z8
    intro e
    have e : (seg u.cps (q6 u.cps) (q7 u.cps)).map lowc = [] := e
    have e2 := List.map_eq_nil_iff.mp e
    have := seg_len (t := u.cps) (a := q6 u.cps) (b := q7 u.cps) (by omega) (by omega)
    rw [e2] at this
    simp at this
    omega
theorem last_char {nm : PySem.Str} (h : 1 ≤ nm.length) : nm.cps.toList.getLast? = some ((Txt.charAt nm (-1)).getD 0) := by
  have hs : 1 ≤ nm.cps.size := h
  have e : Txt.charAt nm (-1) = nm.cps[nm.cps.size - 1]? := by
    unfold Txt.charAt seqIndex?
    have e1 : (if (-1 : Int) < 0 then -1 + (nm.length : Int) else -1) = ((nm.cps.size - 1 : Nat) : Int) := by
      rw [if_pos (by decide)]
      show -1 + (nm.cps.size : Int) = _
      omega
    dsimp only
    rw [e1, if_pos (by
      have : nm.length = nm.cps.size := rfl
      simp only [Bool.and_eq_true, decide_eq_true_eq]
      omega)]
    rfl
  rw [e, List.getLast?_eq_getElem?, Array.length_toList, Array.getElem?_toList]
  rw [Array.getElem?_eq_getElem (by omega)]
  rfl
theorem last_is {nm : PySem.Str} (h : 1 ≤ nm.length) : decide (Txt.item nm (-1) = Str.ofString "s") = decide (nm.cps.toList.getLast? = some 115) := by
  rw [last_char h]
  apply decide_eq_decide.mpr
  rw [str_ext, s_cps]
  unfold Txt.item
  simp
theorem cut_is {nm : PySem.Str} (h : 1 ≤ nm.length) : (Txt.slice nm none (some (-1))).cps.toList = nm.cps.toList.dropLast := by
  have e : Builtin.Str.strSliceIndices none (some (-1)) 1 nm.length = Builtin.Str.strSliceIndices none (some ((nm.length - 1 : Nat) : Int)) 1 nm.length := by
    unfold Builtin.Str.strSliceIndices
    dsimp only
    congr 1
    rw [if_pos (by decide), if_pos (by decide), if_pos (by decide), if_neg (by omega)]
    omega
  have e2 : Txt.slice nm none (some (-1)) = Txt.slice nm none (some ((nm.length - 1 : Nat) : Int)) := by
    unfold Txt.slice
    rw [e]
  rw [e2, slice_to, List.dropLast_eq_take]
  congr 1
theorem find_word {W : PySem.Str} {n : List Nat} (h : W.cps.toList = wordOf n) : (grAll.find? fun g => g.name == W) = grW n := by
  unfold grW
  congr 1
  funext g
  rw [Bool.eq_iff_iff, beq_iff_eq, beq_iff_eq, str_ext, h]

theorem word_cut {nm : PySem.Str} {n : List Nat} (h : nm.cps.toList = n) (h1 : 1 ≤ nm.length) (hs : Txt.item nm (-1) = Str.ofString "s") : (Txt.slice nm none (some (-1))).cps.toList = wordOf n := by
  rw [cut_is h1]
  have := decide_eq_decide.mp (last_is h1)
  unfold wordOf
  rw [← h, if_pos (this.mp hs)]
theorem word_keep {nm : PySem.Str} {n : List Nat} (h : nm.cps.toList = n) (h1 : 1 ≤ nm.length) (hs : Txt.item nm (-1) ≠ Str.ofString "s") : nm.cps.toList = wordOf n := by
  have := decide_eq_decide.mp (last_is h1)
  unfold wordOf
  rw [← h, if_neg fun e => hs (this.mpr e)]
theorem src_ne {h₁ h : Heap} {L src D0 : Addr} {news : List (Addr × Obj)} {vs : List Value} {v : Value} {n0 : Nat} (N : News h₁ L h news) (hs : (src, PySem.W.listOf (vs ++ [v]).toArray n0) ∈ news) (hd : (D0, PySem.W.listOf #[] 0) ∈ news) : src ≠ D0 := by
  intro e
  have h1 := (N _ hs).1
  have h2 := (N _ hd).1
  dsimp only at h1 h2
  rw [e, h2] at h1
  have h3 := congrArg Obj.data (Option.some.inj h1)
  have : Data.seq #[] 0 = Data.seq (vs ++ [v]).toArray n0 := h3
  injection this with h6
  have := congrArg Array.toList h6
  simp at this
theorem append_found {prog : Program} {w : World} {A : Around} {E : Value → Shared → Prop} {s : Shared} {h₀ : Heap} {L : Addr} {m : PySem.Str → Option Value} {Q : Value → Shared → Prop} {T it src D0 len : Addr} {to o lenO : Obj} {own : List (Addr × Obj)} {vs its : List Value} {n n0 : Nat} {x : Value}
    (F : Fr h₀ L s.heap m) (N : News h₀ L s.heap ((T, to) :: (it, o) :: (src, PySem.W.listOf vs.toArray n0) :: (D0, PySem.W.listOf its.toArray n) :: (len, lenO) :: own)) (hto : to.cls ≠ .type "list") (ho : o.cls ≠ .type "list") (hsd : src ≠ D0) (hl : lenO.cls ≠ .type "list") (hO : ∀ p ∈ own, IsTupO p.2) (hsz : its.length ≤ 1000)
    (h : ∀ h' n', Fr h₀ L h' m → News h₀ L h' ((T, to) :: (it, o) :: (src, PySem.W.listOf vs.toArray n0) :: (D0, PySem.W.listOf (its ++ [x]).toArray n') :: (len, lenO) :: own) → Q .none { s with heap := h' }) :
    wpAny (model prog w) A (call (.builtin "list.append") [.ref D0, x]) Q E s := by
  have hD := N (D0, PySem.W.listOf its.toArray n) (.tail _ (.tail _ (.tail _ (.head _))))
  refine append_any F N (.tail _ (.tail _ (.tail _ (.head _)))) hsz fun h' F' K' D' => ?_
  obtain ⟨n', hn'⟩ := D'
  refine h h' n' F' fun p hp => ?_
  have key : ∀ p ∈ ((T, to) :: (it, o) :: (src, PySem.W.listOf vs.toArray n0) :: (D0, PySem.W.listOf its.toArray n) :: (len, lenO) :: own), p.2.cls ≠ .type "list" → h'.get? p.1 = some p.2 ∧ p.1 ≠ L ∧ h₀.get? p.1 = none := fun p hp hc => ⟨K' p hp (ne_cls (N p hp).1 hD.1 hc), (N p hp).2⟩
  rcases List.mem_cons.mp hp with rfl | hp
  · exact key _ (.head _) hto
  · rcases List.mem_cons.mp hp with rfl | hp
    · exact key _ (.tail _ (.head _)) ho
    · rcases List.mem_cons.mp hp with rfl | hp
      · have q := N (src, PySem.W.listOf vs.toArray n0) (.tail _ (.tail _ (.head _)))
        exact ⟨K' _ (.tail _ (.tail _ (.head _))) hsd, q.2⟩
      · rcases List.mem_cons.mp hp with rfl | hp
        · exact ⟨hn', hD.2⟩
        · rcases List.mem_cons.mp hp with rfl | hp
          · exact key _ (.tail _ (.tail _ (.tail _ (.tail _ (.head _))))) hl
          · refine key p (.tail _ (.tail _ (.tail _ (.tail _ (.tail _ hp))))) ?_
            obtain ⟨its, k, e⟩ := hO p hp
            rw [e]; show Value.type "tuple" ≠ Value.type "list"; decide
theorem found_next {h₁ h9 : Heap} {L : Addr} {s : Shared} {tk9 : Nat} {T it src D0 len : Addr} {o lenO : Obj} {vs outs : List Value} {n0 n' : Nat} {rows : List Row} {own : List (Addr × Obj)} {ls : List Lim} {r : Row} {g : Gr} {W : PySem.Str} {t0 t1 ta tn tk te : Tok} {m₂ : PySem.Str → Option Value}
    (hg : grW r.1 = some g) (hW : (grAll.find? fun g => g.name == W) = some g) (hM : FdM len D0 m₂) (F : Fr h₁ L h9 m₂)
    (N : News h₁ L h9 ((T, { cls := .type "tuple", data := .seq #[.int g.sec t0, .str W t1, .int (r.2.1 : Nat) ta, .int (r.2.2 : Nat) tn, .str (Str.ofString "LIMITER") tk, .int (g.sec * (r.2.2 : Nat)) te] }) :: (it, o) :: (src, PySem.W.listOf vs.toArray n0) :: (D0, PySem.W.listOf (outs ++ [Value.ref T]).toArray n') :: (len, lenO) :: own))
    (hR : RowsIn own vs rows) (hT : ToldIn own outs ls) (hO : ∀ p ∈ own, IsTupO p.2) :
    Hold (FdNext h₁ L s { s with heap := h9, toks := tk9 } it src D0 len o lenO vs n0 rows outs ls r) := by
  have hw : g.name = W := by simpa using List.find?_some hW
  subst hw
  have hl : limOf r = some (g, r.2.1, r.2.2) := by unfold limOf; rw [hg]; rfl
  refine ⟨(g, r.2.1, r.2.2), Value.ref T, (T, toldO (g, r.2.1, r.2.2) t0 t1 ta tn tk te) :: own, n', h9, tk9, m₂, hl, rfl, hM, F, fun p hp => ?_, hR.mono fun p hp => .tail _ hp, ToldIn.snoc ⟨T, t0, t1, ta, tn, tk, te, rfl, .head _⟩ (hT.mono fun p hp => .tail _ hp), fun p hp => ?_⟩
  · rcases List.mem_cons.mp hp with rfl | hp
    · exact N _ (.tail _ (.head _))
    · rcases List.mem_cons.mp hp with rfl | hp
      · exact N _ (.tail _ (.tail _ (.head _)))
      · rcases List.mem_cons.mp hp with rfl | hp
        · exact N _ (.tail _ (.tail _ (.tail _ (.head _))))
        · rcases List.mem_cons.mp hp with rfl | hp
          · exact N _ (.tail _ (.tail _ (.tail _ (.tail _ (.head _)))))
          · rcases List.mem_cons.mp hp with rfl | hp
            · exact N _ (.head _)
            · exact N p (.tail _ (.tail _ (.tail _ (.tail _ (.tail _ hp)))))
  · rcases List.mem_cons.mp hp with rfl | hp
    · exact ⟨_, _, rfl⟩
    · exact hO p hp
theorem limOf_no {r : Row} (h : (!(grW r.1).isSome) = true) : limOf r = none := by
  unfold limOf
  cases hg : grW r.1 with
  | none => rfl
  | some g => rw [hg] at h; cases h
theorem grW_some {n : List Nat} (h : (!(grW n).isSome) = false) : ∃ g, grW n = some g := by
  cases hg : grW n with
  | none => rw [hg] at h; cases h
  | some g => exact ⟨g, rfl⟩
end Mine

end
section
open PySem PySem.W PyProof.Rows
set_option maxRecDepth 100000
set_option linter.unusedVariables false
namespace Mine
section
variable {w : World} {p : Program} {loose : List PySem.Str} {mean : ExcName → Option Value} {mg mb : PySem.Str → Option Value} {A₀ : Around} {base h₀ : Heap} {hl : Option Value} {dp un : Nat} {gd : Option (List Code)} {outer : List Env} {env : Env} {L : Addr} {m : PySem.Str → Option Value} {news : List (Addr × Obj)} {s : Shared} {Q E : Value → Shared → Prop}
local macro_rules | `(tactic| walk_at "m room") => `(tactic| first | assumption | ((try simp only [depth_under_make, depth_under_kw, depth_in1, depth_deeper, depth_caller]); (try dsimp only [TopA]); omega))
local macro_rules | `(tactic| walk_at "m units") => `(tactic| first | assumption | ((try simp only [units_in1, units_deeper, Around.mark_units, units_caller]); (try dsimp only [TopA]); omega))
local macro_rules | `(tactic| walk_at "m prem") => `(tactic| ((case kB => k_asm); (case kF => k_asm); (case kX => k_asm); (case kN => k_asm); (case kT => k_asm); (case kf => exact rfl); (case kk => exact rfl); (case kd => walk_at "m room"); (case ku => walk_at "m units")))
local macro_rules | `(tactic| walk_at "m enterB") => `(tactic| (k_dflt (refine' enterW ?k1 ?k2 ?k3 ?k5 ?kA ?kF ?kK ?k6 ?k7 ?k8 ?k9 ?kB ?_ ?c2 ?c3 ?c4 ?c5; (case kA => exact rfl); (case kF => assumption); (case kK => assumption); (case k1 => k_asm); (case k2 => k_asm); (case k3 => k_asm); (case k5 => k_asm); (case k6 => k_is); (case k7 => k_is); (case k8 => walk_at "m room"); (case k9 => first | exact BindsTo.of_eq rfl | exact binds_K (by k_in) rfl (by k_is) rfl rfl rfl); (case c5 => decide); (case kB => exact locs rfl); (case c2 => exact rfl); (case c3 => exact rfl); (case c4 => exact rfl); k_whole; intro L' h' eL' F' N' B' X' T'; (try dsimp only); (try k_fold))))

local macro_rules | `(tactic| walk_at "pyIter str") => `(tactic| (k_here; k_dflt (refine' str_iter ?F ?N ?_; (case F => k_asm); (case N => k_asm)); intro it9 h9 F9 N9; (try dsimp only)))
local macro_rules | `(tactic| walk_at "exec For Name Name cons nil") => `(tactic| refine hold ?_)
local macro_rules | `(tactic| walk_at "exec For Name Name") => `(tactic| refine hold ?_)
local macro_rules | `(tactic| walk_at "exec For") => `(tactic| refine hold ?_)
local macro_rules | `(tactic| walk_at "exec If") => `(tactic| refine hold ?_)
local macro_rules | `(tactic| walk_at "eval Dict") => `(tactic| (k_here; k_dflt (refine' kdn_str ?q ?F ?N ?b ?a ?l ?e ?n ?_; (case q => rfl); (case F => k_asm); (case N => k_asm); (case b => exact Top.nolimit (by k_asm)); (case a => rfl); (case l => rfl); (case e => exact List.cons_ne_nil _ _); (case n => exact Nat.le_of_ble_eq_true rfl)); intro d' h' o' F' N' l1 lo' hd'))
local macro_rules | `(tactic| walk_at "KdnMade") => `(tactic| (k_here; k_dflt (refine' lens_made ?F ?N ?U ?d ?_; (case F => k_asm); (case N => k_asm); (case U => k_updF); (case d => k_asm)); intro h' o' t' tk' F' N' hd'; (try dsimp only at N'); (try dsimp only)))

theorem OkT.ok' {x : PySem.Str} (O : OkT x) {i c : Nat} (h : x.cps[i]? = some c) : okc c = true := by
  obtain ⟨h1, h2⟩ := Array.getElem?_eq_some_iff.mp h
  have := O.ok i h1
  have e : x.cps.getD i 0 = c := by simp [Array.getD, h1, h2]
  rwa [e] at this
local macro_rules | `(tactic| walk_at "compareOp NotIn") => `(tactic| (k_here; k_dflt (refine' lens_notin ?N ?m ?d ?l ?_; (case N => k_asm); (case m => k_mem); (case d => assumption); (case l => assumption)); intro tk9))
local macro_rules | `(tactic| walk_at "subscriptTail Name Name ref str") => `(tactic| (k_here; k_dflt (refine' lens_item ?N ?m ?d ?g ?_ (by with_unfolding_all rfl) (by intro _; with_unfolding_all rfl); (case N => k_asm); (case m => k_mem); (case d => assumption); (case g => assumption)); intro tk9))
local macro_rules | `(tactic| walk_at "binaryOp Mult int int") => `(tactic| (k_here; (with_reducible show wpAny _ _ (binaryOp Operator.Mult (Value.int (Gr.sec _) _) (Value.int _ _)) _ _ _); k_dflt (refine PyProof.Rows.mul_int ?_ (IntMulOk.of_left (gr_bits _)))))
local macro_rules | `(tactic| walk_at "eval BoolOp") => `(tactic| (k_here; (with_reducible show wpAny _ _ (eval (PySem.Expr.BoolOp BoolOp.Or _ _) _) _ _ _); k_dflt (refine' or_one ?F ?m ?_; (case F => k_asm); (case m => exact rfl)); intro t9 tk9))
local macro_rules | `(tactic| walk_at "assign Tuple") => `(tactic| (k_here; k_dflt (refine' unpackH (hl := none) ?hh (.inl rfl) ?F ?N ?t ?n ?st ?_; (case hh => assumption); (case F => k_asm); (case N => k_asm); (case t => assumption); (case n => exact rfl); (case st => exact rfl)); intro h9 F9 N9; (try dsimp only)))
local macro_rules | `(tactic| walk_at "binaryOp Add ref ref") => `(tactic| (k_here; k_dflt (refine' add_lists ?F ?N ?a ?b ?_ ?z; (case F => k_asm); (case N => k_asm); (case a => exact News.isList (by k_asm) (by k_mem)); (case b => exact News.isList (by k_asm) (List.Mem.head _)); (case z => ((simp only [List.length_cons, List.length_nil]); have hh9 : (2000 : Nat) ≤ sizeLine := (by decide); omega))); intro h9 F9 N9; (try dsimp only)))
local macro_rules | `(tactic| walk_at "pyIter ref") => `(tactic| (k_here; k_dflt (refine' list_iter ?F ?N ?l ?_; (case F => k_asm); (case N => k_asm); (case l => exact News.isList (by k_asm) (List.Mem.head _))); intro it9 h9 F9 N9; (try dsimp only)))
local macro_rules | `(tactic| walk_at "getMethod ref") => `(tactic| (k_here; (with_reducible show wpAny _ _ (getMethod _ (PySem.Str.ofString "append") _) _ _ _); k_dflt (refine' lm_meth ?N ?m PySem.slot_list_append PySem.type_list_append ?_; (case N => k_asm); (case m => k_mem))))
local macro_rules | `(tactic| walk_at "call builtin:list.append") => `(tactic| (k_here; k_dflt (refine' append_row ?F ?N ?a ?b ?c ?O ?z ?_; (case F => k_asm); (case N => k_asm); (case a => (show Value.type "tuple" ≠ Value.type "list"; decide)); (case b => assumption); (case c => assumption); (case O => assumption); (case z => assumption)); intro h9 n9 F9 N9; (try dsimp only)))
local macro_rules | `(tactic| walk_at "call builtin:list.append") => `(tactic| (k_here; k_dflt (refine' append_found ?F ?N ?a ?b ?s ?c ?O ?z ?_; (case F => k_asm); (case N => k_asm); (case a => (show Value.type "tuple" ≠ Value.type "list"; decide)); (case b => assumption); (case s => assumption); (case c => assumption); (case O => assumption); (case z => assumption)); intro h9 n9 F9 N9; (try dsimp only)))
set_option maxHeartbeats 4000000 in
theorem read_call {x : PySem.Str} {tq : Tok} (O : OkT x) (B : Below A₀ base outer h₀) (F : Fr h₀ L s.heap m) (X : (hd.heap_39 w.params).In h₀) (T : Top p loose mean mg mb h₀) (hf : env.frame = some L) (hke : env.scope.kind = .function) (hhl : hl = none)
    (hdp : dp + 60 < recursionLimit) (hun : un + 260 < cLine)
    (hret0 : meant x = none → ∀ h' tk', Made s.heap h' [] → Q .none { s with heap := h', toks := tk' })
    (hret1 : ∀ ls D outs own n h' tk', meant x = some ls → Made s.heap h' ((D, PySem.W.listOf outs.toArray n) :: own) → ToldIn own outs ls → (∀ p ∈ own, IsTupO p.2) → Q (.ref D) { s with heap := h', toks := tk' }) :
    wpAny (model PySem.Challenge.rw_bn0039_01.row.prog w) (TopA hl dp un gd env outer) (call (.ref 411) [.str x tq]) Q E s := by
  revert X; k_fill; intro X
  refine wpAny_call (withB [(PySem.Str.ofString "text", .str x tq)] ?_)
  walk_at "m enterB"
  k_steps
  unfold Hold
  refine wpAny_For ?_
  k_steps
  rename Obj.IsDictOf _ _ (lensK _) => hdo
  have hcls := dict_cls hdo
  refine' read_fr (x := x) ?gF ?gN ?gd ?gM ?gstep ?gstop
  case gF => k_asm
  case gN => k_asm
  case gd => exact hcls
  case gM => exact ⟨rfl, rfl, rfl, rfl, rfl, rfl⟩
  case gstep =>
    intro i c r rvs own n h8 tk8 nm t1 t2 t3 t4 m8 o8 tc hc hr hR hO hnm hnl hrl hoc F8 N8
    unfold rdF at F8
    have hi400 : i < 400 := Nat.lt_of_lt_of_le (Array.getElem?_eq_some_iff.mp hc).1 O.sz
    have hrl9 : rvs.length ≤ 1000 := by omega
    have hon := hoc ▸ strIt_ne x
    have hln : _ ≠ Value.type "list" := hcls ▸ (by decide : Value.type "dict" ≠ Value.type "list")
    k_steps
    unfold Hold
    refine' if_join ?F ?N (Str.ofString "code") (fun v => ∃ tq, v = .int ((lowc c : Nat) : Int) tq) ?t ?k
    case F => k_asm
    case N => k_asm
    case t =>
      refine wpAny_If ?_
      k_steps
      · exact ⟨rfl, _, _, _, rfl, int_tok (cap_yes (by assumption) (by assumption)), by k_asm, by k_asm⟩
      · exact ⟨rfl, _, _, _, rfl, int_tok (cap_no (by omega)), join_keep (by k_asm) rfl, by k_asm⟩
      · exact ⟨rfl, _, _, _, rfl, int_tok (cap_no (by omega)), join_keep (by k_asm) rfl, by k_asm⟩
    case k =>
      rintro h9 tk9 v9 ⟨tq9, rfl⟩ F9 N9
      have hok := O.ok' hc
      k_steps
      unfold Hold
      rename Fr _ _ _ _ => F7
      rw [find_digits hok, blank_in hok] at F7
      obtain ⟨fg, hfg⟩ : ∃ fg : Int, fg = if digc c = true then (c : Int) - 48 else -1 := ⟨_, rfl⟩
      rw [← hfg] at F7
      refine' if_val ?kF1 ?kN1 (b1 r c) ?kt1 ?ka1 ?kb1
      case kF1 => exact F7
      case kN1 => k_asm
      case kt1 =>
        k_steps
        all_goals (refine Test.intro (by k_asm) (by first | k_asm | exact news_drop (by k_asm)) ?_; first | exact (tc1 (fg_dig hfg)).1 (by assumption) (by assumption) | exact (tc1 (fg_dig hfg)).2.1 (by assumption) | exact (tc1 (fg_dig hfg)).2.2 (by assumption))
      case ka1 =>
        intro hb1 h9 tk9 F9 N9
        k_steps
        exact rd_next (step_1 hb1) (RdM.of rfl rfl rfl rfl rfl rfl rfl (fig_add (fg_val hfg (b1_dig hb1))) rfl) (by k_asm) (by k_asm) hR hO hnm (by omega) hrl
      case kb1 =>
        intro hb1 h9 tk9 F9 N9
        k_steps
        unfold Hold
        refine' if_val ?kF2 ?kN2 (b2 r c) ?kt2 ?ka2 ?kb2
        case kF2 => k_asm
        case kN2 => k_asm
        case kt2 =>
          k_steps
          all_goals (refine Test.intro (by k_asm) (by first | k_asm | exact news_drop (by k_asm)) ?_; first | exact (tc2 (fg_dig hfg)).1 (by assumption) (by assumption) | exact (tc2 (fg_dig hfg)).2.1 (by assumption) | exact (tc2 (fg_dig hfg)).2.2 (by assumption))
        case ka2 =>
          intro hb2 h9 tk9 F9 N9
          k_steps
          exact rd_next (step_2 hb1 hb2) (RdM.of rfl rfl rfl rfl rfl rfl rfl rfl (fig_add (fg_val hfg (b2_dig hb2)))) (by k_asm) (by k_asm) hR hO hnm (by omega) hrl
        case kb2 =>
          intro hb2 h9 tk9 F9 N9
          k_steps
          unfold Hold
          refine' if_val ?kF3 ?kN3 (b3 r c) ?kt3 ?ka3 ?kb3
          case kF3 => k_asm
          case kN3 => k_asm
          case kt3 =>
            k_steps
            all_goals (refine Test.intro (by k_asm) (by first | k_asm | exact news_drop (by k_asm)) ?_; first | exact tc3.1 (by assumption) (by assumption) | exact tc3.2.1 (by assumption) | exact tc3.2.2 (by assumption))
          case ka3 =>
            intro hb3 h9 tk9 F9 N9
            k_steps
            exact rd_next (step_3 hok hb1 hb2 hb3) (RdM.of rfl rfl rfl rfl rfl rfl (Int.natCast_succ _).symm rfl rfl) (by k_asm) (by k_asm) hR hO hnm (by omega) hrl
          case kb3 =>
            intro hb3 h9 tk9 F9 N9
            k_steps
            unfold Hold
            refine' if_val ?kF4 ?kN4 (b4 r c) ?kt4 ?ka4 ?kb4
            case kF4 => k_asm
            case kN4 => k_asm
            case kt4 =>
              k_steps
              all_goals (refine Test.intro (by k_asm) (by first | k_asm | exact news_drop (by k_asm)) ?_; first | exact tc4.1 (by assumption) (by assumption) | exact tc4.2.1 (by assumption) | exact tc4.2.2 (by assumption))
            case ka4 =>
              intro hb4 h9 tk9 F9 N9
              k_steps
              exact rd_next (step_4 hok hb1 hb2 hb3 hb4) (RdM.of rfl rfl rfl rfl rfl rfl rfl rfl rfl) (by k_asm) (by k_asm) hR hO hnm (by omega) hrl
            case kb4 =>
              intro hb4 h9 tk9 F9 N9
              k_steps
              unfold Hold
              refine' if_val ?kF5 ?kN5 (b5 r c) ?kt5 ?ka5 ?kb5
              case kF5 => k_asm
              case kN5 => k_asm
              case kt5 =>
                k_steps
                all_goals (refine Test.intro (by k_asm) (by first | k_asm | exact news_drop (by k_asm)) ?_; first | exact tc5.1 (by assumption) (by assumption) | exact tc5.2.1 (by assumption) | exact tc5.2.2 (by assumption))
              case ka5 =>
                intro hb5 h9 tk9 F9 N9
                k_steps
                exact rd_next (step_5 hok hb1 hb2 hb3 hb4 hb5) (RdM.of rfl rfl rfl rfl rfl rfl rfl rfl rfl) (by k_asm) (by k_asm) hR hO hnm (by omega) hrl
              case kb5 =>
                intro hb5 h9 tk9 F9 N9
                k_steps
                unfold Hold
                refine' if_val ?kF6 ?kN6 (b6 r c) ?kt6 ?ka6 ?kb6
                case kF6 => k_asm
                case kN6 => k_asm
                case kt6 =>
                  k_steps
                  all_goals (refine Test.intro (by k_asm) (by first | k_asm | exact news_drop (by k_asm)) ?_; first | exact tc6.1 (by assumption) (by assumption) | exact tc6.2.1 (by assumption) | exact tc6.2.2 (by assumption))
                case ka6 =>
                  intro hb6 h9 tk9 F9 N9
                  k_steps
                  exact rd_next (step_6 hok hb1 hb2 hb3 hb4 hb5 hb6) (RdM.of rfl rfl rfl rfl rfl rfl rfl rfl rfl) (by k_asm) (by k_asm) hR hO hnm (by omega) hrl
                case kb6 =>
                  intro hb6 h9 tk9 F9 N9
                  k_steps
                  unfold Hold
                  refine' if_val ?kF7 ?kN7 (b7 r c) ?kt7 ?ka7 ?kb7
                  case kF7 => k_asm
                  case kN7 => k_asm
                  case kt7 =>
                    k_steps
                    all_goals (refine Test.intro (by k_asm) (by first | k_asm | exact news_drop (by k_asm)) ?_; first | exact tc7.1 (by assumption) (by assumption) | exact tc7.2.1 (by assumption) | exact tc7.2.2 (by assumption))
                  case ka7 =>
                    intro hb7 h9 tk9 F9 N9
                    k_steps
                    exact rd_next (step_7 hok hb1 hb2 hb3 hb4 hb5 hb6 hb7) (RdM.of rfl rfl rfl rfl rfl rfl rfl rfl rfl) (by k_asm) (by k_asm) hR hO hnm (by omega) hrl
                  case kb7 =>
                    intro hb7 h9 tk9 F9 N9
                    k_steps
                    unfold Hold
                    refine' if_val ?kF8 ?kN8 (b8 r c) ?kt8 ?ka8 ?kb8
                    case kF8 => k_asm
                    case kN8 => k_asm
                    case kt8 =>
                      k_steps
                      all_goals (refine Test.intro (by k_asm) (by first | k_asm | exact news_drop (by k_asm)) ?_; first | exact tc8.1 (by assumption) (by assumption) | exact tc8.2.1 (by assumption) | exact tc8.2.2 (by assumption))
                    case ka8 =>
                      intro hb8 h9 tk9 F9 N9
                      k_steps
                      exact rd_next (step_8 hok hb1 hb2 hb3 hb4 hb5 hb6 hb7 hb8) (RdM.of rfl rfl rfl rfl rfl rfl rfl rfl rfl) (by k_asm) (by k_asm) hR hO hnm (by omega) hrl
                    case kb8 =>
                      intro hb8 h9 tk9 F9 N9
                      k_steps
                      unfold Hold
                      refine' if_val ?kF9 ?kN9 (b9 r c) ?kt9 ?ka9 ?kb9
                      case kF9 => k_asm
                      case kN9 => k_asm
                      case kt9 =>
                        k_steps
                        all_goals (refine Test.intro (by k_asm) (by first | k_asm | exact news_drop (by k_asm)) ?_; first | exact tc9.1 (by assumption) (by assumption) (by assumption) | exact tc9.2.1 (by assumption) | exact tc9.2.2.1 (by assumption) | exact tc9.2.2.2 (by assumption))
                      case ka9 =>
                        intro hb9 h9 tk9 F9 N9
                        have hl9 := b9_low hb9
                        have hi9 : nm.length ≤ 400 := by omega
                        k_steps
                        exact rd_next (step_9 hok hb1 hb2 hb3 hb4 hb5 hb6 hb7 hb8 hb9) (RdM.of rfl rfl rfl rfl rfl rfl rfl rfl rfl) (by k_asm) (by k_asm) hR hO (name_snoc hnm) (name_len hnl) hrl
                      case kb9 =>
                        intro hb9 h9 tk9 F9 N9
                        k_steps
                        unfold Hold
                        refine' if_val ?kF10 ?kN10 (b10 r c) ?kt10 ?ka10 ?kb10
                        case kF10 => k_asm
                        case kN10 => k_asm
                        case kt10 =>
                          k_steps
                          all_goals (refine Test.intro (by k_asm) (by first | k_asm | exact news_drop (by k_asm)) ?_; first | exact (tc10 hok).1 (by assumption) (by assumption) | exact (tc10 hok).2.1 (by assumption) | exact (tc10 hok).2.2 (by assumption))
                        case ka10 =>
                          intro hb10 h9 tk9 F9 N9
                          k_steps
                          all_goals (exact rd_next_row (step_10 hok hb1 hb2 hb3 hb4 hb5 hb6 hb7 hb8 hb9 hb10) (RdM.of rfl rfl rfl rfl rfl rfl rfl rfl rfl) (by k_asm) (by k_asm) rfl hR hO hnm (by omega) empty_of hrl)
                        case kb10 =>
                          intro hb10 h9 tk9 F9 N9
                          k_steps
                          exact hret0 (meant_bad hc hr (step_none hok hb1 hb2 hb3 hb4 hb5 hb6 hb7 hb8 hb9 hb10)) _ _ (made_of (by k_asm) News.nil)
  case gstop =>
    intro r rvs own n tk8 nm t1 t2 t3 t4 m8 hr hR hO hnm hnl hrl
    refine ⟨hhl, fun h8 F8 N8 => ?_⟩
    unfold rdF at F8
    k_steps
    unfold Hold
    refine' if_val ?kF ?kN (decide (r.q < 8)) ?kt ?ka ?kb
    case kF => k_asm
    case kN => k_asm
    case kt =>
      k_steps
      all_goals (refine Test.intro (by k_asm) (by k_asm) ?_; exact decide_eq_decide.mpr (by omega))
    case ka =>
      intro hq h9 tk9 F9 N9
      k_steps
      exact hret0 (meant_short hr (of_decide_eq_true hq)) _ _ (made_of (by k_asm) News.nil)
    case kb =>
      intro hq h9 tk9 F9 N9
      have hmf := meant_full hr (of_decide_eq_false hq)
      have hnes := rows_ne O hr (of_decide_eq_false hq)
      have hsz0 : nm.length ≤ 400 := Nat.le_trans hnl O.sz
      have hrl9 : rvs.length ≤ 1000 := by have := O.sz; omega
      k_steps
      unfold Hold
      refine wpAny_For ?_
      k_steps
      rename News _ _ _ _ => N7
      rename Fr _ _ _ _ => F7
      have hsd := src_ne N7 (.tail _ (.head _)) (.tail _ (.tail _ (.tail _ (.tail _ (.head _)))))
      refine' found_fr (rows := r.rows ++ [(r.name, r.amount, one r.many)]) ?fF ?fN ?fd ?fm ?fR ?fO ?fstep ?fstop
      case fF => exact F7
      case fN => exact news_found N7
      case fd => exact hcls
      case fm => exact ⟨rfl, rfl⟩
      case fR => exact RowsIn.snoc (r := (r.name, r.amount, one r.many)) ⟨_, nm, _, _, _, rfl, hnm, hsz0, .head _⟩ (hR.mono fun p hp => .tail _ hp)
      case fO =>
        intro p hp
        rcases List.mem_cons.mp hp with rfl | hp
        · exact ⟨_, _, rfl⟩
        · exact hO p hp
      case fstep =>
        rintro i r9 v outs ls own9 n9 h8 tk8 m8 o8 hv hr9 ⟨t9, nm9, u0, u1, u2, rfl, hnm9, hnl9, hrow9⟩ hls hol hR9 hT9 hO9 hoc9 F8 N8
        unfold fdF at F8
        have hit9 : IsTup h8 t9 #[.str nm9 u0, .int (r9.2.1 : Nat) u1, .int (r9.2.2 : Nat) u2] := News.isTup N8 (.tail _ (.tail _ (.tail _ (.tail _ hrow9))))
        have hne9 := hnes r9 (List.mem_of_getElem? hr9)
        have hn1 : 1 ≤ nm9.length := by
          show 1 ≤ nm9.cps.size
          rw [← Array.length_toList, hnm9]
          exact List.length_pos_iff.mpr hne9
        have hol9 : outs.length ≤ 1000 := by
          have h1 := (List.getElem?_eq_some_iff.mp hv).1
          have h2 := hR9.len
          rw [List.length_append] at h1
          simp only [List.length_cons, List.length_nil] at h1
          omega
        have hon : o8.cls ≠ Value.type "list" := hoc9 ▸ (by decide : Value.type "list_iterator" ≠ Value.type "list")
        have hln : _ ≠ Value.type "list" := hcls ▸ (by decide : Value.type "dict" ≠ Value.type "list")
        have hbad9 : (!(grW r9.1).isSome) = true → meant x = none := fun hb => hmf.trans (allLim_bad hr9 (limOf_no hb))
        k_steps
        · have hw := word_cut hnm9 hn1 (beq_iff_eq.mp (by assumption))
          unfold Hold
          refine' if_val ?wF ?wN (!(grW r9.1).isSome) ?wt ?wa ?wb
          case wF => k_asm
          case wN => k_asm
          case wt =>
            k_steps
            all_goals (refine Test.intro (by k_asm) (by k_asm) ?_; rw [find_word hw])
          case wa =>
            intro hg h9 tk9 F9 N9
            k_steps
            exact hret0 (hbad9 hg) _ _ (made_of (by k_asm) News.nil)
          case wb =>
            intro hg h9 tk9 F9 N9
            obtain ⟨g9, hg9⟩ := grW_some hg
            have hgf := (find_word hw).trans hg9
            k_steps
            exact found_next hg9 hgf ⟨rfl, rfl⟩ (by k_asm) (by k_asm) hR9 hT9 hO9
        · have hw := word_keep hnm9 hn1 (beq_eq_false_iff_ne.mp (by assumption))
          unfold Hold
          refine' if_val ?vF ?vN (!(grW r9.1).isSome) ?vt ?va ?vb
          case vF => k_asm
          case vN => k_asm
          case vt =>
            k_steps
            all_goals (refine Test.intro (by k_asm) (by k_asm) ?_; rw [find_word hw])
          case va =>
            intro hg h9 tk9 F9 N9
            k_steps
            exact hret0 (hbad9 hg) _ _ (made_of (by k_asm) News.nil)
          case vb =>
            intro hg h9 tk9 F9 N9
            obtain ⟨g9, hg9⟩ := grW_some hg
            have hgf := (find_word hw).trans hg9
            k_steps
            exact found_next hg9 hgf ⟨rfl, rfl⟩ (by k_asm) (by k_asm) hR9 hT9 hO9
      case fstop =>
        intro outs ls own9 n9 tk9 m8 hls hT9 hO9
        refine ⟨hhl, fun h8 F8 N8 => ?_⟩
        unfold fdF at F8
        k_steps
        exact hret1 ls _ outs own9 n9 h8 tk9 (hmf.trans hls) (made_of F8 N8) hT9 hO9
end
end Mine

end
section
open PySem PySem.W PyProof.Rows
set_option maxRecDepth 100000
set_option linter.unusedVariables false
namespace Mine

/-! ## behind an exception that was caught: a new ground -/
def cutH (h : Heap) (n : Nat) : Heap := { h with objs := h.objs.extract 0 n }
theorem cutH_size {h : Heap} {n : Nat} (hn : n ≤ h.objs.size) : (cutH h n).objs.size = n := by
  show (h.objs.extract 0 n).size = n
  rw [Array.size_extract]; omega
theorem cutH_lt {h : Heap} {n b : Nat} (hb : b < n) : (cutH h n).get? b = h.get? b := by
  have : (h.objs.extract 0 n)[b]? = h.objs[b]? := by
    rw [Array.getElem?_extract]
    by_cases hs : b < h.objs.size
    · rw [if_pos (by omega), Nat.zero_add]
    · rw [if_neg (by omega), Array.getElem?_eq_none (by omega)]
  simp only [cutH, Heap.get?, this]
theorem cutH_ge {h : Heap} {n b : Nat} (hb : n ≤ b) : (cutH h n).get? b = none := Heap.get?_none_of_le (by
  show (h.objs.extract 0 n).size ≤ b
  rw [Array.size_extract]; omega)
theorem cutH_keep {h : Heap} {n b : Nat} {o : Obj} (e : (cutH h n).get? b = some o) : h.get? b = some o := by
  rcases Nat.lt_or_ge b n with hb | hb
  · rw [← cutH_lt hb]; exact e
  · rw [cutH_ge hb] at e; cases e

/-- all but the frames stands, the frames but for their slots -/
def KeptF (g : Heap) (l : List Env) (h : Heap) : Prop := (∀ b o, g.get? b = some o → b ∉ l.filterMap (·.frame) → h.get? b = some o) ∧ g.UpToSlots h
theorem KeptF.of_keeps {g h : Heap} {l : List Env} (k : ∀ b o, g.get? b = some o → h.get? b = some o) : KeptF g l h := ⟨fun b o e _ => k b o e, Heap.UpToSlots.of_keeps k⟩
theorem RaisedC.kept {base g h : Heap} {l : List Env} {e : Addr} {cls c2 : Value} (R : RaisedC base g l e cls c2 h) : KeptF g l h := by
  obtain ⟨Bs, st, old, fl, u⟩ := R
  exact ⟨fun b o hb hn => fl.stays _ _ (old b o hb hn), u⟩

theorem KeptF.under {g h h' : Heap} {L : Addr} {m : PySem.Str → Option Value} {env : Env} {l : List Env} (F : Fr g L h m) (k : KeptF h (env :: l) h') (hL : env.frame = some L) : KeptF g l h' :=
  ⟨fun b o e hn => k.1 b o (F.keep b o e) fun hm => by
    obtain ⟨v, hv, hf⟩ := List.mem_filterMap.mp hm
    rcases List.mem_cons.mp hv with rfl | hv
    · rw [hL] at hf
      cases hf
      exact (Nat.not_lt.mpr F.above) (Heap.lt_size e)
    · exact hn (List.mem_filterMap.mpr ⟨v, hv, hf⟩), (Heap.UpToSlots.of_keeps F.keep).trans k.2⟩

theorem funFrames_cut {base h : Heap} {n : Nat} : ∀ {l : List Env}, h.FunFrames base l → (∀ env ∈ l, ∀ a, env.frame = some a → a < n) → (cutH h n).FunFrames base l
  | [], _, _ => trivial
  | env :: _, ⟨hk, ⟨L, o, hf, hn, ho, hd⟩, hr⟩, hlt => ⟨hk, ⟨L, o, hf, hn, by rw [cutH_lt (hlt env (.head _) L hf)]; exact ho, hd⟩, funFrames_cut hr fun e he => hlt e (.tail _ he)⟩

section
variable {prog : Program} {w : World} {A₀ : Around} {E : Value → Shared → Prop} {s' : Shared} {base g h : Heap} {outer : List Env} {L a e : Addr} {m : PySem.Str → Option Value} {name : PySem.Str} {scope : Scope} {cd c2 : Value}
  {b₀ : Stmt} {suite : List Stmt} {pos np : Pos} {rest : List ExceptHandler} {Q : Flow → Shared → Prop}
  {p : Program} {loose : List PySem.Str} {mg mb : PySem.Str → Option Value}
theorem frames_lt (K : Below A₀ base outer g) : ∀ env ∈ outer, ∀ b, env.frame = some b → b < g.objs.size := fun env he b hb => by
  obtain ⟨_, o, ho, _⟩ := K.frames.mem (List.mem_filterMap.mpr ⟨env, he, hb⟩)
  exact Heap.lt_size ho

theorem caughtC (K : Below A₀ base outer g) (F : Fr g L h m) (R : RaisedC base h (envOf name scope L a cd :: outer) e (.type "ValueError") c2 s'.heap)
    (T : TopRead p loose mg mb base) {K' : Frag} (XB : K'.In base) (hns : nsIn K' mainGlobals (Str.ofString "ValueError") = some none)
    (k : ∀ h' g', Fr g' L h' m → Below A₀ base outer g' → base.StaysIn g' → g'.objs.size = g.objs.size → KeptF h (envOf name scope L a cd :: outer) h' → (∃ o vs, h'.get? e = some o ∧ o.data = .fields vs ∧ vs[2]? = some c2) →
      wpAny (model prog w) ((A₀.deeper (envOf name scope L a cd)).mark (some (.ref e))) (execs (b₀ :: suite) (envOf name scope L a cd)) Q (fun _ _ => False) { s' with heap := h' })
    (hk : scope.kind = .function := by rfl) (hx : (envOf name scope L a cd).kindOf (Str.ofString "ValueError") = some .globalImplicit := by rfl) (hd : (Str.ofString "ValueError" == ("__debug__" : PySem.Str)) = false := by decide) :
    wpAny (model prog w) (A₀.deeper (envOf name scope L a cd)) (noteFrame (.ref e) (envOf name scope L a cd))
      (fun _ s₂ => wpAny (model prog w) (A₀.deeper (envOf name scope L a cd)) (setFlight (.ref e) none) (fun _ s₃ =>
        wpAny (model prog w) (A₀.deeper (envOf name scope L a cd)) (handleBy (.ref e) (envOf name scope L a cd) (.ExceptHandler (some (.Name (Str.ofString "ValueError") np)) none (b₀ :: suite) pos :: rest)) Q E s₃) E s₂) E s' := by
  have kept := R.kept
  obtain ⟨Bs, st, old, fl, u⟩ := R
  have hL : g.objs.size ≤ L := F.above
  -- the ground, from any later heap
  have ground : ∀ h', FlC Bs (envOf name scope L a cd :: outer) e (.type "ValueError") c2 .none h' → s'.heap.UpToSlots h' → Fr (cutH h' g.objs.size) L h' m ∧ Below A₀ base outer (cutH h' g.objs.size) ∧ base.StaysIn (cutH h' g.objs.size) ∧ (cutH h' g.objs.size).objs.size = g.objs.size := fun h' x u' => by
    have hns := (u.trans u').ns F.ns
    have hsz : g.objs.size ≤ h'.objs.size := Nat.le_trans hL (Nat.le_of_lt hns.lt)
    have hcut : (cutH h' g.objs.size).objs.size = g.objs.size := cutH_size hsz
    have hb : base.StaysIn (cutH h' g.objs.size) := fun b o q => by
      rw [cutH_lt (Heap.lt_size (K.stays b o q))]
      exact x.stays b o (st b o q)
    refine ⟨⟨hns, fun b o q => cutH_keep q, by rw [hcut]; exact hL⟩, ⟨K.stack, hb, ?_⟩, hb, hcut⟩
    exact funFrames_cut (funFrames_base st x.frames.2.2) (frames_lt K)
  refine looksC (Around.frames_deeper K.stack) rfl fl fun h₄ fl₄ u₄ => ?_
  refine landsC (s := { s' with heap := h₄ }) fl₄ fun h₅ fl₅ u₅ => ?_
  obtain ⟨F₅, K₅, b₅, _⟩ := ground h₅ fl₅ (u₄.trans u₅)
  obtain ⟨ob, vs, hob, hobc, _⟩ := fl₅.there
  have T₅ := T.keeps b₅
  refine wpAny_handleBy_builtin (X := "ValueError") (T := "ValueError") (b := true) PySem.F.isExc_ValueError PySem.F.notTuple_ValueError (by rw [isSubtype_type]; kernel_rfl) (name_B F₅ (XB.keeps b₅) T₅ hns PyProof.Rows.Boot.«ValueError» (by decide) ⟨rfl, ⟨ob, hob, hobc⟩, ?_⟩ hk hx hd)
  refine landsC (s := { s' with heap := h₅ }) fl₅ fun h₆ fl₆ u₆ => ?_
  obtain ⟨F₆, K₆, b₆, hsz⟩ := ground h₆ fl₆ ((u₄.trans u₅).trans u₆)
  obtain ⟨oe, ws, hoe, hoec, hoed, hoe2⟩ := fl₆.there
  refine wpAny_mono (k h₆ _ F₆ K₆ b₆ hsz ⟨fun b o q hnf => fl₆.stays _ _ (old b o q hnf), (u.trans ((u₄.trans u₅).trans u₆))⟩ ⟨oe, ws, hoe, hoed, hoe2⟩) (fun _ _ x => x) fun _ _ x => x.elim
end
end Mine

end
section
open PySem PySem.W PyProof.Rows
set_option maxRecDepth 100000
set_option linter.unusedVariables false
namespace Mine
section
variable {w : World} {p : Program} {loose : List PySem.Str} {mean : ExcName → Option Value} {mg mb : PySem.Str → Option Value} {A₀ : Around} {base h₀ : Heap} {hl : Option Value} {dp un : Nat} {gd : Option (List Code)} {outer : List Env} {env : Env} {L : Addr} {m : PySem.Str → Option Value} {news : List (Addr × Obj)} {s : Shared} {Q E : Value → Shared → Prop}
local macro_rules | `(tactic| walk_at "m room") => `(tactic| first | assumption | ((try simp only [depth_under_make, depth_under_kw, depth_in1, depth_deeper, depth_caller]); (try dsimp only [TopA]); omega))
local macro_rules | `(tactic| walk_at "m units") => `(tactic| first | assumption | ((try simp only [units_in1, units_deeper, Around.mark_units, units_caller]); (try dsimp only [TopA]); omega))
local macro_rules | `(tactic| walk_at "m prem") => `(tactic| ((case kB => k_asm); (case kF => k_asm); (case kX => k_asm); (case kN => k_asm); (case kT => k_asm); (case kf => exact rfl); (case kk => exact rfl); (case kd => walk_at "m room"); (case ku => walk_at "m units")))
local macro_rules | `(tactic| walk_at "m enterB") => `(tactic| (k_dflt (refine' enterW ?k1 ?k2 ?k3 ?k5 ?kA ?kF ?kK ?k6 ?k7 ?k8 ?k9 ?kB ?_ ?c2 ?c3 ?c4 ?c5; (case kA => exact rfl); (case kF => assumption); (case kK => assumption); (case k1 => k_asm); (case k2 => k_asm); (case k3 => k_asm); (case k5 => k_asm); (case k6 => k_is); (case k7 => k_is); (case k8 => walk_at "m room"); (case k9 => first | exact BindsTo.of_eq rfl | exact binds_K (by k_in) rfl (by k_is) rfl rfl rfl); (case c5 => decide); (case kB => exact locs rfl); (case c2 => exact rfl); (case c3 => exact rfl); (case c4 => exact rfl); k_whole; intro L' h' eL' F' N' B' X' T'; (try dsimp only); (try k_fold))))

local macro_rules | `(tactic| walk_at "call ref") => `(tactic| (k_here; k_dflt (show wpAny _ _ (call (Value.ref 367) [Value.str _ _]) _ _ _); k_dflt (refine' parse_call ?kO ?kw ?kB ?kF ?kX ?kT ?kf ?kk ?kH ?kd ?ku ?kh ?ret ?exc; (case kO => assumption); (case kw => assumption); (case kB => k_asm); (case kF => k_asm); (case kX => k_asm); (case kT => k_asm); (case kf => exact rfl); (case kk => exact rfl); (case kH => exact HOk.keeps (by assumption) (Fr.keep (by k_asm))); (case kd => walk_at "m room"); (case ku => walk_at "m units"); (case kh => assumption)); case' ret => (intro ls9 l9 v9 own9 h9 tk9 hm9 M9 V9; (try dsimp only); (have F9 := Made.fr M9 (by k_asm)); (have N9 := Made.news M9 (by k_asm) (by k_asm)))))

set_option maxHeartbeats 2000000 in
theorem refused_call {x : PySem.Str} {tq : Tok} (O : OkT x) (hw : wtl x.cps.toList ≤ 40 ∨ acc x.cps 0 0 = true) (hm : meant x = none) (B : Below A₀ base outer h₀) (F : Fr h₀ L s.heap m) (X : (hd.heap_39 w.params).In h₀) (T : Top p loose mean mg mb h₀) (hf : env.frame = some L) (hke : env.scope.kind = .function) (H : HOk hl s.heap) (TB : Top p loose mean mg mb base) (XB : (hd.heap_39 w.params).In base)
    (hdp : dp + 100 < recursionLimit) (hun : un + 300 < cLine)
    (hret : ∀ h' tk', KeptF s.heap (env :: outer) h' → Q (.bool true) { s with heap := h', toks := tk' }) :
    wpAny (model PySem.Challenge.rw_bn0039_01.row.prog w) (TopA hl dp un gd env outer) (call (.ref 423) [.str x tq]) Q E s := by
  have hh : ∀ ls, meant x = some ls → hl = none := fun ls e => by rw [hm] at e; cases e
  revert X; k_fill; intro X
  refine wpAny_call (withB [(PySem.Str.ofString "text", .str x tq)] ?_)
  walk_at "m enterB"
  k_steps
  · cases hm.symm.trans (by assumption : meant x = some (_ :: _))
  · rename RaisedC _ _ _ _ _ _ _ => R
    refine caughtC (by assumption) (by assumption) R (topRead_of TB) XB (by k_is) ?_
    intro h6 g6 F6 K6 b6 z6 k6 e6
    k_steps
    exact hret _ _ (KeptF.under (by assumption) k6 rfl)
end
end Mine

end
section
open PySem PySem.W PyProof.Rows
set_option maxRecDepth 100000
set_option linter.unusedVariables false
namespace Mine

/-! ## sorting keeps the order of what is equal -/
section
variable {prog : Program} {w : World} {A : Around} {E : Value → Shared → Prop} {s : Shared} {a₀ : Array Keyed}
/-- place p of the start comes before place q -/
def Bef (a₀ : Array Keyed) (p q : Nat) : Prop := K a₀ p < K a₀ q ∨ (K a₀ p = K a₀ q ∧ p < q)
theorem Bef.trans {p q r : Nat} (h : Bef a₀ p q) (h' : Bef a₀ q r) : Bef a₀ p r := by unfold Bef at *; omega
/-- the places g, the state's items at the start -/
structure GB (a₀ : Array Keyed) (st : SortSt) (g : Nat → Nat) : Prop where
  base : SBase a₀ st
  at_ : ∀ i, i < a₀.size → (arrOf st)[i]? = a₀[g i]? ∧ g i < a₀.size
theorem GB.key {st : SortSt} {g : Nat → Nat} (h : GB a₀ st g) {i : Nat} (hi : i < a₀.size) : K (arrOf st) i = K a₀ (g i) := K_congr (h.at_ i hi).1
/-- up to n in order, behind it as at the start -/
structure Up (a₀ : Array Keyed) (g : Nat → Nat) (n : Nat) : Prop where
  ord : ∀ i j, i < j → j < n → Bef a₀ (g i) (g j)
  id_ : ∀ i, n ≤ i → g i = i
  lt : ∀ i, i < n → g i < n
structure Dn (a₀ : Array Keyed) (g : Nat → Nat) (n : Nat) : Prop where
  ord : ∀ i j, i < j → j < n → Bef a₀ (g j) (g i)
  id_ : ∀ i, n ≤ i → g i = i
  lt : ∀ i, i < n → g i < n
/-- falling, the last q + 1 equal and rising by their places -/
structure DnQ (a₀ : Array Keyed) (g : Nat → Nat) (n q : Nat) : Prop where
  ord : ∀ i j, i < j → j + (q + 1) < n → Bef a₀ (g j) (g i)
  cut : ∀ i j, i + (q + 1) < n → n ≤ j + (q + 1) → j < n → K a₀ (g j) < K a₀ (g i)
  blk : ∀ i j, i < j → j < n → n ≤ i + (q + 1) → K a₀ (g i) = K a₀ (g j) ∧ g i < g j
  le : q + 1 ≤ n
  id_ : ∀ i, n ≤ i → g i = i
  lt : ∀ i, i < n → g i < n

theorem GB.mirror {st : SortSt} {g : Nat → Nat} (h : GB a₀ st g) {i j : Nat} (hj : j ≤ a₀.size) :
    GB a₀ (setArr st (mirror (arrOf st) i j ((j - i) / 2))) (fun k => if i ≤ k ∧ k < j then g (i + j - 1 - k) else g k) where
  base := h.base.setArr (mirror_perm _ _ _ _)
  at_ := fun k hk => by
    have hs : j ≤ (arrOf st).size := by rw [h.base.size]; exact hj
    have e := getElem?_mirror_all (i := i) hs k
    by_cases hc : i ≤ k ∧ k < j
    · simp only [hc, and_self, if_true] at e ⊢
      have := h.at_ (i + j - 1 - k) (by omega)
      exact ⟨e.trans this.1, this.2⟩
    · simp only [hc, if_false] at e ⊢
      have := h.at_ k hk
      exact ⟨e.trans this.1, this.2⟩
theorem GB.bubble {st : SortSt} {g : Nat → Nat} (h : GB a₀ st g) {k l : Nat} (hk : k < a₀.size) (hl : l ≤ k) :
    GB a₀ (setArr st (bubble (arrOf st) k (k - l))) (fun x => if x = l then g k else if l < x ∧ x ≤ k then g (x - 1) else g x) where
  base := h.base.setArr (bubble_perm _ _ _)
  at_ := fun x hx => by
    have hs : k < (arrOf st).size := by rw [h.base.size]; exact hk
    have e := getElem?_bubble hs (k - l) (by omega) x
    rw [show k - (k - l) = l by omega] at e
    by_cases h1 : x = l
    · simp only [h1, if_true] at e ⊢
      have := h.at_ k hk
      exact ⟨e.trans this.1, this.2⟩
    · simp only [h1, if_false] at e ⊢
      by_cases h2 : l < x ∧ x ≤ k
      · simp only [h2, and_self, if_true] at e ⊢
        have := h.at_ (x - 1) (by omega)
        exact ⟨e.trans this.1, this.2⟩
      · simp only [h2, if_false] at e ⊢
        have := h.at_ x hx
        exact ⟨e.trans this.1, this.2⟩

theorem wpG_lt {st : SortSt} {g : Nat → Nat} {i j : Nat} {Q : Option Bool → SortSt → Prop} (hB : GB a₀ st g) (h0 : IntKeys a₀) (hi : i < a₀.size) (hj : j < a₀.size)
    (h : Q (some (decide (K a₀ (g i) < K a₀ (g j)))) st) : wpS (model prog w) A E s (ltAt' i j) Q st := by
  refine wpS_ltK hB.base h0 hi hj ?_
  rw [hB.key hi, hB.key hj]; exact h

theorem Up.step {g : Nat → Nat} {x : Nat} (h : Up a₀ g x) (h1 : 1 ≤ x) (hl : ¬ K a₀ (g x) < K a₀ (g (x - 1))) : Up a₀ g (x + 1) where
  ord := fun i j hij hj => by
    by_cases hjx : j < x
    · exact h.ord i j hij hjx
    · have : j = x := by omega
      subst this
      have e := h.id_ j (Nat.le_refl _)
      have l := h.lt (j - 1) (by omega)
      have b : Bef a₀ (g (j - 1)) (g j) := by unfold Bef; omega
      by_cases hi : i = j - 1
      · rw [hi]; exact b
      · exact (h.ord i (j - 1) (by omega) (by omega)).trans b
  id_ := fun i hi => h.id_ i (by omega)
  lt := fun i hi => by
    by_cases hx : i < x
    · have := h.lt i hx; omega
    · have e := h.id_ i (by omega)
      omega

theorem wpG_asc {st : SortSt} {g : Nat → Nat} {a nrem : Nat} {Q : AscSt → SortSt → Prop} (h0 : IntKeys a₀) (hn : nrem ≤ a₀.size) (ha : 1 ≤ a) (han : a ≤ nrem) (hB : GB a₀ st g)
    (hs : Up a₀ g a) (h : ∀ n, a ≤ n → n ≤ nrem → Up a₀ g n → (n = nrem ∨ K a₀ (g n) < K a₀ (g (n - 1))) → Q (none, n) st) :
    wpS (model prog w) A E s (ascLoop a nrem) Q st := by
  unfold ascLoop
  refine wpS_forRange (I := fun x c st' => st' = st ∧ c = (none, x) ∧ Up a₀ g x) ?step ?fin ⟨rfl, rfl, hs⟩
  case fin =>
    rintro c st' ⟨rfl, rfl, hs'⟩
    rw [show max a nrem = nrem by omega] at hs' ⊢
    exact h nrem han (Nat.le_refl _) hs' (.inl rfl)
  case step =>
    rintro x c st' hax hxn ⟨rfl, rfl, hs'⟩
    dsimp only
    refine wpS_bind (wpG_lt hB h0 (by omega) (by omega) ?_)
    by_cases hl : K a₀ (g x) < K a₀ (g (x - 1))
    · simp only [hl, decide_true, if_true]
      exact wpS_pure (h x hax (by omega) hs' (.inr hl))
    · simp only [hl, decide_false, Bool.false_eq_true, if_false]
      exact wpS_pure ⟨rfl, rfl, hs'.step (by omega) hl⟩

theorem Dn.turned {g : Nat → Nat} {n : Nat} (h : Dn a₀ g n) : Up a₀ (fun k => if 0 ≤ k ∧ k < n then g (0 + n - 1 - k) else g k) n where
  ord := fun i j hij hj => by
    show Bef a₀ (if 0 ≤ i ∧ i < n then g (0 + n - 1 - i) else g i) (if 0 ≤ j ∧ j < n then g (0 + n - 1 - j) else g j)
    rw [if_pos (by omega), if_pos (by omega)]
    exact h.ord _ _ (by omega) (by omega)
  id_ := fun i hi => by
    show (if 0 ≤ i ∧ i < n then g (0 + n - 1 - i) else g i) = i
    rw [if_neg (by omega)]; exact h.id_ i hi
  lt := fun i hi => by
    show (if 0 ≤ i ∧ i < n then g (0 + n - 1 - i) else g i) < n
    rw [if_pos (by omega)]; exact h.lt _ (by omega)
theorem wpG_tail3 {st : SortSt} {g : Nat → Nat} {n nrem : Nat} {Q : Option Nat → SortSt → Prop} (h0 : IntKeys a₀) (hn : nrem ≤ a₀.size) (h1 : 1 ≤ n) (hnn : n ≤ nrem) (hB : GB a₀ st g)
    (hs : Dn a₀ g n) (h : ∀ m st' g', GB a₀ st' g' → 1 ≤ m → m ≤ nrem → Up a₀ g' m → Q (some m) st') :
    wpS (model prog w) A E s (tail3 n nrem) Q st := by
  unfold tail3
  refine wpS_bind (wpS_reverse ?_)
  have hB' := hB.mirror (i := 0) (j := n) (by omega)
  exact wpS_bind (wpG_asc h0 hn h1 hnn hB' hs.turned fun m hm1 hm2 hsm _ => wpS_pure (h m _ _ hB' (by omega) hm2 hsm))

theorem DnQ.flat {g : Nat → Nat} {n q : Nat} (h : DnQ a₀ g n q) : Dn a₀ (fun k => if n - (q + 1) ≤ k ∧ k < n then g (n - (q + 1) + n - 1 - k) else g k) n where
  ord := fun i j hij hj => by
    have hle := h.le
    show Bef a₀ (if n - (q + 1) ≤ j ∧ j < n then g (n - (q + 1) + n - 1 - j) else g j) (if n - (q + 1) ≤ i ∧ i < n then g (n - (q + 1) + n - 1 - i) else g i)
    by_cases hi : n - (q + 1) ≤ i
    · rw [if_pos (by omega), if_pos (by omega)]
      have := h.blk (n - (q + 1) + n - 1 - j) (n - (q + 1) + n - 1 - i) (by omega) (by omega) (by omega)
      exact .inr this
    · rw [if_neg (c := n - (q + 1) ≤ i ∧ i < n) (by omega)]
      split
      · exact .inl (h.cut _ _ (by omega) (by omega) (by omega))
      · exact h.ord _ _ hij (by omega)
  id_ := fun i hi => by
    show (if n - (q + 1) ≤ i ∧ i < n then g (n - (q + 1) + n - 1 - i) else g i) = i
    rw [if_neg (by omega)]; exact h.id_ i hi
  lt := fun i hi => by
    have hle := h.le
    show (if n - (q + 1) ≤ i ∧ i < n then g (n - (q + 1) + n - 1 - i) else g i) < n
    split
    · exact h.lt _ (by omega)
    · exact h.lt _ hi
theorem DnQ.one {g : Nat → Nat} {n : Nat} (h : DnQ a₀ g n 0) : Dn a₀ g n where
  ord := fun i j hij hj => by
    by_cases hl : j + (0 + 1) < n
    · exact h.ord i j hij hl
    · exact .inl (h.cut i j (by omega) (by omega) hj)
  id_ := h.id_
  lt := h.lt
theorem Dn.step {g : Nat → Nat} {x : Nat} (h : Dn a₀ g x) (h1 : 1 ≤ x) (hl : K a₀ (g x) < K a₀ (g (x - 1))) : DnQ a₀ g (x + 1) 0 where
  ord := fun i j hij hj => h.ord i j hij (by omega)
  cut := fun i j hi hj hjx => by
    have : j = x := by omega
    subst this
    by_cases hi' : i = j - 1
    · rw [hi']; exact hl
    · have := h.ord i (j - 1) (by omega) (by omega)
      unfold Bef at this
      omega
  blk := fun i j hij hj hb => by omega
  le := by omega
  id_ := fun i hi => h.id_ i (by omega)
  lt := fun i hi => by
    by_cases hx : i < x
    · have := h.lt i hx; omega
    · have e := h.id_ i (by omega)
      omega
theorem DnQ.eq_step {g : Nat → Nat} {x q : Nat} (h : DnQ a₀ g x q) (he : K a₀ (g x) = K a₀ (g (x - 1))) : DnQ a₀ g (x + 1) (q + 1) where
  ord := fun i j hij hj => h.ord i j hij (by omega)
  cut := fun i j hi hj hjx => by
    have hle := h.le
    by_cases hx : j < x
    · exact h.cut i j (by omega) (by omega) hx
    · have : j = x := by omega
      subst this
      rw [he]
      exact h.cut i (j - 1) (by omega) (by omega) (by omega)
  blk := fun i j hij hj hb => by
    have hle := h.le
    by_cases hjx : j < x
    · exact h.blk i j hij hjx (by omega)
    · have : j = x := by omega
      subst this
      have e := h.id_ j (Nat.le_refl _)
      have l := h.lt i hij
      by_cases hi : i = j - 1
      · subst hi; exact ⟨he.symm, by omega⟩
      · have b := h.blk i (j - 1) (by omega) (by omega) (by omega)
        exact ⟨b.1.trans he.symm, by omega⟩
  le := by have := h.le; omega
  id_ := fun i hi => h.id_ i (by omega)
  lt := fun i hi => by
    by_cases hx : i < x
    · have := h.lt i hx; omega
    · have e := h.id_ i (by omega)
      omega

theorem wpG_descLoop {st : SortSt} {g : Nat → Nat} {n nrem : Nat} {Q : DescSt → SortSt → Prop} (h0 : IntKeys a₀) (hn : nrem ≤ a₀.size) (h1 : 1 ≤ n) (hnn : n ≤ nrem) (hB : GB a₀ st g)
    (hs : DnQ a₀ g n 0)
    (h : ∀ m neq st' g', GB a₀ st' g' → n ≤ m → m ≤ nrem → DnQ a₀ g' m neq → Q (none, m, neq) st') :
    wpS (model prog w) A E s (descLoop n nrem) Q st := by
  unfold descLoop
  refine wpS_forRange (I := fun x c st' => ∃ neq g', c = (none, x, neq) ∧ GB a₀ st' g' ∧ DnQ a₀ g' x neq) ?step ?fin ⟨0, g, rfl, hB, hs⟩
  case fin =>
    rintro c st' ⟨neq, g', rfl, hB', hs'⟩
    rw [show max n nrem = nrem by omega] at hs' ⊢
    exact h nrem neq st' g' hB' hnn (Nat.le_refl _) hs'
  case step =>
    rintro x c st' hax hxn ⟨neq, g', rfl, hB', hs'⟩
    dsimp only
    refine wpS_bind (wpG_lt hB' h0 (by omega) (by omega) ?_)
    by_cases hless : K a₀ (g' x) < K a₀ (g' (x - 1))
    · simp only [hless, decide_true, if_true]
      by_cases hneq : neq > 0
      · rw [if_pos hneq]
        refine wpS_bind (wpS_reverse (wpS_pure ⟨0, _, rfl, hB'.mirror (by omega), hs'.flat.step (by omega) ?_⟩))
        have hle := hs'.le
        rw [if_neg (by omega), if_pos (by omega)]
        have := hs'.blk (x - (neq + 1)) (x - 1) (by omega) (by omega) (by omega)
        rw [show x - (neq + 1) + x - 1 - (x - 1) = x - (neq + 1) by omega, this.1]
        exact hless
      · rw [if_neg hneq]
        have : neq = 0 := by omega
        subst this
        exact wpS_pure ⟨0, g', rfl, hB', hs'.one.step (by omega) hless⟩
    · simp only [hless, decide_false, Bool.false_eq_true, if_false]
      refine wpS_bind (wpG_lt hB' h0 (by omega) (by omega) ?_)
      by_cases hlarger : K a₀ (g' (x - 1)) < K a₀ (g' x)
      · simp only [hlarger, decide_true, if_true]
        exact wpS_pure (h x neq st' g' hB' hax (by omega) hs')
      · simp only [hlarger, decide_false, Bool.false_eq_true, if_false]
        exact wpS_pure ⟨neq + 1, g', rfl, hB', hs'.eq_step (by omega)⟩

theorem wpG_descPart {st : SortSt} {g : Nat → Nat} {n nrem : Nat} {Q : Option Nat → SortSt → Prop} (h0 : IntKeys a₀) (hn : nrem ≤ a₀.size) (hnn : n + 1 ≤ nrem) (hB : GB a₀ st g)
    (hs : DnQ a₀ g (n + 1) 0) (h : ∀ m st' g', GB a₀ st' g' → 1 ≤ m → m ≤ nrem → Up a₀ g' m → Q (some m) st') :
    wpS (model prog w) A E s (descPart n nrem) Q st := by
  unfold descPart
  refine wpS_bind (wpS_lift (wpAny_rule ⟨rfl, ?_⟩))
  refine wpS_bind (wpG_descLoop h0 hn (by omega) hnn hB hs fun m neq st' g' hB' hm1 hm2 hs' => ?_)
  dsimp only
  by_cases hneq : neq > 0
  · rw [if_pos hneq]
    exact wpS_bind (wpS_reverse (wpG_tail3 h0 hn (by omega) hm2 (hB'.mirror (by omega)) hs'.flat h))
  · rw [if_neg hneq]
    have : neq = 0 := by omega
    subst this
    exact wpG_tail3 h0 hn (by omega) hm2 hB' hs'.one h

theorem wpG_countRun {st : SortSt} {nrem : Nat} {Q : Option Nat → SortSt → Prop} (h0 : IntKeys a₀) (hn : nrem ≤ a₀.size) (h1 : 1 ≤ nrem) (hB : GB a₀ st id)
    (h : ∀ m st' g', GB a₀ st' g' → 1 ≤ m → m ≤ nrem → Up a₀ g' m → Q (some m) st') :
    wpS (model prog w) A E s (countRun' 0 nrem) Q st := by
  rw [countRun0_eq]
  refine wpS_bind (wpG_asc h0 hn (Nat.le_refl 1) h1 hB ⟨fun i j hij hj => by omega, fun i _ => rfl, fun i hi => hi⟩ fun n hn1 hn2 hsn hor => ?_)
  dsimp only
  by_cases hnn : n = nrem
  · rw [if_pos (by simpa using hnn)]
    exact wpS_pure (h n st id hB hn1 hn2 hsn)
  · rw [if_neg (by simpa using hnn)]
    have hlt : K a₀ (id n) < K a₀ (id (n - 1)) := hor.resolve_left hnn
    by_cases hgt : n > 1
    · rw [if_pos hgt]
      refine wpS_bind (wpG_lt hB h0 (by omega) (by omega) ?_)
      by_cases hrose : K a₀ (id 0) < K a₀ (id (n - 1))
      · simp only [hrose, decide_true, if_true]
        exact wpS_pure (h n st id hB hn1 hn2 hsn)
      · simp only [hrose, decide_false, Bool.false_eq_true, if_false]
        have hle : ∀ i j, i < j → j < n → K a₀ (id i) ≤ K a₀ (id j) := fun i j hij hj => by
          have := hsn.ord i j hij hj
          unfold Bef at this; omega
        have hall : ∀ k, k < n → K a₀ (id k) = K a₀ (id (n - 1)) := by
          intro k hk
          by_cases hk1 : k = n - 1
          · rw [hk1]
          · have a2 := hle k (n - 1) (by omega) (by omega)
            by_cases hk0 : k = 0
            · subst hk0; omega
            · have a1 := hle 0 k (by omega) hk
              omega
        refine wpS_bind (wpS_reverse (wpG_descPart h0 hn (by omega) (hB.mirror (i := 0) (j := n) (by omega)) (Dn.step ⟨fun i j hij hj => ?_, fun i hi => ?_, fun i hi => ?_⟩ (by omega) ?_) h))
        · show Bef a₀ (if 0 ≤ j ∧ j < n then id (0 + n - 1 - j) else id j) (if 0 ≤ i ∧ i < n then id (0 + n - 1 - i) else id i)
          rw [if_pos (by omega), if_pos (by omega)]
          refine .inr ⟨?_, by show 0 + n - 1 - j < 0 + n - 1 - i; omega⟩
          rw [hall _ (by omega), hall (0 + n - 1 - i) (by omega)]
        · show (if 0 ≤ i ∧ i < n then id (0 + n - 1 - i) else id i) = i
          rw [if_neg (by omega)]; rfl
        · show (if 0 ≤ i ∧ i < n then id (0 + n - 1 - i) else id i) < n
          rw [if_pos (by omega)]; show 0 + n - 1 - i < n; omega
        · show K a₀ (if 0 ≤ n ∧ n < n then id (0 + n - 1 - n) else id n) < K a₀ (if 0 ≤ n - 1 ∧ n - 1 < n then id (0 + n - 1 - (n - 1)) else id (n - 1))
          rw [if_neg (by omega), if_pos (by omega), hall (0 + n - 1 - (n - 1)) (by omega)]
          exact hlt
    · rw [if_neg hgt]
      have hn1' : n = 1 := by omega
      subst hn1'
      exact wpG_descPart h0 hn (by omega) hB (Dn.step ⟨fun i j hij hj => by omega, fun i _ => rfl, fun i hi => hi⟩ (by omega) hlt) h

theorem wpG_binary {st : SortSt} {g : Nat → Nat} {n ok : Nat} {Q : Bool → SortSt → Prop} (h0 : IntKeys a₀) (hn : n ≤ a₀.size) (hok1 : 1 ≤ ok) (hok : ok ≤ n) (hB : GB a₀ st g) (hs : Up a₀ g ok)
    (h : ∀ st' g', GB a₀ st' g' → Up a₀ g' n → Q true st') : wpS (model prog w) A E s (binarySort' 0 n ok) Q st := by
  rw [binarySort'_eq]
  simp only [Nat.zero_add]
  refine wpS_bind (wpS_mono (wpS_forRange (I := fun k c st' => c = (none, ()) ∧ ∃ g', GB a₀ st' g' ∧ Up a₀ g' k)
    (Q := fun c st' => c = (none, ()) ∧ ∃ g', GB a₀ st' g' ∧ Up a₀ g' n) ?step ?fin ?init) ?post)
  case post =>
    rintro c st' ⟨rfl, g', hB', hs'⟩
    exact wpS_pure (h st' g' hB' hs')
  case init =>
    refine ⟨rfl, g, hB, ?_⟩
    rw [show max ok 1 = ok by omega]; exact hs
  case fin =>
    rintro c st' ⟨hc, g', hB', hs'⟩
    refine ⟨hc, g', hB', ?_⟩
    rwa [show max (max ok 1) n = n by omega] at hs'
  case step =>
    rintro k c st' hak hkn ⟨rfl, g', hB', hs'⟩
    have hk : k < a₀.size := by omega
    have hid := hs'.id_ k (Nat.le_refl _)
    refine wpS_bind (wpS_mono (wpS_forRange (I := fun x c st'' => st'' = st' ∧ ∃ l r, c = (none, l, r) ∧ l ≤ r ∧ r ≤ k ∧ r - l ≤ k - x ∧
        (∀ i, i < l → Bef a₀ (g' i) (g' k)) ∧ (∀ i, r ≤ i → i < k → Bef a₀ (g' k) (g' i)))
      (Q := fun c st'' => st'' = st' ∧ ∃ l r, c = (none, l, r) ∧ l ≤ k ∧
        (∀ i, i < l → Bef a₀ (g' i) (g' k)) ∧ (∀ i, l ≤ i → i < k → Bef a₀ (g' k) (g' i))) ?istep ?ifin ?iinit) ?ipost)
    case iinit => exact ⟨rfl, 0, k, rfl, by omega, by omega, by omega, fun i hi => by omega, fun i h1 h2 => by omega⟩
    case ifin =>
      rintro c st'' ⟨rfl, l, r, rfl, hlr, hrk, hm, hlo, hhi⟩
      have : l = r := by omega
      subst this
      exact ⟨rfl, l, l, rfl, hrk, hlo, hhi⟩
    case istep =>
      rintro x c st'' _ hxk ⟨rfl, l, r, rfl, hlr, hrk, hm, hlo, hhi⟩
      dsimp only
      by_cases hge : l ≥ r
      · rw [if_pos hge]
        have : l = r := by omega
        subst this
        exact wpS_pure ⟨rfl, l, l, rfl, hrk, hlo, hhi⟩
      · rw [if_neg hge]
        refine wpS_bind (wpG_lt hB' h0 hk (by omega) ?_)
        by_cases hless : K a₀ (g' k) < K a₀ (g' ((l + r) / 2))
        · simp only [hless, decide_true, if_true]
          refine wpS_pure ⟨rfl, l, (l + r) / 2, rfl, by omega, by omega, by omega, hlo, fun i h1 h2 => ?_⟩
          by_cases hi : i = (l + r) / 2
          · rw [hi]; exact .inl hless
          · exact Bef.trans (.inl hless) (hs'.ord _ i (by omega) h2)
        · simp only [hless, decide_false, Bool.false_eq_true, if_false]
          have hb : Bef a₀ (g' ((l + r) / 2)) (g' k) := by
            have := hs'.lt ((l + r) / 2) (by omega)
            unfold Bef; omega
          refine wpS_pure ⟨rfl, (l + r) / 2 + 1, r, rfl, by omega, by omega, by omega, fun i h1 => ?_, hhi⟩
          by_cases hi : i = (l + r) / 2
          · rw [hi]; exact hb
          · exact (hs'.ord i _ (by omega) (by omega)).trans hb
    case ipost =>
      rintro c st'' ⟨rfl, l, r, rfl, hlk, hlo, hhi⟩
      show wpS _ _ _ _ (do moveDown' k l; pure (ForInStep.yield (none, ()))) _ _
      rw [moveDown'_eq]
      refine wpS_bind (wpS_modify (wpS_pure ⟨rfl, _, hB'.bubble hk hlk, ⟨fun i j hij hj => ?_, fun i hi => ?_, fun i hi => ?_⟩⟩))
      · try dsimp only
        by_cases hj1 : j = l
        · rw [if_neg (c := i = l) (by omega), if_neg (by omega), if_pos hj1]
          exact hlo i (by omega)
        · rw [if_neg hj1]
          by_cases hj2 : l < j ∧ j ≤ k
          · rw [if_pos hj2]
            by_cases hi1 : i = l
            · rw [if_pos hi1]; exact hhi _ (by omega) (by omega)
            · rw [if_neg hi1]
              split
              · exact hs'.ord _ _ (by omega) (by omega)
              · exact hs'.ord _ _ (by omega) (by omega)
          · rw [if_neg hj2, if_neg (by omega), if_neg (by omega)]
            exact hs'.ord _ _ hij (by omega)
      · try dsimp only
        rw [if_neg (by omega), if_neg (by omega)]; exact hs'.id_ i (by omega)
      · try dsimp only
        split
        · omega
        · split
          · have := hs'.lt (i - 1) (by omega); omega
          · have := hs'.lt i (by omega); omega

/-- all in order -/
def GDone (a₀ : Array Keyed) (st : SortSt) : Prop := failedOf st = none ∧ pendingOf st = #[(0, a₀.size, 0)] ∧ (arrOf st).size = a₀.size ∧ ∃ g, (∀ i, i < a₀.size → (arrOf st)[i]? = a₀[g i]? ∧ g i < a₀.size) ∧ Up a₀ g a₀.size
theorem GB.done {st : SortSt} {g : Nat → Nat} (hB : GB a₀ st g) (hs : Up a₀ g a₀.size) : GDone a₀ (setPending st ((pendingOf st).push (0, a₀.size, 0))) :=
  ⟨hB.base.failed, by show (pendingOf st).push _ = _; rw [hB.base.pend]; rfl, hB.base.size, g, hB.at_, hs⟩
theorem wpG_sortRuns {st : SortSt} {Q : Unit → SortSt → Prop} (h0 : IntKeys a₀) (hB : GB a₀ st id) (h2 : 2 ≤ a₀.size) (h64 : a₀.size < 64)
    (h : ∀ st', GDone a₀ st' → Q () st') : wpS (model prog w) A E s sortRuns' Q st := by
  rw [sortRuns'_eq]
  refine wpS_bind (wpS_get ?_)
  dsimp only
  have hmr : minRun' a₀.size a₀.size 0 = a₀.size := by
    obtain ⟨f, hf⟩ : ∃ f, a₀.size = f + 1 := ⟨a₀.size - 1, by omega⟩
    have : minRun' (f + 1) a₀.size 0 = a₀.size := by rw [minRun'_succ, if_pos h64]; rfl
    rwa [← hf] at this
  simp only [hB.base.size, hmr]
  refine wpS_bind (wpS_mono (wpS_forRange
    (I := fun x c st' => (x = 0 ∧ c = (none, 0) ∧ GB a₀ st' id) ∨ (1 ≤ x ∧ c = (none, a₀.size) ∧ GDone a₀ st'))
    (Q := fun c st' => c = (none, a₀.size) ∧ GDone a₀ st') ?step ?fin (.inl ⟨rfl, rfl, hB⟩)) ?post)
  case fin =>
    rintro c st' (⟨hx, _, _⟩ | ⟨_, hc, hD⟩)
    · omega
    · exact ⟨hc, hD⟩
  case step =>
    rintro x c st' _ hx (⟨rfl, rfl, hB'⟩ | ⟨hx1, rfl, hD⟩)
    · dsimp only
      rw [if_neg (by omega)]
      simp only [Nat.sub_zero, Nat.min_self, Nat.zero_add]
      refine wpS_bind (wpG_countRun h0 (Nat.le_refl _) (by omega) hB' fun m st2 g2 hB2 hm1 hm2 hs2 => ?_)
      dsimp only
      by_cases hlt : m < a₀.size
      · rw [if_pos hlt]
        refine wpS_bind (wpS_lift (wpAny_rule ⟨rfl, ?_⟩))
        refine wpS_bind (wpG_binary h0 (Nat.le_refl _) hm1 hm2 hB2 hs2 fun st3 g3 hB3 hs3 => ?_)
        simp only [Bool.not_true, Bool.false_eq_true, if_false]
        refine wpS_bind (wpS_get ?_)
        have hb : (pendingOf st3).back? = none := by rw [hB3.base.pend]; rfl
        rw [hb]
        dsimp only
        exact wpS_bind (wpS_modify (wpS_pure (.inr ⟨by omega, rfl, hB3.done hs3⟩)))
      · rw [if_neg hlt]
        have hm : m = a₀.size := by omega
        subst hm
        refine wpS_bind (wpS_get ?_)
        have hb : (pendingOf st2).back? = none := by rw [hB2.base.pend]; rfl
        rw [hb]
        dsimp only
        exact wpS_bind (wpS_modify (wpS_pure (.inr ⟨by omega, rfl, hB2.done hs2⟩)))
    · dsimp only
      rw [if_pos (Nat.le_refl _)]
      exact wpS_pure ⟨rfl, hD⟩
  case post =>
    rintro c st' ⟨rfl, hD⟩
    dsimp only
    refine wpS_bind (wpS_mono (wpS_forRange (I := fun _ c st'' => st'' = st' ∧ c = (none, ())) (Q := fun c st'' => st'' = st' ∧ c = (none, ())) ?_ (fun _ _ hh => hh) ⟨rfl, rfl⟩) ?_)
    · rintro x c st'' _ _ ⟨rfl, rfl⟩
      refine wpS_bind (wpS_get ?_)
      rw [if_pos (by rw [hD.2.1]; exact Nat.le_refl 1)]
      exact wpS_pure ⟨rfl, rfl⟩
    · rintro c st'' ⟨rfl, rfl⟩
      exact wpS_pure (h _ hD)
end
end Mine

end
section
open PySem PySem.W PyProof.Rows
set_option maxRecDepth 100000
set_option linter.unusedVariables false
set_option maxHeartbeats 4000000
namespace Mine

/-- gs: the places of the start in the order of their keys, equal ones as they stood -/
theorem get_upd {h : Heap} {a : Addr} {c : String} {xs : Array Value} {n : Nat} (ho : h.get? a = some (seqObj c xs n)) (ys : Array Value) : ∃ n', (h.update a (Obj.mapSeq fun _ => ys)).get? a = some (seqObj c ys n') := ⟨_, get?_update_seq ho fun _ => ys⟩
structure StL (ks : List Int) (n : Nat) (gs : List Nat) : Prop where
  lt : ∀ x ∈ gs, x < n
  len : gs.length = n
  ord : gs.Pairwise (fun p q => ks.getD p 0 < ks.getD q 0 ∨ (ks.getD p 0 = ks.getD q 0 ∧ p < q))

theorem K_zip {keys : Array Value} {vs : List Value} {kz : List Int} (hk : IntsAre keys.toList kz) (hlen : kz.length = vs.length) {i : Nat} (hi : i < vs.length) : K (keys.zip vs.toArray) i = kz.getD i 0 := by
  obtain ⟨t, ht⟩ := hk.get i (kz.getD i 0) (by rw [List.getD_eq_getElem?_getD, List.getElem?_eq_getElem (by omega)]; rfl)
  have h1 : (keys.zip vs.toArray).toList[i]? = some (.int (kz.getD i 0) t, vs[i]) := by
    rw [ksk_zip, List.getElem?_zip_eq_some]
    exact ⟨ht, List.getElem?_eq_getElem hi⟩
  have h2 : (keys.zip vs.toArray)[i]? = some (.int (kz.getD i 0) t, vs[i]) := by rw [← h1, Array.getElem?_toList]
  unfold K
  rw [h2]
  rfl

def StOut (kz : List Int) (vs out : List Value) : Prop := ∃ gs, StL kz vs.length gs ∧ out = gs.map (fun i => vs.getD i .none)

theorem st_out {keys : Array Value} {vs : List Value} {kz : List Int} (hk : IntsAre keys.toList kz) (hlen : kz.length = vs.length) {st : SortSt} (h : GDone (keys.zip vs.toArray) st) : StOut kz vs ((arrOf st).map (·.2)).toList := by
  obtain ⟨_, _, hsz, g, hg, hu⟩ := h
  have hz : (keys.zip vs.toArray).size = vs.length := by
    have h1 := hk.length
    rw [Array.length_toList] at h1
    rw [Array.size_zip]; show min keys.size vs.length = vs.length; omega
  rw [hz] at hsz hg hu
  refine ⟨(List.range vs.length).map g, ⟨?_, by simp, ?_⟩, ?_⟩
  · intro x hx
    obtain ⟨i, hi, rfl⟩ := List.mem_map.mp hx
    exact (hg i (List.mem_range.mp hi)).2
  · rw [List.pairwise_map, List.pairwise_iff_getElem]
    intro i j hi hj hij
    rw [List.length_range] at hi hj
    rw [List.getElem_range, List.getElem_range]
    have := hu.ord i j hij hj
    unfold Bef at this
    rw [K_zip hk hlen (hg i hi).2, K_zip hk hlen (hg j hj).2] at this
    exact this
  · apply List.ext_getElem?
    intro i
    rw [Array.toList_map, List.getElem?_map, List.map_map, List.getElem?_map]
    by_cases hi : i < vs.length
    · have e := hg i hi
      have e1 : (arrOf st).toList[i]? = (arrOf st)[i]? := by simp
      have e2 : (keys.zip vs.toArray)[g i]? = (keys.toList.zip vs)[g i]? := by rw [← ksk_zip, Array.getElem?_toList]
      have hgl : g i < (keys.toList.zip vs).length := by
        have h1 := hk.length
        rw [List.length_zip]; omega
      rw [e1, e.1, e2, List.getElem?_eq_getElem hgl, List.getElem_zip, List.getElem?_range hi]
      show some _ = some (vs.getD (g i) .none)
      rw [List.getD_eq_getElem?_getD, List.getElem?_eq_getElem e.2]
      rfl
    · rw [List.getElem?_eq_none (by simp; omega), List.getElem?_eq_none (by simp; omega)]
      rfl

section
variable {prog : Program} {w : World} {A : Around} {E : Value → Shared → Prop} {s : Shared} {h₀ : Heap} {L a kS : Addr} {m : PySem.Str → Option Value} {news : List (Addr × Obj)} {vs : List Value} {kz : List Int} {keys : Array Value} {e e1 : Nat} {P : PySem.Fin → Shared → Prop}

theorem st_tail {st : SortSt} (F : Fr h₀ L s.heap m) (N : News h₀ L s.heap (news ++ [(kS, seqObj "list" keys e), (a, seqObj "list" #[] e1)])) (hka : kS ≠ a) (hnk : ∀ p ∈ news, p.1 ≠ kS) (hna : ∀ p ∈ news, p.1 ≠ a)
    (hsz : keys.size = vs.length) (hsz2 : (arrOf st).size = vs.length) (h64 : vs.length < 64) (hfl : failedOf st = none) (ho : StOut kz vs ((arrOf st).map (·.2)).toList)
    (h : ∀ h' tk out c, Fr h₀ L h' m → News h₀ L h' ((a, seqObj "list" out c) :: news) → StOut kz vs out.toList → P (.done (.ret .none)) { s with heap := h', toks := tk }) :
    wpAny (model prog w) A (ksk_tail a false e1 (.ref kS) st) P E s := by
  have nk := N (kS, seqObj "list" keys e) (List.mem_append_right _ (.head _))
  have na := N (a, seqObj "list" #[] e1) (List.mem_append_right _ (.tail _ (.head _)))
  have Nn : News h₀ L s.heap news := fun p hp => N p (List.mem_append_left _ hp)
  have hout : ((arrOf st).map (·.2)).size = vs.length := by rw [Array.size_map]; exact hsz2
  have s1 := Heap.SameBut.update s.heap kS (Obj.mapSeq fun _ => (#[] : Array Value))
  have na1 : (s.heap.update kS (Obj.mapSeq fun _ => (#[] : Array Value))).get? a = some (seqObj "list" #[] e1) := (s1.2 a hka.symm).trans na.1
  have s2 := Heap.SameBut.update (s.heap.update kS (Obj.mapSeq fun _ => (#[] : Array Value))) a (Obj.mapSeq fun _ => (arrOf st).map (·.2))
  obtain ⟨c2, hc2⟩ := get_upd na1 ((arrOf st).map (·.2))
  have N2 := ksk_news (ksk_news Nn s1 hnk) s2 hna
  unfold ksk_tail
  simp only [Bool.false_eq_true, if_false]
  refine wpAny_bind (listUpdate_at nk.1 rfl ?_ (by rw [hsz, sizeLine_eq]; omega) (Nat.zero_le _))
  refine wpAny_bind (wpAny_letGo ?_)
  refine wpAny_bind (seqEpoch_at na1 rfl ?_)
  refine wpAny_bind (listUpdate_at na1 rfl ?_ (Nat.zero_le _) (Nat.le_trans (Nat.le_of_eq hout) (by rw [sizeLine_eq]; omega)))
  rw [hfl]
  simp only [bne_self_eq_false, Bool.false_eq_true, if_false]
  refine wpAny_pure (h _ _ _ c2 (ksk_fr (ksk_fr F s1 nk.2.1 nk.2.2) s2 na.2.1 na.2.2) (fun p hp => ?_) ho)
  rcases List.mem_cons.mp hp with rfl | hp
  · exact ⟨hc2, na.2⟩
  · exact N2 p hp

theorem st_end (F : Fr h₀ L s.heap m) (N : News h₀ L s.heap (news ++ [(kS, seqObj "list" keys e), (a, seqObj "list" #[] e1)])) (hka : kS ≠ a) (hnk : ∀ p ∈ news, p.1 ≠ kS) (hna : ∀ p ∈ news, p.1 ≠ a)
    (hk : IntsAre keys.toList kz) (hlen : kz.length = vs.length) (h64 : vs.length < 64)
    (h : ∀ h' tk out c, Fr h₀ L h' m → News h₀ L h' ((a, seqObj "list" out c) :: news) → StOut kz vs out.toList → P (.done (.ret .none)) { s with heap := h', toks := tk }) :
    wpAny (model prog w) A (ksk_end a false vs.toArray e1 (.ref kS) keys) P E s := by
  have hsz : keys.size = vs.length := by
    have h1 := hk.length
    rw [Array.length_toList] at h1
    omega
  have hzs : (keys.zip vs.toArray).size = vs.length := by rw [Array.size_zip, hsz, List.size_toArray, Nat.min_self]
  have hG : GB (keys.zip vs.toArray) (SortSt.mk' oneType' (keys.zip vs.toArray) #[] 7 none) id := ⟨⟨Array.Perm.refl _, rfl, rfl, rfl⟩, fun i hi => ⟨rfl, hi⟩⟩
  unfold ksk_end
  simp only [Bool.false_eq_true, if_false]
  by_cases h2 : vs.toArray.size < 2
  · rw [if_pos h2, if_pos h2]
    rw [List.size_toArray] at h2
    try (refine wpAny_bind (wpAny_pure ?_))
    rw [StateT.run_pure]
    refine wpAny_bind (wpAny_pure ?_)
    try dsimp only
    refine st_tail (st := SortSt.mk' general' (keys.zip vs.toArray) #[] 7 none) F N hka hnk hna hsz hzs h64 rfl ?_ h
    refine ⟨List.range vs.length, ⟨fun x hx => List.mem_range.mp hx, by simp, ?_⟩, ?_⟩
    · rw [List.pairwise_iff_getElem]
      intro i j hi hj hij
      rw [List.length_range] at hi hj
      omega
    · have e1 : ((arrOf (SortSt.mk' general' (keys.zip vs.toArray) #[] 7 none)).map (·.2)).toList = vs := by
        show ((keys.zip vs.toArray).map (·.2)).toList = vs
        rw [Array.toList_map, ksk_zip]
        show List.map Prod.snd _ = vs
        rw [List.map_snd_zip (by show vs.length ≤ keys.size; omega)]
      rw [e1]
      apply List.ext_getElem?
      intro i
      rw [List.getElem?_map]
      by_cases hi : i < vs.length
      · rw [List.getElem?_range hi, List.getElem?_eq_getElem hi]
        show _ = some (vs.getD i .none)
        rw [List.getD_eq_getElem?_getD, List.getElem?_eq_getElem hi]
        rfl
      · rw [List.getElem?_eq_none (by omega), List.getElem?_eq_none (by simp; omega)]
        rfl
  · rw [if_neg h2, if_neg h2]
    rw [List.size_toArray] at h2
    rw [ksk_kind hk (by rw [hsz]; omega)]
    refine wpAny_bind (wpAny_pure ?_)
    refine wpAny_bind (wpAny_mono (wpG_sortRuns (a₀ := keys.zip vs.toArray) (st := SortSt.mk' oneType' (keys.zip vs.toArray) #[] 7 none)
      (Q := fun _ st' => GDone (keys.zip vs.toArray) st')
      (ksk_intKeys hk) hG (by rw [hzs]; omega) (by rw [hzs]; exact h64) fun st' a1 => a1) ?_ fun _ _ e => e)
    rintro ⟨⟨⟩, st'⟩ s' ⟨rfl, hD⟩
    try dsimp only
    exact st_tail F N hka hnk hna hsz (by rw [← hzs]; exact hD.2.2.1) h64 hD.1 (st_out hk hlen hD) h

theorem st_rest {f : Value} (F : Fr h₀ L s.heap m) (N : News h₀ L s.heap (news ++ [(kS, seqObj "list" #[] 0), (a, seqObj "list" #[] e1)])) (hka : kS ≠ a) (hnk : ∀ p ∈ news, p.1 ≠ kS) (hna : ∀ p ∈ news, p.1 ≠ a)
    (hlen : kz.length = vs.length) (h64 : vs.length < 64)
    (turn : ∀ (i : Nat) (v : Value) (k : Int), vs[i]? = some v → kz[i]? = some k → ∀ (h : Heap) (tk : Nat) (own : List (Addr × Obj)), Fr h₀ L h m → News h₀ L h (news ++ own) →
      wpAny (model prog w) A (call f [v]) (KskEnd h₀ L m (news ++ own) k { s with heap := h, toks := tk }) (fun _ _ => False) { s with heap := h, toks := tk })
    (h : ∀ h' tk out c, Fr h₀ L h' m → News h₀ L h' ((a, seqObj "list" out c) :: news) → StOut kz vs out.toList → P (.done (.ret .none)) { s with heap := h', toks := tk }) :
    wpAny (model prog w) A (ksk_rest a f false vs.toArray e1 (.ref kS)) P E s := by
  unfold ksk_rest
  refine wpAny_bind (wpAny_rule ?_)
  rw [List.forIn_toArray]
  refine wpAny_bind (ksk_fold (fun i s' => ∃ h' tk kA e, s' = { s with heap := h', toks := tk } ∧ Fr h₀ L h' m ∧ News h₀ L h' (news ++ [(kS, seqObj "list" kA e), (a, seqObj "list" #[] e1)]) ∧ IntsAre kA.toList (kz.take i)) vs 0 s
    ⟨s.heap, s.toks, #[], 0, rfl, F, N, by simpa using IntsAre.nil⟩ ?step ?done)
  case step =>
    rintro j x s' hx ⟨h', tk, kA, e, rfl, F', N', hk⟩
    simp only [Nat.zero_add] at hk ⊢
    have hj : j < vs.length := (List.getElem?_eq_some_iff.mp hx).1
    obtain ⟨k, hkj⟩ : ∃ k, kz[j]? = some k := ⟨_, List.getElem?_eq_getElem (by omega)⟩
    have hz : kA.size ≤ vs.length := by
      have h1 := hk.length
      rw [Array.length_toList, List.length_take] at h1
      omega
    refine wpAny_bind (wpAny_attempt (wpAny_mono (turn j x k hx hkj h' tk _ F' N') (fun v s'' he => ?_) fun _ _ hF => hF.elim))
    obtain ⟨g, tk2, t2, rfl, rfl, F2, N2⟩ := he
    try dsimp only
    have nk := N2 (kS, seqObj "list" kA e) (List.mem_append_right _ (.head _))
    have na := N2 (a, seqObj "list" #[] e1) (List.mem_append_right _ (.tail _ (.head _)))
    have s1 := Heap.SameBut.update g kS (Obj.mapSeq (·.push (.int k t2)))
    obtain ⟨c2, hc2⟩ : ∃ c2, (g.update kS (Obj.mapSeq (·.push (.int k t2)))).get? kS = some (seqObj "list" (kA.push (.int k t2)) c2) := ⟨_, get?_update_seq nk.1 (·.push (.int k t2))⟩
    have ek : kz.take (j + 1) = kz.take j ++ [k] := by rw [List.take_add_one, hkj]; simp
    have ea : (kA.push (Value.int k t2)).toList = kA.toList ++ [Value.int k t2] := by simp
    refine wpAny_bind (listUpdate_at nk.1 rfl ?_ (by rw [sizeLine_eq]; omega) (Nat.le_trans (Nat.le_of_eq (Array.size_push ..)) (by rw [sizeLine_eq]; omega)))
    refine wpAny_pure ⟨rfl, _, _, kA.push (.int k t2), c2, rfl, ksk_fr F2 s1 nk.2.1 nk.2.2, fun p hp => ?_, by rw [ea, ek]; exact ksk_snoc hk⟩
    rcases List.mem_append.mp hp with hp | hp
    · exact ksk_news (fun q hq => N2 q (List.mem_append_left _ hq)) s1 hnk p hp
    · rcases List.mem_cons.mp hp with rfl | hp
      · exact ⟨hc2, nk.2⟩
      · rw [List.mem_singleton.mp hp]
        exact ⟨(s1.2 a hka.symm).trans na.1, na.2⟩
  case done =>
    rintro s' ⟨h', tk, kA, e, rfl, F', N', hk⟩
    have hk' : IntsAre kA.toList kz := by
      have e3 : kz.take (0 + vs.length) = kz := List.take_of_length_le (by omega)
      rw [e3] at hk
      exact hk
    have nk := N' (kS, seqObj "list" kA e) (List.mem_append_right _ (.head _))
    try dsimp only
    refine wpAny_bind (listItems_at nk.1 rfl ?_)
    exact st_end F' N' hka hnk hna hk' hlen h64 fun h3 tk3 out c F3 N3 k3 => h h3 tk3 out c F3 N3 k3

theorem st_sort {f : Value} {n : Nat} (F : Fr h₀ L s.heap m) (N : News h₀ L s.heap news) (ho : s.heap.get? a = some (seqObj "list" vs.toArray n)) (haL : a ≠ L) (ha0 : h₀.get? a = none) (hna : ∀ p ∈ news, p.1 ≠ a)
    (hlen : kz.length = vs.length) (h64 : vs.length < 64)
    (turn : ∀ (i : Nat) (v : Value) (k : Int), vs[i]? = some v → kz[i]? = some k → ∀ (h : Heap) (tk : Nat) (own : List (Addr × Obj)), Fr h₀ L h m → News h₀ L h (news ++ own) →
      wpAny (model prog w) A (call f [v]) (KskEnd h₀ L m (news ++ own) k { s with heap := h, toks := tk }) (fun _ _ => False) { s with heap := h, toks := tk })
    (h : ∀ h' tk out c, Fr h₀ L h' m → News h₀ L h' ((a, seqObj "list" out c) :: news) → StOut kz vs out.toList → P (.done (.ret .none)) { s with heap := h', toks := tk }) :
    wpAny (model prog w) A (ksk_tree a f false) P E s := by
  have ha : a < s.heap.objs.size := Heap.lt_size ho
  have s1 := Heap.SameBut.update s.heap a (Obj.mapSeq fun _ => (#[] : Array Value))
  obtain ⟨e1, ho1⟩ : ∃ e1, (s.heap.update a (Obj.mapSeq fun _ => (#[] : Array Value))).get? a = some (seqObj "list" #[] e1) := ⟨_, get?_update_seq ho fun _ => #[]⟩
  have F1 := ksk_fr F s1 haL ha0
  have N1 := ksk_news N s1 hna
  have hkS : ((s.heap.update a (Obj.mapSeq fun _ => (#[] : Array Value))).push (seqObj "tuple" vs.toArray 0)).objs.size = s.heap.objs.size + 1 := by rw [size_push', Heap.size_update]
  have hLk : L < ((s.heap.update a (Obj.mapSeq fun _ => (#[] : Array Value))).push (seqObj "tuple" vs.toArray 0)).objs.size := (F1.push _).ns.lt
  unfold ksk_tree
  refine wpAny_bind (listItems_at ho rfl ?_)
  refine wpAny_bind (listUpdate_at ho rfl ?_ (by rw [List.size_toArray, sizeLine_eq]; omega) (Nat.zero_le _))
  refine wpAny_bind (seqEpoch_at ho1 rfl ?_)
  refine wpAny_bind (wpAny_newTuple ?_ (by show vs.length ≤ _; rw [sizeLine_eq]; omega))
  refine wpAny_bind (wpAny_newList ?_ (Nat.zero_le _))
  refine wpAny_holding ?_
  refine st_rest (s := { s with heap := ((s.heap.update a (Obj.mapSeq fun _ => (#[] : Array Value))).push (seqObj "tuple" vs.toArray 0)).push (seqObj "list" #[] 0) }) (kS := ((s.heap.update a (Obj.mapSeq fun _ => (#[] : Array Value))).push (seqObj "tuple" vs.toArray 0)).objs.size)
    ((F1.push _).push _) (fun p hp => ?_) (by rw [hkS]; exact Nat.ne_of_gt (Nat.lt_succ_of_lt ha)) (fun p hp => by rw [hkS]; exact Nat.ne_of_lt (Nat.lt_succ_of_lt (Heap.lt_size (N p hp).1))) hna hlen h64 turn h
  rcases List.mem_append.mp hp with hp | hp
  · exact ⟨Heap.get?_push_of_some _ (Heap.get?_push_of_some _ (N1 p hp).1), (N1 p hp).2⟩
  · rcases List.mem_cons.mp hp with rfl | hp
    · exact ⟨Heap.get?_push_size _ rfl, Nat.ne_of_gt hLk, Heap.get?_none_of_le (Nat.le_trans F.above (Nat.le_of_lt hLk))⟩
    · rw [List.mem_singleton.mp hp]
      exact ⟨Heap.get?_push_of_some _ (Heap.get?_push_of_some _ ho1), haL, ha0⟩
end

section
variable {prog : Program} {w : World} {A : Around} {E : Value → Shared → Prop} {s : Shared} {h₀ : Heap} {L l q : Addr} {m : PySem.Str → Option Value} {news : List (Addr × Obj)} {vs : List Value} {Q : Value → Shared → Prop}
/-- sorted(l, key=q) -/
theorem st_sorted {kz : List Int} (F : Fr h₀ L s.heap m) (N : News h₀ L s.heap news) (hl : s.heap.IsList l vs.toArray) (hlen : kz.length = vs.length) (h64 : vs.length < 64)
    (turn : ∀ (i : Nat) (v : Value) (k : Int), vs[i]? = some v → kz[i]? = some k → ∀ (h : Heap) (tk : Nat) (own : List (Addr × Obj)), Fr h₀ L h m → News h₀ L h (news ++ own) →
      wpAny (model prog w) A.in1.in1 (call (.ref q) [v]) (KskEnd h₀ L m (news ++ own) k { s with heap := h, toks := tk }) (fun _ _ => False) { s with heap := h, toks := tk })
    (h : ∀ D h' tk out c, Fr h₀ L h' m → News h₀ L h' ((D, seqObj "list" out c) :: news) → (∀ q ∈ news, q.1 < D) → StOut kz vs out.toList → Q (.ref D) { s with heap := h', toks := tk }) :
    wpAny (model prog w) A (call (.builtin "sorted") [.ref l] [(PySem.Str.ofString "key", .ref q)]) Q E s := by
  refine call_function_entry_kw kind_sorted plain_sorted entry_sorted (ksk_s1 _ _) ?_
  unfold Builtin.«sorted»
  refine wpAny_bind (m := checkCount "sorted" 1 1 _) (wpAny_pure ?_)
  refine wpAny_bind (collect_list hl ?_ (by rw [sizeLine_eq]; omega))
  refine wpAny_bind (wpAny_newList ?_ (by rw [sizeLine_eq]; omega))
  have hsz : ((s.heap.push (seqObj "list" #[] 0)).update s.heap.objs.size (Obj.mapSeq (· ++ vs.toArray))).objs.size = s.heap.objs.size + 1 := by
    rw [Heap.size_update, size_push']
  have hoL : (((s.heap.push (seqObj "list" #[] 0)).update s.heap.objs.size (Obj.mapSeq (· ++ vs.toArray))).push (seqObj "list" vs.toArray 0)).get? (s.heap.objs.size + 1) = some (seqObj "list" vs.toArray 0) := by
    rw [← hsz]; exact Heap.get?_push_size _ rfl
  have keep : ∀ b o, s.heap.get? b = some o → (((s.heap.push (seqObj "list" #[] 0)).update s.heap.objs.size (Obj.mapSeq (· ++ vs.toArray))).push (seqObj "list" vs.toArray 0)).get? b = some o := fun b o q => by
    have hlt : b < s.heap.objs.size := Heap.lt_size q
    rw [Heap.get?_push_ne _ _ _ (by rw [hsz]; exact Nat.ne_of_lt (Nat.lt_succ_of_lt hlt)), Heap.get?_update_ne _ _ _ _ (Nat.ne_of_lt hlt), Heap.get?_push_ne _ _ _ (Nat.ne_of_lt hlt)]
    exact q
  have hL : L < s.heap.objs.size := F.ns.lt
  show wpAny _ _ _ _ _ { s with heap := ((s.heap.push (seqObj "list" #[] 0)).update s.heap.objs.size (Obj.mapSeq (· ++ vs.toArray))).push (seqObj "list" vs.toArray 0) }
  rw [hsz]
  refine wpAny_bind (wpAny_holding (wpAny_call_entry_kw slot_list_sort ⟨_, hoL, rfl⟩ entry_list_sort ?body (ksk_l1 _ _)))
  case body =>
    have ht' := ksk_t1 q (s.heap.objs.size + 1)
    show wpAny (model prog w) A.in1.in1 (Builtin.«list.sort» ⟨[.ref (s.heap.objs.size + 1)], [(PySem.Str.ofString "key", .ref q)]⟩) _ _ _
    rw [ht']
    refine st_sort (s := { s with heap := ((s.heap.push (seqObj "list" #[] 0)).update s.heap.objs.size (Obj.mapSeq (· ++ vs.toArray))).push (seqObj "list" vs.toArray 0) })
      (F.kept keep) (N.grown keep) hoL (Nat.ne_of_gt (Nat.lt_succ_of_lt hL)) (Heap.get?_none_of_le (Nat.le_trans F.above (Nat.le_succ_of_le (Nat.le_of_lt hL))))
      (fun p hp => Nat.ne_of_lt (Nat.lt_succ_of_lt (Heap.lt_size (N p hp).1))) hlen h64 turn fun h' tk out c F' N' k' => ⟨_, rfl, ?_⟩
    exact wpAny_pure ⟨_, rfl, h _ h' tk out c F' N' (fun q hq => Nat.lt_succ_of_lt (Heap.lt_size (N q hq).1)) k'⟩
end
end Mine

end
section
open PySem PySem.W PyProof.Rows
set_option maxRecDepth 100000
set_option linter.unusedVariables false
namespace Mine

/-! ## what is told, as data -/
def toldD (l : Lim) : PyData := .tuple [.int l.1.sec, .str l.1.name, .int (l.2.1 : Nat), .int (l.2.2 : Nat), .str "LIMITER", .int (l.1.sec * (l.2.2 : Nat))]
def TupAt (h : Heap) (v : Value) (l : Lim) : Prop := ∃ t t0 t1 ta tn tk te, v = .ref t ∧ h.get? t = some (toldO l t0 t1 ta tn tk te)
inductive ToldAt (h : Heap) : List Value → List Lim → Prop
  | nil : ToldAt h [] []
  | cons {v l vs ls} : TupAt h v l → ToldAt h vs ls → ToldAt h (v :: vs) (l :: ls)
theorem TupV.at {h₀ h : Heap} {L : Addr} {own news : List (Addr × Obj)} {v : Value} {l : Lim} (N : News h₀ L h news) (hs : ∀ p ∈ own, p ∈ news) (i : TupV own v l) : TupAt h v l := by
  obtain ⟨t, t0, t1, ta, tn, tk, te, e, h1⟩ := i
  exact ⟨t, t0, t1, ta, tn, tk, te, e, (N _ (hs _ h1)).1⟩
theorem ToldIn.at {h₀ h : Heap} {L : Addr} {own news : List (Addr × Obj)} (N : News h₀ L h news) (hs : ∀ p ∈ own, p ∈ news) : ∀ {vs : List Value} {ls : List Lim}, ToldIn own vs ls → ToldAt h vs ls
  | _, _, .nil => .nil
  | _, _, .cons hv r => .cons (hv.at N hs) (r.at N hs)
theorem ToldAt.len {h : Heap} : ∀ {vs : List Value} {ls : List Lim}, ToldAt h vs ls → vs.length = ls.length
  | _, _, .nil => rfl
  | _, _, .cons _ r => by simp [r.len]
theorem ToldAt.get {h : Heap} : ∀ {vs : List Value} {ls : List Lim}, ToldAt h vs ls → ∀ {i : Nat} {l : Lim}, ls[i]? = some l → ∃ v, vs[i]? = some v ∧ TupAt h v l
  | _, _, .nil, i, l, e => by simp at e
  | _, _, .cons (v := v) (l := l') hx r, 0, l, e => by
    have : l' = l := by simpa using e
    subst this
    exact ⟨v, by simp, hx⟩
  | _, _, .cons hx r, i + 1, l, e => by
    obtain ⟨v, h1, h2⟩ := r.get (i := i) (l := l) (by simpa using e)
    exact ⟨v, by simpa using h1, h2⟩
theorem ToldAt.keeps {h h' : Heap} (k : ∀ b o, h.get? b = some o → h'.get? b = some o) : ∀ {vs : List Value} {ls : List Lim}, ToldAt h vs ls → ToldAt h' vs ls
  | _, _, .nil => .nil
  | _, _, .cons ⟨t, t0, t1, ta, tn, tk, te, e, h1⟩ r => .cons ⟨t, t0, t1, ta, tn, tk, te, e, k _ _ h1⟩ (r.keeps k)
theorem tup_reads {h : Heap} {v : Value} {l : Lim} (i : TupAt h v l) : ∃ as, Reads h v (toldD l) as := by
  obtain ⟨t, t0, t1, ta, tn, tk, te, rfl, h1⟩ := i
  exact ⟨_, reads_tuple_at h1 rfl rfl (.cons (.int _ _) (.cons (.str _ _) (.cons (.int _ _) (.cons (.int _ _) (.cons (.str _ _) (.cons (.int _ _) .nil))))))⟩
theorem told_reads {h : Heap} : ∀ {vs : List Value} {ls : List Lim}, ToldAt h vs ls → ∃ as, ReadsAll h vs (ls.map toldD) as
  | _, _, .nil => ⟨[], .nil⟩
  | _, _, .cons hx r => by
    obtain ⟨as, h1⟩ := tup_reads hx
    obtain ⟨bs, h2⟩ := told_reads r
    exact ⟨_, .cons h1 h2⟩
theorem told_list {h : Heap} {D : Addr} {vs : List Value} {ls : List Lim} (hl : h.IsList D vs.toArray) (i : ToldAt h vs ls) : ∃ as, Reads h (.ref D) (.list (ls.map toldD)) as := by
  obtain ⟨o, ho, hc, n, hd⟩ := hl
  obtain ⟨as, h1⟩ := told_reads i
  exact ⟨_, reads_list_at ho hc hd h1⟩
theorem gr_lay (g : Gr) : (PyData.str g.name).canLay0 = true := by cases g <;> decide +kernel
theorem lim_lay : (PyData.str "LIMITER").canLay0 = true := by decide +kernel
theorem tup_can (l : Lim) : (toldD l).canLay0 = true := by
  unfold toldD
  simp only [PyData.canLay0, PyData.canLayAll0, Bool.true_and, Bool.and_true]
  have h1 := gr_lay l.1
  have h2 := lim_lay
  simp only [PyData.canLay0] at h1 h2
  simp only [h1, h2, Bool.and_self]
theorem tup_depth (l : Lim) : (toldD l).depth = 1 := rfl
theorem told_can : ∀ ls : List Lim, PyData.canLayAll0 (ls.map toldD) = true
  | [] => rfl
  | l :: r => by
    have := told_can r
    simp only [List.map_cons, PyData.canLayAll0, tup_can, this, Bool.and_self]
theorem told_depth : ∀ ls : List Lim, PyData.depthAll (ls.map toldD) ≤ 1
  | [] => by simp [PyData.depthAll]
  | l :: r => by
    have := told_depth r
    simp only [List.map_cons, PyData.depthAll, tup_depth]
    omega
theorem told_shaped (ls : List Lim) : SeqAt.shaped (.list (ls.map toldD)) = true := by
  have := told_depth ls
  simp only [SeqAt.shaped, PyData.canLay0, PyData.depth, told_can, Bool.true_and]
  exact decide_eq_true (by omega)
theorem tup_shaped (l : Lim) : SeqAt.shaped (toldD l) = true := by
  simp only [SeqAt.shaped, tup_can, tup_depth, Bool.true_and]
  rfl
theorem tup_eqv (l l' : Lim) : PyData.eqv (toldD l) (toldD l') = decide (l.1.sec = l'.1.sec ∧ l.2 = l'.2) := by
  obtain ⟨g, a, n⟩ := l
  obtain ⟨g', a', n'⟩ := l'
  unfold toldD
  simp only [PyData.eqv, PyData.eqvAll]
  have hg := gr_same g g'
  rw [Bool.eq_iff_iff, decide_eq_true_eq]
  rw [Bool.eq_iff_iff, Bool.and_eq_true, beq_iff_eq, decide_eq_true_eq] at hg
  simp only [Bool.and_eq_true, beq_iff_eq, Prod.mk.injEq]
  constructor
  · rintro ⟨h1, h2, h3, h4, h5, h6⟩
    exact ⟨h1, by omega, by omega⟩
  · rintro ⟨h1, h2, h3⟩
    subst h2; subst h3
    exact ⟨h1, eq_of_beq (hg.mpr h1).2, by simp [h1]⟩

section
variable {prog : Program} {w : World} {A : Around} {E : Value → Shared → Prop} {s : Shared} {a b : Addr} {xs ys : List Value} {ls : List Lim} {Q : Value → Shared → Prop}
theorem told_ne (ha : s.heap.IsList a xs.toArray) (hb : s.heap.IsList b ys.toArray) (hi : ToldAt s.heap xs ls) (hj : ToldAt s.heap ys ls) (hu : A.units + 64 < cLine) (h : Q (.bool false) s) : wpAny (model prog w) A (compareOp .NotEq (.ref a) (.ref b)) Q E s := by
  obtain ⟨as, r1⟩ := told_list ha hi
  obtain ⟨bs, r2⟩ := told_list hb hj
  refine ne_dataH r1 r2 (told_shaped _) (told_shaped _) hu ?_
  rw [PySem.SeqAt.eqv_refl _ (SeqAt.canLay_of_shaped (told_shaped ls))]
  exact h
theorem told_eq (ha : s.heap.IsList a xs.toArray) (hb : s.heap.IsList b ys.toArray) (hi : ToldAt s.heap xs ls) (hj : ToldAt s.heap ys ls) (hu : A.units + 64 < cLine) (h : Q (.bool true) s) : wpAny (model prog w) A (compareOp .Eq (.ref a) (.ref b)) Q E s := by
  obtain ⟨as, r1⟩ := told_list ha hi
  obtain ⟨bs, r2⟩ := told_list hb hj
  refine eq_dataH r1 r2 (told_shaped _) (told_shaped _) hu ?_
  rw [PySem.SeqAt.eqv_refl _ (SeqAt.canLay_of_shaped (told_shaped ls))]
  exact h
theorem tup_eq {u v : Value} {l l' : Lim} (hi : TupAt s.heap u l) (hj : TupAt s.heap v l') (hu : A.units + 64 < cLine) (h : Q (.bool (decide (l.1.sec = l'.1.sec ∧ l.2 = l'.2))) s) : wpAny (model prog w) A (compareOp .Eq u v) Q E s := by
  obtain ⟨as, r1⟩ := tup_reads hi
  obtain ⟨bs, r2⟩ := tup_reads hj
  refine eq_dataH r1 r2 (tup_shaped _) (tup_shaped _) hu ?_
  rw [tup_eqv]
  exact h
end
end Mine

end
section
open PySem PySem.W PyProof.Rows
set_option maxRecDepth 100000
set_option linter.unusedVariables false
namespace Mine
section
variable {w : World} {p : Program} {loose : List PySem.Str} {mean : ExcName → Option Value} {mg mb : PySem.Str → Option Value} {A₀ : Around} {base h₀ : Heap} {hl : Option Value} {dp un : Nat} {gd : Option (List Code)} {outer : List Env} {env : Env} {L : Addr} {m : PySem.Str → Option Value} {news : List (Addr × Obj)} {s : Shared} {Q E : Value → Shared → Prop}
local macro_rules | `(tactic| walk_at "m room") => `(tactic| first | assumption | ((try simp only [depth_under_make, depth_under_kw, depth_in1, depth_deeper, depth_caller]); (try dsimp only [TopA]); omega))
local macro_rules | `(tactic| walk_at "m units") => `(tactic| first | assumption | ((try simp only [units_in1, units_deeper, Around.mark_units, units_caller]); (try dsimp only [TopA]); omega))
local macro_rules | `(tactic| walk_at "m prem") => `(tactic| ((case kB => k_asm); (case kF => k_asm); (case kX => k_asm); (case kN => k_asm); (case kT => k_asm); (case kf => exact rfl); (case kk => exact rfl); (case kd => walk_at "m room"); (case ku => walk_at "m units")))
local macro_rules | `(tactic| walk_at "m enterB") => `(tactic| (k_dflt (refine' enterW ?k1 ?k2 ?k3 ?k5 ?kA ?kF ?kK ?k6 ?k7 ?k8 ?k9 ?kB ?_ ?c2 ?c3 ?c4 ?c5; (case kA => exact rfl); (case kF => assumption); (case kK => assumption); (case k1 => k_asm); (case k2 => k_asm); (case k3 => k_asm); (case k5 => k_asm); (case k6 => k_is); (case k7 => k_is); (case k8 => walk_at "m room"); (case k9 => first | exact BindsTo.of_eq rfl | exact binds_K (by k_in) rfl (by k_is) rfl rfl rfl); (case c5 => decide); (case kB => exact locs rfl); (case c2 => exact rfl); (case c3 => exact rfl); (case c4 => exact rfl); k_whole; intro L' h' eL' F' N' B' X' T'; (try dsimp only); (try k_fold))))


local macro_rules | `(tactic| walk_at "call ref") => `(tactic| (k_here; k_dflt (show wpAny _ _ (call (Value.ref 411) [Value.str _ _]) _ _ _); k_dflt (refine' read_call ?kO ?kB ?kF ?kX ?kT ?kf ?kk ?kh ?kd ?ku ?r0 ?r1; (case kO => assumption); (case kB => k_asm); (case kF => k_asm); (case kX => k_asm); (case kT => k_asm); (case kf => exact rfl); (case kk => exact rfl); (case kh => assumption); (case kd => walk_at "m room"); (case ku => walk_at "m units"); (case r1 => (intro ls9 D9 outs9 own9 n9 h9 tk9 hm9; exact absurd ((by assumption : meant _ = none).symm.trans hm9) (by intro e; cases e)))); case' r0 => (intro hm9 h9 tk9 M9; (try dsimp only); (have F9 := Made.fr M9 (by k_asm)); (have N9 := Made.news M9 (by k_asm) (by k_asm)))))
local macro_rules | `(tactic| walk_at "call ref") => `(tactic| (k_here; k_dflt (show wpAny _ _ (call (Value.ref 360) [Value.str _ _]) _ _ _); k_dflt (refine' many_call ?kO ?kw ?kB ?kF ?kX ?kT ?kf ?kk ?kH ?kd ?ku ?kh ?ret ?exc; (case kO => assumption); (case kw => assumption); (case kB => k_asm); (case kF => k_asm); (case kX => k_asm); (case kT => k_asm); (case kf => exact rfl); (case kk => exact rfl); (case kH => exact HOk.keeps (by assumption) (Fr.keep (by k_asm))); (case kd => walk_at "m room"); (case ku => walk_at "m units"); (case kh => assumption); (case ret => (intro ls9 l9 vs9 n9 own9 h9 tk9 hm9; exact absurd ((by assumption : meant _ = none).symm.trans hm9) (by intro e; cases e))))))
local macro_rules | `(tactic| walk_at "call ref") => `(tactic| (k_here; k_dflt (show wpAny _ _ (call (Value.ref 423) [Value.str _ _]) _ _ _); refine hold ?_))

theorem KeptF.trans {g h h' : Heap} {l : List Env} (k : KeptF g l h) (k' : KeptF h l h') : KeptF g l h' := ⟨fun b o e hn => k'.1 b o (k.1 b o e hn) hn, k.2.trans k'.2⟩

set_option maxHeartbeats 2000000 in
theorem holds_no {x : PySem.Str} {tq : Tok} (O : OkT x) (hw : wtl x.cps.toList ≤ 40 ∨ acc x.cps 0 0 = true) (hm : meant x = none) (B : Below A₀ base outer h₀) (F : Fr h₀ L s.heap m) (X : (hd.heap_39 w.params).In h₀) (T : Top p loose mean mg mb h₀) (hf : env.frame = some L) (hke : env.scope.kind = .function) (hhl : hl = none) (TB : Top p loose mean mg mb base) (XB : (hd.heap_39 w.params).In base)
    (hdp : dp + 200 < recursionLimit) (hun : un + 500 < cLine)
    (hret : ∀ h' tk', KeptF s.heap (env :: outer) h' → Q (.bool true) { s with heap := h', toks := tk' }) :
    wpAny (model PySem.Challenge.rw_bn0039_01.row.prog w) (TopA hl dp un gd env outer) (call (.ref 428) [.str x tq]) Q E s := by
  have hh : ∀ ls, meant x = some ls → hl = none := fun ls e => by rw [hm] at e; cases e
  have H : HOk hl s.heap := .inl hhl
  revert X; k_fill; intro X
  refine wpAny_call (withB [(PySem.Str.ofString "text", .str x tq)] ?_)
  walk_at "m enterB"
  k_steps
  rename RaisedC _ _ _ _ _ _ _ => R
  refine caughtC (by assumption) (by assumption) R (topRead_of TB) XB (by k_is) ?_
  intro h6 g6 F6 K6 b6 z6 k6 e6
  have T6 := TB.keeps b6
  have X6 := XB.keeps b6
  k_steps
  have hc2 := (by assumption : hl = none → _ = Value.none) hhl
  unfold Hold
  refine' refused_call ?kO ?kw ?km ?kB ?kF ?kX ?kT ?kf ?kk ?kH ?kTB ?kXB ?kd ?ku ?ret
  case kO => assumption
  case kw => assumption
  case km => assumption
  case kB => exact K6
  case kF => exact F6
  case kX => exact X6
  case kT => exact T6
  case kf => exact rfl
  case kk => exact rfl
  case kH =>
    obtain ⟨o, vs, h1, h2, h3⟩ := e6
    exact .inr ⟨_, o, vs, rfl, h1, h2, by rw [h3, hc2]⟩
  case kTB => exact TB
  case kXB => exact XB
  case kd => walk_at "m room"
  case ku => walk_at "m units"
  case ret =>
    intro h7 tk7 k7
    k_steps
    exact hret _ _ (KeptF.under (by assumption) (k6.trans k7) rfl)
end
end Mine

end
section
open PySem PySem.W PyProof.Rows
set_option maxRecDepth 100000
set_option linter.unusedVariables false
namespace Mine
section
variable {w : World} {p : Program} {loose : List PySem.Str} {mean : ExcName → Option Value} {mg mb : PySem.Str → Option Value} {A₀ : Around} {base h₀ : Heap} {hl : Option Value} {dp un : Nat} {gd : Option (List Code)} {outer : List Env} {env : Env} {L : Addr} {m : PySem.Str → Option Value} {news : List (Addr × Obj)} {s : Shared} {Q E : Value → Shared → Prop}
local macro_rules | `(tactic| walk_at "m room") => `(tactic| first | assumption | ((try simp only [depth_under_make, depth_under_kw, depth_in1, depth_deeper, depth_caller]); (try dsimp only [TopA]); omega))
local macro_rules | `(tactic| walk_at "m units") => `(tactic| first | assumption | ((try simp only [units_in1, units_deeper, Around.mark_units, units_caller]); (try dsimp only [TopA]); omega))
local macro_rules | `(tactic| walk_at "m prem") => `(tactic| ((case kB => k_asm); (case kF => k_asm); (case kX => k_asm); (case kN => k_asm); (case kT => k_asm); (case kf => exact rfl); (case kk => exact rfl); (case kd => walk_at "m room"); (case ku => walk_at "m units")))
local macro_rules | `(tactic| walk_at "m enterB") => `(tactic| (k_dflt (refine' enterW ?k1 ?k2 ?k3 ?k5 ?kA ?kF ?kK ?k6 ?k7 ?k8 ?k9 ?kB ?_ ?c2 ?c3 ?c4 ?c5; (case kA => exact rfl); (case kF => assumption); (case kK => assumption); (case k1 => k_asm); (case k2 => k_asm); (case k3 => k_asm); (case k5 => k_asm); (case k6 => k_is); (case k7 => k_is); (case k8 => walk_at "m room"); (case k9 => first | exact BindsTo.of_eq rfl | exact binds_K (by k_in) rfl (by k_is) rfl rfl rfl); (case c5 => decide); (case kB => exact locs rfl); (case c2 => exact rfl); (case c3 => exact rfl); (case c4 => exact rfl); k_whole; intro L' h' eL' F' N' B' X' T'; (try dsimp only); (try k_fold))))


theorem gr_nf (g g' : Gr) : notFirst (KF w) g.cls (.ref g'.cls) = true := by cases g <;> cases g' <;> kernel_rfl
theorem gr_lt (g : Gr) : findIn (KF w) (.ref g.cls) (cmpInfo .Lt).2.1 = some (some (.ref 244)) := by cases g <;> kernel_rfl
theorem gr_eq (g : Gr) : findIn (KF w) (.ref g.cls) (cmpInfo .Eq).2.1 = some (some (.ref 230)) := by cases g <;> kernel_rfl
theorem gr_repr (g : Gr) : findIn (KF w) (.ref g.cls) "__repr__" = some (some (.ref 237)) := by cases g <;> kernel_rfl
theorem isFn_lt : isFn (KF w) (.ref 244) = true := by kernel_rfl
theorem isFn_eq : isFn (KF w) (.ref 230) = true := by kernel_rfl
theorem isFn_repr : isFn (KF w) (.ref 237) = true := by kernel_rfl
def limRepr (l : Lim) : PySem.Str := Str.ofString (toString ((l.2.1 : Nat) : Int)) ++ Str.ofString " per " ++ Str.ofString (toString ((l.2.2 : Nat) : Int)) ++ Str.ofString " " ++ l.1.name
theorem item_lt {x y : Addr} {g g' : Gr} {a n a' n' : Int} (i : Item s.heap x g a n) (i' : Item s.heap y g' a' n') (B : Below A₀ base outer h₀) (F : Fr h₀ L s.heap m) (X : (hd.heap_39 w.params).In h₀) (T : Top p loose mean mg mb h₀) (hf : env.frame = some L) (hke : env.scope.kind = .function)
    (hdp : dp + 20 < recursionLimit) (hun : un + 80 < cLine)
    (hret : ∀ h' tk', (∀ b o, s.heap.get? b = some o → h'.get? b = some o) → Q (.bool (decide (g.sec < g'.sec))) { s with heap := h', toks := tk' }) :
    wpAny (model PySem.Challenge.rw_bn0039_01.row.prog w) (TopA hl dp un gd env outer) (compareOp .Lt (.ref x) (.ref y)) Q E s := by
  have i0 := i
  have i0' := i'
  obtain ⟨dx, ta, tn, tk, h1, h2⟩ := i
  obtain ⟨dx', ta', tn', tk', h1', h2'⟩ := i'
  exact cmp_ofLt (cmp_K (by show un < cLine; omega) F X (item_inst h1 h2) (item_inst h1' h2').type (gr_nf g g') (gr_lt g) isFn_lt (lt_call i0 i0' B F X T hf hke hdp hun hret))
theorem item_eq {x y : Addr} {g g' : Gr} {a n a' n' : Int} (i : Item s.heap x g a n) (i' : Item s.heap y g' a' n') (B : Below A₀ base outer h₀) (F : Fr h₀ L s.heap m) (X : (hd.heap_39 w.params).In h₀) (T : Top p loose mean mg mb h₀) (hf : env.frame = some L) (hke : env.scope.kind = .function)
    (hdp : dp + 20 < recursionLimit) (hun : un + 80 < cLine)
    (hret : ∀ h' tk', (∀ b o, s.heap.get? b = some o → h'.get? b = some o) → Q (.bool (decide (a = a' ∧ g.sec = g'.sec ∧ n = n'))) { s with heap := h', toks := tk' }) :
    wpAny (model PySem.Challenge.rw_bn0039_01.row.prog w) (TopA hl dp un gd env outer) (compareOp .Eq (.ref x) (.ref y)) Q E s := by
  have i0 := i
  have i0' := i'
  obtain ⟨dx, ta, tn, tk, h1, h2⟩ := i
  obtain ⟨dx', ta', tn', tk', h1', h2'⟩ := i'
  exact cmp_ofEq (cmp_K (by show un < cLine; omega) F X (item_inst h1 h2) (item_inst h1' h2').type (gr_nf g g') (gr_eq g) isFn_eq (eq_call i0 i0' B F X T hf hke hdp hun hret))
theorem item_repr {x : Addr} {l : Lim} (i : Item s.heap x l.1 (l.2.1 : Nat) (l.2.2 : Nat)) (ha : l.2.1 < 10 ^ 200) (hn : l.2.2 < 10 ^ 200) (B : Below A₀ base outer h₀) (F : Fr h₀ L s.heap m) (X : (hd.heap_39 w.params).In h₀) (T : Top p loose mean mg mb h₀) (hf : env.frame = some L) (hke : env.scope.kind = .function)
    (hdp : dp + 20 < recursionLimit) (hun : un + 100 < cLine)
    (hret : ∀ t h' tk', (∀ b o, s.heap.get? b = some o → h'.get? b = some o) → Q (.str (limRepr l) t) { s with heap := h', toks := tk' }) :
    wpAny (model PySem.Challenge.rw_bn0039_01.row.prog w) (TopA hl dp un gd env outer) (call (.builtin "repr") [.ref x]) Q E s := by
  have i0 := i
  obtain ⟨dx, ta, tn, tk, h1, h2⟩ := i
  exact repr_K (by show un + 1 < cLine; omega) F X (item_inst h1 h2) (gr_repr l.1) isFn_repr (repr_call (un := un + 1) i0 (Int.natCast_nonneg _) (by exact_mod_cast ha) (Int.natCast_nonneg _) (by exact_mod_cast hn) B F X T hf hke hdp (by omega) fun t h' tk' k => hret t h' tk' k)
end
end Mine

end
section
open PySem PySem.W PyProof.Rows
set_option maxRecDepth 100000
set_option linter.unusedVariables false
namespace Mine

theorem StL.insert {ks : List Int} {i j : Nat} {gs : List Nat} (h : StL ks i gs) (hj : j ≤ i) (hgt : ∀ k, j ≤ k → k < i → ks.getD i 0 < ks.getD (gs.getD k 0) 0) (hle : j = 0 ∨ ¬ ks.getD i 0 < ks.getD (gs.getD (j - 1) 0) 0) :
    StL ks (i + 1) (gs.take j ++ i :: gs.drop j) := by
  have hl := h.len
  have hp : gs.take j ++ gs.drop j = gs := List.take_append_drop j gs
  refine ⟨fun x hx => ?_, ?_, ?_⟩
  · rw [List.mem_append, List.mem_cons] at hx
    rcases hx with hx | rfl | hx
    · have := h.lt x (List.mem_of_mem_take hx); omega
    · omega
    · have := h.lt x (List.mem_of_mem_drop hx); omega
  · rw [List.length_append, List.length_cons, List.length_take, List.length_drop]; omega
  · have ho := h.ord
    rw [← hp, List.pairwise_append] at ho
    obtain ⟨h1, h2, h3⟩ := ho
    rw [List.pairwise_append, List.pairwise_cons]
    refine ⟨h1, ⟨fun q hq => .inl ?_, h2⟩, fun p hpp q hq => ?_⟩
    · obtain ⟨k, hk, rfl⟩ := List.mem_iff_getElem.mp hq
      rw [List.length_drop] at hk
      have := hgt (j + k) (by omega) (by omega)
      rw [List.getD_eq_getElem?_getD (l := gs), List.getElem?_eq_getElem (by omega)] at this
      rw [List.getElem_drop]
      exact this
    · rw [List.mem_cons] at hq
      rcases hq with rfl | hq
      · obtain ⟨k, hk, rfl⟩ := List.mem_iff_getElem.mp hpp
        rw [List.length_take] at hk
        rw [List.getElem_take]
        have hlt := h.lt gs[k] (List.getElem_mem _)
        rcases hle with rfl | hle
        · omega
        · rw [List.getD_eq_getElem?_getD (l := gs), List.getElem?_eq_getElem (by omega)] at hle
          have hle : ¬ ks.getD q 0 < ks.getD gs[j - 1] 0 := hle
          rcases Nat.lt_or_ge k (j - 1) with hkj | hkj
          · have := (List.pairwise_iff_getElem.mp h.ord) k (j - 1) (by omega) (by omega) hkj
            omega
          · have : k = j - 1 := by omega
            subst this
            omega
      · exact h3 p hpp q hq
theorem StL.nil {ks : List Int} : StL ks 0 [] := ⟨(fun x hx => nomatch hx), rfl, List.Pairwise.nil⟩

section
variable {prog : Program} {w : World} {A : Around} {E : Value → Shared → Prop} {s : Shared} {h₀ : Heap} {L D : Addr} {m : PySem.Str → Option Value} {news : List (Addr × Obj)} {n : Nat}
theorem insert_any {its : List Value} {k : Nat} {x : Int} {u : Tok} {y : Value} {Q : Value → Shared → Prop} (F : Fr h₀ L s.heap m) (N : News h₀ L s.heap news) (hD : (D, PySem.W.listOf its.toArray n) ∈ news) (hsz : its.length ≤ 1000) (hk : k ≤ its.length) (hx : x = ((k : Nat) : Int))
    (h : ∀ h', Fr h₀ L h' m → (∀ p ∈ news, p.1 ≠ D → h'.get? p.1 = some p.2) → (∃ n', h'.get? D = some (PySem.W.listOf (its.take k ++ y :: its.drop k).toArray n')) → Q .none { s with heap := h' }) :
    wpAny (model prog w) A (call (.builtin "list.insert") [.ref D, .int x u, y]) Q E s := by
  have h1000 : (1000 : Nat) ≤ sizeLine := by decide
  have z := N _ hD
  have hf : Builtin.List.listFitsIndex x = true := by
    subst hx
    unfold Builtin.List.listFitsIndex
    simp only [Bool.and_eq_true, decide_eq_true_eq]
    constructor <;> omega
  refine call_meets PySem.F.slot_list_insert ⟨_, z.1, rfl⟩ PySem.F.entry_list_insert (PySem.F.args_list_insert_3 _ _ _) (PySem.AutoSeq1.list_insert_list_int_val_1 D _ n x u y (by simp [hf]) (by rw [List.size_toArray]; omega)) ⟨z.1, h _ (F.change (Heap.SameBut.update ..) z.2.1 z.2.2) (fun p hp hne => ((Heap.SameBut.update ..).2 _ hne).trans (N p hp).1) ?_⟩
  have q := PySem.IsL.update z.1 (fun xs : Array Value => have k' := if x < 0 then (x + (xs.size : Int)).toNat else min x.toNat xs.size; (xs.extract 0 k').push y ++ xs.extract k')
  have e : (have k' := if x < 0 then (x + (its.toArray.size : Int)).toNat else min x.toNat its.toArray.size; (its.toArray.extract 0 k').push y ++ its.toArray.extract k') = (its.take k ++ y :: its.drop k).toArray := by
    subst hx
    dsimp only
    rw [if_neg (by omega), List.size_toArray, Int.toNat_natCast, Nat.min_eq_left hk]
    apply Array.toList_inj.mp
    simp
    exact List.take_of_length_le (by simp)
  dsimp only at q e
  rw [e] at q
  exact ⟨_, q⟩
end
end Mine

end
section
open PySem PySem.W PyProof.Rows
set_option maxRecDepth 100000
set_option linter.unusedVariables false
namespace Mine

/-- the frame's names that the loops keep -/
structure HdM (D1 O : Addr) (m₁ : PySem.Str → Option Value) : Prop where
  h0 : m₁ (Str.ofString "rows") = some (.ref D1)
  h1 : m₁ (Str.ofString "order") = some (.ref O)
def hdF (D1 O : Addr) (m₁ : PySem.Str → Option Value) : PySem.Str → Option Value := fun y => if y = Str.ofString "rows" then some (.ref D1) else if y = Str.ofString "order" then some (.ref O) else m₁ y
theorem HdM.eq {D1 O : Addr} {m₁ : PySem.Str → Option Value} (h : HdM D1 O m₁) : m₁ = hdF D1 O m₁ := by
  funext y
  unfold hdF
  repeat' split
  all_goals first | rfl | (rename_i e; rw [e]; first | exact h.h0 | exact h.h1)
def ordO (vs : List Value) (gs : List Nat) (n : Nat) : Obj := PySem.W.listOf (gs.map fun i => vs.getD i .none).toArray n
def InsNext (h₁ : Heap) (L : Addr) (s s₃ : Shared) (it O D1 : Addr) (o : Obj) (vs : List Value) (ks : List Int) (i : Nat) (rest : List (Addr × Obj)) : Prop :=
  ∃ gs n h'' tk'', ∃ (m₂ : PySem.Str → Option Value), s₃ = { s with heap := h'', toks := tk'' } ∧ StL ks (i + 1) gs ∧ HdM D1 O m₂ ∧ Fr h₁ L h'' m₂ ∧ News h₁ L h'' ((it, o) :: (O, ordO vs gs n) :: rest)
theorem insert_fr {prog : Program} {w : World} {A : Around} {s : Shared} {L : Addr} {m : PySem.Str → Option Value} {env : Env} {R : Result → Shared → Prop} {x : PySem.Str} {xp : Pos} {body : List Stmt} {it G O D1 : Addr} {h₁ : Heap} {vs : List Value} {ks : List Int} {n0 n1 : Nat} {rest : List (Addr × Obj)}
    (F : Fr h₁ L s.heap m) (N : News h₁ L s.heap ((it, listIterO G 0) :: (O, PySem.W.listOf #[] n1) :: rest)) (hG : (G, PySem.W.listOf vs.toArray n0) ∈ rest) (hap : ∀ p ∈ rest, p.1 ≠ it ∧ p.1 ≠ O) (hm : HdM D1 O m)
    (step : ∀ i v gs n h' tk' (m₁ : PySem.Str → Option Value) (o : Obj), vs[i]? = some v → i < vs.length → StL ks i gs → o.cls = .type "list_iterator" → Fr h₁ L h' (hdF D1 O m₁) → News h₁ L h' ((it, o) :: (O, ordO vs gs n) :: rest) →
      wpAny (model prog w) A (assign (.Name x xp) env v) (fun _ s₂ => wpAny (model prog w) A (execs body env) (fun f s₃ => match f with
        | .next => Hold (InsNext h₁ L s s₃ it O D1 o vs ks i rest)
        | .ret v => R (.ok (.ret v)) s₃ | _ => False) (notedBy (model prog w) A env fun e s' => R (.error e) s') s₂) (notedBy (model prog w) A env fun e s' => R (.error e) s') { s with heap := h', toks := tk' })
    (stop : ∀ gs n tk' (m₁ : PySem.Str → Option Value), StL ks vs.length gs → A.handled = none ∧ (∀ h'', Fr h₁ L h'' (hdF D1 O m₁) → News h₁ L h'' ((O, ordO vs gs n) :: rest) → R (.ok .next) { s with heap := h'', toks := tk' })) :
    codeAny (model prog w) A (.forLoop (.Name x xp) (.ref it) body [] env) R s := by
  have apart : ∀ {h' : Heap} {o : Obj} {gs : List Nat} {n : Nat}, o.cls = .type "list_iterator" → News h₁ L h' ((it, o) :: (O, ordO vs gs n) :: rest) → ∀ p ∈ (O, ordO vs gs n) :: rest, p.1 ≠ it := fun {h' o gs n} hoc N' p hp => by
    rcases List.mem_cons.mp hp with rfl | hp
    · refine ne_cls (N' _ (.tail _ (.head _))).1 (N' _ (.head _)).1 ?_
      rw [hoc]
      show Value.type "list" ≠ _; decide
    · exact (hap p hp).1
  refine list_loop (l := G) (items := vs.toArray) (fun i s' => ∃ gs n h' tk', ∃ (m₁ : PySem.Str → Option Value) (o : Obj), s' = { s with heap := h', toks := tk' } ∧ i ≤ vs.length ∧ StL ks i gs ∧
      o.cls = .type "list_iterator" ∧ o.data = .fields #[.ref G, .int (i : Nat) 0] ∧ HdM D1 O m₁ ∧ Fr h₁ L h' m₁ ∧ News h₁ L h' ((it, o) :: (O, ordO vs gs n) :: rest)) ?_ ?_ ?_ ?_
  · rintro i s' ⟨gs, n, h', tk', m₁, o, rfl, hi, hS, hoc, hod, hM, F', N'⟩
    exact ⟨by simpa using hi, ⟨o, (N' _ (.head _)).1, hoc, hod⟩, News.isList N' (.tail _ (.tail _ hG))⟩
  · rintro i v s' h'' hg ⟨gs, n, h', tk', m₁, o, rfl, hi, hS, hoc, hod, hM, F', N'⟩ hit hs
    have hg' : vs[i]? = some v := by simpa using hg
    have hlt : i < vs.length := (List.getElem?_eq_some_iff.mp hg').1
    obtain ⟨o2, ho2, hc2, hd2⟩ := hit
    have nit := apart hoc N'
    have F'' : Fr h₁ L h'' m₁ := F'.change hs (N' _ (.head _)).2.1 (N' _ (.head _)).2.2
    have N'' := N'.setHead nit hs ho2
    rw [hM.eq] at F''
    refine wpAny_mono (step i v gs n h'' tk' m₁ o2 hg' hlt hS hc2 F'' N'') (fun _ s₂ h₂ => wpAny_mono h₂ (fun f s₃ h₃ => ?_) fun _ _ q => q) fun _ _ q => q
    cases f with
    | next =>
      obtain ⟨gs', n', h3, tk3, m₂, rfl, hS3, hM3, F3, N3⟩ := h₃
      exact ⟨gs', n', h3, tk3, m₂, o2, rfl, hlt, hS3, hc2, hd2, hM3, F3, N3⟩
    | ret v => exact h₃
    | brk => exact h₃.elim
    | cont => exact h₃.elim
  · rintro s' ⟨gs, n, h', tk', m₁, o, rfl, hi, hS, hoc, hod, hM, F', N'⟩
    rw [List.size_toArray] at hS
    have nit := apart hoc N'
    obtain ⟨hh, hst⟩ := stop gs n tk' m₁ hS
    refine ⟨hh, fun h'' he => ?_⟩
    rw [hM.eq] at F'
    have hitN := N' (it, o) (.head _)
    refine hst h'' ⟨F'.ns.extBut he (Ne.symm hitN.2.1), fun b ob hb => he b ob (fun q => by subst q; rw [show h₁.get? b = none from hitN.2.2] at hb; cases hb) (F'.keep b ob hb), F'.above⟩ fun p hp => ?_
    have hp' := N' p (.tail _ hp)
    exact ⟨he _ _ (nit p hp) hp'.1, hp'.2⟩
  · refine ⟨[], n1, s.heap, s.toks, m, listIterO G 0, rfl, Nat.zero_le _, StL.nil, rfl, rfl, hm, F, N⟩
end Mine

end
section
open PySem PySem.W PyProof.Rows
set_option maxRecDepth 100000
set_option linter.unusedVariables false
namespace Mine

/-! ## the table of _law_holds's code: it takes the lambda's code at the first call -/
def lamQual : PySem.Str := Str.ofString "_law_holds.<locals>.<lambda>"
def TabSt (base h : Heap) : Prop := h.get? 425 = some (tabObj #[]) ∨ ∃ c' oc vs t, h.get? 425 = some (tabObj #[rawInt 305, rawInt 28, .ref c']) ∧ h.get? c' = some oc ∧ oc.data = .fields vs ∧ vs[1]? = some (.str lamQual t) ∧ base.get? c' = none
theorem TabSt.at {base h : Heap} (t : TabSt base h) : ∃ ps, h.get? 425 = some (tabObj ps) := by
  rcases t with t | ⟨c', oc, vs, tq, t, _⟩ <;> exact ⟨_, t⟩
section
variable {A : Around} {base g h : Heap} {L P : Addr} {m : PySem.Str → Option Value} {l : List Env} {ps : Array Value}
theorem hide_one {b : Addr} {o : Obj} (e : g.get? b = some o) (hb : b ≠ P) : (hideAll g [P]).get? b = some o := hideAll_get _ e (fun hm => by rcases List.mem_singleton.mp hm with rfl; exact hb rfl)
theorem hide_frames (hP : g.get? P = some (tabObj ps)) : ∀ {l : List Env}, g.FunFrames base l → (hideAll g [P]).FunFrames base l
  | [], _ => trivial
  | env :: _, ⟨hk, ⟨L, o, hf, hn, ho, hd⟩, hr⟩ => ⟨hk, ⟨L, o, hf, hn, hide_one ho (fun e => by rw [e, hP] at ho; cases ho; exact hd _ rfl), hd⟩, hide_frames hP hr⟩
theorem hide_ground (hP : g.get? P = some (tabObj ps)) (hbP : base.get? P = none) (F : Fr g L h m) (B : Below A base l g) :
    Fr (hideAll g [P]) L h m ∧ News (hideAll g [P]) L h [(P, tabObj ps)] ∧ Below A base l (hideAll g [P]) ∧ base.StaysIn (hideAll g [P]) := by
  have st : base.StaysIn (hideAll g [P]) := fun b o e => hide_one (B.stays b o e) (fun q => by rw [q, hbP] at e; cases e)
  refine ⟨⟨F.ns, fun b o e => F.keep b o (of_hideAll _ e), Nat.le_trans (Nat.le_of_eq (hideAll_size _ _)) F.above⟩, fun p hp => ?_, ⟨B.stack, st, hide_frames hP B.frames⟩, st⟩
  rcases List.mem_singleton.mp hp with rfl
  exact ⟨F.keep _ _ hP, Nat.ne_of_lt (Nat.lt_of_lt_of_le (Heap.lt_size hP) F.above), hideAll_none _ (.head _)⟩
end
end Mine

end
section
open PySem PySem.W PyProof.Rows
set_option maxRecDepth 100000
set_option linter.unusedVariables false
namespace Mine

open PySem.Calls PySem.Spec
structure TabC (base g : Heap) (c' : Addr) (oc : Obj) : Prop where
  code : ∃ vs t, oc.data = .fields vs ∧ vs[1]? = some (.str lamQual t)
  new : base.get? c' = none
def TabIn (base g : Heap) (ns : List (Addr × Obj)) (c' : Addr) : Prop := (425, tabObj #[rawInt 305, rawInt 28, .ref c']) ∈ ns ∧ ∃ oc, ((c', oc) ∈ ns ∨ g.get? c' = some oc) ∧ TabC base g c' oc
def TabPs (base g : Heap) (ps : Array Value) : Prop := ps = #[] ∨ ∃ c' oc, ps = #[rawInt 305, rawInt 28, .ref c'] ∧ g.get? c' = some oc ∧ TabC base g c' oc
theorem tab_ps {base h : Heap} {ps : Array Value} (t : TabSt base h) (hps : h.get? 425 = some (tabObj ps)) : TabPs base (hideAll h [425]) ps := by
  rcases t with t | ⟨c', oc, vs, tq, t, h1, h2, h3, h4⟩
  · rw [hps] at t
    left
    injection t with t
    injection t with _ _ t
    injection t
  · rw [hps] at t
    right
    refine ⟨c', oc, ?_, hide_one h1 fun e => ?_, ⟨vs, tq, h2, h3⟩, h4⟩
    · injection t with t
      injection t with _ _ t
      injection t
    · subst e
      rw [hps] at h1
      cases h1
      cases h2
      injection t with t
      injection t with _ _ t
      injection t with t
      rw [t] at h3
      cases h3
theorem TabIn.here {base g h : Heap} {L c' : Addr} {m : PySem.Str → Option Value} {ns : List (Addr × Obj)} (t : TabIn base g ns c') (F : Fr g L h m) (N : News g L h ns) : TabSt base h ∧ h.CodeRec (.ref c') lamQual := by
  obtain ⟨h1, oc, h2, ⟨vs, tq, h3, h4⟩, h5⟩ := t
  have h6 : h.get? c' = some oc := by
    rcases h2 with h2 | h2
    · exact (N _ h2).1
    · exact F.keep _ _ h2
  exact ⟨.inr ⟨c', oc, vs, tq, (N _ h1).1, h6, h3, h4, h5⟩, c', oc, vs, tq, rfl, h6, h3, h4⟩
theorem TabIn.mono {base g : Heap} {c' : Addr} {ns ns' : List (Addr × Obj)} (t : TabIn base g ns c') (k : ∀ p ∈ ns, p ∈ ns') : TabIn base g ns' c' := by
  obtain ⟨h1, oc, h2, h3⟩ := t
  exact ⟨k _ h1, oc, h2.imp (fun h => k _ h) id, h3⟩

section
variable {M : Model} {A : Around} {E : Value → Shared → Prop} {s : Shared} {g base : Heap} {L a : Addr} {m mg mb : PySem.Str → Option Value} {cn : PySem.Str} {cs : Scope} {cl : List (PySem.Str × Addr)} {news : List (Addr × Obj)}
  {p : Program} {loose : List PySem.Str} {mean : ExcName → Option Value} {name qual : PySem.Str} {params : Arguments} {body : PySem.Expr} {scope : Scope} {ps : Array Value} {pos : Pos} {firstLine : Nat} {clos : List (PySem.Str × Addr)}
theorem lam_made {Q : Value → Shared → Prop} (F : Fr g L s.heap m) (N : News g L s.heap news) (T : Top p loose mean mg mb g) (C : CodeHd g 427 425) (hcl : closureFor scope (envX cn cs L a (.ref 427) cl) = pure clos) (hq : qual = lamQual) (hl : pos.line = 305) (hc : pos.col = 28)
    (hps : (425, tabObj ps) ∈ news) (ht : TabPs base g ps) (hbg : base.StaysIn g)
    (h : ∀ f ctv c' ns h' tk, Fr g L h' m → News g L h' ((f, kla_obj name qual params body scope clos ((mg "__name__").getD .none) c' ctv) :: ns) → (∀ p ∈ news, p.2.cls ≠ .none → p ∈ ns) → TabIn base g ns c' → Q (.ref f) { s with heap := h', toks := tk }) :
    wpAny M A (makeFunction name qual params (.expr body) scope (envX cn cs L a (.ref 427) cl) [] [] [] pos firstLine) Q E s := by
  rcases ht with rfl | ⟨c', oc, rfl, h1, h2⟩
  · have N0 : News g L s.heap ((425, tabObj #[]) :: news.filter fun p => p.1 != 425) := fun p hp => by
      rcases List.mem_cons.mp hp with rfl | hp
      · exact N _ hps
      · exact N _ (List.mem_filter.mp hp).1
    refine kla_nest F N0 T C rfl (.head fun p hp => by simpa using (List.mem_filter.mp hp).2) True.intro rfl hcl fun f c' oc vs t ctv h' tk F' N' d1 d2 l1 l2 => ?_
    refine h f ctv c' _ h' tk F' N' (fun p hp hn => ?_) ⟨?_, oc, .inl (.head _), ⟨vs, t, d1, hq ▸ d2⟩, ?_⟩
    · refine .tail _ (.tail _ (List.mem_filter.mpr ⟨hp, ?_⟩))
      rw [bne_iff_ne]
      intro e
      have q1 := (N _ hp).1
      rw [e, (N _ hps).1] at q1
      exact hn (by rw [← Option.some.inj q1])
    · rw [hl, hc]
      exact .tail _ (.head _)
    · have q := (N' (c', oc) (.tail _ (.head _))).2.2
      cases hb : base.get? c' with
      | none => rfl
      | some o =>
        have q : g.get? c' = none := q
        rw [hbg _ _ hb] at q; cases q
  · refine kla_hit (c' := c') F N T C rfl hps (by simp [TriplesOk, rawInt]) (by simp [codeAmong, rawInt, hl, hc]) hcl fun f ctv h' tk F' N' l1 => ?_
    exact h f ctv c' _ h' tk F' N' (fun p hp _ => hp) ⟨hps, oc, .inr h1, h2⟩
end
end Mine

end
section
open PySem PySem.W PyProof.Rows
set_option maxRecDepth 100000
set_option linter.unusedVariables false
namespace Mine
section
variable {w : World} {p : Program} {loose : List PySem.Str} {mean : ExcName → Option Value} {mg mb : PySem.Str → Option Value} {A₀ : Around} {base h₀ : Heap} {hl : Option Value} {dp un : Nat} {gd : Option (List Code)} {outer : List Env} {env : Env} {L : Addr} {m : PySem.Str → Option Value} {news : List (Addr × Obj)} {s : Shared} {Q E : Value → Shared → Prop}



theorem isL {h₁ h : Heap} {L a : Addr} {ns : List (Addr × Obj)} {its : Array Value} {n : Nat} (N : News h₁ L h ns) (hm : (a, PySem.W.listOf its n) ∈ ns) : h.IsList a its := News.isList N hm
theorem told_one {own : List (Addr × Obj)} {outs : List Value} {l : Lim} {r : List Lim} (h : ToldIn own outs (l :: r)) : ∃ v vs, outs = v :: vs ∧ TupV own v l := by
  cases h with
  | cons hv hr => exact ⟨_, _, rfl, hv⟩
section
variable {prog : Program} {A : Around} {l : Addr}
theorem slice_one {value slice : PySem.Expr} {v1 : Value} {r1 : List Value} {vl vu : Value} {Q : Value → Shared → Prop}
    (F : Fr h₀ L s.heap m) (N : News h₀ L s.heap news) (hl : s.heap.IsList l (v1 :: r1).toArray) (pl : IsPart vl none) (pu : IsPart vu (some 1))
    (h : ∀ D h', Fr h₀ L h' m → News h₀ L h' ((D, PySem.W.listOf [v1].toArray 0) :: news) → Q (.ref D) { s with heap := h' })
    (hs : subscripted slice false (.ref l) (.ref s.heap.objs.size) = operate [.ref s.heap.objs.size, .ref l] (getItem (.ref l) (.ref s.heap.objs.size)))
    (ht : ∀ r, letTemporaryGo value (.ref l) r = pure ()) (hz : (v1 :: r1).length ≤ 1000) :
    wpAny (model prog w) A (subscriptTail value slice (.ref l) (.ref s.heap.objs.size)) Q E { s with heap := s.heap.push { cls := .type "slice", data := .fields #[vl, vu, .none] } } := by
  have h1000 : (1000 : Nat) ≤ sizeLine := by decide
  refine PyProof.Rows.slice_list F N hl pl pu (fun h' F' N' => h _ h' F' ?_) hs ht (by rw [List.size_toArray]; omega)
  have e : slicePick (v1 :: r1).toArray none (some 1) none = [v1].toArray := by
    rw [show (1 : Int) = ((1 : Nat) : Int) from rfl, slicePick_upto _ _ (by simp)]
    simp
  rw [e] at N'
  exact N'
end

section
variable {prog : Program} {A : Around}
theorem clear_any {D : Addr} {its : List Value} {n : Nat} {Q : Value → Shared → Prop} (F : Fr h₀ L s.heap m) (N : News h₀ L s.heap news) (hD : (D, PySem.W.listOf its.toArray n) ∈ news) (hsz : its.length ≤ 1000)
    (h : ∀ h', Fr h₀ L h' m → (∀ p ∈ news, p.1 ≠ D → h'.get? p.1 = some p.2) → Q .none { s with heap := h' }) :
    wpAny (model prog w) A (call (.builtin "list.clear") [.ref D]) Q E s := by
  have h1000 : (1000 : Nat) ≤ sizeLine := by decide
  have z := N _ hD
  refine call_meets PySem.F.slot_list_clear ⟨_, z.1, rfl⟩ PySem.F.entry_list_clear (PySem.F.args_list_clear_1 _) (PySem.AutoSeq1.list_clear_list_0 D _ n (by rw [List.size_toArray]; omega)) ⟨z.1, h _ (F.change (Heap.SameBut.update ..) z.2.1 z.2.2) fun p hp hne => ?_⟩
  exact ((Heap.SameBut.update ..).2 _ hne).trans (N p hp).1
end

theorem news_cut {h₁ h h' : Heap} {L : Addr} {ns news : List (Addr × Obj)} (N : News h₁ L h news) (k : ∀ p ∈ ns, p ∈ news ∧ h'.get? p.1 = some p.2) : News h₁ L h' ns := fun p hp => ⟨(k p hp).2, (N p (k p hp).1).2⟩
theorem tab_in {h₁ h : Heap} {L D1 : Addr} {o1 : Obj} {own1 : List (Addr × Obj)} {outs1 : List Value} {ls : List Lim} {ps : Array Value} (N : News h₁ L h ((D1, o1) :: own1 ++ [(425, tabObj ps)])) (T : ToldIn own1 outs1 ls) (U : ∀ p ∈ own1, IsTupO p.2) :
    ∃ ow, News h₁ L h ((D1, o1) :: ow) ∧ ToldIn ow outs1 ls ∧ (425, tabObj ps) ∈ ow ∧ (∀ p ∈ ow, p.2.cls ≠ .type "list_iterator") ∧ ∀ p ∈ own1, p ∈ ow := by
  rw [List.cons_append] at N
  refine ⟨own1 ++ [(425, tabObj ps)], N, T.mono fun p hp => List.mem_append_left _ hp, by simp, fun p hp => ?_, fun p hp => List.mem_append_left _ hp⟩
  rcases List.mem_append.mp hp with hp | hp
  · obtain ⟨its, k, e⟩ := U p hp
    rw [e]; show Value.type "tuple" ≠ _; decide
  · rcases List.mem_singleton.mp hp with rfl
    show Value.none ≠ _
    intro e; cases e
theorem told_get {own : List (Addr × Obj)} : ∀ {outs : List Value} {ls : List Lim}, ToldIn own outs ls → ∀ {i : Nat} {v : Value}, outs[i]? = some v → ∃ t l, ls[i]? = some l ∧ v = .ref t ∧ ∃ t0 t1 ta tn tk te, (t, toldO l t0 t1 ta tn tk te) ∈ own
  | _, _, .nil, i, v, e => by simp at e
  | _, _, .cons (l := l) ⟨t, t0, t1, ta, tn, tk, te, e1, h1⟩ r, 0, v, e => ⟨t, l, by simp, by simpa [e1] using e.symm, t0, t1, ta, tn, tk, te, h1⟩
  | _, _, .cons hx r, i + 1, v, e => by
    obtain ⟨t, l, h1, h2⟩ := told_get r (i := i) (v := v) (by simpa using e)
    exact ⟨t, l, by simpa using h1, h2⟩
theorem isI_none {o : Obj} (h : IsI o) : o.cls ≠ .none := by
  rcases h with ⟨g, dx, a, n, ta, tn, tk, rfl⟩ | rfl <;> (intro e; cases e)
theorem ItemsAt.of_get {h : Heap} : ∀ {vs : List Value} {ls : List Lim}, vs.length = ls.length → (∀ (i : Nat) (v : Value) (l : Lim), vs[i]? = some v → ls[i]? = some l → ∃ x, v = .ref x ∧ Item h x l.1 (l.2.1 : Nat) (l.2.2 : Nat)) → ItemsAt h vs ls
  | [], [], _, _ => .nil
  | v :: vs, l :: ls, e, k => by
    obtain ⟨x, rfl, i⟩ := k 0 v l (by simp) (by simp)
    exact .cons i (ItemsAt.of_get (by simpa using e) fun i v l h1 h2 => k (i + 1) v l (by simpa using h1) (by simpa using h2))
  | [], _ :: _, e, _ => by simp at e
  | _ :: _, [], e, _ => by simp at e
theorem perm_at {h : Heap} {ks : List Int} {N : Nat} {gs : List Nat} {vs : List Value} {ls : List Lim} {d : Lim} (hS : StL ks N gs) (I : ItemsAt h vs ls) (hl : vs.length = ls.length) (hN : vs.length = N := by rfl) : ItemsAt h (gs.map fun i => vs.getD i .none) (gs.map fun i => ls.getD i d) := by
  refine ItemsAt.of_get (by rw [List.length_map, List.length_map]) fun i v l h1 h2 => ?_
  rw [List.getElem?_map, Option.map_eq_some_iff] at h1 h2
  obtain ⟨j, hj, rfl⟩ := h1
  obtain ⟨j', hj', rfl⟩ := h2
  cases hj.symm.trans hj'
  have hlt := hS.lt j (List.mem_of_getElem? hj)
  have hv : vs[j]? = some vs[j] := List.getElem?_eq_getElem (by omega)
  obtain ⟨x, l, h1, h2, h3⟩ := I.get hv
  refine ⟨x, ?_, ?_⟩
  · rw [List.getD_eq_getElem?_getD, hv]; exact h2
  · rw [List.getD_eq_getElem?_getD, h1]; exact h3
theorem tup_none {o : Obj} (h : IsTupO o) : o.cls ≠ .none := by
  obtain ⟨its, n, rfl⟩ := h
  intro e; cases e
theorem in_big4 {p a b c : Addr × Obj} {o1 o2 : List (Addr × Obj)} (h : p ∈ a :: o2) : p ∈ b :: o1 ++ a :: c :: o2 := by
  simp only [List.mem_cons, List.mem_append] at h ⊢
  rcases h with h | h <;> simp [h]
theorem in_big2 {p a b c : Addr × Obj} {o1 o2 o3 : List (Addr × Obj)} (h : p ∈ a :: (o1 ++ b :: o2)) : p ∈ c :: o3 ++ (a :: o1 ++ b :: o2) := by
  simp only [List.mem_cons, List.mem_append] at h ⊢
  rcases h with h | h | h | h <;> simp [h]
theorem in_big3 {p a b c d : Addr × Obj} {o1 o2 o3 : List (Addr × Obj)} (h : p ∈ d :: a :: (o1 ++ b :: o2)) : p ∈ d :: (c :: o3 ++ (a :: o1 ++ b :: o2)) := by
  simp only [List.mem_cons, List.mem_append] at h ⊢
  rcases h with h | h | h | h | h <;> simp [h]
theorem ins_apart {h₁ h : Heap} {L it G O D1 : Addr} {its1 its2 its3 : Array Value} {n1 n2 n3 : Nat} {o1 o2 : List (Addr × Obj)} (N : News h₁ L h ((it, listIterO G 0) :: (O, PySem.W.listOf its3 n3) :: (G, PySem.W.listOf its1 n1) :: (o1 ++ (D1, PySem.W.listOf its2 n2) :: o2)))
    (u1 : ∀ p ∈ o1, IsI p.2) (u2 : ∀ p ∈ o2, p.2.cls ≠ .type "list_iterator") (l : ∀ p ∈ (G, PySem.W.listOf its1 n1) :: (o1 ++ (D1, PySem.W.listOf its2 n2) :: o2), p.1 ≠ O) : ∀ p ∈ (G, PySem.W.listOf its1 n1) :: (o1 ++ (D1, PySem.W.listOf its2 n2) :: o2), p.1 ≠ it ∧ p.1 ≠ O := fun p hp => by
  refine ⟨ne_cls (N p (.tail _ (.tail _ hp))).1 (N _ (.head _)).1 ?_, l p hp⟩
  show p.2.cls ≠ Value.type "list_iterator"
  simp only [List.mem_cons, List.mem_append] at hp
  rcases hp with rfl | hp | rfl | hp
  · show Value.type "list" ≠ _; decide
  · exact isI_cls (u1 p hp) (by decide)
  · show Value.type "list" ≠ _; decide
  · exact u2 p hp
theorem ord_len {prog : Program} {w : World} {A : Around} {E : Value → Shared → Prop} {s : Shared} {h₁ : Heap} {L Od : Addr} {vs : List Value} {gs : List Nat} {n : Nat} {ns : List (Addr × Obj)} {Q : Value → Shared → Prop} (N : News h₁ L s.heap ns) (hm : (Od, ordO vs gs n) ∈ ns) (hsz : gs.length ≤ 1000)
    (h : ∀ t tk, Q (.int ((gs.length : Nat) : Int) t) { s with toks := tk }) : wpAny (model prog w) A (call (.builtin "len") [.ref Od]) Q E s := by
  refine PyProof.Rows.len_list (isL N hm) (by rw [List.size_toArray, List.length_map]; omega) ?_
  rw [List.size_toArray, List.length_map]
  exact h _ _
def insC (ks : List Int) (gs : List Nat) (i : Nat) (k : Int) : Bool := decide (0 < k) && decide (ks.getD i 0 < ks.getD (gs.getD (k.toNat - 1) 0) 0)
theorem ord_item {prog : Program} {w : World} {A : Around} {E : Value → Shared → Prop} {s : Shared} {h₁ : Heap} {L Od : Addr} {vs : List Value} {gs : List Nat} {n : Nat} {ns : List (Addr × Obj)} {value slice : PySem.Expr} {k : Int} {u : Tok} {v : Value} {Q : Value → Shared → Prop} (N : News h₁ L s.heap ns) (hm : (Od, ordO vs gs n) ∈ ns) (h0 : 0 < k) (hk : k ≤ gs.length) (hsz : gs.length ≤ 1000)
    (hv : vs.getD (gs.getD (k.toNat - 1) 0) .none = v) (h : Q v s)
    (hs : subscripted slice false (.ref Od) (.int (k - 1) u) = operate [.ref Od, .int (k - 1) u] (getItem (.ref Od) (.int (k - 1) u))) (hg : ∀ r, letTemporaryGo value (.ref Od) r = pure ()) :
    wpAny (model prog w) A (subscriptTail value slice (.ref Od) (.int (k - 1) u)) Q E s := by
  refine PyProof.Rows.item_listL (l := gs.map fun i => vs.getD i .none) (x := v) (isL N hm) (by omega) (by omega) ?_ h hs hg
  have e : (k - 1).toNat = k.toNat - 1 := by omega
  rw [e, List.getElem?_map, List.getElem?_eq_getElem (by omega), Option.map_some, ← hv]
  congr 1
  rw [List.getD_eq_getElem?_getD (l := gs), List.getElem?_eq_getElem (by omega)]
  rfl
theorem ord_lt {ks : List Int} {i : Nat} {gs : List Nat} {k N : Nat} (h : StL ks i gs) (hk : k < gs.length) (hi : i ≤ N) : gs.getD k 0 < N := by
  rw [List.getD_eq_getElem?_getD, List.getElem?_eq_getElem hk]
  have := h.lt gs[k] (List.getElem_mem _)
  show gs[k] < N
  omega
theorem items_get {own : List (Addr × Obj)} : ∀ {vs : List Value} {ls : List Lim}, ItemsIn own vs ls → ∀ {i : Nat} {v : Value}, vs[i]? = some v → ∃ x l, ls[i]? = some l ∧ v = .ref x
  | _, _, .nil, i, v, e => by simp at e
  | _, _, .cons (l := l) ⟨x, dx, ta, tn, tk, e1, _⟩ r, 0, v, e => ⟨x, l, by simp, by simpa [e1] using e.symm⟩
  | _, _, .cons hx r, i + 1, v, e => by
    obtain ⟨x, l, h1, h2⟩ := items_get r (i := i) (v := v) (by simpa using e)
    exact ⟨x, l, by simpa using h1, h2⟩
theorem it_at {h₁ h : Heap} {L : Addr} {own ns : List (Addr × Obj)} {vs : List Value} {ls : List Lim} {j : Nat} (N : News h₁ L h ns) (hs : ∀ p ∈ own, p ∈ ns) (I : ItemsIn own vs ls) (hj : j < vs.length) : ∃ y l, ls[j]? = some l ∧ vs.getD j .none = .ref y ∧ Item h y l.1 (l.2.1 : Nat) (l.2.2 : Nat) := by
  obtain ⟨y, l, h1, h2, h3⟩ := (I.at N hs).get (List.getElem?_eq_getElem hj)
  exact ⟨y, l, h1, by rw [List.getD_eq_getElem?_getD, List.getElem?_eq_getElem hj]; exact h2, h3⟩
theorem it_at2 {h₁ h : Heap} {L x : Addr} {own ns : List (Addr × Obj)} {vs : List Value} {ls : List Lim} {j : Nat} {l : Lim} (N : News h₁ L h ns) (hs : ∀ p ∈ own, p ∈ ns) (I : ItemsIn own vs ls) (hl : ls[j]? = some l) (hv : vs.getD j .none = .ref x) : Item h x l.1 (l.2.1 : Nat) (l.2.2 : Nat) := by
  have hj : j < vs.length := by
    rw [I.len]; exact (List.getElem?_eq_some_iff.mp hl).1
  obtain ⟨y, l', h1, h2, h3⟩ := it_at N hs I hj
  rw [hl] at h1; rw [hv] at h2
  cases h1; cases h2
  exact h3
theorem ins_eq {ls : List Lim} {gs : List Nat} {i : Nat} {k : Int} {l l' : Lim} (h0 : 0 < k) (hl : ls[i]? = some l) (hl' : ls[gs.getD (k.toNat - 1) 0]? = some l') : decide (l.1.sec < l'.1.sec) = insC (ls.map fun l => l.1.sec) gs i k := by
  unfold insC
  rw [decide_eq_true h0, Bool.true_and]
  simp only [List.getD_eq_getElem?_getD, List.getElem?_map] at hl' ⊢
  rw [hl, hl']
  rfl
theorem ins_ok {ks : List Int} {gs : List Nat} {i : Nat} {k : Int} (h : StL ks i gs) (hk : k ≤ gs.length) (hk0 : 0 ≤ k) (hall : ∀ j : Int, k < j → j ≤ gs.length → insC ks gs i j = true) (hc : insC ks gs i k = false) : StL ks (i + 1) (gs.take k.toNat ++ i :: gs.drop k.toNat) := by
  have hl := h.len
  refine h.insert (by omega) (fun j h1 h2 => ?_) ?_
  · have := hall ((j + 1 : Nat) : Int) (by omega) (by omega)
    unfold insC at this
    rw [Bool.and_eq_true, decide_eq_true_eq, decide_eq_true_eq, Int.toNat_natCast, Nat.add_sub_cancel] at this
    exact this.2
  · unfold insC at hc
    rw [Bool.and_eq_false_iff, decide_eq_false_iff_not, decide_eq_false_iff_not] at hc
    rcases hc with hc | hc
    · left; omega
    · right; exact hc
theorem ins_news {h₁ h h' : Heap} {L it Od : Addr} {o : Obj} {vs : List Value} {gs gs' : List Nat} {n n' : Nat} {rest : List (Addr × Obj)} (N : News h₁ L h ((it, o) :: (Od, ordO vs gs n) :: rest)) (hoc : o.cls = .type "list_iterator") (l : ∀ p ∈ rest, p.1 ≠ Od)
    (K : ∀ p ∈ (it, o) :: (Od, ordO vs gs n) :: rest, p.1 ≠ Od → h'.get? p.1 = some p.2) (e : h'.get? Od = some (ordO vs gs' n')) : News h₁ L h' ((it, o) :: (Od, ordO vs gs' n') :: rest) := fun p hp => by
  rcases List.mem_cons.mp hp with rfl | hp
  · have q := N _ (.head _)
    refine ⟨K _ (.head _) (ne_cls q.1 (N _ (.tail _ (.head _))).1 ?_), q.2⟩
    show o.cls ≠ Value.type "list"
    rw [hoc]; decide
  · rcases List.mem_cons.mp hp with rfl | hp
    · exact ⟨e, (N _ (.tail _ (.head _))).2⟩
    · exact ⟨K p (.tail _ (.tail _ hp)) (l p hp), (N p (.tail _ (.tail _ hp))).2⟩
theorem in_big {p a b c d : Addr × Obj} {e o1 o2 o3 o4 : List (Addr × Obj)} {f : Addr × Obj} (h : p ∈ a :: o1) : p ∈ b :: (c :: o2 ++ d :: (o3 ++ (e ++ (f :: o4 ++ (a :: o1))))) := by
  simp only [List.mem_cons, List.mem_append] at h ⊢
  rcases h with h | h <;> simp [h]



theorem nodup_le : ∀ (n : Nat) {gs : List Nat}, gs.Nodup → (∀ x ∈ gs, x < n) → gs.length ≤ n
  | 0, [], _, _ => Nat.le_refl _
  | 0, x :: _, _, h => absurd (h x (.head _)) (Nat.not_lt_zero _)
  | n + 1, gs, hn, h => by
    have h1 := nodup_le n (gs := gs.erase n) (hn.erase n) fun x hx => by
      have h2 := h x (List.mem_of_mem_erase hx)
      have h3 : x ≠ n := fun e => by subst e; exact (List.Nodup.not_mem_erase hn) hx
      omega
    have h4 := List.le_length_erase (l := gs) (a := n)
    omega
theorem nodup_all : ∀ (n : Nat) {gs : List Nat}, gs.Nodup → (∀ x ∈ gs, x < n) → gs.length = n → ∀ y, y < n → y ∈ gs
  | 0, _, _, _, _, y, hy => absurd hy (Nat.not_lt_zero _)
  | n + 1, gs, hn, h, hl, y, hy => by
    have hmem : n ∈ gs := by
      refine Classical.byContradiction fun hno => ?_
      have := nodup_le n hn fun x hx => by
        have h2 := h x hx
        have h3 : x ≠ n := fun e => hno (e ▸ hx)
        omega
      omega
    rcases Nat.lt_or_ge y n with hy' | hy'
    · refine List.mem_of_mem_erase (a := y) (b := n) (nodup_all n (gs := gs.erase n) (hn.erase n) (fun x hx => ?_) ?_ y hy')
      · have h2 := h x (List.mem_of_mem_erase hx)
        have h3 : x ≠ n := fun e => by subst e; exact (List.Nodup.not_mem_erase hn) hx
        omega
      · rw [List.length_erase_of_mem hmem]; omega
    · have : y = n := by omega
      subst this; exact hmem
theorem StL.nodup {ks : List Int} {n : Nat} {gs : List Nat} (h : StL ks n gs) : gs.Nodup := h.ord.imp fun {a b} hab e => by subst e; omega
theorem sorted_same {ks : List Int} : ∀ {gs gs' : List Nat}, gs.Pairwise (fun p q => ks.getD p 0 < ks.getD q 0 ∨ (ks.getD p 0 = ks.getD q 0 ∧ p < q)) → gs'.Pairwise (fun p q => ks.getD p 0 < ks.getD q 0 ∨ (ks.getD p 0 = ks.getD q 0 ∧ p < q)) → (∀ x, x ∈ gs ↔ x ∈ gs') → gs = gs'
  | [], [], _, _, _ => rfl
  | [], x :: _, _, _, e => absurd ((e x).mpr (.head _)) List.not_mem_nil
  | x :: _, [], _, _, e => absurd ((e x).mp (.head _)) List.not_mem_nil
  | x :: gs, y :: gs', h, h', e => by
    rw [List.pairwise_cons] at h h'
    have hxy : x = y := by
      rcases List.mem_cons.mp ((e x).mp (.head _)) with q | q
      · exact q
      · rcases List.mem_cons.mp ((e y).mpr (.head _)) with q' | q'
        · exact q'.symm
        · have h1 := h.1 y q'
          have h2 := h'.1 x q
          omega
    subst hxy
    rw [sorted_same h.2 h'.2 fun z => ?_]
    constructor
    · intro hz
      rcases List.mem_cons.mp ((e z).mp (.tail _ hz)) with q | q
      · subst q
        have := h.1 z hz
        omega
      · exact q
    · intro hz
      rcases List.mem_cons.mp ((e z).mpr (.tail _ hz)) with q | q
      · subst q
        have := h'.1 z hz
        omega
      · exact q
theorem StL.same {ks : List Int} {n : Nat} {gs gs' : List Nat} (h : StL ks n gs) (h' : StL ks n gs') : gs = gs' :=
  sorted_same h.ord h'.ord fun x => ⟨fun hx => nodup_all n h'.nodup h'.lt h'.len x (h.lt x hx), fun hx => nodup_all n h.nodup h.lt h.len x (h'.lt x hx)⟩
theorem ToldAt.of_get {h : Heap} : ∀ {vs : List Value} {ls : List Lim}, vs.length = ls.length → (∀ (i : Nat) (v : Value) (l : Lim), vs[i]? = some v → ls[i]? = some l → TupAt h v l) → ToldAt h vs ls
  | [], [], _, _ => .nil
  | v :: vs, l :: ls, e, k => .cons (k 0 v l (by simp) (by simp)) (ToldAt.of_get (by simpa using e) fun i v l h1 h2 => k (i + 1) v l (by simpa using h1) (by simpa using h2))
  | [], _ :: _, e, _ => by simp at e
  | _ :: _, [], e, _ => by simp at e
theorem told_perm {h : Heap} {ks : List Int} {N : Nat} {gs : List Nat} {vs : List Value} {ls : List Lim} {d : Lim} (hS : StL ks N gs) (I : ToldAt h vs ls) (hN : vs.length = N) : ToldAt h (gs.map fun i => vs.getD i .none) (gs.map fun i => ls.getD i d) := by
  refine ToldAt.of_get (by rw [List.length_map, List.length_map]) fun i v l h1 h2 => ?_
  rw [List.getElem?_map, Option.map_eq_some_iff] at h1 h2
  obtain ⟨j, hj, rfl⟩ := h1
  obtain ⟨j', hj', rfl⟩ := h2
  cases hj.symm.trans hj'
  have hlt := hS.lt j (List.mem_of_getElem? hj)
  have hlen := I.len
  have hl : ls[j]? = some (ls[j]'(by omega)) := List.getElem?_eq_getElem (by omega)
  obtain ⟨x, h1, h3⟩ := I.get hl
  rw [List.getD_eq_getElem?_getD, h1, List.getD_eq_getElem?_getD, hl]
  exact h3
end
end Mine

end
section
open PySem PySem.W PyProof.Rows
set_option maxRecDepth 100000
set_option linter.unusedVariables false
namespace Mine

def rngO (i n : Nat) : Obj := { cls := .type "range_iterator", data := .fields #[rawInt (i : Nat), rawInt ((n : Int) - (i : Nat)), rawInt 1] }
def RngNext (h₁ : Heap) (L : Addr) (s s₃ : Shared) (P : (PySem.Str → Option Value) → Prop) (it : Addr) (o : Obj) (rest : List (Addr × Obj)) : Prop :=
  ∃ h'' tk'', ∃ (m₂ : PySem.Str → Option Value), s₃ = { s with heap := h'', toks := tk'' } ∧ P m₂ ∧ Fr h₁ L h'' m₂ ∧ News h₁ L h'' ((it, o) :: rest)
theorem range_fr {prog : Program} {w : World} {A : Around} {s : Shared} {L : Addr} {m : PySem.Str → Option Value} {env : Env} {R : Result → Shared → Prop} {x : PySem.Str} {xp : Pos} {body : List Stmt} {it : Addr} {h₁ : Heap} {n : Nat} {rest : List (Addr × Obj)} (P : (PySem.Str → Option Value) → Prop)
    (F : Fr h₁ L s.heap m) (N : News h₁ L s.heap ((it, rngO 0 n) :: rest)) (hap : ∀ p ∈ rest, p.1 ≠ it) (hm : P m)
    (step : ∀ i h' tk' (m₁ : PySem.Str → Option Value), i < n → P m₁ → Fr h₁ L h' m₁ → News h₁ L h' ((it, rngO (i + 1) n) :: rest) →
      wpAny (model prog w) A (assign (.Name x xp) env (.int (i : Nat) tk')) (fun _ s₂ => wpAny (model prog w) A (execs body env) (fun f s₃ => f = .next ∧ RngNext h₁ L s s₃ P it (rngO (i + 1) n) rest) (fun _ _ => False) s₂) (fun _ _ => False) { s with heap := h', toks := tk' + 1 })
    (stop : ∀ tk' (m₁ : PySem.Str → Option Value), P m₁ → A.handled = none ∧ (∀ h'', Fr h₁ L h'' m₁ → News h₁ L h'' rest → R (.ok .next) { s with heap := h'', toks := tk' })) :
    codeAny (model prog w) A (.forLoop (.Name x xp) (.ref it) body [] env) R s := by
  refine codeAny_forLoop_any (fun k s' => ∃ i h' tk', ∃ (m₁ : PySem.Str → Option Value), k = n - i ∧ i ≤ n ∧ s' = { s with heap := h', toks := tk' } ∧ P m₁ ∧ Fr h₁ L h' m₁ ∧ News h₁ L h' ((it, rngO i n) :: rest)) ?_ n ⟨0, s.heap, s.toks, m, rfl, Nat.zero_le _, rfl, hm, F, N⟩
  rintro k s' ⟨i, h', tk', m₁, rfl, hi, rfl, hP, F', N'⟩
  have hit : IsRangeIter h' it ((i : Nat) : Int) ((n : Int) - (i : Nat)) 1 := (N' _ (.head _)).1
  have hitN := N' (it, rngO i n) (.head _)
  by_cases hlt : i < n
  · refine wpAny_pyNext_range_item (s := { s with heap := h', toks := tk' }) hit (by omega) fun h2 hit2 hs => ?_
    refine wpAny_mono (Q := fun _ s₁ => s₁ = { s with heap := h2, toks := tk' + 1 }) (E := fun _ _ => False) (by unfold letOwnedTupleGo; exact wpAny_pure rfl) (fun _ s₁ e₁ => ?_) fun _ _ q => q.elim
    subst e₁
    have hit3 : h2.get? it = some (rngO (i + 1) n) := by
      have e1 : ((i : Nat) : Int) + 1 = ((i + 1 : Nat) : Int) := by push_cast; rfl
      have e2 : (n : Int) - (i : Nat) - 1 = (n : Int) - ((i + 1 : Nat) : Int) := by push_cast; omega
      rw [e1, e2] at hit2
      exact hit2
    have F2 : Fr h₁ L h2 m₁ := F'.change hs hitN.2.1 hitN.2.2
    have N2 : News h₁ L h2 ((it, rngO (i + 1) n) :: rest) := N'.setHead hap hs hit3
    refine wpAny_mono (step i h2 tk' m₁ hlt hP F2 N2) (fun _ s₂ h₂ => wpAny_mono h₂ (fun f s₃ h₃ => ?_) fun _ _ q => q.elim) fun _ _ q => q.elim
    obtain ⟨rfl, h3, tk3, m3, rfl, hP3, F3, N3⟩ := h₃
    exact ⟨n - (i + 1), by omega, i + 1, h3, tk3, m3, rfl, hlt, rfl, hP3, F3, N3⟩
  · have hin : i = n := by omega
    subst hin
    obtain ⟨hh, hst⟩ := stop tk' m₁ hP
    refine wpAny_pyNext_range_end (s := { s with heap := h', toks := tk' }) hh hit (by omega) fun h2 he => wpAny_execs_nil ?_
    refine hst h2 ⟨F'.ns.extBut he (Ne.symm hitN.2.1), fun b ob hb => he b ob (fun q => by subst q; rw [show h₁.get? b = none from hitN.2.2] at hb; cases hb) (F'.keep b ob hb), F'.above⟩ fun p hp => ?_
    have hp' := N' p (.tail _ hp)
    exact ⟨he _ _ (hap p hp) hp'.1, hp'.2⟩
theorem range_iter {prog : Program} {w : World} {A : Around} {E : Value → Shared → Prop} {s : Shared} {h₁ : Heap} {L r : Addr} {m : PySem.Str → Option Value} {news : List (Addr × Obj)} {n : Nat} {k : Int} {t u v : Tok} {Q : Value → Shared → Prop} (F : Fr h₁ L s.heap m) (N : News h₁ L s.heap news) (hr : IsRange s.heap r 0 k 1 t u v) (hk : k = (n : Nat)) (hn : n ≤ 1000)
    (h : ∀ it h', Fr h₁ L h' m → News h₁ L h' ((it, rngO 0 n) :: news) → (∀ p ∈ news, p.1 ≠ it) → Q (.ref it) { s with heap := h' }) : wpAny (model prog w) A (pyIter (.ref r)) Q E s := by
  subst hk
  have hsz : Builtin.Range.rangeSize 0 (n : Nat) 1 = (n : Nat) := by
    unfold Builtin.Range.rangeSize
    simp
    omega
  have hsm : Builtin.Range.small 0 (n : Nat) 1 = true := by
    unfold Builtin.Range.small
    rw [hsz]
    unfold Builtin.Range.rangeFitsLong
    simp
    omega
  refine wpAny_pyIter_range hr hsm ?_
  rw [hsz]
  have e : ({ cls := .type "range_iterator", data := .fields #[rawInt 0, rawInt (n : Nat), rawInt 1] } : Obj) = rngO 0 n := by
    unfold rngO
    simp
  rw [e]
  exact h _ _ (F.push _) (N.push F _) fun p hp => Nat.ne_of_lt (Heap.lt_size (N p hp).1)

structure WM (D15 Od : Addr) (m₁ : PySem.Str → Option Value) : Prop where
  h0 : m₁ (Str.ofString "want") = some (.ref D15)
  h1 : m₁ (Str.ofString "order") = some (.ref Od)
def wmF (D15 Od : Addr) (m₁ : PySem.Str → Option Value) : PySem.Str → Option Value := fun y => if y = Str.ofString "want" then some (.ref D15) else if y = Str.ofString "order" then some (.ref Od) else m₁ y
theorem WM.eq {D1 O : Addr} {m₁ : PySem.Str → Option Value} (h : WM D1 O m₁) : m₁ = wmF D1 O m₁ := by
  funext y
  unfold wmF
  repeat' split
  all_goals first | rfl | (rename_i e; rw [e]; first | exact h.h0 | exact h.h1)
structure WM2 (D15 Od : Addr) (i : Nat) (m₁ : PySem.Str → Option Value) : Prop where
  h0 : m₁ (Str.ofString "want") = some (.ref D15)
  h1 : m₁ (Str.ofString "order") = some (.ref Od)
  h2 : ∃ t, m₁ (Str.ofString "one") = some (.int (i : Nat) t)
def wmF2 (D15 Od : Addr) (i : Nat) (t : Tok) (m₁ : PySem.Str → Option Value) : PySem.Str → Option Value := fun y => if y = Str.ofString "want" then some (.ref D15) else if y = Str.ofString "order" then some (.ref Od) else if y = Str.ofString "one" then some (.int (i : Nat) t) else m₁ y
theorem WM2.eq {D1 O : Addr} {i : Nat} {m₁ : PySem.Str → Option Value} (h : WM2 D1 O i m₁) : ∃ t, m₁ = wmF2 D1 O i t m₁ := by
  obtain ⟨h0, h1, t, h2⟩ := h
  refine ⟨t, ?_⟩
  funext y
  unfold wmF2
  repeat' split
  all_goals first | rfl | (rename_i e; rw [e]; first | exact h0 | exact h1 | exact h2)

theorem ord_sub {prog : Program} {w : World} {A : Around} {E : Value → Shared → Prop} {s : Shared} {h₁ : Heap} {L Od : Addr} {vs : List Value} {gs : List Nat} {n : Nat} {ns : List (Addr × Obj)} {value slice : PySem.Expr} {i : Nat} {u : Tok} {v : Value} {Q : Value → Shared → Prop} (N : News h₁ L s.heap ns) (hm : (Od, ordO vs gs n) ∈ ns) (hi : i < gs.length) (hsz : gs.length ≤ 1000)
    (hv : vs.getD (gs.getD i 0) .none = v) (h : Q v s)
    (hs : subscripted slice false (.ref Od) (.int (i : Nat) u) = operate [.ref Od, .int (i : Nat) u] (getItem (.ref Od) (.int (i : Nat) u))) (hg : ∀ r, letTemporaryGo value (.ref Od) r = pure ()) :
    wpAny (model prog w) A (subscriptTail value slice (.ref Od) (.int (i : Nat) u)) Q E s := by
  refine PyProof.Rows.item_listL (l := gs.map fun i => vs.getD i .none) (x := v) (isL N hm) (by omega) (by omega) ?_ h hs hg
  rw [Int.toNat_natCast, List.getElem?_map, List.getElem?_eq_getElem hi, Option.map_some, ← hv]
  congr 1
  rw [List.getD_eq_getElem?_getD (l := gs), List.getElem?_eq_getElem hi]
  rfl
theorem TupAt.keeps {h h' : Heap} {v : Value} {l : Lim} (t : TupAt h v l) (k : ∀ b o, h.get? b = some o → h'.get? b = some o) : TupAt h' v l := by
  obtain ⟨t, t0, t1, ta, tn, tk, te, e, h1⟩ := t
  exact ⟨t, t0, t1, ta, tn, tk, te, e, k _ _ h1⟩
theorem pair_at {h₁ h : Heap} {L : Addr} {own8 own1 nl : List (Addr × Obj)} {vs outs : List Value} {ls : List Lim} {ks : List Int} {gs : List Nat} {i : Nat} (N : News h₁ L h nl) (s8 : ∀ p ∈ own8, p ∈ nl) (s1 : ∀ p ∈ own1, p ∈ nl) (I : ItemsIn own8 vs ls) (T : ToldIn own1 outs ls) (hS : StL ks vs.length gs) (hi : i < gs.length) :
    ∃ y t l, vs.getD (gs.getD i 0) .none = .ref y ∧ outs.getD (gs.getD i 0) .none = .ref t ∧ Item h y l.1 (l.2.1 : Nat) (l.2.2 : Nat) ∧ TupAt h (.ref t) l := by
  have hlt := ord_lt hS hi (Nat.le_refl _)
  obtain ⟨y, l, hl, hy, hit⟩ := it_at N s8 I hlt
  obtain ⟨v, hv, htv⟩ := (T.at N s1).get hl
  have htv' := htv
  obtain ⟨t, _, _, _, _, _, _, rfl, _⟩ := htv
  exact ⟨y, t, l, hy, by rw [List.getD_eq_getElem?_getD, hv]; rfl, hit, htv'⟩
theorem eq_same (l l' : Lim) : decide (l.1.sec = l'.1.sec ∧ l.2 = l'.2) = decide (((l.2.1 : Nat) : Int) = ((l'.2.1 : Nat) : Int) ∧ l.1.sec = l'.1.sec ∧ ((l.2.2 : Nat) : Int) = ((l'.2.2 : Nat) : Int)) := by
  apply decide_eq_decide.mpr
  rw [Prod.ext_iff]
  constructor
  · rintro ⟨h1, h2, h3⟩; exact ⟨by omega, h1, by omega⟩
  · rintro ⟨h1, h2, h3⟩; exact ⟨h2, by omega, by omega⟩

theorem tup_is {h : Heap} {t : Addr} {l : Lim} (i : TupAt h (.ref t) l) : ∃ t0 t1 ta tn tk te, IsTup h t #[.int l.1.sec t0, .str l.1.name t1, .int (l.2.1 : Nat) ta, .int (l.2.2 : Nat) tn, .str "LIMITER" tk, .int (l.1.sec * (l.2.2 : Nat)) te] := by
  obtain ⟨t', t0, t1, ta, tn, tk, te, e, h1⟩ := i
  cases e
  exact ⟨t0, t1, ta, tn, tk, te, _, h1, rfl, _, rfl⟩
end Mine

end
section
open PySem PySem.W PyProof.Rows
set_option maxRecDepth 100000
set_option linter.unusedVariables false
namespace Mine
theorem tup_sec {prog : Program} {w : World} {A : Around} {E : Value → Shared → Prop} {s : Shared} {value slice : PySem.Expr} {t : Addr} {l : Lim} {u : Tok} {Q : Value → Shared → Prop} (i : TupAt s.heap (.ref t) l) (h : ∀ t0, Q (.int l.1.sec t0) s)
    (hs : subscripted slice false (.ref t) (.int 0 u) = operate [.ref t, .int 0 u] (getItem (.ref t) (.int 0 u))) :
    wpAny (model prog w) A (subscriptTail value slice (.ref t) (.int 0 u)) Q E s := by
  obtain ⟨t0, t1, ta, tn, tk, te, hi⟩ := tup_is i
  refine kba_turn (value' := PySem.Expr.Name (PySem.Str.ofString "_") ⟨0, 0, 0, 0⟩) (fun _ => rfl) ?_
  exact PyProof.Rows.item_tuple (j := 0) hi (by decide) (by decide) rfl rfl (h t0) hs (fun _ => rfl)
end Mine

end
section
open PySem PySem.W PyProof.Rows
set_option maxRecDepth 100000
set_option linter.unusedVariables false
namespace Mine

/-! ## the items' texts, joined -/
theorem OkT.okl {x : PySem.Str} (O : OkT x) : okl x.cps.toList := fun c hc => by
  obtain ⟨j, hj, rfl⟩ := List.mem_iff_getElem.mp hc
  have hs : j < x.cps.size := by simpa using hj
  have := O.ok j hs
  simpa [Array.getD, hs] using this
theorem okT_of {y : PySem.Str} (h1 : y.cps.size ≤ 400) (h2 : okl y.cps.toList) : OkT y where
  sz := h1
  ok := fun q hq => h2 _ (by
    have : y.cps.getD q 0 = y.cps[q] := by simp [Array.getD, hq]
    rw [this]
    exact Array.mem_toList_iff.mpr (Array.getElem_mem hq))
theorem per_cps : (Str.ofString " per ").cps.toList = [32, 112, 101, 114, 32] := by decide +kernel
theorem sp_cps : (Str.ofString " ").cps.toList = [32] := by decide +kernel
theorem semi_cps : (Str.ofString "; ").cps.toList = [59, 32] := by decide +kernel
theorem limRepr_cps (l : Lim) : (limRepr l).cps.toList = reprL l := by
  unfold limRepr reprL decL
  simp only [PySem.Str.cps_append, Array.toList_append, dec_list, per_cps, sp_cps, List.append_assoc, List.cons_append, List.nil_append]
theorem join_cps : ∀ ls : List Lim, (Txt.join (Str.ofString "; ") (ls.map limRepr)).cps.toList = joinL ls := by
  intro ls
  have e : Txt.join (Str.ofString "; ") (ls.map limRepr) = PySem.Str.join (Str.ofString "; ") (ls.map limRepr) := PySem.StrLaws.glued_eq_join ..
  rw [e]
  have go : ∀ ls : List Lim, (PySem.Str.join (Str.ofString "; ") (ls.map limRepr)).cps.toList = joinL ls := by
    intro ls
    induction ls with
    | nil => rfl
    | cons l r ih =>
      cases r with
      | nil => exact limRepr_cps l
      | cons l' r =>
        show (limRepr l ++ Str.ofString "; " ++ PySem.Str.join (Str.ofString "; ") ((l' :: r).map limRepr)).cps.toList = reprL l ++ (59 :: 32 :: joinL (l' :: r))
        rw [PySem.Str.cps_append, PySem.Str.cps_append, Array.toList_append, Array.toList_append, limRepr_cps, semi_cps, ih]
        simp
  exact go ls
theorem repr_sum (ls : List Lim) : ((ls.map limRepr).map (·.length)).sum + (ls.map limRepr).length * 2 ≤ (ls.map fun l => rowCost (toRow l) + 12).sum := by
  induction ls with
  | nil => exact Nat.le_refl _
  | cons l ls ih =>
    have h1 : (limRepr l).length = (reprL l).length := by
      rw [← limRepr_cps, Array.length_toList]; rfl
    have := reprL_len l
    simp only [List.map_cons, List.sum_cons, List.length_cons] at ih ⊢
    omega
theorem Short.fit {ls : List Lim} (h : Short ls) : ((ls.map limRepr).map (·.length)).sum + (ls.map limRepr).length * (Str.ofString "; ").length ≤ 16777216 := by
  have h0 : (Str.ofString "; ").length = 2 := by decide +kernel
  have h1 := repr_sum ls
  rw [sum_more] at h1
  have h2 := h.cost
  have h3 := h.len
  rw [h0]
  omega
theorem Short.text {ls : List Lim} (h : Short ls) (hn : ls ≠ []) : OkT (Txt.join (Str.ofString "; ") (ls.map limRepr)) ∧ meant (Txt.join (Str.ofString "; ") (ls.map limRepr)) = some ls := by
  obtain ⟨h1, h2, h3⟩ := h.join hn (join_cps ls)
  exact ⟨okT_of h1 h2, h3⟩
theorem perm_map {ks : List Int} {N : Nat} {gs : List Nat} {ls : List Lim} {d : Lim} (hS : StL ks N gs) (hl : ls.length = N) : (gs.map fun i => ls.getD i d).Perm ls := by
  have hp : gs.Perm (List.range N) := by
    rw [List.perm_ext_iff_of_nodup hS.nodup List.nodup_range]
    intro a
    rw [List.mem_range]
    exact ⟨fun h => hS.lt a h, fun h => nodup_all N hS.nodup hS.lt hS.len a h⟩
  have h2 : (List.range N).map (fun i => ls.getD i d) = ls := by
    apply List.ext_getElem
    · rw [List.length_map, List.length_range, hl]
    · intro i h1 h2
      rw [List.getElem_map, List.getElem_range, List.getD_eq_getElem?_getD, List.getElem?_eq_getElem h2]
      rfl
  have h3 := hp.map fun i => ls.getD i d
  rw [h2] at h3
  exact h3
theorem strs_snoc {y : PySem.Str} {t : Tok} : ∀ {vs : List Value} {ys : List PySem.Str}, StrsAre vs ys → StrsAre (vs ++ [.str y t]) (ys ++ [y])
  | _, _, .nil => .cons y t .nil
  | _, _, .cons z u r => .cons z u (strs_snoc r)
theorem strs_len : ∀ {vs : List Value} {ys : List PySem.Str}, StrsAre vs ys → vs.length = ys.length
  | _, _, .nil => rfl
  | _, _, .cons _ _ r => by rw [List.length_cons, List.length_cons, strs_len r]
theorem list_iterL {prog : Program} {w : World} {A : Around} {E : Value → Shared → Prop} {s : Shared} {h₀ : Heap} {L l : Addr} {m : PySem.Str → Option Value} {news : List (Addr × Obj)} {Q : Value → Shared → Prop} {its : Array Value} (F : Fr h₀ L s.heap m) (N : News h₀ L s.heap news) (hl : s.heap.IsList l its)
    (h : ∀ it h', Fr h₀ L h' m → News h₀ L h' ((it, listIterO l 0) :: news) → (∀ p ∈ news, p.1 ≠ it) → Q (.ref it) { s with heap := h' }) : wpAny (model prog w) A (pyIter (.ref l)) Q E s :=
  wpAny_pyIter_list hl (h _ _ (F.push _) (N.push F _) fun p hp => Nat.ne_of_lt (Heap.lt_size (N p hp).1))
theorem comp_builtin {M : Model} {A : Around} {E : Value → Shared → Prop} {s : Shared} {K : Frag} {h₀ : Heap} {L C : Addr} {m mg mb : PySem.Str → Option Value} {scope : Scope} {cn : PySem.Str} {cs : Scope} {L' a : Addr} {cd : Value} {p : Program} {loose : List PySem.Str}
    {x : PySem.Str} {pos : Pos} {v : Value} {Q : Value → Shared → Prop} (F : Fr h₀ L s.heap m) (X : K.In h₀) (T : TopRead p loose mg mb h₀) (e : nsIn K mainGlobals x = some none) (hv : bootBuiltins x = some v) (hn : x ≠ "__name__") (h : Q v s)
    (hk : scope.kind = .function := by rfl) (hx : (compEnv scope C (envOf cn cs L' a cd)).kindOf x = some .globalImplicit := by rfl) (hd : (x == ("__debug__" : PySem.Str)) = false := by decide) :
    wpAny M A (eval (.Name x pos) (compEnv scope C (envOf cn cs L' a cd))) Q E s :=
  Calls.Name_function_global hk hx (Calls.loadGlobal_builtin (env := compEnv scope C (envOf cn cs L' a cd)) (T.g.keeps F.keep) (mg_none_of X T.g e) (T.b.keeps F.keep) ((T.builtins x hn).trans hv) h) hd
/-- a code's head, out of the walk's sight -/
structure CHd (h : Heap) (c P : Addr) : Prop where
  hd : CodeHd h c P
end Mine

end
section
open PySem PySem.W PyProof.Rows
set_option maxRecDepth 100000
set_option linter.unusedVariables false
namespace Mine

/-! ## a list of texts made item by item, with a ledger beside it -/
section
variable {prog : Program} {w : World} {A : Around} {E : Value → Shared → Prop} {s : Shared} {env : Env} {h₁ : Heap} {L it l : Addr} {m : PySem.Str → Option Value} {vs : List Value} {elt iter : Expr} {x : PySem.Str} {px pos : Pos} {scope : Scope} {Q : Value → Shared → Prop} {rest : List (Addr × Obj)} {nl : Nat}
theorem comp_str (J : Nat → List Value → Prop) (hh : A.handled = none) (F : Fr h₁ L s.heap m) (N : News h₁ L s.heap ((it, listIterO l 0) :: rest)) (hl : (l, PySem.W.listOf vs.toArray nl) ∈ rest) (hap : ∀ p ∈ rest, p.1 ≠ it) (hvs : vs.length ≤ 1000) (hJ0 : J 0 []) (hJlen : ∀ i outs, J i outs → outs.length = i)
    (hcell : ∀ y ∈ scope.names, y.2 ≠ .cell) (hkind : scope.kind = .function) (hx : scope.names.lookup x = some .local)
    (turn : ∀ (i : Nat) v outs C oC D n o h' tk' (mC : PySem.Str → Option Value), vs[i]? = some v → J i outs → IsNs oC (fun y => if y = x then some v else mC y) → Fr h₁ L h' m → News h₁ L h' ((C, oC) :: (it, o) :: (D, PySem.W.listOf outs.toArray n) :: rest) →
      wpAny (model prog w) A (eval elt (compEnv scope C env)) (fun y s₃ => Hold (∃ h'' tk'', s₃ = { s with heap := h'', toks := tk'' } ∧ J (i + 1) (outs ++ [y]) ∧ Fr h₁ L h'' m ∧ News h₁ L h'' ((C, oC) :: (it, o) :: (D, PySem.W.listOf outs.toArray n) :: rest))) (fun _ _ => False) { s with heap := h', toks := tk' })
    (done : ∀ D outs n h' tk', J vs.length outs → Fr h₁ L h' m → News h₁ L h' ((D, PySem.W.listOf outs.toArray n) :: rest) → Q (.ref D) { s with heap := h', toks := tk' }) :
    wpAny (model prog w) A (newList []) (fun acc s₃ => wpAny (model prog w) A (newFunctionEnv scope env.globals [] [] env.qual none .none (some env)) (fun cenv s₄ =>
      codeAny (model prog w) A (.compStart (.ListComp elt [⟨.Name x px, iter, [], 0⟩] scope pos) 0 (.ref it) acc { cenv with scope := scope })
        (fun r s' => ∃ m, s'.heap.Ns cenv.locals m ∧ ∀ h', Heap.SameBut cenv.locals s'.heap h' →
          match r with | .ok _ => Q acc { s' with heap := h' } | .error x => wpAny (model prog w) A (PySem.passOn "comprehension.variables-let-go" x { cenv with scope := scope }) Q E { s' with heap := h' }) s₄) E s₃) E s := by
  have h1000 : (1000 : Nat) ≤ sizeLine := by decide
  have hlt0 : ∀ p ∈ rest, p.1 < s.heap.objs.size := fun p hp => Heap.lt_size (N p (.tail _ hp)).1
  have hit0 : it < s.heap.objs.size := Heap.lt_size (N _ (.head _)).1
  refine wpAny_newObj_type (wpAny_newFunctionEnv hcell (by intro y hy; simp at hy) (fun h2 hns hsb => ?_) hkind)
  dsimp only at hns hsb ⊢
  have F1 := F.push { cls := .type "list", data := .seq ([] : List Value).toArray }
  have N1 := N.push F { cls := .type "list", data := .seq ([] : List Value).toArray }
  have hsz1 : (s.heap.push { cls := .type "list", dict := none, data := .seq ([] : List Value).toArray }).objs.size = s.heap.objs.size + 1 := by rw [Heap.size_push]
  generalize hD : s.heap.objs.size = D at *
  generalize hH : s.heap.push { cls := .type "list", dict := none, data := .seq ([] : List Value).toArray } = H at *
  have F2 := F1.push { cls := .type "dict", data := .dict #[] }
  have N2 := N1.push F1 { cls := .type "dict", data := .dict #[] }
  generalize hC : H.objs.size = C at *
  have F3 : Fr h₁ L h2 m := F2.change hsb (N2 _ (.head _)).2.1 (N2 _ (.head _)).2.2
  obtain ⟨oC, hoC, iC⟩ := ns_is hns
  have nC : ∀ p ∈ (D, ({ cls := .type "list", data := .seq ([] : List Value).toArray } : Obj)) :: (it, listIterO l 0) :: rest, p.1 ≠ C := fun p hp => by
    rw [← hC]
    have := Heap.lt_size (N1 p hp).1
    exact Nat.ne_of_lt this
  have N3 := N2.setHead nC hsb hoC
  have rC : ∀ p ∈ rest, p.1 ≠ C := fun p hp => nC p (.tail _ (.tail _ hp))
  have rD : ∀ p ∈ rest, p.1 ≠ D := fun p hp => Nat.ne_of_lt (hlt0 p hp)
  have dC : D ≠ C := nC _ (.head _)
  have iCne : it ≠ C := nC _ (.tail _ (.head _))
  have iDne : it ≠ D := Nat.ne_of_lt hit0
  have loop : ∀ s3 : Shared, s3 = { s with heap := h2, toks := s.toks + ([] : List (PySem.Str × Value)).length } →
      codeAny (model prog w) A (.compLoop (.ListComp elt [⟨.Name x px, iter, [], 0⟩] scope pos) 0 (.ref it) (.ref D) (compEnv scope C env))
        (fun r s' => ∃ m, s'.heap.Ns C m ∧ ∀ h', Heap.SameBut C s'.heap h' →
          match r with | .ok _ => Q (.ref D) { s' with heap := h' } | .error x => wpAny (model prog w) A (PySem.passOn "comprehension.variables-let-go" x (compEnv scope C env)) Q E { s' with heap := h' }) s3 := by
    rintro s3 rfl
    refine codeAny_compLoop_list (fun k s' => ∃ i outs n h' tk' oC o, ∃ (mC : PySem.Str → Option Value), k = vs.length - i ∧ i ≤ vs.length ∧ J i outs ∧ s' = { s with heap := h', toks := tk' } ∧ IsNs oC mC ∧ o.cls = .type "list_iterator" ∧ o.data = .fields #[.ref l, .int (i : Nat) 0] ∧ Fr h₁ L h' m ∧ News h₁ L h' ((C, oC) :: (it, o) :: (D, PySem.W.listOf outs.toArray n) :: rest)) ?_ vs.length ?_
    · rintro k s' ⟨i, outs, n, h', tk', oC, o, mC, rfl, hi, hj, rfl, iC, hoc, hod, F', N'⟩
      have hl' : h'.IsList l vs.toArray := News.isList N' (.tail _ (.tail _ (.tail _ hl)))
      have hit : h'.IsListIter it l i := ⟨o, (N' (it, o) (.tail _ (.head _))).1, hoc, hod⟩
      have hit' := N' (it, o) (.tail _ (.head _))
      have nit : ∀ p ∈ ((C, oC) :: (D, PySem.W.listOf outs.toArray n) :: rest), p.1 ≠ it := fun p hp => by
        rcases List.mem_cons.mp hp with rfl | hp
        · exact Ne.symm iCne
        · rcases List.mem_cons.mp hp with rfl | hp
          · exact Ne.symm iDne
          · exact hap p hp
      have here : ∀ p ∈ ((C, oC) :: (D, PySem.W.listOf outs.toArray n) :: rest), h'.get? p.1 = some p.2 ∧ p.1 ≠ L ∧ h₁.get? p.1 = none := fun p hp => by
        rcases List.mem_cons.mp hp with rfl | hp
        · exact N' (C, oC) (.head _)
        · exact N' p (.tail _ (.tail _ hp))
      cases hg : vs[i]? with
      | none =>
        have hi' : i = vs.length := by
          have : vs.length ≤ i := by simpa using hg
          omega
        refine wpAny_pyNext_list_end hh hit hl' (by simpa using hg) fun h'' he => ?_
        have keep : ∀ p ∈ ((C, oC) :: (D, PySem.W.listOf outs.toArray n) :: rest), h''.get? p.1 = some p.2 := fun p hp => he _ _ (nit p hp) (here p hp).1
        have F'' : Fr h₁ L h'' m := ⟨F'.ns.extBut he (Ne.symm hit'.2.1), fun b ob hb => he b ob (fun q => by subst q; rw [hit'.2.2] at hb; cases hb) (F'.keep b ob hb), F'.above⟩
        refine ⟨mC, iC.ns (keep _ (.head _)), fun h3 hs3 => ?_⟩
        subst hi'
        refine done D outs n h3 tk' hj (F''.change hs3 (N' (C, oC) (.head _)).2.1 (N' (C, oC) (.head _)).2.2) fun p hp => ?_
        have hpC : p.1 ≠ C := by
          rcases List.mem_cons.mp hp with rfl | hp
          · exact dC
          · exact rC p hp
        exact ⟨(hs3.2 _ hpC).trans (keep p (.tail _ hp)), (here p (.tail _ hp)).2⟩
      | some v =>
        refine wpAny_pyNext_list_item hit hl' (by simpa using hg) fun h3 hit3 hs3 => ?_
        obtain ⟨o3, ho3, hc3, hd3⟩ := hit3
        have F3 : Fr h₁ L h3 m := F'.change hs3 hit'.2.1 hit'.2.2
        have keep3 : ∀ p ∈ ((C, oC) :: (D, PySem.W.listOf outs.toArray n) :: rest), h3.get? p.1 = some p.2 := fun p hp => (hs3.2 _ (nit p hp)).trans (here p hp).1
        refine wpAny_assign_Name (wpAny_storeName_local (env := compEnv scope C env) hx (iC.ns (keep3 _ (.head _))) (fun h4 hn4 hs4 => ?_) (by show (scope.kind == .class || (scope.kind == .module && _)) = false; rw [hkind]; rfl))
        obtain ⟨oC4, hoC4, iC4⟩ := ns_is hn4
        have hCn := (N' (C, oC) (.head _)).2
        have F4 : Fr h₁ L h4 m := F3.change hs4 hCn.1 hCn.2
        have N4 : News h₁ L h4 ((C, oC4) :: (it, o3) :: (D, PySem.W.listOf outs.toArray n) :: rest) := fun p hp => by
          rcases List.mem_cons.mp hp with rfl | hp
          · exact ⟨hoC4, hCn⟩
          · rcases List.mem_cons.mp hp with rfl | hp
            · exact ⟨(hs4.2 _ iCne).trans ho3, hit'.2⟩
            · have hpC : p.1 ≠ C := by
                rcases List.mem_cons.mp hp with rfl | hp
                · exact dC
                · exact rC p hp
              exact ⟨(hs4.2 _ hpC).trans (keep3 p (.tail _ hp)), (here p (.tail _ hp)).2⟩
        dsimp only
        refine wpAny_mono (turn i v outs C oC4 D n o3 h4 _ _ hg hj iC4 F4 N4) (fun y s5 h5 => ?_) fun _ _ (q : False) => q.elim
        obtain ⟨h6, tk6, rfl, hj6, F6, N6⟩ := h5
        have hD6 := N6 (D, PySem.W.listOf outs.toArray n) (.tail _ (.tail _ (.head _)))
        have hlen := hJlen _ _ hj
        have hilt : i < vs.length := (List.getElem?_eq_some_iff.mp hg).1
        refine wpAny_list_append_plain ⟨n, hD6.1⟩ (fun h7 hp7 hs7 => ?_) (by rw [List.size_toArray]; omega)
        obtain ⟨n7, hn7⟩ := hp7
        have e7 : outs.toArray.push y = (outs ++ [y]).toArray := by simp
        rw [e7] at hn7
        refine ⟨vs.length - (i + 1), by omega, i + 1, outs ++ [y], n7, h7, tk6, oC4, o3, _, rfl, hilt, hj6, rfl, iC4, hc3, hd3, F6.change hs7 hD6.2.1 hD6.2.2, fun p hp => ?_⟩
        rcases List.mem_cons.mp hp with rfl | hp
        · have q := N6 (C, oC4) (.head _)
          exact ⟨(hs7.2 _ (Ne.symm dC)).trans q.1, q.2⟩
        · rcases List.mem_cons.mp hp with rfl | hp
          · have q := N6 (it, o3) (.tail _ (.head _))
            exact ⟨(hs7.2 _ iDne).trans q.1, q.2⟩
          · rcases List.mem_cons.mp hp with rfl | hp
            · exact ⟨hn7, hD6.2⟩
            · have q := N6 p (.tail _ (.tail _ (.tail _ hp)))
              exact ⟨(hs7.2 _ (rD p hp)).trans q.1, q.2⟩
    · refine ⟨0, [], 0, h2, _, oC, listIterO l 0, _, rfl, Nat.zero_le _, hJ0, rfl, iC, rfl, rfl, F3, fun p hp => ?_⟩
      rcases List.mem_cons.mp hp with rfl | hp
      · exact N3 _ (.head _)
      · rcases List.mem_cons.mp hp with rfl | hp
        · exact N3 _ (.tail _ (.tail _ (.head _)))
        · rcases List.mem_cons.mp hp with rfl | hp
          · exact N3 _ (.tail _ (.head _))
          · exact N3 p (.tail _ (.tail _ (.tail _ hp)))
  refine codeAny_compStart_list (loop _ rfl) ?_
  exact wpAny_pyIter_listiter (by
    have q := N3 (it, listIterO l 0) (.tail _ (.tail _ (.head _)))
    exact ⟨_, q.1, rfl, rfl⟩) (loop _ rfl)
end
end Mine

end
section
open PySem PySem.W PyProof.Rows
set_option maxRecDepth 100000
set_option linter.unusedVariables false
namespace Mine
section
variable {w : World} {p : Program} {loose : List PySem.Str} {mean : ExcName → Option Value} {mg mb : PySem.Str → Option Value} {A₀ : Around} {base h₀ : Heap} {hl : Option Value} {dp un : Nat} {gd : Option (List Code)} {outer : List Env} {env : Env} {L : Addr} {m : PySem.Str → Option Value} {news : List (Addr × Obj)} {s : Shared} {Q E : Value → Shared → Prop}
local macro_rules | `(tactic| walk_at "m room") => `(tactic| first | assumption | ((try simp only [depth_under_make, depth_under_kw, depth_in1, depth_deeper, depth_caller]); (try dsimp only [TopA]); omega))
local macro_rules | `(tactic| walk_at "m units") => `(tactic| first | assumption | ((try simp only [units_in1, units_deeper, Around.mark_units, units_caller]); (try dsimp only [TopA]); omega))
local macro_rules | `(tactic| walk_at "m prem") => `(tactic| ((case kB => k_asm); (case kF => k_asm); (case kX => k_asm); (case kN => k_asm); (case kT => k_asm); (case kf => exact rfl); (case kk => exact rfl); (case kd => walk_at "m room"); (case ku => walk_at "m units")))
local macro_rules | `(tactic| walk_at "m enterB") => `(tactic| (k_dflt (refine' enterW ?k1 ?k2 ?k3 ?k5 ?kA ?kF ?kK ?k6 ?k7 ?k8 ?k9 ?kB ?_ ?c2 ?c3 ?c4 ?c5; (case kA => exact rfl); (case kF => assumption); (case kK => assumption); (case k1 => k_asm); (case k2 => k_asm); (case k3 => k_asm); (case k5 => k_asm); (case k6 => k_is); (case k7 => k_is); (case k8 => walk_at "m room"); (case k9 => first | exact BindsTo.of_eq rfl | exact binds_K (by k_in) rfl (by k_is) rfl rfl rfl); (case c5 => decide); (case kB => exact locs rfl); (case c2 => exact rfl); (case c3 => exact rfl); (case c4 => exact rfl); k_whole; intro L' h' eL' F' N' B' X' T'; (try dsimp only); (try k_fold))))
local macro_rules | `(tactic| k_mem) => `(tactic| (with_reducible rw [List.mem_append]; first | (left; k_mem) | (right; k_mem)))
local macro_rules | `(tactic| walk_at "m premH") => `(tactic| ((case kB => k_asm); (case kF => k_asm); (case kX => k_asm); (case kT => k_asm); (case kf => exact rfl); (case kk => exact rfl); (case kd => walk_at "m room"); (case ku => walk_at "m units")))
local macro_rules | `(tactic| walk_at "m premM") => `(tactic| ((case mB => k_asm); (case mF => k_asm); (case mX => k_asm); (case mT => k_asm); (case mf => exact rfl); (case mk => exact rfl); (case md => walk_at "m room"); (case mu => walk_at "m units")))
local macro_rules | `(tactic| walk_at "call ref") => `(tactic| refine hold ?_)
local macro_rules | `(tactic| walk_at "exec For Name Name cons nil") => `(tactic| refine hold ?_)
local macro_rules | `(tactic| walk_at "exec For Name Name") => `(tactic| refine hold ?_)
local macro_rules | `(tactic| walk_at "exec For") => `(tactic| refine hold ?_)
local macro_rules | `(tactic| walk_at "exec For Name Call cons nil") => `(tactic| refine hold ?_)
local macro_rules | `(tactic| walk_at "exec For Name Call") => `(tactic| refine hold ?_)
local macro_rules | `(tactic| walk_at "exec While") => `(tactic| refine hold ?_)
local macro_rules | `(tactic| walk_at "exec While BoolOp cons nil") => `(tactic| refine hold ?_)
local macro_rules | `(tactic| walk_at "pyIter ref") => `(tactic| (k_here; k_dflt (refine' list_iter ?F ?N ?l ?_; (case F => k_asm); (case N => k_asm); (case l => exact isL (by k_asm) (by k_mem))); intro it9 h9 F9 N9; (try dsimp only)))
local macro_rules | `(tactic| walk_at "compareOp NotEq ref ref") => `(tactic| refine hold ?_)
local macro_rules | `(tactic| walk_at "getMethod ref") => `(tactic| refine hold ?_)
local macro_rules | `(tactic| walk_at "call builtin:list.clear") => `(tactic| refine hold ?_)
local macro_rules | `(tactic| walk_at "call builtin:list.insert") => `(tactic| refine hold ?_)
local macro_rules | `(tactic| walk_at "compareOp Eq ref ref") => `(tactic| refine hold ?_)
local macro_rules | `(tactic| walk_at "compareOp NotEq bool bool") => `(tactic| refine hold ?_)
local macro_rules | `(tactic| walk_at "compareOp Lt ref") => `(tactic| refine hold ?_)
local macro_rules | `(tactic| walk_at "compareOp Lt ref ref") => `(tactic| refine hold ?_)
local macro_rules | `(tactic| walk_at "eval ListComp") => `(tactic| refine hold ?_)
local macro_rules | `(tactic| walk_at "subscriptTail") => `(tactic| refine hold ?_)
local macro_rules | `(tactic| walk_at "call builtin:repr") => `(tactic| refine hold ?_)
local macro_rules | `(tactic| walk_at "call builtin:str.join") => `(tactic| refine hold ?_)
local macro_rules | `(tactic| walk_at "eval Name") => `(tactic| (k_here; (with_reducible show wpAny _ _ (eval _ (compEnv _ _ _)) _ _ _); k_dflt (refine' comp_name ?i ?N ?C ?_; (case i => assumption); (case N => k_asm); (case C => k_mem))))
local macro_rules | `(tactic| walk_at "eval Name") => `(tactic| (k_here; (with_reducible show wpAny _ _ (eval (PySem.Expr.Name (PySem.Str.ofString "repr") _) (compEnv _ _ _)) _ _ _); refine hold ?_))
set_option maxHeartbeats 4000000 in
theorem holds_yes {x : PySem.Str} {tq : Tok} {ls : List Lim} (O : OkT x) (hm : meant x = some ls) (hx90 : x.cps.size ≤ 90) (B : Below A₀ base outer h₀) (F : Fr h₀ L s.heap m) (X : (hd.heap_39 w.params).In h₀) (T : Top p loose mean mg mb h₀) (hf : env.frame = some L) (hke : env.scope.kind = .function) (hhl : hl = none) (TB : Top p loose mean mg mb base) (XB : (hd.heap_39 w.params).In base) (hbP : base.get? 425 = none) (CB : CodeHd base 427 425) (t0 : TabSt base s.heap)
    (hdp : dp + 200 < recursionLimit) (hun : un + 500 < cLine)
    (hret : ∀ h' tk', KeptF (hideAll s.heap [425]) (env :: outer) h' → TabSt base h' → Q (.bool true) { s with heap := h', toks := tk' }) :
    wpAny (model PySem.Challenge.rw_bn0039_01.row.prog w) (TopA hl dp un gd env outer) (call (.ref 428) [.str x tq]) Q E s := by
  have hw : wtl x.cps.toList ≤ 40 ∨ acc x.cps 0 0 = true := .inr (meant_len O hm).1
  have hh : ∀ ls, meant x = some ls → hl = none := fun _ _ => hhl
  have H : HOk hl s.heap := .inl hhl
  have hsh : Short ls := Short.of O.okl hx90 hm
  have h63 : ls.length ≤ 50 := Nat.le_trans hsh.len (by decide)
  revert X; k_fill; intro X
  refine wpAny_call (withB [(PySem.Str.ofString "text", .str x tq)] ?_)
  walk_at "m enterB"
  rename_i L0 h00 eL0 F0 N0 B0 X0 T0
  obtain ⟨ps, hps⟩ := t0.at
  obtain ⟨F0', N0', B0', st0⟩ := hide_ground hps hbP F0 B0
  have X0' := XB.keeps st0
  have T0' := TB.keeps st0
  have C0' : CHd (hideAll s.heap [425]) 427 425 := ⟨CB.keeps st0⟩
  have ht0 := tab_ps t0 hps
  clear CB
  clear F0 N0 B0 X0 T0
  generalize hideAll s.heap [425] = g at *
  k_steps
  unfold Hold
  refine' read_call ?kO ?kB ?kF ?kX ?kT ?kf ?kk ?kh ?kd ?ku ?r0 ?r1
  walk_at "m premH"
  case kO => assumption
  case kh => assumption
  case r0 => intro hm9; rw [hm] at hm9; cases hm9
  case r1 =>
    intro ls1 D1 outs1 own1 n1 h1 tk1 hm1 M1 T1 U1
    dsimp only
    obtain rfl : ls = ls1 := Option.some.inj (hm.symm.trans hm1)
    have F1 := Made.fr M1 (by assumption)
    have N1 := Made.news M1 (by assumption) (by assumption)
    have T1o := T1
    have U1o := U1
    obtain ⟨ow, N1, T1, P1, U1, S1⟩ := tab_in N1 T1 U1
    clear M1
    k_steps
    unfold Hold
    rename News _ _ _ _ => N9
    refine' many_call ?kO ?kw ?kB ?kF ?kX ?kT ?kf ?kk ?kH ?kd ?ku ?kh ?ret ?exc
    walk_at "m premH"
    case kO => assumption
    case kw => assumption
    case kH => exact .inl hhl
    case kh => assumption
    case exc => intro e h' tk' c2 hm2; rw [hm] at hm2; cases hm2
    case ret =>
      intro ls2 I vs n2 own2 h2 tk2 hm2 M2 I2 U2
      dsimp only
      obtain rfl : ls = ls2 := Option.some.inj (hm.symm.trans hm2)
      have F2 := Made.fr M2 (by assumption)
      have nI : ∀ p ∈ (D1, PySem.W.listOf outs1.toArray n1) :: ow, p.1 ≠ I := fun p hp e => by
        have q1 := (N9 p hp).1
        have q2 := (M2.2 _ (.head _)).2
        rw [show p.1 = I from e] at q1
        cases q2.symm.trans q1
      have N2 := Made.news M2 (by assumption) (by assumption)
      k_steps
      unfold Hold
      have hlen := I2.len
      refine' told_call (vs := vs) (ls := ls) ?kl ?ki ?kv ?kB ?kF ?kX ?kT ?kf ?kk ?kh ?kd ?ku ?kr
      walk_at "m premH"
      case kl => exact News.isList (by k_asm) (by k_mem)
      case ki => exact I2.at (by k_asm) (fun p hp => by simp [hp])
      case kv => omega
      case kh => assumption
      case kr =>
        intro D3 outs3 own3 n3 h3 tk3 M3 T3 U3
        dsimp only
        have F3 := Made.fr M3 (by assumption)
        have N3 := Made.news M3 (by assumption) (by assumption)
        k_steps
        unfold Hold
        refine told_ne (xs := outs3) (ys := outs1) (ls := ls) (isL (n := n3) N3 (by simp)) (isL (n := n1) N3 (by simp)) (T3.at N3 (fun p hp => by simp [hp])) (T1.at N3 (fun p hp => by simp [hp])) (by walk_at "m units") ?_
        k_steps
        unfold Hold
        refine' parse_call ?kO ?kw ?kB ?kF ?kX ?kT ?kf ?kk ?kH ?kd ?ku ?kh ?ret ?exc
        walk_at "m premH"
        case kO => assumption
        case kw => assumption
        case kH => exact .inl hhl
        case kh => assumption
        case exc => intro e h' tk' c2 hm2; rw [hm] at hm2; cases hm2
        case ret =>
          intro l4 r4 v4 own4 h4 tk4 hm4 M4 V4
          dsimp only
          obtain rfl : ls = l4 :: r4 := Option.some.inj (hm.symm.trans hm4)
          have F4 := Made.fr M4 (by assumption)
          have N4 := Made.news M4 (by assumption) (by assumption)
          k_steps
          unfold Hold
          refine' told_call (vs := [v4]) (ls := [l4]) ?kl ?ki ?kv ?kB ?kF ?kX ?kT ?kf ?kk ?kh ?kd ?ku ?kr
          walk_at "m premH"
          case kl => exact News.isList (by k_asm) (by k_mem)
          case ki => exact ItemsIn.at (own := own4) (by k_asm) (fun p hp => by simp [hp]) (.cons V4 .nil)
          case kv => exact Nat.le_of_ble_eq_true rfl
          case kh => assumption
          case kr =>
            intro D5 outs5 own5 n5 h5 tk5 M5 T5 U5
            dsimp only
            have F5 := Made.fr M5 (by assumption)
            have N5 := Made.news M5 (by assumption) (by assumption)
            k_steps
            obtain ⟨v1, r1, rfl, V1⟩ := told_one T1
            try unfold Hold
            refine' slice_one (v1 := v1) (r1 := r1) ?sF ?sN ?sl ?sp ?sq ?sh ?ss ?st ?sz
            case sF => assumption
            case sN => assumption
            case sl => exact isL (n := n1) N5 (by simp)
            case sp => constructor
            case sq => constructor
            case ss => with_unfolding_all rfl
            case st => intro _; with_unfolding_all rfl
            case sz => have := T1.len; omega
            case sh =>
              intro D6 h6 F6 N6
              dsimp only
              k_steps
              unfold Hold
              refine told_ne (xs := outs5) (ys := [v1]) (ls := [l4]) (isL (n := n5) N6 (by simp)) (isL (n := 0) N6 (by simp)) (T5.at N6 (fun p hp => by simp [hp])) (ToldIn.at N6 (fun p hp => by simp [hp]) (.cons V1 .nil)) (by walk_at "m units") ?_
              k_steps
              unfold Hold
              refine lm_meth (its := vs.toArray) (n := n2) N6 (by simp) PySem.F.slot_list_clear PySem.F.type_list_clear ?_
              k_steps
              unfold Hold
              refine clear_any (its := vs) (n := n2) (by assumption) N6 (by simp) (by omega) fun h7 F7 K7 => ?_
              have N7 := news_cut (ns := (D1, PySem.W.listOf (v1 :: r1).toArray n1) :: ow) N6 fun p hp => ⟨in_big hp, K7 p (in_big hp) (nI p hp)⟩
              clear K7 N6
              k_steps
              unfold Hold
              rename News _ _ _ _ => N7
              refine' many_call ?mO ?mw ?mB ?mF ?mX ?mT ?mf ?mk ?mH ?md ?mu ?mh ?mret ?mexc
              walk_at "m premM"
              case mO => assumption
              case mw => assumption
              case mH => exact .inl hhl
              case mh => assumption
              case mexc => intro e h' tk' c2 hm2; rw [hm] at hm2; cases hm2
              case mret =>
                intro ls8 G vs8 n8 own8 h8 tk8 hm8 M8 I8 U8
                dsimp only
                obtain rfl := Option.some.inj (hm.symm.trans hm8)
                have F8 := Made.fr M8 (by assumption)
                have N8 := Made.news M8 (by assumption) (by assumption)
                k_steps
                unfold Hold
                have hlen8 := I8.len
                refine' told_call (vs := vs8) (ls := l4 :: r4) ?nl ?ni ?nv ?mB ?mF ?mX ?mT ?mf ?mk ?mh ?md ?mu ?nr
                walk_at "m premM"
                case nl => exact isL (n := n8) (by k_asm) (by simp)
                case ni => exact I8.at (by k_asm) (fun p hp => by simp [hp])
                case nv => omega
                case mh => assumption
                case nr =>
                  intro D9 outs9 own9 n9 h9 tk9 M9 T9 U9
                  dsimp only
                  have F9 := Made.fr M9 (by assumption)
                  have N9 := Made.news M9 (by assumption) (by assumption)
                  k_steps
                  unfold Hold
                  refine told_ne (xs := outs9) (ys := v1 :: r1) (ls := l4 :: r4) (isL (n := n9) N9 (by simp)) (isL (n := n1) N9 (by simp)) (T9.at N9 (fun p hp => by simp [hp])) (T1.at N9 (fun p hp => by simp [hp])) (by walk_at "m units") ?_
                  k_steps
                  unfold Hold
                  refine wpAny_For ?_
                  k_steps
                  rename_i Od hA l10 hB F10 N10
                  have l11 : ∀ p ∈ (G, PySem.W.listOf vs8.toArray n8) :: (own8 ++ (D1, PySem.W.listOf (v1 :: r1).toArray n1) :: ow), p.1 ≠ Od := fun p hp => Nat.ne_of_lt (l10 p (in_big2 hp))
                  have N11 := news_cut (ns := (Od, PySem.W.listOf #[] 0) :: (G, PySem.W.listOf vs8.toArray n8) :: (own8 ++ (D1, PySem.W.listOf (v1 :: r1).toArray n1) :: ow)) N10 fun p hp => have q := in_big3 hp; ⟨q, (N10 p q).1⟩
                  clear l10 N10
                  refine list_iter F10 N11 (isL (its := vs8.toArray) (n := n8) N11 (.tail _ (.head _))) fun it h12 F12 N12 => ?_
                  have hap := ins_apart N12 U8 U1 l11
                  dsimp only
                  k_steps
                  refine' insert_fr (vs := vs8) (ks := (l4 :: r4).map fun l => l.1.sec) (n0 := n8) (D1 := D1) (rest := (G, PySem.W.listOf vs8.toArray n8) :: (own8 ++ (D1, PySem.W.listOf (v1 :: r1).toArray n1) :: ow)) ?fF ?fN ?fG ?fa ?fm ?fstep ?fstop
                  case fF => exact F12
                  case fN => exact N12
                  case fG => exact .head _
                  case fa => exact hap
                  case fm => exact ⟨rfl, rfl⟩
                  case fstep =>
                    intro i v gs n h13 tk13 m13 o13 hv hi hS hoc F13 N13
                    unfold hdF at F13
                    obtain ⟨x13, l13, hl13, rfl⟩ := items_get I8 hv
                    have hgd : vs8.getD i .none = .ref x13 := by rw [List.getD_eq_getElem?_getD, hv]; rfl
                    k_steps
                    have hgl := hS.len
                    refine ord_len (gs := gs) (n := n) (by assumption) (.tail _ (.head _)) (by omega) fun t13 tk14 => ?_
                    k_steps
                    unfold Hold
                    refine' PyProof.Rows.While_down (i := Str.ofString "place") (c := insC ((l4 :: r4).map fun l => l.1.sec) gs i) (K := 0) ?wF ?wN ?wm ?wtest ?wturn ?wstop ?wdone
                    case wF => assumption
                    case wN => assumption
                    case wm => exact rfl
                    case wstop => exact ⟨Int.natCast_nonneg _, rfl⟩
                    case wtest =>
                      intro k t h15 tk15 hk F15 N15
                      unfold PyProof.Rows.bindM at F15
                      k_steps
                      · have h0k : 0 < k := by assumption
                        obtain ⟨y15, l15, hl15, hy15, hit15⟩ := it_at N15 (fun p hp => by simp [hp]) I8 (j := gs.getD (k.toNat - 1) 0) (ord_lt hS (by omega) (by omega))
                        have hit16 := it_at2 N15 (fun p hp => by simp [hp]) I8 hl13 hgd
                        try unfold Hold
                        refine ord_item (k := k) N15 (.tail _ (.head _)) h0k (by omega) (by omega) hy15 ?_ (by with_unfolding_all rfl) (by intro _; with_unfolding_all rfl)
                        k_steps
                        unfold Hold
                        refine item_lt hit16 hit15 (by k_asm) (by k_asm) (by k_asm) (by k_asm) rfl rfl (by walk_at "m room") (by walk_at "m units") fun h16 tk16 k16 => ?_
                        have e16 := ins_eq h0k hl13 hl15
                        k_steps
                        all_goals first | exact ⟨_, _, rfl, k16⟩ | exact (decide_eq_true (by assumption)).symm.trans e16 | exact (decide_eq_false (by assumption)).symm.trans e16
                      · have h0k : ¬ 0 < k := by assumption
                        unfold insC
                        rw [decide_eq_false h0k]; rfl
                      · exact ⟨_, _, rfl, fun _ _ e => e⟩
                    case wturn =>
                      intro k t h15 tk15 hk hc F15 N15
                      unfold PyProof.Rows.bindM at F15
                      k_steps
                    case wdone =>
                      intro k t h15 tk15 hk hk0 hall hc hM F15 N15
                      unfold PyProof.Rows.bindM at F15
                      k_steps
                      unfold Hold
                      refine lm_meth (its := (gs.map fun i => vs8.getD i .none).toArray) (n := n) N15 (.tail _ (.head _)) PySem.F.slot_list_insert PySem.F.type_list_insert ?_
                      k_steps
                      unfold Hold
                      refine insert_any (its := gs.map fun i => vs8.getD i .none) (k := k.toNat) (n := n) F15 N15 (.tail _ (.head _)) (by rw [List.length_map]; omega) (by rw [List.length_map]; omega) (by omega) fun h16 F16 K16 hn16 => ?_
                      k_steps
                      obtain ⟨n16, e16⟩ := hn16
                      refine ⟨gs.take k.toNat ++ i :: gs.drop k.toNat, n16, h16, _, _, rfl, ins_ok hS hk hk0 hall hc, ⟨rfl, rfl⟩, F16, ins_news N15 hoc (fun p hp => (hap p hp).2) K16 ?_⟩
                      rw [e16]
                      unfold ordO
                      rw [List.map_append, List.map_cons, List.map_take, List.map_drop, hgd]
                  case fstop =>
                    intro gs n tk13 m13 hS
                    refine ⟨hhl, fun h13 F13 N13 => ?_⟩
                    unfold hdF at F13
                    k_steps
                    refine kla_eval rfl ?_
                    refine lam_made F13 N13 T0' C0'.hd rfl (by kernel_rfl) rfl rfl (ps := ps) (.tail _ (.tail _ (List.mem_append_right _ (.tail _ P1)))) ht0 st0 fun f14 ct14 c14 ns h14 tk14 F14 N14 hns hT14 => ?_
                    k_steps
                    have hD14 := hns _ (.tail _ (.tail _ (List.mem_append_right _ (.head _)))) (by intro e; cases e)
                    refine' st_sorted (kz := (l4 :: r4).map fun l => l.1.sec) (vs := v1 :: r1) (l := D1) (q := f14) F14 N14 ?zl ?zk ?z64 ?zturn ?zdone
                    case zl => exact isL (n := n1) N14 (.tail _ hD14)
                    case zk => rw [List.length_map]; exact T1.len.symm
                    case z64 => have := T1.len; omega
                    case zturn =>
                      intro i v k hv hk h15 tk15 own15 F15 N15
                      obtain ⟨t15, l15, hl15, rfl, u0, u1, u2, u3, u4, u5, ht15⟩ := told_get T1 hv
                      have hk15 : k = l15.1.sec := by
                        rw [List.getElem?_map, hl15] at hk
                        exact (Option.some.inj hk).symm
                      have ht16 := hns _ (.tail _ (.tail _ (List.mem_append_right _ (.tail _ ht15)))) (by intro e; cases e)
                      have hCR := ((hT14.mono fun p hp => List.mem_append_left own15 (.tail _ hp)).here F15 N15).2
                      refine wpAny_call (kla_code (binds := [(Str.ofString "row", .ref t15)]) B0' F15 X0' N15 T0' rfl rfl rfl (List.mem_append_left _ (.head _)) hCR (by walk_at "m room") rfl (locs rfl) (fun g6 L6 h6 FG6 F6 N6 B6 X6 T6 => ?_) rfl rfl rfl (by decide))
                      k_steps
                      try unfold Hold
                      refine PyProof.Rows.item_tuple (j := 0) (News.isTup N6 (List.mem_append_left _ (.tail _ ht16))) (by decide) (by decide) rfl rfl ?_ (by with_unfolding_all rfl) (by intro _; with_unfolding_all rfl)
                      refine leaveK_ F6 N6 fun F7 N7 => ?_
                      rw [hk15]
                      exact KskEnd.intro F7 N7 fun p hp => hp
                    case zdone =>
                      intro D15 h15 tk15 out15 c15 F15 N15 l15 hS15
                      k_steps
                      rename News _ _ _ _ => N16
                      have hOd := hns _ (.head _) (by intro e; cases e)
                      unfold Hold
                      refine' told_call (vs := gs.map fun i => vs8.getD i .none) (ls := gs.map fun i => (l4 :: r4).getD i l4) ?nl ?ni ?nv ?mB ?mF ?mX ?mT ?mf ?mk ?mh ?md ?mu ?nr
                      walk_at "m premM"
                      case nl => exact isL (n := n) N16 (.tail _ (.tail _ hOd))
                      case ni => exact perm_at hS ((I8.at N16 fun p hp => .tail _ (.tail _ (hns p (.tail _ (.tail _ (List.mem_append_left _ hp))) (isI_none (U8 p hp)))))) hlen8
                      case nv => rw [List.length_map]; have := hS.len; omega
                      case mh => assumption
                      case nr =>
                        intro D17 outs17 own17 n17 h17 tk17 M17 T17 U17
                        dsimp only
                        have F17 := Made.fr M17 (by assumption)
                        have N17 := Made.news M17 (by assumption) (by assumption)
                        k_steps
                        unfold Hold
                        obtain ⟨gs', hS', ho'⟩ := hS15
                        obtain rfl : gs' = gs := by
                          rw [T1.len, ← hlen8] at hS'
                          exact hS'.same hS
                        have ho15 : out15 = (gs'.map fun i => (v1 :: r1).getD i .none).toArray := by rw [← ho']
                        subst ho15
                        have TA17 := T17.at N17 (fun p hp => by simp [hp])
                        have hD15 : News g L0 h17 [(D15, seqObj "list" (gs'.map fun i => (v1 :: r1).getD i .none).toArray c15)] := fun p hp => N17 p (by rcases List.mem_singleton.mp hp with rfl; simp)
                        have TB17 := told_perm (d := l4) hS (T1o.at N17 fun p hp => by
                          have := hns p (.tail _ (.tail _ (List.mem_append_right _ (.tail _ (S1 p hp))))) (tup_none (U1o p hp))
                          simp [this]) (by rw [T1.len, hlen8])
                        refine told_ne (News.isList N17 (.head _)) (News.isList hD15 (.head _)) TA17 TB17 (by walk_at "m units") ?_
                        k_steps
                        unfold Hold
                        refine wpAny_For ?_
                        k_steps
                        refine PyProof.Rows.len_list (News.isList hD15 (.head _)) (by rw [List.size_toArray, List.length_map]; have := hS.len; omega) ?_
                        have N18 := news_cut (ns := (D15, seqObj "list" (gs'.map fun i => (v1 :: r1).getD i .none).toArray c15) :: ns) N17 (fun p hp => have q : p ∈ _ := in_big4 hp; ⟨q, (N17 p q).1⟩)
                        clear hD15 N17
                        k_steps
                        rename News _ _ _ _ => N19
                        rename Fr _ _ _ _ => F19
                        rename IsRange _ _ _ _ _ _ _ _ => R19
                        have hgl := hS.len
                        have sub8 : ∀ p ∈ own8, p ∈ ns := fun p hp => hns p (.tail _ (.tail _ (List.mem_append_left _ hp))) (isI_none (U8 p hp))
                        have sub1 : ∀ p ∈ own1, p ∈ ns := fun p hp => hns p (.tail _ (.tail _ (List.mem_append_right _ (.tail _ (S1 p hp))))) (tup_none (U1o p hp))
                        refine range_iter (n := gs'.length) F19 N19 R19 (by simp) (by omega) fun it h20 F20 N20 hap20 => ?_
                        dsimp only
                        k_steps
                        refine' range_fr (WM D15 Od) ?oF ?oN ?oh ?om ?ostep ?ostop
                        case oF => exact F20
                        case oN => exact N20
                        case oh => exact hap20
                        case om => exact ⟨rfl, rfl⟩
                        case ostep =>
                          intro i h21 tk21 m21 hi hP21 F21 N21
                          rw [hP21.eq] at F21
                          unfold wmF at F21
                          k_steps
                          unfold Hold
                          refine wpAny_For ?_
                          k_steps
                          rename News _ _ _ _ => N22
                          refine PyProof.Rows.len_list (News.isList N22 (.tail _ (.head _))) (by rw [List.size_toArray, List.length_map]; omega) ?_
                          k_steps
                          rename News _ _ _ _ => N23
                          rename Fr _ _ _ _ => F23
                          rename IsRange _ _ _ _ _ _ _ _ => R23
                          refine range_iter (n := gs'.length) F23 N23 R23 (by simp) (by omega) fun it2 h24 F24 N24 hap24 => ?_
                          dsimp only
                          k_steps
                          refine' range_fr (WM2 D15 Od i) ?iF ?iN ?ih ?im ?istep ?istop
                          case iF => exact F24
                          case iN => exact N24
                          case ih => exact hap24
                          case im => exact ⟨rfl, rfl, _, rfl⟩
                          case istep =>
                            intro j h25 tk25 m25 hj hP25 F25 N25
                            obtain ⟨ti25, em25⟩ := hP25.eq
                            rw [em25] at F25
                            unfold wmF2 at F25
                            k_steps
                            rename News _ _ _ _ => N26
                            obtain ⟨yi, ti, li, hyi, hti, iti, tti⟩ := pair_at N26 (fun p hp => .tail _ (.tail _ (.tail _ (sub8 p hp)))) (fun p hp => .tail _ (.tail _ (.tail _ (sub1 p hp)))) I8 T1o hS hi
                            obtain ⟨yj, tj, lj, hyj, htj, itj, ttj⟩ := pair_at N26 (fun p hp => .tail _ (.tail _ (.tail _ (sub8 p hp)))) (fun p hp => .tail _ (.tail _ (.tail _ (sub1 p hp)))) I8 T1o hS hj
                            try unfold Hold
                            refine ord_sub (vs := vs8) (gs := gs') (n := n) N26 (.tail _ (.tail _ (.tail _ hOd))) hi (by omega) hyi ?_ (by with_unfolding_all rfl) (by intro _; with_unfolding_all rfl)
                            k_steps
                            try unfold Hold
                            refine ord_sub (vs := vs8) (gs := gs') (n := n) N26 (.tail _ (.tail _ (.tail _ hOd))) hj (by omega) hyj ?_ (by with_unfolding_all rfl) (by intro _; with_unfolding_all rfl)
                            k_steps
                            unfold Hold
                            refine item_eq iti itj (by k_asm) (by k_asm) (by k_asm) (by k_asm) rfl rfl (by walk_at "m room") (by walk_at "m units") fun h27 tk27 k27 => ?_
                            dsimp only
                            have F27 := Fr.keeps (by k_asm) k27
                            have N27 := news_keeps N26 k27
                            k_steps
                            try unfold Hold
                            refine ord_sub (vs := v1 :: r1) (gs := gs') (n := c15) N27 (.tail _ (.tail _ (.head _))) hi (by omega) hti ?_ (by with_unfolding_all rfl) (by intro _; with_unfolding_all rfl)
                            k_steps
                            try unfold Hold
                            refine ord_sub (vs := v1 :: r1) (gs := gs') (n := c15) N27 (.tail _ (.tail _ (.head _))) hj (by omega) htj ?_ (by with_unfolding_all rfl) (by intro _; with_unfolding_all rfl)
                            k_steps
                            unfold Hold
                            refine tup_eq (tti.keeps k27) (ttj.keeps k27) (by walk_at "m units") ?_
                            rw [eq_same]
                            k_steps
                            unfold Hold
                            refine PyProof.Rows.ne_bool ?_
                            rw [bne_self_eq_false]
                            k_steps
                            try unfold Hold
                            refine ord_sub (vs := vs8) (gs := gs') (n := n) N27 (.tail _ (.tail _ (.tail _ hOd))) hi (by omega) hyi ?_ (by with_unfolding_all rfl) (by intro _; with_unfolding_all rfl)
                            k_steps
                            try unfold Hold
                            refine ord_sub (vs := vs8) (gs := gs') (n := n) N27 (.tail _ (.tail _ (.tail _ hOd))) hj (by omega) hyj ?_ (by with_unfolding_all rfl) (by intro _; with_unfolding_all rfl)
                            k_steps
                            unfold Hold
                            refine item_lt (iti.keeps k27) (itj.keeps k27) (by k_asm) (by k_asm) (by k_asm) (by k_asm) rfl rfl (by walk_at "m room") (by walk_at "m units") fun h28 tk28 k28 => ?_
                            dsimp only
                            have F28 := Fr.keeps F27 k28
                            have N28 := news_keeps N27 k28
                            have ui28 := (tti.keeps k27).keeps k28
                            have uj28 := (ttj.keeps k27).keeps k28
                            k_steps
                            try unfold Hold
                            refine ord_sub (vs := v1 :: r1) (gs := gs') (n := c15) N28 (.tail _ (.tail _ (.head _))) hi (by omega) hti ?_ (by with_unfolding_all rfl) (by intro _; with_unfolding_all rfl)
                            k_steps
                            try unfold Hold
                            refine tup_sec ui28 (fun t29 => ?_) (by with_unfolding_all rfl)
                            k_steps
                            try unfold Hold
                            refine ord_sub (vs := v1 :: r1) (gs := gs') (n := c15) N28 (.tail _ (.tail _ (.head _))) hj (by omega) htj ?_ (by with_unfolding_all rfl) (by intro _; with_unfolding_all rfl)
                            k_steps
                            try unfold Hold
                            refine tup_sec uj28 (fun t30 => ?_) (by with_unfolding_all rfl)
                            k_steps
                            unfold Hold
                            refine PyProof.Rows.ne_bool ?_
                            rw [bne_self_eq_false]
                            k_steps
                            exact ⟨h28, _, _, rfl, ⟨rfl, rfl, ti25, rfl⟩, F28, N28⟩
                          case istop =>
                            intro tk25 m25 hP25
                            refine ⟨hhl, fun h25 F25 N25 => ?_⟩
                            refine wpAny_execs_nil ?_
                            exact ⟨rfl, h25, tk25, m25, rfl, ⟨hP25.h0, hP25.h1⟩, F25, N25⟩
                        case ostop =>
                          intro tk21 m21 hP21
                          refine ⟨hhl, fun h21 F21 N21 => ?_⟩
                          rw [hP21.eq] at F21
                          unfold wmF at F21
                          k_steps
                          unfold Hold
                          refine wpAny_ListComp (by decide) rfl (by decide) ?_
                          k_steps
                          have hsh' : Short (gs'.map fun i => (l4 :: r4).getD i l4) := hsh.perm (perm_map hS (hlen8.symm))
                          have hvl : (gs'.map fun i => vs8.getD i .none).length = (gs'.map fun i => (l4 :: r4).getD i l4).length := by rw [List.length_map, List.length_map]
                          refine list_iterL F21 N21 (isL (its := (gs'.map fun i => vs8.getD i .none).toArray) (n := n) N21 (.tail _ hOd)) fun it22 h22 F22 N22 hap22 => ?_
                          dsimp only
                          refine' comp_str (nl := n) (vs := gs'.map fun i => vs8.getD i .none) (fun i outs => StrsAre outs (((gs'.map fun i => (l4 :: r4).getD i l4).take i).map limRepr) ∧ outs.length = i) hhl F22 N22 ?ul ?uap ?uv ?u0 ?ulen ?uc ?uk ?ux ?uturn ?udone
                          case uc => decide
                          case uk => exact rfl
                          case ux => exact rfl
                          case ul => exact .tail _ hOd
                          case uap => exact hap22
                          case uv => rw [List.length_map]; omega
                          case u0 => exact ⟨.nil, rfl⟩
                          case ulen => exact fun i outs hj => hj.2
                          case uturn =>
                            intro i v outs C oC D n8' o h23 tk23 mC hv hj iC F23 N23
                            obtain ⟨x23, l23, hl23, rfl, hit23⟩ := (perm_at (d := l4) hS (I8.at N23 fun p hp => .tail _ (.tail _ (.tail _ (.tail _ (sub8 p hp))))) hlen8).get hv
                            have hsm := hsh'.small (List.mem_of_getElem? hl23)
                            k_steps
                            unfold Hold
                            refine' comp_builtin F23 X0' (topRead_of T0') ?bk ?bb (by decide) ?_
                            case bk => kernel_rfl
                            case bb => boot_by_name
                            k_steps
                            unfold Hold
                            refine item_repr hit23 hsm.1 hsm.2 (by k_asm) (by k_asm) (by k_asm) (by k_asm) rfl rfl (by walk_at "m room") (by walk_at "m units") fun t24 h24 tk24 k24 => ?_
                            dsimp only
                            k_steps
                            have e24 : (gs'.map fun i => (l4 :: r4).getD i l4).take (i + 1) = (gs'.map fun i => (l4 :: r4).getD i l4).take i ++ [l23] := by rw [List.take_add_one, hl23]; rfl
                            refine ⟨h24, tk24, rfl, ⟨?_, by rw [List.length_append, hj.2]; rfl⟩, Fr.keeps F23 k24, news_keeps N23 k24⟩
                            rw [e24, List.map_append]
                            exact strs_snoc hj.1
                          case udone =>
                            intro D outs n23 h23 tk23 hj F23 N23
                            k_steps
                            unfold Hold
                            obtain ⟨hj1, hj2⟩ := hj
                            rw [List.take_of_length_le (by rw [List.length_map, List.length_map]; exact Nat.le_refl _)] at hj1
                            have hne' : (gs'.map fun i => (l4 :: r4).getD i l4) ≠ [] := fun e => by
                              have e1 := congrArg List.length e
                              rw [List.length_map, hgl, hlen8] at e1
                              cases e1
                            obtain ⟨OY, hmY⟩ := hsh'.text hne'
                            refine join_list (isL (its := outs.toArray) (n := n23) N23 (.head _)) hj1 hsh'.fit fun t24 k24 => ?_
                            generalize Txt.join (Str.ofString "; ") ((gs'.map fun i => (l4 :: r4).getD i l4).map limRepr) = Y at *
                            k_steps
                            unfold Hold
                            refine' many_call (x := Y) ?mO ?mw ?mB ?mF ?mX ?mT ?mf ?mk ?mH ?md ?mu ?mh ?mret ?mexc
                            walk_at "m premM"
                            case mO => exact OY
                            case mw => exact .inr (meant_len OY hmY).1
                            case mH => exact .inl hhl
                            case mh => exact fun _ _ => hhl
                            case mexc => intro e h' tk' c2 hm2; rw [hmY] at hm2; cases hm2
                            case mret =>
                              intro ls25 I25 vs25 n25 own25 h25 tk25 hm25 M25 II25 U25
                              dsimp only
                              have e25 := Option.some.inj (hmY.symm.trans hm25)
                              subst e25
                              have F25 := Made.fr M25 (by assumption)
                              have N25 := Made.news M25 (by assumption) (by assumption)
                              k_steps
                              unfold Hold
                              have hlen25 := II25.len
                              rw [List.length_map] at hlen25
                              refine' told_call (vs := vs25) (ls := gs'.map fun i => (l4 :: r4).getD i l4) ?nl ?ni ?nv ?mB ?mF ?mX ?mT ?mf ?mk ?mh ?md ?mu ?nr
                              walk_at "m premM"
                              case nl => exact isL (n := n25) N25 (by simp)
                              case ni => exact II25.at N25 (fun p hp => by simp [hp])
                              case nv => omega
                              case mh => assumption
                              case nr =>
                                intro D26 outs26 own26 n26 h26 tk26 M26 T26 U26
                                dsimp only
                                have F26 := Made.fr M26 (by assumption)
                                have N26 := Made.news M26 (by assumption) (by assumption)
                                k_steps
                                unfold Hold
                                have sub26 : ∀ p ∈ (D15, seqObj "list" (gs'.map fun i => (v1 :: r1).getD i .none).toArray c15) :: ns, p ∈ (D26, PySem.W.listOf outs26.toArray n26) :: own26 ++ ((I25, PySem.W.listOf vs25.toArray n25) :: own25 ++ (D, PySem.W.listOf outs.toArray n23) :: (D15, seqObj "list" (gs'.map fun i => (v1 :: r1).getD i .none).toArray c15) :: ns) := fun p hp => by
                                  refine List.mem_append_right _ (List.mem_append_right _ (.tail _ hp))
                                have TB26 := told_perm (d := l4) hS (T1o.at N26 fun p hp => sub26 p (.tail _ (sub1 p hp))) (by rw [T1.len, hlen8])
                                refine told_eq (News.isList N26 (.head _)) (News.isList N26 (sub26 _ (.head _))) (T26.at N26 (fun p hp => by simp [hp])) TB26 (by walk_at "m units") ?_
                                k_steps
                                exact hret _ _ (KeptF.of_keeps F26.keep) ((hT14.mono fun p hp => sub26 p (.tail _ hp)).here F26 N26).1
end
end Mine

end
section
open PySem PySem.W PyProof.Rows
set_option maxRecDepth 100000
set_option linter.unusedVariables false
namespace Mine
section
variable {w : World} {p : Program} {loose : List PySem.Str} {mean : ExcName → Option Value} {mg mb : PySem.Str → Option Value} {A₀ : Around} {base h₀ : Heap} {hl : Option Value} {dp un : Nat} {gd : Option (List Code)} {outer : List Env} {env : Env} {L : Addr} {m : PySem.Str → Option Value} {news : List (Addr × Obj)} {s : Shared} {Q E : Value → Shared → Prop}
theorem not_frame {a : Addr} {o : Obj} {vs : Array Value} (B : Below A₀ base outer h₀) (F : Fr h₀ L s.heap m) (hf : env.frame = some L) (ha : s.heap.get? a = some o) (hd : o.data = .fields vs) : a ∉ (env :: outer).filterMap (·.frame) := fun hm => by
  obtain ⟨v, hv, hvf⟩ := List.mem_filterMap.mp hm
  rcases List.mem_cons.mp hv with rfl | hv
  · rw [hf] at hvf
    cases hvf
    obtain ⟨o', es, ep, h1, h2, _⟩ := F.ns
    rw [ha] at h1; cases h1
    rw [hd] at h2; cases h2
  · obtain ⟨_, o', ho', hn⟩ := B.frames.mem (List.mem_filterMap.mpr ⟨v, hv, hvf⟩)
    have := F.keep _ _ ho'
    rw [ha] at this; cases this
    exact hn _ hd
theorem tab_kept {h' : Heap} (t0 : TabSt base s.heap) (B : Below A₀ base outer h₀) (F : Fr h₀ L s.heap m) (hf : env.frame = some L) (k : KeptF s.heap (env :: outer) h') : TabSt base h' := by
  rcases t0 with t | ⟨c', oc, vs, tq, t, h1, h2, h3, h4⟩
  · exact .inl (k.1 _ _ t (not_frame B F hf t rfl))
  · exact .inr ⟨c', oc, vs, tq, k.1 _ _ t (not_frame B F hf t rfl), k.1 _ _ h1 (not_frame B F hf h1 h2), h2, h3, h4⟩
theorem holds_call {x : PySem.Str} {tq : Tok} {a b : Nat} (G : Good a b x) (ha : a ≤ 90) (hb : b ≤ 40) (B : Below A₀ base outer h₀) (F : Fr h₀ L s.heap m) (X : (hd.heap_39 w.params).In h₀) (T : Top p loose mean mg mb h₀) (hf : env.frame = some L) (hke : env.scope.kind = .function) (hhl : hl = none) (TB : Top p loose mean mg mb base) (XB : (hd.heap_39 w.params).In base) (hbP : base.get? 425 = none) (CB : CodeHd base 427 425) (t0 : TabSt base s.heap)
    (hdp : dp + 200 < recursionLimit) (hun : un + 500 < cLine)
    (hret : ∀ h' tk', KeptF (hideAll s.heap [425]) (env :: outer) h' → TabSt base h' → Q (.bool true) { s with heap := h', toks := tk' }) :
    wpAny (model PySem.Challenge.rw_bn0039_01.row.prog w) (TopA hl dp un gd env outer) (call (.ref 428) [.str x tq]) Q E s := by
  have O : OkT x := G.okT (by omega)
  cases hm : meant x with
  | none => exact holds_no O (.inl (Nat.le_trans G.wt hb)) hm B F X T hf hke hhl TB XB hdp hun fun h' tk' k => hret h' tk' ⟨fun b o e hn => k.1 b o (of_hideAll _ e) hn, fun b o e hn => k.2 b o (of_hideAll _ e) hn⟩ (tab_kept t0 B F hf k)
  | some ls => exact holds_yes O hm (Nat.le_trans G.len ha) B F X T hf hke hhl TB XB hbP CB t0 hdp hun hret
end

/-! ## the law's ground, on behind a call -/
def TabL (base : Heap) (tl : List (Addr × Obj)) : Prop := tl = [(425, tabObj #[])] ∨ ∃ c' oc, tl = [(425, tabObj #[rawInt 305, rawInt 28, .ref c']), (c', oc)] ∧ TabC base base c' oc
section
variable {base h h' : Heap} {L : Addr} {m : PySem.Str → Option Value} {tl ns : List (Addr × Obj)} {env : Env}
theorem TabL.st (t : TabL base tl) (N : News base L h ns) (sub : ∀ p ∈ tl, p ∈ ns) : TabSt base h := by
  rcases t with rfl | ⟨c', oc, rfl, ⟨vs, tq, h1, h2⟩, h3⟩
  · exact .inl (N _ (sub _ (.head _))).1
  · exact .inr ⟨c', oc, vs, tq, (N _ (sub _ (.head _))).1, (N _ (sub _ (.tail _ (.head _)))).1, h1, h2, h3⟩
theorem TabL.at (t : TabL base tl) : ∃ ps, (425, tabObj ps) ∈ tl := by
  rcases t with rfl | ⟨c', oc, rfl, _⟩ <;> exact ⟨_, .head _⟩
theorem TabSt.led (t : TabSt base h) (F : Fr base L h m) (hb : base.get? 425 = none) : ∃ tl, TabL base tl ∧ News base L h tl := by
  have ne : ∀ {a o vs}, h.get? a = some o → o.data = .fields vs → a ≠ L := fun {a o vs} ha hd e => by
    subst e
    obtain ⟨o', es, ep, h1, h2, _⟩ := F.ns
    rw [ha] at h1; cases h1
    rw [hd] at h2; cases h2
  rcases t with t | ⟨c', oc, vs, tq, t, h1, h2, h3, h4⟩
  · refine ⟨_, .inl rfl, fun p hp => ?_⟩
    rcases List.mem_singleton.mp hp with rfl
    exact ⟨t, ne t rfl, hb⟩
  · refine ⟨_, .inr ⟨c', oc, rfl, ⟨vs, tq, h2, h3⟩, h4⟩, fun p hp => ?_⟩
    rcases List.mem_cons.mp hp with rfl | hp
    · exact ⟨t, ne t rfl, hb⟩
    · rcases List.mem_singleton.mp hp with rfl
      exact ⟨h1, ne h1 h2, h4⟩
theorem fr_on (F : Fr base L h m) {ps : Array Value} (hP : h.get? 425 = some (tabObj ps)) (hb : base.get? 425 = none) (k : KeptF (hideAll h [425]) [env] h') (hf : env.frame = some L) : Fr base L h' m := by
  have hL : [env].filterMap (·.frame) = [L] := by simp [hf]
  refine ⟨k.2.ns ?_, fun b o e => ?_, F.above⟩
  · obtain ⟨o', es, ep, h1, h2, r⟩ := F.ns
    exact ⟨o', es, ep, hide_one h1 (fun e => by rw [e, hP] at h1; cases h1; cases h2), h2, r⟩
  · refine k.1 b o (hide_one (F.keep b o e) (fun q => by rw [q, hb] at e; cases e)) ?_
    rw [hL]
    intro hm
    rcases List.mem_singleton.mp hm with rfl
    exact (Nat.not_lt.mpr F.above) (Heap.lt_size e)
theorem news_on (N : News base L h ns) (hne : ∀ p ∈ ns, p.1 ≠ 425) (k : KeptF (hideAll h [425]) [env] h') (hf : env.frame = some L) : News base L h' ns := fun p hp => by
  have hL : [env].filterMap (·.frame) = [L] := by simp [hf]
  refine ⟨k.1 _ _ (hide_one (N p hp).1 (hne p hp)) ?_, (N p hp).2⟩
  rw [hL]
  intro hm
  exact (N p hp).2.1 (List.mem_singleton.mp hm)
theorem ne_425 {ps : Array Value} (hP : h.get? 425 = some (tabObj ps)) (N : News base L h ns) (hc : ∀ p ∈ ns, p.2.cls ≠ .none) : ∀ p ∈ ns, p.1 ≠ 425 := fun p hp e => by
  have h1 := (N p hp).1
  rw [e, hP] at h1
  exact hc p hp (by rw [← Option.some.inj h1])
end
end Mine

end
section
open PySem PySem.W PyProof.Rows
set_option maxRecDepth 100000
set_option linter.unusedVariables false
namespace Mine
section
variable {prog : Program} {w : World} {A : Around} {E : Value → Shared → Prop} {s : Shared} {h₀ : Heap} {L l : Addr} {m : PySem.Str → Option Value} {news : List (Addr × Obj)}
theorem slice_five {value slice : PySem.Expr} {its : List Value} {vl vu : Value} {Q : Value → Shared → Prop}
    (F : Fr h₀ L s.heap m) (N : News h₀ L s.heap news) (hl : s.heap.IsList l its.toArray) (pl : IsPart vl none) (pu : IsPart vu (some 5))
    (h : ∀ D h', Fr h₀ L h' m → News h₀ L h' ((D, PySem.W.listOf (its.take 5).toArray 0) :: news) → Q (.ref D) { s with heap := h' })
    (hs : subscripted slice false (.ref l) (.ref s.heap.objs.size) = operate [.ref s.heap.objs.size, .ref l] (getItem (.ref l) (.ref s.heap.objs.size)))
    (ht : ∀ r, letTemporaryGo value (.ref l) r = pure ()) (hz : its.length ≤ 1000) :
    wpAny (model prog w) A (subscriptTail value slice (.ref l) (.ref s.heap.objs.size)) Q E { s with heap := s.heap.push { cls := .type "slice", data := .fields #[vl, vu, .none] } } := by
  have h1000 : (1000 : Nat) ≤ sizeLine := by decide
  refine PyProof.Rows.slice_list F N hl pl pu (fun h' F' N' => h _ h' F' ?_) hs ht (by rw [List.size_toArray]; omega)
  have e : slicePick its.toArray none (some 5) none = (its.take 5).toArray := by
    rw [show (5 : Int) = ((5 : Nat) : Int) from rfl, PySem.slicePick_upto']
  rw [e] at N'
  exact N'
theorem item_at {value slice : PySem.Expr} {its : List Value} {v : Value} {n i : Nat} {u : Tok} {Q : Value → Shared → Prop} (N : News h₀ L s.heap news) (hm : (l, PySem.W.listOf its.toArray n) ∈ news) (hv : its[i]? = some v) (hz : its.length ≤ 1000) (h : Q v s)
    (hs : subscripted slice false (.ref l) (.int (i : Nat) u) = operate [.ref l, .int (i : Nat) u] (getItem (.ref l) (.int (i : Nat) u))) (hg : ∀ r, letTemporaryGo value (.ref l) r = pure ()) :
    wpAny (model prog w) A (subscriptTail value slice (.ref l) (.int (i : Nat) u)) Q E s := by
  have hi : i < its.length := (List.getElem?_eq_some_iff.mp hv).1
  exact PyProof.Rows.item_listL (l := its) (x := v) (isL N hm) (by omega) (by omega) (by rw [Int.toNat_natCast]; exact hv) h hs hg
abbrev callA (d u : Nat) : Around := { depth := d, frames := some [], guards := some [], units := u }
structure LenOk (v : List Value) : Prop where
  le : v.length ≤ 1000
theorem len_bound {n k : Nat} (h : ¬ ((63 : Nat) : Int) < (n : Int)) (e : k = n) : k ≤ 1000 := by omega
end
end Mine

end
section
open PySem PySem.W PyProof.Rows
set_option maxRecDepth 100000
set_option linter.unusedVariables false
namespace Mine
theorem sep_good {t1 t2 t3 : Tok} (z : Int) : ∃ y t, [Value.str (Str.ofString ",") t1, .str (Str.ofString ";") t2, .str (Str.ofString "|") t3][(z.fmod 3).toNat]? = some (.str y t) ∧ Good 1 4 y := by
  have h1 := Int.fmod_nonneg_of_pos z (show (0:Int) < 3 by decide)
  have h2 := Int.fmod_lt_of_pos z (show (0:Int) < 3 by decide)
  have g1 : Good 1 4 (Str.ofString ",") := Good.of (by decide +kernel)
  have g2 : Good 1 4 (Str.ofString ";") := Good.of (by decide +kernel)
  have g3 : Good 1 4 (Str.ofString "|") := Good.of (by decide +kernel)
  have h3 : (z.fmod 3).toNat = 0 ∨ (z.fmod 3).toNat = 1 ∨ (z.fmod 3).toNat = 2 := by omega
  rcases h3 with h3 | h3 | h3 <;> rw [h3]
  · exact ⟨_, _, rfl, g1⟩
  · exact ⟨_, _, rfl, g2⟩
  · exact ⟨_, _, rfl, g3⟩
theorem sep_item {prog : Program} {w : World} {A : Around} {E : Value → Shared → Prop} {s : Shared} {value slice : PySem.Expr} {l : Addr} {t1 t2 t3 u : Tok} {z : Int} {Q : Value → Shared → Prop} (hl : s.heap.IsList l [Value.str (Str.ofString ",") t1, .str (Str.ofString ";") t2, .str (Str.ofString "|") t3].toArray)
    (h : ∀ y t, Good 1 4 y → Q (.str y t) s) (hs : subscripted slice false (.ref l) (.int (z.fmod 3) u) = operate [.ref l, .int (z.fmod 3) u] (getItem (.ref l) (.int (z.fmod 3) u))) :
    wpAny (model prog w) A (subscriptTail value slice (.ref l) (.int (z.fmod 3) u)) Q E s := by
  have h1 := Int.fmod_nonneg_of_pos z (show (0:Int) < 3 by decide)
  have h2 := Int.fmod_lt_of_pos z (show (0:Int) < 3 by decide)
  obtain ⟨y, t, e, g⟩ := sep_good (t1 := t1) (t2 := t2) (t3 := t3) z
  refine kba_turn (value' := PySem.Expr.Name (PySem.Str.ofString "_") ⟨0, 0, 0, 0⟩) (fun _ => rfl) ?_
  exact PyProof.Rows.item_listL (l := [Value.str (Str.ofString ",") t1, .str (Str.ofString ";") t2, .str (Str.ofString "|") t3]) hl h1 (by omega) e (h y t g) hs (fun _ => rfl)
theorem range_two {prog : Program} {w : World} {A : Around} {E : Value → Shared → Prop} {s : Shared} {h₁ : Heap} {L r : Addr} {m : PySem.Str → Option Value} {news : List (Addr × Obj)} {n N : Nat} {k : Int} {t u v : Tok} {Q : Value → Shared → Prop} (F : Fr h₁ L s.heap m) (N' : News h₁ L s.heap news) (hr : IsRange s.heap r 2 k 1 t u v) (hk : k = (n : Nat)) (hn : n ≤ 1000) (hN : N = max n 2)
    (h : ∀ it h', Fr h₁ L h' m → News h₁ L h' ((it, rngO 2 N) :: news) → Q (.ref it) { s with heap := h' }) : wpAny (model prog w) A (pyIter (.ref r)) Q E s := by
  subst hk hN
  have hsz : Builtin.Range.rangeSize 2 (n : Nat) 1 = ((max n 2 - 2 : Nat) : Int) := by
    unfold Builtin.Range.rangeSize
    simp
    omega
  have hsm : Builtin.Range.small 2 (n : Nat) 1 = true := by
    unfold Builtin.Range.small
    rw [hsz]
    unfold Builtin.Range.rangeFitsLong
    simp
    omega
  refine wpAny_pyIter_range hr hsm ?_
  rw [hsz]
  have e : ({ cls := .type "range_iterator", data := .fields #[rawInt 2, rawInt ((max n 2 - 2 : Nat) : Int), rawInt 1] } : Obj) = rngO 2 (max n 2) := by
    unfold rngO
    have : (((max n 2 : Nat) : Int) - ((2 : Nat) : Int)) = ((max n 2 - 2 : Nat) : Int) := by omega
    rw [this]
    rfl
  rw [e]
  exact h _ _ (F.push _) (N'.push F _)

/-- the frame's names in the law's loop -/
structure LwM (D : Addr) (vb vt : Value) (m₁ : PySem.Str → Option Value) : Prop where
  h0 : m₁ (Str.ofString "text") = some vt
  h1 : m₁ (Str.ofString "base") = some vb
  h2 : m₁ (Str.ofString "numbers") = some (.ref D)
def lwF (D : Addr) (vb vt : Value) (m₁ : PySem.Str → Option Value) : PySem.Str → Option Value := fun y => if y = Str.ofString "text" then some vt else if y = Str.ofString "base" then some vb else if y = Str.ofString "numbers" then some (.ref D) else m₁ y
theorem LwM.eq {D : Addr} {vb vt : Value} {m₁ : PySem.Str → Option Value} (h : LwM D vb vt m₁) : m₁ = lwF D vb vt m₁ := by
  funext y
  unfold lwF
  repeat' split
  all_goals first | rfl | (rename_i e; rw [e]; first | exact h.h0 | exact h.h1 | exact h.h2)
def gA (i : Nat) : Nat := if i ≤ 4 then 84 else 85
def gB (i : Nat) : Nat := if i ≤ 4 then 32 else 36
def LwSt (base : Heap) (L D it : Addr) (v5 : List Value) (N : Nat) (s : Shared) (i : Nat) (s' : Shared) : Prop :=
  ∃ h' tk', ∃ (m₁ : PySem.Str → Option Value), ∃ xb tb xt tt tl, s' = { s with heap := h', toks := tk' } ∧ LwM D (.str xb tb) (.str xt tt) m₁ ∧ Good 83 28 xb ∧ Good (gA i) (gB i) xt ∧ TabL base tl ∧ Fr base L h' m₁ ∧ News base L h' ((it, rngO i N) :: (D, PySem.W.listOf v5.toArray 0) :: tl)
theorem TabL.apart {base h : Heap} {L it : Addr} {tl ns : List (Addr × Obj)} {i n : Nat} (t : TabL base tl) (N : News base L h ns) (hit : (it, rngO i n) ∈ ns) (sub : ∀ p ∈ tl, p ∈ ns) : ∀ p ∈ tl, p.1 ≠ it := fun p hp e => by
  have h1 := (N p (sub p hp)).1
  have h2 := (N _ hit).1
  rw [e, h2] at h1
  have h3 : rngO i n = p.2 := Option.some.inj h1
  rcases t with rfl | ⟨c', oc, rfl, ⟨vs, tq, h4, h5⟩, h6⟩
  · rcases List.mem_singleton.mp hp with rfl
    have := congrArg Obj.cls h3
    cases this
  · rcases List.mem_cons.mp hp with rfl | hp
    · have := congrArg Obj.cls h3
      cases this
    · rcases List.mem_singleton.mp hp with rfl
      have h7 : (rngO i n).data = .fields vs := by rw [h3]; exact h4
      unfold rngO at h7
      injection h7 with h7
      rw [← h7] at h5
      cases h5
theorem law_loop {prog : Program} {w : World} {A : Around} {s : Shared} {L D : Addr} {m : PySem.Str → Option Value} {env : Env} {R : Result → Shared → Prop} {x : PySem.Str} {xp : Pos} {body : List Stmt} {it : Addr} {base : Heap} {N : Nat} {v5 : List Value} (h0 : LwSt base L D it v5 N s 2 s) (hN : 2 ≤ N)
    (step : ∀ i h' tk' (m₁ : PySem.Str → Option Value) xb tb xt tt tl, 2 ≤ i → i < N → Good 83 28 xb → Good (gA i) (gB i) xt → TabL base tl → Fr base L h' (lwF D (.str xb tb) (.str xt tt) m₁) → News base L h' ((it, rngO (i + 1) N) :: (D, PySem.W.listOf v5.toArray 0) :: tl) →
      wpAny (model prog w) A (assign (.Name x xp) env (.int (i : Nat) tk')) (fun _ s₂ => wpAny (model prog w) A (execs body env) (fun f s₃ => f = .next ∧ LwSt base L D it v5 N s (i + 1) s₃) (fun _ _ => False) s₂) (fun _ _ => False) { s with heap := h', toks := tk' + 1 })
    (stop : A.handled = none ∧ ∀ h' tk' (m₁ : PySem.Str → Option Value) vb vt tl, TabL base tl → Fr base L h' (lwF D vb vt m₁) → News base L h' ((D, PySem.W.listOf v5.toArray 0) :: tl) → R (.ok .next) { s with heap := h', toks := tk' }) :
    codeAny (model prog w) A (.forLoop (.Name x xp) (.ref it) body [] env) R s := by
  refine codeAny_forLoop_any (fun k s' => ∃ i, k = N - i ∧ 2 ≤ i ∧ i ≤ N ∧ LwSt base L D it v5 N s i s') ?_ (N - 2) ⟨2, rfl, Nat.le_refl _, hN, h0⟩
  rintro k s' ⟨i, rfl, hi2, hi, h', tk', m₁, xb, tb, xt, tt, tl, rfl, hM, gb, gt, htl, F', N'⟩
  have hit : IsRangeIter h' it ((i : Nat) : Int) ((N : Int) - (i : Nat)) 1 := (N' _ (.head _)).1
  have hitN := N' (it, rngO i N) (.head _)
  have hap : ∀ p ∈ (D, PySem.W.listOf v5.toArray 0) :: tl, p.1 ≠ it := fun p hp => by
    rcases List.mem_cons.mp hp with rfl | hp
    · refine ne_cls (N' _ (.tail _ (.head _))).1 (N' _ (.head _)).1 ?_
      show Value.type "list" ≠ Value.type "range_iterator"; decide
    · exact htl.apart N' (.head _) (fun p hp => .tail _ (.tail _ hp)) p hp
  by_cases hlt : i < N
  · refine wpAny_pyNext_range_item (s := { s with heap := h', toks := tk' }) hit (by omega) fun h2 hit2 hs => ?_
    refine wpAny_mono (Q := fun _ s₁ => s₁ = { s with heap := h2, toks := tk' + 1 }) (E := fun _ _ => False) (by unfold letOwnedTupleGo; exact wpAny_pure rfl) (fun _ s₁ e₁ => ?_) fun _ _ q => q.elim
    subst e₁
    have hit3 : h2.get? it = some (rngO (i + 1) N) := by
      have e1 : ((i : Nat) : Int) + 1 = ((i + 1 : Nat) : Int) := by push_cast; rfl
      have e2 : (N : Int) - (i : Nat) - 1 = (N : Int) - ((i + 1 : Nat) : Int) := by push_cast; omega
      rw [e1, e2] at hit2
      exact hit2
    have F2 : Fr base L h2 m₁ := F'.change hs hitN.2.1 hitN.2.2
    have N2 : News base L h2 ((it, rngO (i + 1) N) :: (D, PySem.W.listOf v5.toArray 0) :: tl) := N'.setHead hap hs hit3
    rw [hM.eq] at F2
    refine wpAny_mono (step i h2 tk' m₁ xb tb xt tt tl hi2 hlt gb gt htl F2 N2) (fun _ s₂ h₂ => wpAny_mono h₂ (fun f s₃ h₃ => ?_) fun _ _ q => q.elim) fun _ _ q => q.elim
    obtain ⟨rfl, h₃⟩ := h₃
    exact ⟨N - (i + 1), by omega, i + 1, rfl, by omega, hlt, h₃⟩
  · have hin : i = N := by omega
    subst hin
    obtain ⟨hh, hst⟩ := stop
    refine wpAny_pyNext_range_end (s := { s with heap := h', toks := tk' }) hh hit (by omega) fun h2 he => wpAny_execs_nil ?_
    rw [hM.eq] at F'
    refine hst h2 tk' m₁ _ _ tl htl ⟨F'.ns.extBut he (Ne.symm hitN.2.1), fun b ob hb => he b ob (fun q => by subst q; rw [show base.get? b = none from hitN.2.2] at hb; cases hb) (F'.keep b ob hb), F'.above⟩ fun p hp => ?_
    have hp' := N' p (.tail _ hp)
    exact ⟨he _ _ (hap p hp) hp'.1, hp'.2⟩
/-- behind a call of _law_holds -/
theorem behind {base h h' : Heap} {L : Addr} {m : PySem.Str → Option Value} {env : Env} {tl ns news : List (Addr × Obj)} (F : Fr base L h m) (N : News base L h news) (t : TabL base tl) (sub : ∀ p ∈ tl, p ∈ news) (hb : base.get? 425 = none) (hf : env.frame = some L) (sn : ∀ p ∈ ns, p ∈ news ∧ p.2.cls ≠ .none) (k : KeptF (hideAll h [425]) [env] h') (t' : TabSt base h') :
    Fr base L h' m ∧ ∃ tl', TabL base tl' ∧ News base L h' (ns ++ tl') := by
  obtain ⟨ps, hps⟩ := t.at
  have hP := (N _ (sub _ hps)).1
  have F' := fr_on F hP hb k hf
  obtain ⟨tl', h1, h2⟩ := t'.led F' hb
  have Nn : News base L h ns := fun p hp => N p (sn p hp).1
  have N3 := news_on Nn (ne_425 hP Nn fun p hp => (sn p hp).2) k hf
  refine ⟨F', tl', h1, fun p hp => ?_⟩
  rcases List.mem_append.mp hp with hp | hp
  · exact N3 p hp
  · exact h2 p hp
theorem g_lo {i : Nat} {x : PySem.Str} (h : i < 4) (g : Good (83 + 1) (28 + 4) x) : Good (gA (i + 1)) (gB (i + 1)) x := by
  unfold gA gB
  rw [if_pos (by omega), if_pos (by omega)]
  exact g
theorem g_hi {i : Nat} {x : PySem.Str} (h : 4 ≤ i) (g : Good (84 + 1) (32 + 4) x) : Good (gA (i + 1)) (gB (i + 1)) x := by
  unfold gA gB
  rw [if_neg (by omega), if_neg (by omega)]
  exact g
theorem g_at {i : Nat} {x : PySem.Str} (h : i ≤ 4) (g : Good (gA i) (gB i) x) : Good 84 32 x := by
  unfold gA gB at g
  rw [if_pos h, if_pos h] at g
  exact g
theorem g_le (i : Nat) : gA (i + 1) ≤ 90 ∧ gB (i + 1) ≤ 40 := by
  unfold gA gB
  constructor <;> split <;> omega
theorem lw_two {it D : Addr} {i N : Nat} {its : Array Value} {tl : List (Addr × Obj)} : ∀ p ∈ [(it, rngO i N), (D, PySem.W.listOf its 0)], p ∈ (it, rngO i N) :: (D, PySem.W.listOf its 0) :: tl ∧ p.2.cls ≠ .none := fun p hp => by
  rcases List.mem_cons.mp hp with rfl | hp
  · exact ⟨.head _, by show Value.type _ ≠ Value.none; intro e; cases e⟩
  · rcases List.mem_singleton.mp hp with rfl
    exact ⟨.tail _ (.head _), by show Value.type _ ≠ Value.none; intro e; cases e⟩
structure IntsL (v : List Value) : Prop where
  item : ∀ i, i < v.length → ∃ k t, v[i]? = some (.int k t)
theorem IntsL.of {vs : List Value} {zs : List Int} (h : IntsAre vs zs) : IntsL vs := ⟨fun i hi => by
  have hl := h.length
  obtain ⟨t, ht⟩ := h.get i (zs[i]'(by omega)) (List.getElem?_eq_getElem (by omega))
  exact ⟨_, t, ht⟩⟩
end Mine

end
section
open PySem PySem.W PyProof.Rows
set_option maxRecDepth 100000
set_option linter.unusedVariables false
namespace Mine
local macro_rules | `(tactic| walk_at "m room") => `(tactic| first | assumption | ((try simp only [depth_under_make, depth_under_kw, depth_in1, depth_deeper, depth_caller]); (try dsimp only [TopA, callA]); omega))
local macro_rules | `(tactic| walk_at "m units") => `(tactic| first | assumption | ((try simp only [units_in1, units_deeper, Around.mark_units, units_caller]); (try dsimp only [TopA, callA]); omega))
local macro_rules | `(tactic| walk_at "call ref") => `(tactic| (k_here; k_dflt (show wpAny _ _ (call (Value.ref 428) [Value.str _ _]) _ _ _); refine hold ?_))
local macro_rules | `(tactic| walk_at "call ref") => `(tactic| (k_here; k_dflt (show wpAny _ _ (call (Value.ref 404) [Value.str _ _, Value.int _ _]) _ _ _); refine hold ?_))
local macro_rules | `(tactic| walk_at "subscriptTail") => `(tactic| refine hold ?_)
local macro_rules | `(tactic| walk_at "call builtin:len") => `(tactic| refine hold ?_)
local macro_rules | `(tactic| walk_at "exec For") => `(tactic| refine hold ?_)
local macro_rules | `(tactic| walk_at "exec For Name Call") => `(tactic| refine hold ?_)
local macro_rules | `(tactic| walk_at "exec For Name Call cons nil") => `(tactic| refine hold ?_)
local macro_rules | `(tactic| walk_at "exec For Name Call cons") => `(tactic| refine hold ?_)
local macro_rules | `(tactic| walk_at "m prem") => `(tactic| ((case kB => k_asm); (case kF => k_asm); (case kX => k_asm); (case kN => k_asm); (case kT => k_asm); (case kf => exact rfl); (case kk => exact rfl); (case kd => walk_at "m room"); (case ku => walk_at "m units")))
local macro_rules | `(tactic| walk_at "call ref") => `(tactic| (k_here; k_dflt (show wpAny _ _ (call (Value.ref 390) [Value.int _ _]) _ _ _); k_dflt (refine' limit_call _ _ ?kB ?kF ?kX ?kN ?kT ?kf ?kk ?kd ?ku ?_); (walk_at "m prem"); intro x9 t9 h9 tk9 G9 F9 N9; (have l9 := G9.len); (try dsimp only)))
set_option maxHeartbeats 4000000 in
theorem law_try : PySem.Challenge.rw_bn0039_01.Holds := hd (by
  k_go0
  (try dsimp only)
  k_unmd
  k_fold
  rename Fr _ _ _ _ => F
  rename News _ _ _ _ => N
  rename Below _ _ _ _ => B
  rename Frag.In _ _ => X
  rename Top _ _ _ _ _ _ => T
  rename Heap.IsList _ _ _ => hl
  rename IntsAre _ _ => hI
  rename CodeHd _ _ _ => C
  rename Shared => s1
  have hq : ∀ h' tk' m₁ ps, Fr (ghostOf s1.heap [(427, 425)]) s1.heap.objs.size h' m₁ → News (ghostOf s1.heap [(427, 425)]) s1.heap.objs.size h' [(425, tabObj ps)] → qk (.ret (.bool true)) { heap := h', gens := s1.gens, drawn := s1.drawn, toks := tk', os := s1.os } := by
    intro h' tk' m₁ ps F' N'
    clear F N
    k_steps
  clear_value qk ek
  have hbP : (ghostOf s1.heap [(427, 425)]).get? 425 = none := hideAll_none _ (.head _)
  generalize hB0 : ghostOf s1.heap [(427, 425)] = base at *
  generalize hL0 : s1.heap.objs.size = L at *
  rename_i W s0 mg mb G Y fa o pm cd doc kV ho hcd hg X9 V9 T9 B9 TE9 TW9 zs hs hlay0 hL1 hr1 hl2 w4 w3 lst vals w0 hL ra w1 r0 hr hc1 hc hD h1 l0
  obtain ⟨p9, lo9, me9, T1⟩ : ∃ p9 lo9 me9, Top p9 lo9 me9 mg mb base := ⟨_, _, _, T⟩
  clear T
  have hlen : LenOk vals := ⟨len_bound hc1 hI.length⟩
  obtain ⟨d9, u9, e9, hd9, hu9⟩ : ∃ d u, callerA = callA d u ∧ d + 500 < recursionLimit ∧ u + 900 < cLine := ⟨1 + claimMargin, 4, rfl, by decide, by decide⟩
  rw [e9] at B ⊢
  clear e9
  clear hB0 hL0 hD hc hc1 hr r0 w1 ra hL hl2 hr1 hL1 hlay0 hs hT9 TW9 TE9 B9 T9 V9 X9 hg hcd ho Y G
  k_steps
  unfold Hold
  refine' slice_five (its := vals) ?sF ?sN ?sl ?sp ?sq ?sh ?ss ?st ?sz
  case sF => exact F
  case sN => exact N
  case sl => exact stays_list F.keep hl
  case sp => constructor
  case sq => constructor
  case ss => with_unfolding_all rfl
  case st => intro _; with_unfolding_all rfl
  case sz => exact hlen.le
  case' sh => intro D h2 F2 N2
  obtain ⟨v5, hv5⟩ : ∃ v5, v5 = vals.take 5 := ⟨_, rfl⟩
  rw [← hv5] at N2
  obtain ⟨z5, hI5⟩ : ∃ z5, IntsAre v5 z5 := ⟨zs.take 5, by rw [hv5]; exact hI.take 5⟩
  have hl5 : v5.length ≤ 5 := by rw [hv5]; exact List.length_take_le ..
  clear hv5 hI hl hlen N F
  dsimp only
  have hIL := IntsL.of hI5
  have CW : CHd base 427 425 := ⟨C⟩
  clear C
  cases hI5 with
  | nil =>
    k_steps
    unfold Hold
    rename News _ _ _ _ => N3
    refine PyProof.Rows.len_list (News.isList N3 (.head _)) (by decide) ?_
    k_steps
    have gb0 := (by assumption : Good 41 12 _).mono (a' := 83) (b' := 28) (by decide) (by decide)
    unfold Hold
    rename Fr _ _ _ _ => Fa
    rename News _ _ _ _ => Na
    refine' holds_call (a := 83) (b := 28) gb0 (by decide) (by decide) ?jB ?jF ?jX ?jT ?jf ?jk ?jh ?jTB ?jXB ?jbP ?jCB ?jt0 ?jd ?ju ?jr
    case jB => exact B
    case jF => exact Fa
    case jX => exact X
    case jT => exact T1
    case jf => exact rfl
    case jk => exact rfl
    case jh => exact rfl
    case jTB => exact T1
    case jXB => exact X
    case jbP => exact hbP
    case jCB => exact CW.hd
    case jt0 => exact TabL.st (.inl rfl) Na (fun p hp => by rcases List.mem_singleton.mp hp with rfl; simp)
    case jd => walk_at "m room"
    case ju => walk_at "m units"
    case jr =>
      intro h30 tk30 k30 t30
      dsimp only
      obtain ⟨Fb, tl30, htl30, Nb⟩ := behind (ns := [(D, PySem.W.listOf (([] : List Value)).toArray 0)]) Fa Na (.inl rfl) (fun p hp => by rcases List.mem_singleton.mp hp with rfl; simp) hbP rfl (fun p hp => by rcases List.mem_singleton.mp hp with rfl; exact ⟨by simp, by intro e; cases e⟩) k30 t30
      clear Fa Na k30 t30
      rw [List.cons_append, List.nil_append] at Nb
      k_steps
      unfold Hold
      refine wpAny_For ?_
      k_steps
      unfold Hold
      rename News _ _ _ _ => Nc
      refine PyProof.Rows.len_list (News.isList Nc (.head _)) (by rw [List.size_toArray]; omega) ?_
      k_steps
      rename News _ _ _ _ => Nd
      rename Fr _ _ _ _ => Fd
      rename IsRange _ _ _ _ _ _ _ _ => Rd
      refine range_two (n := (([] : List Value)).length) (N := max (([] : List Value)).length 2) Fd Nd Rd (by first | rfl | simp) (Nat.le_trans hl5 (by decide)) rfl fun it h31 F31 N31 => ?_
      dsimp only
      k_steps
      refine' law_loop (base := base) (D := D) (v5 := ([] : List Value)) (N := max (([] : List Value)).length 2) ?h0 ?hN ?hstep ?hstop
      case hN => exact Nat.le_max_right ..
      case h0 => exact ⟨h31, _, _, _, _, _, _, tl30, rfl, ⟨rfl, rfl, rfl⟩, gb0, (gb0).mono (by decide) (by decide), htl30, F31, N31⟩
      case hstop =>
        refine ⟨rfl, fun h33 tk33 m33 vb33 vt33 tl33 ht33 F33 N33 => ?_⟩
        unfold lwF at F33
        k_steps
        obtain ⟨ps33, hps33⟩ := ht33.at
        exact hq _ _ _ _ F33 (fun p hp => by rcases List.mem_singleton.mp hp with rfl; exact N33 _ (.tail _ hps33))
      case hstep =>
        intro i h32 tk32 m32 xb2 tb2 xt2 tt2 tl32 hi2 hiN gb2 gt2 htl32 F32 N32
        have hi9 : i < 2 := hiN
        exact absurd hi9 (Nat.not_lt.mpr hi2)
      all_goals exact default
  | @cons z tz vs0 zs0 hI6 =>
    cases hI6 with
    | nil =>
      k_steps
      unfold Hold
      rename News _ _ _ _ => N3
      refine PyProof.Rows.len_list (News.isList N3 (.head _)) (by rw [List.size_toArray]; omega) ?_
      k_steps
      · rename 1 < _ => hno
        exact absurd hno (show ¬ (1 : Int) < ((1 : Nat) : Int) by decide)
      · have gb0 := (by assumption : Good 41 12 _).mono (a' := 83) (b' := 28) (by decide) (by decide)
        unfold Hold
        rename Fr _ _ _ _ => Fa
        rename News _ _ _ _ => Na
        refine' holds_call (a := 83) (b := 28) gb0 (by decide) (by decide) ?jB ?jF ?jX ?jT ?jf ?jk ?jh ?jTB ?jXB ?jbP ?jCB ?jt0 ?jd ?ju ?jr
        case jB => exact B
        case jF => exact Fa
        case jX => exact X
        case jT => exact T1
        case jf => exact rfl
        case jk => exact rfl
        case jh => exact rfl
        case jTB => exact T1
        case jXB => exact X
        case jbP => exact hbP
        case jCB => exact CW.hd
        case jt0 => exact TabL.st (.inl rfl) Na (fun p hp => by rcases List.mem_singleton.mp hp with rfl; simp)
        case jd => walk_at "m room"
        case ju => walk_at "m units"
        case jr =>
          intro h30 tk30 k30 t30
          dsimp only
          obtain ⟨Fb, tl30, htl30, Nb⟩ := behind (ns := [(D, PySem.W.listOf ([Value.int z tz]).toArray 0)]) Fa Na (.inl rfl) (fun p hp => by rcases List.mem_singleton.mp hp with rfl; simp) hbP rfl (fun p hp => by rcases List.mem_singleton.mp hp with rfl; exact ⟨by simp, by intro e; cases e⟩) k30 t30
          clear Fa Na k30 t30
          rw [List.cons_append, List.nil_append] at Nb
          k_steps
          unfold Hold
          refine wpAny_For ?_
          k_steps
          unfold Hold
          rename News _ _ _ _ => Nc
          refine PyProof.Rows.len_list (News.isList Nc (.head _)) (by rw [List.size_toArray]; omega) ?_
          k_steps
          rename News _ _ _ _ => Nd
          rename Fr _ _ _ _ => Fd
          rename IsRange _ _ _ _ _ _ _ _ => Rd
          refine range_two (n := ([Value.int z tz]).length) (N := max ([Value.int z tz]).length 2) Fd Nd Rd (by first | rfl | simp) (Nat.le_trans hl5 (by decide)) rfl fun it h31 F31 N31 => ?_
          dsimp only
          k_steps
          refine' law_loop (base := base) (D := D) (v5 := [Value.int z tz]) (N := max ([Value.int z tz]).length 2) ?h0 ?hN ?hstep ?hstop
          case hN => exact Nat.le_max_right ..
          case h0 => exact ⟨h31, _, _, _, _, _, _, tl30, rfl, ⟨rfl, rfl, rfl⟩, gb0, (gb0).mono (by decide) (by decide), htl30, F31, N31⟩
          case hstop =>
            refine ⟨rfl, fun h33 tk33 m33 vb33 vt33 tl33 ht33 F33 N33 => ?_⟩
            unfold lwF at F33
            k_steps
            obtain ⟨ps33, hps33⟩ := ht33.at
            exact hq _ _ _ _ F33 (fun p hp => by rcases List.mem_singleton.mp hp with rfl; exact N33 _ (.tail _ hps33))
          case hstep =>
            intro i h32 tk32 m32 xb2 tb2 xt2 tt2 tl32 hi2 hiN gb2 gt2 htl32 F32 N32
            have hi9 : i < 2 := hiN
            exact absurd hi9 (Nat.not_lt.mpr hi2)
          all_goals exact default
    | @cons z2 tz2 vs zs2 hI7 =>
      k_steps
      unfold Hold
      rename News _ _ _ _ => N3
      refine PyProof.Rows.len_list (News.isList N3 (.head _)) (by rw [List.size_toArray]; omega) ?_
      k_steps
      · unfold Hold
        have g1 := (by assumption : Good 41 12 _)
        refine' sep_item ?pl ?ph ?ps
        case pl => exact isL (by k_asm) (.head _)
        case ps => with_unfolding_all rfl
        intro y9 t10 gy
        have ly := gy.len
        dsimp only
        k_steps
        rename Good 41 12 _ => g2
        have gb0 : Good 83 28 _ := (g1.append gy).append g2
        unfold Hold
        rename Fr _ _ _ _ => Fa
        rename News _ _ _ _ => Na
        refine' holds_call (a := 83) (b := 28) gb0 (by decide) (by decide) ?jB ?jF ?jX ?jT ?jf ?jk ?jh ?jTB ?jXB ?jbP ?jCB ?jt0 ?jd ?ju ?jr
        case jB => exact B
        case jF => exact Fa
        case jX => exact X
        case jT => exact T1
        case jf => exact rfl
        case jk => exact rfl
        case jh => exact rfl
        case jTB => exact T1
        case jXB => exact X
        case jbP => exact hbP
        case jCB => exact CW.hd
        case jt0 => exact TabL.st (.inl rfl) Na (fun p hp => by rcases List.mem_singleton.mp hp with rfl; simp)
        case jd => walk_at "m room"
        case ju => walk_at "m units"
        case jr =>
          intro h30 tk30 k30 t30
          dsimp only
          obtain ⟨Fb, tl30, htl30, Nb⟩ := behind (ns := [(D, PySem.W.listOf ((Value.int z tz :: Value.int z2 tz2 :: vs)).toArray 0)]) Fa Na (.inl rfl) (fun p hp => by rcases List.mem_singleton.mp hp with rfl; simp) hbP rfl (fun p hp => by rcases List.mem_singleton.mp hp with rfl; exact ⟨by simp, by intro e; cases e⟩) k30 t30
          clear Fa Na k30 t30
          rw [List.cons_append, List.nil_append] at Nb
          k_steps
          unfold Hold
          refine wpAny_For ?_
          k_steps
          unfold Hold
          rename News _ _ _ _ => Nc
          refine PyProof.Rows.len_list (News.isList Nc (.head _)) (by rw [List.size_toArray]; omega) ?_
          k_steps
          rename News _ _ _ _ => Nd
          rename Fr _ _ _ _ => Fd
          rename IsRange _ _ _ _ _ _ _ _ => Rd
          refine range_two (n := ((Value.int z tz :: Value.int z2 tz2 :: vs)).length) (N := max ((Value.int z tz :: Value.int z2 tz2 :: vs)).length 2) Fd Nd Rd (by first | rfl | simp) (Nat.le_trans hl5 (by decide)) rfl fun it h31 F31 N31 => ?_
          dsimp only
          k_steps
          refine' law_loop (base := base) (D := D) (v5 := (Value.int z tz :: Value.int z2 tz2 :: vs)) (N := max ((Value.int z tz :: Value.int z2 tz2 :: vs)).length 2) ?h0 ?hN ?hstep ?hstop
          case hN => exact Nat.le_max_right ..
          case h0 => exact ⟨h31, _, _, _, _, _, _, tl30, rfl, ⟨rfl, rfl, rfl⟩, gb0, (gb0).mono (by decide) (by decide), htl30, F31, N31⟩
          case hstop =>
            refine ⟨rfl, fun h33 tk33 m33 vb33 vt33 tl33 ht33 F33 N33 => ?_⟩
            unfold lwF at F33
            k_steps
            obtain ⟨ps33, hps33⟩ := ht33.at
            exact hq _ _ _ _ F33 (fun p hp => by rcases List.mem_singleton.mp hp with rfl; exact N33 _ (.tail _ hps33))
          case hstep =>
            intro i h32 tk32 m32 xb2 tb2 xt2 tt2 tl32 hi2 hiN gb2 gt2 htl32 F32 N32
            unfold lwF at F32
            have hiV : i < ((Value.int z tz :: Value.int z2 tz2 :: vs)).length := by omega
            have hi4 : i ≤ 4 := by have : ((Value.int z tz :: Value.int z2 tz2 :: vs)).length ≤ 5 := hl5; omega
            obtain ⟨k36, t36, hv36⟩ := hIL.item i hiV
            k_steps
            · unfold Hold
              rename News _ _ _ _ => N36
              refine' item_at (its := (Value.int z tz :: Value.int z2 tz2 :: vs)) (n := 0) (i := i) ?pqN ?pqm ?pqv ?pqz ?pqh ?pqs ?pqg
              case pqN => exact N36
              case pqm => exact .tail _ (.head _)
              case pqv => exact hv36
              case pqz => exact Nat.le_trans hl5 (by decide)
              case pqs => with_unfolding_all rfl
              case pqg => intro _; with_unfolding_all rfl
              k_steps
              unfold Hold
              have gs36 : Good 83 28 _ := gb2
              refine' change_call _ _ _ _ gs36 (by decide) ?pkB ?pkF ?pkX ?pkN ?pkT ?pkf ?pkk ?pkd ?pku ?_
              case pkB => exact B
              case pkF => k_asm
              case pkX => exact X
              case pkN => exact N36
              case pkT => exact T1
              case pkf => exact rfl
              case pkk => exact rfl
              case pkd => walk_at "m room"
              case pku => walk_at "m units"
              intro x40 t40 h40 tk40 g40 F40 N40
              dsimp only
              have g41 : Good (gA (i + 1)) (gB (i + 1)) x40 := g_lo (by omega) g40
              k_steps
              unfold Hold
              rename News _ _ _ _ => N42
              rename Fr _ _ _ _ => F42
              refine' holds_call g41 (g_le i).1 (g_le i).2 ?pjB ?pjF ?pjX ?pjT ?pjf ?pjk ?pjh ?pjTB ?pjXB ?pjbP ?pjCB ?pjt0 ?pjd ?pju ?pjr
              case pjB => exact B
              case pjF => exact F42
              case pjX => exact X
              case pjT => exact T1
              case pjf => exact rfl
              case pjk => exact rfl
              case pjh => exact rfl
              case pjTB => exact T1
              case pjXB => exact X
              case pjbP => exact hbP
              case pjCB => exact CW.hd
              case pjt0 => exact htl32.st N42 (fun p hp => .tail _ (.tail _ hp))
              case pjd => walk_at "m room"
              case pju => walk_at "m units"
              case pjr =>
                intro h50 tk50 k50 t50
                dsimp only
                obtain ⟨F51, tl50, htl50, N51⟩ := behind (ns := [(it, rngO (i + 1) (max ((Value.int z tz :: Value.int z2 tz2 :: vs)).length 2)), (D, PySem.W.listOf ((Value.int z tz :: Value.int z2 tz2 :: vs)).toArray 0)]) F42 N42 htl32 (fun p hp => .tail _ (.tail _ hp)) hbP rfl (lw_two) k50 t50
                rw [List.cons_append, List.cons_append, List.nil_append] at N51
                clear F42 N42 k50 t50
                k_steps
                exact ⟨h50, _, _, xb2, tb2, x40, t40, tl50, rfl, ⟨rfl, rfl, rfl⟩, gb2, g41, htl50, F51, N51⟩
            · unfold Hold
              rename News _ _ _ _ => N36
              refine' item_at (its := (Value.int z tz :: Value.int z2 tz2 :: vs)) (n := 0) (i := i) ?sqN ?sqm ?sqv ?sqz ?sqh ?sqs ?sqg
              case sqN => exact N36
              case sqm => exact .tail _ (.head _)
              case sqv => exact hv36
              case sqz => exact Nat.le_trans hl5 (by decide)
              case sqs => with_unfolding_all rfl
              case sqg => intro _; with_unfolding_all rfl
              k_steps
              unfold Hold
              have gs36 : Good 84 32 _ := g_at hi4 gt2
              refine' change_call _ _ _ _ gs36 (by decide) ?skB ?skF ?skX ?skN ?skT ?skf ?skk ?skd ?sku ?_
              case skB => exact B
              case skF => k_asm
              case skX => exact X
              case skN => exact N36
              case skT => exact T1
              case skf => exact rfl
              case skk => exact rfl
              case skd => walk_at "m room"
              case sku => walk_at "m units"
              intro x40 t40 h40 tk40 g40 F40 N40
              dsimp only
              have g41 : Good (gA (i + 1)) (gB (i + 1)) x40 := g_hi (by omega) g40
              k_steps
              unfold Hold
              rename News _ _ _ _ => N42
              rename Fr _ _ _ _ => F42
              refine' holds_call g41 (g_le i).1 (g_le i).2 ?sjB ?sjF ?sjX ?sjT ?sjf ?sjk ?sjh ?sjTB ?sjXB ?sjbP ?sjCB ?sjt0 ?sjd ?sju ?sjr
              case sjB => exact B
              case sjF => exact F42
              case sjX => exact X
              case sjT => exact T1
              case sjf => exact rfl
              case sjk => exact rfl
              case sjh => exact rfl
              case sjTB => exact T1
              case sjXB => exact X
              case sjbP => exact hbP
              case sjCB => exact CW.hd
              case sjt0 => exact htl32.st N42 (fun p hp => .tail _ (.tail _ hp))
              case sjd => walk_at "m room"
              case sju => walk_at "m units"
              case sjr =>
                intro h50 tk50 k50 t50
                dsimp only
                obtain ⟨F51, tl50, htl50, N51⟩ := behind (ns := [(it, rngO (i + 1) (max ((Value.int z tz :: Value.int z2 tz2 :: vs)).length 2)), (D, PySem.W.listOf ((Value.int z tz :: Value.int z2 tz2 :: vs)).toArray 0)]) F42 N42 htl32 (fun p hp => .tail _ (.tail _ hp)) hbP rfl (lw_two) k50 t50
                rw [List.cons_append, List.cons_append, List.nil_append] at N51
                clear F42 N42 k50 t50
                k_steps
                exact ⟨h50, _, _, xb2, tb2, x40, t40, tl50, rfl, ⟨rfl, rfl, rfl⟩, gb2, g41, htl50, F51, N51⟩
          all_goals exact default
      · rename_i hno
        exfalso
        rw [List.size_toArray] at hno
        simp only [List.length_cons] at hno
        omega)
end Mine

end
theorem PySem.Challenge.cw_bn0039_01_holds : PySem.Challenge.rw_bn0039_01.Holds :=
  Mine.law_try
