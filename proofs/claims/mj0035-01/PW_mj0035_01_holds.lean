import PyProof.Rows.All
import Wide.All
import OpenK.AllK
import Wide.FinOn
import PySem.Challenge.RW_mj0035_01
set_option Elab.async false
section
open PySem PySem.W PyProof.Rows
set_option Elab.async false
namespace Mine
set_option maxRecDepth 100000 in
set_option maxHeartbeats 8000000 in
open_top hd for PySem.Challenge.rw_mj0035_01
end Mine

end

section
open PySem PySem.Sre
set_option Elab.async false
namespace Mine

/-! the three codes -/
def cDot : Array Nat := #[14, 4, 0, 1, 1, 6, 1, 16, 46, 1]
def cNl : Array Nat := #[14, 9, 4, 1, 2, 16, 10, 16, 13, 0, 7, 7, 16, 13, 16, 10, 15, 18, 5, 16, 10, 15, 13, 11, 16, 13, 5, 5, 0, 16, 10, 1, 15, 2, 0, 1]
def cUn : Array Nat := #[14, 17, 4, 1, 1, 21, 9, 0, 604043296, 1, 0, 0, 0, 0, 0, 8, 4, 0, 13, 14, 21, 9, 0, 604043296, 1, 0, 0, 0, 0, 0, 8, 4, 0, 1]

/-- n steps take m to m' -/
def Go (n : Nat) (m m' : M) : Prop := ∀ k, M.runFor (n + k) m = M.runFor k m'
theorem Go.refl (m : M) : Go 0 m m := fun k => by rw [Nat.zero_add]
theorem Go.one {m m' : M} (h0 : m.outcome = none) (h : m.step = m') : Go 1 m m' := fun k => by
  rw [Nat.add_comm]
  show (if m.outcome.isSome then m else M.runFor k m.step) = _
  rw [h0, h]; rfl
theorem Go.trans {a b : Nat} {m m' m'' : M} (h : Go a m m') (h' : Go b m' m'') : Go (a + b) m m'' := fun k => by
  rw [Nat.add_assoc, h, h']
theorem Go.cons {b : Nat} {m m' m'' : M} (h0 : m.outcome = none) (h : m.step = m') (h' : Go b m' m'') : Go (1 + b) m m'' := (Go.one h0 h).trans h'
theorem runFor_stop {m : M} (h : m.outcome.isSome = true) : ∀ k, M.runFor k m = m
  | 0 => rfl
  | k + 1 => by show (if m.outcome.isSome then m else _) = m; rw [if_pos h]

/-- the machine's states that our codes meet: no group, no loop -/
def S (code text : Array Nat) (start pc pos handed : Nat) (outermost : Bool) (frames : List Sre.Frame) (weight : Nat) (answer : Option Bool) (seen : Seen) : M :=
  { code, text, lim := text.size, start, lastStart := text.size, pc, pos, handed, outermost, marks := #[], frames, weight, answer, seen }

section
variable {text : Array Nat} {start p h wt : Nat} {out : Bool} {fs : List Sre.Frame} {sn : Seen}

/-- an answer goes to the frame on top; the last one ends the run -/
theorem ended {code : Array Nat} {pc : Nat} {b : Bool} : (S code text start pc p h out [] wt (some b) sn).step = { S code text start pc p h out [] wt (some b) sn with outcome := some (if b then .matched else .failed) } := rfl

/-! ## the line ends -/
def fS (code : Array Nat) (s : Nat) (first : Bool) : Sre.Frame := { wait := .nextStart, pc := (header code).2, pos := s, outermost := first }
def fB (pc pos : Nat) (out : Bool) : Sre.Frame := { wait := .nextBranch, pc := pc, pos := pos, outermost := out }
def fL (pos : Nat) (out : Bool) : Sre.Frame := { wait := .lookNot, pc := 26, pos := pos, outermost := out }

theorem nl10 : (S cNl text start 10 p h out fs 1 none sn).step = S cNl text start 12 p p out (fB 11 p out :: fs) 2 none (sn.add 7) := rfl
theorem nl12 (hp : p < text.size) (hc : text.getD p 0 = 13) : (S cNl text start 12 p h out fs wt none sn).step = S cNl text start 14 (p + 1) h out fs wt none (sn.add 16) := by
  show (if p ≥ text.size then _ else _) = _
  rw [if_neg (by omega)]
  show (match (Except.ok (text.getD p 0 == 13, sn.add 16) : Except String (Bool × Seen)) with | .error why => _ | .ok (false, seen) => _ | .ok (true, seen) => _) = _
  rw [hc]; rfl
theorem nl12n (hc : ¬ (p < text.size ∧ text.getD p 0 = 13)) : (S cNl text start 12 p h out fs wt none sn).step = S cNl text start 12 p h out fs wt (some false) (sn.add 16) := by
  show (if p ≥ text.size then _ else _) = _
  by_cases hp : p < text.size
  · rw [if_neg (by omega)]
    show (match (Except.ok (text.getD p 0 == 13, sn.add 16) : Except String (Bool × Seen)) with | .error why => _ | .ok (false, seen) => _ | .ok (true, seen) => _) = _
    have : (text.getD p 0 == 13) = false := by simp only [beq_eq_false_iff_ne]; exact fun e => hc ⟨hp, e⟩
    rw [this]; rfl
  · rw [if_pos (by omega)]; rfl
theorem nl14 (hp : p < text.size) (hc : text.getD p 0 = 10) : (S cNl text start 14 p h out fs wt none sn).step = S cNl text start 16 (p + 1) h out fs wt none (sn.add 16) := by
  show (if p ≥ text.size then _ else _) = _
  rw [if_neg (by omega)]
  show (match (Except.ok (text.getD p 0 == 10, sn.add 16) : Except String (Bool × Seen)) with | .error why => _ | .ok (false, seen) => _ | .ok (true, seen) => _) = _
  rw [hc]; rfl
theorem nl14n (hc : ¬ (p < text.size ∧ text.getD p 0 = 10)) : (S cNl text start 14 p h out fs wt none sn).step = S cNl text start 14 p h out fs wt (some false) (sn.add 16) := by
  show (if p ≥ text.size then _ else _) = _
  by_cases hp : p < text.size
  · rw [if_neg (by omega)]
    show (match (Except.ok (text.getD p 0 == 10, sn.add 16) : Except String (Bool × Seen)) with | .error why => _ | .ok (false, seen) => _ | .ok (true, seen) => _) = _
    have : (text.getD p 0 == 10) = false := by simp only [beq_eq_false_iff_ne]; exact fun e => hc ⟨hp, e⟩
    rw [this]; rfl
  · rw [if_pos (by omega)]; rfl
theorem nl19 (hp : p < text.size) (hc : text.getD p 0 = 10) : (S cNl text start 19 p h out fs wt none sn).step = S cNl text start 21 (p + 1) h out fs wt none (sn.add 16) := by
  show (if p ≥ text.size then _ else _) = _
  rw [if_neg (by omega)]
  show (match (Except.ok (text.getD p 0 == 10, sn.add 16) : Except String (Bool × Seen)) with | .error why => _ | .ok (false, seen) => _ | .ok (true, seen) => _) = _
  rw [hc]; rfl
theorem nl19n (hc : ¬ (p < text.size ∧ text.getD p 0 = 10)) : (S cNl text start 19 p h out fs wt none sn).step = S cNl text start 19 p h out fs wt (some false) (sn.add 16) := by
  show (if p ≥ text.size then _ else _) = _
  by_cases hp : p < text.size
  · rw [if_neg (by omega)]
    show (match (Except.ok (text.getD p 0 == 10, sn.add 16) : Except String (Bool × Seen)) with | .error why => _ | .ok (false, seen) => _ | .ok (true, seen) => _) = _
    have : (text.getD p 0 == 10) = false := by simp only [beq_eq_false_iff_ne]; exact fun e => hc ⟨hp, e⟩
    rw [this]; rfl
  · rw [if_pos (by omega)]; rfl
theorem nl24 (hp : p < text.size) (hc : text.getD p 0 = 13) : (S cNl text start 24 p h out fs wt none sn).step = S cNl text start 26 (p + 1) h out fs wt none (sn.add 16) := by
  show (if p ≥ text.size then _ else _) = _
  rw [if_neg (by omega)]
  show (match (Except.ok (text.getD p 0 == 13, sn.add 16) : Except String (Bool × Seen)) with | .error why => _ | .ok (false, seen) => _ | .ok (true, seen) => _) = _
  rw [hc]; rfl
theorem nl29n (hc : ¬ (p < text.size ∧ text.getD p 0 = 10)) : (S cNl text start 29 p h out fs wt none sn).step = S cNl text start 29 p h out fs wt (some false) (sn.add 16) := by
  show (if p ≥ text.size then _ else _) = _
  by_cases hp : p < text.size
  · rw [if_neg (by omega)]
    show (match (Except.ok (text.getD p 0 == 10, sn.add 16) : Except String (Bool × Seen)) with | .error why => _ | .ok (false, seen) => _ | .ok (true, seen) => _) = _
    have : (text.getD p 0 == 10) = false := by simp only [beq_eq_false_iff_ne]; exact fun e => hc ⟨hp, e⟩
    rw [this]; rfl
  · rw [if_pos (by omega)]; rfl
theorem nl16 : (S cNl text start 16 p h out fs wt none sn).step = S cNl text start 35 p h out fs wt none (sn.add 15) := rfl
theorem nl21 : (S cNl text start 21 p h out fs wt none sn).step = S cNl text start 35 p h out fs wt none (sn.add 15) := rfl
theorem nl32 : (S cNl text start 32 p h out fs wt none sn).step = S cNl text start 35 p h out fs wt none (sn.add 15) := rfl
theorem nl35 : (S cNl text start 35 p h out fs wt none sn).step = S cNl text start 35 p p out fs wt (some true) (sn.add 1) := by
  cases out <;> rfl
theorem nl26 : (S cNl text start 26 p h out fs 2 none sn).step = S cNl text start 29 p p false (fL p out :: fs) 3 none (sn.add 5) := by
  have : (decide (p < 0)) = false := by simp
  rfl
theorem back11 {o2 : Bool} {pc2 p2 : Nat} : (S cNl text start pc2 p2 h o2 (fB 11 p out :: fs) 2 (some false) sn).step = S cNl text start 19 p p out (fB 18 p out :: fs) 2 none sn := rfl
theorem back18 {o2 : Bool} {pc2 p2 : Nat} : (S cNl text start pc2 p2 h o2 (fB 18 p out :: fs) 2 (some false) sn).step = S cNl text start 24 p p out (fB 23 p out :: fs) 2 none sn := rfl
theorem backL {o2 : Bool} {pc2 p2 : Nat} : (S cNl text start pc2 p2 h o2 (fL p out :: fs) 3 (some false) sn).step = S cNl text start 32 p h out fs 2 none sn := rfl
theorem yesB {o2 : Bool} {pc2 p2 q : Nat} : (S cNl text start pc2 p2 h o2 (fB q p out :: fs) 2 (some true) sn).step = S cNl text start q p h out fs 1 (some true) sn := rfl
theorem yesS {code : Array Nat} {o2 : Bool} {pc2 p2 s : Nat} : (S code text start pc2 p2 h o2 (fS code s out :: fs) 1 (some true) sn).step = S code text start (header code).2 s h out fs 0 (some true) sn := rfl

/-- what a run ends in -/
structure Found (m : M) (n b e : Nat) : Prop where
  run : ∃ m', Go n m m' ∧ m'.outcome = some .matched ∧ m'.start = b ∧ m'.handed = e
structure Lost (m : M) (n : Nat) : Prop where
  run : ∃ m', Go n m m' ∧ m'.outcome = some .failed

theorem nl_one_lf {s : Nat} (hp : s < text.size) (hc : text.getD s 0 = 10) : Found (S cNl text s 10 s h out [fS cNl s out] 1 none sn) 9 s (s + 1) :=
  ⟨⟨_, Go.cons rfl nl10 (Go.cons rfl (nl12n (by omega)) (Go.cons rfl back11 (Go.cons rfl (nl19 hp hc) (Go.cons rfl nl21 (Go.cons rfl nl35 (Go.cons rfl yesB (Go.cons rfl yesS (Go.one rfl ended)))))))), rfl, rfl, rfl⟩⟩
theorem nl_two {s : Nat} (hp : s + 1 < text.size) (hc : text.getD s 0 = 13) (hd : text.getD (s + 1) 0 = 10) : Found (S cNl text s 10 s h out [fS cNl s out] 1 none sn) 8 s (s + 2) :=
  ⟨⟨_, Go.cons rfl nl10 (Go.cons rfl (nl12 (by omega) hc) (Go.cons rfl (nl14 hp hd) (Go.cons rfl nl16 (Go.cons rfl nl35 (Go.cons rfl yesB (Go.cons rfl yesS (Go.one rfl ended))))))), rfl, rfl, rfl⟩⟩
theorem nl_one_cr {s : Nat} (hp : s < text.size) (hc : text.getD s 0 = 13) (hd : ¬ (s + 1 < text.size ∧ text.getD (s + 1) 0 = 10)) : Found (S cNl text s 10 s h out [fS cNl s out] 1 none sn) 15 s (s + 1) :=
  ⟨⟨_, Go.cons rfl nl10 (Go.cons rfl (nl12 hp hc) (Go.cons rfl (nl14n hd) (Go.cons rfl back11 (Go.cons rfl (nl19n (by omega)) (Go.cons rfl back18 (Go.cons rfl (nl24 hp hc) (Go.cons rfl nl26 (Go.cons rfl (nl29n hd) (Go.cons rfl backL (Go.cons rfl nl32 (Go.cons rfl nl35 (Go.cons rfl yesB (Go.cons rfl yesS (Go.one rfl ended)))))))))))))), rfl, rfl, rfl⟩⟩
end
end Mine

end

section
open PySem PySem.Sre
set_option Elab.async false
namespace Mine

/-! ## where a run may begin: the set at the head of a code -/
theorem admitted_spec (m : M) (P : Nat → Bool) (hP : ∀ c sn, ∃ sn', inSet m.code c m.code.size 5 true sn = .ok (P c, sn')) :
    ∀ (fuel s : Nat) (sn : Seen), m.lim - s < fuel →
      (∃ sn', M.admitted m fuel s sn = .ok (none, sn') ∧ ∀ k, s ≤ k → k < m.lim → P (m.text.getD k 0) = false) ∨
      (∃ b sn', s ≤ b ∧ b < m.lim ∧ M.admitted m fuel s sn = .ok (some b, sn') ∧ P (m.text.getD b 0) = true ∧ ∀ k, s ≤ k → k < b → P (m.text.getD k 0) = false) := by
  intro fuel
  induction fuel with
  | zero => intro s sn h; omega
  | succ fuel ih =>
    intro s sn h
    unfold M.admitted
    by_cases hs : s ≥ m.lim
    · rw [if_pos hs]
      exact .inl ⟨sn, rfl, fun k h1 h2 => by omega⟩
    · rw [if_neg hs]
      obtain ⟨sn', e⟩ := hP (m.text.getD s 0) sn
      rw [e]
      cases hc : P (m.text.getD s 0) with
      | true => exact .inr ⟨s, sn', Nat.le_refl _, by omega, rfl, hc, fun k h1 h2 => by omega⟩
      | false =>
        dsimp only
        rcases ih (s + 1) sn' (by omega) with ⟨sn2, e2, h2⟩ | ⟨b, sn2, h1, h2, e2, h3, h4⟩
        · exact .inl ⟨sn2, e2, fun k hk hl => if hks : k = s then by rw [hks]; exact hc else h2 k (by omega) hl⟩
        · exact .inr ⟨b, sn2, by omega, h2, e2, h3, fun k hk hl => if hks : k = s then by rw [hks]; exact hc else h4 k (by omega) hl⟩

def isNl (c : Nat) : Bool := c == 10 || c == 13
theorem inSet_nl (c : Nat) (sn : Seen) : ∃ sn', inSet cNl c cNl.size 5 true sn = .ok (isNl c, sn') := by
  have e : inSet cNl c cNl.size 5 true sn = if c == 10 then .ok (true, sn.add 16) else if c == 13 then .ok (true, (sn.add 16).add 16) else .ok (false, ((sn.add 16).add 16).add 0) := rfl
  rw [e]
  unfold isNl
  by_cases h1 : (c == 10) = true
  · rw [if_pos h1, h1]; exact ⟨_, rfl⟩
  · rw [if_neg h1]
    have h1' : (c == 10) = false := by simpa using h1
    by_cases h2 : (c == 13) = true
    · rw [if_pos h2, h1', h2]; exact ⟨_, rfl⟩
    · have h2' : (c == 13) = false := by simpa using h2
      rw [if_neg h2, h1', h2']; exact ⟨_, rfl⟩

/-- the set of shlex: every sign but these -/
def isUn (c : Nat) : Bool := !((c < 256 && ((#[0, 604043296, 1, 0, 0, 0, 0, 0] : Array Nat).getD (c / 32) 0).testBit (c % 32)) || isWord c)
theorem w8_aux : ∀ k, k < 8 → cUn.getD (6 + (1 + k)) 0 = (#[0, 604043296, 1, 0, 0, 0, 0, 0] : Array Nat).getD k 0 := by decide
theorem w21_aux : ∀ k, k < 8 → cUn.getD (21 + (1 + k)) 0 = (#[0, 604043296, 1, 0, 0, 0, 0, 0] : Array Nat).getD k 0 := by decide
theorem inSet_un (c : Nat) (sn : Seen) : ∃ sn', inSet cUn c cUn.size 5 true sn = .ok (isUn c, sn') := by
  have e : inSet cUn c cUn.size 5 true sn = if c < 256 && (cUn.getD (6 + (1 + c / 32)) 0).testBit (c % 32) then .ok (false, (sn.add 21).add 9) else
      (match (Except.ok (isWord c != false) : Except String Bool) with
        | .ok true => .ok (false, (((sn.add 21).add 9).add 8).add (55 + 4))
        | .ok false => .ok (true, ((((sn.add 21).add 9).add 8).add (55 + 4)).add 0)
        | .error why => .error why) := by
    show (if c < 256 && (cUn.getD (6 + (1 + c / 32)) 0).testBit (c % 32) then _ else _) = _
    split
    · rfl
    · show ((Except.ok (isWord c != false) : Except String Bool) >>= fun b => _) = _
      cases isWord c <;> rfl
  rw [e]
  have e8 : (c < 256 && (cUn.getD (6 + (1 + c / 32)) 0).testBit (c % 32)) = (c < 256 && ((#[0, 604043296, 1, 0, 0, 0, 0, 0] : Array Nat).getD (c / 32) 0).testBit (c % 32)) := by
    by_cases hc : c < 256
    · rw [w8_aux _ (by omega)]
    · simp [hc]
  rw [e8]
  unfold isUn
  split
  · rename_i h; rw [h]; exact ⟨_, rfl⟩
  · rename_i h
    have h' := Bool.eq_false_iff.mpr h
    rw [h']
    cases isWord c <;> exact ⟨_, rfl⟩
theorem inSet_un20 (c : Nat) (sn : Seen) : ∃ sn', inSet cUn c cUn.size 20 true sn = .ok (isUn c, sn') := by
  have e : inSet cUn c cUn.size 20 true sn = if c < 256 && (cUn.getD (21 + (1 + c / 32)) 0).testBit (c % 32) then .ok (false, (sn.add 21).add 9) else
      (match (Except.ok (isWord c != false) : Except String Bool) with
        | .ok true => .ok (false, (((sn.add 21).add 9).add 8).add (55 + 4))
        | .ok false => .ok (true, ((((sn.add 21).add 9).add 8).add (55 + 4)).add 0)
        | .error why => .error why) := by
    show (if c < 256 && (cUn.getD (21 + (1 + c / 32)) 0).testBit (c % 32) then _ else _) = _
    split
    · rfl
    · show ((Except.ok (isWord c != false) : Except String Bool) >>= fun b => _) = _
      cases isWord c <;> rfl
  rw [e]
  have e8 : (c < 256 && (cUn.getD (21 + (1 + c / 32)) 0).testBit (c % 32)) = (c < 256 && ((#[0, 604043296, 1, 0, 0, 0, 0, 0] : Array Nat).getD (c / 32) 0).testBit (c % 32)) := by
    by_cases hc : c < 256
    · rw [w21_aux _ (by omega)]
    · simp [hc]
  rw [e8]
  unfold isUn
  split
  · rename_i h; rw [h]; exact ⟨_, rfl⟩
  · rename_i h
    have h' := Bool.eq_false_iff.mpr h
    rw [h']
    cases isWord c <;> exact ⟨_, rfl⟩

/-! ## the search -/
theorem search_short (code text : Array Nat) (i lim : Nat) (h : lim ≤ i) (hl : (header code).1 = 1) : Lost (forSearch code text 0 i lim false) 1 := by
  unfold forSearch
  dsimp only
  rw [hl, if_pos (by rw [Bool.or_eq_true]; exact .inr (by simp; omega))]
  exact ⟨⟨_, Go.one rfl rfl, rfl⟩⟩

/-- the fresh machine of a search -/
def F0 (code text : Array Nat) (i : Nat) : M :=
  { code, text, lim := text.size, start := i, lastStart := text.size, pc := (header code).2, pos := i, handed := i, marks := #[], seen := ({} : Seen).add 14 }

theorem search_nl_from (text : Array Nat) (i : Nat) (h : i < text.size) : forSearch cNl text 0 i text.size false = (F0 cNl text i).attemptFrom i true := by
  show (if (decide (i > text.size) || decide (text.size - i < 1)) = true then _ else _) = _
  rw [if_neg (by simp; omega)]; rfl
theorem search_un_from (text : Array Nat) (i : Nat) (h : i < text.size) : forSearch cUn text 0 i text.size false = (F0 cUn text i).attemptFrom i true := by
  show (if (decide (i > text.size) || decide (text.size - i < 1)) = true then _ else _) = _
  rw [if_neg (by simp; omega)]; rfl
theorem search_dot_from (text : Array Nat) (i : Nat) (h : i < text.size) : forSearch cDot text 0 i text.size false = (F0 cDot text i).attemptFrom i true := by
  show (if (decide (i > text.size) || decide (text.size - i < 1)) = true then _ else _) = _
  rw [if_neg (by simp; omega)]; rfl

/-- what the search for a line end finds from i on -/
inductive NlAns (text : Array Nat) (i : Nat) : Prop
  | none (n : Nat) (hn : n ≤ 20) (L : Lost (forSearch cNl text 0 i text.size false) n) (h : ∀ k, i ≤ k → k < text.size → isNl (text.getD k 0) = false)
  | some (n b e : Nat) (hn : n ≤ 20) (F : Found (forSearch cNl text 0 i text.size false) n b e) (hb : i ≤ b) (hs : b < text.size) (h : ∀ k, i ≤ k → k < b → isNl (text.getD k 0) = false)
      (he : (text.getD b 0 = 10 ∧ e = b + 1) ∨ (text.getD b 0 = 13 ∧ b + 1 < text.size ∧ text.getD (b + 1) 0 = 10 ∧ e = b + 2) ∨ (text.getD b 0 = 13 ∧ ¬ (b + 1 < text.size ∧ text.getD (b + 1) 0 = 10) ∧ e = b + 1))

theorem search_nl (text : Array Nat) (i : Nat) : NlAns text i := by
  by_cases hi : i < text.size
  · rcases admitted_spec (F0 cNl text i) isNl inSet_nl (text.size + 1 - i) i (F0 cNl text i).seen (by show text.size - i < _; omega) with ⟨sn', e, h⟩ | ⟨b, sn', h1, h2, e, h3, h4⟩
    · refine .none 1 (by omega) ?_ h
      rw [search_nl_from _ _ hi]
      have e' : (F0 cNl text i).attemptFrom i true = { F0 cNl text i with seen := sn', answer := some false } := by
        show (match M.admitted (F0 cNl text i) (text.size + 1 - i) i (F0 cNl text i).seen with | .ok (some s, seen) => _ | .ok (none, seen) => _ | .error why => _) = _
        rw [e]; rfl
      rw [e']
      exact ⟨⟨_, Go.one rfl rfl, rfl⟩⟩
    · have e' : (F0 cNl text i).attemptFrom i true = S cNl text b 10 b b true [fS cNl b true] 1 none sn' := by
        show (match M.admitted (F0 cNl text i) (text.size + 1 - i) i (F0 cNl text i).seen with | .ok (some s, seen) => _ | .ok (none, seen) => _ | .error why => _) = _
        rw [e]; rfl
      have hc : text.getD b 0 = 10 ∨ text.getD b 0 = 13 := by
        have h3' : isNl (text.getD b 0) = true := h3
        simpa [isNl] using h3'
      have h2' : b < text.size := h2
      rcases hc with hc | hc
      · exact .some 9 b (b + 1) (by omega) (by rw [search_nl_from _ _ hi, e']; exact nl_one_lf h2 hc) h1 h2 h4 (.inl ⟨hc, rfl⟩)
      · by_cases hd : b + 1 < text.size ∧ text.getD (b + 1) 0 = 10
        · exact .some 8 b (b + 2) (by omega) (by rw [search_nl_from _ _ hi, e']; exact nl_two hd.1 hc hd.2) h1 h2 h4 (.inr (.inl ⟨hc, hd.1, hd.2, rfl⟩))
        · exact .some 15 b (b + 1) (by omega) (by rw [search_nl_from _ _ hi, e']; exact nl_one_cr h2 hc hd) h1 h2 h4 (.inr (.inr ⟨hc, hd, rfl⟩))
  · exact .none 1 (by omega) (search_short _ _ _ _ (by omega) rfl) (fun k h1 h2 => by omega)

/-! ## the unsafe signs -/
section
variable {text : Array Nat} {start p h wt : Nat} {out : Bool} {fs : List Sre.Frame} {sn : Seen}
theorem un18 (hp : p < text.size) (hc : isUn (text.getD p 0) = true) : ∃ sn', (S cUn text start 18 p h out fs wt none sn).step = S cUn text start 33 (p + 1) h out fs wt none sn' := by
  obtain ⟨sn', e⟩ := inSet_un20 (text.getD p 0) (sn.add 13)
  refine ⟨sn', ?_⟩
  show (if p ≥ text.size then _ else _) = _
  rw [if_neg (by omega)]
  show (match inSet cUn (text.getD p 0) cUn.size 20 true (sn.add 13) with | .error why => _ | .ok (false, seen) => _ | .ok (true, seen) => _) = _
  rw [e, hc]; rfl
theorem un33 : (S cUn text start 33 p h out fs wt none sn).step = S cUn text start 33 p p out fs wt (some true) (sn.add 1) := by
  cases out <;> rfl
end
inductive UnAns (text : Array Nat) : Prop
  | none (n : Nat) (hn : n ≤ 20) (L : Lost (forSearch cUn text 0 0 text.size false) n) (h : ∀ k, k < text.size → isUn (text.getD k 0) = false)
  | some (n b e : Nat) (hn : n ≤ 20) (F : Found (forSearch cUn text 0 0 text.size false) n b e) (hs : b < text.size) (h : isUn (text.getD b 0) = true)
theorem search_un (text : Array Nat) : UnAns text := by
  by_cases hi : 0 < text.size
  · rcases admitted_spec (F0 cUn text 0) isUn inSet_un (text.size + 1 - 0) 0 (F0 cUn text 0).seen (by show text.size - 0 < _; omega) with ⟨sn', e, h⟩ | ⟨b, sn', h1, h2, e, h3, h4⟩
    · refine .none 1 (by omega) ?_ (fun k hk => h k (Nat.zero_le _) hk)
      rw [search_un_from _ _ hi]
      have e' : (F0 cUn text 0).attemptFrom 0 true = { F0 cUn text 0 with seen := sn', answer := some false } := by
        show (match M.admitted (F0 cUn text 0) (text.size + 1 - 0) 0 (F0 cUn text 0).seen with | .ok (some s, seen) => _ | .ok (none, seen) => _ | .error why => _) = _
        rw [e]; rfl
      rw [e']
      exact ⟨⟨_, Go.one rfl rfl, rfl⟩⟩
    · have e' : (F0 cUn text 0).attemptFrom 0 true = S cUn text b 18 b b true [fS cUn b true] 1 none sn' := by
        show (match M.admitted (F0 cUn text 0) (text.size + 1 - 0) 0 (F0 cUn text 0).seen with | .ok (some s, seen) => _ | .ok (none, seen) => _ | .error why => _) = _
        rw [e]; rfl
      obtain ⟨sn2, e2⟩ := un18 (text := text) (start := b) (p := b) (h := b) (out := true) (fs := [fS cUn b true]) (wt := 1) (sn := sn') h2 h3
      refine .some 4 b (b + 1) (by omega) ?_ h2 h3
      rw [search_un_from _ _ hi, e']
      exact ⟨⟨_, Go.cons rfl e2 (Go.cons rfl un33 (Go.cons rfl yesS (Go.one rfl ended))), rfl, rfl, rfl⟩⟩
  · exact .none 1 (by omega) (search_short _ _ _ _ (by omega) rfl) (fun k h2 => by omega)

/-! ## the dots at a line's beginning -/
def bol (text : Array Nat) (p : Nat) : Bool := p == 0 || text.getD (p - 1) 0 == 10
section
variable {text : Array Nat} {start p h wt : Nat} {out : Bool} {fs : List Sre.Frame} {sn : Seen}
theorem dot5 (hb : bol text p = true) : (S cDot text start 5 p h out fs wt none sn).step = S cDot text start 7 p h out fs wt none ((sn.add 6).add 44) := by
  show (if bol text p = true then _ else _) = _
  rw [if_pos hb]; rfl
theorem dot5n (hb : bol text p = false) : (S cDot text start 5 p h out fs wt none sn).step = S cDot text start 5 p h out fs wt (some false) ((sn.add 6).add 44) := by
  show (if bol text p = true then _ else _) = _
  rw [if_neg (by rw [hb]; exact Bool.false_ne_true)]; rfl
theorem dot7 (hp : p < text.size) (hc : text.getD p 0 = 46) : (S cDot text start 7 p h out fs wt none sn).step = S cDot text start 9 (p + 1) h out fs wt none (sn.add 16) := by
  show (if p ≥ text.size then _ else _) = _
  rw [if_neg (by omega)]
  show (match (Except.ok (text.getD p 0 == 46, sn.add 16) : Except String (Bool × Seen)) with | .error why => _ | .ok (false, seen) => _ | .ok (true, seen) => _) = _
  rw [hc]; rfl
theorem dot7n (hc : ¬ (p < text.size ∧ text.getD p 0 = 46)) : (S cDot text start 7 p h out fs wt none sn).step = S cDot text start 7 p h out fs wt (some false) (sn.add 16) := by
  show (if p ≥ text.size then _ else _) = _
  by_cases hp : p < text.size
  · rw [if_neg (by omega)]
    show (match (Except.ok (text.getD p 0 == 46, sn.add 16) : Except String (Bool × Seen)) with | .error why => _ | .ok (false, seen) => _ | .ok (true, seen) => _) = _
    have : (text.getD p 0 == 46) = false := by simp only [beq_eq_false_iff_ne]; exact fun e => hc ⟨hp, e⟩
    rw [this]; rfl
  · rw [if_pos (by omega)]; rfl
theorem dot9 : (S cDot text start 9 p h out fs wt none sn).step = S cDot text start 9 p p out fs wt (some true) (sn.add 1) := by
  cases out <;> rfl
theorem dotNext {pc2 p2 : Nat} {o2 : Bool} (hp : p < text.size) : (S cDot text start pc2 p2 h o2 [fS cDot p out] 1 (some false) sn).step = S cDot text (p + 1) 5 (p + 1) (p + 1) false [fS cDot (p + 1) false] 1 none sn := by
  show (if p < text.size then _ else _) = _
  rw [if_pos hp]; rfl
theorem dotLast {pc2 p2 : Nat} {o2 : Bool} (hp : ¬ p < text.size) : (S cDot text start pc2 p2 h o2 [fS cDot p out] 1 (some false) sn).step = S cDot text start 5 p h out [] 0 (some false) sn := by
  show (if p < text.size then _ else _) = _
  rw [if_neg hp]; rfl
end
inductive DotRun (text : Array Nat) (i : Nat) (m : M) (N : Nat) : Prop
  | none (n : Nat) (hn : n ≤ N) (L : Lost m n) (h : ∀ k, i ≤ k → k < text.size → (bol text k && text.getD k 0 == 46) = false)
  | some (n b : Nat) (hn : n ≤ N) (F : Found m n b (b + 1)) (hb : i ≤ b) (hs : b < text.size) (h : ∀ k, i ≤ k → k < b → (bol text k && text.getD k 0 == 46) = false) (h1 : bol text b = true) (h2 : text.getD b 0 = 46)
theorem Lost.after {n k : Nat} {m m' : M} (g : Go n m m') (L : Lost m' k) : Lost m (n + k) := by
  obtain ⟨⟨m'', g', r⟩⟩ := L
  exact ⟨⟨m'', g.trans g', r⟩⟩
theorem Found.after {n k b e : Nat} {m m' : M} (g : Go n m m') (L : Found m' k b e) : Found m (n + k) b e := by
  obtain ⟨⟨m'', g', r⟩⟩ := L
  exact ⟨⟨m'', g.trans g', r⟩⟩
theorem dot_run (text : Array Nat) : ∀ (d p : Nat) (out : Bool) (sn : Seen), p + d = text.size → DotRun text p (S cDot text p 5 p p out [fS cDot p out] 1 none sn) (4 * d + 8) := by
  intro d
  induction d with
  | zero =>
    intro p out sn hd
    have hp : ¬ p < text.size := by omega
    cases hb : bol text p with
    | true => exact .none 4 (by omega) ⟨⟨_, Go.cons rfl (dot5 hb) (Go.cons rfl (dot7n (fun e => hp e.1)) (Go.cons rfl (dotLast hp) (Go.one rfl ended))), rfl⟩⟩ (fun k h1 h2 => by omega)
    | false => exact .none 3 (by omega) ⟨⟨_, Go.cons rfl (dot5n hb) (Go.cons rfl (dotLast hp) (Go.one rfl ended)), rfl⟩⟩ (fun k h1 h2 => by omega)
  | succ d ih =>
    intro p out sn hd
    have hp : p < text.size := by omega
    have next : ∀ (n : Nat) (sn' : Seen), n ≤ 4 → Go n (S cDot text p 5 p p out [fS cDot p out] 1 none sn) (S cDot text (p + 1) 5 (p + 1) (p + 1) false [fS cDot (p + 1) false] 1 none sn') → (bol text p && text.getD p 0 == 46) = false →
        DotRun text p (S cDot text p 5 p p out [fS cDot p out] 1 none sn) (4 * (d + 1) + 8) := by
      intro n sn' hn g hno
      rcases ih (p + 1) false sn' (by omega) with ⟨n2, hn2, L, h⟩ | ⟨n2, b, hn2, F, hb, hs, h, h1, h2⟩
      · exact .none (n + n2) (by omega) (L.after g) (fun k hk hl => if hkp : k = p then by rw [hkp]; exact hno else h k (by omega) hl)
      · exact .some (n + n2) b (by omega) (F.after g) (by omega) hs (fun k hk hl => if hkp : k = p then by rw [hkp]; exact hno else h k (by omega) hl) h1 h2
    cases hb : bol text p with
    | true =>
      by_cases hc : text.getD p 0 = 46
      · exact .some 5 p (by omega) ⟨⟨_, Go.cons rfl (dot5 hb) (Go.cons rfl (dot7 hp hc) (Go.cons rfl dot9 (Go.cons rfl yesS (Go.one rfl ended)))), rfl, rfl, rfl⟩⟩ (Nat.le_refl _) hp (fun k h1 h2 => by omega) hb hc
      · exact next 3 _ (by omega) (Go.cons rfl (dot5 hb) (Go.cons rfl (dot7n (fun e => hc e.2)) (Go.one rfl (dotNext hp)))) (by rw [beq_eq_false_iff_ne.mpr hc, Bool.and_false])
    | false => exact next 2 _ (by omega) (Go.cons rfl (dot5n hb) (Go.one rfl (dotNext hp))) (by simp [hb])
theorem search_dot (text : Array Nat) (i : Nat) : DotRun text i (forSearch cDot text 0 i text.size false) (4 * text.size + 8) := by
  by_cases hi : i < text.size
  · rw [search_dot_from _ _ hi]
    have e : (F0 cDot text i).attemptFrom i true = S cDot text i 5 i i true [fS cDot i true] 1 none (({} : Seen).add 14) := rfl
    rw [e]
    rcases dot_run text (text.size - i) i true (({} : Seen).add 14) (by omega) with ⟨n2, hn2, L, h⟩ | ⟨n2, b, hn2, F, hb, hs, h, h1, h2⟩
    · exact .none n2 (by omega) L h
    · exact .some n2 b (by omega) F hb hs h h1 h2
  · exact .none 1 (by omega) (search_short _ _ _ _ (by omega) rfl) (fun k h1 h2 => by omega)
end Mine

end

section
open PySem PySem.Sre PySem.Builtin PySem.Builtin.Re PyProof.Rows
set_option Elab.async false
set_option maxRecDepth 100000
namespace Mine

/-! ## driving the machine -/
theorem runFor_add (a b : Nat) (m : M) : M.runFor (a + b) m = M.runFor b (M.runFor a m) := by
  induction a generalizing m with
  | zero => rw [Nat.zero_add]; rfl
  | succ a ih =>
    rw [Nat.succ_add]
    show (if m.outcome.isSome then m else M.runFor (a + b) m.step) = M.runFor b (if m.outcome.isSome then m else M.runFor a m.step)
    by_cases h : m.outcome.isSome = true
    · rw [if_pos h, if_pos h, runFor_stop h]
    · rw [if_neg h, if_neg h, ih]
section
variable {Mo : Model} {A : Around} {E : Value → Shared → Prop} {s : Shared}
theorem drive : ∀ (turns n : Nat) (m m' : M) {Q : M → Shared → Prop}, Go n m m' → m'.outcome.isSome = true → 0 < turns → n ≤ 4 * turns → Q m' s → wpAny Mo A (reDrive turns m) Q E s := by
  intro turns
  induction turns with
  | zero => intro n m m' Q _ _ h; omega
  | succ t ih =>
    intro n m m' Q g ho _ hn hq
    show wpAny Mo A (if (m.runFor 4).outcome.isSome then pure (m.runFor 4) else do rule "sre.turn"; reDrive t (m.runFor 4)) Q E s
    by_cases h4 : n ≤ 4
    · have e : m.runFor 4 = m' := by
        have := g (4 - n)
        rw [runFor_stop ho] at this
        rw [← this]; congr 1; omega
      rw [e, if_pos ho]
      exact wpAny_pure hq
    · have e : M.runFor (n - 4) (m.runFor 4) = m' := by
        rw [← runFor_add]
        have := g 0
        rw [show 4 + (n - 4) = n + 0 by omega, this]; rfl
      by_cases hs : (m.runFor 4).outcome.isSome = true
      · rw [if_pos hs]
        rw [runFor_stop hs] at e
        rw [e]
        exact wpAny_pure hq
      · rw [if_neg hs]
        refine wpAny_bind (wpAny_rule ?_)
        refine ih (n - 4) _ m' (fun k => ?_) ho (by omega) (by omega) hq
        rw [← runFor_add, show 4 + (n - 4 + k) = n + k by omega, g k]
theorem ruleLoop (f : Nat → Bool) (g : Nat → String) {Q : PUnit → Shared → Prop} (h : Q ⟨⟩ s) : ∀ l : List Nat,
    wpAny Mo A (forIn l PUnit.unit (fun i (_ : PUnit) => do
      if f i = true then rule (g i)
      pure (ForInStep.yield PUnit.unit))) Q E s
  | [] => wpAny_pure h
  | i :: l => by
    rw [List.forIn_cons]
    refine wpAny_bind ?_
    by_cases hf : f i = true
    · simp only [hf, if_true]
      exact wpAny_bind (wpAny_rule (wpAny_pure (ruleLoop f g h l)))
    · simp only [hf]
      exact wpAny_pure (ruleLoop f g h l)
theorem run_found {n b e : Nat} {m : M} {Q : Option M → Shared → Prop} (F : Found m n b e) (hn : n ≤ 2 ^ 64) (h : ∀ m', m'.start = b → m'.handed = e → Q (some m') s) : wpAny Mo A (reRunToEnd m) Q E s := by
  obtain ⟨⟨m', g, ho, h1, h2⟩⟩ := F
  unfold reRunToEnd
  refine wpAny_bind (drive _ n m m' g (by rw [ho]; rfl) (by decide) (by omega) ?_)
  refine wpAny_bind (ruleLoop _ _ ?_ _)
  rw [ho]
  exact wpAny_pure (h m' h1 h2)
theorem run_lost {n : Nat} {m : M} {Q : Option M → Shared → Prop} (F : Lost m n) (hn : n ≤ 2 ^ 64) (h : Q none s) : wpAny Mo A (reRunToEnd m) Q E s := by
  obtain ⟨⟨m', g, ho⟩⟩ := F
  unfold reRunToEnd
  refine wpAny_bind (drive _ n m m' g (by rw [ho]; rfl) (by decide) (by omega) ?_)
  refine wpAny_bind (ruleLoop _ _ ?_ _)
  rw [ho]
  exact wpAny_pure h
end
end Mine

end

section
open PySem PySem.Sre PySem.Builtin PySem.Builtin.Re PyProof.Rows PySem.Calls
set_option Elab.async false
set_option maxRecDepth 100000
namespace Mine

theorem plainAttrs_Pattern : PlainAttrs "re.Pattern" :=
  ⟨⟨"object.__getattribute__", by rw [typeLookup_type, builtinLookup_eq_fast]; kernel_rfl, by decide +kernel⟩, by rw [typeLookup_type, builtinLookup_eq_fast]; kernel_rfl⟩
theorem slot_sub : Slot "re.Pattern" "sub" "re.Pattern.sub" :=
  .of (owner := "re.Pattern") (n := "sub") (by rw [typeLookup_type, builtinLookup_eq_fast]; kernel_rfl) (by decide +kernel) (by decide +kernel) (by decide +kernel)
    (by first | exact .inl (by decide +kernel) | exact .inr (by decide +kernel)) (by rw [isSubtype_type]; kernel_rfl)
theorem type_sub : typeOf (.builtin "re.Pattern.sub") = pure (.type "method_descriptor") := by show builtinType _ = _; rw [builtinType_eq_fast]; kernel_rfl
theorem entry_sub : entryFor table "re.Pattern.sub" = some Builtin.«re.Pattern.sub» := entryFor_of_tree (by kernel_rfl)
theorem entry_loop : entryFor table "re.Pattern.sub.loop" = some Builtin.«re.Pattern.sub.loop» := entryFor_of_tree (by kernel_rfl)
theorem entry_search : entryFor table "re.Pattern.search" = some Builtin.«re.Pattern.search» := entryFor_of_tree (by kernel_rfl)
theorem slot_search : Slot "re.Pattern" "search" "re.Pattern.search" :=
  .of (owner := "re.Pattern") (n := "search") (by rw [typeLookup_type, builtinLookup_eq_fast]; kernel_rfl) (by decide +kernel) (by decide +kernel) (by decide +kernel)
    (by first | exact .inl (by decide +kernel) | exact .inr (by decide +kernel)) (by rw [isSubtype_type]; kernel_rfl)
theorem owner_Pattern : Manifest.owners.lookup (String.ofList ['n', 'r', 'e', 't', 't', 'a', 'P', '.', 'e', 'r'].reverse) = some Manifest.sig_re_Pattern := by kernel_rfl
theorem args_sub (a b c : Value) : argsOk "re.Pattern.sub" ⟨[a, b, c], []⟩ := by
  unfold argsOk; rw [signature?_of (id := "re.Pattern.sub") (n := ['b', 'u', 's']) (o := ['n', 'r', 'e', 't', 't', 'a', 'P', '.', 'e', 'r']) (by kernel_rfl) owner_Pattern]; kernel_rfl
theorem args_search (a b : Value) : argsOk "re.Pattern.search" ⟨[a, b], []⟩ := by
  unfold argsOk; rw [signature?_of (id := "re.Pattern.search") (n := ['h', 'c', 'r', 'a', 'e', 's']) (o := ['n', 'r', 'e', 't', 't', 'a', 'P', '.', 'e', 'r']) (by kernel_rfl) owner_Pattern]; kernel_rfl
theorem nocall_str : typeLookup (.type "str") "__call__" = pure none := by rw [typeLookup_type, builtinLookup_eq_fast]; kernel_rfl
theorem plain_loop : plainId "re.Pattern.sub.loop" = true := by decide +kernel

theorem named_sub (a b : Value) : reNamed "re.Pattern.sub" "sub" ["repl", "string", "count"] 2 [a, b] [] = pure [some a, some b, none] := rfl
theorem named_search (a : Value) : reNamed "re.Pattern.search" "search" ["string", "pos", "endpos"] 1 [a] [] = pure [some a, none, none] := rfl

/-- a pattern stands at pat, its code is code, it has no groups, it is for texts -/
structure PatAt (h : Heap) (pat : Addr) (code : Array Nat) : Prop where
  here : ∃ po fs ct co cv k, h.get? pat = some po ∧ po.cls = .type "re.Pattern" ∧ po.dict = none ∧ po.data = .fields fs ∧ fs.getD 5 .none = .ref ct ∧ fs.getD 6 .none = .int 0 0 ∧ fs.getD 2 .none = .int 0 0 ∧
    h.get? ct = some co ∧ co.data = .seq cv k ∧ (cv.map reRawOf).map (·.toNat) = code
theorem PatAt.keeps {h h' : Heap} {pat : Addr} {code : Array Nat} (P : PatAt h pat code) (k : ∀ b o, h.get? b = some o → h'.get? b = some o) : PatAt h' pat code := by
  obtain ⟨po, fs, ct, co, cv, n, h1, h2, h3, h4, h5, h6, h7, h8, h9, h10⟩ := P.here
  exact ⟨⟨po, fs, ct, co, cv, n, k _ _ h1, h2, h3, h4, h5, h6, h7, k _ _ h8, h9, h10⟩⟩
theorem PatAt.type {s : Shared} {pat : Addr} {code : Array Nat} (P : PatAt s.heap pat code) : s.TypeIs (.ref pat) "re.Pattern" := by
  obtain ⟨po, fs, ct, co, cv, n, h1, h2, _⟩ := P.here
  exact ⟨po, h1, h2⟩

section
variable {Mo : Model} {A : Around} {E : Value → Shared → Prop} {s : Shared} {pat : Addr} {code : Array Nat} {x : Str} {t : Tok}
def tgt (pat : Addr) (code : Array Nat) (x : Str) (t : Tok) : ReTarget := { pattern := .ref pat, string := .str x t, code := code, text := x.cps, kind := 0, groups := 0, pos := 0, lim := x.cps.size }
theorem whole_wp {Q : ReTarget → Shared → Prop} (P : PatAt s.heap pat code) (h : Q (tgt pat code x t) s) : wpAny Mo A (reWholeTarget (.ref pat) (.str x t)) Q E s := by
  obtain ⟨po, fs, ct, co, cv, n, h1, h2, h3, h4, h5, h6, h7, h8, h9, h10⟩ := P.here
  unfold reWholeTarget
  refine wpAny_bind ?_
  unfold fieldsOf
  refine wpAny_bind (wpAny_load h1 ?_)
  rw [h4]
  refine wpAny_pure ?_
  simp only [h5, h6, h7]
  show wpAny Mo A (reRawItems (.ref ct) >>= fun items => pure { pattern := .ref pat, string := .str x t, code := items.map (·.toNat), text := x.cps, kind := 0, groups := 0, pos := 0, lim := x.cps.size }) Q E s
  refine wpAny_bind ?_
  unfold reRawItems seqItems?
  refine wpAny_bind (wpAny_bind (wpAny_load h8 ?_))
  rw [h9]
  refine wpAny_pure (wpAny_pure (wpAny_pure ?_))
  show Q { pattern := .ref pat, string := .str x t, code := (cv.map reRawOf).map (·.toNat), text := x.cps, kind := 0, groups := 0, pos := 0, lim := x.cps.size } s
  rw [h10]
  exact h
theorem slice_wp {a : Array Nat} {b e : Nat} {Q : Value → Shared → Prop} (hl : a.size ≤ sizeLine) (h : Q (.str ⟨a.extract b e⟩ s.toks) { s with toks := s.toks + 1 }) : wpAny Mo A (reSlice a 0 b e) Q E s := by
  have hs : ¬ (Str.length ⟨a.extract b e⟩ > sizeLine) := by
    show ¬ ((a.extract b e).size > sizeLine)
    rw [Array.size_extract]; omega
  show wpAny Mo A (if Str.length ⟨a.extract b e⟩ > sizeLine then .unsupported "str:memory" else do return .str ⟨a.extract b e⟩ (← fresh)) Q E s
  rw [if_neg hs]
  exact wpAny_bind (wpAny_fresh (wpAny_pure h))
end
end Mine

end

section
open PySem PySem.Sre PySem.Builtin PySem.Builtin.Re PyProof.Rows PySem.Calls
set_option Elab.async false
set_option maxRecDepth 100000
namespace Mine

def cat (ys : List Str) : List Nat := (ys.map fun y => y.cps.toList).flatten
theorem cat_append (a b : List Str) : cat (a ++ b) = cat a ++ cat b := by simp [cat]
theorem cat_one (y : Str) : cat [y] = y.cps.toList := by simp [cat]
theorem cat_len (ys : List Str) : (ys.map (·.length)).sum = (cat ys).length := by
  induction ys with
  | nil => rfl
  | cons y r ih =>
    simp only [cat, List.map_cons, List.sum_cons, List.flatten_cons, List.length_append] at ih ⊢
    rw [ih]; simp [Str.length]
theorem glued_aux (r : List Str) : ∀ acc : Array Nat, (r.foldl (fun acc p => acc ++ (#[] : Array Nat) ++ p.cps) acc).toList = acc.toList ++ cat r := by
  induction r with
  | nil => intro acc; simp [cat]
  | cons y r ih => intro acc; rw [List.foldl_cons, ih]; simp [cat]
theorem join_cat (ys : List Str) : Txt.join ⟨#[]⟩ ys = ⟨(cat ys).toArray⟩ := by
  have e : Txt.join ⟨#[]⟩ ys = Builtin.Str.glued ⟨#[]⟩ ys := rfl
  rw [e]
  unfold Builtin.Str.glued
  congr 1
  apply Array.toList_inj.mp
  rw [glued_aux]
  cases ys with
  | nil => rfl
  | cons y r => simp [cat]

/-- a text's signs from b up to e -/
def cut (a : Array Nat) (b e : Nat) : List Nat := (a.extract b e).toList
theorem strsAre_len : ∀ {vs : List Value} {ys : List Str}, StrsAre vs ys → vs.length = ys.length
  | _, _, .nil => rfl
  | _, _, .cons _ _ r => by simp [strsAre_len r]

/-- what the code finds in the text, as a function of the place: G i is what becomes of the text from i on -/
def SubSpec (code text : Array Nat) (repl : List Nat) (G : Nat → List Nat) : Prop := ∀ i, i ≤ text.size →
  (∃ n, n ≤ 2 ^ 30 ∧ Lost (forSearch code text 0 i text.size false) n ∧ G i = cut text i text.size) ∨
  (∃ n b e, n ≤ 2 ^ 30 ∧ Found (forSearch code text 0 i text.size false) n b e ∧ i ≤ b ∧ b < e ∧ e ≤ text.size ∧ G i = cut text i b ++ repl ++ G e)

section
variable {prog : Program} {w : World} {A : Around} {pat l : Addr} {code : Array Nat} {x repl : Str} {t tr : Tok} {G : Nat → List Nat}

def lst (vs : List Value) (k : Nat) : Obj := { cls := .type "list", data := .seq vs.toArray k }
theorem lst_push {h : Heap} {vs : List Value} {k : Nat} {v : Value} (hl : h.get? l = some (lst vs k)) : ∃ k', (h.update l (Obj.mapSeq (·.push v))).get? l = some (lst (vs ++ [v]) k') := by
  have hm : ∃ k', Obj.mapSeq (·.push v) (lst vs k) = lst (vs ++ [v]) k' := by
    unfold lst Obj.mapSeq
    simp only [List.push_toArray]
    exact ⟨_, rfl⟩
  obtain ⟨k', hm⟩ := hm
  refine ⟨k', ?_⟩
  rw [Heap.get?_update_self _ hl (by rw [hm]; rfl), hm]

/-- all but l stands as it stood -/
def Kept (l : Addr) (h h' : Heap) : Prop := ∀ b o, b ≠ l → h.get? b = some o → h'.get? b = some o
theorem Kept.refl (l : Addr) (h : Heap) : Kept l h h := fun _ _ _ e => e
theorem Kept.trans {l : Addr} {h h' h'' : Heap} (a : Kept l h h') (b : Kept l h' h'') : Kept l h h'' := fun c o n e => b c o n (a c o n e)
theorem Kept.update (l : Addr) (h : Heap) (f : Obj → Obj) : Kept l h (h.update l f) := fun b o n e => ((Heap.SameBut.update (a := l) (h := h) (f := f)).2 b n).trans e

theorem loop_rule (hx : x.length ≤ 1048576) (hG : SubSpec code x.cps repl.cps.toList G) (hG0 : (G 0).length ≤ 16777216) {R : Result → Shared → Prop} :
    ∀ (d i : Nat), x.cps.size - i = d → i ≤ x.cps.size → ∀ (n k : Nat) (vs : List Value) (ys : List Str) (s : Shared), PatAt s.heap pat code → pat ≠ l → (∀ h' : Heap, Kept l s.heap h' → PatAt h' pat code) → s.heap.get? l = some (lst vs k) → StrsAre vs ys → ys.length ≤ 2 * i → cat ys ++ G i = G 0 →
      (∀ t' h' tk, Kept l s.heap h' → R (.ok (.ret (.str ⟨(G 0).toArray⟩ t'))) { s with heap := h', toks := tk }) →
      codeAny (model prog w) A (.builtin "re.Pattern.sub.loop" ⟨[.ref pat, .str x t, .str repl tr, rawInt 0, rawInt 0, rawInt n, rawInt i, rawInt i, .bool false, .ref l, .bool false], []⟩) R s := by
  intro d
  induction d using Nat.strongRecOn with
  | ind d ih =>
  intro i hd hi n k vs ys s P hpl hP hl hys hlen hcat hR
  refine codeAny_builtin entry_loop ?_
  rw [Around.under_plainId plain_loop]
  show wpAny _ _ (reWholeTarget (.ref pat) (.str x t) >>= fun T => _) _ _ _
  refine wpAny_bind (whole_wp P ?_)
  show wpAny _ _ (reNextFound (tgt pat code x t) (i : Int).toNat false >>= fun T => _) _ _ _
  rw [Int.toNat_natCast]
  unfold reNextFound
  refine wpAny_bind ?_
  have hxs : x.cps.size ≤ 1048576 := hx
  have hvl : vs.length ≤ 2 * i := by rw [strsAre_len hys]; exact hlen
  rcases hG i hi with ⟨n₁, hn₁, L, hGi⟩ | ⟨n₁, b, e, hn₁, F, hib, hbe, hes, hGi⟩
  · refine run_lost L (by omega) ?_
    dsimp only
    have last : ∀ (s₁ : Shared) (tk : Nat) (vs₁ : List Value) (ys₁ : List Str) (k₁ : Nat), s₁ = { s with heap := s₁.heap, toks := tk } → Kept l s.heap s₁.heap → s₁.heap.get? l = some (lst vs₁ k₁) → StrsAre vs₁ ys₁ → cat ys₁ = G 0 →
        wpAny (model prog w) A.in1 (reSlice x.cps 0 0 0 >>= fun joiner => seqItems? (.ref l) >>= fun its => (if (its.getD #[]).isEmpty then pure joiner >>= fun text => ret text else call (.builtin "str.join") [joiner, .ref l] >>= fun text => ret text))
          (fun fin s' => match fin with | .done f => R (.ok f) s' | .again c' => c'.quiet = true ∧ codeAny (model prog w) A c' R s') (fun e s' => R (.error e) s') s₁ := by
      intro s₁ tk vs₁ ys₁ k₁ hs₁ hk₁ hl₁ hys₁ hc₁
      refine wpAny_bind (slice_wp (by rw [sizeLine_eq]; omega) ?_)
      have hl₂ : ({ s₁ with toks := s₁.toks + 1 } : Shared).heap.get? l = some (lst vs₁ k₁) := hl₁
      unfold seqItems?
      refine wpAny_bind (wpAny_bind (wpAny_load hl₂ ?_))
      show wpAny _ _ (pure (some vs₁.toArray)) _ _ _
      refine wpAny_pure ?_
      have hend : ∀ (t' : Tok) (tk : Nat), R (.ok (.ret (.str ⟨(G 0).toArray⟩ t'))) { s₁ with toks := tk } := by
        intro t' tk
        rw [hs₁]
        exact hR t' s₁.heap tk hk₁
      dsimp only [Option.getD_some]
      have hj : (⟨x.cps.extract 0 0⟩ : Str) = ⟨#[]⟩ := by congr 1; simp
      by_cases he : vs₁.toArray.isEmpty = true
      · rw [if_pos he]
        refine wpAny_bind (wpAny_pure (wpAny_pure ?_))
        have hv : vs₁ = [] := by simpa using he
        subst hv
        cases hys₁
        show R (.ok (.ret (.str ⟨x.cps.extract 0 0⟩ s₁.toks))) _
        have := hend s₁.toks (s₁.toks + 1)
        rw [← hc₁] at this
        rw [hj]
        exact this
      · rw [if_neg he]
        rw [hj]
        refine wpAny_bind (join_list (items := vs₁.toArray) ⟨_, hl₂, rfl, _, rfl⟩ (by simpa using hys₁) ?_ (fun t' k => ?_))
        · rw [cat_len, hc₁]
          show _ + ys₁.length * 0 ≤ _
          omega
        · refine wpAny_pure ?_
          rw [join_cat, hc₁]
          exact hend t' k
    have hgi : G i = cut x.cps i x.cps.size := hGi
    by_cases hlt : i < x.cps.size
    · show wpAny _ _ (if i < x.cps.size then _ else _) _ _ _
      rw [if_pos hlt]
      show wpAny _ _ (reSlice x.cps 0 i x.cps.size >>= fun p => updateSeq l (fun x => x.push p) >>= fun _ => _) _ _ _
      refine wpAny_bind (slice_wp (by rw [sizeLine_eq]; omega) ?_)
      have hl₂ : ({ s with toks := s.toks + 1 } : Shared).heap.get? l = some (lst vs k) := hl
      refine wpAny_bind (wpAny_updateSeq hl₂ rfl ?_ (by rw [List.size_toArray, sizeLine_eq]; omega) (by rw [List.push_toArray, List.size_toArray, List.length_append, sizeLine_eq]; simp; omega))
      obtain ⟨k', hl'⟩ := lst_push (v := .str ⟨x.cps.extract i x.cps.size⟩ s.toks) hl
      refine last _ (s.toks + 1) _ (ys ++ [⟨x.cps.extract i x.cps.size⟩]) k' rfl (Kept.update _ _ _) hl' (PySem.W.kct_snoc hys) ?_
      rw [cat_append, cat_one, ← hcat, hgi]
      rfl
    · show wpAny _ _ (if i < x.cps.size then _ else _) _ _ _
      rw [if_neg hlt]
      refine last s s.toks vs ys k rfl (Kept.refl _ _) hl hys ?_
      rw [← hcat, hgi]
      have : cut x.cps i x.cps.size = [] := by
        unfold cut
        rw [Array.toList_eq_nil_iff, Array.extract_eq_empty_iff]
        omega
      rw [this, List.append_nil]
  · refine run_found F (by omega) (fun m' h1 h2 => ?_)
    dsimp only
    rw [h1, h2]
    have next : ∀ (s₁ : Shared) (tk : Nat) (vs₁ : List Value) (ys₁ : List Str) (k₁ : Nat), s₁ = { s with heap := s₁.heap, toks := tk } → Kept l s.heap s₁.heap → s₁.heap.get? l = some (lst vs₁ k₁) → StrsAre vs₁ ys₁ → ys₁.length ≤ 2 * i + 1 → cat ys₁ = cat ys ++ cut x.cps i b →
        wpAny (model prog w) A.in1 (updateSeq l (fun x => x.push (.str repl tr)) >>= fun _ => again (Code.builtin "re.Pattern.sub.loop" ⟨[.ref pat, .str x t, .str repl tr, rawInt 0, rawInt 0, rawInt ((n : Int) + 1), rawInt e, rawInt e, .bool (e == b), .ref l, .bool false], []⟩))
          (fun fin s' => match fin with | .done f => R (.ok f) s' | .again c' => c'.quiet = true ∧ codeAny (model prog w) A c' R s') (fun e s' => R (.error e) s') s₁ := by
      intro s₁ tk vs₁ ys₁ k₁ hs₁ hk₁ hl₁ hys₁ hlen₁ hc₁
      have hvl₁ := strsAre_len hys₁
      refine wpAny_bind (wpAny_updateSeq hl₁ rfl ?_ (by rw [List.size_toArray, sizeLine_eq]; omega) (by rw [List.push_toArray, List.size_toArray, List.length_append, sizeLine_eq]; simp; omega))
      obtain ⟨k', hl'⟩ := lst_push (v := .str repl tr) hl₁
      have hk₂ : Kept l s.heap (s₁.heap.update l (Obj.mapSeq fun x => x.push (.str repl tr))) := hk₁.trans (Kept.update _ _ _)
      refine wpAny_pure ⟨plainId_quiet plain_loop _, ?_⟩
      have hne : (e == b) = false := by simp; omega
      rw [hne]
      refine ih (x.cps.size - e) (by omega) e rfl hes (n + 1) k' (vs₁ ++ [.str repl tr]) (ys₁ ++ [repl]) _ (hP _ hk₂) hpl (fun h' hk' => hP _ (hk₂.trans hk')) hl' (PySem.W.kct_snoc hys₁) (by rw [List.length_append]; simp; omega) ?_ ?_
      · rw [cat_append, cat_one, hc₁, ← hcat, hGi]; simp
      · intro t' h' tk' hk'
        rw [hs₁]
        exact hR t' h' tk' (hk₂.trans hk')
    by_cases hlt : i < b
    · rw [if_pos hlt]
      show wpAny _ _ (reSlice x.cps 0 i b >>= fun p => updateSeq l (fun x => x.push p) >>= fun _ => (updateSeq l (fun x => x.push (.str repl tr)) >>= fun _ => again _)) _ _ _
      refine wpAny_bind (slice_wp (by rw [sizeLine_eq]; omega) ?_)
      have hl₂ : ({ s with toks := s.toks + 1 } : Shared).heap.get? l = some (lst vs k) := hl
      refine wpAny_bind (wpAny_updateSeq hl₂ rfl ?_ (by rw [List.size_toArray, sizeLine_eq]; omega) (by rw [List.push_toArray, List.size_toArray, List.length_append, sizeLine_eq]; simp; omega))
      obtain ⟨k', hl'⟩ := lst_push (v := .str ⟨x.cps.extract i b⟩ s.toks) hl
      refine next _ (s.toks + 1) _ (ys ++ [⟨x.cps.extract i b⟩]) k' rfl (Kept.update _ _ _) hl' (PySem.W.kct_snoc hys) (by rw [List.length_append]; simp; omega) ?_
      rw [cat_append, cat_one]
      rfl
    · rw [if_neg hlt]
      refine next s s.toks vs ys k rfl (Kept.refl _ _) hl hys (by omega) ?_
      have : cut x.cps i b = [] := by
        unfold cut
        rw [Array.toList_eq_nil_iff, Array.extract_eq_empty_iff]
        omega
      rw [this, List.append_nil]
end
end Mine

end

section
open PySem PySem.Sre PySem.Builtin PySem.Builtin.Re PyProof.Rows PySem.Calls
set_option Elab.async false
set_option maxRecDepth 100000
namespace Mine
section
variable {prog : Program} {w : World} {A : Around} {E : Value → Shared → Prop} {s : Shared} {pat q : Addr} {code : Array Nat} {x repl : Str} {t tr : Tok} {G : Nat → List Nat} {Q : Value → Shared → Prop}

theorem sub_rule (P : PatAt s.heap pat code) (hb : repl.cps.contains 92 = false) (hx : x.length ≤ 1048576) (hG : SubSpec code x.cps repl.cps.toList G) (hG0 : (G 0).length ≤ 16777216)
    (h : ∀ t' h' tk, (∀ b o, s.heap.get? b = some o → h'.get? b = some o) → Q (.str ⟨(G 0).toArray⟩ t') { s with heap := h', toks := tk }) :
    wpAny (model prog w) A (call (.builtin "re.Pattern.sub") [.ref pat, .str repl tr, .str x t]) Q E s := by
  refine wpAny_call (codeAny_call_builtin slot_sub.plain entry_sub (slot_sub.check _ _ _ _ _ _ _ _ P.type (args_sub _ _ _) ?_))
  show wpAny _ _ (reNamed "re.Pattern.sub" "sub" ["repl", "string", "count"] 2 [.str repl tr, .str x t] [] >>= fun vals => _) _ _ _
  rw [named_sub]
  refine wpAny_bind (wpAny_pure ?_)
  show wpAny _ _ (specialOf (.str repl tr) "__call__" >>= fun c => _) _ _ _
  refine wpAny_bind (wpAny_specialOf (T := "str") rfl nocall_str ?_)
  show wpAny _ _ (if (!repl.cps.contains 92) = true then _ else _) _ _ _
  rw [hb]
  show wpAny _ _ (reWholeTarget (.ref pat) (.str x t) >>= fun T => _) _ _ _
  refine wpAny_bind (whole_wp P ?_)
  show wpAny _ _ (newList [] >>= fun l => again _) _ _ _
  unfold newList
  refine wpAny_bind (wpAny_newObj_type ?_ (by show (#[] : Array Value).size ≤ sizeLine; decide))
  have up : ∀ b o, s.heap.get? b = some o → (s.heap.push { cls := .type "list", data := .seq (#[] : Array Value) }).get? b = some o := fun b o e => Heap.get?_push_of_some _ e
  refine wpAny_pure ⟨plainId_quiet plain_loop _, ?_⟩
  have hlt : ∀ b o, s.heap.get? b = some o → b ≠ s.heap.objs.size := fun b o e => Nat.ne_of_lt (Heap.lt_size e)
  obtain ⟨po, _, _, _, _, _, hpo, _⟩ := P.here
  refine loop_rule hx hG hG0 _ 0 rfl (Nat.zero_le _) 0 0 [] [] _ (P.keeps up) (hlt _ _ hpo) (fun h' hk => P.keeps fun b o e => hk b o (hlt b o e) (up b o e)) (Heap.get?_push_size _ rfl) .nil (Nat.zero_le _) rfl ?_
  intro t' h' tk hk
  exact h t' h' tk fun b o e => hk b o (hlt b o e) (up b o e)

theorem getMethod_sub {pl : Sem Bool} {Q : Value × List Value → Shared → Prop} (P : PatAt s.heap pat code) (h : Q (.builtin "re.Pattern.sub", [.ref pat]) s) : wpAny (model prog w) A (getMethod (.ref pat) "sub" pl) Q E s := by
  obtain ⟨po, fs, ct, co, cv, n, h1, h2, h3, _⟩ := P.here
  exact getMethod_builtin P.type plainAttrs_Pattern slot_sub type_sub (fun a e => by cases e; exact ⟨po, h1, h3⟩) h

def boundObj (pat : Addr) : Obj := { cls := .type "builtin_function_or_method", data := .fields #[.builtin "re.Pattern.search", .ref pat] }

theorem notModule : isSubtype (.type "re.Pattern") (.type "module") = pure false := by rw [isSubtype_type]; kernel_rfl
def sigS : Manifest.Signature := ⟨.keywords, "Pattern.search", "search", .self, [⟨"string", .posOrKw, true⟩, ⟨"pos", .posOrKw, false⟩, ⟨"endpos", .posOrKw, false⟩]⟩
theorem sig_search : Manifest.signature? "re.Pattern.search" = some sigS := by
  rw [signature?_of (id := "re.Pattern.search") (n := ['h', 'c', 'r', 'a', 'e', 's']) (o := ['n', 'r', 'e', 't', 't', 'a', 'P', '.', 'e', 'r']) (by kernel_rfl) owner_Pattern]; kernel_rfl
theorem check_search (a b : Value) : Bind.checkArgs "re.Pattern.search" { sigS with full := s!"{Bind.lastOf "re.Pattern"}.{Bind.lastOf "re.Pattern.search"}" } ⟨[a, b], []⟩ = pure () := by
  kernel_rfl
theorem kind_search : builtinKind "re.Pattern.search" = some .method := by decide +kernel
theorem notVar_search : Manifest.varargsMethods.contains "re.Pattern.search" = false := by decide +kernel
theorem bound_search {Q : Unit → Shared → Prop} (P : PatAt s.heap pat code) (v : Value) (h : Q () s) : wpAny (model prog w) A (checkBoundCall "re.Pattern.search" ⟨[.ref pat, v], []⟩) Q E s := by
  obtain ⟨po, fs, ct, co, cv, n, h1, h2, h3, h4, _⟩ := P.here
  unfold checkBoundCall
  rw [sig_search, kind_search]
  show wpAny _ _ (isInstance (.ref pat) (.type "module") >>= fun m => _) _ _ _
  refine wpAny_bind (wpAny_isInstance P.type notModule ?_)
  rw [notVar_search]
  show wpAny _ _ (isType (.ref pat) >>= fun m => _) _ _ _
  unfold isType
  refine wpAny_bind (wpAny_bind (wpAny_loadPart h1 ?_))
  rw [h4]
  refine wpAny_pure ?_
  show wpAny _ _ (typeOf (.ref pat) >>= fun m => _) _ _ _
  refine wpAny_bind (wpAny_typeOf P.type ?_)
  show wpAny _ _ (Bind.checkArgs "re.Pattern.search" { sigS with full := s!"{Bind.lastOf "re.Pattern"}.{Bind.lastOf "re.Pattern.search"}" } ⟨[.ref pat, v], []⟩) _ _ _
  rw [check_search]
  exact wpAny_pure h

theorem target_search {Q : ReTarget → Shared → Prop} (hx : x.length ≤ 1048576) (P : PatAt s.heap pat code) (h : Q (tgt pat code x t) s) : wpAny (model prog w) A (reTarget "re.Pattern.search" "search" ⟨[.ref pat, .str x t], []⟩) Q E s := by
  obtain ⟨po, fs, ct, co, cv, n, h1, h2, h3, h4, h5, h6, h7, h8, h9, h10⟩ := P.here
  unfold reTarget
  show wpAny _ _ (reNamed "re.Pattern.search" "search" ["string", "pos", "endpos"] 1 [.str x t] [] >>= fun vals => _) _ _ _
  rw [named_search]
  refine wpAny_bind (wpAny_pure ?_)
  show wpAny _ _ (fieldsOf (.ref pat) >>= fun vals => _) _ _ _
  refine wpAny_bind ?_
  unfold fieldsOf
  refine wpAny_bind (wpAny_load h1 ?_)
  rw [h4]
  refine wpAny_pure ?_
  simp only [h5, h6, h7]
  show wpAny _ A (reRawItems (.ref ct) >>= fun items => pure { pattern := .ref pat, string := .str x t, code := items.map (·.toNat), text := x.cps, kind := 0, groups := 0, pos := min 0 x.cps.size, lim := min (9223372036854775807 : Int).toNat x.cps.size }) Q E s
  refine wpAny_bind ?_
  unfold reRawItems seqItems?
  refine wpAny_bind (wpAny_bind (wpAny_load h8 ?_))
  rw [h9]
  refine wpAny_pure (wpAny_pure (wpAny_pure ?_))
  have hxs : x.cps.size ≤ 1048576 := hx
  have e1 : min 0 x.cps.size = 0 := by omega
  have e2 : min (9223372036854775807 : Int).toNat x.cps.size = x.cps.size := by
    rw [Nat.min_eq_right]
    have : (9223372036854775807 : Int).toNat = 9223372036854775807 := rfl
    omega
  show Q { pattern := .ref pat, string := .str x t, code := (cv.map reRawOf).map (·.toNat), text := x.cps, kind := 0, groups := 0, pos := min 0 x.cps.size, lim := min (9223372036854775807 : Int).toNat x.cps.size } s
  rw [h10, e1, e2]
  exact h

theorem search_call (hq : s.heap.get? q = some (boundObj pat)) (P : PatAt s.heap pat cUn) (hx : x.length ≤ 1048576)
    (hnone : (∀ k, k < x.cps.size → isUn (x.cps.getD k 0) = false) → Q .none s)
    (hsome : (∃ k, k < x.cps.size ∧ isUn (x.cps.getD k 0) = true) → ∀ r h', (∀ b o, s.heap.get? b = some o → h'.get? b = some o) → Q (.ref r) { s with heap := h' }) :
    wpAny (model prog w) A (call (.ref q) [.str x t]) Q E s := by
  refine wpAny_call (codeAny_of_tree ?_)
  show wpAny _ A.in1 (load q >>= fun o => _) _ _ _
  refine wpAny_bind (wpAny_load hq ?_)
  show wpAny _ _ (checkBoundCall "re.Pattern.search" ⟨[.ref pat, .str x t], []⟩ >>= fun _ => again (.builtin "re.Pattern.search" ⟨[.ref pat, .str x t], []⟩)) _ _ _
  refine wpAny_bind (bound_search P _ ?_)
  refine wpAny_pure ⟨plainId_quiet slot_search.plain _, ?_⟩
  refine codeAny_builtin entry_search ?_
  rw [Around.under_plainId slot_search.plain]
  show wpAny _ _ (reTarget "re.Pattern.search" "search" ⟨[.ref pat, .str x t], []⟩ >>= fun T => _) _ _ _
  refine wpAny_bind (target_search hx P ?_)
  show wpAny _ _ (reRunToEnd (forSearch cUn x.cps 0 0 x.cps.size false) >>= fun r => _) _ _ _
  refine wpAny_bind ?_
  rcases search_un x.cps with ⟨n, hn, L, h⟩ | ⟨n, b, e, hn, F, hs, h⟩
  · exact run_lost L (by omega) (wpAny_pure (hnone h))
  · refine run_found F (by omega) (fun m' h1 h2 => ?_)
    show wpAny _ _ (newTuple [rawInt m'.start, rawInt m'.handed] >>= fun tp => newFields "re.Match" [.str x t, .ref pat, rawInt 0, rawInt x.cps.size, rawInt m'.lastindex, tp] >>= fun v => ret v) _ _ _
    unfold newTuple newFields
    refine wpAny_bind (wpAny_newObj_type ?_ (by show [rawInt m'.start, rawInt m'.handed].toArray.size ≤ sizeLine; rw [List.size_toArray, sizeLine_eq]; simp))
    refine wpAny_bind (wpAny_newObj_type ?_ (by show [Value.str x t, .ref pat, rawInt 0, rawInt x.cps.size, rawInt m'.lastindex, _].toArray.size ≤ sizeLine + 2; rw [List.size_toArray, sizeLine_eq]; simp))
    refine wpAny_pure ?_
    exact hsome ⟨b, hs, h⟩ _ _ fun b o e => Heap.get?_push_of_some _ (Heap.get?_push_of_some _ e)
end
end Mine

end

section
open PySem PySem.Sre
set_option Elab.async false
namespace Mine

/-! ## quotedata as a reader of one sign after the other -/
def nst (c : Nat) : Nat := if c = 13 then 1 else if c = 10 then 2 else 0
def dpiece (s c : Nat) : List Nat := if c = 10 then (if s = 1 then [] else [13, 10]) else if c = 13 then [13, 10] else if c = 46 ∧ s ≠ 0 then [46, 46] else [c]
def dtr : Nat → List Nat → List Nat
  | _, [] => []
  | s, c :: r => dpiece s c ++ dtr (nst c) r
def after : Nat → List Nat → Nat
  | s, [] => s
  | _, c :: r => after (nst c) r
theorem dtr_append : ∀ (s : Nat) (p r : List Nat), dtr s (p ++ r) = dtr s p ++ dtr (after s p) r
  | _, [], _ => rfl
  | s, c :: p, r => by simp only [List.cons_append, dtr, after, dtr_append (nst c) p r, List.append_assoc]
theorem after_append : ∀ (s : Nat) (p r : List Nat), after s (p ++ r) = after (after s p) r
  | _, [], _ => rfl
  | _, c :: p, r => by simp only [List.cons_append, after, after_append (nst c) p r]
/-- signs that sending leaves alone -/
theorem dtr_plain {p : List Nat} : ∀ (s : Nat), (∀ c ∈ p, c ≠ 10 ∧ c ≠ 13 ∧ c ≠ 46) → dtr s p = p := by
  induction p with
  | nil => intro s _; rfl
  | cons c p ih =>
    intro s h
    have hc := h c (.head _)
    simp only [dtr, dpiece, hc.1, hc.2.1, hc.2.2, false_and, if_false]
    rw [ih _ fun d hd => h d (.tail _ hd)]; rfl
theorem after_plain {p : List Nat} (hp : p ≠ []) : ∀ (s : Nat), (∀ c ∈ p, c ≠ 10 ∧ c ≠ 13) → after s p = 0 := by
  induction p with
  | nil => exact absurd rfl hp
  | cons c p ih =>
    intro s h
    have hc := h c (.head _)
    have hn : nst c = 0 := by simp [nst, hc.1, hc.2]
    cases p with
    | nil => simp [after, hn]
    | cons d p =>
      show after (nst c) (d :: p) = 0
      exact ih (by simp) _ fun e he => h e (.tail _ he)
theorem dtr_dots0 : ∀ n, dtr 0 (List.replicate n 46) = List.replicate n 46
  | 0 => rfl
  | n + 1 => by simp only [List.replicate_succ, dtr, dpiece, nst]; simp [dtr_dots0 n]
theorem dtr_dots {s : Nat} (hs : s ≠ 0) (n : Nat) : dtr s (List.replicate (n + 1) 46) = List.replicate (n + 2) 46 := by
  simp only [List.replicate_succ, dtr, dpiece, nst]; simp [hs, dtr_dots0 n]
theorem after_dots (s n : Nat) : after s (List.replicate (n + 1) 46) = 0 := after_plain (by simp [List.replicate_succ]) s (fun c hc => by rw [List.eq_of_mem_replicate hc]; decide)

/-! ## quote -/
def repl1 (c : Nat) : List Nat := if c = 39 then [39, 34, 39, 34, 39] else [c]
def rep (l : List Nat) : List Nat := l.flatMap repl1
theorem rep_append (a b : List Nat) : rep (a ++ b) = rep a ++ rep b := by simp [rep]
def quoteL (l : List Nat) : List Nat := if l = [] then [39, 39] else if l.all (fun c => !isUn c) then l else 39 :: rep l ++ [39]
def dataL (l : List Nat) : List Nat := dtr 2 l
theorem rep_free {p : List Nat} (h : ∀ c ∈ p, c ≠ 39) : rep p = p := by
  induction p with
  | nil => rfl
  | cons c p ih =>
    have e : rep (c :: p) = repl1 c ++ rep p := by simp [rep]
    rw [e, ih fun d hd => h d (.tail _ hd)]
    simp [repl1, h c (.head _)]

/-! ## what the law tells -/
def markL : Nat → List Nat
  | 0 => [39]
  | n + 1 => rep (markL n)
theorem mark_signs : ∀ n, ∀ c ∈ markL n, c = 39 ∨ c = 34
  | 0, c, h => by simp [markL] at h; exact .inl h
  | n + 1, c, h => by
    simp only [markL, rep, List.mem_flatMap] at h
    obtain ⟨d, hd, hc⟩ := h
    rcases mark_signs n d hd with rfl | rfl
    · simp only [repl1, if_true, List.mem_cons, List.not_mem_nil, or_false] at hc; omega
    · simp only [repl1, List.mem_cons, List.not_mem_nil, or_false] at hc
      rw [if_neg (by decide)] at hc
      simp at hc; exact .inr hc
theorem mark_ne : ∀ n, ∃ r, markL n = 39 :: r
  | 0 => ⟨[], rfl⟩
  | n + 1 => by
    obtain ⟨r, e⟩ := mark_ne n
    refine ⟨[34, 39, 34, 39] ++ rep r, ?_⟩
    simp only [markL, e]
    rfl

def pieceL (q s a : Nat) (st : Option Nat) (c : Nat) : List Nat :=
  if (c = 13 ∨ c = 10) ∧ 0 < s then (if c = 10 ∧ st = some 13 then [] else [13, 10])
  else if c = 46 ∧ (st = none ∨ st = some 13 ∨ st = some 10) then List.replicate (1 + (if st = none then a else s)) 46
  else if c = 39 then markL q else [c]
def bodyL (q s a : Nat) : Option Nat → List Nat → List Nat
  | _, [] => []
  | st, c :: r => pieceL q s a st c ++ bodyL q s a (some c) r
def marksF (q : Nat) : List Nat := (List.range q).flatMap markL
def marksB (q : Nat) : List Nat := (List.range q).reverse.flatMap markL
def plainT (S : List Nat) : Bool := !S.isEmpty && S.all (fun c => c == 46 || c == 97)
def toldL (S : List Nat) (q s a : Nat) : List Nat :=
  if plainT S = true then List.replicate (if S.head? = some 46 then s else 0) 46 ++ S
  else marksF q ++ bodyL q s a none S ++ marksB q

/-! ### quoting -/
theorem rep_piece (q s a : Nat) (st : Option Nat) (c : Nat) : rep (pieceL q s a st c) = pieceL (q + 1) s a st c := by
  unfold pieceL
  split
  · split <;> rfl
  · split
    · exact rep_free fun d hd => by rw [List.eq_of_mem_replicate hd]; decide
    · split
      · rfl
      · rename_i h; simp [rep, repl1, h]
theorem rep_body (q s a : Nat) : ∀ (S : List Nat) (st : Option Nat), rep (bodyL q s a st S) = bodyL (q + 1) s a st S
  | [], _ => rfl
  | c :: S, st => by simp only [bodyL, rep_append, rep_piece, rep_body q s a S]
theorem marksF_succ (q : Nat) : marksF (q + 1) = 39 :: rep (marksF q) := by
  unfold marksF
  rw [List.range_succ_eq_map, List.flatMap_cons]
  have : ∀ l : List Nat, (l.map Nat.succ).flatMap markL = rep (l.flatMap markL) := by
    intro l
    induction l with
    | nil => rfl
    | cons x l ih => simp only [List.map_cons, List.flatMap_cons, rep_append, ih]; rfl
  rw [this]; rfl
theorem marksB_succ (q : Nat) : marksB (q + 1) = rep (marksB q) ++ [39] := by
  unfold marksB
  rw [List.range_succ_eq_map, List.reverse_cons, List.flatMap_append]
  have : ∀ l : List Nat, (l.map Nat.succ).flatMap markL = rep (l.flatMap markL) := by
    intro l
    induction l with
    | nil => rfl
    | cons x l ih => simp only [List.map_cons, List.flatMap_cons, rep_append, ih]; rfl
  rw [← List.map_reverse, this]; rfl

/-- the law's signs -/
def Sign (c : Nat) : Prop := c = 13 ∨ c = 10 ∨ c = 46 ∨ c = 39 ∨ c = 97 ∨ c = 32
theorem un_facts : isUn 13 = true ∧ isUn 10 = true ∧ isUn 39 = true ∧ isUn 32 = true ∧ isUn 34 = true ∧ isUn 46 = false ∧ isUn 97 = false := by decide
theorem body_un {s a : Nat} : ∀ (S : List Nat) (st : Option Nat), (∀ c ∈ S, Sign c) → st ≠ some 13 → (∃ c ∈ S, isUn c = true) → ∃ c ∈ bodyL 0 s a st S, isUn c = true
  | [], _, _, _, h => by obtain ⟨c, hc, _⟩ := h; cases hc
  | c :: S, st, hS, hst, h => by
    obtain ⟨u13, u10, u39, u32, u34, u46, u97⟩ := un_facts
    by_cases hc : isUn c = true
    · have : ∃ d ∈ pieceL 0 s a st c, isUn d = true := by
        unfold pieceL
        split
        · rw [if_neg (fun e => hst e.2)]; exact ⟨13, by simp, u13⟩
        · split
          · rename_i e; rw [e.1, u46] at hc; cases hc
          · split
            · exact ⟨39, by simp [markL], u39⟩
            · exact ⟨c, by simp, hc⟩
      obtain ⟨d, hd, hu⟩ := this
      exact ⟨d, List.mem_append_left _ hd, hu⟩
    · have h' : ∃ c ∈ S, isUn c = true := by
        obtain ⟨d, hd, hu⟩ := h
        rcases List.mem_cons.mp hd with rfl | hd
        · exact absurd hu hc
        · exact ⟨d, hd, hu⟩
      obtain ⟨d, hd, hu⟩ := body_un S (some c) (fun d hd => hS d (.tail _ hd)) (fun e => hc (by rw [Option.some.inj e]; exact u13)) h'
      exact ⟨d, List.mem_append_right _ hd, hu⟩
theorem un_of_not_plain {S : List Nat} (hS : ∀ c ∈ S, Sign c) (hne : S ≠ []) (h : plainT S = false) : ∃ c ∈ S, isUn c = true := by
  obtain ⟨u13, u10, u39, u32, u34, u46, u97⟩ := un_facts
  apply Classical.byContradiction
  intro hn
  have hall : S.all (fun c => c == 46 || c == 97) = true := by
    rw [List.all_eq_true]
    intro c hc
    rcases hS c hc with rfl | rfl | rfl | rfl | rfl | rfl
    · exact absurd ⟨_, hc, u13⟩ hn
    · exact absurd ⟨_, hc, u10⟩ hn
    · rfl
    · exact absurd ⟨_, hc, u39⟩ hn
    · rfl
    · exact absurd ⟨_, hc, u32⟩ hn
  rw [plainT, hall] at h
  simp at h
  exact hne h
theorem quote_un {l : List Nat} (h : ∃ c ∈ l, isUn c = true) : quoteL l = 39 :: rep l ++ [39] := by
  obtain ⟨c, hc, hu⟩ := h
  unfold quoteL
  rw [if_neg (by intro e; rw [e] at hc; cases hc), if_neg]
  intro e
  rw [List.all_eq_true] at e
  have := e c hc
  rw [hu] at this
  cases this
theorem quote_told {S : List Nat} (hS : ∀ c ∈ S, Sign c) (q s a : Nat) : quoteL (toldL S q s a) = toldL S (q + 1) s a := by
  obtain ⟨u13, u10, u39, u32, u34, u46, u97⟩ := un_facts
  unfold toldL
  cases hp : plainT S with
  | true =>
    simp only [if_true]
    simp only [plainT, Bool.and_eq_true, Bool.not_eq_true', List.isEmpty_eq_false_iff] at hp
    unfold quoteL
    rw [if_neg (by simp [hp.1]), if_pos]
    rw [List.all_eq_true]
    intro c hc
    rcases List.mem_append.mp hc with hc | hc
    · rw [List.eq_of_mem_replicate hc]; rfl
    · have := List.all_eq_true.mp hp.2 c hc
      simp at this
      rcases this with rfl | rfl <;> rfl
  | false =>
    simp only [Bool.false_eq_true, if_false]
    have key : quoteL (marksF q ++ bodyL q s a none S ++ marksB q) = 39 :: rep (marksF q ++ bodyL q s a none S ++ marksB q) ++ [39] := by
      cases q with
      | zero =>
        by_cases hne : S = []
        · subst hne; rfl
        · apply quote_un
          obtain ⟨c, hc, hu⟩ := body_un (s := s) (a := a) S none hS (by simp) (un_of_not_plain hS hne hp)
          exact ⟨c, by simp [hc], hu⟩
      | succ q =>
        apply quote_un
        exact ⟨39, by rw [marksF_succ]; simp, u39⟩
    rw [key, rep_append, rep_append, rep_body, marksF_succ, marksB_succ]
    simp

/-! ### sending -/
theorem data_piece {q s a a' σ : Nat} {st : Option Nat} (c : Nat)
    (hn : st = none → (σ = 2 ∧ a' = a + 1) ∨ (σ = 0 ∧ a' = a)) (h0 : ∀ d, st = some d → s = 0 → σ = nst d) (h1 : ∀ d, st = some d → 0 < s → σ = if d = 13 ∨ d = 10 then 2 else 0) :
    dtr σ (pieceL q s a st c) = pieceL q (s + 1) a' st c ∧ after σ (pieceL q s a st c) = (if s = 0 then nst c else if c = 13 ∨ c = 10 then 2 else 0) := by
  have hσ1 : s = 0 → (σ = 1 ↔ st = some 13) := by
    intro hs
    cases st with
    | none => rcases hn rfl with ⟨e, _⟩ | ⟨e, _⟩ <;> simp [e]
    | some d =>
      rw [h0 d rfl hs]
      by_cases hd : d = 13
      · simp [nst, hd]
      · by_cases hd2 : d = 10
        · simp [nst, hd2]
        · simp [nst, hd, hd2]
  by_cases hc : c = 13 ∨ c = 10
  · by_cases hs : s = 0
    · subst hs
      have e1 : pieceL q 0 a st c = [c] := by
        unfold pieceL
        rw [if_neg (by simp), if_neg (by omega), if_neg (by omega)]
      have e2 : pieceL q (0 + 1) a' st c = if c = 10 ∧ st = some 13 then [] else [13, 10] := by
        unfold pieceL
        rw [if_pos ⟨hc, by omega⟩]
      rw [e1, e2]
      refine ⟨?_, by simp [after]⟩
      show dpiece σ c ++ [] = _
      rw [List.append_nil]
      unfold dpiece
      rcases hc with rfl | rfl
      · simp
      · simp only [if_true, true_and]
        by_cases h1 : σ = 1
        · rw [if_pos h1, if_pos ((hσ1 rfl).mp h1)]
        · rw [if_neg h1, if_neg (fun e => h1 ((hσ1 rfl).mpr e))]
    · have hs' : 0 < s := by omega
      have e1 : pieceL q s a st c = if c = 10 ∧ st = some 13 then [] else [13, 10] := by
        unfold pieceL
        rw [if_pos ⟨hc, hs'⟩]
      have e2 : pieceL q (s + 1) a' st c = if c = 10 ∧ st = some 13 then [] else [13, 10] := by
        unfold pieceL
        rw [if_pos ⟨hc, by omega⟩]
      rw [e1, e2, if_neg hs, if_pos hc]
      by_cases hx : c = 10 ∧ st = some 13
      · rw [if_pos hx]
        refine ⟨rfl, ?_⟩
        show σ = 2
        rw [h1 13 hx.2 hs']; simp
      · rw [if_neg hx]
        exact ⟨by simp [dtr, dpiece, nst], by simp [after, nst]⟩
  · have hc' : c ≠ 13 ∧ c ≠ 10 := ⟨fun e => hc (.inl e), fun e => hc (.inr e)⟩
    have hnst : nst c = 0 := by simp [nst, hc'.1, hc'.2]
    have haft : (if s = 0 then nst c else if c = 13 ∨ c = 10 then 2 else 0) = 0 := by
      rw [if_neg hc, hnst, ite_self]
    rw [haft]
    have e1 : ∀ s a, pieceL q s a st c = if c = 46 ∧ (st = none ∨ st = some 13 ∨ st = some 10) then List.replicate (1 + (if st = none then a else s)) 46 else if c = 39 then markL q else [c] := by
      intro s a
      unfold pieceL
      rw [if_neg (fun e => hc e.1)]
    rw [e1, e1]
    by_cases hd : c = 46 ∧ (st = none ∨ st = some 13 ∨ st = some 10)
    · rw [if_pos hd, if_pos hd]
      cases st with
      | none =>
        simp only [if_true]
        rw [Nat.add_comm 1 a, Nat.add_comm 1 a']
        refine ⟨?_, after_dots _ _⟩
        rcases hn rfl with ⟨e, e'⟩ | ⟨e, e'⟩
        · rw [e, e', dtr_dots (by decide)]
        · rw [e, e', dtr_dots0]
      | some d =>
        simp only [reduceCtorEq, if_false]
        rw [Nat.add_comm 1 s, Nat.add_comm 1 (s + 1)]
        refine ⟨?_, after_dots _ _⟩
        have hσ : σ ≠ 0 := by
          have hdd : d = 13 ∨ d = 10 := by simpa using hd.2
          by_cases hs : s = 0
          · rw [h0 d rfl hs]
            rcases hdd with rfl | rfl <;> simp [nst]
          · rw [h1 d rfl (by omega), if_pos hdd]; decide
        exact dtr_dots hσ _
    · rw [if_neg hd, if_neg hd]
      by_cases h39 : c = 39
      · rw [if_pos h39]
        have hm : ∀ d ∈ markL q, d ≠ 10 ∧ d ≠ 13 ∧ d ≠ 46 := fun d hd => by rcases mark_signs q d hd with rfl | rfl <;> decide
        refine ⟨dtr_plain _ hm, after_plain ?_ _ fun d hd => ⟨(hm d hd).1, (hm d hd).2.1⟩⟩
        obtain ⟨r, e⟩ := mark_ne q
        rw [e]; simp
      · rw [if_neg h39]
        refine ⟨?_, by simp [after, hnst]⟩
        show dpiece σ c ++ [] = [c]
        rw [List.append_nil]
        unfold dpiece
        rw [if_neg hc'.2, if_neg hc'.1, if_neg]
        rintro ⟨rfl, hσ⟩
        apply hd
        refine ⟨rfl, ?_⟩
        cases st with
        | none => exact .inl rfl
        | some d =>
          by_cases hs : s = 0
          · rw [h0 d rfl hs] at hσ
            by_cases hd1 : d = 13
            · exact .inr (.inl (by rw [hd1]))
            · by_cases hd2 : d = 10
              · exact .inr (.inr (by rw [hd2]))
              · simp [nst, hd1, hd2] at hσ
          · rw [h1 d rfl (by omega)] at hσ
            by_cases hdd : d = 13 ∨ d = 10
            · rcases hdd with rfl | rfl
              · exact .inr (.inl rfl)
              · exact .inr (.inr rfl)
            · rw [if_neg hdd] at hσ; exact absurd rfl hσ
theorem data_body {q s a a' : Nat} : ∀ (S : List Nat) (σ : Nat) (st : Option Nat),
    (st = none → (σ = 2 ∧ a' = a + 1) ∨ (σ = 0 ∧ a' = a)) → (∀ d, st = some d → s = 0 → σ = nst d) → (∀ d, st = some d → 0 < s → σ = if d = 13 ∨ d = 10 then 2 else 0) →
    dtr σ (bodyL q s a st S) = bodyL q (s + 1) a' st S
  | [], _, _, _, _, _ => rfl
  | c :: S, σ, st, hn, h0, h1 => by
    obtain ⟨e1, e2⟩ := data_piece (q := q) c hn h0 h1
    show dtr σ (pieceL q s a st c ++ bodyL q s a (some c) S) = pieceL q (s + 1) a' st c ++ bodyL q (s + 1) a' (some c) S
    rw [dtr_append, e1, e2, data_body S _ (some c) (by intro e; cases e) (fun d hd hs => by cases hd; rw [if_pos hs]) (fun d hd hs => by cases hd; rw [if_neg (by omega)])]
theorem marksF_signs (q : Nat) : ∀ c ∈ marksF q, c = 39 ∨ c = 34 := fun c hc => by
  obtain ⟨n, _, h⟩ := List.mem_flatMap.mp hc
  exact mark_signs n c h
theorem marksB_signs (q : Nat) : ∀ c ∈ marksB q, c = 39 ∨ c = 34 := fun c hc => by
  obtain ⟨n, _, h⟩ := List.mem_flatMap.mp hc
  exact mark_signs n c h
theorem quiet_of {l : List Nat} (h : ∀ c ∈ l, c = 39 ∨ c = 34) : ∀ c ∈ l, c ≠ 10 ∧ c ≠ 13 ∧ c ≠ 46 := fun c hc => by rcases h c hc with rfl | rfl <;> decide
theorem dtr_safe : ∀ (S : List Nat), (∀ c ∈ S, c = 46 ∨ c = 97) → dtr 0 S = S
  | [], _ => rfl
  | c :: S, h => by
    have ih := dtr_safe S fun d hd => h d (.tail _ hd)
    rcases h c (.head _) with rfl | rfl <;> simp [dtr, dpiece, nst, ih]
theorem data_told (S : List Nat) (q s a : Nat) : dataL (toldL S q s a) = toldL S q (s + 1) (a + if q = 0 then 1 else 0) := by
  unfold toldL dataL
  cases hp : plainT S with
  | true =>
    simp only [if_true]
    simp only [plainT, Bool.and_eq_true, Bool.not_eq_true', List.isEmpty_eq_false_iff, List.all_eq_true, Bool.or_eq_true, beq_iff_eq] at hp
    cases S with
    | nil => exact absurd rfl hp.1
    | cons c S =>
      have hS : ∀ d ∈ S, d = 46 ∨ d = 97 := fun d hd => hp.2 d (.tail _ hd)
      rcases hp.2 c (.head _) with rfl | rfl
      · simp only [List.head?_cons, if_true]
        have e : ∀ n, List.replicate n 46 ++ (46 :: S) = List.replicate (n + 1) 46 ++ S := fun n => by rw [List.replicate_succ']; simp
        rw [e, e, dtr_append, dtr_dots (by decide), after_dots, dtr_safe S hS]
      · simp [dtr, dpiece, nst, dtr_safe S hS]
  | false =>
    simp only [Bool.false_eq_true, if_false]
    rw [List.append_assoc, dtr_append, dtr_plain _ (quiet_of (marksF_signs q)), dtr_append, dtr_plain _ (quiet_of (marksB_signs q))]
    have hb : dtr (after 2 (marksF q)) (bodyL q s a none S) = bodyL q (s + 1) (a + if q = 0 then 1 else 0) none S := by
      apply data_body
      · intro _
        cases q with
        | zero => exact .inl ⟨rfl, rfl⟩
        | succ q =>
          refine .inr ⟨after_plain (by rw [marksF_succ]; simp) _ fun c hc => ?_, rfl⟩
          have := quiet_of (marksF_signs (q + 1)) c hc
          exact ⟨this.1, this.2.1⟩
      · intro d hd; cases hd
      · intro d hd; cases hd
    rw [hb, List.append_assoc]

/-! ### the start -/
theorem body_start : ∀ (S : List Nat) (st : Option Nat), bodyL 0 0 0 st S = S
  | [], _ => rfl
  | c :: S, st => by
    have e : pieceL 0 0 0 st c = [c] := by
      unfold pieceL
      rw [if_neg (by simp)]
      split
      · rename_i h; simp [h.1]
      · split
        · rename_i h; simp [h, markL]
        · rfl
    show pieceL 0 0 0 st c ++ bodyL 0 0 0 (some c) S = c :: S
    rw [e, body_start S]; rfl
theorem told_start (S : List Nat) : toldL S 0 0 0 = S := by
  unfold toldL
  split
  · simp
  · simp [marksF, marksB, body_start]
end Mine

end

section
open PySem PySem.Sre
set_option Elab.async false
namespace Mine
def tr1 : Bool → List Nat → List Nat
  | _, [] => []
  | b, c :: r => if c = 10 then (if b then tr1 false r else 13 :: 10 :: tr1 false r) else if c = 13 then 13 :: 10 :: tr1 true r else c :: tr1 false r
def dotL : Bool → List Nat → List Nat
  | _, [] => []
  | b, c :: r => if b && c == 46 then 46 :: 46 :: dotL false r else c :: dotL (c == 10) r
theorem two_one : ∀ (l : List Nat), dotL false (tr1 false l) = dtr 0 l ∧ dotL true (tr1 true l) = dtr 1 l ∧ dotL true (tr1 false l) = dtr 2 l
  | [] => ⟨rfl, rfl, rfl⟩
  | c :: r => by
    obtain ⟨h0, h1, h2⟩ := two_one r
    by_cases hc : c = 10
    · subst hc
      simp [tr1, dotL, dtr, dpiece, nst, h2]
    · by_cases hd : c = 13
      · subst hd
        simp [tr1, dotL, dtr, dpiece, nst, h1]
      · by_cases he : c = 46
        · subst he
          simp [tr1, dotL, dtr, dpiece, nst, h0]
        · have hb : (c == 10) = false := by simpa using hc
          have hb2 : (c == 46) = false := by simpa using he
          simp [tr1, dotL, dtr, dpiece, nst, h0, hc, hd, he, hb, hb2]

theorem cut_take (a : Array Nat) (b e : Nat) : cut a b e = (a.toList.drop b).take (e - b) := by
  unfold cut
  rw [Array.toList_extract, List.extract_eq_take_drop]
theorem cut_self (a : Array Nat) (b : Nat) : cut a b b = [] := by simp [cut_take]
theorem drop_cons (a : Array Nat) (k : Nat) (h : k < a.size) : a.toList.drop k = a.getD k 0 :: a.toList.drop (k + 1) := by
  have hl : k < a.toList.length := by simpa using h
  rw [List.drop_eq_getElem_cons hl]
  simp [Array.getD, h]
theorem cut_cons (a : Array Nat) (k e : Nat) (h : k < a.size) (he : k < e) : cut a k e = a.getD k 0 :: cut a (k + 1) e := by
  rw [cut_take, cut_take, drop_cons a k h]
  obtain ⟨d, hd⟩ : ∃ d, e - k = d + 1 := ⟨e - k - 1, by omega⟩
  rw [hd, List.take_succ_cons]
  congr 2; omega
theorem cut_all (a : Array Nat) (k : Nat) : cut a k a.size = a.toList.drop k := by
  rw [cut_take]
  apply List.take_of_length_le
  simp
theorem nl_run (a : Array Nat) : ∀ (d k b : Nat), k + d = b → b ≤ a.size → (∀ j, k ≤ j → j < b → isNl (a.getD j 0) = false) → tr1 false (a.toList.drop k) = cut a k b ++ tr1 false (a.toList.drop b)
  | 0, k, b, h, _, _ => by
    rw [Nat.add_zero] at h
    subst h
    rw [cut_self]; rfl
  | d + 1, k, b, h, hb, hn => by
    have hk : k < a.size := by omega
    have hc := hn k (Nat.le_refl _) (by omega)
    have h10 : a.getD k 0 ≠ 10 ∧ a.getD k 0 ≠ 13 := by
      constructor <;> (intro e; rw [e] at hc; cases hc)
    rw [drop_cons a k hk, cut_cons a k b hk (by omega)]
    simp only [tr1, h10.1, h10.2, if_false]
    rw [nl_run a d (k + 1) b (by omega) hb (fun j h1 h2 => hn j (by omega) h2)]
    rfl
theorem dot_run2 (a : Array Nat) : ∀ (d k b : Nat), k + d = b → b ≤ a.size → (∀ j, k ≤ j → j < b → (bol a j && a.getD j 0 == 46) = false) → dotL (bol a k) (a.toList.drop k) = cut a k b ++ dotL (bol a b) (a.toList.drop b)
  | 0, k, b, h, _, _ => by
    rw [Nat.add_zero] at h
    subst h
    rw [cut_self]; rfl
  | d + 1, k, b, h, hb, hn => by
    have hk : k < a.size := by omega
    have hc := hn k (Nat.le_refl _) (by omega)
    rw [drop_cons a k hk, cut_cons a k b hk (by omega)]
    simp only [dotL, hc, Bool.false_eq_true, if_false]
    have hbol : bol a (k + 1) = (a.getD k 0 == 10) := by
      unfold bol
      rw [Nat.add_sub_cancel]
      simp
    rw [← hbol, dot_run2 a d (k + 1) b (by omega) hb (fun j h1 h2 => hn j (by omega) h2)]
    rfl
theorem spec_nl (a : Array Nat) : SubSpec cNl a [13, 10] (fun i => tr1 false (a.toList.drop i)) := by
  intro i hi
  rcases search_nl a i with ⟨n, hn, L, h⟩ | ⟨n, b, e, hn, F, hb, hs, h, he⟩
  · refine .inl ⟨n, by omega, L, ?_⟩
    dsimp only
    rw [nl_run a (a.size - i) i a.size (by omega) (Nat.le_refl _) h, cut_all]
    simp [List.drop_of_length_le, tr1]
  · refine .inr ⟨n, b, e, by omega, F, hb, ?_⟩
    dsimp only
    rw [nl_run a (b - i) i b (by omega) (by omega) h, drop_cons a b hs]
    rcases he with ⟨hc, rfl⟩ | ⟨hc, hs2, hd, rfl⟩ | ⟨hc, hd, rfl⟩
    · refine ⟨by omega, by omega, ?_⟩
      simp [tr1, hc]
    · refine ⟨by omega, by omega, ?_⟩
      rw [drop_cons a (b + 1) hs2, hc, hd]
      simp [tr1]
    · refine ⟨by omega, by omega, ?_⟩
      rw [hc]
      have : tr1 true (a.toList.drop (b + 1)) = tr1 false (a.toList.drop (b + 1)) := by
        by_cases hs2 : b + 1 < a.size
        · rw [drop_cons a (b + 1) hs2]
          have hne : a.getD (b + 1) 0 ≠ 10 := fun e => hd ⟨hs2, e⟩
          simp only [tr1, hne, if_false]
        · rw [List.drop_of_length_le (by simpa using hs2)]; rfl
      simp [tr1, this]
theorem spec_dot (a : Array Nat) (hz : a.size ≤ 16777216) : SubSpec cDot a [46, 46] (fun i => dotL (bol a i) (a.toList.drop i)) := by
  intro i hi
  rcases search_dot a i with ⟨n, hn, L, h⟩ | ⟨n, b, hn, F, hb, hs, h, h1, h2⟩
  · refine .inl ⟨n, by omega, L, ?_⟩
    dsimp only
    rw [dot_run2 a (a.size - i) i a.size (by omega) (Nat.le_refl _) h, cut_all]
    simp [List.drop_of_length_le, dotL]
  · refine .inr ⟨n, b, b + 1, by omega, F, hb, by omega, by omega, ?_⟩
    dsimp only
    rw [dot_run2 a (b - i) i b (by omega) (by omega) h, drop_cons a b hs, h1, h2]
    have hbol : bol a (b + 1) = false := by
      unfold bol
      rw [Nat.add_sub_cancel, h2]
      simp
    rw [hbol]
    simp [dotL]
theorem tr1_len : ∀ (b : Bool) (l : List Nat), (tr1 b l).length ≤ 2 * l.length
  | _, [] => Nat.le_refl _
  | b, c :: r => by
    have h1 := tr1_len false r
    have h2 := tr1_len true r
    unfold tr1
    (repeat' split) <;> simp only [List.length_cons] <;> omega
theorem dotL_len : ∀ (b : Bool) (l : List Nat), (dotL b l).length ≤ 2 * l.length
  | _, [] => Nat.le_refl _
  | b, c :: r => by
    have h1 := dotL_len false r
    have h2 := dotL_len (c == 10) r
    unfold dotL
    (repeat' split) <;> simp only [List.length_cons] <;> omega
theorem dtr_len : ∀ (s : Nat) (l : List Nat), (dtr s l).length ≤ 2 * l.length
  | _, [] => Nat.le_refl _
  | s, c :: r => by
    have h := dtr_len (nst c) r
    simp only [dtr, List.length_append, List.length_cons]
    unfold dpiece
    (repeat' split) <;> simp only [List.length_cons, List.length_nil] <;> omega
end Mine

end

section
open PySem PySem.W PyProof.Rows
set_option Elab.async false
set_option maxRecDepth 100000
set_option maxHeartbeats 8000000
namespace Mine
noncomputable abbrev LooseL : List Str := looseW hd.view_39 [Str.ofString "twin_re_1_smtplib", Str.ofString "_twin_re_2", Str.ofString "twin_re_1_shlex", Str.ofString "_find_unsafe"]
abbrev Claim (w : World) (mean : ExcName → Option Value) (mg mb : Str → Option Value) (f : Addr) (news : List (Addr × Obj)) (pre : Prop) (vs : List Value) (R : Tok → Value) : Prop :=
  CbClaim PySem.Challenge.rw_mj0035_01.row.prog w (hd.heap_39 w.params) hd.view_39 LooseL mean mg mb f news [] pre vs R
end Mine

end

section
open PySem PySem.W PyProof.Rows
set_option Elab.async false
set_option maxRecDepth 100000
set_option maxHeartbeats 8000000
namespace Mine
def patObj (p : String) (a : Nat) (fl : Int) (b : Nat) (ct : Addr) : Obj := { cls := .type "re.Pattern", data := .fields #[.str (Str.ofString p) a, .int fl b, .int 0 0, .none, .none, .ref ct, .int 0 0] }
def codeObj (c : Array Nat) : Obj := { cls := .type "tuple", data := .seq (c.map fun (n : Nat) => Value.int (n : Int) 0) }
theorem patOf {h : Heap} {pat ct : Addr} {p : String} {a b : Nat} {fl : Int} {c : Array Nat} (h1 : h.get? pat = some (patObj p a fl b ct)) (h2 : h.get? ct = some (codeObj c)) : PatAt h pat c := by
  refine ⟨⟨_, _, ct, _, _, _, h1, rfl, rfl, rfl, rfl, rfl, rfl, h2, rfl, ?_⟩⟩
  rw [Array.map_map, Array.map_map]
  exact Array.map_id c
theorem patDot {w : World} {h : Heap} (X : (hd.heap_39 w.params).In h) : PatAt h 36 cDot :=
  patOf (p := "(?m)^\\.") (a := 285) (fl := 40) (b := 298) (X 36 _ (by kernel_rfl)) (X 35 _ (by kernel_rfl))
theorem patNl {w : World} {h : Heap} (X : (hd.heap_39 w.params).In h) : PatAt h 41 cNl :=
  patOf (p := "(?:\\r\\n|\\n|\\r(?!\\n))") (a := 301) (fl := 32) (b := 340) (X 41 _ (by kernel_rfl)) (X 40 _ (by kernel_rfl))
theorem patUn {w : World} {h : Heap} (X : (hd.heap_39 w.params).In h) : PatAt h 53 cUn :=
  patOf (p := "[^\\w@%+=:,./-]") (a := 354) (fl := 256) (b := 391) (X 53 _ (by kernel_rfl)) (X 52 _ (by kernel_rfl))
theorem boundUn {w : World} {h : Heap} (X : (hd.heap_39 w.params).In h) : h.get? 54 = some (boundObj 53) := X 54 _ (by kernel_rfl)

section
variable {prog : Program} {w : World} {A : Around} {E : Value → Shared → Prop} {s : Shared} {h₀ : Heap} {L : Addr} {m : Str → Option Value} {news : List (Addr × Obj)} {x : Str} {t tr : Tok} {Q : Value → Shared → Prop}
theorem dotMethodK {pl : Sem Bool} {Q : Value × List Value → Shared → Prop} (F : Fr h₀ L s.heap m) (X₀ : (hd.heap_39 w.params).In h₀) (h : Q (.builtin "re.Pattern.sub", [.ref 36]) s) :
    wpAny (model prog w) A (getMethod (.ref 36) (Str.ofString "sub") pl) Q E s := getMethod_sub (patDot (X₀.keeps F.keep)) h
theorem nlMethodK {pl : Sem Bool} {Q : Value × List Value → Shared → Prop} (F : Fr h₀ L s.heap m) (X₀ : (hd.heap_39 w.params).In h₀) (h : Q (.builtin "re.Pattern.sub", [.ref 41]) s) :
    wpAny (model prog w) A (getMethod (.ref 41) (Str.ofString "sub") pl) Q E s := getMethod_sub (patNl (X₀.keeps F.keep)) h
theorem nlSubK (F : Fr h₀ L s.heap m) (X₀ : (hd.heap_39 w.params).In h₀) (N : News h₀ L s.heap news) (hx : x.length ≤ 100000)
    (h : ∀ t' h' tk, Fr h₀ L h' m → News h₀ L h' news → Q (.str ⟨(tr1 false x.cps.toList).toArray⟩ t') { s with heap := h', toks := tk }) :
    wpAny (model prog w) A (call (.builtin "re.Pattern.sub") [.ref 41, .str (Str.ofString "\r\n") tr, .str x t]) Q E s := by
  have hl := tr1_len false x.cps.toList
  have hxs : x.cps.toList.length ≤ 100000 := by simpa [Str.length] using hx
  refine sub_rule (patNl (X₀.keeps F.keep)) (by decide +kernel) (by omega) (G := fun i => tr1 false (x.cps.toList.drop i)) (spec_nl x.cps) (by show (tr1 false x.cps.toList).length ≤ _; omega) ?_
  intro t' h' tk k
  exact h t' h' tk (F.keeps k) (N.grown k)
theorem dotSubK (F : Fr h₀ L s.heap m) (X₀ : (hd.heap_39 w.params).In h₀) (N : News h₀ L s.heap news) (hx : x.length ≤ 1000000)
    (h : ∀ t' h' tk, Fr h₀ L h' m → News h₀ L h' news → Q (.str ⟨(dotL true x.cps.toList).toArray⟩ t') { s with heap := h', toks := tk }) :
    wpAny (model prog w) A (call (.builtin "re.Pattern.sub") [.ref 36, .str (Str.ofString "..") tr, .str x t]) Q E s := by
  have hl := dotL_len true x.cps.toList
  have hxs : x.cps.toList.length ≤ 1000000 := by simpa [Str.length] using hx
  have hxs' : x.cps.size ≤ 1000000 := hx
  refine sub_rule (patDot (X₀.keeps F.keep)) (by decide +kernel) (by omega) (G := fun i => dotL (bol x.cps i) (x.cps.toList.drop i)) (spec_dot x.cps (by omega)) (by show (dotL true x.cps.toList).length ≤ _; omega) ?_
  intro t' h' tk k
  exact h t' h' tk (F.keeps k) (N.grown k)
end
def strOfL (l : List Nat) : Str := ⟨l.toArray⟩
local macro_rules | `(tactic| walk_at "getMethod ref") => `(tactic| (k_here; (with_reducible show wpAny _ _ (getMethod (Value.ref _) (Str.ofString "sub") _) _ _ _); k_dflt (first
  | (refine' dotMethodK ?k1 ?k2 ?_; (case k1 => k_asm); (case k2 => k_asm); k_whole)
  | (refine' nlMethodK ?k1 ?k2 ?_; (case k1 => k_asm); (case k2 => k_asm); k_whole))))
theorem len_nl {x : Str} (hx : x.length ≤ 100000) : (⟨(tr1 false x.cps.toList).toArray⟩ : Str).length ≤ 1000000 := by
  have hl := tr1_len false x.cps.toList
  have hxs : x.cps.toList.length ≤ 100000 := by simpa [Str.length] using hx
  show (tr1 false x.cps.toList).toArray.size ≤ _
  rw [List.size_toArray]; omega
theorem data_eq (x : Str) : (⟨(dotL true (⟨(tr1 false x.cps.toList).toArray⟩ : Str).cps.toList).toArray⟩ : Str) = strOfL (dataL x.cps.toList) := by
  show (⟨(dotL true (tr1 false x.cps.toList)).toArray⟩ : Str) = ⟨(dtr 2 x.cps.toList).toArray⟩
  rw [(two_one x.cps.toList).2.2]
local macro_rules | `(tactic| walk_at "call builtin:re.Pattern.sub") => `(tactic| (k_here; k_dflt (first
  | (refine' dotSubK ?k1 ?k2 ?k3 ?k4 ?_; (case k1 => k_asm); (case k2 => k_asm); (case k3 => k_asm); (case k4 => exact len_nl (by assumption)); k_whole)
  | (refine' nlSubK ?k1 ?k2 ?k3 ?k4 ?_; (case k1 => k_asm); (case k2 => k_asm); (case k3 => k_asm); (case k4 => assumption); k_whole)); intro t' h' tk' F' N'; (try k_sweep)))
theorem quotedata_claim (w : World) (mean : ExcName → Option Value) (mg mb : Str → Option Value) (news : List (Addr × Obj)) (x : Str) (t : Tok) :
   Claim w mean mg mb 48 news (x.length ≤ 100000) [.str x t] (fun t => .str (strOfL (dataL x.cps.toList)) t) := by
  unfold Claim; k_fill; dsimp only [CbClaim, CbLists, CbRet]; intros; rename_i hret
  refine wpAny_call ?_
  k_dflt cell_enter
  w_strict (k_steps)
  all_goals (refine' cb_retS hret ?e1 ?e2 ?e3; (case e2 => k_asm); (case e3 => k_asm); (case e1 => exact data_eq _))
end Mine

end

section
open PySem PySem.W PyProof.Rows
set_option Elab.async false
set_option maxRecDepth 100000
set_option maxHeartbeats 8000000
namespace Mine
section
variable {prog : Program} {w : World} {A : Around} {E : Value → Shared → Prop} {s : Shared} {h₀ : Heap} {L : Addr} {m : Str → Option Value} {news : List (Addr × Obj)} {x : Str} {t tr : Tok} {Q : Value → Shared → Prop}
theorem keeps_un {M : Model} (h : Heap) (X : (hd.heap_39 w.params).In h) : ∃ k, (k = Keeper.frame ∨ k = Keeper.machine ∨ k = Keeper.boundFrame) ∧ Looks M h (keeperOf (.ref 54)) k :=
  ⟨.machine, .inr (.inl rfl), (Looks.ld (part := none) (boundUn X)).andThen .now⟩
theorem callWith_un {env : Env} {pos : Pos} {e : Expr} {rest : List Expr} {first : List Value} (_X : (hd.heap_39 w.params).In h₀)
    (h : wpAny (model prog w) A (spliced (backTo pos (starEach (e :: rest) env))) (fun vs s₁ => (hd.heap_39 w.params).In s₁.heap ∧ wpAny (model prog w) A (call (.ref 54) (first ++ vs)) Q E s₁) E s)
    (he : starEach (e :: rest) env = (false, eval e env) :: starEach rest env := by rfl) (hplain : (backTo pos (starEach rest env)).any (·.1) = false := by rfl) :
    wpAny (model prog w) A (callWith pos (.ref 54) first (backTo pos (starEach (e :: rest) env)) []) Q E s := by
  rw [he] at h ⊢
  exact callWith_of (by show ((false || (backTo pos (starEach rest env)).any (·.1)) || false) = false; rw [hplain]; rfl) keeps_un (Calls.evalArgs_plain h)
def Safe (x : Str) : Prop := ∀ k, k < x.cps.size → isUn (x.cps.getD k 0) = false
def Unsafe (x : Str) : Prop := ∃ k, k < x.cps.size ∧ isUn (x.cps.getD k 0) = true
theorem unK (F : Fr h₀ L s.heap m) (X₀ : (hd.heap_39 w.params).In h₀) (N : News h₀ L s.heap news) (hx : x.length ≤ 100000)
    (h1 : Safe x → Q .none s) (h2 : Unsafe x → ∀ r h', Fr h₀ L h' m → News h₀ L h' news → Q (.ref r) { s with heap := h' }) :
    wpAny (model prog w) A (call (.ref 54) [.str x t]) Q E s :=
  search_call (boundUn (X₀.keeps F.keep)) (patUn (X₀.keeps F.keep)) (by omega) h1 (fun hu r h' k => h2 hu r h' (F.keeps k) (N.grown k))
end
theorem rep_join : ∀ parts : List Str, (∀ p ∈ parts, 39 ∉ p.cps.toList) → rep (Str.join ⟨#[39]⟩ parts).cps.toList = (Str.join ⟨#[39, 34, 39, 34, 39]⟩ parts).cps.toList
  | [], _ => rfl
  | [p], h => rep_free fun c hc e => h p (.head _) (e ▸ hc)
  | p :: q :: r, h => by
    have ih := rep_join (q :: r) fun y hy => h y (.tail _ hy)
    show rep (p ++ ⟨#[39]⟩ ++ Str.join ⟨#[39]⟩ (q :: r)).cps.toList = (p ++ ⟨#[39, 34, 39, 34, 39]⟩ ++ Str.join ⟨#[39, 34, 39, 34, 39]⟩ (q :: r)).cps.toList
    simp only [Str.cps_append, Array.toList_append, rep_append]
    rw [ih, rep_free fun c hc e => h p (.head _) (e ▸ hc)]
    rfl
theorem replace_rep (x : Str) : Txt.replace x (Str.ofString "'") (Str.ofString "'\"'\"'") = strOfL (rep x.cps.toList) := by
  have e1 : Str.ofString "'" = ⟨#[39]⟩ := by decide +kernel
  have e2 : Str.ofString "'\"'\"'" = ⟨#[39, 34, 39, 34, 39]⟩ := by decide +kernel
  rw [e1, e2, StrLaws.replace_one]
  have h := rep_join (Txt.split x ⟨#[39]⟩) (StrLaws.split_free x 39)
  rw [StrLaws.join_split] at h
  apply Str.ext'
  apply Array.toList_inj.mp
  rw [← h]
  rfl
theorem rep_len : ∀ l : List Nat, (rep l).length ≤ 5 * l.length
  | [] => Nat.le_refl _
  | c :: l => by
    have ih := rep_len l
    have e : rep (c :: l) = repl1 c ++ rep l := by simp [rep]
    rw [e, List.length_append, List.length_cons]
    have : (repl1 c).length ≤ 5 := by unfold repl1; split <;> simp
    omega
theorem replaceK {prog : Program} {w : World} {A : Around} {E : Value → Shared → Prop} {s : Shared} {x : Str} {t u v : Tok} {Q : Value → Shared → Prop} (hx : x.length ≤ 100000) (hu : u ≠ 0) (hv : v ≠ 0) (huv : u ≠ v)
    (h : ∀ t' k, (strOfL (rep x.cps.toList)).length ≤ 500000 → Q (.str (strOfL (rep x.cps.toList)) t') { s with toks := k }) :
    wpAny (model prog w) A (call (.builtin "str.replace") [.str x t, .str (Str.ofString "'") u, .str (Str.ofString "'\"'\"'") v]) Q E s := by
  refine SC.replace hu hv huv (by decide +kernel) ?_ ?_
  · have e2 : (Str.ofString "'\"'\"'").length = 5 := by decide +kernel
    rw [e2]; omega
  · intro t' k
    rw [replace_rep]
    refine h t' k ?_
    have hl := rep_len x.cps.toList
    have hxs : x.cps.toList.length ≤ 100000 := by simpa [Str.length] using hx
    show (rep x.cps.toList).toArray.size ≤ _
    rw [List.size_toArray]; omega
theorem safe_all {x : Str} (h : Safe x) : x.cps.toList.all (fun c => !isUn c) = true := by
  rw [List.all_eq_true]
  intro c hc
  obtain ⟨k, hk, e⟩ := List.mem_iff_getElem.mp hc
  have hk' : k < x.cps.size := by simpa using hk
  have := h k hk'
  simp only [Array.getElem_toList] at e
  simp only [Array.getD, hk', dif_pos] at this
  have e' : x.cps.getInternal k hk' = x.cps[k] := rfl
  rw [e', e] at this
  simp [this]
theorem unsafe_all {x : Str} (h : Unsafe x) : x.cps.toList.all (fun c => !isUn c) = false := by
  obtain ⟨k, hk, e⟩ := h
  rw [List.all_eq_false]
  refine ⟨x.cps[k], by simp, ?_⟩
  simp only [Array.getD, hk, dif_pos] at e
  have e' : x.cps.getInternal k hk = x.cps[k] := rfl
  rw [e'] at e
  simp [e]
theorem quote_safe {x : Str} (h : Safe x) (hn : x.cps.toList ≠ []) : x = strOfL (quoteL x.cps.toList) := by
  unfold quoteL
  rw [if_neg hn, if_pos (safe_all h)]
  rfl
theorem quote_unsafe {x : Str} (h : Unsafe x) : Str.ofString "'" ++ strOfL (rep x.cps.toList) ++ Str.ofString "'" = strOfL (quoteL x.cps.toList) := by
  have hn : x.cps.toList ≠ [] := by
    obtain ⟨k, hk, _⟩ := h
    intro e
    have : x.cps.toList.length = 0 := by rw [e]; rfl
    rw [Array.length_toList] at this
    omega
  unfold quoteL
  rw [if_neg hn, if_neg (by rw [unsafe_all h]; exact Bool.false_ne_true)]
  have e1 : Str.ofString "'" = ⟨#[39]⟩ := by decide +kernel
  rw [e1]
  apply Str.ext'
  apply Array.toList_inj.mp
  simp [Str.cps_append, strOfL]
theorem ne_of_len {x : Str} (h : (x.length : Int) ≠ 0) : x.cps.toList ≠ [] := by
  intro e
  apply h
  have : x.cps.toList.length = 0 := by rw [e]; rfl
  rw [Array.length_toList] at this
  show ((x.cps.size : Nat) : Int) = 0
  omega
theorem quote_empty {x : Str} (h : (x.length : Int) = 0) : Str.ofString "''" = strOfL (quoteL x.cps.toList) := by
  have hz : x.cps.size = 0 := by have : ((x.cps.size : Nat) : Int) = 0 := h; omega
  have hn : x.cps.toList = [] := by apply List.eq_nil_of_length_eq_zero; rw [Array.length_toList]; exact hz
  rw [hn]
  decide +kernel
local macro_rules | `(tactic| walk_at "call builtin:str.replace") => `(tactic| (k_here; k_dflt (refine' replaceK ?k1 ?k2 ?k3 ?k4 ?_; (case k1 => assumption); (case k2 => exact Nat.succ_ne_zero _); (case k3 => exact Nat.succ_ne_zero _); (case k4 => exact Nat.ne_of_lt (Nat.lt_succ_self _)); k_whole); intro t' k' hL'))
local macro_rules | `(tactic| walk_at "binaryOp Add str str") => `(tactic| (k_here; k_dflt (refine' SBL.add (hsz := ?hsz) ?_; (case hsz => (simp only [Str.length_append, sizeLine_eq, show (Str.ofString "'").length = 1 from by decide +kernel]; omega)); k_whole); intro t' k' hL'))
local macro_rules | `(tactic| walk_at "callWith ref") => `(tactic| (k_here; (with_reducible show wpAny _ _ (callWith _ (Value.ref 54) _ _ _) _ _ _); k_dflt (refine' callWith_un ?k1 ?_; (case k1 => k_asm); k_whole)))
local macro_rules | `(tactic| walk_at "call ref") => `(tactic| (k_here; (with_reducible show wpAny _ _ (call (Value.ref 54) _) _ _ _); k_dflt (refine' unK ?k1 ?k2 ?k3 ?k4 ?h1 ?h2; (case k1 => k_asm); (case k2 => k_asm); (case k3 => k_asm); (case k4 => assumption)); (case' h1 => intro hSafe); (case' h2 => intro hUn r' h' F' N')))
theorem quote_claim (w : World) (mean : ExcName → Option Value) (mg mb : Str → Option Value) (news : List (Addr × Obj)) (x : Str) (t : Tok) :
   Claim w mean mg mb 61 news (x.length ≤ 100000) [.str x t] (fun t => .str (strOfL (quoteL x.cps.toList)) t) := by
  unfold Claim; k_fill; dsimp only [CbClaim, CbLists, CbRet]; intros; rename_i hret
  refine wpAny_call ?_
  k_dflt cell_enter
  w_strict (k_steps)
  all_goals first
    | exact cb_retS hret (quote_unsafe (by assumption)) (by k_asm) (by k_asm)
    | exact cb_retS hret (quote_safe (by assumption) (ne_of_len (by assumption))) (by k_asm) (by k_asm)
    | exact cb_retS hret (quote_empty (by assumption)) (by k_asm) (by k_asm)
end Mine

end

section
open PySem PySem.W PyProof.Rows PySem.Spec PySem.Calls
set_option Elab.async false
set_option maxRecDepth 100000
namespace Mine
/-! ## comprehensions over a text -/
def Sgn (c : Nat) : Str := ⟨#[c]⟩
theorem strWalks {prog : Program} {w : World} {A : Around} (hh : A.handled = none) (I : Addr) (x : Str) (t : Tok) :
    Walks prog w A I [I] [I] x.cps.size (SignAt x) (fun i h => h.IsStrIter I (strIterType x) x t i) := by
  unfold strIterType
  cases x.cps.all (· < 128) with
  | true => exact Walks.strAscii hh I x t
  | false => exact Walks.strWide hh I x t
section
variable {prog : Program} {w : World} {A : Around} {E : Value → Shared → Prop} {s : Shared} {h₀ : Heap} {L : Addr} {m : Str → Option Value} {env : Env}

theorem str_st {I : Addr} {x : Str} {t : Tok} : ∀ i (h h' : Heap) (o : Obj) (nw : List (Addr × Obj)), h.IsStrIter I (strIterType x) x t i → h.get? I = some o → h'.get? I = some o → (∀ b o, h₀.get? b = some o → h'.get? b = some o) → News h₀ L h' nw → True → h'.IsStrIter I (strIterType x) x t i :=
  fun i h h' o nw st e e' _ _ _ => by obtain ⟨o', q, r⟩ := st; rw [e] at q; cases q; exact ⟨o, e', r⟩

def SrcS (prog : Program) (w : World) (A : Around) (h₀ : Heap) (L : Addr) (m : Str → Option Value) (env : Env) (elt : Expr) (x : Str) (scope : Scope) (cl : List (Str × Addr)) (Fin : Shared → List Value → List (Addr × Obj) → Prop) (xv : Value) (s₁ : Shared) : Prop :=
  ∃ y t news, xv = .str y t ∧ A.handled = none ∧ Fr h₀ L s₁.heap m ∧ News h₀ L s₁.heap news ∧ y.cps.size ≤ sizeLine ∧
    ∀ s₂ : Shared, (∃ h, s₂ = { s₁ with heap := h }) → LCg.CompRest prog w A h₀ L m env elt x scope cl s₂ (fun _ => True) (SignAt y) (Fin s₂) y.cps.size 0 [] news
def SrcST (prog : Program) (w : World) (A : Around) (h₀ : Heap) (L : Addr) (m : Str → Option Value) (env : Env) (ct elt : Expr) (x : Str) (scope : Scope) (cl : List (Str × Addr)) (Fin : Shared → List Value → List (Addr × Obj) → Prop) (xv : Value) (s₁ : Shared) : Prop :=
  ∃ y t news, xv = .str y t ∧ A.handled = none ∧ Fr h₀ L s₁.heap m ∧ News h₀ L s₁.heap news ∧ y.cps.size ≤ sizeLine ∧
    ∀ s₂ : Shared, (∃ h, s₂ = { s₁ with heap := h }) → LCt.CompRestT prog w A h₀ L m env ct elt x scope cl s₂ (fun _ => True) (SignAt y) (Fin s₂) y.cps.size 0 [] news

theorem ListComp_S {elt iter : Expr} {x : Str} {px : Pos} {scope : Scope} {cl : List (Str × Addr)} {pos : Pos} {Q : Value → Shared → Prop} (F₀ : Fr h₀ L s.heap m)
    (hclos : closureFor scope env = pure cl) (hcell : ∀ y ∈ scope.names, y.2 ≠ .cell) (hkind : scope.kind = .function)
    (hnames : ∀ y ∈ scope.names, y.2 = .local → scope.names.lookup y.1 = some .local) (hx : scope.names.lookup x = some .local)
    (h : wpAny (model prog w) A (eval iter env) (SrcS prog w A h₀ L m env elt x scope cl (fun s₂ => LCg.FinE h₀ L m s₂ Q)) E s)
    (hs : ∀ x, foldedSetIterable iter env x = pure x := by intro _; rfl) :
    wpAny (model prog w) A (eval (.ListComp elt [⟨.Name x px, iter, [], 0⟩] scope pos) env) Q E s := by
  rw [eval_ListComp]
  refine wpAny_comprehension_free (use := none) rfl hs hclos hkind hnames (wpAny_mono h (fun xv s₁ h₁ => ?_) fun _ _ e => e)
  obtain ⟨y, t, news, rfl, hh, F, N, hsz, R⟩ := h₁
  refine wpAny_pyIter_strU ?_
  have up : ∀ b o, s₁.heap.get? b = some o → (s₁.heap.push { cls := .type (strIterType y), data := .fields #[.str y t, .int 0 0] }).get? b = some o := fun b o e => Heap.get?_push_of_some _ e
  refine LCg.block_U (strWalks hh s₁.heap.objs.size y t) hsz (fun i h st => by obtain ⟨o, e, _⟩ := st; exact ⟨o, e⟩) str_st hcell hkind hx ⟨_, Heap.get?_push_size _ rfl, rfl, rfl⟩ (fun b hb => ?_)
    (F.keeps up) (N.grown up) (Nat.ne_of_lt F.ns.lt) (next_is_new F) (fun p hp => Nat.ne_of_lt (Heap.lt_size (N p hp).1)) trivial (R _ ⟨_, rfl⟩) ?_
  · show b < (s₁.heap.push _).objs.size
    rw [Heap.size_push, List.mem_singleton.mp hb]; exact Nat.lt_succ_self _
  · intro D C h tk m' ys news' F' N' o1 hn hC₀ hD₀ hCL hDL hCD offC fin
    refine ⟨m', hn, fun h'' hs'' => fin D h'' tk (F'.change hs'' hCL hC₀) (fun p hp => ?_) o1⟩
    refine ⟨hs''.extBut _ _ ?_ (N' p hp).1, (N' p hp).2⟩
    rcases List.mem_cons.mp hp with rfl | hp
    · exact Ne.symm hCD
    · exact offC p hp

theorem ListComp_ST {ct elt iter : Expr} {x : Str} {px : Pos} {scope : Scope} {cl : List (Str × Addr)} {pos : Pos} {Q : Value → Shared → Prop} (F₀ : Fr h₀ L s.heap m)
    (hclos : closureFor scope env = pure cl) (hcell : ∀ y ∈ scope.names, y.2 ≠ .cell) (hkind : scope.kind = .function)
    (hnames : ∀ y ∈ scope.names, y.2 = .local → scope.names.lookup y.1 = some .local) (hx : scope.names.lookup x = some .local)
    (h : wpAny (model prog w) A (eval iter env) (SrcST prog w A h₀ L m env ct elt x scope cl (fun s₂ => LCg.FinE h₀ L m s₂ Q)) E s)
    (hs : ∀ x, foldedSetIterable iter env x = pure x := by intro _; rfl) :
    wpAny (model prog w) A (eval (.ListComp elt [⟨.Name x px, iter, [ct], 0⟩] scope pos) env) Q E s := by
  rw [eval_ListComp]
  refine wpAny_comprehension_free (use := none) rfl hs hclos hkind hnames (wpAny_mono h (fun xv s₁ h₁ => ?_) fun _ _ e => e)
  obtain ⟨y, t, news, rfl, hh, F, N, hsz, R⟩ := h₁
  refine wpAny_pyIter_strU ?_
  have up : ∀ b o, s₁.heap.get? b = some o → (s₁.heap.push { cls := .type (strIterType y), data := .fields #[.str y t, .int 0 0] }).get? b = some o := fun b o e => Heap.get?_push_of_some _ e
  refine LCt.block_T (strWalks hh s₁.heap.objs.size y t) hsz (fun i h st => by obtain ⟨o, e, _⟩ := st; exact ⟨o, e⟩) str_st hcell hkind hx ⟨_, Heap.get?_push_size _ rfl, rfl, rfl⟩ (fun b hb => ?_)
    (F.keeps up) (N.grown up) (Nat.ne_of_lt F.ns.lt) (next_is_new F) (fun p hp => Nat.ne_of_lt (Heap.lt_size (N p hp).1)) trivial (R _ ⟨_, rfl⟩) ?_
  · show b < (s₁.heap.push _).objs.size
    rw [Heap.size_push, List.mem_singleton.mp hb]; exact Nat.lt_succ_self _
  · intro D C h tk m' ys news' F' N' o1 hn hC₀ hD₀ hCL hDL hCD offC fin
    refine ⟨m', hn, fun h'' hs'' => fin D h'' tk (F'.change hs'' hCL hC₀) (fun p hp => ?_) o1⟩
    refine ⟨hs''.extBut _ _ ?_ (N' p hp).1, (N' p hp).2⟩
    rcases List.mem_cons.mp hp with rfl | hp
    · exact Ne.symm hCD
    · exact offC p hp
end

/-- the turn of a comprehension over a text gives g of the sign -/
def StEl (news : List (Addr × Obj)) (r : Str) (y : Value) (news' : List (Addr × Obj)) : Prop := news' = news ∧ ∃ t : Tok, y = .str r t
section
variable {prog : Program} {w : World} {A : Around} {h₀ : Heap} {L : Addr} {m : Str → Option Value} {env : Env} {ct elt : Expr} {x : Str} {scope : Scope} {cl : List (Str × Addr)} {s : Shared} {Fin : List Value → List (Addr × Obj) → Prop} {news : List (Addr × Obj)}
theorem rest_S {y : Str} (g : Nat → Str)
    (turn : ∀ c t I oI C oC D m₂ ys h tk (E' : Value → Shared → Prop), c ∈ y.cps.toList → LCg.NsObj oC m₂ → m₂ x = some (.str (Sgn c) t) → Fr h₀ L h m → News h₀ L h ((I, oI) :: (C, oC) :: (D, LCg.lst ys) :: news) → LCg.Off3 I C D news → ((@Ne Nat I C) ∧ (@Ne Nat I D) ∧ (@Ne Nat C D)) →
      wpAny (model prog w) A (eval elt (compEnvC scope cl C env)) (LCg.CompEnd h₀ L m { s with heap := h, toks := tk } I oI C oC D (LCg.lst ys) (fun _ => True) (fun y news' => StEl news (g c) y news')) E' { s with heap := h, toks := tk })
    (fin : ∀ ys, StrsAre ys (y.cps.toList.map g) → Fin ys news) : LCg.CompRest prog w A h₀ L m env elt x scope cl s (fun _ => True) (SignAt y) Fin y.cps.size 0 [] news := by
  have hlen : y.cps.toList.length = y.cps.size := Array.length_toList
  have key : ∀ (j i : Nat) (ys : List Value), i + j = y.cps.size → StrsAre ys ((y.cps.toList.take i).map g) → LCg.CompRest prog w A h₀ L m env elt x scope cl s (fun _ => True) (SignAt y) Fin j i ys news := by
    intro j
    induction j with
    | zero =>
      intro i ys hi hy
      have e : i = y.cps.toList.length := by omega
      rw [e, List.take_length] at hy
      exact LCg.CompRest.zero (fin ys hy)
    | succ j ih =>
      intro i ys hi hy
      refine LCg.CompRest.succ ?_
      intro v I oI C oC D m₂ h tk E' hv hC hx F N off ne
      obtain ⟨c, u, hk, hv'⟩ := hv
      rw [hv'] at hx
      have hk' : y.cps.toList[i]? = some c := by rw [Array.getElem?_toList]; exact hk
      refine wpAny_mono (turn c u I oI C oC D m₂ ys h tk E' (List.mem_of_getElem? hk') hC hx F N off ne) (fun z s₂ hq => ?_) fun _ _ e => e
      obtain ⟨h', tk', nw, e, F', N', off', hS, hn, t', hy'⟩ := hq
      rw [hn] at N' off'
      refine ⟨h', tk', news, e, F', N', off', trivial, ?_⟩
      rw [hy']
      refine ih (i + 1) _ (by omega) ?_
      rw [List.take_add_one, hk']
      simpa using PySem.W.kct_snoc hy
  exact key y.cps.size 0 [] (by omega) (by simp only [List.take_zero, List.map_nil]; exact .nil)

def StYes (news : List (Addr × Obj)) (p : Bool) (r : Str) (y : Value) (news' : List (Addr × Obj)) : Prop := p = true ∧ news' = news ∧ ∃ t : Tok, y = .str r t
def StNo (news : List (Addr × Obj)) (p : Bool) (news' : List (Addr × Obj)) : Prop := p = false ∧ news' = news
theorem rest_ST {y : Str} (p : Nat → Bool)
    (turn : ∀ c t I oI C oC D m₂ ys h tk (E' : Value → Shared → Prop), c ∈ y.cps.toList → LCg.NsObj oC m₂ → m₂ x = some (.str (Sgn c) t) → Fr h₀ L h m → News h₀ L h ((I, oI) :: (C, oC) :: (D, LCg.lst ys) :: news) → LCg.Off3 I C D news → ((@Ne Nat I C) ∧ (@Ne Nat I D) ∧ (@Ne Nat C D)) →
      wpAny (model prog w) A (isTrue ct (compEnvC scope cl C env) (eval ct (compEnvC scope cl C env))) (fun ok s' => if ok = true then
        wpAny (model prog w) A (eval elt (compEnvC scope cl C env)) (LCg.CompEnd h₀ L m { s with heap := h, toks := tk } I oI C oC D (LCg.lst ys) (fun _ => True) (fun y news' => StYes news (p c) (Sgn c) y news')) E' s'
        else LCg.CompEnd h₀ L m { s with heap := h, toks := tk } I oI C oC D (LCg.lst ys) (fun _ => True) (fun _ news' => StNo news (p c) news') Value.none s') E' { s with heap := h, toks := tk })
    (fin : ∀ ys, StrsAre ys ((y.cps.toList.filter p).map Sgn) → Fin ys news) : LCt.CompRestT prog w A h₀ L m env ct elt x scope cl s (fun _ => True) (SignAt y) Fin y.cps.size 0 [] news := by
  have hlen : y.cps.toList.length = y.cps.size := Array.length_toList
  have key : ∀ (j i : Nat) (ys : List Value), i + j = y.cps.size → StrsAre ys (((y.cps.toList.take i).filter p).map Sgn) → LCt.CompRestT prog w A h₀ L m env ct elt x scope cl s (fun _ => True) (SignAt y) Fin j i ys news := by
    intro j
    induction j with
    | zero =>
      intro i ys hi hy
      have e : i = y.cps.toList.length := by omega
      rw [e, List.take_length] at hy
      exact LCt.CompRestT.zero (fin ys hy)
    | succ j ih =>
      intro i ys hi hy
      refine LCt.CompRestT.succ ?_
      intro v I oI C oC D m₂ h tk E' hv hC hx F N off ne
      obtain ⟨c, u, hk, hv'⟩ := hv
      rw [hv'] at hx
      have hk' : y.cps.toList[i]? = some c := by rw [Array.getElem?_toList]; exact hk
      refine wpAny_mono (turn c u I oI C oC D m₂ ys h tk E' (List.mem_of_getElem? hk') hC hx F N off ne) (fun ok s₂ hq => ?_) fun _ _ e => e
      cases ok with
      | true =>
        simp only [if_true] at hq ⊢
        refine wpAny_mono hq (fun z s₃ hq => ?_) fun _ _ e => e
        obtain ⟨h', tk', nw, e, F', N', off', hS, hp, hn, t', hy'⟩ := hq
        rw [hn] at N' off'
        refine ⟨h', tk', news, e, F', N', off', trivial, ?_⟩
        rw [hy']
        refine ih (i + 1) _ (by omega) ?_
        rw [List.take_add_one, hk', List.filter_append]
        have : List.filter p (some c).toList = [c] := by simp [hp]
        rw [this, List.map_append]
        exact PySem.W.kct_snoc hy
      | false =>
        simp only [Bool.false_eq_true, if_false] at hq ⊢
        obtain ⟨h', tk', nw, e, F', N', off', hS, hp, hn⟩ := hq
        rw [hn] at N' off'
        refine ⟨h', tk', news, e, F', N', off', trivial, ?_⟩
        refine ih (i + 1) _ (by omega) ?_
        rw [List.take_add_one, hk', List.filter_append]
        have : List.filter p (some c).toList = [] := by simp [hp]
        rw [this, List.append_nil]
        exact hy
  exact key y.cps.size 0 [] (by omega) (by simp only [List.take_zero, List.filter_nil, List.map_nil]; exact .nil)
end
end Mine

end

section
open PySem PySem.W PyProof.Rows PySem.Spec PySem.Calls
set_option Elab.async false
set_option maxRecDepth 100000
set_option maxHeartbeats 8000000
namespace Mine
/-- a claim that asks for k frames' room -/
abbrev ClaimK (k : Nat) (w : World) (mean : ExcName → Option Value) (mg mb : Str → Option Value) (f : Addr) (news : List (Addr × Obj)) (pre : Prop) (vs : List Value) (R : Tok → Value) : Prop :=
  ∀ (dp un : Nat) (gd : Option (List Code)) (cn : Str) (cs : Scope) (a : Addr) (ccd : Value) (cl : List (Str × Addr)) (outer : List Env) (A₀ : Around) (base h₀ : Heap) (L : Addr) (m : Str → Option Value) (s : Shared) (Q E : Value → Shared → Prop),
    Below A₀ base outer h₀ → Fr h₀ L s.heap m → (hd.heap_39 w.params).In h₀ → News h₀ L s.heap news → Top hd.view_39 LooseL mean mg mb h₀ → cs.kind = .function →
    pre → dp + k < recursionLimit → un + 8 * k < cLine → CbRet h₀ L m news s Q R →
      wpAny (model PySem.Challenge.rw_mj0035_01.row.prog w) (ktrTop dp un gd cn cs L a ccd cl outer) (call (.ref f) vs) Q E s

section
variable {prog : Program} {w : World} {A : Around} {E : Value → Shared → Prop} {s : Shared} {h₀ : Heap} {L : Addr} {m : Str → Option Value} {env : Env} {elt ct : Expr} {x : Str} {scope : Scope} {cl : List (Str × Addr)} {Fin : Shared → List Value → List (Addr × Obj) → Prop} {news : List (Addr × Obj)}
theorem SrcS.intro {y : Str} {t : Tok} (g : Nat → Str) (hh : A.handled = none) (F : Fr h₀ L s.heap m) (N : News h₀ L s.heap news) (hsz : y.cps.size ≤ sizeLine)
    (turn : ∀ c t I oI C oC D m₂ ys h tk (E' : Value → Shared → Prop), c ∈ y.cps.toList → LCg.NsObj oC m₂ → m₂ x = some (.str (Sgn c) t) → Fr h₀ L h m → News h₀ L h ((I, oI) :: (C, oC) :: (D, LCg.lst ys) :: news) → LCg.Off3 I C D news → ((@Ne Nat I C) ∧ (@Ne Nat I D) ∧ (@Ne Nat C D)) →
      wpAny (model prog w) A (eval elt (compEnvC scope cl C env)) (LCg.CompEnd h₀ L m { s with heap := h, toks := tk } I oI C oC D (LCg.lst ys) (fun _ => True) (fun y news' => StEl news (g c) y news')) E' { s with heap := h, toks := tk })
    (fin : ∀ gh ys, StrsAre ys (y.cps.toList.map g) → Fin { s with heap := gh } ys news) : SrcS prog w A h₀ L m env elt x scope cl Fin (.str y t) s :=
  ⟨y, t, news, rfl, hh, F, N, hsz, fun s₂ ⟨gh, e⟩ => e ▸ rest_S g turn (fin gh)⟩
theorem SrcST.intro {y : Str} {t : Tok} (p : Nat → Bool) (hh : A.handled = none) (F : Fr h₀ L s.heap m) (N : News h₀ L s.heap news) (hsz : y.cps.size ≤ sizeLine)
    (turn : ∀ c t I oI C oC D m₂ ys h tk (E' : Value → Shared → Prop), c ∈ y.cps.toList → LCg.NsObj oC m₂ → m₂ x = some (.str (Sgn c) t) → Fr h₀ L h m → News h₀ L h ((I, oI) :: (C, oC) :: (D, LCg.lst ys) :: news) → LCg.Off3 I C D news → ((@Ne Nat I C) ∧ (@Ne Nat I D) ∧ (@Ne Nat C D)) →
      wpAny (model prog w) A (isTrue ct (compEnvC scope cl C env) (eval ct (compEnvC scope cl C env))) (fun ok s' => if ok = true then
        wpAny (model prog w) A (eval elt (compEnvC scope cl C env)) (LCg.CompEnd h₀ L m { s with heap := h, toks := tk } I oI C oC D (LCg.lst ys) (fun _ => True) (fun y news' => StYes news (p c) (Sgn c) y news')) E' s'
        else LCg.CompEnd h₀ L m { s with heap := h, toks := tk } I oI C oC D (LCg.lst ys) (fun _ => True) (fun _ news' => StNo news (p c) news') Value.none s') E' { s with heap := h, toks := tk })
    (fin : ∀ gh ys, StrsAre ys ((y.cps.toList.filter p).map Sgn) → Fin { s with heap := gh } ys news) : SrcST prog w A h₀ L m env ct elt x scope cl Fin (.str y t) s :=
  ⟨y, t, news, rfl, hh, F, N, hsz, fun s₂ ⟨gh, e⟩ => e ▸ rest_ST p turn (fin gh)⟩
theorem joinK {D : Addr} {ys : List Value} {ts : List Str} {r : List Nat} {t : Tok} {Q : Value → Shared → Prop} (N : News h₀ L s.heap news) (hm : (D, LCg.lst ys) ∈ news) (hs : StrsAre ys ts) (e : cat ts = r) (hb : r.length ≤ 16777216)
    (h : ∀ t' k, Q (.str (strOfL r) t') { s with toks := k }) : wpAny (model prog w) A (call (.builtin "str.join") [.str (Str.ofString "") t, .ref D]) Q E s := by
  have e0 : Str.ofString "" = ⟨#[]⟩ := by decide +kernel
  rw [e0]
  refine join_list (items := ys.toArray) ⟨_, (N _ hm).1, rfl, _, rfl⟩ (by simpa using hs) ?_ (fun t' k => ?_)
  · rw [cat_len, e]
    show _ + ts.length * 0 ≤ _
    omega
  · rw [join_cat, e]
    exact h t' k
end
def markG (c : Nat) : Str := if c = 39 then Str.ofString "'\"'\"'" else Sgn c
theorem cat_markG : ∀ l : List Nat, cat (l.map markG) = rep l
  | [] => rfl
  | c :: l => by
    have e : cat ((c :: l).map markG) = (markG c).cps.toList ++ cat (l.map markG) := by simp [cat]
    have e2 : rep (c :: l) = repl1 c ++ rep l := by simp [rep]
    rw [e, e2, cat_markG l]
    congr 1
    unfold markG repl1
    split
    · decide +kernel
    · rfl
theorem markL_len : ∀ n, (markL n).length ≤ 5 ^ n
  | 0 => Nat.le_refl _
  | n + 1 => by
    have h := rep_len' (markL n)
    have ih := markL_len n
    show (rep (markL n)).length ≤ 5 ^ (n + 1)
    rw [Nat.pow_succ]
    omega
where
  rep_len' : ∀ l : List Nat, (rep l).length ≤ 5 * l.length
  | [] => Nat.le_refl _
  | c :: l => by
    have ih := rep_len' l
    have e : rep (c :: l) = repl1 c ++ rep l := by simp [rep]
    rw [e, List.length_append, List.length_cons]
    have : (repl1 c).length ≤ 5 := by unfold repl1; split <;> simp
    omega

abbrev MarkC (n : Nat) : Prop := ∀ (w : World) (mean : ExcName → Option Value) (mg mb : Str → Option Value) (news : List (Addr × Obj)) (t : Tok), ClaimK (n + 1) w mean mg mb 66 news True [.int (n : Int) t] (fun t => .str (strOfL (markL n)) t)
theorem mark_zero : MarkC 0 := by
  intro w mean mg mb news t
  unfold ClaimK
  k_fill; dsimp only [CbRet]; intros; rename_i hret
  refine wpAny_call ?_
  k_dflt cell_enter
  w_strict (k_steps)
  all_goals exact cb_retS hret (by decide +kernel) (by k_asm) (by k_asm)
theorem mark_use {n : Nat} (C : MarkC n) {w : World} {mean : ExcName → Option Value} {mg mb : Str → Option Value} {news : List (Addr × Obj)} {v : Int} {tk : Tok} (hv : v = (n : Int)) {dp un : Nat} {gd : Option (List Code)} {cn : Str} {cs : Scope} {a : Addr} {ccd : Value} {cl : List (Str × Addr)} {outer : List Env} {A₀ : Around} {base h₀ : Heap} {L : Addr} {m : Str → Option Value} {s : Shared} {Q E : Value → Shared → Prop}
    (B : Below A₀ base outer h₀) (F : Fr h₀ L s.heap m) (X : (hd.heap_39 w.params).In h₀) (N : News h₀ L s.heap news) (T : Top hd.view_39 LooseL mean mg mb h₀) (hk : cs.kind = .function) (h1 : dp + (n + 1) < recursionLimit) (h2 : un + 8 * (n + 1) < cLine)
    (ret : CbRet h₀ L m news s Q (fun t => .str (strOfL (markL n)) t)) :
    wpAny (model PySem.Challenge.rw_mj0035_01.row.prog w) (ktrTop dp un gd cn cs L a ccd cl outer) (call (.ref 66) [.int v tk]) Q E s := by
  subst hv
  exact C w mean mg mb news tk dp un gd cn cs a ccd cl outer A₀ base h₀ L m s Q E B F X N T hk trivial h1 h2 ret
theorem mark_sz {n : Nat} (hn : n ≤ 2) : (strOfL (markL n)).cps.size ≤ sizeLine := by
  have h := markL_len n
  have : 5 ^ n ≤ 5 ^ 2 := Nat.pow_le_pow_right (by decide) hn
  show (markL n).toArray.size ≤ _
  rw [List.size_toArray, sizeLine_eq]
  omega
theorem mark_sz3 {n : Nat} (hn : n ≤ 2) : (markL (n + 1)).length ≤ 16777216 := by
  have h := markL_len (n + 1)
  have : 5 ^ (n + 1) ≤ 5 ^ 3 := Nat.pow_le_pow_right (by decide) (by omega)
  omega
local macro_rules | `(tactic| walk_at "eval ListComp") => `(tactic| (k_here; (with_reducible show wpAny _ _ (eval (Expr.ListComp _ [⟨Expr.Name (Str.ofString "sign") _, _, [], _⟩] _ _) _) _ _ _); k_dflt (refine ListComp_S (F₀ := by k_asm) (by with_unfolding_all rfl) (by decide) (by rfl) (by decide) (by rfl) ?_)))
local macro_rules | `(tactic| walk_at "call ref") => `(tactic| (k_here; (with_reducible show wpAny _ _ (call (Value.ref 66) _) _ _ _); k_dflt (refine' mark_use ?ih ?hv ?k1 ?k2 ?k3 ?k4 ?k5 ?k6 ?k7 ?k8 ?_; (case ih => assumption); (case hv => omega); (case k1 => k_asm); (case k2 => k_asm); (case k3 => k_asm); (case k4 => k_asm); (case k5 => k_asm); (case k6 => exact rfl); (case k7 => ktr_room); (case k8 => ktr_units)); intro t' h' tk' F' N'; (try dsimp only)))
local macro_rules | `(tactic| walk_at "SrcS") => `(tactic| (k_here; k_dflt (refine' SrcS.intro markG ?hh ?F ?N ?sz ?turn ?fin; (case hh => exact rfl); (case F => k_asm); (case N => k_asm); (case sz => exact mark_sz (by assumption))); (case' turn => intro c' t' I' oI' C' oC' D' m' ys' h' tk' E' hc' hC' hx' F' N' off' ne'); (case' fin => intro gh' ys' hS')))
local macro_rules | `(tactic| walk_at "CompEnd") => `(tactic| refine LCg.CompEnd.intro (by assumption) (by assumption) _ (fun p hp => hp) (by assumption) trivial ?_)
theorem sgn_beq (c d : Nat) : (Sgn c == Sgn d) = (c == d) := by
  by_cases h : c = d
  · subst h; simp
  · have h1 : (c == d) = false := by simpa using h
    rw [h1, beq_eq_false_iff_ne]
    intro e
    apply h
    have : (#[c] : Array Nat) = #[d] := congrArg Str.cps e
    simpa using this
theorem apo : Str.ofString "'" = Sgn 39 := by decide +kernel
theorem el_yes {news : List (Addr × Obj)} {c : Nat} {t : Tok} (h : (Sgn c == Str.ofString "'") = true) : StEl news (markG c) (.str (Str.ofString "'\"'\"'") t) news := by
  rw [apo, sgn_beq] at h
  have hc : c = 39 := by simpa using h
  subst hc
  exact ⟨rfl, t, rfl⟩
theorem el_no {news : List (Addr × Obj)} {c : Nat} {t : Tok} (h : (Sgn c == Str.ofString "'") = false) : StEl news (markG c) (.str (Sgn c) t) news := by
  rw [apo, sgn_beq] at h
  have hc : c ≠ 39 := by simpa using h
  refine ⟨rfl, t, ?_⟩
  unfold markG
  rw [if_neg hc]
theorem cat_mark (n : Nat) : cat ((strOfL (markL n)).cps.toList.map markG) = markL (n + 1) := cat_markG (markL n)
local macro_rules | `(tactic| walk_at "StEl") => `(tactic| first | exact el_yes (by assumption) | exact el_no (by assumption))
local macro_rules | `(tactic| walk_at "call builtin:str.join") => `(tactic| (k_here; k_dflt (refine' joinK ?N ?m ?s (cat_mark _) ?b ?_; (case N => k_asm); (case m => k_mem); (case s => k_asm); (case b => exact mark_sz3 (by assumption))); intro t' k'))
theorem mark_succ {n : Nat} (hn : n ≤ 2) (ih : MarkC n) : MarkC (n + 1) := by
  intro w mean mg mb news t
  unfold ClaimK
  k_fill; dsimp only [CbRet]; intros; rename_i hret
  refine wpAny_call ?_
  k_dflt cell_enter
  w_strict (k_steps)
  all_goals first
    | (exfalso; omega)
    | exact cb_retS hret rfl (by k_asm) (cb_drop (by k_asm) (fun p hp => List.mem_cons_of_mem _ hp))
theorem mark_all : ∀ n, n ≤ 3 → MarkC n
  | 0, _ => mark_zero
  | n + 1, h => mark_succ (by omega) (mark_all n (by omega))
end Mine

end

section
open PySem PySem.W PyProof.Rows PySem.Spec PySem.Calls
set_option Elab.async false
set_option maxRecDepth 100000
set_option maxHeartbeats 8000000
namespace Mine
section
variable {prog : Program} {w : World} {A : Around} {E : Value → Shared → Prop} {s : Shared} {env : Env} {h₀ : Heap} {body : List Stmt} {Q : Flow → Shared → Prop}
def BodyPost (h₀ : Heap) (L D : Addr) (rest : List (Addr × Obj)) (vs : List Value) (r : Str) (m₀ : Str → Option Value) (s₁ : Shared) (f : Flow) (s₂ : Shared) : Prop :=
  f = .next ∧ ∃ h' tk m' k' tok, s₂ = { s₁ with heap := h', toks := tk } ∧ Fr h₀ L h' m' ∧ News h₀ L h' ((D, W.listOf (vs ++ [Value.str r tok]).toArray k') :: rest) ∧ ∀ z, z ≠ Str.ofString "k" → z ≠ Str.ofString "front" → z ≠ Str.ofString "end" → m' z = m₀ z
theorem iterBody {r D : Addr} {n : Nat} {t₀ u₀ v₀ : Tok} {m₀ : Str → Option Value} {news : List (Addr × Obj)} (piece : Nat → Str)
    (hh : A.handled = none) (hr : IsRange s.heap r 0 (n : Int) 1 t₀ u₀ v₀) (hsm : Builtin.Range.small 0 (n : Int) 1 = true) (hn : Builtin.Range.rangeSize 0 (n : Int) 1 = (n : Int)) (F : Fr h₀ env.locals s.heap m₀) (N : News h₀ env.locals s.heap ((D, W.listOf #[] 0) :: news)) (hD : ∀ p ∈ news, p.1 < D)
    (turn : ∀ i t (u : Str → Option Value) vs k h tk rest, i < n → StrsAre vs ((List.range i).map piece) → (∀ p ∈ rest, p.1 ≠ D) → Fr h₀ env.locals h (fun z => if z = Str.ofString "k" then some (.int (i : Int) t) else if z = Str.ofString "front" then u z else if z = Str.ofString "end" then u z else m₀ z) → News h₀ env.locals h ((D, W.listOf vs.toArray k) :: rest) →
      wpAny (model prog w) A (execs body env) (BodyPost h₀ env.locals D rest vs (piece i) m₀ { s with heap := h, toks := tk }) E { s with heap := h, toks := tk })
    (done : ∀ (u : Str → Option Value) vs k h tk, StrsAre vs ((List.range n).map piece) → Fr h₀ env.locals h (fun z => if z = Str.ofString "k" then u z else if z = Str.ofString "front" then u z else if z = Str.ofString "end" then u z else m₀ z) → News h₀ env.locals h ((D, W.listOf vs.toArray k) :: news) → Q .next { s with heap := h, toks := tk }) :
    wpAny (model prog w) A (pyIter (.ref r)) (fun it s₂ => LoopAtV prog w A h₀ env (Str.ofString "k") body Q E it s₂) E s := by
  refine tbr_invG (fun i m nx => ∃ vs k, nx = (D, W.listOf vs.toArray k) :: news ∧ StrsAre vs ((List.range i).map piece) ∧ ∀ z, z ≠ Str.ofString "k" → z ≠ Str.ofString "front" → z ≠ Str.ofString "end" → m z = m₀ z) hh hr hsm hn F N ⟨[], 0, rfl, .nil, fun _ _ _ _ => rfl⟩ ?_ ?_
  · rintro i k t m₁ nx h tk own hk hoff ⟨vs, kk, rfl, hvs, hm⟩ F₁ N₁
    have hi : i < n := by
      have := (List.getElem?_eq_some_iff.mp hk).1
      rwa [rangeKs_length] at this
    have hki : k = (i : Int) := by
      have : (rangeKs 0 n)[i]? = some (0 + (i : Int)) := by simp [rangeKs, hi]
      rw [this] at hk
      have := Option.some.inj hk
      omega
    subst hki
    have e : (fun z => if z = Str.ofString "k" then some (Value.int (i : Int) t) else m₁ z) = (fun z => if z = Str.ofString "k" then some (.int (i : Int) t) else if z = Str.ofString "front" then m₁ z else if z = Str.ofString "end" then m₁ z else m₀ z) := by
      funext z
      by_cases h1 : z = Str.ofString "k"
      · rw [if_pos h1, if_pos h1]
      · rw [if_neg h1, if_neg h1]
        by_cases h2 : z = Str.ofString "front"
        · rw [if_pos h2]
        · rw [if_neg h2]
          by_cases h3 : z = Str.ofString "end"
          · rw [if_pos h3]
          · rw [if_neg h3]; exact hm z h1 h2 h3
    rw [e] at F₁
    have hD' : ∀ p ∈ news ++ own, p.1 ≠ D := by
      intro p hp
      rcases List.mem_append.mp hp with hp | hp
      · exact Nat.ne_of_lt (hD p hp)
      · exact hoff p hp (D, W.listOf vs.toArray kk) (.head _)
    refine wpAny_mono (turn i t m₁ vs kk h tk (news ++ own) hi hvs hD' F₁ N₁) (fun f s₂ hp => ?_) fun _ _ e => e
    obtain ⟨rfl, h', tk', m', k', tok, e2, F', N', hm'⟩ := hp
    refine ⟨h', tk', m', _, (D, W.listOf (vs ++ [Value.str (piece i) tok]).toArray k') :: news, e2, F', N', ?_, ?_, ?_, ?_⟩
    · intro p hp
      rcases List.mem_cons.mp hp with rfl | hp
      · exact .head _
      · exact .tail _ (List.mem_append_left _ hp)
    · intro p hp
      exact .tail _ (List.mem_append_right _ hp)
    · intro p hp q hq
      rcases List.mem_cons.mp hq with rfl | hq
      · exact hoff p hp (D, W.listOf vs.toArray kk) (.head _)
      · exact hoff p hp q (.tail _ hq)
    · refine ⟨vs ++ [Value.str (piece i) tok], k', rfl, ?_, hm'⟩
      rw [List.range_succ, List.map_append]
      exact PySem.W.kct_snoc hvs
  · rintro m₁ nx h tk ⟨vs, k, rfl, hvs, hm⟩ F₁ N₁
    refine done m₁ vs k h tk hvs ?_ N₁
    have e : (fun z => if z = Str.ofString "k" then m₁ z else if z = Str.ofString "front" then m₁ z else if z = Str.ofString "end" then m₁ z else m₀ z) = m₁ := by
      funext z
      by_cases h1 : z = Str.ofString "k"
      · rw [if_pos h1]
      · rw [if_neg h1]
        by_cases h2 : z = Str.ofString "front"
        · rw [if_pos h2]
        · rw [if_neg h2]
          by_cases h3 : z = Str.ofString "end"
          · rw [if_pos h3]
          · rw [if_neg h3]; exact (hm z h1 h2 h3).symm
    rw [e]; exact F₁
theorem appendB {D : Addr} {vs : List Value} {k : Nat} {rest : List (Addr × Obj)} {v : Value} {L : Addr} {m : Str → Option Value} {Q : Value → Shared → Prop} (F : Fr h₀ L s.heap m) (N : News h₀ L s.heap ((D, W.listOf vs.toArray k) :: rest)) (off : ∀ p ∈ rest, p.1 ≠ D) (hsz : vs.length ≤ 1000000)
    (h : ∀ h', Fr h₀ L h' m → News h₀ L h' ((D, W.listOf (vs ++ [v]).toArray (k + 1)) :: rest) → Q .none { s with heap := h' }) : wpAny (model prog w) A (call (.builtin "list.append") [.ref D, v]) Q E s := by
  refine append_K F N (.head off) ?_ (by rw [List.size_toArray, sizeLine_eq]; omega)
  rw [List.push_toArray]
  exact h
end
end Mine

end

section
open PySem PySem.W PyProof.Rows PySem.Spec PySem.Calls
set_option Elab.async false
set_option maxRecDepth 100000
set_option maxHeartbeats 8000000
namespace Mine
def StopHere (P : Prop) : Prop := P
theorem stopHere {P : Prop} (h : StopHere P) : P := h
def stAt (x : Str) (i : Nat) : Option Nat := if i = 0 then none else some (x.cps.getD (i - 1) 0)
def chAt (x : Str) (i : Nat) : Nat := x.cps.getD i 0
def pieceF (x : Str) (q s a : Nat) (i : Nat) : Str := strOfL (pieceL q s a (stAt x i) (chAt x i))

theorem item_is {x : Str} {i : Nat} (hi : i < x.length) : Txt.item x (i : Int) = Sgn (chAt x i) := by
  have hi' : i < x.cps.size := hi
  refine item_meets (by omega) ?_
  rw [Int.toNat_natCast]
  unfold chAt
  simp [Array.getD, hi']
def frontS : Option Nat → Str
  | none => ⟨#[]⟩
  | some d => Sgn d
theorem slice_is {x : Str} {i : Nat} (hi : i < x.length) : Txt.slice x (some ((i : Int) - 1)) (some (i : Int)) = frontS (stAt x i) := by
  have hi' : i < x.cps.size := hi
  show StrLaws.sliceText x (some ((i : Int) - 1)) (some (i : Int)) = _
  unfold stAt
  by_cases h0 : i = 0
  · subst h0
    rw [if_pos rfl]
    have e : Builtin.Str.strSliceIndices (some (((0 : Nat) : Int) - 1)) (some ((0 : Nat) : Int)) 1 x.length = [] := by
      have h1 : (((0 : Nat) : Int) - 1 < 0) := by omega
      have h2 : ¬ (((0 : Nat) : Int) < 0) := by omega
      have h4 : max (0 : Int) (min ((0 : Nat) : Int) (x.length : Int)) = 0 := by omega
      unfold Builtin.Str.strSliceIndices
      simp only [h1, h2, if_true, if_false, show (1 : Int) > 0 by decide, h4]
      unfold sliceRange
      simp only [show (1 : Int) > 0 by decide, if_true]
      rw [if_neg (by omega)]
      rfl
    unfold StrLaws.sliceText
    rw [e, if_neg]
    · rfl
    · simp; omega
  · rw [if_neg h0, StrLaws.sliceText_plain ⟨by omega, by omega, by simp; omega⟩]
    have e1 : ((i : Int) - ((i : Int) - 1)).toNat = 1 := by omega
    have e2 : ((i : Int) - 1).toNat = i - 1 := by omega
    rw [e1, e2, drop_cons x.cps (i - 1) (by omega)]
    rfl
abbrev occE (y : Str) : Bool := (Builtin.Str.occurrences (Str.ofString "\r\n") y 0 (Str.ofString "\r\n").length 1).isEmpty
theorem occ_sgn (c : Nat) : occE (Sgn c) = !(c == 13 || c == 10) := by
  have h := StrLaws.found_one (Str.ofString "\r\n") c
  have e : (Str.ofString "\r\n").cps.toList = [13, 10] := by decide +kernel
  rw [e] at h
  have h2 : (!occE (Sgn c)) = decide (c ∈ [13, 10]) := h
  have h3 : decide (c ∈ [13, 10]) = (c == 13 || c == 10) := by
    by_cases h1 : c = 13
    · subst h1; rfl
    · by_cases h2 : c = 10
      · subst h2; rfl
      · simp [h1, h2]
  rw [h3] at h2
  rw [← h2, Bool.not_not]
theorem occ_none : occE (frontS none) = false := by decide +kernel
theorem sgn_lit (c d : Nat) {l : Str} (hl : l = Sgn d) : (Sgn c == l) = (c == d) := by rw [hl, sgn_beq]
theorem lit_n : Str.ofString "\n" = Sgn 10 := by decide +kernel
theorem lit_r : Str.ofString "\r" = Sgn 13 := by decide +kernel
theorem lit_dot : Str.ofString "." = Sgn 46 := by decide +kernel
theorem front_r (st : Option Nat) : (frontS st == Str.ofString "\r") = decide (st = some 13) := by
  cases st with
  | none => decide +kernel
  | some d =>
    rw [lit_r]
    show (Sgn d == Sgn 13) = _
    rw [sgn_beq]
    by_cases h : d = 13
    · subst h; rfl
    · simp [h]
theorem occ_front (st : Option Nat) : occE (frontS st) = !decide (st = none ∨ st = some 13 ∨ st = some 10) := by
  cases st with
  | none => rw [occ_none]; rfl
  | some d =>
    show occE (Sgn d) = _
    rw [occ_sgn]
    by_cases h1 : d = 13
    · subst h1; rfl
    · by_cases h2 : d = 10
      · subst h2; rfl
      · simp [h1, h2]
theorem mul_dot (n : Nat) : Txt.mul (Str.ofString ".") (1 + (n : Int)) = strOfL (List.replicate (1 + n) 46) := by
  rw [lit_dot]
  apply Str.ext'
  apply Array.toList_inj.mp
  show (Txt.mul ⟨#[46]⟩ (1 + (n : Int))).cps.toList = List.replicate (1 + n) 46
  rw [mul_one_list]
  exact congrArg (fun k => List.replicate k 46) (by omega)
section
variable {x : Str} {i q s a : Nat}
theorem pc1 (hi : i < x.length) (h1 : occE (Txt.item x (i : Int)) = false) (h2 : (0 : Int) < (s : Int)) (h3 : (Txt.item x (i : Int) == Str.ofString "\n") = true) (h4 : (Txt.slice x (some ((i : Int) - 1)) (some (i : Int)) == Str.ofString "\r") = true) :
    Str.ofString "" = pieceF x q s a i := by
  rw [item_is hi] at h1 h3
  rw [slice_is hi, front_r] at h4
  rw [sgn_lit _ _ lit_n] at h3
  unfold pieceF pieceL
  simp only [beq_iff_eq, decide_eq_true_eq] at h3 h4
  rw [if_pos ⟨.inr h3, by omega⟩, if_pos ⟨h3, h4⟩]
  decide +kernel
theorem pc2 (hi : i < x.length) (h1 : occE (Txt.item x (i : Int)) = false) (h2 : (0 : Int) < (s : Int)) (h4 : (Txt.item x (i : Int) == Str.ofString "\n") = false ∨ (Txt.slice x (some ((i : Int) - 1)) (some (i : Int)) == Str.ofString "\r") = false) :
    Str.ofString "\r\n" = pieceF x q s a i := by
  rw [item_is hi] at h1 h4
  rw [slice_is hi, front_r, sgn_lit _ _ lit_n] at h4
  rw [occ_sgn] at h1
  unfold pieceF pieceL
  simp only [Bool.not_eq_false', Bool.or_eq_true, beq_iff_eq, decide_eq_false_iff_not, beq_eq_false_iff_ne] at h1 h4
  rw [if_pos ⟨h1, by omega⟩, if_neg (by rintro ⟨e1, e2⟩; exact h4.elim (fun h => h e1) (fun h => h e2))]
  decide +kernel
theorem noEnd (hi : i < x.length) (h : occE (Txt.item x (i : Int)) = true ∨ ¬ (0 : Int) < (s : Int)) : ¬ ((chAt x i = 13 ∨ chAt x i = 10) ∧ 0 < s) := by
  rintro ⟨h1, h2⟩
  rcases h with h | h
  · rw [item_is hi, occ_sgn] at h
    simp at h
    exact h1.elim h.1 h.2
  · omega
theorem pc3 (hi : i < x.length) (h0 : occE (Txt.item x (i : Int)) = true ∨ ¬ (0 : Int) < (s : Int)) (h1 : (Txt.item x (i : Int) == Str.ofString ".") = true) (h2 : (i : Int) = 0) : Txt.mul (Str.ofString ".") (1 + (a : Int)) = pieceF x q s a i := by
  have hn := noEnd hi h0
  rw [item_is hi, sgn_lit _ _ lit_dot] at h1
  have hc : chAt x i = 46 := by simpa using h1
  have hs : stAt x i = none := by unfold stAt; rw [if_pos (by omega)]
  unfold pieceF pieceL
  rw [if_neg hn, hs, if_pos ⟨hc, .inl rfl⟩, if_pos rfl, mul_dot]
theorem pc4 (hi : i < x.length) (h0 : occE (Txt.item x (i : Int)) = true ∨ ¬ (0 : Int) < (s : Int)) (h1 : (Txt.item x (i : Int) == Str.ofString ".") = true) (h2 : (i : Int) ≠ 0) (h3 : occE (Txt.slice x (some ((i : Int) - 1)) (some (i : Int))) = false) : Txt.mul (Str.ofString ".") (1 + (s : Int)) = pieceF x q s a i := by
  have hn := noEnd hi h0
  rw [item_is hi, sgn_lit _ _ lit_dot] at h1
  have hc : chAt x i = 46 := by simpa using h1
  rw [slice_is hi, occ_front] at h3
  have h3' : stAt x i = none ∨ stAt x i = some 13 ∨ stAt x i = some 10 := Classical.byContradiction fun hn => by rw [decide_eq_false hn] at h3; cases h3
  have hs : stAt x i ≠ none := by unfold stAt; rw [if_neg (by omega)]; simp
  unfold pieceF pieceL
  rw [if_neg hn, if_pos ⟨hc, h3'⟩, if_neg hs, mul_dot]
theorem noDot (hi : i < x.length) (h : (Txt.item x (i : Int) == Str.ofString ".") = false ∨ ((i : Int) ≠ 0 ∧ occE (Txt.slice x (some ((i : Int) - 1)) (some (i : Int))) = true)) : ¬ (chAt x i = 46 ∧ (stAt x i = none ∨ stAt x i = some 13 ∨ stAt x i = some 10)) := by
  rintro ⟨h1, h2⟩
  rcases h with h | ⟨h3, h4⟩
  · rw [item_is hi, sgn_lit _ _ lit_dot] at h
    simp at h
    exact h h1
  · rw [slice_is hi, occ_front] at h4
    simp at h4
    rcases h2 with h2 | h2 | h2
    · exact h4.1 h2
    · exact h4.2.1 h2
    · exact h4.2.2 h2
theorem pc5 (hi : i < x.length) (h0 : occE (Txt.item x (i : Int)) = true ∨ ¬ (0 : Int) < (s : Int)) (h1 : (Txt.item x (i : Int) == Str.ofString ".") = false ∨ ((i : Int) ≠ 0 ∧ occE (Txt.slice x (some ((i : Int) - 1)) (some (i : Int))) = true)) (h2 : (Txt.item x (i : Int) == Str.ofString "'") = true) : strOfL (markL q) = pieceF x q s a i := by
  rw [item_is hi, sgn_lit _ _ apo] at h2
  have hc : chAt x i = 39 := by simpa using h2
  unfold pieceF pieceL
  rw [if_neg (noEnd hi h0), if_neg (noDot hi h1), if_pos hc]
theorem pc6 (hi : i < x.length) (h0 : occE (Txt.item x (i : Int)) = true ∨ ¬ (0 : Int) < (s : Int)) (h1 : (Txt.item x (i : Int) == Str.ofString ".") = false ∨ ((i : Int) ≠ 0 ∧ occE (Txt.slice x (some ((i : Int) - 1)) (some (i : Int))) = true)) (h2 : (Txt.item x (i : Int) == Str.ofString "'") = false) : Txt.item x (i : Int) = pieceF x q s a i := by
  rw [item_is hi, sgn_lit _ _ apo] at h2
  have hc : chAt x i ≠ 39 := by simpa using h2
  unfold pieceF pieceL
  rw [if_neg (noEnd hi h0), if_neg (noDot hi h1), if_neg hc, item_is hi]
  rfl
theorem bodyEnd {h₀ h' : Heap} {L D : Addr} {rest : List (Addr × Obj)} {vs : List Value} {r r' : Str} {m₀ m' : Str → Option Value} {s₁ : Shared} {k' tk : Nat} {tok : Tok} (F : Fr h₀ L h' m') (N : News h₀ L h' ((D, W.listOf (vs ++ [Value.str r' tok]).toArray k') :: rest)) (e : r' = r)
    (hm : ∀ z, z ≠ Str.ofString "k" → z ≠ Str.ofString "front" → z ≠ Str.ofString "end" → m' z = m₀ z) : BodyPost h₀ L D rest vs r m₀ s₁ .next { s₁ with heap := h', toks := tk } := by
  subst e
  exact ⟨rfl, h', tk, m', k', tok, rfl, F, N, hm⟩
end
theorem News_tail {h₀ h : Heap} {L : Addr} {p : Addr × Obj} {r : List (Addr × Obj)} (N : News h₀ L h (p :: r)) : News h₀ L h r := fun q hq => N q (.tail _ hq)
theorem len_vs {vs : List Value} {f : Nat → Str} {i n : Nat} (h : StrsAre vs ((List.range i).map f)) (hi : i < n) (hn : n ≤ 1000) : vs.length ≤ 1000000 := by
  have := strsAre_len h
  simp at this
  omega
theorem body_range (q s a : Nat) : ∀ (l : List Nat) (st : Option Nat), ((List.range l.length).map fun i => pieceL q s a (if i = 0 then st else some (l.getD (i - 1) 0)) (l.getD i 0)).flatten = bodyL q s a st l
  | [], _ => rfl
  | c :: r, st => by
    have ih := body_range q s a r (some c)
    rw [List.length_cons, List.range_succ_eq_map, List.map_cons, List.flatten_cons, List.map_map]
    show pieceL q s a st c ++ _ = pieceL q s a st c ++ bodyL q s a (some c) r
    rw [← ih]
    congr 2
    apply List.map_congr_left
    intro i _
    cases i with
    | zero => rfl
    | succ i => rfl
theorem body_cat (x : Str) (q s a : Nat) : cat ((List.range x.length).map (pieceF x q s a)) = bodyL q s a none x.cps.toList := by
  rw [← body_range q s a x.cps.toList none]
  unfold cat
  rw [List.map_map]
  have hl : x.length = x.cps.toList.length := by simp [Str.length]
  rw [hl]
  congr 1
  apply List.map_congr_left
  intro i hi
  have hg : ∀ k, x.cps.getD k 0 = x.cps.toList.getD k 0 := by intro k; simp [List.getD]
  show pieceL q s a (stAt x i) (chAt x i) = _
  unfold stAt chAt
  rw [hg, hg]
theorem piece_len {q s a : Nat} (hq : q ≤ 3) (hs : s ≤ 3) (ha : a ≤ 3) (st : Option Nat) (c : Nat) : (pieceL q s a st c).length ≤ 125 := by
  unfold pieceL
  have hm := markL_len q
  have : 5 ^ q ≤ 5 ^ 3 := Nat.pow_le_pow_right (by decide) hq
  split
  · split <;> simp
  · split
    · rw [List.length_replicate]; split <;> omega
    · split
      · omega
      · simp
theorem body_len {q s a : Nat} (hq : q ≤ 3) (hs : s ≤ 3) (ha : a ≤ 3) : ∀ (l : List Nat) (st : Option Nat), (bodyL q s a st l).length ≤ 125 * l.length
  | [], _ => Nat.le_refl _
  | c :: r, st => by
    have h1 := piece_len hq hs ha st c
    have h2 := body_len hq hs ha r (some c)
    show (pieceL q s a st c ++ bodyL q s a (some c) r).length ≤ _
    rw [List.length_append, List.length_cons]
    omega
theorem body_fits {x : Str} {q s a : Nat} (hx : x.length ≤ 1000) (hq : q ≤ 3) (hs : s ≤ 3) (ha : a ≤ 3) : (bodyL q s a none x.cps.toList).length ≤ 16777216 := by
  have h := body_len hq hs ha x.cps.toList none
  have : x.cps.toList.length ≤ 1000 := by simpa [Str.length] using hx
  omega
theorem joinK2 {prog : Program} {w : World} {A : Around} {E : Value → Shared → Prop} {s : Shared} {h₀ : Heap} {L D : Addr} {news : List (Addr × Obj)} {ys : List Value} {k : Nat} {ts : List Str} {r : List Nat} {t : Tok} {Q : Value → Shared → Prop} (N : News h₀ L s.heap news) (hm : (D, W.listOf ys.toArray k) ∈ news) (hs : StrsAre ys ts) (e : cat ts = r) (hb : r.length ≤ 16777216)
    (h : ∀ t' k, Q (.str (strOfL r) t') { s with toks := k }) : wpAny (model prog w) A (call (.builtin "str.join") [.str (Str.ofString "") t, .ref D]) Q E s := by
  have e0 : Str.ofString "" = ⟨#[]⟩ := by decide +kernel
  rw [e0]
  refine join_list (items := ys.toArray) ⟨_, (N _ hm).1, rfl, _, rfl⟩ (by simpa using hs) ?_ (fun t' k => ?_)
  · rw [cat_len, e]
    show _ + ts.length * 0 ≤ _
    omega
  · rw [join_cat, e]
    exact h t' k
section
local macro_rules | `(tactic| walk_at "call builtin:str.join") => `(tactic| (k_here; k_dflt (refine' joinK2 ?N ?m ?s (body_cat _ _ _ _) ?b ?_; (case N => k_asm); (case m => k_mem); (case s => k_asm); (case b => exact body_fits (by assumption) (by assumption) (by assumption) (by assumption))); intro t' k'))
local macro_rules | `(tactic| walk_at "exec For Name Call cons nil") => `(tactic| (k_here; (rename Fr _ _ _ _ => lF'); (with_unfolding_all refine' For_invVF lF' ?k1 ?k2 ?_; (case k1 => exact rfl); (case k2 => exact rfl); k_whole)))
local macro_rules | `(tactic| walk_at "pyIter ref") => `(tactic| (refine stopHere ?_))
local macro_rules | `(tactic| walk_at "call ref") => `(tactic| (k_here; (with_reducible show wpAny _ _ (call (Value.ref 66) _) _ _ _); k_dflt (refine' mark_use (mark_all _ ?ih) ?hv ?k1 ?k2 ?k3 ?k4 ?k5 ?k6 ?k7 ?k8 ?_; (case hv => exact rfl); (case ih => assumption); (case k1 => k_asm); (case k2 => k_asm); (case k3 => k_asm); (case k4 => k_asm); (case k5 => k_asm); (case k6 => exact rfl); (case k7 => ktr_room); (case k8 => ktr_units)); intro t' h' tk' F' N'; (try dsimp only)))
local macro_rules | `(tactic| walk_at "call builtin:list.append") => `(tactic| (k_here; k_dflt (refine' appendB ?k1 (News_tail ?k2) ?k3 ?k4 ?_; (case k1 => k_asm); (case k2 => k_asm); (case k3 => k_asm); (case k4 => exact len_vs (by assumption) (by assumption) (by assumption))); intro h' F' N'; (try dsimp only)))
theorem body_claim (w : World) (mean : ExcName → Option Value) (mg mb : Str → Option Value) (news : List (Addr × Obj)) (x : Str) (t t1 t2 t3 : Tok) (q s a : Nat) :
   ClaimK 5 w mean mg mb 73 news (x.length ≤ 1000 ∧ q ≤ 3 ∧ s ≤ 3 ∧ a ≤ 3) [.str x t, .int q t1, .int s t2, .int a t3] (fun t => .str (strOfL (bodyL q s a none x.cps.toList)) t) := by
  unfold ClaimK
  k_fill; dsimp only [CbRet]; intros; rename_i hpre hroom hunits hret
  obtain ⟨hx, hq, hs, ha⟩ := hpre
  refine wpAny_call ?_
  k_dflt cell_enter
  w_strict (k_steps)
  refine iterBody (n := x.length) (pieceF x q s a) rfl (by assumption) (small_one (by omega) (by omega) (by omega) (by omega)) (by rw [rangeSize_nat]; omega) (by k_asm) (by k_asm) (by assumption) ?turn ?done
  case turn =>
    intro i t u vs k h tk rest hi hvs hoff F N
    k_fold
    w_strict (k_steps)
    all_goals first
      | (exfalso; omega)
      | exact bodyEnd (by k_asm) (by k_asm) (pc1 hi (by assumption) (by assumption) (by assumption) (by assumption)) (by intro z h1 h2 h3; simp only [h1, h2, h3, if_false])
      | exact bodyEnd (by k_asm) (by k_asm) (pc2 hi (by assumption) (by assumption) (by first | exact .inl (by assumption) | exact .inr (by assumption))) (by intro z h1 h2 h3; simp only [h1, h2, h3, if_false])
      | exact bodyEnd (by k_asm) (by k_asm) (pc3 hi (by first | exact .inl (by assumption) | exact .inr (by omega)) (by assumption) (by assumption)) (by intro z h1 h2 h3; simp only [h1, h2, h3, if_false])
      | exact bodyEnd (by k_asm) (by k_asm) (pc4 hi (by first | exact .inl (by assumption) | exact .inr (by omega)) (by assumption) (by assumption) (by assumption)) (by intro z h1 h2 h3; simp only [h1, h2, h3, if_false])
      | exact bodyEnd (by k_asm) (by k_asm) (pc5 hi (by first | exact .inl (by assumption) | exact .inr (by omega)) (by first | exact .inl (by assumption) | exact .inr ⟨by assumption, by assumption⟩) (by assumption)) (by intro z h1 h2 h3; simp only [h1, h2, h3, if_false])
      | exact bodyEnd (by k_asm) (by k_asm) (pc6 hi (by first | exact .inl (by assumption) | exact .inr (by omega)) (by first | exact .inl (by assumption) | exact .inr ⟨by assumption, by assumption⟩) (by assumption)) (by intro z h1 h2 h3; simp only [h1, h2, h3, if_false])
  case done =>
    intro u vs k h tk hvs F N
    w_strict (k_steps)
    all_goals exact cb_retS hret rfl (by k_asm) (by first | k_asm | exact News_tail (by k_asm))
end
end Mine

end

section
open PySem PySem.W PyProof.Rows PySem.Spec PySem.Calls
set_option Elab.async false
set_option maxRecDepth 100000
set_option maxHeartbeats 8000000
namespace Mine
def notDotA (c : Nat) : Bool := !(c == 46 || c == 97)
theorem body_use {w : World} {mean : ExcName → Option Value} {mg mb : Str → Option Value} {news : List (Addr × Obj)} {x : Str} {t t1 t2 t3 : Tok} {q s' a' : Nat} (hx : x.length ≤ 1000) (hq : q ≤ 3) (hs : s' ≤ 3) (ha : a' ≤ 3) {dp un : Nat} {gd : Option (List Code)} {cn : Str} {cs : Scope} {a : Addr} {ccd : Value} {cl : List (Str × Addr)} {outer : List Env} {A₀ : Around} {base h₀ : Heap} {L : Addr} {m : Str → Option Value} {s : Shared} {Q E : Value → Shared → Prop}
    (B : Below A₀ base outer h₀) (F : Fr h₀ L s.heap m) (X : (hd.heap_39 w.params).In h₀) (N : News h₀ L s.heap news) (T : Top hd.view_39 LooseL mean mg mb h₀) (hk : cs.kind = .function) (h1 : dp + 5 < recursionLimit) (h2 : un + 8 * 5 < cLine)
    (ret : CbRet h₀ L m news s Q (fun t => .str (strOfL (bodyL q s' a' none x.cps.toList)) t)) :
    wpAny (model PySem.Challenge.rw_mj0035_01.row.prog w) (ktrTop dp un gd cn cs L a ccd cl outer) (call (.ref 73) [.str x t, .int q t1, .int s' t2, .int a' t3]) Q E s :=
  body_claim w mean mg mb news x t t1 t2 t3 q s' a' dp un gd cn cs a ccd cl outer A₀ base h₀ L m s Q E B F X N T hk ⟨hx, hq, hs, ha⟩ h1 h2 ret
section
variable {prog : Program} {w : World} {A : Around} {E : Value → Shared → Prop} {s : Shared} {h₀ : Heap} {L D : Addr} {m : Str → Option Value} {news : List (Addr × Obj)}
theorem eqNilK {l : Addr} {ys : List Value} {ts : List Str} {rest : List (Addr × Obj)} {Q : Value → Shared → Prop} (hu : A.units < cLine) (N : News h₀ L s.heap ((l, W.listOf #[] 0) :: (D, LCg.lst ys) :: rest)) (hs : StrsAre ys ts)
    (h1 : ts = [] → Q (.bool true) s) (h2 : ts ≠ [] → Q (.bool false) s) : wpAny (model prog w) A (compareOp .Eq (.ref D) (.ref l)) Q E s := by
  have hl : s.heap.IsList D ys.toArray := ⟨_, (N _ (.tail _ (.head _))).1, rfl, _, rfl⟩
  have hb : s.heap.IsList l #[] := ⟨_, (N _ (.head _)).1, rfl, _, rfl⟩
  cases hs with
  | nil =>
    refine PySem.SeqAt.eq_listAt (e := fun _ => true) hl hb rfl hu (fun j hj => absurd hj (Nat.not_lt_zero _)) ?_
    exact h1 rfl
  | cons y t r =>
    refine PySem.SeqAt.eq_list_lengthsAt hl hb (by simp) hu ?_
    exact h2 (by simp)
theorem strsRev : ∀ {vs : List Value} {ys : List Str}, StrsAre vs ys → StrsAre vs.reverse ys.reverse
  | _, _, .nil => .nil
  | _, _, .cons z u r => by
    rw [List.reverse_cons, List.reverse_cons]
    exact PySem.W.kct_snoc (strsRev r)
theorem revK {l : Addr} {value slice : PySem.Expr} {ys : List Value} {ts : List Str} {vk : Value} {ops : List Value} {Q : Value → Shared → Prop} (F : Fr h₀ L s.heap m) (N : News h₀ L s.heap news) (hm : (l, LCg.lst ys) ∈ news) (hst : StrsAre ys ts) (hz : ts.length ≤ 1000) (pk : IsPart vk (some (-1)))
    (h : ∀ D ws h', Fr h₀ L h' m → News h₀ L h' ((D, W.listOf (List.toArray ws) 0) :: news) → StrsAre ws ts.reverse → Q (.ref D) { s with heap := h' })
    (hs : subscripted slice false (.ref l) (.ref s.heap.objs.size) = operate ops (getItem (.ref l) (.ref s.heap.objs.size))) (ht : ∀ r, letTemporaryGo value (.ref l) r = pure ()) :
    wpAny (model prog w) A (subscriptTail value slice (.ref l) (.ref s.heap.objs.size)) Q E { s with heap := s.heap.push { cls := .type "slice", data := .fields #[.none, .none, vk] } } :=
  krv_lit (its := ys.toArray) (zs := ys.reverse) F N ⟨_, (N _ hm).1, rfl, _, rfl⟩ pk rfl (fun D h' F' N' _ => h D ys.reverse h' F' N' (strsRev hst)) hs ht (by rw [List.size_toArray, strsAre_len hst, sizeLine_eq]; omega)
variable {env : Env} {elt : Expr} {x : Str} {scope : Scope} {cl : List (Str × Addr)} {Fin : Shared → List Value → List (Addr × Obj) → Prop}
theorem srcR {r : Addr} {n : Nat} {t u v : Tok} (g : Nat → Str) (hh : A.handled = none) (F : Fr h₀ L s.heap m) (N : News h₀ L s.heap news) (hr : IsRange s.heap r 0 (n : Int) 1 t u v) (hz : n ≤ 1000)
    (turn : ∀ (i : Nat) t I oI C oC D m₂ ys h tk (E' : Value → Shared → Prop), i < n → LCg.NsObj oC m₂ → m₂ x = some (.int (i : Int) t) → Fr h₀ L h m → News h₀ L h ((I, oI) :: (C, oC) :: (D, LCg.lst ys) :: news) → LCg.Off3 I C D news → ((@Ne Nat I C) ∧ (@Ne Nat I D) ∧ (@Ne Nat C D)) →
      wpAny (model prog w) A (eval elt (compEnvC scope cl C env)) (LCg.CompEnd h₀ L m { s with heap := h, toks := tk } I oI C oC D (LCg.lst ys) (fun _ => True) (fun y news' => StEl news (g i) y news')) E' { s with heap := h, toks := tk })
    (fin : ∀ gh ys, StrsAre ys ((List.range n).map g) → Fin { s with heap := gh } ys news) : LCg.CompSrc prog w A h₀ L m env elt x scope cl Fin (.ref r) s := by
  refine LCg.CompSrc.range hh F N hr (small_one (by omega) (by omega) (by omega) (by omega)) (n := n) (by rw [rangeSize_nat]; omega) (by rw [sizeLine_eq]; omega) fun gh => ?_
  have key : ∀ (j i : Nat) (ys : List Value), i + j = n → StrsAre ys ((List.range i).map g) → LCg.CompRest prog w A h₀ L m env elt x scope cl { s with heap := gh } (fun _ => True) (fun i v => ∃ t, v = .int (0 + (i : Int)) t) (Fin { s with heap := gh }) j i ys news := by
    intro j
    induction j with
    | zero =>
      intro i ys hi hy
      have e : i = n := by omega
      subst e
      exact LCg.CompRest.zero (fin gh ys hy)
    | succ j ih =>
      intro i ys hi hy
      refine LCg.CompRest.succ ?_
      intro v I oI C oC D m₂ h tk E' hv hC hx F N off ne
      obtain ⟨u, hv'⟩ := hv
      rw [hv', show (0 : Int) + (i : Int) = (i : Int) by omega] at hx
      refine wpAny_mono (turn i u I oI C oC D m₂ ys h tk E' (by omega) hC hx F N off ne) (fun z s₂ hq => ?_) fun _ _ e => e
      obtain ⟨h', tk', nw, e, F', N', off', hS, hn, t', hy'⟩ := hq
      rw [hn] at N' off'
      refine ⟨h', tk', news, e, F', N', off', trivial, ?_⟩
      rw [hy']
      refine ih (i + 1) _ (by omega) ?_
      rw [List.range_succ, List.map_append]
      exact PySem.W.kct_snoc hy
  exact key n 0 [] (by omega) (by simp only [List.range_zero, List.map_nil]; exact .nil)
end
theorem marksF_cat (q : Nat) : cat ((List.range q).map fun n => strOfL (markL n)) = marksF q := by
  unfold cat marksF
  rw [List.map_map]
  rfl
theorem marksB_cat (q : Nat) : cat ((List.range q).map fun n => strOfL (markL n)).reverse = marksB q := by
  unfold cat marksB
  rw [← List.map_reverse, List.map_map]
  rfl
theorem marks_len {l : List Nat} {q : Nat} (hq : q ≤ 3) (hl : l.length ≤ 3) (h : ∀ n ∈ l, n < q) : (l.flatMap markL).length ≤ 375 := by
  have : ∀ l : List Nat, (∀ n ∈ l, n < q) → (l.flatMap markL).length ≤ 125 * l.length := by
    intro l
    induction l with
    | nil => intro _; exact Nat.le_refl _
    | cons n l ih =>
      intro h
      have h1 := ih fun k hk => h k (.tail _ hk)
      have h2 := markL_len n
      have h3 := h n (.head _)
      have : 5 ^ n ≤ 5 ^ 3 := Nat.pow_le_pow_right (by decide) (by omega)
      rw [List.flatMap_cons, List.length_append, List.length_cons]
      omega
  have := this l h
  omega
theorem marksF_len {q : Nat} (hq : q ≤ 3) : (marksF q).length ≤ 375 := marks_len hq (by simp; exact hq) (fun n hn => List.mem_range.mp hn)
theorem marksB_len {q : Nat} (hq : q ≤ 3) : (marksB q).length ≤ 375 := marks_len hq (by simp; exact hq) (fun n hn => List.mem_range.mp (List.mem_reverse.mp hn))
abbrev occA (y : Str) : Bool := (Builtin.Str.occurrences (Str.ofString ".a") y 0 (Str.ofString ".a").length 1).isEmpty
theorem occ_a (c : Nat) : occA (Sgn c) = notDotA c := by
  have h := StrLaws.found_one (Str.ofString ".a") c
  have e : (Str.ofString ".a").cps.toList = [46, 97] := by decide +kernel
  rw [e] at h
  have h2 : (!occA (Sgn c)) = decide (c ∈ [46, 97]) := h
  have h3 : decide (c ∈ [46, 97]) = (c == 46 || c == 97) := by
    by_cases h1 : c = 46
    · subst h1; rfl
    · by_cases h2 : c = 97
      · subst h2; rfl
      · simp [h1, h2]
  rw [h3] at h2
  unfold notDotA
  rw [← h2, Bool.not_not]
theorem st_yes {news : List (Addr × Obj)} {c : Nat} {t : Tok} (h : occA (Sgn c) = true) : StYes news (notDotA c) (Sgn c) (.str (Sgn c) t) news := ⟨by rw [← occ_a]; exact h, rfl, t, rfl⟩
theorem st_no {news : List (Addr × Obj)} {c : Nat} (h : occA (Sgn c) = false) : StNo news (notDotA c) news := ⟨by rw [← occ_a]; exact h, rfl⟩
theorem len_strOfL (l : List Nat) : (strOfL l).length = l.length := by simp [strOfL, Str.length]
theorem told_fits {x : Str} {q s a : Nat} (hx : x.length ≤ 1000) (hq : q ≤ 3) (hs : s ≤ 3) (ha : a ≤ 3) : (strOfL (marksF q)).length + (strOfL (bodyL q s a none x.cps.toList)).length ≤ sizeLine := by
  have h := body_len hq hs ha x.cps.toList none
  have h2 := marksF_len hq
  have : x.cps.toList.length ≤ 1000 := by simpa [Str.length] using hx
  rw [len_strOfL, len_strOfL, sizeLine_eq]
  omega
theorem told_fits2 {x : Str} {q s a : Nat} (hx : x.length ≤ 1000) (hq : q ≤ 3) (hs : s ≤ 3) (ha : a ≤ 3) : (strOfL (marksF q) ++ strOfL (bodyL q s a none x.cps.toList)).length + (strOfL (marksB q)).length ≤ sizeLine := by
  have h := body_len hq hs ha x.cps.toList none
  have h2 := marksF_len hq
  have h3 := marksB_len hq
  have : x.cps.toList.length ≤ 1000 := by simpa [Str.length] using hx
  rw [Str.length_append, len_strOfL, len_strOfL, len_strOfL, sizeLine_eq]
  omega
theorem ne_empty {x : Str} (h : (x != Str.ofString "") = true) : x.cps.toList ≠ [] := by
  intro e
  have : x = Str.ofString "" := by
    rw [show Str.ofString "" = ⟨#[]⟩ by decide +kernel]
    apply Str.ext'
    apply Array.toList_inj.mp
    rw [e]
  rw [this] at h
  simp at h
theorem is_empty {x : Str} (h : (x != Str.ofString "") = false) : x.cps.toList = [] := by
  have : x = Str.ofString "" := by simpa using h
  rw [this]
  decide +kernel
theorem plain_yes {x : Str} (h : (x != Str.ofString "") = true) (hE : (x.cps.toList.filter notDotA).map Sgn = []) : plainT x.cps.toList = true := by
  have hf : x.cps.toList.filter notDotA = [] := List.map_eq_nil_iff.mp hE
  unfold plainT
  rw [Bool.and_eq_true]
  refine ⟨by simpa using ne_empty h, ?_⟩
  rw [List.all_eq_true]
  intro c hc
  have := List.filter_eq_nil_iff.mp hf c hc
  unfold notDotA at this
  cases hb : (c == 46 || c == 97) with
  | true => rfl
  | false => rw [hb] at this; exact absurd rfl this
theorem plain_no {x : Str} (hE : (x.cps.toList.filter notDotA).map Sgn ≠ []) : plainT x.cps.toList = false := by
  unfold plainT
  rw [Bool.and_eq_false_iff]
  right
  rw [List.all_eq_false]
  have hf : x.cps.toList.filter notDotA ≠ [] := fun e => hE (by rw [e]; rfl)
  obtain ⟨c, hc⟩ := List.exists_mem_of_ne_nil _ hf
  obtain ⟨h1, h2⟩ := List.mem_filter.mp hc
  refine ⟨c, h1, ?_⟩
  unfold notDotA at h2
  simpa using h2
theorem plain_nil {x : Str} (h : (x != Str.ofString "") = false) : plainT x.cps.toList = false := by
  rw [is_empty h]; rfl
theorem head_is {x : Str} (h : x.cps.toList ≠ []) : x.cps.toList.head? = some (chAt x 0) := by
  have hs : 0 < x.cps.size := by
    rcases Nat.eq_zero_or_pos x.cps.size with h0 | h0
    · exact absurd (List.eq_nil_of_length_eq_zero (by rw [Array.length_toList]; exact h0)) h
    · exact h0
  have := drop_cons x.cps 0 hs
  rw [List.drop_zero] at this
  rw [this]
  rfl
theorem mul_dotN (n : Nat) : Txt.mul (Str.ofString ".") (n : Int) = strOfL (List.replicate n 46) := by
  rw [lit_dot]
  apply Str.ext'
  apply Array.toList_inj.mp
  show (Txt.mul ⟨#[46]⟩ (n : Int)).cps.toList = List.replicate n 46
  rw [mul_one_list]
  rfl
theorem str_app (a b : List Nat) : strOfL a ++ strOfL b = strOfL (a ++ b) := by
  apply Str.ext'
  apply Array.toList_inj.mp
  simp [Str.cps_append, strOfL]
theorem str_self (x : Str) : strOfL x.cps.toList = x := rfl
section
variable {x : Str} {q s a : Nat}
theorem pos_of (h : x.cps.toList ≠ []) : 0 < x.length := by
  rcases Nat.eq_zero_or_pos x.length with h0 | h0
  · exact absurd (List.eq_nil_of_length_eq_zero (by rw [Array.length_toList]; exact h0)) h
  · exact h0
theorem told_p1 (h1 : (x != Str.ofString "") = true) (h2 : (x.cps.toList.filter notDotA).map Sgn = []) (h3 : (Txt.item x 0 == Str.ofString ".") = true) : Txt.mul (Str.ofString ".") (s : Int) ++ x = strOfL (toldL x.cps.toList q s a) := by
  have hne := ne_empty h1
  have hi : Txt.item x 0 = Sgn (chAt x 0) := item_is (i := 0) (pos_of hne)
  rw [hi, sgn_lit _ _ lit_dot] at h3
  have hc : chAt x 0 = 46 := by simpa using h3
  unfold toldL
  rw [if_pos (plain_yes h1 h2), head_is hne, hc, if_pos rfl, mul_dotN]
  conv => lhs; rw [← str_self x]
  rw [str_app]
theorem told_p2 (h1 : (x != Str.ofString "") = true) (h2 : (x.cps.toList.filter notDotA).map Sgn = []) (h3 : (Txt.item x 0 == Str.ofString ".") = false) : Txt.mul (Str.ofString ".") 0 ++ x = strOfL (toldL x.cps.toList q s a) := by
  have hne := ne_empty h1
  have hi : Txt.item x 0 = Sgn (chAt x 0) := item_is (i := 0) (pos_of hne)
  rw [hi, sgn_lit _ _ lit_dot] at h3
  have hc : chAt x 0 ≠ 46 := by simpa using h3
  unfold toldL
  rw [if_pos (plain_yes h1 h2), head_is hne, if_neg (by simpa using hc)]
  have e : Txt.mul (Str.ofString ".") 0 = strOfL (List.replicate 0 46) := mul_dotN 0
  rw [e]
  conv => lhs; rw [← str_self x]
  rw [str_app]
theorem told_p3 (h : plainT x.cps.toList = false) : strOfL (marksF q) ++ strOfL (bodyL q s a none x.cps.toList) ++ strOfL (marksB q) = strOfL (toldL x.cps.toList q s a) := by
  unfold toldL
  rw [h, if_neg Bool.false_ne_true, str_app, str_app]
end
section
local macro_rules | `(tactic| walk_at "eval ListComp") => `(tactic| (k_here; (with_reducible show wpAny _ _ (eval (Expr.ListComp _ [⟨Expr.Name (Str.ofString "sign") _, _, [_], _⟩] _ _) _) _ _ _); k_dflt (refine ListComp_ST (F₀ := by k_asm) (by with_unfolding_all rfl) (by decide) (by rfl) (by decide) (by rfl) ?_)))
local macro_rules | `(tactic| walk_at "SrcST") => `(tactic| (k_here; k_dflt (refine' SrcST.intro notDotA ?hh ?F ?N ?sz (fun c' t' I' oI' C' oC' D' m' ys' h' tk' E' hc' hC' hx' F' N' off' ne' => ?_) (fun gh' ys' hS' => ?_); (case hh => exact rfl); (case F => k_asm); (case N => k_asm); (case sz => (rw [sizeLine_eq]; exact Nat.le_trans (by assumption) (by decide))))))
local macro_rules | `(tactic| walk_at "CompEnd") => `(tactic| refine LCg.CompEnd.intro (by assumption) (by assumption) _ (fun p hp => hp) (by assumption) trivial ?_)
local macro_rules | `(tactic| walk_at "CompSrc") => `(tactic| (k_here; k_dflt (refine' srcR (fun n => strOfL (markL n)) ?hh ?F ?N ?hr ?sz (fun i' t' I' oI' C' oC' D' m' ys' h' tk' E' hc' hC' hx' F' N' off' ne' => ?_) (fun gh' ys' hS' => ?_); (case hh => exact rfl); (case F => k_asm); (case N => k_asm); (case hr => k_asm); (case sz => exact Nat.le_trans (by assumption) (by decide)))))
local macro_rules | `(tactic| walk_at "StEl") => `(tactic| exact ⟨rfl, _, rfl⟩)
local macro_rules | `(tactic| walk_at "StYes") => `(tactic| exact st_yes (by assumption))
local macro_rules | `(tactic| walk_at "StNo") => `(tactic| exact st_no (by assumption))
local macro_rules | `(tactic| walk_at "compareOp Eq ref ref") => `(tactic| (k_here; k_dflt (refine' eqNilK ?hu ?N ?s (fun hE' => ?_) (fun hE' => ?_); (case N => k_asm); (case s => k_asm); (case hu => ktr_units))))
local macro_rules | `(tactic| walk_at "subscriptTail Name Slice ref ref") => `(tactic| (k_here; k_dflt (refine' revK ?F ?N ?m ?st ?z ?k ?_ ?s ?t; (case F => k_asm); (case N => k_asm); (case m => k_mem); (case st => k_asm); (case z => (rw [List.length_map, List.length_range]; exact Nat.le_trans (by assumption) (by decide))); (case k => exact IsPart.int _ _); (case s => with_unfolding_all rfl); (case t => kmk_pure)); intro D' ws' h' F' N' hW'))
local macro_rules | `(tactic| walk_at "call builtin:str.join") => `(tactic| (k_here; k_dflt (refine' joinK ?N ?m ?s (marksF_cat _) ?b ?_; (case N => k_asm); (case m => k_mem); (case s => k_asm); (case b => exact Nat.le_trans (marksF_len (by assumption)) (by decide))); intro t' k'))
local macro_rules | `(tactic| walk_at "call builtin:str.join") => `(tactic| (k_here; k_dflt (refine' joinK2 ?N ?m ?s (marksB_cat _) ?b ?_; (case N => k_asm); (case m => k_mem); (case s => k_asm); (case b => exact Nat.le_trans (marksB_len (by assumption)) (by decide))); intro t' k'))
local macro_rules | `(tactic| walk_at "binaryOp Add str str") => `(tactic| (k_here; k_dflt (refine' SBL.add (hsz := ?hsz) ?_; (case hsz => exact told_fits (by assumption) (by assumption) (by assumption) (by assumption)); k_whole); intro t' k' hL'))
local macro_rules | `(tactic| walk_at "binaryOp Add str str") => `(tactic| (k_here; k_dflt (refine' SBL.add (hsz := ?hsz) ?_; (case hsz => exact told_fits2 (by assumption) (by assumption) (by assumption) (by assumption)); k_whole); intro t' k' hL'))
local macro_rules | `(tactic| walk_at "call ref") => `(tactic| (k_here; (with_reducible show wpAny _ _ (call (Value.ref 66) _) _ _ _); k_dflt (refine' mark_use (mark_all _ ?ih) ?hv ?k1 ?k2 ?k3 ?k4 ?k5 ?k6 ?k7 ?k8 ?_; (case hv => exact rfl); (case ih => omega); (case k1 => k_asm); (case k2 => k_asm); (case k3 => k_asm); (case k4 => k_asm); (case k5 => k_asm); (case k6 => exact rfl); (case k7 => ktr_room); (case k8 => ktr_units)); intro t' h' tk' F' N'; (try dsimp only)))
local macro_rules | `(tactic| walk_at "call ref") => `(tactic| (k_here; (with_reducible show wpAny _ _ (call (Value.ref 73) _) _ _ _); k_dflt (refine' body_use ?p1 ?p2 ?p3 ?p4 ?k1 ?k2 ?k3 ?k4 ?k5 ?k6 ?k7 ?k8 ?_; (case p1 => assumption); (case p2 => assumption); (case p3 => assumption); (case p4 => assumption); (case k1 => k_asm); (case k2 => k_asm); (case k3 => k_asm); (case k4 => k_asm); (case k5 => k_asm); (case k6 => exact rfl); (case k7 => ktr_room); (case k8 => ktr_units)); intro t' h' tk' F' N'; (try dsimp only)))
theorem told_claim (w : World) (mean : ExcName → Option Value) (mg mb : Str → Option Value) (news : List (Addr × Obj)) (x : Str) (t t1 t2 t3 : Tok) (q s a : Nat) :
   ClaimK 6 w mean mg mb 78 news (x.length ≤ 1000 ∧ q ≤ 3 ∧ s ≤ 3 ∧ a ≤ 3) [.str x t, .int q t1, .int s t2, .int a t3] (fun t => .str (strOfL (toldL x.cps.toList q s a)) t) := by
  unfold ClaimK
  k_fill; dsimp only [CbRet]; intros; rename_i hpre hroom hunits hret
  obtain ⟨hx, hq, hs, ha⟩ := hpre
  refine wpAny_call ?_
  k_dflt cell_enter
  w_strict (k_steps)
  all_goals first
    | exact cb_retS hret (told_p1 (by assumption) (by assumption) (by assumption)) (by k_asm) (by first | k_asm | exact News_tail (by k_asm) | exact News_tail (News_tail (by k_asm)))
    | exact cb_retS hret (told_p2 (by assumption) (by assumption) (by assumption)) (by k_asm) (by first | k_asm | exact News_tail (by k_asm) | exact News_tail (News_tail (by k_asm)))
    | exact cb_retS hret (told_p3 (by first | exact plain_nil (by assumption) | exact plain_no (by assumption))) (by k_asm) (cb_drop (by k_asm) (by intro p hp; repeat' first | exact hp | refine List.mem_cons_of_mem _ ?_))
end
end Mine

end

section
open PySem PySem.W PyProof.Rows PySem.Spec PySem.Calls
set_option Elab.async false
set_option maxRecDepth 100000
set_option maxHeartbeats 8000000
namespace Mine
def Good (x : Str) : Prop := x.length ≤ 100 ∧ ∀ c ∈ x.cps.toList, Sign c
theorem pick_sign (a : Int) : ∃ c, Sign c ∧ Txt.item (Str.ofString "\r\n.'a ") (a.fmod 6) = Sgn c := by
  have h1 : 0 ≤ a.fmod 6 := Int.fmod_nonneg_of_pos _ (by decide)
  have h2 : a.fmod 6 < 6 := Int.fmod_lt_of_pos _ (by decide)
  generalize a.fmod 6 = k at h1 h2
  have hk : k = 0 ∨ k = 1 ∨ k = 2 ∨ k = 3 ∨ k = 4 ∨ k = 5 := by omega
  unfold Sign
  rcases hk with rfl | rfl | rfl | rfl | rfl | rfl
  · exact ⟨13, by decide, by decide +kernel⟩
  · exact ⟨10, by decide, by decide +kernel⟩
  · exact ⟨46, by decide, by decide +kernel⟩
  · exact ⟨39, by decide, by decide +kernel⟩
  · exact ⟨97, by decide, by decide +kernel⟩
  · exact ⟨32, by decide, by decide +kernel⟩
theorem cat_signs : ∀ l : List Int, (∀ c ∈ cat (l.map fun a => Txt.item (Str.ofString "\r\n.'a ") (a.fmod 6)), Sign c) ∧ (cat (l.map fun a => Txt.item (Str.ofString "\r\n.'a ") (a.fmod 6))).length = l.length
  | [] => ⟨fun c hc => (by cases hc), rfl⟩
  | a :: l => by
    obtain ⟨ih1, ih2⟩ := cat_signs l
    obtain ⟨c, hc, e⟩ := pick_sign a
    have e2 : cat ((a :: l).map fun a => Txt.item (Str.ofString "\r\n.'a ") (a.fmod 6)) = c :: cat (l.map fun a => Txt.item (Str.ofString "\r\n.'a ") (a.fmod 6)) := by
      rw [List.map_cons, e]
      show (Sgn c).cps.toList ++ _ = _
      rfl
    rw [e2]
    refine ⟨fun d hd => ?_, by rw [List.length_cons, List.length_cons, ih2]⟩
    rcases List.mem_cons.mp hd with rfl | hd
    · exact hc
    · exact ih1 d hd
theorem joinText {prog : Program} {w : World} {A : Around} {E : Value → Shared → Prop} {s : Shared} {D : Addr} {ys : List Value} {l : List Int} {t : Tok} {Q : Value → Shared → Prop} (hl : s.heap.IsList D ys.toArray)
    (hc : CarriedAll ys (l.map fun a => PyData.str (Txt.item (Str.ofString "\r\n.'a ") (a.fmod 6)))) (hn : l.length ≤ 100)
    (h : ∀ T t' k, Good T → Q (.str T t') { s with toks := k }) : wpAny (model prog w) A (call (.builtin "str.join") [.str (Str.ofString "") t, .ref D]) Q E s := by
  have hs : StrsAre ys (l.map fun a => Txt.item (Str.ofString "\r\n.'a ") (a.fmod 6)) := StrsAre.of_carried (by rw [List.map_map]; exact hc)
  obtain ⟨h1, h2⟩ := cat_signs l
  have e0 : Str.ofString "" = ⟨#[]⟩ := by decide +kernel
  rw [e0]
  refine join_list (items := ys.toArray) hl (by simpa using hs) ?_ (fun t' k => ?_)
  · rw [cat_len, h2]
    show _ + _ * 0 ≤ _
    omega
  · rw [join_cat]
    refine h _ t' k ⟨?_, h1⟩
    show (cat _).toArray.size ≤ _
    rw [List.size_toArray, h2]; omega
theorem len17 (w : List Int) : (List.filter (fun _ => true) (List.take 8 w ++ [2, 3, 0, 2, 1, 2, 0, 1, 2])).length ≤ 100 := by
  have h := List.length_filter_le (fun _ : Int => true) (List.take 8 w ++ [2, 3, 0, 2, 1, 2, 0, 1, 2])
  rw [List.length_append, List.length_take] at h
  simp only [List.length_cons, List.length_nil] at h
  omega
end Mine

end

section
open PySem PySem.W PyProof.Rows PySem.Spec PySem.Calls
set_option Elab.async false
set_option maxRecDepth 100000
set_option maxHeartbeats 8000000
namespace Mine
/-! ## a loop over a list that the call has made -/
def LPost (h₀ : Heap) (L : Addr) (J : (Str → Option Value) → Prop) (rest : List (Addr × Obj)) (s₁ : Shared) (Q : Flow → Shared → Prop) (f : Flow) (s₂ : Shared) : Prop :=
  match f with
  | .ret v => Q (.ret v) s₂
  | .brk => Q .next s₂
  | _ => ∃ h' tk m', s₂ = { s₁ with heap := h', toks := tk } ∧ Fr h₀ L h' m' ∧ News h₀ L h' rest ∧ J m'
section
variable {prog : Program} {w : World} {A : Around} {E : Value → Shared → Prop} {s : Shared} {env : Env} {h₀ : Heap} {x : Str} {body : List Stmt} {Q : Flow → Shared → Prop}
theorem iterL {l : Addr} {items : Array Value} {m₀ : Str → Option Value} {news : List (Addr × Obj)} (J : Nat → (Str → Option Value) → Prop) (hh : A.handled = none) (hl : s.heap.IsList l items) (hl₀ : h₀.get? l = none) (hlL : l ≠ env.locals)
    (F : Fr h₀ env.locals s.heap m₀) (N : News h₀ env.locals s.heap news) (hj : J 0 m₀)
    (turn : ∀ i v m₁ h tk rest, items[i]? = some v → J i m₁ → (∀ p ∈ news, p ∈ rest) → Fr h₀ env.locals h (fun y => if y = x then some v else m₁ y) → News h₀ env.locals h rest →
      wpAny (model prog w) A (execs body env) (LPost h₀ env.locals (J (i + 1)) rest { s with heap := h, toks := tk } Q) E { s with heap := h, toks := tk })
    (done : ∀ m₁ h tk, J items.size m₁ → Fr h₀ env.locals h m₁ → News h₀ env.locals h news → Q .next { s with heap := h, toks := tk }) :
    wpAny (model prog w) A (pyIter (.ref l)) (fun it s₂ => LoopAtV prog w A h₀ env x body Q E it s₂) E s := by
  obtain ⟨ol, hol, _⟩ := id hl
  have hlt : l < s.heap.objs.size := Heap.lt_size hol
  have hne : l ≠ s.heap.objs.size := Nat.ne_of_lt hlt
  refine wpAny_pyIter_list hl ?_
  have W := Walks.list (prog := prog) (w := w) hh s.heap.objs.size l hne items
  let J' : Nat → (Str → Option Value) → List (Addr × Obj) → Prop := fun i m₁ news₁ => news₁ = news ∧ J i m₁
  refine ⟨_, _, _, items.size, _, _, m₀, news, J', rfl, W, ?_, ?_, ?_, ⟨⟨_, Heap.get?_push_size _ rfl, rfl, rfl⟩, hl.at fun o e => Heap.get?_push_of_some _ e⟩, F.push _, (fun p hp => ⟨Heap.get?_push_of_some _ (N p hp).1, (N p hp).2⟩), ⟨rfl, hj⟩, ?_, ?_⟩
  · intro hm
    rcases List.mem_cons.mp hm with e | hm
    · exact absurd F.ns.lt (e ▸ Nat.lt_irrefl _)
    · exact hlL (List.mem_singleton.mp hm).symm
  · intro b hb
    rw [List.mem_singleton.mp hb]
    exact next_is_new F
  · intro p hp hI
    exact absurd (Heap.lt_size (N p hp).1) ((List.mem_singleton.mp hI) ▸ Nat.lt_irrefl _)
  · rintro i v m₁ news₁ s₁ own ⟨hh', tk', rfl⟩ hin hP ⟨rfl, hJ⟩ hoff _ _ _ _ F₁ N₁
    refine wpAny_mono (turn i v m₁ hh' tk' (own ++ news₁) hP hJ (fun p hp => List.mem_append_right _ hp) F₁ N₁) (fun f s₂ p => ?_) fun _ _ e => e
    have fin : (∃ h' tk m', s₂ = { ({ s with heap := hh', toks := tk' } : Shared) with heap := h', toks := tk } ∧ Fr h₀ env.locals h' m' ∧ News h₀ env.locals h' (own ++ news₁) ∧ J (i + 1) m') → LoopStepU h₀ env.locals [s.heap.objs.size] own (J' (i + 1)) { s with heap := hh', toks := tk' } .next s₂ := by
      rintro ⟨h', tk, m', e, F', N', hm⟩
      exact ⟨rfl, h', tk, m', news₁, e, F', N', hoff, rfl, hm⟩
    cases f with
    | ret v => exact .ret p
    | brk => exact .brk p
    | next => exact .next (fin p)
    | cont => exact .cont (fin p)
  · rintro h' tk m' news' F' N' _ ⟨rfl, hJ⟩
    exact done m' h' tk hJ F' N'
end

/-! ## the law's two loops -/
structure InvT (S : Str) (i : Nat) (y : Str) (vq vs va : Int) : Prop where
  here : ∃ q s a : Nat, vq = q ∧ vs = s ∧ va = a ∧ y = strOfL (toldL S.cps.toList q s a) ∧ q + s = i ∧ a ≤ s
def InnerJ (S : Str) (m₀ : Str → Option Value) (i : Nat) (m : Str → Option Value) : Prop :=
  ∃ y tT vq tq vs ts va ta, m (Str.ofString "told") = some (.str y tT) ∧ m (Str.ofString "quotes") = some (.int vq tq) ∧ m (Str.ofString "sendings") = some (.int vs ts) ∧ m (Str.ofString "ahead") = some (.int va ta) ∧ InvT S i y vq vs va ∧
    ∀ z, z ≠ Str.ofString "step" → z ≠ Str.ofString "told" → z ≠ Str.ofString "quotes" → z ≠ Str.ofString "sendings" → z ≠ Str.ofString "ahead" → m z = m₀ z
def OuterJ (m₀ : Str → Option Value) (_ : Nat) (m : Str → Option Value) : Prop :=
  ∀ z, z ≠ Str.ofString "start" → z ≠ Str.ofString "step" → z ≠ Str.ofString "told" → z ≠ Str.ofString "quotes" → z ≠ Str.ofString "sendings" → z ≠ Str.ofString "ahead" → m z = m₀ z
section
variable {prog : Program} {w : World} {A : Around} {E : Value → Shared → Prop} {s : Shared} {env : Env} {h₀ : Heap} {body : List Stmt} {Q : Flow → Shared → Prop} {l : Addr} {m₀ : Str → Option Value} {news : List (Addr × Obj)}
theorem iterInner {S : Str} {ys : List Value} {y : Str} {tT tq ts ta : Tok} {vq vs va : Int} (hh : A.handled = none) (hl : (l, LCg.lst ys) ∈ news) (hlen : ys.length = 3) (hbits : ∀ v ∈ ys, ∃ t, v = .int 0 t ∨ v = .int 1 t)
    (F : Fr h₀ env.locals s.heap m₀) (N : News h₀ env.locals s.heap news) (e1 : m₀ (Str.ofString "told") = some (.str y tT)) (e2 : m₀ (Str.ofString "quotes") = some (.int vq tq)) (e3 : m₀ (Str.ofString "sendings") = some (.int vs ts)) (e4 : m₀ (Str.ofString "ahead") = some (.int va ta)) (hI : InvT S 0 y vq vs va)
    (turn : ∀ i (b : Int) t (q s' a : Nat) tT tq ts ta h tk rest, i < 3 → (b = 0 ∨ b = 1) → q + s' = i → a ≤ s' → (∀ p ∈ news, p ∈ rest) →
      Fr h₀ env.locals h (fun z => if z = Str.ofString "step" then some (.int b t) else if z = Str.ofString "told" then some (.str (strOfL (toldL S.cps.toList q s' a)) tT) else if z = Str.ofString "quotes" then some (.int (q : Int) tq) else if z = Str.ofString "sendings" then some (.int (s' : Int) ts) else if z = Str.ofString "ahead" then some (.int (a : Int) ta) else m₀ z) → News h₀ env.locals h rest →
      wpAny (model prog w) A (execs body env) (LPost h₀ env.locals (InnerJ S m₀ (i + 1)) rest { s with heap := h, toks := tk } Q) E { s with heap := h, toks := tk })
    (done : ∀ (u : Str → Option Value) h tk, Fr h₀ env.locals h (fun z => if z = Str.ofString "step" then u z else if z = Str.ofString "told" then u z else if z = Str.ofString "quotes" then u z else if z = Str.ofString "sendings" then u z else if z = Str.ofString "ahead" then u z else m₀ z) → News h₀ env.locals h news → Q .next { s with heap := h, toks := tk }) :
    wpAny (model prog w) A (pyIter (.ref l)) (fun it s₂ => LoopAtV prog w A h₀ env (Str.ofString "step") body Q E it s₂) E s := by
  have hz := N _ hl
  refine iterL (items := ys.toArray) (InnerJ S m₀) hh ⟨_, hz.1, rfl, _, rfl⟩ hz.2.2 hz.2.1 F N ⟨y, tT, vq, tq, vs, ts, va, ta, e1, e2, e3, e4, hI, fun _ _ _ _ _ _ => rfl⟩ ?_ ?_
  · rintro i v m₁ h tk rest hv ⟨y, tT, vq, tq, vs, ts, va, ta, g1, g2, g3, g4, ⟨⟨q, s', a, rfl, rfl, rfl, rfl, hqs, has⟩⟩, hm⟩ hsub F₁ N₁
    have hv' : ys[i]? = some v := by simpa using hv
    have hi : i < 3 := by
      have := (List.getElem?_eq_some_iff.mp hv').1
      omega
    obtain ⟨t, hb⟩ := hbits v (List.mem_of_getElem? hv')
    have e : ∀ b : Int, (fun z => if z = Str.ofString "step" then some (Value.int b t) else m₁ z) = (fun z => if z = Str.ofString "step" then some (.int b t) else if z = Str.ofString "told" then some (.str (strOfL (toldL S.cps.toList q s' a)) tT) else if z = Str.ofString "quotes" then some (.int (q : Int) tq) else if z = Str.ofString "sendings" then some (.int (s' : Int) ts) else if z = Str.ofString "ahead" then some (.int (a : Int) ta) else m₀ z) := by
      intro b
      funext z
      by_cases h1 : z = Str.ofString "step"
      · rw [if_pos h1, if_pos h1]
      · rw [if_neg h1, if_neg h1]
        by_cases h2 : z = Str.ofString "told"
        · rw [if_pos h2, h2, g1]
        · rw [if_neg h2]
          by_cases h3 : z = Str.ofString "quotes"
          · rw [if_pos h3, h3, g2]
          · rw [if_neg h3]
            by_cases h4 : z = Str.ofString "sendings"
            · rw [if_pos h4, h4, g3]
            · rw [if_neg h4]
              by_cases h5 : z = Str.ofString "ahead"
              · rw [if_pos h5, h5, g4]
              · rw [if_neg h5]; exact hm z h1 h2 h3 h4 h5
    rcases hb with rfl | rfl
    · rw [e] at F₁
      exact turn i 0 t q s' a tT tq ts ta h tk rest hi (.inl rfl) hqs has hsub F₁ N₁
    · rw [e] at F₁
      exact turn i 1 t q s' a tT tq ts ta h tk rest hi (.inr rfl) hqs has hsub F₁ N₁
  · rintro m₁ h tk ⟨y, tT, vq, tq, vs, ts, va, ta, g1, g2, g3, g4, _, hm⟩ F₁ N₁
    refine done m₁ h tk ?_ N₁
    have e : (fun z => if z = Str.ofString "step" then m₁ z else if z = Str.ofString "told" then m₁ z else if z = Str.ofString "quotes" then m₁ z else if z = Str.ofString "sendings" then m₁ z else if z = Str.ofString "ahead" then m₁ z else m₀ z) = m₁ := by
      funext z
      by_cases h1 : z = Str.ofString "step"
      · rw [if_pos h1]
      · rw [if_neg h1]
        by_cases h2 : z = Str.ofString "told"
        · rw [if_pos h2]
        · rw [if_neg h2]
          by_cases h3 : z = Str.ofString "quotes"
          · rw [if_pos h3]
          · rw [if_neg h3]
            by_cases h4 : z = Str.ofString "sendings"
            · rw [if_pos h4]
            · rw [if_neg h4]
              by_cases h5 : z = Str.ofString "ahead"
              · rw [if_pos h5]
              · rw [if_neg h5]; exact (hm z h1 h2 h3 h4 h5).symm
    rw [e]; exact F₁
theorem iterOuter {its : List Value} {k : Nat} (hh : A.handled = none) (hl : (l, W.listOf its.toArray k) ∈ news) (hgood : ∀ v ∈ its, ∃ S t, v = .str S t ∧ Good S)
    (F : Fr h₀ env.locals s.heap m₀) (N : News h₀ env.locals s.heap news)
    (turn : ∀ i S t (u : Str → Option Value) h tk rest, Good S → (∀ p ∈ news, p ∈ rest) →
      Fr h₀ env.locals h (fun z => if z = Str.ofString "start" then some (.str S t) else if z = Str.ofString "step" then u z else if z = Str.ofString "told" then u z else if z = Str.ofString "quotes" then u z else if z = Str.ofString "sendings" then u z else if z = Str.ofString "ahead" then u z else m₀ z) → News h₀ env.locals h rest →
      wpAny (model prog w) A (execs body env) (LPost h₀ env.locals (OuterJ m₀ (i + 1)) rest { s with heap := h, toks := tk } Q) E { s with heap := h, toks := tk })
    (done : ∀ (m₁ : Str → Option Value) h tk, Fr h₀ env.locals h m₁ → News h₀ env.locals h news → Q .next { s with heap := h, toks := tk }) :
    wpAny (model prog w) A (pyIter (.ref l)) (fun it s₂ => LoopAtV prog w A h₀ env (Str.ofString "start") body Q E it s₂) E s := by
  have hz := N _ hl
  refine iterL (items := its.toArray) (OuterJ m₀) hh ⟨_, hz.1, rfl, _, rfl⟩ hz.2.2 hz.2.1 F N (fun _ _ _ _ _ _ _ => rfl) ?_ ?_
  · rintro i v m₁ h tk rest hv hm hsub F₁ N₁
    have hv' : its[i]? = some v := by simpa using hv
    obtain ⟨S, t, rfl, hS⟩ := hgood v (List.mem_of_getElem? hv')
    have e : (fun z => if z = Str.ofString "start" then some (Value.str S t) else m₁ z) = (fun z => if z = Str.ofString "start" then some (.str S t) else if z = Str.ofString "step" then m₁ z else if z = Str.ofString "told" then m₁ z else if z = Str.ofString "quotes" then m₁ z else if z = Str.ofString "sendings" then m₁ z else if z = Str.ofString "ahead" then m₁ z else m₀ z) := by
      funext z
      by_cases h1 : z = Str.ofString "start"
      · rw [if_pos h1, if_pos h1]
      · rw [if_neg h1, if_neg h1]
        by_cases h2 : z = Str.ofString "step"
        · rw [if_pos h2]
        · rw [if_neg h2]
          by_cases h3 : z = Str.ofString "told"
          · rw [if_pos h3]
          · rw [if_neg h3]
            by_cases h4 : z = Str.ofString "quotes"
            · rw [if_pos h4]
            · rw [if_neg h4]
              by_cases h5 : z = Str.ofString "sendings"
              · rw [if_pos h5]
              · rw [if_neg h5]
                by_cases h6 : z = Str.ofString "ahead"
                · rw [if_pos h6]
                · rw [if_neg h6]; exact hm z h1 h2 h3 h4 h5 h6
    rw [e] at F₁
    exact turn i S t m₁ h tk rest hS hsub F₁ N₁
  · intro m₁ h tk _ F₁ N₁
    exact done m₁ h tk F₁ N₁
end

/-! ## the steps -/
theorem fmod2 (a : Int) : a.fmod 2 = 0 ∨ a.fmod 2 = 1 := by
  have h1 : 0 ≤ a.fmod 2 := Int.fmod_nonneg_of_pos _ (by decide)
  have h2 : a.fmod 2 < 2 := Int.fmod_lt_of_pos _ (by decide)
  omega
theorem ints_len : ∀ {vs : List Value} {ns : List Int}, IntsAre vs ns → vs.length = ns.length := fun h => h.length
theorem ints_mem {vs : List Value} {ns : List Int} (h : IntsAre vs ns) : ∀ v ∈ vs, ∃ n t, n ∈ ns ∧ v = .int n t := by
  intro v hv
  obtain ⟨i, hi, e⟩ := List.mem_iff_getElem.mp hv
  obtain ⟨k, t, e2, hk⟩ := IntsAre.at h i v (by rw [List.getElem?_eq_getElem hi, e])
  exact ⟨k, t, List.mem_of_getElem? hk, e2⟩
theorem steps_ok {ys : List Value} {w : List Int} (h : IntsAre ys (List.map (fun k' => if (List.take 8 w).length = min 8 w.length ∧ (List.take 8 w).length ≤ w.length then (((List.take 8 w).sum + 5).fdiv (2 ^ k'.toNat)).fmod 2 else k') (rangeKs 0 (3 - 0 : Int).toNat))) :
    ys.length = 3 ∧ ∀ v ∈ ys, ∃ t, v = .int 0 t ∨ v = .int 1 t := by
  refine ⟨by rw [ints_len h, List.length_map, rangeKs_length]; rfl, fun v hv => ?_⟩
  obtain ⟨n, t, hn, rfl⟩ := ints_mem h v hv
  obtain ⟨k, _, e⟩ := List.mem_map.mp hn
  rw [if_pos ⟨List.length_take .., by rw [List.length_take]; omega⟩] at e
  refine ⟨t, ?_⟩
  rcases fmod2 (((List.take 8 w).sum + 5).fdiv (2 ^ k.toNat)) with h2 | h2
  · left; rw [← e, h2]
  · right; rw [← e, h2]
end Mine

end

section
open PySem PySem.W PyProof.Rows PySem.Spec PySem.Calls
set_option Elab.async false
set_option maxRecDepth 100000
set_option maxHeartbeats 8000000
namespace Mine
section
variable {w : World} {mean : ExcName → Option Value} {mg mb : Str → Option Value} {news : List (Addr × Obj)} {x : Str} {t t1 t2 t3 : Tok} {dp un : Nat} {gd : Option (List Code)} {cn : Str} {cs : Scope} {a : Addr} {ccd : Value} {cl : List (Str × Addr)} {outer : List Env} {A₀ : Around} {base h₀ : Heap} {L : Addr} {m : Str → Option Value} {s : Shared} {Q E : Value → Shared → Prop}
theorem data_use (hx : x.length ≤ 100000) (B : Below A₀ base outer h₀) (F : Fr h₀ L s.heap m) (X : (hd.heap_39 w.params).In h₀) (N : News h₀ L s.heap news) (T : Top hd.view_39 LooseL mean mg mb h₀) (hk : cs.kind = .function) (h1 : dp + 1 < recursionLimit) (h2 : un + 8 < cLine)
    (ret : CbRet h₀ L m news s Q (fun t => .str (strOfL (dataL x.cps.toList)) t)) :
    wpAny (model PySem.Challenge.rw_mj0035_01.row.prog w) (ktrTop dp un gd cn cs L a ccd cl outer) (call (.ref 48) [.str x t]) Q E s :=
  quotedata_claim w mean mg mb news x t dp un gd cn cs a ccd cl outer A₀ base h₀ L m s Q E B F X N T hk hx h1 h2 ret
theorem quote_use (hx : x.length ≤ 100000) (B : Below A₀ base outer h₀) (F : Fr h₀ L s.heap m) (X : (hd.heap_39 w.params).In h₀) (N : News h₀ L s.heap news) (T : Top hd.view_39 LooseL mean mg mb h₀) (hk : cs.kind = .function) (h1 : dp + 1 < recursionLimit) (h2 : un + 8 < cLine)
    (ret : CbRet h₀ L m news s Q (fun t => .str (strOfL (quoteL x.cps.toList)) t)) :
    wpAny (model PySem.Challenge.rw_mj0035_01.row.prog w) (ktrTop dp un gd cn cs L a ccd cl outer) (call (.ref 61) [.str x t]) Q E s :=
  quote_claim w mean mg mb news x t dp un gd cn cs a ccd cl outer A₀ base h₀ L m s Q E B F X N T hk hx h1 h2 ret
theorem told_use {v1 v2 v3 : Int} {q s' a' : Nat} (e1 : v1 = (q : Int)) (e2 : v2 = (s' : Int)) (e3 : v3 = (a' : Int)) (hx : x.length ≤ 1000) (hq : q ≤ 3) (hs : s' ≤ 3) (ha : a' ≤ 3) (B : Below A₀ base outer h₀) (F : Fr h₀ L s.heap m) (X : (hd.heap_39 w.params).In h₀) (N : News h₀ L s.heap news) (T : Top hd.view_39 LooseL mean mg mb h₀) (hk : cs.kind = .function) (h1 : dp + 6 < recursionLimit) (h2 : un + 8 * 6 < cLine)
    (ret : CbRet h₀ L m news s Q (fun t => .str (strOfL (toldL x.cps.toList q s' a')) t)) :
    wpAny (model PySem.Challenge.rw_mj0035_01.row.prog w) (ktrTop dp un gd cn cs L a ccd cl outer) (call (.ref 78) [.str x t, .int v1 t1, .int v2 t2, .int v3 t3]) Q E s := by
  subst e1 e2 e3
  exact told_claim w mean mg mb news x t t1 t2 t3 q s' a' dp un gd cn cs a ccd cl outer A₀ base h₀ L m s Q E B F X N T hk ⟨hx, hq, hs, ha⟩ h1 h2 ret
end
theorem Good.len {x : Str} (h : Good x) : x.length ≤ 100 := h.1
theorem told_len {S : Str} {q s a : Nat} (hS : Good S) (hq : q ≤ 3) (hs : s ≤ 3) (ha : a ≤ 3) : (strOfL (toldL S.cps.toList q s a)).length ≤ 100000 := by
  have h1 := body_len hq hs ha S.cps.toList none
  have h2 := marksF_len hq
  have h3 := marksB_len hq
  have h4 : S.cps.toList.length ≤ 100 := by simpa [Str.length] using hS.1
  rw [len_strOfL]
  unfold toldL
  split
  · rw [List.length_append, List.length_replicate]
    split <;> omega
  · rw [List.length_append, List.length_append]
    omega
theorem good_slice {T : Str} (hT : Good T) (l u : Option Int) : Good (Txt.slice T l u) := by
  refine ⟨Nat.le_trans (Txt.slice_le T l u) hT.1, ?_⟩
  unfold Txt.slice
  split
  · exact hT.2
  · intro c hc
    have hc' : c ∈ (List.filterMap (fun x => T.cps[x]?) (Builtin.Str.strSliceIndices l u 1 T.length)) := by simpa using hc
    obtain ⟨i, _, e⟩ := List.mem_filterMap.mp hc'
    exact hT.2 c (by
      have : T.cps.toList[i]? = some c := by rw [Array.getElem?_toList]; exact e
      exact List.mem_of_getElem? this)
theorem good_dots : Good (Str.ofString "...a") := by
  refine ⟨by decide +kernel, ?_⟩
  have e : (Str.ofString "...a").cps.toList = [46, 46, 46, 97] := by decide +kernel
  rw [e]
  intro c hc
  simp at hc
  unfold Sign
  omega
theorem good_nil : Good (Str.ofString "") := by
  refine ⟨by decide +kernel, ?_⟩
  have e : (Str.ofString "").cps.toList = [] := by decide +kernel
  rw [e]
  intro c hc
  cases hc
theorem good_four {T : Str} {t1 t2 t3 t4 : Tok} {l u : Option Int} (hT : Good T) : ∀ v ∈ [Value.str T t1, .str (Txt.slice T l u) t2, .str (Str.ofString "...a") t3, .str (Str.ofString "") t4], ∃ S t, v = .str S t ∧ Good S := by
  intro v hv
  rcases List.mem_cons.mp hv with rfl | hv
  · exact ⟨_, _, rfl, hT⟩
  · rcases List.mem_cons.mp hv with rfl | hv
    · exact ⟨_, _, rfl, good_slice hT l u⟩
    · rcases List.mem_cons.mp hv with rfl | hv
      · exact ⟨_, _, rfl, good_dots⟩
      · rcases List.mem_cons.mp hv with rfl | hv
        · exact ⟨_, _, rfl, good_nil⟩
        · cases hv
theorem inv_start (S : Str) : InvT S 0 S 0 0 0 := ⟨⟨0, 0, 0, rfl, rfl, rfl, by rw [told_start]; rfl, rfl, Nat.le_refl _⟩⟩
theorem step_q {S : Str} (hS : Good S) (q s a : Nat) : strOfL (quoteL (strOfL (toldL S.cps.toList q s a)).cps.toList) = strOfL (toldL S.cps.toList (q + 1) s a) := by
  show strOfL (quoteL (toldL S.cps.toList q s a)) = _
  rw [quote_told hS.2]
theorem step_d (S : Str) (q s a : Nat) : strOfL (dataL (strOfL (toldL S.cps.toList q s a)).cps.toList) = strOfL (toldL S.cps.toList q (s + 1) (a + if q = 0 then 1 else 0)) := by
  show strOfL (dataL (toldL S.cps.toList q s a)) = _
  rw [data_told]
section
variable {S : Str} {q s a i : Nat}
theorem eq_d1 (hq : (q : Int) + 0 = 0) : strOfL (dataL (strOfL (toldL S.cps.toList q s a)).cps.toList) = strOfL (toldL S.cps.toList ((q : Int) + 0).toNat ((s : Int) + 1 - 0).toNat ((a : Int) + 1).toNat) := by
  rw [step_d, if_pos (by omega), show ((q : Int) + 0).toNat = q by omega, show ((s : Int) + 1 - 0).toNat = s + 1 by omega, show ((a : Int) + 1).toNat = a + 1 by omega]
theorem eq_d0 (hq : (q : Int) + 0 ≠ 0) : strOfL (dataL (strOfL (toldL S.cps.toList q s a)).cps.toList) = strOfL (toldL S.cps.toList ((q : Int) + 0).toNat ((s : Int) + 1 - 0).toNat ((a : Int) + 0).toNat) := by
  rw [step_d, if_neg (by omega), show ((q : Int) + 0).toNat = q by omega, show ((s : Int) + 1 - 0).toNat = s + 1 by omega, show ((a : Int) + 0).toNat = a + 0 by omega]
theorem eq_q (hS : Good S) : strOfL (quoteL (strOfL (toldL S.cps.toList q s a)).cps.toList) = strOfL (toldL S.cps.toList ((q : Int) + 1).toNat ((s : Int) + 1 - 1).toNat ((a : Int) + 0).toNat) := by
  rw [step_q hS, show ((q : Int) + 1).toNat = q + 1 by omega, show ((s : Int) + 1 - 1).toNat = s by omega, show ((a : Int) + 0).toNat = a by omega]
theorem bne_no {x y : Str} (e : x = y) (h : (x != y) = true) : False := by
  subst e
  simp at h
theorem inv_d1 (hqs : q + s = i) (has : a ≤ s) (hq : (q : Int) + 0 = 0) : InvT S (i + 1) (strOfL (dataL (strOfL (toldL S.cps.toList q s a)).cps.toList)) ((q : Int) + 0) ((s : Int) + 1 - 0) ((a : Int) + 1) :=
  ⟨⟨q, s + 1, a + 1, by omega, by omega, by omega, by rw [step_d, if_pos (by omega)], by omega, by omega⟩⟩
theorem inv_d0 (hqs : q + s = i) (has : a ≤ s) (hq : (q : Int) + 0 ≠ 0) : InvT S (i + 1) (strOfL (dataL (strOfL (toldL S.cps.toList q s a)).cps.toList)) ((q : Int) + 0) ((s : Int) + 1 - 0) ((a : Int) + 0) :=
  ⟨⟨q, s + 1, a, by omega, by omega, by omega, by rw [step_d, if_neg (by omega)]; rfl, by omega, by omega⟩⟩
theorem inv_q (hS : Good S) (hqs : q + s = i) (has : a ≤ s) : InvT S (i + 1) (strOfL (quoteL (strOfL (toldL S.cps.toList q s a)).cps.toList)) ((q : Int) + 1) ((s : Int) + 1 - 1) ((a : Int) + 0) :=
  ⟨⟨q + 1, s, a, by omega, by omega, by omega, by rw [step_q hS], by omega, by omega⟩⟩
end
section
variable {h₀ h' : Heap} {L : Addr} {m₀ m' : Str → Option Value} {rest : List (Addr × Obj)} {s₁ : Shared} {Q : Flow → Shared → Prop} {tk i : Nat}
theorem innerEnd {S y : Str} {tT tq ts ta : Tok} {vq vs va : Int} (F : Fr h₀ L h' m') (N : News h₀ L h' rest) (e1 : m' (Str.ofString "told") = some (.str y tT)) (e2 : m' (Str.ofString "quotes") = some (.int vq tq)) (e3 : m' (Str.ofString "sendings") = some (.int vs ts)) (e4 : m' (Str.ofString "ahead") = some (.int va ta)) (hI : InvT S (i + 1) y vq vs va)
    (hm : ∀ z, z ≠ Str.ofString "step" → z ≠ Str.ofString "told" → z ≠ Str.ofString "quotes" → z ≠ Str.ofString "sendings" → z ≠ Str.ofString "ahead" → m' z = m₀ z) : LPost h₀ L (InnerJ S m₀ (i + 1)) rest s₁ Q .next { s₁ with heap := h', toks := tk } :=
  ⟨h', tk, m', rfl, F, N, y, tT, vq, tq, vs, ts, va, ta, e1, e2, e3, e4, hI, hm⟩
theorem outerEnd (F : Fr h₀ L h' m') (N : News h₀ L h' rest) (hm : ∀ z, z ≠ Str.ofString "start" → z ≠ Str.ofString "step" → z ≠ Str.ofString "told" → z ≠ Str.ofString "quotes" → z ≠ Str.ofString "sendings" → z ≠ Str.ofString "ahead" → m' z = m₀ z) :
    LPost h₀ L (OuterJ m₀ (i + 1)) rest s₁ Q .next { s₁ with heap := h', toks := tk } := ⟨h', tk, m', rfl, F, N, hm⟩
end
end Mine

end

section
open PySem PySem.W PyProof.Rows PySem.Spec PySem.Calls
set_option Elab.async false
set_option maxRecDepth 100000
set_option maxHeartbeats 8000000
namespace Mine
section
local macro_rules | `(tactic| walk_at "call builtin:str.join") => `(tactic| (k_here; k_dflt (refine' joinText ?l ?c ?n ?_; (case l => k_asm); (case c => k_asm); (case n => exact len17 _)); intro T' t' k' hT'; (have hL' := Good.len hT')))
local macro_rules | `(tactic| walk_at "exec For Name List cons nil") => `(tactic| (k_here; (rename Fr _ _ _ _ => lF'); (with_unfolding_all refine' For_invVF lF' ?k1 ?k2 ?_; (case k1 => exact rfl); (case k2 => exact rfl); k_whole)))
local macro_rules | `(tactic| walk_at "exec For Name Name cons nil") => `(tactic| (k_here; (rename Fr _ _ _ _ => lF'); (with_unfolding_all refine' For_invVF lF' ?k1 ?k2 ?_; (case k1 => exact rfl); (case k2 => exact rfl); k_whole)))
local macro_rules | `(tactic| walk_at "pyIter ref") => `(tactic| ((with_reducible show wpAny _ _ (pyIter (Value.ref _)) (fun it s₂ => LoopAtV _ _ _ _ _ _ _ _ _ it s₂) _ _); (refine stopHere ?_)))
local macro_rules | `(tactic| walk_at "call ref") => `(tactic| (k_here; (with_reducible show wpAny _ _ (call (Value.ref 48) _) _ _ _); k_dflt (refine' data_use ?p1 ?k1 ?k2 ?k3 ?k4 ?k5 ?k6 ?k7 ?k8 ?_; (case k1 => k_asm); (case k2 => k_asm); (case k3 => k_asm); (case k4 => k_asm); (case k5 => k_asm); (case k6 => exact rfl); (case k7 => decide +kernel); (case k8 => decide +kernel); (case p1 => exact told_len (by assumption) (by omega) (by omega) (by omega))); intro t' h' tk' F' N'; (try dsimp only)))
local macro_rules | `(tactic| walk_at "call ref") => `(tactic| (k_here; (with_reducible show wpAny _ _ (call (Value.ref 61) _) _ _ _); k_dflt (refine' quote_use ?p1 ?k1 ?k2 ?k3 ?k4 ?k5 ?k6 ?k7 ?k8 ?_; (case k1 => k_asm); (case k2 => k_asm); (case k3 => k_asm); (case k4 => k_asm); (case k5 => k_asm); (case k6 => exact rfl); (case k7 => decide +kernel); (case k8 => decide +kernel); (case p1 => exact told_len (by assumption) (by omega) (by omega) (by omega))); intro t' h' tk' F' N'; (try dsimp only)))
local macro_rules | `(tactic| walk_at "call ref") => `(tactic| (k_here; (with_reducible show wpAny _ _ (call (Value.ref 78) _) _ _ _); k_dflt (refine' told_use ?e1 ?e2 ?e3 ?p1 ?p2 ?p3 ?p4 ?k1 ?k2 ?k3 ?k4 ?k5 ?k6 ?k7 ?k8 ?_; (case e1 => exact (Int.toNat_of_nonneg (by omega)).symm); (case e2 => exact (Int.toNat_of_nonneg (by omega)).symm); (case e3 => exact (Int.toNat_of_nonneg (by omega)).symm); (case p1 => omega); (case p2 => omega); (case p3 => omega); (case p4 => omega); (case k1 => k_asm); (case k2 => k_asm); (case k3 => k_asm); (case k4 => k_asm); (case k5 => k_asm); (case k6 => exact rfl); (case k7 => decide +kernel); (case k8 => decide +kernel)); intro t' h' tk' F' N'; (try dsimp only)))
theorem holds : PySem.Challenge.rw_mj0035_01.Holds := hd (by 
   w_strict (k_go0; (all_goals try k_fold); k_steps)
   refine iterOuter rfl (List.Mem.head _) (good_four (by assumption)) (by k_asm) (by k_asm) ?_ ?_
   · intro i S t u h tk rest hS hsub F N
     have hlen := Good.len hS
     w_strict (k_steps)
     refine iterInner (S := S) rfl (List.mem_cons_of_mem _ (hsub _ (List.Mem.tail _ (List.Mem.head _)))) (steps_ok (by assumption)).1 (steps_ok (by assumption)).2 (by k_asm) (by k_asm) rfl rfl rfl rfl (inv_start S) ?_ ?_
     · intro j b t q s' a tT tq ts ta h tk rest2 hj hb hqs has hsub2 F2 N2
       rcases hb with rfl | rfl
       · w_strict (k_steps)
         all_goals first
           | (exfalso; exact bne_no (eq_d1 (by assumption)) (by assumption))
           | (exfalso; exact bne_no (eq_d0 (by assumption)) (by assumption))
           | exact innerEnd (by k_asm) (by first | k_asm | exact News_tail (by k_asm)) (by rfl) (by rfl) (by rfl) (by rfl) (by exact inv_d1 hqs has (by assumption)) (by intro z h1 h2 h3 h4 h5; simp only [h1, h2, h3, h4, h5, if_false])
           | exact innerEnd (by k_asm) (by first | k_asm | exact News_tail (by k_asm)) (by rfl) (by rfl) (by rfl) (by rfl) (by exact inv_d0 hqs has (by assumption)) (by intro z h1 h2 h3 h4 h5; simp only [h1, h2, h3, h4, h5, if_false])
       · w_strict (k_steps)
         all_goals first
           | (exfalso; omega)
           | (exfalso; exact bne_no (eq_q hS) (by assumption))
           | exact innerEnd (by k_asm) (by first | k_asm | exact News_tail (by k_asm)) (by rfl) (by rfl) (by rfl) (by rfl) (by exact inv_q hS hqs has) (by intro z h1 h2 h3 h4 h5; simp only [h1, h2, h3, h4, h5, if_false])
     · intro u2 h tk F2 N2
       w_strict (k_steps)
       exact outerEnd (by k_asm) (News_tail (by k_asm)) (by intro z h0 h1 h2 h3 h4 h5; simp only [h0, h1, h2, h3, h4, h5, if_false])
   · intro m₁ h tk F N
     w_strict (k_steps))
end
end Mine

end

set_option maxRecDepth 100000 in
theorem PySem.Challenge.cw_mj0035_01_holds : PySem.Challenge.rw_mj0035_01.Holds :=
  Mine.holds
