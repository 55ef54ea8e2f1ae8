import PyProof.Rows.All
import Wide.All
import OpenK.AllK
import Wide.FinOn
import KE.KTurns
import KE.KEqSeq
import PyProof.StrLawsIdx
import PyProof.StrLawsReplace
import PySem.Sre
import Lean
import PySem.Challenge.RW_sc0023_01
set_option Elab.async false
set_option rowWalk.seconds 0
section
open PySem PySem.Sre
namespace Mine

theorem runFor_done {n : Nat} {m : M} (h : m.outcome.isSome = true) : M.runFor n m = m := by
  cases n with
  | zero => rfl
  | succ n => unfold M.runFor; rw [if_pos h]

theorem runFor_add (a b : Nat) : ∀ m : M, M.runFor (a + b) m = M.runFor b (M.runFor a m) := by
  induction a with
  | zero => intro m; rw [Nat.zero_add]; rfl
  | succ a ih =>
    intro m
    rw [Nat.succ_add]
    by_cases h : m.outcome.isSome = true
    · rw [runFor_done h, runFor_done h, runFor_done h]
    · show (if m.outcome.isSome then m else M.runFor (a + b) m.step) = M.runFor b (if m.outcome.isSome then m else M.runFor a m.step)
      rw [if_neg h, if_neg h, ih]

def Goes (k : Nat) (m m' : M) : Prop := M.runFor k m = m'
theorem Goes.refl (m : M) : Goes 0 m m := rfl
theorem Goes.trans {a b : Nat} {m m' m'' : M} (h : Goes a m m') (h' : Goes b m' m'') : Goes (a + b) m m'' := by
  unfold Goes at *
  rw [runFor_add, h, h']
theorem Goes.one {m m' : M} (h : m.outcome = none) (e : m.step = m') : Goes 1 m m' := by
  unfold Goes M.runFor
  rw [h]
  exact e

def code1 : Array Nat := #[14, 4, 0, 1, 1, 6, 1, 16, 46, 1]

/-- the machine of the first pattern, standing at place s, at word pc -/
def st1 (t : Array Nat) (n s pc pos : Nat) (must first : Bool) (seen : Seen) : M :=
  { code := code1, text := t, lim := n, start := s, lastStart := n, mustAdvance := must, pc := pc, pos := pos, handed := s, outermost := first,
    marks := #[], frames := [{ wait := .nextStart, pc := 5, pos := s, outermost := first }], weight := 1, seen := seen }

theorem st1_at (t : Array Nat) (n s : Nat) (must first : Bool) (seen : Seen) :
    (st1 t n s 5 s must first seen).step = if (s == 0 || t.getD (s - 1) 0 == 10) = true then st1 t n s 7 s must first ((seen.add 6).add 44) else { st1 t n s 5 s must first ((seen.add 6).add 44) with answer := some false } := by
  rfl
theorem st1_lit (t : Array Nat) (n s : Nat) (must first : Bool) (seen : Seen) (h : s < n) :
    (st1 t n s 7 s must first seen).step = if (t.getD s 0 == 46) = true then st1 t n s 9 (s + 1) must first (seen.add 16) else { st1 t n s 7 s must first (seen.add 16) with answer := some false } := by
  have h1 : ¬ s ≥ n := by omega
  show (if s ≥ n then _ else _) = _
  rw [if_neg h1]
  unfold st1
  generalize hb : (t.getD s 0 == 46) = b
  have ha : accepts code1 7 (t.getD s 0) (seen.add 16) = .ok (b, seen.add 16) := by rw [← hb]; rfl
  show (match accepts code1 7 (t.getD s 0) (seen.add 16) with | .error why => _ | .ok (false, seen) => _ | .ok (true, seen) => _) = _
  rw [ha]
  cases b <;> rfl

theorem st1_success (t : Array Nat) (n s : Nat) (must first : Bool) (seen : Seen) :
    (st1 t n s 9 (s + 1) must first seen).step = { st1 t n s 9 (s + 1) must first (seen.add 1) with handed := s + 1, answer := some true } := by
  have h1 : (s + 1 == s) = false := by simp
  show (if (first && ((false && _) || (must && (s + 1 == s)))) = true then _ else _) = _
  rw [h1]
  cases first <;> cases must <;> rfl

theorem st1_yes (t : Array Nat) (n s pc pos hd : Nat) (must first : Bool) (seen : Seen) : ∃ m', Goes 2 { st1 t n s pc pos must first seen with handed := hd, answer := some true } m' ∧ m'.outcome = some .matched ∧ m'.start = s ∧ m'.handed = hd :=
  ⟨_, rfl, rfl, rfl, rfl⟩

theorem st1_no (t : Array Nat) (n s pc pos : Nat) (must first : Bool) (seen : Seen) :
    { st1 t n s pc pos must first seen with answer := some false }.step = if s < n then st1 t n (s + 1) 5 (s + 1) false false seen else
      { code := code1, text := t, lim := n, start := s, lastStart := n, mustAdvance := must, pc := 5, pos := s, handed := s, outermost := first, marks := #[], frames := [], weight := 0, seen := seen, answer := some false } := by
  rfl

/-- the first place from s on at which the first pattern stands; fuel -/
noncomputable def find1 (t : Array Nat) (n : Nat) : Nat → Nat → Option Nat
  | 0, _ => none
  | f + 1, s => if (s == 0 || t.getD (s - 1) 0 == 10) = true ∧ s < n ∧ (t.getD s 0 == 46) = true then some s else find1 t n f (s + 1)

def Ends1 (r : Option Nat) (m' : M) : Prop := match r with
  | some p => m'.outcome = some .matched ∧ m'.start = p ∧ m'.handed = p + 1
  | none => m'.outcome = some .failed

theorem run1 (t : Array Nat) (n : Nat) : ∀ f s must first seen, s + f = n → ∃ k m', k ≤ 8 * (f + 1) ∧ Goes k (st1 t n s 5 s must first seen) m' ∧ Ends1 (find1 t n (f + 1) s) m' := by
  intro f
  induction f with
  | zero =>
    intro s must first seen hs
    have hsn : ¬ s < n := by omega
    have hf : find1 t n 1 s = none := by
      unfold find1
      rw [if_neg (fun h => hsn h.2.1)]
      rfl
    rw [hf]
    have tail : ∀ pc pos seen, ∃ k m', k ≤ 3 ∧ Goes k { st1 t n s pc pos must first seen with answer := some false } m' ∧ Ends1 none m' := by
      intro pc pos seen
      refine ⟨2, _, by omega, (Goes.one rfl (st1_no t n s pc pos must first seen)).trans (b := 1) rfl, ?_⟩
      rw [if_neg hsn]
      rfl
    by_cases h1 : (s == 0 || t.getD (s - 1) 0 == 10) = true
    · have e1 := st1_at t n s must first seen
      rw [if_pos h1] at e1
      have e2 : (st1 t n s 7 s must first ((seen.add 6).add 44)).step = { st1 t n s 7 s must first (((seen.add 6).add 44).add 16) with answer := some false } := by
        have h2 : s ≥ n := by omega
        show (if s ≥ n then _ else _) = _
        rw [if_pos h2]
        rfl
      obtain ⟨k, m', hk, g, e⟩ := tail 7 s (((seen.add 6).add 44).add 16)
      exact ⟨1 + (1 + k), m', by omega, (Goes.one rfl e1).trans ((Goes.one rfl e2).trans g), e⟩
    · have e1 := st1_at t n s must first seen
      rw [if_neg h1] at e1
      obtain ⟨k, m', hk, g, e⟩ := tail 5 s ((seen.add 6).add 44)
      exact ⟨1 + k, m', by omega, (Goes.one rfl e1).trans g, e⟩
  | succ f ih =>
    intro s must first seen hs
    have hsn : s < n := by omega
    have tail : ∀ pc pos seen, ∃ k m', k ≤ 1 + 8 * (f + 1) ∧ Goes k { st1 t n s pc pos must first seen with answer := some false } m' ∧ Ends1 (find1 t n (f + 1) (s + 1)) m' := by
      intro pc pos seen
      obtain ⟨k, m', hk, g, e⟩ := ih (s + 1) false false seen (by omega)
      have e0 := st1_no t n s pc pos must first seen
      rw [if_pos hsn] at e0
      exact ⟨1 + k, m', by omega, (Goes.one rfl e0).trans g, e⟩
    by_cases h1 : (s == 0 || t.getD (s - 1) 0 == 10) = true
    · have e1 := st1_at t n s must first seen
      rw [if_pos h1] at e1
      have e2 := st1_lit t n s must first ((seen.add 6).add 44) hsn
      by_cases h2 : (t.getD s 0 == 46) = true
      · rw [if_pos h2] at e2
        have hf : find1 t n (f + 1 + 1) s = some s := by
          rw [find1, if_pos ⟨h1, hsn, h2⟩]
        rw [hf]
        have e3 := st1_success t n s must first (((seen.add 6).add 44).add 16)
        obtain ⟨m', g, e4, e5, e6⟩ := st1_yes t n s 9 (s + 1) (s + 1) must first ((((seen.add 6).add 44).add 16).add 1)
        exact ⟨1 + (1 + (1 + 2)), m', by omega, (Goes.one rfl e1).trans ((Goes.one rfl e2).trans ((Goes.one rfl e3).trans g)), e4, e5, e6⟩
      · rw [if_neg h2] at e2
        have hf : find1 t n (f + 1 + 1) s = find1 t n (f + 1) (s + 1) := by
          rw [find1, if_neg (fun h => h2 h.2.2)]
        rw [hf]
        obtain ⟨k, m', hk, g, e⟩ := tail 7 s (((seen.add 6).add 44).add 16)
        exact ⟨1 + (1 + k), m', by omega, (Goes.one rfl e1).trans ((Goes.one rfl e2).trans g), e⟩
    · have e1 := st1_at t n s must first seen
      rw [if_neg h1] at e1
      have hf : find1 t n (f + 1 + 1) s = find1 t n (f + 1) (s + 1) := by
        rw [find1, if_neg (fun h => h1 h.1)]
      rw [hf]
      obtain ⟨k, m', hk, g, e⟩ := tail 5 s ((seen.add 6).add 44)
      exact ⟨1 + k, m', by omega, (Goes.one rfl e1).trans g, e⟩

theorem search1 (t : Array Nat) (n s : Nat) (must : Bool) (h : s ≤ n) : ∃ k m', k ≤ 8 * (n + 1) ∧ Goes k (forSearch code1 t 0 s n must) m' ∧ Ends1 (find1 t n (n + 1 - s) s) m' := by
  by_cases hs : s = n
  · subst hs
    have e : forSearch code1 t 0 s s must = { code := code1, text := t, lim := s, start := s, pc := 5, pos := s, handed := s, marks := #[], mustAdvance := must, seen := ({} : Seen).add 14, answer := some false } := by
      have h1 : (decide (s > s) || decide (s - s < 1)) = true := by simp
      show (if (decide (s > s) || decide (s - s < 1)) = true then _ else _) = _
      rw [if_pos h1]
      rfl
    have hf : find1 t s (s + 1 - s) s = none := by
      rw [show s + 1 - s = 0 + 1 by omega, find1, if_neg (fun h => Nat.lt_irrefl _ h.2.1)]
      rfl
    rw [hf, e]
    exact ⟨1, _, by omega, rfl, rfl⟩
  · have e : forSearch code1 t 0 s n must = st1 t n s 5 s must true (({} : Seen).add 14) := by
      have h1 : ¬ (decide (s > n) || decide (n - s < 1)) = true := by simp; omega
      show (if (decide (s > n) || decide (n - s < 1)) = true then _ else _) = _
      rw [if_neg h1]
      rfl
    rw [e]
    obtain ⟨k, m', hk, g, e⟩ := run1 t n (n - s) s must true (({} : Seen).add 14) (by omega)
    rw [show n + 1 - s = n - s + 1 by omega]
    exact ⟨k, m', by omega, g, e⟩
end Mine

end
section
open PySem PySem.Sre
namespace Mine

def code2 : Array Nat := #[14, 9, 4, 1, 2, 16, 10, 16, 13, 0, 7, 7, 16, 13, 16, 10, 15, 18, 5, 16, 10, 15, 13, 11, 16, 13, 5, 5, 0, 16, 10, 1, 15, 2, 0, 1]

theorem inSet2 (c : Nat) (seen : Seen) : ∃ seen', inSet code2 c code2.size 5 true seen = .ok (c == 10 || c == 13, seen') := by
  show ∃ seen', (if c == 10 then (.ok (true, seen.add 16) : Except String (Bool × Seen)) else if c == 13 then .ok (true, (seen.add 16).add 16) else .ok (false, ((seen.add 16).add 16).add 0)) = .ok (c == 10 || c == 13, seen')
  cases h1 : (c == 10)
  · cases h2 : (c == 13)
    · exact ⟨_, rfl⟩
    · exact ⟨_, rfl⟩
  · exact ⟨_, rfl⟩

/-- the first place from s on at which an end of a line begins; fuel -/
noncomputable def find2 (t : Array Nat) (n : Nat) : Nat → Nat → Option Nat
  | 0, _ => none
  | f + 1, s => if s < n then (if (t.getD s 0 == 10 || t.getD s 0 == 13) = true then some s else find2 t n f (s + 1)) else none

theorem admitted2 (m : M) (hc : m.code = code2) : ∀ f s seen, ∃ seen', M.admitted m f s seen = .ok (find2 m.text m.lim f s, seen') := by
  intro f
  induction f with
  | zero => intro s seen; exact ⟨_, rfl⟩
  | succ f ih =>
    intro s seen
    by_cases hs : s < m.lim
    · obtain ⟨seen1, e1⟩ := inSet2 (m.text.getD s 0) seen
      have hge : ¬ s ≥ m.lim := by omega
      by_cases h : (m.text.getD s 0 == 10 || m.text.getD s 0 == 13) = true
      · refine ⟨seen1, ?_⟩
        rw [M.admitted, if_neg hge, hc, e1, h, find2, if_pos hs, if_pos h]
      · obtain ⟨seen2, e2⟩ := ih (s + 1) seen1
        refine ⟨seen2, ?_⟩
        rw [M.admitted, if_neg hge, hc, e1, find2, if_pos hs, if_neg h]
        rw [Bool.not_eq_true] at h
        rw [h]
        exact e2
    · have hge : s ≥ m.lim := by omega
      refine ⟨seen, ?_⟩
      rw [M.admitted, if_pos hge, find2, if_neg hs]

/-- the machine of the second pattern at the place p, with these frames above the first -/
def st2 (t : Array Nat) (n p pc pos hd : Nat) (o first : Bool) (fs : List Sre.Frame) (w : Nat) (seen : Seen) : M :=
  { code := code2, text := t, lim := n, start := p, lastStart := n, mustAdvance := false, pc := pc, pos := pos, handed := hd, outermost := o,
    marks := #[], frames := fs ++ [{ wait := .nextStart, pc := 10, pos := p, outermost := first }], weight := w, seen := seen }

abbrev br (p pc : Nat) (first : Bool) : Sre.Frame := { wait := .nextBranch, pc := pc, pos := p, outermost := first, kept := { lastmark := -1, lastindex := -1, whole := false, marks := #[] } }
abbrev lk (p : Nat) (first : Bool) : Sre.Frame := { wait := .lookNot, pc := 26, pos := p, outermost := first, kept := { lastmark := -1, lastindex := -1, whole := false, marks := #[] } }

theorem st2_branch (t : Array Nat) (n p : Nat) (first : Bool) (seen : Seen) :
    (st2 t n p 10 p p first first [] 1 seen).step = st2 t n p 12 p p first first [br p 11 first] 2 (seen.add 7) := by
  rfl

/-- a literal is met or not -/
theorem st2_lit (t : Array Nat) (n p pc pos hd c : Nat) (o first : Bool) (fs : List Sre.Frame) (w : Nat) (seen : Seen) (h : pos < n) (hp : pc = 12 ∧ c = 13 ∨ pc = 14 ∧ c = 10 ∨ pc = 19 ∧ c = 10 ∨ pc = 24 ∧ c = 13 ∨ pc = 29 ∧ c = 10) :
    (st2 t n p pc pos hd o first fs w seen).step = if (t.getD pos 0 == c) = true then st2 t n p (pc + 2) (pos + 1) hd o first fs w (seen.add 16) else { st2 t n p pc pos hd o first fs w (seen.add 16) with answer := some false } := by
  have h1 : ¬ pos ≥ n := by omega
  have key : ∀ b, accepts code2 pc (t.getD pos 0) (seen.add 16) = .ok (b, seen.add 16) →
      (match accepts code2 pc (t.getD pos 0) (seen.add 16) with
        | .error why => (st2 t n p pc pos hd o first fs w (seen.add 16)).stick why
        | .ok (false, seen) => (st2 t n p pc pos hd o first fs w seen).say false
        | .ok (true, seen) => st2 t n p (pc + 2) (pos + 1) hd o first fs w seen) = if b = true then st2 t n p (pc + 2) (pos + 1) hd o first fs w (seen.add 16) else { st2 t n p pc pos hd o first fs w (seen.add 16) with answer := some false } := by
    intro b e
    rw [e]
    cases b <;> rfl
  rcases hp with ⟨rfl, rfl⟩ | ⟨rfl, rfl⟩ | ⟨rfl, rfl⟩ | ⟨rfl, rfl⟩ | ⟨rfl, rfl⟩ <;>
  · show (if pos ≥ n then _ else _) = _
    rw [if_neg h1]
    exact key _ rfl

theorem st2_end (t : Array Nat) (n p pc pos hd c : Nat) (o first : Bool) (fs : List Sre.Frame) (w : Nat) (seen : Seen) (h : n ≤ pos) (hp : pc = 14 ∧ c = 10 ∨ pc = 29 ∧ c = 10) :
    (st2 t n p pc pos hd o first fs w seen).step = { st2 t n p pc pos hd o first fs w (seen.add 16) with answer := some false } := by
  have h1 : pos ≥ n := by omega
  rcases hp with ⟨rfl, rfl⟩ | ⟨rfl, rfl⟩ <;>
  · show (if pos ≥ n then _ else _) = _
    rw [if_pos h1]
    rfl

theorem st2_jump (t : Array Nat) (n p pc pos hd : Nat) (o first : Bool) (fs : List Sre.Frame) (w : Nat) (seen : Seen) (hp : pc = 16 ∨ pc = 21 ∨ pc = 32) :
    (st2 t n p pc pos hd o first fs w seen).step = st2 t n p 35 pos hd o first fs w (seen.add 15) := by
  rcases hp with rfl | rfl | rfl <;> rfl

theorem st2_success (t : Array Nat) (n p pos hd : Nat) (o first : Bool) (fs : List Sre.Frame) (w : Nat) (seen : Seen) :
    (st2 t n p 35 pos hd o first fs w seen).step = { st2 t n p 35 pos pos o first fs w (seen.add 1) with answer := some true } := by
  cases o <;> rfl

/-- a branch that fails: the next one -/
theorem st2_next1 (t : Array Nat) (n p pc pos hd : Nat) (o first : Bool) (seen : Seen) :
    ({ st2 t n p pc pos hd o first [br p 11 first] 2 seen with answer := some false } : M).step = st2 t n p 19 p p first first [br p 18 first] 2 seen := by
  rfl
theorem st2_next2 (t : Array Nat) (n p pc pos hd : Nat) (o first : Bool) (seen : Seen) :
    ({ st2 t n p pc pos hd o first [br p 18 first] 2 seen with answer := some false } : M).step = st2 t n p 24 p p first first [br p 23 first] 2 seen := by
  rfl
theorem st2_look (t : Array Nat) (n p hd : Nat) (first : Bool) (seen : Seen) :
    (st2 t n p 26 (p + 1) hd first first [br p 23 first] 2 seen).step = st2 t n p 29 (p + 1) (p + 1) false first [lk (p + 1) first, br p 23 first] 3 (seen.add 5) := by
  rfl
theorem st2_looked (t : Array Nat) (n p pos hd : Nat) (first : Bool) (seen : Seen) :
    ({ st2 t n p 29 pos hd false first [lk (p + 1) first, br p 23 first] 3 seen with answer := some false } : M).step = st2 t n p 32 (p + 1) hd first first [br p 23 first] 2 seen := by
  rfl
theorem st2_yes (t : Array Nat) (n p pc pos hd k : Nat) (o first : Bool) (seen : Seen) : ∃ m', Goes 3 { st2 t n p pc pos hd o first [br p k first] 2 seen with answer := some true } m' ∧ m'.outcome = some .matched ∧ m'.start = p ∧ m'.handed = hd :=
  ⟨_, rfl, rfl, rfl, rfl⟩

def len2 (t : Array Nat) (n p : Nat) : Nat := if (t.getD p 0 == 13) = true ∧ p + 1 < n ∧ (t.getD (p + 1) 0 == 10) = true then 2 else 1

theorem run2 (t : Array Nat) (n p : Nat) (first : Bool) (seen : Seen) (hp : p < n) (h : (t.getD p 0 == 10 || t.getD p 0 == 13) = true) :
    ∃ k m', k ≤ 20 ∧ Goes k (st2 t n p 10 p p first first [] 1 seen) m' ∧ m'.outcome = some .matched ∧ m'.start = p ∧ m'.handed = p + len2 t n p := by
  have b := st2_branch t n p first seen
  by_cases h13 : (t.getD p 0 == 13) = true
  · have l1 := st2_lit t n p 12 p p 13 first first [br p 11 first] 2 (seen.add 7) hp (.inl ⟨rfl, rfl⟩)
    rw [if_pos h13] at l1
    have h10 : ¬ (t.getD p 0 == 10) = true := by
      rw [beq_iff_eq] at *
      omega
    -- not followed by 10: the second and the third branch
    have rest : ∀ pc pos hd seen, (p + 1 < n → ¬ (t.getD (p + 1) 0 == 10) = true) → ∃ k m', k ≤ 13 ∧ Goes k ({ st2 t n p pc pos hd first first [br p 11 first] 2 seen with answer := some false } : M) m' ∧ m'.outcome = some .matched ∧ m'.start = p ∧ m'.handed = p + 1 := by
      intro pc pos hd seen hn
      have a1 := st2_next1 t n p pc pos hd first first seen
      have a2 := st2_lit t n p 19 p p 10 first first [br p 18 first] 2 seen hp (.inr (.inr (.inl ⟨rfl, rfl⟩)))
      rw [if_neg h10] at a2
      have a3 := st2_next2 t n p 19 p p first first (seen.add 16)
      have a4 := st2_lit t n p 24 p p 13 first first [br p 23 first] 2 (seen.add 16) hp (.inr (.inr (.inr (.inl ⟨rfl, rfl⟩))))
      rw [if_pos h13] at a4
      have a5 := st2_look t n p p first ((seen.add 16).add 16)
      have a6 : (st2 t n p 29 (p + 1) (p + 1) false first [lk (p + 1) first, br p 23 first] 3 (((seen.add 16).add 16).add 5)).step = { st2 t n p 29 (p + 1) (p + 1) false first [lk (p + 1) first, br p 23 first] 3 ((((seen.add 16).add 16).add 5).add 16) with answer := some false } := by
        by_cases hn1 : p + 1 < n
        · have := st2_lit t n p 29 (p + 1) (p + 1) 10 false first [lk (p + 1) first, br p 23 first] 3 (((seen.add 16).add 16).add 5) hn1 (.inr (.inr (.inr (.inr ⟨rfl, rfl⟩))))
          rw [if_neg (hn hn1)] at this
          exact this
        · exact st2_end t n p 29 (p + 1) (p + 1) 10 false first _ 3 _ (by omega) (.inr ⟨rfl, rfl⟩)
      have a7 := st2_looked t n p (p + 1) (p + 1) first ((((seen.add 16).add 16).add 5).add 16)
      have a8 := st2_jump t n p 32 (p + 1) (p + 1) first first [br p 23 first] 2 ((((seen.add 16).add 16).add 5).add 16) (.inr (.inr rfl))
      have a9 := st2_success t n p (p + 1) (p + 1) first first [br p 23 first] 2 (((((seen.add 16).add 16).add 5).add 16).add 15)
      obtain ⟨m', g, e⟩ := st2_yes t n p 35 (p + 1) (p + 1) 23 first first ((((((seen.add 16).add 16).add 5).add 16).add 15).add 1)
      exact ⟨_, m', by omega, (Goes.one rfl a1).trans ((Goes.one rfl a2).trans ((Goes.one rfl a3).trans ((Goes.one rfl a4).trans ((Goes.one rfl a5).trans ((Goes.one rfl a6).trans ((Goes.one rfl a7).trans ((Goes.one rfl a8).trans ((Goes.one rfl a9).trans g)))))))), e⟩
    by_cases hn : p + 1 < n
    · have l2 := st2_lit t n p 14 (p + 1) p 10 first first [br p 11 first] 2 ((seen.add 7).add 16) hn (.inr (.inl ⟨rfl, rfl⟩))
      by_cases h2 : (t.getD (p + 1) 0 == 10) = true
      · rw [if_pos h2] at l2
        have hl : len2 t n p = 2 := by unfold len2; rw [if_pos ⟨h13, hn, h2⟩]
        rw [hl]
        have a8 := st2_jump t n p 16 (p + 1 + 1) p first first [br p 11 first] 2 (((seen.add 7).add 16).add 16) (.inl rfl)
        have a9 := st2_success t n p (p + 1 + 1) p first first [br p 11 first] 2 ((((seen.add 7).add 16).add 16).add 15)
        obtain ⟨m', g, e⟩ := st2_yes t n p 35 (p + 1 + 1) (p + 1 + 1) 11 first first (((((seen.add 7).add 16).add 16).add 15).add 1)
        exact ⟨_, m', by omega, (Goes.one rfl b).trans ((Goes.one rfl l1).trans ((Goes.one rfl l2).trans ((Goes.one rfl a8).trans ((Goes.one rfl a9).trans g)))), e⟩
      · rw [if_neg h2] at l2
        have hl : len2 t n p = 1 := by unfold len2; rw [if_neg fun h => h2 h.2.2]
        rw [hl]
        obtain ⟨k, m', hk, g, e⟩ := rest 14 (p + 1) p (((seen.add 7).add 16).add 16) fun _ => h2
        exact ⟨_, m', by omega, (Goes.one rfl b).trans ((Goes.one rfl l1).trans ((Goes.one rfl l2).trans g)), e⟩
    · have l2 := st2_end t n p 14 (p + 1) p 10 first first [br p 11 first] 2 ((seen.add 7).add 16) (by omega) (.inl ⟨rfl, rfl⟩)
      have hl : len2 t n p = 1 := by unfold len2; rw [if_neg fun h => hn h.2.1]
      rw [hl]
      obtain ⟨k, m', hk, g, e⟩ := rest 14 (p + 1) p (((seen.add 7).add 16).add 16) fun h => absurd h hn
      exact ⟨_, m', by omega, (Goes.one rfl b).trans ((Goes.one rfl l1).trans ((Goes.one rfl l2).trans g)), e⟩
  · have h10 : (t.getD p 0 == 10) = true := by
      rw [Bool.or_eq_true] at h
      exact h.resolve_right h13
    have hl : len2 t n p = 1 := by unfold len2; rw [if_neg fun h => h13 h.1]
    rw [hl]
    have l1 := st2_lit t n p 12 p p 13 first first [br p 11 first] 2 (seen.add 7) hp (.inl ⟨rfl, rfl⟩)
    rw [if_neg h13] at l1
    have a1 := st2_next1 t n p 12 p p first first ((seen.add 7).add 16)
    have a2 := st2_lit t n p 19 p p 10 first first [br p 18 first] 2 ((seen.add 7).add 16) hp (.inr (.inr (.inl ⟨rfl, rfl⟩)))
    rw [if_pos h10] at a2
    have a8 := st2_jump t n p 21 (p + 1) p first first [br p 18 first] 2 (((seen.add 7).add 16).add 16) (.inr (.inl rfl))
    have a9 := st2_success t n p (p + 1) p first first [br p 18 first] 2 ((((seen.add 7).add 16).add 16).add 15)
    obtain ⟨m', g, e⟩ := st2_yes t n p 35 (p + 1) (p + 1) 18 first first (((((seen.add 7).add 16).add 16).add 15).add 1)
    exact ⟨_, m', by omega, (Goes.one rfl b).trans ((Goes.one rfl l1).trans ((Goes.one rfl a1).trans ((Goes.one rfl a2).trans ((Goes.one rfl a8).trans ((Goes.one rfl a9).trans g))))), e⟩

theorem find2_some (t : Array Nat) (n : Nat) : ∀ f s p, find2 t n f s = some p → s ≤ p ∧ p < n ∧ (t.getD p 0 == 10 || t.getD p 0 == 13) = true := by
  intro f
  induction f with
  | zero => intro s p h; cases h
  | succ f ih =>
    intro s p h
    unfold find2 at h
    split at h
    · split at h
      · cases h
        exact ⟨Nat.le_refl _, by assumption, by assumption⟩
      · have := ih _ _ h
        exact ⟨by omega, this.2⟩
    · cases h

def Ends2 (t : Array Nat) (n : Nat) (r : Option Nat) (m' : M) : Prop := match r with
  | some p => m'.outcome = some .matched ∧ m'.start = p ∧ m'.handed = p + len2 t n p
  | none => m'.outcome = some .failed

theorem search2 (t : Array Nat) (n s : Nat) (must : Bool) (h : s ≤ n) : ∃ k m', k ≤ 20 ∧ Goes k (forSearch code2 t 0 s n must) m' ∧ Ends2 t n (find2 t n (n + 1 - s) s) m' := by
  by_cases hs : s = n
  · subst hs
    have e : forSearch code2 t 0 s s must = { code := code2, text := t, lim := s, start := s, pc := 10, pos := s, handed := s, marks := #[], mustAdvance := must, seen := ({} : Seen).add 14, answer := some false } := by
      have h1 : (decide (s > s) || decide (s - s < 1)) = true := by simp
      show (if (decide (s > s) || decide (s - s < 1)) = true then _ else _) = _
      rw [if_pos h1]
      rfl
    have hf : find2 t s (s + 1 - s) s = none := by
      rw [show s + 1 - s = 0 + 1 by omega, find2, if_neg (Nat.lt_irrefl _)]
    rw [hf, e]
    exact ⟨1, _, by omega, rfl, rfl⟩
  · let m0 : M := { code := code2, text := t, lim := n, start := s, lastStart := n, pc := 10, pos := s, handed := s, marks := #[], mustAdvance := must, seen := ({} : Seen).add 14 }
    have e : forSearch code2 t 0 s n must = match M.admitted m0 (n + 1 - s) s m0.seen with
        | .ok (some s, seen) => { m0 with mustAdvance := false, seen }.attemptAt s true
        | .ok (none, seen) => { m0 with seen }.say false
        | .error why => m0.stick why := by
      have h1 : ¬ (decide (s > n) || decide (n - s < 1)) = true := by simp; omega
      show (if (decide (s > n) || decide (n - s < 1)) = true then _ else _) = _
      rw [if_neg h1]
      rfl
    obtain ⟨seen', ea⟩ := admitted2 m0 rfl (n + 1 - s) s m0.seen
    rw [e, ea]
    show ∃ k m', k ≤ 20 ∧ Goes k (match (Except.ok (find2 t n (n + 1 - s) s, seen') : Except String (Option Nat × Seen)) with | .ok (some s, seen) => _ | .ok (none, seen) => _ | .error why => _) m' ∧ _
    cases hf : find2 t n (n + 1 - s) s with
    | none => exact ⟨1, _, by omega, rfl, rfl⟩
    | some p =>
      obtain ⟨_, h2, h3⟩ := find2_some t n _ _ _ hf
      exact run2 t n p true seen' h2 h3
end Mine

end
section
open PySem PySem.Builtin PySem.Builtin.Re
namespace Mine
set_option maxRecDepth 100000

theorem plainAttrs_rePattern : PlainAttrs "re.Pattern" :=
  ⟨⟨"object.__getattribute__", by rw [typeLookup_type, builtinLookup_eq_fast]; kernel_rfl, by decide +kernel⟩, by rw [typeLookup_type, builtinLookup_eq_fast]; kernel_rfl⟩
theorem owner_rePattern : Manifest.owners.lookup (String.ofList ['n', 'r', 'e', 't', 't', 'a', 'P', '.', 'e', 'r'].reverse) = some Manifest.sig_re_Pattern := by kernel_rfl
theorem slot_rePattern_sub : Slot "re.Pattern" "sub" "re.Pattern.sub" :=
  .of (owner := "re.Pattern") (n := "sub") (by rw [typeLookup_type, builtinLookup_eq_fast]; kernel_rfl) (by decide +kernel) (by decide +kernel) (by decide +kernel)
    (by first | exact .inl (by decide +kernel) | exact .inr (by decide +kernel)) (by rw [isSubtype_type]; kernel_rfl)
theorem type_rePattern_sub : typeOf (.builtin "re.Pattern.sub") = pure (.type "method_descriptor") := by show builtinType _ = _; rw [builtinType_eq_fast]; kernel_rfl
theorem entry_rePattern_sub : entryFor table "re.Pattern.sub" = some Builtin.«re.Pattern.sub» := entryFor_of_tree (by kernel_rfl)
theorem entry_rePattern_loop : entryFor table "re.Pattern.sub.loop" = some Builtin.«re.Pattern.sub.loop» := entryFor_of_tree (by kernel_rfl)
theorem args_rePattern_sub_3 (a b c : Value) : argsOk "re.Pattern.sub" ⟨[a, b, c], []⟩ := by
  unfold argsOk; rw [signature?_of (id := "re.Pattern.sub") (n := ['b', 'u', 's']) (o := ['n', 'r', 'e', 't', 't', 'a', 'P', '.', 'e', 'r']) (by kernel_rfl) owner_rePattern]; kernel_rfl
end Mine

end
section
open PySem PySem.Builtin PySem.Builtin.Re PySem.Calls PyProof.Rows
namespace Mine

section
variable {M : Model} {A : Around} {E : Value → Shared → Prop} {s : Shared}

theorem wp_drive {Q : Sre.M → Shared → Prop} : ∀ (n : Nat) (m : Sre.M) (k : Nat) (m' : Sre.M), Goes k m m' → m'.outcome.isSome = true → k < 4 * n → Q m' s → wpAny M A (reDrive n m) Q E s := by
  intro n
  induction n with
  | zero => intro m k m' _ _ hk; omega
  | succ n ih =>
    intro m k m' g ho hk hQ
    show wpAny M A (if (Sre.M.runFor 4 m).outcome.isSome = true then pure (Sre.M.runFor 4 m) else (do rule "sre.turn"; reDrive n (Sre.M.runFor 4 m))) Q E s
    by_cases h4 : k ≤ 4
    · have e : Sre.M.runFor 4 m = m' := by
        have := runFor_add k (4 - k) m
        rw [show k + (4 - k) = 4 by omega] at this
        rw [this, show Sre.M.runFor k m = m' from g, runFor_done ho]
      rw [e, if_pos ho]
      exact wpAny_pure hQ
    · have e : Goes (k - 4) (Sre.M.runFor 4 m) m' := by
        have := runFor_add 4 (k - 4) m
        rw [show 4 + (k - 4) = k by omega] at this
        unfold Goes
        rw [← this]
        exact g
      by_cases hd : (Sre.M.runFor 4 m).outcome.isSome = true
      · rw [if_pos hd]
        have : Sre.M.runFor 4 m = m' := by
          have := e
          unfold Goes at this
          rw [runFor_done hd] at this
          exact this
        rw [this]
        exact wpAny_pure hQ
      · rw [if_neg hd]
        exact wpAny_bind (wpAny_rule (ih _ (k - 4) m' e ho (by omega) hQ))

theorem wp_forUnit {α : Type} {f : α → PUnit → Sem (ForInStep PUnit)} {Q : PUnit → Shared → Prop} (hf : ∀ a (Q' : ForInStep PUnit → Shared → Prop), Q' (.yield ⟨⟩) s → wpAny M A (f a ⟨⟩) Q' E s) : ∀ (l : List α), Q ⟨⟩ s →
    wpAny M A (forIn l PUnit.unit f) Q E s := by
  intro l
  induction l with
  | nil => intro h; rw [List.forIn_nil]; exact wpAny_pure h
  | cons a l ih =>
    intro h
    rw [List.forIn_cons]
    exact wpAny_bind (hf a _ (ih h))

theorem wp_runToEnd {m m' : Sre.M} {k : Nat} {Q : Option Sre.M → Shared → Prop} (g : Goes k m m') (hk : k < 2 ^ 66)
    (h : m'.outcome = some .matched ∧ Q (some m') s ∨ m'.outcome = some .failed ∧ Q none s) : wpAny M A (reRunToEnd m) Q E s := by
  have ho : m'.outcome.isSome = true := by rcases h with ⟨h, _⟩ | ⟨h, _⟩ <;> rw [h] <;> rfl
  unfold reRunToEnd
  refine wpAny_bind (wp_drive (2 ^ 64) m k m' g ho (by omega) ?_)
  refine wpAny_bind (wp_forUnit (fun i Q' hQ => ?_) _ ?_)
  · split
    · exact wpAny_bind (wpAny_rule (wpAny_pure hQ))
    · exact wpAny_pure hQ
  · rcases h with ⟨h, hQ⟩ | ⟨h, hQ⟩ <;> rw [h] <;> exact wpAny_pure hQ

theorem wp_fieldsOf {a : Addr} {o : Obj} {vs : Array Value} {Q : Array Value → Shared → Prop} (ho : s.heap.get? a = some o) (hd : o.data = .fields vs) (h : Q vs s) : wpAny M A (fieldsOf (.ref a)) Q E s := by
  show wpAny M A (load a >>= fun o => match o.data with | .fields vs => pure vs | _ => unsupported "internal:no-fields") Q E s
  refine wpAny_bind (wpAny_load ho ?_)
  rw [hd]
  exact wpAny_pure h

theorem wp_rawItems {a : Addr} {o : Obj} {xs : Array Value} {n : Nat} {Q : Array Int → Shared → Prop} (ho : s.heap.get? a = some o) (hd : o.data = .seq xs n) (h : Q (xs.map reRawOf) s) : wpAny M A (reRawItems (.ref a)) Q E s := by
  show wpAny M A ((load a >>= fun o => match o.data with | .seq xs _ => pure (some xs) | _ => pure none) >>= fun x => pure ((x.getD #[]).map reRawOf)) Q E s
  refine wpAny_bind (wpAny_bind (wpAny_load ho ?_))
  rw [hd]
  exact wpAny_pure (wpAny_pure h)

theorem wp_seqItems {a : Addr} {o : Obj} {xs : Array Value} {n : Nat} {Q : Option (Array Value) → Shared → Prop} (ho : s.heap.get? a = some o) (hd : o.data = .seq xs n) (h : Q (some xs) s) : wpAny M A (seqItems? (.ref a)) Q E s := by
  show wpAny M A (load a >>= fun o => match o.data with | .seq xs _ => pure (some xs) | _ => pure none) Q E s
  refine wpAny_bind (wpAny_load ho ?_)
  rw [hd]
  exact wpAny_pure h

/-- a compiled pattern of str without groups lies at a -/
structure PatAt (h : Heap) (a : Addr) (code : Array Nat) : Prop where
  at_ : ∃ o x y c oc xs n, h.get? a = some o ∧ o.cls = .type "re.Pattern" ∧ o.dict = none ∧ o.data = .fields #[x, y, .int 0 0, .none, .none, .ref c, .int 0 0] ∧ h.get? c = some oc ∧ oc.cls = .type "tuple" ∧ oc.data = .seq xs n ∧ (xs.map reRawOf).map (·.toNat) = code

theorem PatAt.keeps {h h' : Heap} {a : Addr} {code : Array Nat} (P : PatAt h a code) (k : ∀ b o, h.get? b = some o → h'.get? b = some o) : PatAt h' a code := by
  obtain ⟨o, x, y, c, oc, xs, n, h1, h2, h3, h4, h5, h5c, h6, h7⟩ := P
  exact ⟨⟨o, x, y, c, oc, xs, n, k _ _ h1, h2, h3, h4, k _ _ h5, h5c, h6, h7⟩⟩

theorem wp_wholeTarget {a : Addr} {code : Array Nat} {x : Str} {t : Tok} {Q : ReTarget → Shared → Prop} (P : PatAt s.heap a code)
    (h : Q { pattern := .ref a, string := .str x t, code := code, text := x.cps, kind := 0, groups := 0, pos := 0, lim := x.cps.size } s) : wpAny M A (reWholeTarget (.ref a) (.str x t)) Q E s := by
  obtain ⟨o, px, py, c, oc, xs, n, h1, h2, h3, h4, h5, h5c, h6, h7⟩ := P
  unfold reWholeTarget
  refine wpAny_bind (wp_fieldsOf h1 h4 ?_)
  refine wpAny_bind (wpAny_pure ?_)
  refine wpAny_bind (wpAny_pure ?_)
  refine wpAny_bind (wp_rawItems h5 h6 ?_)
  refine wpAny_pure ?_
  rw [h7]
  exact h
end

theorem codeAny_builtin {prog : Program} {w : World} {A : Around} {s : Shared} {R : Result → Shared → Prop} {id : String} {args : Args} {b : Builtin} (hb : entryFor table id = some b)
    (h : wpAny (model prog w) (A.under (.builtin id args)) (b args)
      (fun fin s' => match fin with | .done f => R (.ok f) s' | .again c' => c'.quiet = true ∧ codeAny (model prog w) A c' R s') (fun e s' => R (.error e) s') s) :
    codeAny (model prog w) A (.builtin id args) R s := by
  refine codeAny_of_tree ?_
  show wpAny _ _ (match entryFor table id with | some b => b args | none => unsupported ((withoutEnding? id "#data").getD id)) _ _ s
  rw [hb]; exact h

/-- the text that a replacement makes, from the place pos on -/
noncomputable def subL (next : Nat → Option (Nat × Nat)) (t : Array Nat) (r : List Nat) : Nat → Nat → List Nat
  | 0, _ => []
  | f + 1, pos => match next pos with
    | none => (t.extract pos t.size).toList
    | some (p, e) => (t.extract pos p).toList ++ r ++ subL next t r f e

/-- what the engine finds from each place on -/
def Finds (code t : Array Nat) (next : Nat → Option (Nat × Nat)) : Prop :=
  ∀ s must, s ≤ t.size → ∃ k m', k < 2 ^ 66 ∧ Goes k (Sre.forSearch code t 0 s t.size must) m' ∧
    match next s with
    | some (p, e) => m'.outcome = some .matched ∧ m'.start = p ∧ m'.handed = e ∧ s ≤ p ∧ p < e ∧ e ≤ t.size
    | none => m'.outcome = some .failed

def cat (l : List (Str × Tok)) : List Nat := l.flatMap fun p => p.1.cps.toList
theorem cat_append (l l' : List (Str × Tok)) : cat (l ++ l') = cat l ++ cat l' := List.flatMap_append
theorem cat_one (y : Str) (t : Tok) : cat [(y, t)] = y.cps.toList := by simp [cat]

theorem join_cat : ∀ l : List Str, (Str.join ⟨#[]⟩ l).cps.toList = l.flatMap fun x => x.cps.toList
  | [] => rfl
  | [x] => by simp [Str.join]
  | x :: y :: r => by
    rw [Str.join, Str.cps_append, Str.cps_append, Array.toList_append, Array.toList_append, join_cat (y :: r)]
    · simp
    · simp
theorem txt_join_cat (l : List (Str × Tok)) : (Txt.join ⟨#[]⟩ (l.map (·.1))).cps.toList = cat l := by
  show (Builtin.Str.glued ⟨#[]⟩ (l.map (·.1))).cps.toList = cat l
  rw [StrLaws.glued_eq_join, join_cat]
  unfold cat
  rw [List.flatMap_map]

theorem sum_cat (l : List (Str × Tok)) : ((l.map (·.1)).map (·.length)).sum = (cat l).length := by
  induction l with
  | nil => rfl
  | cons p r ih =>
    have : cat (p :: r) = p.1.cps.toList ++ cat r := rfl
    rw [this, List.map_cons, List.map_cons, List.sum_cons, ih, List.length_append]
    rfl

theorem wp_push {M : Model} {A : Around} {E : Value → Shared → Prop} {s : Shared} {Q : Unit → Shared → Prop} {D : Addr} {l : List (Str × Tok)} {ep : Nat} {y : Str} {t : Tok}
    (hD : s.heap.get? D = some { cls := .type "list", data := .seq (strValues l).toArray ep }) (hl : l.length ≤ 3000)
    (h : ∀ h', Heap.SameBut D s.heap h' → h'.get? D = some { cls := .type "list", data := .seq (strValues (l ++ [(y, t)])).toArray (ep + 1) } → Q () { s with heap := h' }) :
    wpAny M A (updateSeq D fun xs => xs.push (.str y t)) Q E s := by
  have hz : (strValues l).toArray.size ≤ sizeLine := by
    rw [sizeLine_eq, List.size_toArray]; unfold strValues; rw [List.length_map]; omega
  refine wpAny_updateSeq hD rfl (h _ (Heap.SameBut.update ..) ?_) hz (by rw [Array.size_push]; omega)
  have e : (strValues (l ++ [(y, t)])).toArray = (strValues l).toArray.push (.str y t) := by
    unfold strValues; simp
  rw [e, Heap.get?_update_self _ hD (by rw [mapSeq_push]; rfl), mapSeq_push]

theorem PatAt.same {h h' : Heap} {a D : Addr} {code : Array Nat} {ep : Nat} {xs : Array Value} (P : PatAt h a code) (hD : h.get? D = some { cls := .type "list", data := .seq xs ep }) (hs : Heap.SameBut D h h') : PatAt h' a code := by
  obtain ⟨o, x, y, c, oc, xs, n, h1, h2, h3, h4, h5, h5c, h6, h7⟩ := P
  refine ⟨⟨o, x, y, c, oc, xs, n, (hs.2 _ ?_).trans h1, h2, h3, h4, (hs.2 _ ?_).trans h5, h5c, h6, h7⟩⟩
  · rintro rfl
    rw [h1] at hD
    rw [Option.some.inj hD] at h2
    exact absurd (Value.type.inj h2) (by decide)
  · rintro rfl
    rw [h5] at hD
    rw [Option.some.inj hD] at h5c
    exact absurd (Value.type.inj h5c) (by decide)

theorem wp_slice {M : Model} {A : Around} {E : Value → Shared → Prop} {s : Shared} {Q : Value → Shared → Prop} {t : Array Nat} {b e : Nat} (ht : t.size ≤ 1000)
    (h : ∀ tk k, Q (.str ⟨t.extract b e⟩ tk) { s with toks := k }) : wpAny M A (reSlice t 0 b e) Q E s := by
  refine wpAny_mkStr (h _ _) ?_
  show (t.extract b e).size ≤ sizeLine
  rw [sizeLine_eq, Array.size_extract]
  omega

abbrev loopArgs (a D : Addr) (x : Str) (t : Tok) (r : Str) (tr : Tok) (n : Int) (pos : Nat) (tn td ts : Tok) (must : Bool) : Args :=
  ⟨[.ref a, .str x t, .str r tr, .int 0 0, .int 0 0, .int n tn, .int (pos : Int) td, .int (pos : Int) ts, .bool must, .ref D, .bool false], []⟩

theorem sub_loop {prog : Program} {w : World} {A : Around} {R : Result → Shared → Prop} {a D : Addr} {code : Array Nat} {x r : Str} {t tr : Tok} {next : Nat → Option (Nat × Nat)}
    (hF : Finds code x.cps next) (hx : x.length ≤ 1000) (hr : r.length ≤ 10) :
    ∀ (f : Nat) (s : Shared) (n : Int) (pos : Nat) (tn td ts : Tok) (must : Bool) (l : List (Str × Tok)) (ep : Nat), x.cps.size < pos + f → pos ≤ x.cps.size →
      PatAt s.heap a code → a ≠ D → s.heap.get? D = some { cls := .type "list", data := .seq (strValues l).toArray ep } → (cat l).length ≤ 11 * pos → l.length ≤ 2 * pos →
      (∀ h' y t' k, y.cps.toList = cat l ++ subL next x.cps r.cps.toList f pos → Heap.SameBut D s.heap h' → R (.ok (.ret (.str y t'))) { s with heap := h', toks := k }) →
      codeAny (model prog w) A (.builtin "re.Pattern.sub.loop" (loopArgs a D x t r tr n pos tn td ts must)) R s := by
  intro f
  induction f with
  | zero => intro s n pos tn td ts must l ep h1 h2; omega
  | succ f ih =>
    intro s n pos tn td ts must l ep h1 h2 P haD hD hc hl hR
    refine codeAny_builtin entry_rePattern_loop ?_
    unfold loopArgs Builtin.«re.Pattern.sub.loop»
    refine wpAny_bind (wp_wholeTarget P ?_)
    refine wpAny_bind (wpAny_pure ?_)
    obtain ⟨k, m', hk, g, hm⟩ := hF pos must h2
    refine wpAny_bind (m := reRunToEnd (Sre.forSearch code x.cps 0 pos x.cps.size must)) (wp_runToEnd g hk ?_)
    cases hn : next pos with
    | none =>
      rw [hn] at hm
      refine .inr ⟨hm, ?_⟩
      dsimp only
      have hs0 : subL next x.cps r.cps.toList (f + 1) pos = (x.cps.extract pos x.cps.size).toList := by rw [subL, hn]
      -- the list as it stands behind the last piece; then the joining
      have last : ∀ (h₁ : Heap) (l₁ : List (Str × Tok)) (ep₁ k₁ : Nat), h₁.get? D = some { cls := .type "list", data := .seq (strValues l₁).toArray ep₁ } → Heap.SameBut D s.heap h₁ → (cat l₁).length ≤ 12000 →
          cat l₁ = cat l ++ (x.cps.extract pos x.cps.size).toList →
          wpAny (model prog w) (A.under (.builtin "re.Pattern.sub.loop" (loopArgs a D x t r tr n pos tn td ts must)))
            (reSlice x.cps 0 0 0 >>= fun joiner => seqItems? (.ref D) >>= fun its => if (its.getD #[]).isEmpty = true then (pure joiner >>= fun text => ret text) else (call (.builtin "str.join") [joiner, .ref D] >>= fun text => ret text))
            (fun fin s' => match fin with | .done f => R (.ok f) s' | .again c' => c'.quiet = true ∧ codeAny (model prog w) A c' R s') (fun e s' => R (.error e) s') { s with heap := h₁, toks := k₁ } := by
        intro h₁ l₁ ep₁ k₁ hD₁ hs₁ hc₁ hcat
        refine wpAny_bind (wp_slice hx fun tk k₂ => ?_)
        refine wpAny_bind (wp_seqItems hD₁ rfl ?_)
        have he : x.cps.extract 0 0 = #[] := by simp
        show wpAny _ _ (if (strValues l₁).toArray.isEmpty = true then _ else _) _ _ _
        by_cases hem : (strValues l₁).toArray.isEmpty = true
        · rw [if_pos hem]
          refine wpAny_bind (wpAny_pure (wpAny_pure ?_))
          have hl0 : l₁ = [] := by
            cases l₁ with
            | nil => rfl
            | cons p q => cases hem
          refine hR h₁ _ _ _ ?_ hs₁
          rw [hs0, ← hcat, hl0, he]
          rfl
        · rw [if_neg hem, he]
          refine wpAny_bind (SC.join (D := D) (l := l₁) ⟨_, hD₁, rfl, _, rfl⟩ rfl ?_ fun t' k' => ?_)
          · refine joinOk_of ?_
            rw [sum_cat]
            show (cat l₁).length + _ * 0 ≤ _
            omega
          · refine wpAny_pure (hR h₁ _ _ _ ?_ hs₁)
            rw [hs0, ← hcat, txt_join_cat]
      have hlen : (x.cps.extract pos x.cps.size).toList.length ≤ 1000 := by
        rw [Array.length_toList, Array.size_extract]
        have : x.cps.size ≤ 1000 := hx
        omega
      have hx' : x.cps.size ≤ 1000 := hx
      by_cases hlt : pos < x.cps.size
      · show wpAny _ _ (if pos < x.cps.size then _ else _) _ _ _
        rw [if_pos hlt]
        refine wpAny_bind (wp_slice hx fun tk k₂ => ?_)
        refine wpAny_bind (wp_push (s := { s with toks := k₂ }) hD (by omega) fun h' hs hD' => ?_)
        refine last h' _ _ _ hD' hs ?_ ?_
        · rw [cat_append, cat_one, List.length_append]
          show _ + (x.cps.extract pos x.cps.size).toList.length ≤ _
          omega
        · rw [cat_append, cat_one]; rfl
      · show wpAny _ _ (if pos < x.cps.size then _ else _) _ _ _
        rw [if_neg hlt]
        refine last s.heap l ep s.toks hD ⟨rfl, fun _ _ => rfl⟩ (by omega) ?_
        have : x.cps.extract pos x.cps.size = #[] := by
          apply Array.eq_empty_of_size_eq_zero
          rw [Array.size_extract]
          omega
        rw [this]
        simp
    | some pe =>
      obtain ⟨p, e⟩ := pe
      rw [hn] at hm
      obtain ⟨m1, m2, m3, m4, m5, m6⟩ := hm
      refine .inl ⟨m1, ?_⟩
      have hx' : x.cps.size ≤ 1000 := hx
      have hr' : r.cps.size ≤ 10 := hr
      have hs0 : subL next x.cps r.cps.toList (f + 1) pos = (x.cps.extract pos p).toList ++ r.cps.toList ++ subL next x.cps r.cps.toList f e := by rw [subL, hn]
      -- the replacement goes onto the list; then the next turn
      have last : ∀ (h₁ : Heap) (l₁ : List (Str × Tok)) (ep₁ k₁ : Nat), h₁.get? D = some { cls := .type "list", data := .seq (strValues l₁).toArray ep₁ } → Heap.SameBut D s.heap h₁ →
          cat l₁ = cat l ++ (x.cps.extract pos p).toList → l₁.length ≤ l.length + 1 →
          wpAny (model prog w) (A.under (.builtin "re.Pattern.sub.loop" (loopArgs a D x t r tr n pos tn td ts must)))
            (updateSeq D (fun xs => xs.push (.str r tr)) >>= fun _ => again (.builtin "re.Pattern.sub.loop" (loopArgs a D x t r tr (n + 1) e 0 0 0 (m'.handed == m'.start))))
            (fun fin s' => match fin with | .done f => R (.ok f) s' | .again c' => c'.quiet = true ∧ codeAny (model prog w) A c' R s') (fun e s' => R (.error e) s') { s with heap := h₁, toks := k₁ } := by
        intro h₁ l₁ ep₁ k₁ hD₁ hs₁ hcat hl₁
        refine wpAny_bind (wp_push hD₁ (by omega) fun h' hs hD' => ?_)
        have hs2 : Heap.SameBut D s.heap h' := ⟨hs.1.trans hs₁.1, fun b hb => (hs.2 b hb).trans (hs₁.2 b hb)⟩
        refine wpAny_pure ⟨plainId_quiet (by decide +kernel) _, ?_⟩
        have hlp : (x.cps.extract pos p).toList.length = p - pos := by
          rw [Array.length_toList, Array.size_extract]
          omega
        refine ih { s with heap := h', toks := k₁ } (n + 1) e 0 0 0 (m'.handed == m'.start) (l₁ ++ [(r, tr)]) _ (by omega) m6 (P.same hD hs2) haD hD' ?_ ?_ fun h'' y t' k' hy hs'' => hR h'' y t' k' ?_ ⟨hs''.1.trans hs2.1, fun b hb => (hs''.2 b hb).trans (hs2.2 b hb)⟩
        · have hrl : r.cps.toList.length = r.cps.size := Array.length_toList
          rw [cat_append, cat_one, hcat, List.length_append, List.length_append, hlp, hrl]
          omega
        · rw [List.length_append]
          show l₁.length + 1 ≤ _
          omega
        · rw [hy, hs0, cat_append, cat_one, hcat]
          simp only [List.append_assoc]
      subst m3
      by_cases hlt : pos < p
      · show wpAny _ _ (if pos < m'.start then _ else _) _ _ _
        rw [if_pos (by omega)]
        refine wpAny_bind (wp_slice hx fun tk k₂ => ?_)
        refine wpAny_bind (wp_push (s := { s with toks := k₂ }) hD (by omega) fun h' hs hD' => ?_)
        refine last h' _ _ _ hD' hs ?_ ?_
        · rw [cat_append, cat_one, m2]; rfl
        · rw [List.length_append]
          exact Nat.le_refl _
      · show wpAny _ _ (if pos < m'.start then _ else _) _ _ _
        rw [if_neg (by omega)]
        refine last s.heap l ep s.toks hD ⟨rfl, fun _ _ => rfl⟩ ?_ (by omega)
        have : x.cps.extract pos p = #[] := by
          apply Array.eq_empty_of_size_eq_zero
          rw [Array.size_extract]
          omega
        rw [this]
        simp
end Mine

end
section
open PySem PySem.W PySem.Builtin PySem.Builtin.Re PySem.Calls PyProof.Rows
namespace Mine
set_option maxRecDepth 100000

theorem special_call_str : typeLookup (.type "str") "__call__" = pure none := by rw [typeLookup_type, builtinLookup_eq_fast]; kernel_rfl

theorem sub_call {prog : Program} {w : World} {A : Around} {E : Value → Shared → Prop} {s : Shared} {Q : Value → Shared → Prop} {h₀ : Heap} {L : Addr} {m : Str → Option Value} {news : List (Addr × Obj)}
    {a : Addr} {code : Array Nat} {x r : Str} {t tr : Tok} {next : Nat → Option (Nat × Nat)} (F : Fr h₀ L s.heap m) (N : News h₀ L s.heap news) (P₀ : PatAt h₀ a code)
    (hF : Finds code x.cps next) (hx : x.length ≤ 1000) (hr : r.length ≤ 10) (hb : r.cps.contains 92 = false)
    (h : ∀ h' y t' k, y.cps.toList = subL next x.cps r.cps.toList (x.length + 1) 0 → Fr h₀ L h' m → News h₀ L h' news → Q (.str y t') { s with heap := h', toks := k }) :
    wpAny (model prog w) A (call (.builtin "re.Pattern.sub") [.ref a, .str r tr, .str x t]) Q E s := by
  have P : PatAt s.heap a code := P₀.keeps F.keep
  have hT : s.TypeIs (.ref a) "re.Pattern" := by
    obtain ⟨o, px, py, c, oc, xs, n, h1, h2, _⟩ := P
    exact ⟨o, h1, h2⟩
  refine wpAny_call (codeAny_call_builtin slot_rePattern_sub.plain entry_rePattern_sub (slot_rePattern_sub.check _ _ _ _ _ _ _ _ hT (args_rePattern_sub_3 _ _ _) ?_))
  unfold Builtin.«re.Pattern.sub» reSubstitute
  refine wpAny_bind (wpAny_of_eq (a := [some (.str r tr), some (.str x t), none]) rfl ?_)
  refine wpAny_bind (wpAny_pure ?_)
  refine wpAny_bind (wpAny_specialOf (typeIs_str _ _ _) special_call_str ?_)
  dsimp only
  rw [if_neg (by decide)]
  refine wpAny_bind (wpAny_pure ?_)
  dsimp only
  rw [hb]
  refine wpAny_bind (wpAny_pure ?_)
  rw [if_neg (by decide), if_pos (by decide)]
  refine wpAny_bind (wpAny_pure ?_)
  refine wpAny_bind (wpAny_holding (wp_wholeTarget P ?_))
  rw [if_neg (by exact Bool.false_ne_true)]
  refine wpAny_bind ?_
  refine newList_K F N (fun D h' F' N' hD => ?_) (by rw [sizeLine_eq]; exact Nat.zero_le _)
  refine wpAny_pure ⟨plainId_quiet (by decide +kernel) _, ?_⟩
  have hD' : h'.get? D = some { cls := .type "list", data := .seq (strValues []).toArray 0 } := (N' _ (.head _)).1
  have P' : PatAt h' a code := P₀.keeps F'.keep
  have haD : a ≠ D := by
    rintro rfl
    obtain ⟨o, px, py, c, oc, xs, n, h1, h2, _⟩ := P'
    rw [h1] at hD'
    rw [Option.some.inj hD'] at h2
    exact absurd (Value.type.inj h2) (by decide)
  refine sub_loop hF hx hr (x.length + 1) { s with heap := h' } 0 0 0 0 0 false [] 0 (by show x.length < _; omega) (Nat.zero_le _) P' haD hD' (Nat.zero_le _) (Nat.zero_le _) fun h'' y t' k hy hs => ?_
  have z := N' _ (.head _)
  refine h h'' y t' k hy (F'.change hs z.2.1 z.2.2) fun p hp => ?_
  have zp := N' p (.tail _ hp)
  exact ⟨(hs.2 _ (Nat.ne_of_lt (hD p hp))).trans zp.1, zp.2⟩
end Mine

end
section
open PySem
namespace Mine

/-- every end of a line becomes 13, 10; the flag: a 13 stands before -/
noncomputable def normB (after : Bool) : List Nat → List Nat
  | [] => []
  | c :: r => if c = 10 then (if after = true then normB false r else 13 :: 10 :: normB false r) else if c = 13 then 13 :: 10 :: normB true r else c :: normB false r
noncomputable abbrev norm (l : List Nat) : List Nat := normB false l
theorem normB_true : ∀ {l : List Nat}, (∀ r, l ≠ 10 :: r) → normB true l = normB false l
  | [], _ => rfl
  | c :: r, h => by
    have : c ≠ 10 := fun e => h r (by rw [e])
    simp only [normB, if_neg this]

noncomputable def dotted (start : Bool) : List Nat → List Nat
  | [] => []
  | c :: r => if start = true ∧ c = 46 then 46 :: 46 :: dotted false r else c :: dotted (c == 10) r

theorem drop_cons (t : Array Nat) (s : Nat) (h : s < t.size) : t.toList.drop s = t.getD s 0 :: t.toList.drop (s + 1) := by
  rw [List.drop_eq_getElem_cons (by simpa using h)]
  simp [Array.getD, h]

theorem subL_end {next : Nat → Option (Nat × Nat)} {t : Array Nat} {r : List Nat} {f : Nat} (h : next t.size = none) : subL next t r f t.size = [] := by
  cases f with
  | zero => rfl
  | succ f => rw [subL, h]; simp

theorem extract_cons (t : Array Nat) (s p : Nat) (h : s < p) (hp : p ≤ t.size) : (t.extract s p).toList = t.getD s 0 :: (t.extract (s + 1) p).toList := by
  have hs : s < t.size := by omega
  rw [Array.toList_extract, Array.toList_extract, List.extract_eq_take_drop, List.extract_eq_take_drop, drop_cons t s hs, show p - s = (p - (s + 1)) + 1 by omega, List.take_succ_cons]

theorem subL_skip {next : Nat → Option (Nat × Nat)} {t : Array Nat} {r : List Nat} {f s : Nat} (hs : s < t.size) (h : next s = next (s + 1)) (hp : ∀ p e, next (s + 1) = some (p, e) → s + 1 ≤ p ∧ p ≤ t.size) :
    subL next t r (f + 1) s = t.getD s 0 :: subL next t r (f + 1) (s + 1) := by
  rw [subL, subL, h]
  cases hn : next (s + 1) with
  | none => exact extract_cons t s _ hs (Nat.le_refl _)
  | some pe =>
    obtain ⟨p, e⟩ := pe
    have := hp p e hn
    dsimp only
    rw [extract_cons t s p (by omega) this.2]
    rfl

noncomputable def next1 (t : Array Nat) (s : Nat) : Option (Nat × Nat) := (find1 t t.size (t.size + 1 - s) s).map fun p => (p, p + 1)
noncomputable def next2 (t : Array Nat) (s : Nat) : Option (Nat × Nat) := (find2 t t.size (t.size + 1 - s) s).map fun p => (p, p + len2 t t.size p)

theorem find1_some (t : Array Nat) (n : Nat) : ∀ f s p, find1 t n f s = some p → s ≤ p ∧ p < n := by
  intro f
  induction f with
  | zero => intro s p h; cases h
  | succ f ih =>
    intro s p h
    unfold find1 at h
    split at h
    · rename_i hh
      cases h
      exact ⟨Nat.le_refl _, hh.2.1⟩
    · have := ih _ _ h
      exact ⟨by omega, this.2⟩

theorem len2_le (t : Array Nat) (n p : Nat) (h : p < n) : 1 ≤ len2 t n p ∧ p + len2 t n p ≤ n := by
  unfold len2
  split
  · rename_i h
    omega
  · omega

theorem finds1 (t : Array Nat) (ht : t.size ≤ 1000) : Finds code1 t (next1 t) := by
  intro s must hs
  obtain ⟨k, m', hk, g, e⟩ := search1 t t.size s must hs
  refine ⟨k, m', by omega, g, ?_⟩
  unfold next1
  cases hf : find1 t t.size (t.size + 1 - s) s with
  | none => rw [hf] at e; exact e
  | some p =>
    rw [hf] at e
    obtain ⟨h1, h2⟩ := find1_some _ _ _ _ _ hf
    exact ⟨e.1, e.2.1, e.2.2, h1, by omega, by omega⟩

theorem finds2 (t : Array Nat) : Finds code2 t (next2 t) := by
  intro s must hs
  obtain ⟨k, m', hk, g, e⟩ := search2 t t.size s must hs
  refine ⟨k, m', by omega, g, ?_⟩
  unfold next2
  cases hf : find2 t t.size (t.size + 1 - s) s with
  | none => rw [hf] at e; exact e
  | some p =>
    rw [hf] at e
    obtain ⟨h1, h2, _⟩ := find2_some _ _ _ _ _ hf
    have := len2_le t t.size p h2
    exact ⟨e.1, e.2.1, e.2.2, h1, by omega, by omega⟩

theorem next1_end (t : Array Nat) : next1 t t.size = none := by
  unfold next1
  rw [show t.size + 1 - t.size = 0 + 1 by omega, find1, if_neg (fun h => Nat.lt_irrefl _ h.2.1)]
  rfl
theorem next2_end (t : Array Nat) : next2 t t.size = none := by
  unfold next2
  rw [show t.size + 1 - t.size = 0 + 1 by omega, find2, if_neg (Nat.lt_irrefl _)]
  rfl

theorem sub1 (t : Array Nat) : ∀ d s f, t.size - s = d → t.size < s + f → s ≤ t.size → subL (next1 t) t [46, 46] f s = dotted (s == 0 || t.getD (s - 1) 0 == 10) (t.toList.drop s) := by
  intro d
  induction d with
  | zero =>
    intro s f h1 h2 h3
    have : s = t.size := by omega
    subst this
    rw [subL_end (next1_end t), List.drop_eq_nil_of_le (by simp)]
    rfl
  | succ d ih =>
    intro s f h1 h2 h3
    have hs : s < t.size := by omega
    obtain ⟨f, rfl⟩ : ∃ f', f = f' + 1 := ⟨f - 1, by omega⟩
    have e1 : (s + 1 == 0 || t.getD (s + 1 - 1) 0 == 10) = (t.getD s 0 == 10) := by simp
    rw [drop_cons t s hs, dotted]
    by_cases h : (s == 0 || t.getD (s - 1) 0 == 10) = true ∧ t.getD s 0 = 46
    · rw [if_pos h]
      have hn : next1 t s = some (s, s + 1) := by
        unfold next1
        rw [show t.size + 1 - s = (t.size - s) + 1 by omega, find1, if_pos ⟨h.1, hs, by rw [beq_iff_eq]; exact h.2⟩]
        rfl
      rw [subL, hn]
      have := ih (s + 1) f (by omega) (by omega) (by omega)
      rw [e1, h.2] at this
      show (t.extract s s).toList ++ [46, 46] ++ subL (next1 t) t [46, 46] f (s + 1) = _
      rw [this]
      simp
    · rw [if_neg h]
      have hn : next1 t s = next1 t (s + 1) := by
        unfold next1
        rw [show t.size + 1 - s = (t.size + 1 - (s + 1)) + 1 by omega]
        rw [find1, if_neg (fun h' => h ⟨h'.1, by simpa using h'.2.2⟩)]
      rw [subL_skip hs hn, ih (s + 1) (f + 1) (by omega) (by omega) (by omega), e1]
      intro p e hpe
      unfold next1 at hpe
      cases hf : find1 t t.size (t.size + 1 - (s + 1)) (s + 1) with
      | none => rw [hf] at hpe; cases hpe
      | some q =>
        rw [hf] at hpe
        cases hpe
        have := find1_some _ _ _ _ _ hf
        omega

theorem sub2 (t : Array Nat) : ∀ d s f, t.size - s ≤ d → t.size < s + f → s ≤ t.size → subL (next2 t) t [13, 10] f s = norm (t.toList.drop s) := by
  intro d
  induction d with
  | zero =>
    intro s f h1 h2 h3
    have : s = t.size := by omega
    subst this
    rw [subL_end (next2_end t), List.drop_eq_nil_of_le (by simp)]; rfl
  | succ d ih =>
    intro s f h1 h2 h3
    by_cases hs : s < t.size
    · obtain ⟨f, rfl⟩ : ∃ f', f = f' + 1 := ⟨f - 1, by omega⟩
      rw [drop_cons t s hs]; unfold norm; rw [normB]
      by_cases h : (t.getD s 0 == 10 || t.getD s 0 == 13) = true
      · have hn : next2 t s = some (s, s + len2 t t.size s) := by
          unfold next2
          rw [show t.size + 1 - s = (t.size - s) + 1 by omega, find2, if_pos hs, if_pos h]
          rfl
        have hl := len2_le t t.size s hs
        rw [subL, hn]
        show (t.extract s s).toList ++ [13, 10] ++ subL (next2 t) t [13, 10] f (s + len2 t t.size s) = _
        rw [ih (s + len2 t t.size s) f (by omega) (by omega) (by omega)]
        by_cases h13 : t.getD s 0 = 13
        · have hne : ¬ t.getD s 0 = 10 := by omega
          rw [if_neg hne, if_pos h13]
          by_cases h10 : s + 1 < t.size ∧ t.getD (s + 1) 0 = 10
          · have e : len2 t t.size s = 2 := by
              unfold len2
              rw [if_pos ⟨by rw [beq_iff_eq]; exact h13, h10.1, by rw [beq_iff_eq]; exact h10.2⟩]
            rw [e, drop_cons t (s + 1) h10.1, h10.2]
            simp [normB]
          · have e : len2 t t.size s = 1 := by
              unfold len2
              rw [if_neg fun h => h10 ⟨h.2.1, by simpa using h.2.2⟩]
            rw [e]
            have : ∀ r', t.toList.drop (s + 1) ≠ 10 :: r' := by
              intro r' hr
              by_cases hlt : s + 1 < t.size
              · rw [drop_cons t (s + 1) hlt] at hr
                exact h10 ⟨hlt, (List.cons.inj hr).1⟩
              · rw [List.drop_eq_nil_of_le (by simp; omega)] at hr
                cases hr
            rw [normB_true this]
            simp
        · have h10 : t.getD s 0 = 10 := by
            simp only [Bool.or_eq_true, beq_iff_eq] at h
            omega
          rw [if_pos h10, if_neg Bool.false_ne_true]
          have e : len2 t t.size s = 1 := by
            unfold len2
            rw [if_neg fun h => h13 (by simpa using h.1)]
          rw [e]
          simp
      · have h' : t.getD s 0 ≠ 10 ∧ t.getD s 0 ≠ 13 := by
          simp only [Bool.or_eq_true, beq_iff_eq] at h
          omega
        rw [if_neg h'.1, if_neg h'.2]
        have hn : next2 t s = next2 t (s + 1) := by
          unfold next2
          rw [show t.size + 1 - s = (t.size + 1 - (s + 1)) + 1 by omega]
          rw [find2, if_pos hs, if_neg h]
        rw [subL_skip hs hn, ih (s + 1) (f + 1) (by omega) (by omega) (by omega)]
        intro p e hpe
        unfold next2 at hpe
        cases hf : find2 t t.size (t.size + 1 - (s + 1)) (s + 1) with
        | none => rw [hf] at hpe; cases hpe
        | some q =>
          rw [hf] at hpe
          cases hpe
          have := find2_some _ _ _ _ _ hf
          omega
    · have : s = t.size := by omega
      subst this
      rw [subL_end (next2_end t), List.drop_eq_nil_of_le (by simp)]; rfl

/-- what quotedata makes of a text -/
noncomputable def quoted (t : List Nat) : List Nat := dotted true (norm t)

theorem sub1_whole (x : Str) : subL (next1 x.cps) x.cps [46, 46] (x.length + 1) 0 = dotted true x.cps.toList := by
  rw [sub1 x.cps _ 0 _ rfl (by show x.length < _; omega) (Nat.zero_le _)]
  rfl
theorem sub2_whole (x : Str) : subL (next2 x.cps) x.cps [13, 10] (x.length + 1) 0 = norm x.cps.toList := by
  rw [sub2 x.cps _ 0 _ (Nat.le_refl _) (by show x.length < _; omega) (Nat.zero_le _)]
  rfl
end Mine

end
section
open PySem PySem.W PyProof.Rows
set_option Elab.async false
namespace Mine
set_option maxRecDepth 100000
set_option maxHeartbeats 8000000
open_top hd for PySem.Challenge.rw_sc0023_01
end Mine

end
section
open PySem PySem.W PySem.Calls PyProof.Rows
namespace Mine
set_option maxRecDepth 100000

abbrev LO : List Str := [Str.ofString "_twin_re_1", Str.ofString "_twin_re_2", Str.ofString "_sre"]
noncomputable abbrev PG : Program := PySem.Challenge.rw_sc0023_01.prog

theorem pat1 {w : World} {h : Heap} (X : (Mine.hd.heap_39 w.params).In h) : PatAt h 57 code1 :=
  ⟨⟨_, _, _, _, _, _, _, X 57 _ rfl, rfl, rfl, rfl, X 56 _ rfl, rfl, rfl, by decide +kernel⟩⟩
theorem pat2 {w : World} {h : Heap} (X : (Mine.hd.heap_39 w.params).In h) : PatAt h 62 code2 :=
  ⟨⟨_, _, _, _, _, _, _, X 62 _ rfl, rfl, rfl, rfl, X 61 _ rfl, rfl, rfl, by decide +kernel⟩⟩

theorem get_sub {M : Model} {A : Around} {E : Value → Shared → Prop} {s : Shared} {h₀ : Heap} {L a : Addr} {m : Str → Option Value} {code : Array Nat} {pl : Sem Bool} {Q : Value × List Value → Shared → Prop}
    (F : Fr h₀ L s.heap m) (P : PatAt h₀ a code) (h : Q (.builtin "re.Pattern.sub", [.ref a]) s) : wpAny M A (getMethod (.ref a) (Str.ofString "sub") pl) Q E s := by
  obtain ⟨o, px, py, c, oc, xs, n, h1, h2, h3, _⟩ := P.keeps F.keep
  exact getMethod_builtin ⟨o, h1, h2⟩ plainAttrs_rePattern slot_rePattern_sub type_rePattern_sub (fun a' e => by cases e; exact ⟨o, h1, h3⟩) h


section
variable {prog : Program} {w : World} {A : Around} {E : Value → Shared → Prop} {s : Shared} {Q : Value → Shared → Prop} {h₀ : Heap} {L : Addr} {m : Str → Option Value} {news : List (Addr × Obj)} {x r : Str} {t tr : Tok}
theorem call_norm (F : Fr h₀ L s.heap m) (N : News h₀ L s.heap news) (X : (Mine.hd.heap_39 w.params).In h₀) (hx : x.length ≤ 1000) (hr : r = ⟨#[13, 10]⟩)
    (h : ∀ h' t' k, Fr h₀ L h' m → News h₀ L h' news → Q (.str ⟨(norm x.cps.toList).toArray⟩ t') { s with heap := h', toks := k }) :
    wpAny (model prog w) A (call (.builtin "re.Pattern.sub") [.ref 62, .str r tr, .str x t]) Q E s := by
  subst hr
  refine sub_call F N (pat2 X) (finds2 x.cps) hx (by decide) (by decide +kernel) fun h' y t' k hy F' N' => ?_
  have e : y = ⟨(norm x.cps.toList).toArray⟩ := by
    have : y.cps.toList = norm x.cps.toList := hy.trans (sub2_whole x)
    cases y
    rw [← this]
  rw [e]
  exact h h' t' k F' N'
theorem call_dotted (F : Fr h₀ L s.heap m) (N : News h₀ L s.heap news) (X : (Mine.hd.heap_39 w.params).In h₀) (hx : x.length ≤ 1000) (hr : r = ⟨#[46, 46]⟩)
    (h : ∀ h' t' k, Fr h₀ L h' m → News h₀ L h' news → Q (.str ⟨(dotted true x.cps.toList).toArray⟩ t') { s with heap := h', toks := k }) :
    wpAny (model prog w) A (call (.builtin "re.Pattern.sub") [.ref 57, .str r tr, .str x t]) Q E s := by
  subst hr
  refine sub_call F N (pat1 X) (finds1 x.cps hx) hx (by decide) (by decide +kernel) fun h' y t' k hy F' N' => ?_
  have e : y = ⟨(dotted true x.cps.toList).toArray⟩ := by
    have : y.cps.toList = dotted true x.cps.toList := hy.trans (sub1_whole x)
    cases y
    rw [← this]
  rw [e]
  exact h h' t' k F' N'
end
theorem norm_length : ∀ (b : Bool) (l : List Nat), (normB b l).length ≤ 2 * l.length
  | _, [] => Nat.le_refl _
  | b, c :: r => by
    have h1 := norm_length false r
    have h2 := norm_length true r
    unfold normB
    (repeat' split) <;> simp only [List.length_cons] <;> omega

/-- a call of the def at f, told for every state: what it needs, what it gives back -/
abbrev Tell (d : Nat) (prog : Program) (w : World) (f : Addr) (news : List (Addr × Obj)) (vs : List Value) (ret : (Heap → List (Addr × Obj) → Prop) → (Value → Heap → Nat → Prop) → Prop) : Prop :=
  ∀ (p : Program) (loose : List Str) (mean : ExcName → Option Value) (mg mb : Str → Option Value) (dp un : Nat) (gd : Option (List Code)) (cn : Str) (cs : Scope) (a : Addr) (ccd : Value) (cl : List (Str × Addr)) (outer : List Env) (A₀ : Around) (base h₀ : Heap) (L : Addr) (m : Str → Option Value) (s : Shared) (Q E : Value → Shared → Prop),
    p = Mine.hd.view_39 → loose = LO →
    Below A₀ base outer h₀ → Fr h₀ L s.heap m → (Mine.hd.heap_39 w.params).In h₀ → News h₀ L s.heap news → Top p loose mean mg mb h₀ → cs.kind = .function → dp + d < recursionLimit → un + 100 * d < cLine →
    ret (fun h' news' => Fr h₀ L h' m ∧ News h₀ L h' news') (fun v h' k => Q v { s with heap := h', toks := k }) →
    wpAny (model prog w) (ktrTop dp un gd cn cs L a ccd cl outer) (call (.ref f) vs) Q E s
def Stop (P : Prop) : Prop := P
theorem Stop.of {P : Prop} (h : Stop P) : P := h
end Mine

end
section
open PySem PySem.W PySem.Calls PyProof.Rows
set_option Elab.async false
namespace Mine
set_option maxRecDepth 100000

noncomputable def quotedStr (x : Str) : Str := ⟨(quoted x.cps.toList).toArray⟩

local macro_rules | `(tactic| walk_at "getMethod ref") => `(tactic| (k_here; (with_reducible show wpAny _ _ (getMethod (Value.ref _) (PySem.Str.ofString "sub") _) _ _ _); first | refine get_sub (by k_asm) (pat1 (by k_asm)) ?_ | refine get_sub (by k_asm) (pat2 (by k_asm)) ?_))

local macro_rules | `(tactic| walk_at "call builtin:re.Pattern.sub") => `(tactic| (k_here; first
  | (refine call_norm (by k_asm) (by k_asm) (by k_asm) ?hx (by decide +kernel) ?_; (case hx => omega); intro h' t' k' F' N')
  | (refine call_dotted (by k_asm) (by k_asm) (by k_asm) ?hx (by decide +kernel) ?_; (case hx => assumption); intro h' t' k' F' N')))

set_option maxHeartbeats 8000000 in
theorem quotedata_tells (w : World) (news : List (Addr × Obj)) (x : Str) (tx : Tok) (hx : x.length ≤ 400) :
    Tell 1 PG w 69 news [.str x tx] fun FN Q => ∀ h' t k, FN h' news → Q (.str (quotedStr x) t) h' k := by
  have kf : Mine.hd.heap_39 = Mine.hd.heap_39 ∧ PySem.Challenge.rw_sc0023_01 = PySem.Challenge.rw_sc0023_01 := by k_fill; exact ⟨rfl, rfl⟩
  clear kf
  intro p loose mean mg mb dp un gd cn cs a ccd cl outer A₀ base h₀ L m s Q E hp hl B F X N T hk hd hu ret
  subst hp hl
  have hn : Str.length ⟨(norm x.cps.toList).toArray⟩ ≤ 1000 := by
    have := norm_length false x.cps.toList
    have h2 : x.cps.toList.length = x.length := Array.length_toList
    show (normB false x.cps.toList).toArray.size ≤ 1000
    rw [List.size_toArray]
    omega
  refine wpAny_call ?_
  k_dflt cell_enter
  k_steps
  exact ret _ _ _ ⟨by k_asm, by k_asm⟩
end Mine

end
section
open PySem PySem.W PySem.Calls PyProof.Rows
set_option Elab.async false
namespace Mine
set_option maxRecDepth 100000

def singleB (x : Int) : Bool := if x = 0 then false else Builtin.bitAnd x (x - 1) == 0
def highI (x : Int) : Int := (Builtin.Int.intBits x : Int) - 1

set_option maxHeartbeats 8000000 in
theorem single_tells (w : World) (news : List (Addr × Obj)) (x : Int) (tx : Tok) :
    Tell 1 PG w 38 news [.int x tx] fun FN Q => ∀ h' k, FN h' news → Q (.bool (singleB x)) h' k := by
  have kf : Mine.hd.heap_39 = Mine.hd.heap_39 ∧ PySem.Challenge.rw_sc0023_01 = PySem.Challenge.rw_sc0023_01 := by k_fill; exact ⟨rfl, rfl⟩
  clear kf
  intro p loose mean mg mb dp un gd cn cs a ccd cl outer A₀ base h₀ L m s Q E hp hl B F X N T hk hd hu ret
  subst hp hl
  refine wpAny_call ?_
  k_dflt cell_enter
  k_steps
  · have e : singleB x = false := by unfold singleB; split <;> first | rfl | (exfalso; simp_all; done) | omega
    rw [e] at ret
    exact ret _ _ ⟨by k_asm, by k_asm⟩
  · have e : singleB x = (Builtin.bitAnd x (x - 1) == 0) := by unfold singleB; split <;> first | rfl | (exfalso; simp_all; done) | omega
    rw [e] at ret
    exact ret _ _ ⟨by k_asm, by k_asm⟩

set_option maxHeartbeats 8000000 in
theorem high_tells (w : World) (news : List (Addr × Obj)) (x : Int) (tx : Tok) :
    Tell 1 PG w 52 news [.int x tx] fun FN Q => ∀ h' t k, FN h' news → Q (.int (highI x) t) h' k := by
  have kf : Mine.hd.heap_39 = Mine.hd.heap_39 ∧ PySem.Challenge.rw_sc0023_01 = PySem.Challenge.rw_sc0023_01 := by k_fill; exact ⟨rfl, rfl⟩
  clear kf
  intro p loose mean mg mb dp un gd cn cs a ccd cl outer A₀ base h₀ L m s Q E hp hl B F X N T hk hd hu ret
  subst hp hl
  refine wpAny_call ?_
  k_dflt cell_enter
  k_steps
  exact ret _ _ _ ⟨by k_asm, by k_asm⟩
end Mine

end
section
open PySem PySem.W PySem.Calls PyProof.Rows
namespace Mine
set_option maxRecDepth 100000

def map2 (m : Str → Option Value) (xj xl : Str) (vj vl : Option Value) : Str → Option Value := fun y => if y = xl then vl else if y = xj then vj else m y
theorem map2_start (m : Str → Option Value) (xj xl : Str) : map2 m xj xl (m xj) (m xl) = m := by
  funext y
  unfold map2
  by_cases h1 : y = xl
  · rw [if_pos h1, h1]
  · rw [if_neg h1]
    by_cases h2 : y = xj
    · rw [if_pos h2, h2]
    · rw [if_neg h2]
theorem map2_again (m : Str → Option Value) (xj xl : Str) (vj vl : Option Value) (v u : Value) :
    (fun y => if y = xl then some v else if y = xj then some u else map2 m xj xl vj vl y) = map2 m xj xl (some u) (some v) := by
  funext y
  unfold map2
  by_cases h1 : y = xl
  · simp [h1]
  · by_cases h2 : y = xj
    · simp [h1, h2]
    · simp [h1, h2]

theorem for_enum_store {prog : Program} {w : World} {A : Around} {E : Value → Shared → Prop} {s : Shared} {env : Env} {h₀ : Heap} {elts : List Expr} {k : Nat} {pos : Pos} {body : List Stmt} {R : Result → Shared → Prop}
    {l : Addr} {vs : List Value} {ep : Nat} {m₀ : Str → Option Value} {news : List (Addr × Obj)}
    (hh : A.handled = none) (F : Fr h₀ env.locals s.heap m₀) (N : News h₀ env.locals s.heap ((l, listOf vs.toArray ep) :: news))
    (xj xl : Str) (J : Nat → List Value → Prop) (h0 : J 0 vs) (hJ : ∀ i xs, J i xs → xs.length = vs.length)
    (turn : ∀ i xs ep' (vj vl : Option Value) h tk T t x own, i < vs.length → xs[i]? = some x → J i xs → Fr h₀ env.locals h (map2 m₀ xj xl vj vl) → News h₀ env.locals h ((l, listOf xs.toArray ep') :: (own ++ news)) → h.IsTuple T #[.int (i : Int) t, x] →
      (∀ p ∈ own, p.1 ≠ l) →
      wpAny (model prog w) A (assign (.Tuple elts k pos) env (.ref T)) (fun _ s₂ => wpAny (model prog w) A (execs body env)
        (fun f s₃ => f = .next ∧ ∃ h' tk' vj₂ vl₂ xs₂ ep₂, s₃ = { s with heap := h', toks := tk' } ∧ Fr h₀ env.locals h' (map2 m₀ xj xl vj₂ vl₂) ∧ News h₀ env.locals h' ((l, listOf xs₂.toArray ep₂) :: (own ++ news)) ∧ J (i + 1) xs₂)
        (fun _ _ => False) s₂) (fun _ _ => False) { s with heap := h, toks := tk })
    (done : ∀ h tk xs ep' (vj vl : Option Value), J vs.length xs → Fr h₀ env.locals h (map2 m₀ xj xl vj vl) → News h₀ env.locals h ((l, listOf xs.toArray ep') :: news) → R (.ok .next) { s with heap := h, toks := tk }) :
    wpAny (model prog w) A (call (.type "enumerate") [.ref l]) (fun xv s₁ => wpAny (model prog w) A (pyIter xv) (fun it s₂ => codeAny (model prog w) A (.forLoop (.Tuple elts k pos) it body [] env) R s₂) E s₁) E s := by
  have hax := N _ (.head _)
  have hl : s.heap.IsList l vs.toArray := ⟨_, hax.1, rfl, ep, rfl⟩
  have hlt : @LT.lt Nat _ l s.heap.objs.size := Heap.lt_size hax.1
  have hLs : @LT.lt Nat _ env.locals s.heap.objs.size := F.ns.lt
  refine call_enumerate_list hl fun h' hE hI hsz hk => ?_
  refine wpAny_pyIter_enum hE ?_
  generalize hIe : s.heap.objs.size = I at *
  have hnewI : h₀.get? I = none := by rw [← hIe]; exact ktu_new F (Nat.le_refl _)
  have hnewE : h₀.get? (I + 1) = none := by rw [← hIe]; exact ktu_new F (Nat.le_add_right _ _)
  have off2 : ∀ b : Nat, @LT.lt Nat _ b I → b ∉ [I + 1, I] := fun b hb hm => by
    rcases List.mem_cons.mp hm with e | hm
    · exact absurd e (Nat.ne_of_lt (Nat.lt_succ_of_lt hb))
    · exact absurd (List.mem_singleton.mp hm) (Nat.ne_of_lt hb)
  have offL : env.locals ∉ [I + 1, I] := off2 _ hLs
  have offl : l ∉ [I + 1, I] := off2 _ hlt
  have offN : ∀ p ∈ news, p.1 ∉ [I + 1, I] := fun p hp => by
    have := Heap.lt_size (N p (.tail _ hp)).1
    rw [hIe] at this
    exact off2 _ this
  have old : ∀ b o, h₀.get? b = some o → b ∉ [I + 1, I] := fun b o e hb => by
    simp only [List.mem_cons, List.not_mem_nil, or_false] at hb
    rcases hb with rfl | rfl
    · rw [hnewE] at e; cases e
    · rw [hnewI] at e; cases e
  refine codeAny_forLoop_any
    (fun kk s' => ∃ (h' : Heap) (tk : Nat) (vj vl : Option Value) (xs : List Value) (ep' : Nat) (i : Nat), s' = { s with heap := h', toks := tk } ∧ (∃ o, IsEnum h' (I + 1) I i o) ∧ h'.IsListIter I l i ∧ Fr h₀ env.locals h' (map2 m₀ xj xl vj vl) ∧ News h₀ env.locals h' ((l, listOf xs.toArray ep') :: news) ∧ J i xs ∧ i ≤ vs.length ∧ kk = vs.length + 1 - i) ?_ (vs.length + 1)
    ⟨h', s.toks, m₀ xj, m₀ xl, vs, ep, 0, rfl, ⟨_, hE⟩, hI, by rw [map2_start]; exact F.keeps hk, N.grown hk, h0, Nat.zero_le _, rfl⟩
  rintro kk s' ⟨h', tk, vj, vl, xs, ep', i, rfl, hE', hI', F', N', hJ', hi, rfl⟩
  have hlen := hJ _ _ hJ'
  have W := WalksT.enumerate (prog := prog) (w := w) hh (I + 1) I l (Nat.succ_ne_self _) (Nat.ne_of_lt (Nat.lt_succ_of_lt hlt)) (Nat.ne_of_lt hlt) xs.toArray
  have next : ∀ h₁ : Heap, (∀ b o, b ∉ [I + 1, I] → h'.get? b = some o → h₁.get? b = some o) → Fr h₀ env.locals h₁ (map2 m₀ xj xl vj vl) ∧ News h₀ env.locals h₁ ((l, listOf xs.toArray ep') :: news) := fun h₁ hk₁ =>
    ⟨⟨F'.ns.at' fun o e => hk₁ _ o offL e, fun b o e => hk₁ b o (old b o e) (F'.keep b o e), F'.above⟩, fun p hp => ⟨hk₁ _ _ (by
      rcases List.mem_cons.mp hp with rfl | hp
      · exact offl
      · exact offN p hp) (N' p hp).1, (N' p hp).2⟩⟩
  have hl' : h'.IsList l xs.toArray := ⟨_, (N' _ (.head _)).1, rfl, ep', rfl⟩
  by_cases hin : i < vs.length
  · refine W.item i _ _ _ (by rw [List.size_toArray, hlen]; exact hin) ⟨hE', hI', hl'⟩ fun T vals h₁ tk₁ hP _ hT hMd hk₁ => ?_
    refine W.go elts k pos i T _ _ _ hMd fun h₂ hst₂ hk₂ => ?_
    obtain ⟨t, x, hx, rfl⟩ := hP
    obtain ⟨F₂, N₂⟩ := next h₂ fun b o hb x => hk₂ b o hb (hk₁ b o hb x)
    obtain ⟨⟨oE, hE₂⟩, hI₂, hl₂⟩ := hst₂
    have hT₂ : h₂.IsTuple T #[.int (i : Int) t, x] := hT.at fun o e => hk₂ T o (W.apart i T _ hMd) e
    obtain ⟨oi, hoi, hic, hid⟩ := id hI₂
    have hE₃ : ∃ oe : Obj, h₂.get? (I + 1) = some oe ∧ IsEnum h₂ (I + 1) I ((i : Int) + 1) oE := ⟨_, hE₂, hE₂⟩
    obtain ⟨oe, hoe, _⟩ := hE₃
    have N₃ : News h₀ env.locals h₂ ((l, listOf xs.toArray ep') :: ([(I + 1, oe), (I, oi)] ++ news)) := fun p hp => by
      rcases List.mem_cons.mp hp with rfl | hp
      · exact N₂ _ (.head _)
      · rcases List.mem_append.mp hp with hp | hp
        · rcases List.mem_cons.mp hp with rfl | hp
          · exact ⟨hoe, Ne.symm (Nat.ne_of_lt (Nat.lt_succ_of_lt hLs)), hnewE⟩
          · rw [List.mem_singleton.mp hp]
            exact ⟨hoi, Ne.symm (Nat.ne_of_lt hLs), hnewI⟩
        · exact N₂ _ (.tail _ hp)
    refine wpAny_mono (turn i xs ep' vj vl h₂ tk₁ T t x [(I + 1, oe), (I, oi)] hin (by simpa using hx) hJ' F₂ N₃ hT₂ ?_) (fun _ s₂ h₂' => wpAny_mono h₂' (fun f s₃ h₃ => ?_) fun _ _ e => e.elim) fun _ _ e => e.elim
    · intro p hp
      rcases List.mem_cons.mp hp with rfl | hp
      · exact Ne.symm (Nat.ne_of_lt (Nat.lt_succ_of_lt hlt))
      · rw [List.mem_singleton.mp hp]
        exact Ne.symm (Nat.ne_of_lt hlt)
    · obtain ⟨rfl, h₄, tk₄, vj₄, vl₄, xs₄, ep₄, rfl, F₄, N₄, hJ₄⟩ := h₃
      have g1 : h₄.get? (I + 1) = some oe := (N₄ (I + 1, oe) (.tail _ (List.mem_append_left _ (.head _)))).1
      have g2 : h₄.get? I = some oi := (N₄ (I, oi) (.tail _ (List.mem_append_left _ (.tail _ (.head _))))).1
      refine ⟨vs.length + 1 - (i + 1), by omega, h₄, tk₄, vj₄, vl₄, xs₄, ep₄, i + 1, rfl, ⟨oE, ?_⟩, ⟨oi, g2, hic, hid⟩, F₄, fun p hp => N₄ p ?_, hJ₄, hin, rfl⟩
      · show h₄.get? (I + 1) = _
        rw [g1, ← hoe]
        exact hE₂
      · rcases List.mem_cons.mp hp with rfl | hp
        · exact .head _
        · exact .tail _ (List.mem_append_right _ hp)
  · have hin' : i = vs.length := by omega
    subst hin'
    refine W.done _ _ _ ⟨by rw [List.size_toArray, hlen]; exact hE', by rw [List.size_toArray, hlen]; exact hI', hl'⟩ fun h₁ tk₁ hk₁ => wpAny_execs_nil ?_
    obtain ⟨F₁, N₁⟩ := next h₁ hk₁
    exact done h₁ tk₁ xs ep' vj vl hJ' F₁ N₁
end Mine

end
section
open PySem PySem.W PySem.Calls PyProof.Rows
namespace Mine
set_option maxRecDepth 100000

theorem strsAre_get {xs : List Value} {ys : List Str} (h : StrsAre xs ys) : ∀ {i : Nat} {x : Value}, xs[i]? = some x → ∃ y u, ys[i]? = some y ∧ x = .str y u := by
  induction h with
  | nil => intro i x hx; simp at hx
  | cons y t _ ih =>
    intro i x hx
    cases i with
    | zero =>
      have e : Value.str y t = x := by simpa using hx
      exact ⟨y, t, rfl, e.symm⟩
    | succ i =>
      exact ih (by simpa using hx)
theorem strsAre_len {xs : List Value} {ys : List Str} (h : StrsAre xs ys) : xs.length = ys.length := by
  induction h with
  | nil => rfl
  | cons y t _ ih => simp [ih]
theorem strsAre_set {xs : List Value} {ys : List Str} (h : StrsAre xs ys) (z : Str) (t : Tok) : ∀ (i : Nat), StrsAre (xs.set i (.str z t)) (ys.set i z) := by
  induction h with
  | nil => intro i; exact .nil
  | cons y u h ih =>
    intro i
    cases i with
    | zero => exact .cons z t h
    | succ i => exact .cons y u (ih i)

abbrev cut (k : Nat) (x : Str) : Str := Txt.slice x (some (k : Int)) none
abbrev upTo (k : Nat) (ls : List Str) (i : Nat) : List Str := (ls.take i).map (cut k) ++ ls.drop i
theorem upTo_zero (k : Nat) (ls : List Str) : upTo k ls 0 = ls := by simp [upTo]
theorem upTo_all (k : Nat) (ls : List Str) : upTo k ls ls.length = ls.map (cut k) := by simp [upTo]
theorem upTo_len (k : Nat) (ls : List Str) (i : Nat) : (upTo k ls i).length = ls.length := by simp [upTo]; omega
theorem upTo_get {k : Nat} {ls : List Str} {i : Nat} (h : i < ls.length) : (upTo k ls i)[i]? = ls[i]? := by
  unfold upTo
  rw [List.getElem?_append_right (by simp; omega)]
  simp [Nat.min_eq_left (Nat.le_of_lt h)]
theorem upTo_next {k : Nat} {ls : List Str} {i : Nat} {y : Str} (h : ls[i]? = some y) : (upTo k ls i).set i (cut k y) = upTo k ls (i + 1) := by
  obtain ⟨hi, e⟩ := List.getElem?_eq_some_iff.mp h
  unfold upTo
  have hd : ls.drop i = y :: ls.drop (i + 1) := by rw [List.drop_eq_getElem_cons hi, e]
  rw [List.set_append_right _ _ (by simp; omega), hd, List.take_add_one, h]
  simp [Nat.min_eq_left (Nat.le_of_lt hi)]

theorem signs_eq (x : Str) : signs x = x.cps.toList.map fun c => (⟨#[c]⟩ : Str) := by
  unfold signs
  rfl

theorem find_at {α : Type} (p : α × Nat → Bool) : ∀ (k : Nat) (n : Nat) (b c : α) (rest : List α), (∀ j, p (b, j) = false) → p (c, n + k) = true →
    ((List.replicate k b ++ c :: rest).zipIdx n).find? p = some (c, n + k)
  | 0, n, b, c, rest, _, hc => by
    rw [Nat.add_zero] at hc ⊢
    rw [List.replicate_zero, List.nil_append, List.zipIdx_cons, List.find?_cons, hc]
  | k + 1, n, b, c, rest, hb, hc => by
    rw [List.replicate_succ, List.cons_append, List.zipIdx_cons, List.find?_cons, hb]
    have := find_at p k (n + 1) b c rest hb (by rw [show n + 1 + k = n + (k + 1) by omega]; exact hc)
    rw [show n + 1 + k = n + (k + 1) by omega] at this
    exact this

theorem blank_eq : ((⟨#[32]⟩ : Str) != Str.ofString " ") = false := by decide +kernel
theorem blank_ne : ((⟨#[9]⟩ : Str) != Str.ofString " ") = true := by decide +kernel

theorem find_blank {x a : Str} {i k : Nat} {rest : List Nat} (h0 : x.cps.toList = List.replicate k 32 ++ 9 :: rest) (h : (signs x).zipIdx.find? (fun p => p.1 != Str.ofString " ") = some (a, i)) : i = k := by
  rw [signs_eq, h0, List.map_append, List.map_replicate, List.map_cons] at h
  have := find_at (fun p : Str × Nat => p.1 != Str.ofString " ") k 0 ⟨#[32]⟩ ⟨#[9]⟩ (rest.map fun c => (⟨#[c]⟩ : Str)) (fun j => blank_eq) blank_ne
  rw [this] at h
  have e := congrArg Prod.snd (Option.some.inj h)
  simpa using e.symm
theorem find_none {x : Str} {k : Nat} {rest : List Nat} (h0 : x.cps.toList = List.replicate k 32 ++ 9 :: rest) (h : ∀ p ∈ (signs x).zipIdx, (p.1 != Str.ofString " ") = false) : False := by
  rw [signs_eq, h0, List.map_append, List.map_replicate, List.map_cons] at h
  have := find_at (fun p : Str × Nat => p.1 != Str.ofString " ") k 0 ⟨#[32]⟩ ⟨#[9]⟩ (rest.map fun c => (⟨#[c]⟩ : Str)) (fun j => blank_eq) blank_ne
  have hm := List.mem_of_find?_eq_some this
  exact absurd (h _ hm) (by rw [show ((({ cps := #[9] } : Str), 0 + k).1 != Str.ofString " ") = true from blank_ne]; exact Bool.noConfusion)

section
variable {prog : Program} {w : World} {A : Around} {E : Value → Shared → Prop} {s : Shared} {h₀ : Heap} {L D : Addr} {m : Str → Option Value} {news : List (Addr × Obj)} {xs : List Value} {ep i : Nat} {t : Tok} {v : Value} {Q : Unit → Shared → Prop}
theorem set_at (F : Fr h₀ L s.heap m) (N : News h₀ L s.heap ((D, listOf xs.toArray ep) :: news)) (hoff : ∀ p ∈ news, p.1 ≠ D) (hi : i < xs.length) (hs : xs.length ≤ 1000)
    (h : ∀ h', Fr h₀ L h' m → News h₀ L h' ((D, listOf (xs.set i v).toArray ep) :: news) → Q () { s with heap := h' }) :
    wpAny (model prog w) A (setItem (.ref D) (.int (i : Int) t) v) Q E s := by
  have z := N _ (.head _)
  refine ki_setAt z.1 (by omega) (by omega) (by rw [List.size_toArray]; omega) ?_
  have e : (xs.toArray.setIfInBounds i v) = (xs.set i v).toArray := by
    apply Array.toList_inj.mp
    simp
  have hs' : Heap.SameBut D s.heap (s.heap.update D (Obj.mapSeq (·.setIfInBounds (i : Int).toNat v))) := Heap.SameBut.update ..
  have hg : (s.heap.update D (Obj.mapSeq (·.setIfInBounds (i : Int).toNat v))).get? D = some (listOf (xs.set i v).toArray ep) := by
    have e2 : Obj.mapSeq (·.setIfInBounds (i : Int).toNat v) (listOf xs.toArray ep) = listOf (xs.set i v).toArray ep := by
      rw [Int.toNat_natCast]
      show (⟨_, _, .seq (xs.toArray.setIfInBounds i v) (if (xs.toArray.setIfInBounds i v).size == xs.toArray.size then ep else ep + 1), _⟩ : Obj) = _
      rw [e]
      simp
    rw [Heap.get?_update_self _ z.1 (by rw [e2]; rfl), e2]
  refine h _ (F.change hs' z.2.1 z.2.2) fun p hp => ?_
  rcases List.mem_cons.mp hp with rfl | hp
  · exact ⟨hg, z.2⟩
  · exact ⟨(hs'.2 _ (hoff p hp)).trans (N p (.tail _ hp)).1, (N p (.tail _ hp)).2⟩
end
end Mine

end
section
open PySem PySem.W PySem.Calls PyProof.Rows
set_option Elab.async false
namespace Mine
set_option maxRecDepth 100000


local macro_rules | `(tactic| walk_at "call builtin:str.split") => `(tactic| (k_here; (with_reducible show wpAny _ _ (call (Value.builtin "str.split") _) _ _ _); (rename Txt.split _ _ = _ => hSp); (refine KSpl.split1 (by k_asm) (by k_asm) (by decide) ?_ ?hsz; (case hsz => (rw [sizeLine_eq]; omega)); (intro D' l' h' k' e' a' F' N' l1; (have l2 := l1); (try k_lt l1); rw [hSp] at e'; kspl_open e'; (simp only [strValues, List.map_cons, List.map_nil] at N' a')))))
local macro_rules | `(tactic| walk_at "exec For Tuple Call") => `(tactic| (k_here; (with_reducible show wpAny _ _ (exec (Stmt.For _ (PySem.Expr.Call _ (PySem.Expr.Name _ _ :: _) _ _) _ _ _) _) _ _ _); with_unfolding_all refine' wpAny_For ?xx ?yy; (case yy => with_unfolding_all (intro _; rfl))))
local macro_rules | `(tactic| walk_at "call type:enumerate") => `(tactic| (k_here; (with_reducible show wpAny _ _ (call (Value.type _) [Value.ref _]) _ _ _); refine Stop.of ?_))
local macro_rules | `(tactic| size_fits) => `(tactic| (with_reducible assumption))

set_option maxHeartbeats 1000000 in
theorem dedent_tells (w : World) (news : List (Addr × Obj)) (x l0 l1 l2 l3 l4 : Str) (tx : Tok) (kk : Nat) (rest : List Nat) (hx : x.length ≤ 1000) (hs : Txt.split x (Str.ofString "\n") = [l0, l1, l2, l3, l4])
    (h0 : l0.cps.toList = List.replicate kk 32 ++ 9 :: rest) (hls : ∀ y ∈ [l0, l1, l2, l3, l4], y.length ≤ 1000) :
    Tell 1 PG w 45 news [.str x tx] fun FN Q => ∀ h' t k, FN h' news → Q (.str (Txt.join (Str.ofString "\n") ([l0, l1, l2, l3, l4].map (cut kk))) t) h' k := by
  have kf : Mine.hd.heap_39 = Mine.hd.heap_39 ∧ PySem.Challenge.rw_sc0023_01 = PySem.Challenge.rw_sc0023_01 := by k_fill; exact ⟨rfl, rfl⟩
  clear kf
  intro p loose mean mg mb dp un gd cn cs a ccd cl outer A₀ base h₀ L m s Q E hp hl B F X N T hk hd hu ret
  subst hp hl
  refine wpAny_call ?_
  k_dflt cell_enter
  k_steps
  · unfold Stop
    rename List.find? _ _ = some _ => hFd
    have hik := (find_blank h0 hFd).symm
    subst hik
    clear hFd
    with_unfolding_all refine' for_enum_store ?hh ?F ?N (Str.ofString "j") (Str.ofString "l") (fun i xs => StrsAre xs (upTo kk [l0, l1, l2, l3, l4] i)) ?h0 ?hJ ?turn ?done
    case hh => rfl
    case F => k_asm
    case N =>
      rename News _ _ _ (_ ++ _) => hN2
      exact fun p hp => hN2 p (List.mem_append_right _ hp)
    case h0 =>
      exact .cons _ _ (.cons _ _ (.cons _ _ (.cons _ _ (.cons _ _ .nil))))
    case hJ =>
      intro i xs h
      rw [strsAre_len h, upTo_len]
      rfl
    case turn =>
      rename ∀ p ∈ news, p.1 < _ => hnl
      intro i xs ep' vj vl h tk T t x own hlt hxi hJ F₁ N₁ hT hoff
      obtain ⟨y, u, hy, rfl⟩ := strsAre_get hJ hxi
      rw [upTo_get (by simpa using hlt)] at hy
      have hyl : y.length ≤ 1000 := hls y (List.mem_of_getElem? hy)
      have hyz : y.length ≤ sizeLine := by rw [sizeLine_eq]; omega
      clear hyl
      have hoff2 : ∀ p ∈ own ++ news, p.1 ≠ _ := fun p hp => (List.mem_append.mp hp).elim (hoff p) fun hp => Nat.ne_of_lt (hnl p hp)
      have hxl : xs.length = 5 := by rw [strsAre_len hJ, upTo_len]; rfl
      k_steps
      refine set_at (by k_asm) (by k_asm) hoff2 (by rw [hxl]; exact hlt) (by rw [hxl]; decide) fun h' F' N' => ?_
      dsimp only
      refine wpAny_execs_nil ?_
      refine' ⟨rfl, h', _, ?vj, ?vl, _, _, rfl, ?fr, N', ?J⟩
      case fr =>
        have F2 := F'
        rw [map2_again] at F2
        exact F2
      case J =>
        show StrsAre (xs.set i (.str (cut kk y) _)) (upTo kk [l0, l1, l2, l3, l4] (i + 1))
        rw [← upTo_next hy]
        exact strsAre_set hJ _ _ i
    case done => 
      intro h tk xs ep' vj vl hJ F₁ N₁
      dsimp only
      have hJ2 : StrsAre xs ([l0, l1, l2, l3, l4].map (cut kk)) := by rw [← upTo_all]; exact hJ
      k_steps
      refine join_list ⟨_, (N₁ _ (.head _)).1, rfl, _, rfl⟩ hJ2 ?hok fun t' k' => ?_
      case hok =>
        have hc : ∀ y ∈ [l0, l1, l2, l3, l4], (cut kk y).length ≤ 1000 := fun y hy => Nat.le_trans (PyProof.Txt.length_slice_le y _ _) (hls y hy)
        have c0 := hc l0 (.head _)
        have c1 := hc l1 (.tail _ (.head _))
        have c2 := hc l2 (.tail _ (.tail _ (.head _)))
        have c3 := hc l3 (.tail _ (.tail _ (.tail _ (.head _))))
        have c4 := hc l4 (.tail _ (.tail _ (.tail _ (.tail _ (.head _)))))
        have hn : (Str.ofString "\n").length = 1 := by decide +kernel
        rw [hn]
        simp only [List.map_cons, List.map_nil, List.sum_cons, List.sum_nil, List.length_cons, List.length_nil]
        omega
      k_steps
      exact ret _ _ _ ⟨by k_asm, cb_drop (by k_asm) fun p hp => .tail _ hp⟩
  · unfold Stop
    rename ∀ p ∈ List.zipIdx _, _ = false => hFd
    exact (find_none h0 hFd).elim
end Mine

end
section
open PySem PySem.W PySem.Calls PyProof.Rows PySem.Spec
set_option Elab.async false
namespace Mine
set_option maxRecDepth 100000

section
variable {prog : Program} {w : World} {A₀ A : Around} {s : Shared} {base h₀ : Heap} {outer : List Env} {L : Addr} {m : Str → Option Value} {env : Env} {K : Frag} {p : Program} {loose : List Str} {mean : ExcName → Option Value} {mg mb : Str → Option Value}
  {R : Result → Shared → Prop} {name qual : Str} {params : Arguments} {body : List Stmt} {scope : Scope} {dV kV doc pm cdv ct oc : Value} {an od : Option Addr} {osl : Array (Option Value)} {f : Addr} {args : Args} {binds : List (Str × Value)}

/-- a def is entered; all that lies in the heap at the call is its ground -/
theorem enter_plain (B : Below A₀ base outer h₀) (F : Fr h₀ L s.heap m) (X₀ : K.In h₀) (T : Top p loose mean mg mb h₀) (hA : A.frames = some (env :: outer)) (hf : env.frame = some L) (hke : env.scope.kind = .function)
    (ho : K.lookup f = some ⟨oc, od, .func (fnOf name qual params body scope dV kV doc pm an cdv ct), osl⟩) (hcd : codeIn K cdv qual = true) (hroom : A.depth < recursionLimit)
    (hbind : BindsTo s (fnOf name qual params body scope dV kV doc pm an cdv ct) args binds) (hloc : ∀ y ∈ binds, scope.names.lookup y.1 = some .local)
    (h : ∀ L' h₁, Fr s.heap L' h₁ (fun y => binds.reverse.lookup y) → News s.heap L' h₁ [] → Below A base (env :: outer) s.heap → K.In s.heap → Top p loose mean mg mb s.heap →
      wpAny (model prog w) (A.deeper (envOf qual scope L' f cdv)) (execs body (envOf qual scope L' f cdv))
        (fun fl s' => R (.ok (.ret (match fl with | .ret v => v | _ => .none))) s')
        (fun e s' => wpAny (model prog w) (A.deeper (envOf qual scope L' f cdv)) (leaving (envOf qual scope L' f cdv) e) (fun _ s'' => R (.error e) s'') (fun e' s'' => R (.error e') s'') s')
        { s with heap := h₁, toks := s.toks + binds.length })
    (hcell : ∀ x ∈ scope.names, x.2 ≠ .cell) (hco : scope.isCoroutine = false) (hgen : scope.isGenerator = false) (hk : scope.kind = .function) : codeAny (model prog w) A (.call (.ref f) args) R s := by
  obtain ⟨_, BG, _, _⟩ := groundX (R := R) B F (News.nil) hA hf hke
  refine codeAny_call_def (fd := fnX name qual params body scope [] dV kV doc pm an cdv ct) (body := body) (binds := binds) hroom ((X₀.keeps F.keep) _ _ ho) rfl (T.nolimit.keeps F.keep) (codeRec_of (X₀.keeps F.keep) hcd) rfl hbind hcell hloc (fun h₁ hns hk₁ => ?_) hco hgen hk
  exact h s.heap.objs.size h₁ ⟨hns, fun b o e => hk₁ b o e, Nat.le_refl _⟩ News.nil BG (X₀.keeps F.keep) (T.keeps F.keep)

theorem enter_cells (B : Below A₀ base outer h₀) (F : Fr h₀ L s.heap m) (X₀ : K.In h₀) (T : Top p loose mean mg mb h₀) (hA : A.frames = some (env :: outer)) (hf : env.frame = some L) (hke : env.scope.kind = .function)
    (ho : K.lookup f = some ⟨oc, od, .func (fnOf name qual params body scope dV kV doc pm an cdv ct), osl⟩) (hcd : codeIn K cdv qual = true) (hroom : A.depth < recursionLimit)
    (hbind : BindsTo s (fnOf name qual params body scope dV kV doc pm an cdv ct) args binds) (hkind : (binds.all fun y => scope.names.lookup y.1 == some .local || scope.names.lookup y.1 == some .cell) = true)
    (hnd : ((cellsFrom 0 scope.names []).map (·.1)).Nodup)
    (h : ∀ L' h₁ tk cells, Fr s.heap L' h₁ (bindL (envOfC qual scope L' f cdv).kindOf binds fun _ => none) → News s.heap L' h₁ (cells ++ []) →
      CellsAre (bindC (envOfC qual scope L' f cdv).kindOf binds fun _ => none) (cellsFrom (L' + 1) scope.names []) cells → Below A base (env :: outer) s.heap → K.In s.heap → Top p loose mean mg mb s.heap →
      wpAny (model prog w) (A.deeper (envOfC qual scope L' f cdv)) (execs body (envOfC qual scope L' f cdv))
        (fun fl s' => R (.ok (.ret (match fl with | .ret v => v | _ => .none))) s')
        (fun e s' => wpAny (model prog w) (A.deeper (envOfC qual scope L' f cdv)) (leaving (envOfC qual scope L' f cdv) e) (fun _ s'' => R (.error e) s'') (fun e' s'' => R (.error e') s'') s')
        { s with heap := h₁, toks := tk })
    (hco : scope.isCoroutine = false) (hgen : scope.isGenerator = false) (hk : scope.kind = .function) : codeAny (model prog w) A (.call (.ref f) args) R s := by
  obtain ⟨_, BG, _, _⟩ := groundX (R := R) B F (News.nil) hA hf hke
  refine codeAny_call_function hroom ((X₀.keeps F.keep) _ _ ho) rfl hco hgen rfl (codeRec_of (X₀.keeps F.keep) hcd) (hbind _ _ _ _ ?_)
  refine wpAny_newFunctionEnv_cells hk (kindsX hkind _) fun env' he s' x => ?_
  subst he
  refine ⟨(T.nolimit.keeps F.keep).keeps x.toInCall.keep, codeAny_func ?_⟩
  obtain ⟨h₁, tk, rfl, _⟩ := x.done
  have hk₁ := x.toInCall.keep
  obtain ⟨cells, NC, Y⟩ := Cl.news (h₀ := s.heap) (Nat.le_refl _) fun n c hm => ⟨x.cell n c (lookup_of_mem_nodup (cellsFrom_names scope.names 0 (s.heap.objs.size + 1) [] [] rfl ▸ hnd) hm), x.above n c hm⟩
  exact h s.heap.objs.size h₁ tk cells ⟨x.toInCall.ns, fun b o e => hk₁ b o e, Nat.le_refl _⟩ (by rw [List.append_nil]; exact NC) Y BG (X₀.keeps F.keep) (T.keeps F.keep)
end

/-- a call of the def at f, told for every state: it changes nothing that lies in the heap -/
abbrev TellG (d : Nat) (prog : Program) (w : World) (f : Addr) (vs : List Value) (pre : Heap → Prop) (ret : Heap → (Heap → Prop) → (Value → Heap → Nat → Prop) → Prop) : Prop :=
  ∀ (p : Program) (loose : List Str) (mean : ExcName → Option Value) (mg mb : Str → Option Value) (dp un : Nat) (gd : Option (List Code)) (cn : Str) (cs : Scope) (a : Addr) (ccd : Value) (cl : List (Str × Addr)) (outer : List Env) (A₀ : Around) (base h₀ : Heap) (L : Addr) (m : Str → Option Value) (s : Shared) (Q E : Value → Shared → Prop),
    p = Mine.hd.view_39 → loose = LO →
    Below A₀ base outer h₀ → Fr h₀ L s.heap m → (Mine.hd.heap_39 w.params).In h₀ → Top p loose mean mg mb h₀ → cs.kind = .function → dp + d < recursionLimit → un + 500 * d < cLine → pre s.heap →
    ret s.heap (fun h' => ∀ b o, s.heap.get? b = some o → h'.get? b = some o) (fun v h' k => Q v { s with heap := h', toks := k }) →
    wpAny (model prog w) (ktrTop dp un gd cn cs L a ccd cl outer) (call (.ref f) vs) Q E s
end Mine

end
section
open PySem PySem.W PySem.Calls PyProof.Rows
namespace Mine
set_option maxRecDepth 100000

section
variable {prog : Program} {w : World} {A : Around} {E : Value → Shared → Prop} {s : Shared} {x y : Str} {t u : Tok} {Q : Value → Shared → Prop} {K L : Nat}
theorem addB (hx : x.length ≤ K) (hy : y.length ≤ L) (hs : K + L ≤ 16777216) (h : ∀ t' k, (x ++ y).length ≤ K + L → Q (.str (x ++ y) t') { s with toks := k }) : wpAny (model prog w) A (binaryOp .Add (.str x t) (.str y u)) Q E s :=
  KXadd.add hx hy hs fun t' k hl => h t' k (by omega)

theorem mul_list : ∀ (n : Nat) (x acc : Array Nat), ((List.replicate n x).foldl (· ++ ·) acc).toList = acc.toList ++ (List.replicate n x.toList).flatten := by
  intro n
  induction n with
  | zero => intro x acc; simp
  | succ n ih => intro x acc; rw [List.replicate_succ, List.foldl_cons, ih]; simp [List.replicate_succ]

theorem txt_mul (c : Nat) (n : Int) (h : 0 ≤ n) : (Txt.mul ⟨#[c]⟩ n).cps.toList = List.replicate n.toNat c := by
  unfold Txt.mul
  by_cases h0 : n < 1
  · have : n = 0 := by omega
    subst this
    rfl
  · rw [if_neg h0]
    by_cases h1 : (n == 1 || Str.length ⟨#[c]⟩ == 0) = true
    · rw [if_pos h1]
      have : n = 1 := by
        simp only [Bool.or_eq_true, beq_iff_eq] at h1
        rcases h1 with h1 | h1
        · exact h1
        · exact absurd h1 (by show (1 : Nat) ≠ 0; decide)
      subst this
      rfl
    · rw [if_neg h1, mul_list]
      simp

theorem mulB {c : Nat} {n : Int} {N : Nat} (h0 : 0 ≤ n) (hn : n ≤ (N : Int)) (hN : N ≤ 1000) (h : ∀ t' k, (Txt.mul ⟨#[c]⟩ n).length ≤ N → Q (.str (Txt.mul ⟨#[c]⟩ n) t') { s with toks := k }) :
    wpAny (model prog w) A (binaryOp .Mult (.str ⟨#[c]⟩ t) (.int n u)) Q E s := by
  refine SB.mul ⟨by simp; omega, fun h1 _ h2 => ?_, fun _ _ => ?_⟩ fun t' k => h t' k ?_
  · have e : (Str.length ⟨#[c]⟩ : Int) = 1 := rfl
    rw [e] at h2
    have : (2 ^ 63 - 1) / n ≥ 1 := by
      rw [ge_iff_le, Int.le_ediv_iff_mul_le (by omega)]
      omega
    omega
  · show decide (_ > sizeLine) = false
    have e : Str.length ⟨#[c]⟩ = 1 := rfl
    rw [e, sizeLine_eq]
    simp
    omega
  · have := congrArg List.length (txt_mul c n h0)
    rw [List.length_replicate, Array.length_toList] at this
    show (Txt.mul ⟨#[c]⟩ n).cps.size ≤ N
    omega
theorem mulX {c : Nat} {n : Int} {N : Nat} (hx : x = ⟨#[c]⟩) (h0 : 0 ≤ n) (hn : n ≤ (N : Int)) (hN : N ≤ 1000) (h : ∀ t' k, (Txt.mul x n).length ≤ N → Q (.str (Txt.mul x n) t') { s with toks := k }) :
    wpAny (model prog w) A (binaryOp .Mult (.str x t) (.int n u)) Q E s := by
  subst hx
  exact mulB h0 hn hN h
theorem item_at {value slice : Expr} {h₀ : Heap} {L l : Addr} {m : Str → Option Value} {vs : List Value} {k : Int} {u : Tok} {v : Value} {Q : Value → Shared → Prop} (F : Fr h₀ L s.heap m) (hl₀ : h₀.IsList l vs.toArray) (h0 : 0 ≤ k) (hhi : k < 2 ^ 63) (hx : vs[k.toNat]? = some v) (h : Q v s)
    (hs : subscripted slice false (.ref l) (.int k u) = operate [.ref l, .int k u] (getItem (.ref l) (.int k u)) := by with_unfolding_all rfl) :
    wpAny (model prog w) A (subscriptTail value slice (.ref l) (.int k u)) Q E s := by
  have hl : s.heap.IsList l vs.toArray := hl₀.at fun o e => F.keep l o e
  exact tail_any hl.typeIs slot_list_getitem.lookup (wpAny_getItem_list hl h0 hhi (by simpa using hx) h) hs
end
section
variable {prog : Program} {w : World} {A : Around} {E : Value → Shared → Prop} {s : Shared}
theorem item_led {value slice : Expr} {h₀ : Heap} {L l : Addr} {news : List (Addr × Obj)} {vs : List Value} {n : Nat} {k : Int} {u : Tok} {v : Value} {Q : Value → Shared → Prop} (N : News h₀ L s.heap news) (hm : (l, listOf vs.toArray n) ∈ news) (h0 : 0 ≤ k) (hhi : k < 2 ^ 63) (hx : vs[k.toNat]? = some v) (h : Q v s)
    (hs : subscripted slice false (.ref l) (.int k u) = operate [.ref l, .int k u] (getItem (.ref l) (.int k u)) := by with_unfolding_all rfl) :
    wpAny (model prog w) A (subscriptTail value slice (.ref l) (.int k u)) Q E s := by
  have hl : s.heap.IsList l vs.toArray := ⟨_, (N _ hm).1, rfl, _, rfl⟩
  exact tail_any hl.typeIs slot_list_getitem.lookup (wpAny_getItem_list hl h0 hhi (by simpa using hx) h) hs
end


theorem lt63 {k : Int} (h : k < 1000) : k < 2 ^ 63 := Int.lt_trans h (by decide)
theorem len_pos {l : List Int} (h : l ≠ []) : (0 : Int) < (l.length : Int) := by
  cases l with
  | nil => exact absurd rfl h
  | cons a l => rw [List.length_cons]; omega

theorem news_head {g h : Heap} {L a : Addr} {o : Obj} {r : List (Addr × Obj)} (N : News g L h ((a, o) :: r)) : h.get? a = some o ∧ g.get? a = none := ⟨(N _ (.head _)).1, (N _ (.head _)).2.2⟩
theorem fr_keeps {g h : Heap} {L : Addr} {m : Str → Option Value} (F : Fr g L h m) : ∀ b o, g.get? b = some o → h.get? b = some o := F.keep

def writtenL (a b c : Int) : List Str := [Str.ofString "\t", Txt.mul (Str.ofString ".") a ++ Str.ofString "a", Txt.mul (Str.ofString ".") b ++ Str.ofString "\x0b\\", Txt.mul (Str.ofString ".") c ++ Str.ofString " \u0085", Str.ofString "."]
end Mine

end
section
open PySem PySem.W PySem.Calls PyProof.Rows
set_option Elab.async false
namespace Mine
set_option maxRecDepth 100000

local macro_rules | `(tactic| walk_at "enter G") => `(tactic| (refine' enter_cells ?k1 ?k2 ?k3 ?k5 ?kA ?kF ?kK ?k6 ?k7 ?k8 ?k9 ?kB ?kD ?_ ?c2 ?c3 ?c4; (case kA => exact rfl); (case kF => exact rfl); (case kK => assumption); (case k1 => k_asm); (case k2 => k_asm); (case k3 => k_asm); (case k5 => k_asm); (case k6 => k_is); (case k7 => k_is); (case k8 => ktr_room); (case k9 => exact BindsTo.of_eq rfl); (case kB => exact rfl); (case kD => decide +kernel); (case c2 => exact rfl); (case c3 => exact rfl); (case c4 => exact rfl); k_whole; intro L' h' tk' cells' F' N' Y' B' X' T'; k_cells Y'; (try simp only [List.cons_append, List.nil_append] at N'); (try dsimp only); (try k_fold)))

local macro_rules | `(tactic| walk_at "eval ListComp") => `(tactic| (k_here; k_dflt (refine LCg.ListComp_U (F₀ := by k_asm) (by with_unfolding_all rfl) (by decide) (by rfl) (by decide) (by rfl) ?_)))
local macro_rules | `(tactic| walk_at "CompSrc") => `(tactic| (k_here; k_dflt (refine LCg.CompSrc.range (by rfl) (by k_asm) (by k_asm) (by assumption) (by first | decide | rfl) (by first | rfl | decide) (by exact Nat.le_of_ble_eq_true rfl) ?_; intro g'; lcg_lit; (try dsimp only))))
local macro_rules | `(tactic| walk_at "subscriptTail Name Name ref int") => `(tactic| (k_here; k_dflt (refine' item_at ?F ?hl ?h0 ?h1 ?hx ?_ ?hs; (case F => k_asm); (case hl => assumption); (case hx => rfl); (case h0 => decide); (case h1 => decide); (case hs => with_unfolding_all rfl)); (try dsimp only)))
local macro_rules | `(tactic| walk_at "binaryOp Mult str int") => `(tactic| (refine mulX (c := 46) (N := 8) (by decide +kernel) ?h0 ?hn (by decide) ?_; (case h0 => omega); (case hn => omega); intro t' k' hl'))
local macro_rules | `(tactic| walk_at "binaryOp Add str str") => `(tactic| (refine addB (by first | with_reducible assumption | exact Nat.le_refl _) (by first | with_reducible assumption | exact Nat.le_refl _) (by decide +kernel) ?_; intro t' k' hl'))

set_option maxHeartbeats 1000000 in
theorem written_tells (w : World) (ld : Addr) (a b c : Int) (ta tb tc : Tok) (ha : 0 ≤ a ∧ a ≤ 8) (hb : 0 ≤ b ∧ b ≤ 8) (hc : 0 ≤ c ∧ c ≤ 8) :
    TellG 1 PG w 79 [.ref ld] (fun g => g.IsList ld #[.int a ta, .int b tb, .int c tc]) fun g keeps Q => ∀ h' l k xs ep, keeps h' → h'.get? l = some (listOf xs.toArray ep) → g.get? l = none → StrsAre xs (writtenL a b c) → Q (.ref l) h' k := by
  have kf : Mine.hd.heap_39 = Mine.hd.heap_39 ∧ PySem.Challenge.rw_sc0023_01 = PySem.Challenge.rw_sc0023_01 := by k_fill; exact ⟨rfl, rfl⟩
  clear kf
  intro p loose mean mg mb dp un gd cn cs a0 ccd cl outer A₀ base h₀ L m s Q E hp hl B F X T hk hd hu hpre ret
  subst hp hl
  obtain ⟨g, gens, drawn, toks, os⟩ := s
  dsimp only at F hpre ret
  refine wpAny_call ?_
  k_dflt walk_at "enter G"
  clear B F X T
  k_steps
  have hN := news_head (by k_asm)
  exact ret _ _ _ [_, _, _, _, _] _ (fr_keeps (by k_asm)) hN.1 hN.2 (.cons _ _ (.cons _ _ (.cons _ _ (.cons _ _ (.cons _ _ .nil)))))
end Mine

end
section
open PySem PySem.W PySem.Calls PyProof.Rows
namespace Mine
set_option maxRecDepth 100000

section
variable {prog : Program} {w : World} {A : Around} {h₀ : Heap} {L : Addr} {m : Str → Option Value} {env : Env} {ct elt : Expr} {x : Str} {scope : Scope} {cl : List (Str × Addr)} {s : Shared} {S : List (Addr × Obj) → Prop} {Fin : List Value → List (Addr × Obj) → Prop} {news : List (Addr × Obj)}

theorem ints_snoc {k : Int} {t : Tok} : ∀ {vs : List Value} {ns : List Int}, IntsAre vs ns → IntsAre (vs ++ [.int k t]) (ns ++ [k])
  | _, _, .nil => .cons _ _ .nil
  | _, _, .cons a b r => .cons a b (ints_snoc r)

/-- the end of a test within a comprehension: a truth value, nothing else -/
def TestEnd (h₀ : Heap) (L : Addr) (m : Str → Option Value) (s : Shared) (all : List (Addr × Obj)) (b : Bool) (ok : Bool) (s' : Shared) : Prop :=
  ok = b ∧ ∃ h' tk', s' = { s with heap := h', toks := tk' } ∧ Fr h₀ L h' m ∧ News h₀ L h' all

abbrev r3 : List Int := (List.range 3).map (fun i : Nat => (i : Int))
theorem head_in {p : Int → Bool} (h : decide (r3.filter p = []) = false) : 0 ≤ (r3.filter p).getD (Int.toNat 0) 0 ∧ (r3.filter p).getD (Int.toNat 0) 0 < 3 := by
  have h' := of_decide_eq_false h
  cases e : r3.filter p with
  | nil => exact absurd e h'
  | cons x l =>
    have hx : x ∈ r3.filter p := by rw [e]; exact .head _
    have hx2 := (List.mem_filter.mp hx).1
    have : x = 0 ∨ x = 1 ∨ x = 2 := by simpa [r3, List.range, List.range.loop] using hx2
    show 0 ≤ x ∧ x < 3
    omega
theorem head_lo {p : Int → Bool} (h : decide (r3.filter p = []) = false) : 0 ≤ (r3.filter p).getD (Int.toNat 0) 0 := (head_in h).1
theorem head_hi {p : Int → Bool} (h : decide (r3.filter p = []) = false) : (r3.filter p).getD (Int.toNat 0) 0 < 3 := (head_in h).2

/-- a test is named ahead of its comprehension -/
structure PTag (p : Int → Bool) : Prop where

theorem filt_range {n : Nat} {xpos : Pos} {p : Int → Bool} (_hP : PTag p) (he : elt = .Name x xpos) (hS : S news)
    (hk : ∀ C, (compEnvC scope cl C env).scope.kind = .function) (hl : ∀ C, (compEnvC scope cl C env).kindOf x = some .local) (hd : (x == ("__debug__" : Str)) = false)
    (turn : ∀ (k : Int) t I oI C oC D m₂ ys h tk (E' : Value → Shared → Prop), 0 ≤ k → k < (n : Int) → LCg.NsObj oC m₂ → m₂ x = some (.int k t) → Fr h₀ L h m → News h₀ L h ((I, oI) :: (C, oC) :: (D, LCg.lst ys) :: news) → LCg.Off3 I C D news → ((@Ne Nat I C) ∧ (@Ne Nat I D) ∧ (@Ne Nat C D)) →
      wpAny (model prog w) A (isTrue ct (compEnvC scope cl C env) (eval ct (compEnvC scope cl C env))) (TestEnd h₀ L m s ((I, oI) :: (C, oC) :: (D, LCg.lst ys) :: news) (p k)) E' { s with heap := h, toks := tk })
    (fin : ∀ ys, IntsAre ys (((List.range n).map (fun i : Nat => (i : Int))).filter p) → Fin ys news) : LCt.CompRestT prog w A h₀ L m env ct elt x scope cl s S (fun i v => ∃ t, v = .int (0 + (i : Int)) t) Fin n 0 [] news := by
  have key : ∀ (j i : Nat) (ys : List Value), i + j = n → IntsAre ys (((List.range i).map (fun i : Nat => (i : Int))).filter p) → LCt.CompRestT prog w A h₀ L m env ct elt x scope cl s S (fun i v => ∃ t, v = .int (0 + (i : Int)) t) Fin j i ys news := by
    intro j
    induction j with
    | zero =>
      intro i ys hi hy
      have e : i = n := by omega
      subst e
      exact LCt.CompRestT.zero (fin ys hy)
    | succ j ih =>
      intro i ys hi hy
      refine LCt.CompRestT.succ ?_
      intro v I oI C oC D m₂ h tk E' hv hC hx F N off ne
      obtain ⟨t, rfl⟩ := hv
      rw [Int.zero_add] at hx
      have hr : ((List.range (i + 1)).map (fun i : Nat => (i : Int))).filter p = ((List.range i).map (fun i : Nat => (i : Int))).filter p ++ (if p (i : Int) = true then [(i : Int)] else []) := by
        rw [List.range_succ, List.map_append, List.filter_append]
        congr 1
        simp only [List.map_cons, List.map_nil, List.filter_cons, List.filter_nil]
      refine wpAny_mono (turn (i : Int) t I oI C oC D m₂ ys h tk E' (by omega) (by omega) hC hx F N off ne) (fun ok s₂ hq => ?_) fun _ _ e => e
      obtain ⟨rfl, h', tk', rfl, F', N'⟩ := hq
      by_cases hp : p (i : Int) = true
      · rw [if_pos hp]
        subst he
        refine LCgL.ld_own N' (.tail _ (.head _)) hC hx ?_ (hk C) (hl C) hd
        refine ⟨h', tk', news, rfl, F', N', off, hS, ?_⟩
        refine ih (i + 1) _ (by omega) ?_
        rw [hr, if_pos hp]
        exact ints_snoc hy
      · rw [if_neg hp]
        refine ⟨h', tk', news, rfl, F', N', off, hS, ?_⟩
        refine ih (i + 1) _ (by omega) ?_
        rw [hr, if_neg hp, List.append_nil]
        exact hy
  exact key n 0 [] (by omega) (by simpa using IntsAre.nil)
end
end Mine

end
section
open PySem PySem.W PySem.Calls PyProof.Rows
set_option Elab.async false
namespace Mine
set_option maxRecDepth 100000

local macro_rules | `(tactic| walk_at "enter G") => `(tactic| (refine' enter_cells ?k1 ?k2 ?k3 ?k5 ?kA ?kF ?kK ?k6 ?k7 ?k8 ?k9 ?kB ?kD ?_ ?c2 ?c3 ?c4; (case kA => exact rfl); (case kF => exact rfl); (case kK => assumption); (case k1 => k_asm); (case k2 => k_asm); (case k3 => k_asm); (case k5 => k_asm); (case k6 => k_is); (case k7 => k_is); (case k8 => ktr_room); (case k9 => exact BindsTo.of_eq rfl); (case kB => exact rfl); (case kD => decide +kernel); (case c2 => exact rfl); (case c3 => exact rfl); (case c4 => exact rfl); k_whole; intro L' h' tk' cells' F' N' Y' B' X' T'; k_cells Y'; (try simp only [List.cons_append, List.nil_append] at N'); (try dsimp only); (try k_fold)))

local macro_rules | `(tactic| walk_at "call ref") => `(tactic| (k_here; k_dflt (refine' high_tells _ _ _ _ _ _ _ _ _ _ _ _ _ _ _ _ _ _ _ _ _ _ _ _ _ _ rfl rfl ?B ?F ?X ?N ?T rfl ?hd ?hu ?ret; (case B => k_asm); (case F => k_asm); (case X => k_asm); (case N => k_asm); (case T => k_asm); (case hd => ((try dsimp only [ktrTop, Around.deeper]); omega)); (case hu => ((try dsimp only [ktrTop, Around.deeper]); omega))); intro h' t' k' hFN; (obtain ⟨F', N'⟩ := hFN); refine Stop.of ?_))
local macro_rules | `(tactic| walk_at "subscriptTail Name Constant ref int") => `(tactic| (k_here; k_dflt (first | (refine' item_led ?N ?hm ?h0 ?h1 ?hx ?_ ?hs; (case N => k_asm); (case hm => k_mem); (case hx => rfl); (case h0 => decide); (case h1 => decide); (case hs => with_unfolding_all rfl)) | (refine' ksa_sub ?N ?hm ?hi ?h0 ?h1 ?hf ?_ ?hs; (case N => k_asm); (case hm => k_mem); (case hi => assumption); (case h0 => decide); (case h1 => exact len_pos (of_decide_eq_false (by assumption))); (case hf => decide); (case hs => with_unfolding_all rfl); intro t')); (try dsimp only)))

local macro_rules | `(tactic| walk_at "CompRestT") => `(tactic| (k_dflt ((refine' filt_range ?hP ?he ?hS ?hk ?hl ?hd ?_ ?_); (case hP => assumption); (case he => rfl); (case hS => trivial); (case hk => (intro _; rfl)); (case hl => (intro _; rfl)); (case hd => decide); (intro k' t' I' oI' C' oC' D' m' ys' h' tk' E' hk0' hk1' hC' hx' F' N' off' ne'); (have hk2' : k' < 3 := hk1'))))
local macro_rules | `(tactic| walk_at "TestEnd") => `(tactic| (k_dflt (unfold TestEnd; refine' ⟨?e, _, _, rfl, ?f, ?n⟩; (case f => k_asm); (case n => k_asm); (case e => rfl))))
local macro_rules | `(tactic| walk_at "subscriptTail Name Name ref int") => `(tactic| (k_here; k_dflt (refine' ksa_sub ?N ?hm ?hi ?h0 ?h1 ?hf ?_ ?hs; (case N => k_asm); (case hm => k_mem); (case hi => exact .cons _ _ (.cons _ _ (.cons _ _ .nil))); (case h0 => assumption); (case h1 => ((simp only [List.length_cons, List.length_nil]); omega)); (case hf => exact lt63 (by omega)); (case hs => with_unfolding_all rfl)); intro t'; (try dsimp only)))
local macro_rules | `(tactic| walk_at "compareOp Eq ref ref") => `(tactic| (k_here; (with_unfolding_all refine' eq_intsK ?k1 ?k2 ?k3 ?k4 ?k5 ?_; (case k1 => is_list); (case k2 => assumption); (case k3 => is_list); (case k4 => exact .nil); (case k5 => ((try dsimp only [ktrTop, Around.deeper]); omega)))))

local macro_rules | `(tactic| walk_at "subscriptTail Name Subscript ref int") => `(tactic| (k_here; k_dflt (refine' ksa_sub ?N ?hm ?hi ?h0 ?h1 ?hf ?_ ?hs; (case N => k_asm); (case hm => k_mem); (case hi => exact .cons _ _ (.cons _ _ (.cons _ _ .nil))); (case h0 => exact head_lo (by assumption)); (case h1 => exact head_hi (by assumption)); (case hf => exact lt63 (Int.lt_trans (head_hi (by assumption)) (by decide))); (case hs => with_unfolding_all rfl)); intro t'; (try dsimp only)))

abbrev leftI (a b c : Int) : Int := Builtin.bitXor (Builtin.bitXor (a.fmod 3) (b.fmod 3)) (c.fmod 3)
abbrev tstI (a b c j : Int) : Int → Bool := fun k => (([a.fmod 3, b.fmod 3, c.fmod 3].getD k.toNat 0).fdiv (2 ^ j.toNat)).fmod 2 == 1
/-- what _law_answer gives back -/
def answer (a b c : Int) : Int × Int :=
  if highI (leftI a b c) = -1 then (-1, 0)
  else if decide (r3.filter (tstI a b c (highI (leftI a b c))) = []) = true then (-1, 0)
  else ((r3.filter (tstI a b c (highI (leftI a b c)))).getD (Int.toNat 0) 0,
    [a.fmod 3, b.fmod 3, c.fmod 3].getD ((r3.filter (tstI a b c (highI (leftI a b c)))).getD (Int.toNat 0) 0).toNat 0 - Builtin.bitXor ([a.fmod 3, b.fmod 3, c.fmod 3].getD ((r3.filter (tstI a b c (highI (leftI a b c)))).getD (Int.toNat 0) 0).toNat 0) (leftI a b c))
theorem ans_m1 {a b c : Int} (e : highI (leftI a b c) = -1) : (-1, 0) = answer a b c := by
  unfold answer
  rw [if_pos e]
theorem ans_nil {a b c j : Int} (e : highI (leftI a b c) = j) (hj : j ≠ -1) (h : decide (r3.filter (tstI a b c j) = []) = true) : (-1, 0) = answer a b c := by
  unfold answer
  rw [e, if_neg hj, if_pos h]
theorem ans_cons {a b c j : Int} (e : highI (leftI a b c) = j) (hj : j ≠ -1) (h : decide (r3.filter (tstI a b c j) = []) = false) :
    ((r3.filter (tstI a b c j)).getD (Int.toNat 0) 0,
    [a.fmod 3, b.fmod 3, c.fmod 3].getD ((r3.filter (tstI a b c j)).getD (Int.toNat 0) 0).toNat 0 - Builtin.bitXor ([a.fmod 3, b.fmod 3, c.fmod 3].getD ((r3.filter (tstI a b c j)).getD (Int.toNat 0) 0).toNat 0) (leftI a b c)) = answer a b c := by
  unfold answer
  rw [e, if_neg hj, if_neg (by rw [h]; exact Bool.false_ne_true)]

theorem high3 (a b c : Int) : highI (Builtin.bitXor (Builtin.bitXor (a.fmod 3) (b.fmod 3)) (c.fmod 3)) = -1 ∨ highI (Builtin.bitXor (Builtin.bitXor (a.fmod 3) (b.fmod 3)) (c.fmod 3)) = 0 ∨ highI (Builtin.bitXor (Builtin.bitXor (a.fmod 3) (b.fmod 3)) (c.fmod 3)) = 1 := by
  have h : ∀ x : Int, x.fmod 3 = 0 ∨ x.fmod 3 = 1 ∨ x.fmod 3 = 2 := fun x => by
    have h1 := Int.fmod_nonneg_of_pos x (b := 3) (by decide)
    have h2 := Int.fmod_lt_of_pos x (b := 3) (by decide)
    omega
  rcases h a with e1 | e1 | e1 <;> rcases h b with e2 | e2 | e2 <;> rcases h c with e3 | e3 | e3 <;> rw [e1, e2, e3] <;> decide

set_option maxHeartbeats 8000000 in
theorem answer_tells (w : World) (ld : Addr) (a b c : Int) (ta tb tc : Tok) (ha : 0 ≤ a ∧ a ≤ 8) (hb : 0 ≤ b ∧ b ≤ 8) (hc : 0 ≤ c ∧ c ≤ 8) :
    TellG 2 PG w 84 [.ref ld] (fun g => g.IsList ld #[.int a ta, .int b tb, .int c tc]) fun g keeps Q => ∀ h' l k i n ti tn ep, keeps h' → h'.get? l = some { cls := .type "tuple", data := .seq #[.int i ti, .int n tn] ep } → g.get? l = none → (i, n) = answer a b c → Q (.ref l) h' k := by
  have kf : Mine.hd.heap_39 = Mine.hd.heap_39 ∧ PySem.Challenge.rw_sc0023_01 = PySem.Challenge.rw_sc0023_01 := by k_fill; exact ⟨rfl, rfl⟩
  clear kf
  intro p loose mean mg mb dp un gd cn cs a0 ccd cl outer A₀ base h₀ L m s Q E hp hl B F X T hk hd hu hpre ret
  subst hp hl
  obtain ⟨g, gens, drawn, toks, os⟩ := s
  dsimp only at F hpre ret
  refine wpAny_call ?_
  k_dflt walk_at "enter G"
  clear B F X T
  k_steps
  change wpAny _ _ _ _ _ _
  rcases high3 a b c with e | e | e <;> rw [e]
  · k_steps
    have hN := news_head (by k_asm)
    exact ret _ _ _ _ _ _ _ _ (fr_keeps (by k_asm)) hN.1 hN.2 (ans_m1 e)
  · have hP : PTag fun k => (([a.fmod 3, b.fmod 3, c.fmod 3].getD k.toNat 0).fdiv (2 ^ Int.toNat 0)).fmod 2 == 1 := ⟨⟩
    k_steps
    · have hN := news_head (by k_asm)
      exact ret _ _ _ _ _ _ _ _ (fr_keeps (by k_asm)) hN.1 hN.2 (ans_nil e (by decide) (by assumption))
    · have hN := news_head (by k_asm)
      exact ret _ _ _ _ _ _ _ _ (fr_keeps (by k_asm)) hN.1 hN.2 (ans_cons e (by decide) (by assumption))
  · have hP : PTag fun k => (([a.fmod 3, b.fmod 3, c.fmod 3].getD k.toNat 0).fdiv (2 ^ Int.toNat 1)).fmod 2 == 1 := ⟨⟩
    k_steps
    · have hN := news_head (by k_asm)
      exact ret _ _ _ _ _ _ _ _ (fr_keeps (by k_asm)) hN.1 hN.2 (ans_nil e (by decide) (by assumption))
    · have hN := news_head (by k_asm)
      exact ret _ _ _ _ _ _ _ _ (fr_keeps (by k_asm)) hN.1 hN.2 (ans_cons e (by decide) (by assumption))
end Mine

end
section
open PySem PySem.W PySem.Calls PyProof.Rows
set_option Elab.async false
namespace Mine
set_option maxRecDepth 100000

local macro_rules | `(tactic| walk_at "enter G") => `(tactic| (refine' enter_cells ?k1 ?k2 ?k3 ?k5 ?kA ?kF ?kK ?k6 ?k7 ?k8 ?k9 ?kB ?kD ?_ ?c2 ?c3 ?c4; (case kA => exact rfl); (case kF => exact rfl); (case kK => assumption); (case k1 => k_asm); (case k2 => k_asm); (case k3 => k_asm); (case k5 => k_asm); (case k6 => k_is); (case k7 => k_is); (case k8 => ktr_room); (case k9 => exact BindsTo.of_eq rfl); (case kB => exact rfl); (case kD => decide +kernel); (case c2 => exact rfl); (case c3 => exact rfl); (case c4 => exact rfl); k_whole; intro L' h' tk' cells' F' N' Y' B' X' T'; k_cells Y'; (try simp only [List.cons_append, List.nil_append] at N'); (try dsimp only); (try k_fold)))
local macro_rules | `(tactic| walk_at "CompRestT") => `(tactic| (k_dflt ((refine' filt_range ?hP ?he ?hS ?hk ?hl ?hd ?_ ?_); (case hP => assumption); (case he => rfl); (case hS => trivial); (case hk => (intro _; rfl)); (case hl => (intro _; rfl)); (case hd => decide); (intro k' t' I' oI' C' oC' D' m' ys' h' tk' E' hk0' hk1' hC' hx' F' N' off' ne'); (have hk2' : k' < 3 := hk1'))))
local macro_rules | `(tactic| walk_at "TestEnd") => `(tactic| (k_dflt (unfold TestEnd; refine' ⟨?e, _, _, rfl, ?f, ?n⟩; (case f => k_asm); (case n => k_asm); (case e => rfl))))
theorem base_sub {prog : Program} {w : World} {A : Around} {E : Value → Shared → Prop} {s : Shared} {h₀ : Heap} {L D : Addr} {m : Str → Option Value} {vs : List Value} {ns : List Int} {k : Int} {u : Tok} {value slice : PySem.Expr} {Q : Value → Shared → Prop} (F : Fr h₀ L s.heap m) (hl : h₀.IsList D vs.toArray) (hi : IntsAre vs ns) (h0 : 0 ≤ k) (h1 : k < ns.length) (hfit : k < 2 ^ 63) (h : ∀ t, Q (.int (ns.getD k.toNat 0) t) s)
    (hs : subscripted slice false (.ref D) (.int k u) = operate [.ref D, .int k u] (getItem (.ref D) (.int k u)) := by with_unfolding_all rfl) :
    wpAny (model prog w) A (subscriptTail value slice (.ref D) (.int k u)) Q E s := item_anyK (hl.at fun o e => F.keep D o e) hi h0 h1 hfit h hs
local macro_rules | `(tactic| walk_at "subscriptTail Name Name ref int") => `(tactic| (k_here; k_dflt (refine' base_sub ?F ?hl ?hi ?h0 ?h1 ?hf ?_ ?hs; (case F => k_asm); (case hl => assumption); (case hi => exact .cons _ _ (.cons _ _ (.cons _ _ .nil))); (case h0 => assumption); (case h1 => ((simp only [List.length_cons, List.length_nil]); omega)); (case hf => exact lt63 (by omega)); (case hs => with_unfolding_all rfl)); intro t'; (try dsimp only)))

theorem filt_get {p : Int → Bool} {j : Int} (h0 : 0 ≤ j) (h1 : j < ((r3.filter p).length : Int)) : ∃ x, (r3.filter p).getD j.toNat 0 = x ∧ 0 ≤ x ∧ x < 3 ∧ p x = true := by
  refine ⟨_, rfl, ?_⟩
  have hj : j.toNat < (r3.filter p).length := by omega
  have e : (r3.filter p).getD j.toNat 0 = (r3.filter p)[j.toNat] := by
    rw [List.getD_eq_getElem?_getD, List.getElem?_eq_getElem hj]
    rfl
  rw [e]
  have hx := List.getElem_mem hj
  have hx2 := List.mem_filter.mp hx
  have h3 : (r3.filter p)[j.toNat] = 0 ∨ (r3.filter p)[j.toNat] = 1 ∨ (r3.filter p)[j.toNat] = 2 := by simpa [r3, List.range, List.range.loop] using hx2.1
  exact ⟨by omega, by omega, hx2.2⟩
section
variable {prog : Program} {w : World} {A : Around} {E : Value → Shared → Prop} {s : Shared} {h₀ : Heap} {L D : Addr} {news : List (Addr × Obj)} {vs : List Value} {p : Int → Bool} {c : Nat} {k : Int} {u : Tok} {value slice : PySem.Expr} {Q : Value → Shared → Prop}
theorem pick_sub (N : News h₀ L s.heap news) (hm : (D, listOf vs.toArray c) ∈ news) (hi : IntsAre vs (r3.filter p)) (h0 : 0 ≤ k) (h1 : k < ((r3.filter p).length : Int)) (hfit : k < 2 ^ 63) (h : ∀ x t, 0 ≤ x → x < 3 → p x = true → Q (.int x t) s)
    (hs : subscripted slice false (.ref D) (.int k u) = operate [.ref D, .int k u] (getItem (.ref D) (.int k u)) := by with_unfolding_all rfl) :
    wpAny (model prog w) A (subscriptTail value slice (.ref D) (.int k u)) Q E s :=
  ksa_sub N hm hi h0 h1 hfit (fun t => by
    obtain ⟨x, e, x0, x1, x2⟩ := filt_get h0 h1
    rw [e]
    exact h x t x0 x1 x2) hs
theorem len_filt (N : News h₀ L s.heap news) (hm : (D, listOf vs.toArray c) ∈ news) (hi : IntsAre vs (r3.filter p)) (h : ∀ (n : Nat) t k, ((r3.filter p).length : Int) = (n : Int) → (n : Int) ≤ 3 → Q (.int (n : Int) t) { s with toks := k }) : wpAny (model prog w) A (call (.builtin "len") [.ref D]) Q E s := by
  have hl := hi.length
  have hz : (r3.filter p).length ≤ 3 := List.length_filter_le _ _
  exact KM.len_K N hm (n := (r3.filter p).length) (by rw [List.size_toArray]; exact hl) (by omega) (h _ _ _ rfl (by omega))
end
theorem some_of {a b c : Int} (_ha : 0 ≤ a) (_hb : 0 ≤ b) (_hc : 0 ≤ c) (h : 0 < a + b + c) : 0 < ((r3.filter (fun k => decide ([a, b, c].getD k.toNat 0 > 0))).length : Int) := by
  have : 0 < a ∨ 0 < b ∨ 0 < c := by omega
  have hm : ∃ x, x ∈ r3.filter (fun k => decide ([a, b, c].getD k.toNat 0 > 0)) := by
    rcases this with h | h | h
    · exact ⟨0, List.mem_filter.mpr ⟨by decide, by simpa using h⟩⟩
    · exact ⟨1, List.mem_filter.mpr ⟨by decide, by simpa using h⟩⟩
    · exact ⟨2, List.mem_filter.mpr ⟨by decide, by simpa using h⟩⟩
  obtain ⟨x, hx⟩ := hm
  have := List.length_pos_of_mem hx
  omega
local macro_rules | `(tactic| walk_at "call builtin:len") => `(tactic| (k_here; k_dflt (refine' len_filt ?N ?hm ?hi ?_; (case N => k_asm); (case hm => k_mem); (case hi => assumption)); intro n' t' k' hn' hn3'; (try dsimp only)))
local macro_rules | `(tactic| walk_at "subscriptTail Name BinOp ref int") => `(tactic| (k_here; k_dflt (refine' pick_sub ?N ?hm ?hi ?h0 ?h1 ?hf ?_ ?hs; (case N => k_asm); (case hm => k_mem); (case hi => assumption); (case h0 => exact Int.fmod_nonneg_of_pos _ (by omega)); (case h1 => exact Int.lt_of_lt_of_le (Int.fmod_lt_of_pos _ (by omega)) (by omega)); (case hf => exact lt63 (Int.lt_of_lt_of_le (Int.fmod_lt_of_pos _ (by omega)) (by omega))); (case hs => with_unfolding_all rfl)); intro x' t' hx0' hx1' hxp'; (have hxq' := of_decide_eq_true hxp'); (try dsimp only)))

theorem fm_lo {x m : Int} (h : m > 0) : 1 ≤ 1 + x.fmod m := by
  have := Int.fmod_nonneg_of_pos x h
  omega
theorem fm_hi {x m : Int} (h : m > 0) : 1 + x.fmod m ≤ m := by
  have := Int.fmod_lt_of_pos x h
  omega
set_option maxHeartbeats 4000000 in
theorem drawn_tells (w : World) (ld : Addr) (a b c n : Int) (ta tb tc tn : Tok) (ha : 0 ≤ a ∧ a ≤ 8) (hb : 0 ≤ b ∧ b ≤ 8) (hc : 0 ≤ c ∧ c ≤ 8) (hpos : 0 < a + b + c) :
    TellG 1 PG w 89 [.ref ld, .int n tn] (fun g => g.IsList ld #[.int a ta, .int b tb, .int c tc]) fun g keeps Q => ∀ h' l k i d ti td ep, keeps h' → h'.get? l = some { cls := .type "tuple", data := .seq #[.int i ti, .int d td] ep } → g.get? l = none → 0 ≤ i → i < 3 → 1 ≤ d → d ≤ [a, b, c].getD i.toNat 0 → Q (.ref l) h' k := by
  have kf : Mine.hd.heap_39 = Mine.hd.heap_39 ∧ PySem.Challenge.rw_sc0023_01 = PySem.Challenge.rw_sc0023_01 := by k_fill; exact ⟨rfl, rfl⟩
  clear kf
  intro p loose mean mg mb dp un gd cn cs a0 ccd cl outer A₀ base h₀ L m s Q E hp hl B F X T hk hd hu hpre ret
  subst hp hl
  obtain ⟨g, gens, drawn, toks, os⟩ := s
  dsimp only at F hpre ret
  refine wpAny_call ?_
  k_dflt walk_at "enter G"
  clear B F X T
  have hlen := some_of ha.1 hb.1 hc.1 hpos
  have hP : PTag fun k => decide ([a, b, c].getD k.toNat 0 > 0) := ⟨⟩
  k_steps
  have hN := news_head (by k_asm)
  exact ret _ _ _ _ _ _ _ _ (fr_keeps (by k_asm)) hN.1 hN.2 (by assumption) (by assumption) (fm_lo (by assumption)) (fm_hi (by assumption))
end Mine

end
section
open PySem PySem.W
namespace Mine
open PySem.StrLaws PySem.Builtin.Str

/-- the parts with the sign between -/
noncomputable def joinL (y : List Nat) : List (List Nat) → List Nat
  | [] => []
  | [p] => p
  | p :: q :: r => p ++ y ++ joinL y (q :: r)

theorem join_list_eq (y : Str) : ∀ ps : List Str, (Str.join y ps).cps.toList = joinL y.cps.toList (ps.map fun p => p.cps.toList)
  | [] => rfl
  | [p] => rfl
  | p :: q :: r => by
    have ih := join_list_eq y (q :: r)
    show (p ++ y ++ Str.join y (q :: r)).cps.toList = p.cps.toList ++ y.cps.toList ++ joinL y.cps.toList ((q :: r).map fun p => p.cps.toList)
    rw [← ih]
    simp only [Str.cps_append, Array.toList_append]

theorem free_split {c : Nat} : ∀ {p q : List Nat} {u v : List Nat}, c ∉ p → c ∉ q → p ++ c :: u = q ++ c :: v → p = q ∧ u = v
  | [], [], u, v, _, _, h => ⟨rfl, (List.cons.inj h).2⟩
  | [], d :: q, u, v, _, hq, h => absurd (List.cons.inj h).1 fun e => hq (e ▸ .head _)
  | d :: p, [], u, v, hp, _, h => absurd (List.cons.inj h).1 fun e => hp (e ▸ .head _)
  | d :: p, e :: q, u, v, hp, hq, h => by
    have hh := List.cons.inj h
    obtain ⟨h1, h2⟩ := free_split (fun m => hp (.tail _ m)) (fun m => hq (.tail _ m)) hh.2
    exact ⟨by rw [hh.1, h1], h2⟩

theorem join_inj {c : Nat} {w : List Nat} : ∀ {ps qs : List (List Nat)}, (∀ p ∈ ps, c ∉ p) → (∀ q ∈ qs, c ∉ q) → ps ≠ [] → qs ≠ [] → joinL (c :: w) ps = joinL (c :: w) qs → ps = qs
  | [], _, _, _, h, _, _ => absurd rfl h
  | _, [], _, _, _, h, _ => absurd rfl h
  | [p], [q], _, _, _, _, h => by
    have e : p = q := h
    rw [e]
  | [p], q :: q2 :: r, hp, _, _, _, h => by
    have e : p = q ++ (c :: w) ++ joinL (c :: w) (q2 :: r) := h
    exact absurd (hp p (.head _)) (fun hn => hn (by rw [e]; simp))
  | p :: p2 :: r, [q], _, hq, _, _, h => by
    have e : p ++ (c :: w) ++ joinL (c :: w) (p2 :: r) = q := h
    exact absurd (hq q (.head _)) (fun hn => hn (by rw [← e]; simp))
  | p :: p2 :: r, q :: q2 :: t, hp, hq, _, _, h => by
    have e : p ++ (c :: w) ++ joinL (c :: w) (p2 :: r) = q ++ (c :: w) ++ joinL (c :: w) (q2 :: t) := h
    rw [List.append_assoc, List.append_assoc, List.cons_append, List.cons_append] at e
    obtain ⟨h1, h2⟩ := free_split (hp p (.head _)) (hq q (.head _)) e
    have h3 := List.append_cancel_left h2
    have := join_inj (fun x hx => hp x (.tail _ hx)) (fun x hx => hq x (.tail _ hx)) (by simp) (by simp) h3
    rw [h1, this]

theorem join_at {c : Nat} {w : List Nat} (hw : c ∉ w) : ∀ {ps : List (List Nat)} {i : Nat}, (∀ p ∈ ps, c ∉ p) → (joinL (c :: w) ps)[i]? = some c → ∃ r, (joinL (c :: w) ps).drop i = c :: w ++ r
  | [], i, _, h => by simp [joinL] at h
  | [p], i, hp, h => absurd (List.mem_of_getElem? h) (hp p (.head _))
  | p :: q :: r, i, hp, h => by
    have e : joinL (c :: w) (p :: q :: r) = p ++ ((c :: w) ++ joinL (c :: w) (q :: r)) := by
      show p ++ (c :: w) ++ joinL (c :: w) (q :: r) = _
      rw [List.append_assoc]
    rw [e] at h ⊢
    by_cases h1 : i < p.length
    · rw [List.getElem?_append_left h1] at h
      exact absurd (List.mem_of_getElem? h) (hp p (.head _))
    · rw [List.getElem?_append_right (by omega)] at h
      rw [List.drop_append, List.drop_eq_nil_of_le (by omega), List.nil_append]
      generalize i - p.length = j at h ⊢
      by_cases h2 : j < (c :: w).length
      · rw [List.getElem?_append_left h2] at h
        cases j with
        | zero => exact ⟨_, rfl⟩
        | succ j => exact absurd (List.mem_of_getElem? (by simpa using h)) hw
      · rw [List.getElem?_append_right (by omega)] at h
        rw [List.drop_append, List.drop_eq_nil_of_le (by omega), List.nil_append]
        exact join_at hw (fun x hx => hp x (.tail _ hx)) h

theorem part_free2 (x y : Str) (c a b : Nat) (hat : ∀ i, x.cps.toList[i]? = some c → At x y x.length i) (hn : ∀ k, a ≤ k → k < b → ¬ At x y x.length k) : c ∉ (strSub x a b).cps.toList := by
  intro hm
  rw [strSub_toList] at hm
  obtain ⟨j, hj⟩ := List.getElem?_of_mem hm
  have hlt : j < b - a := by
    have h1 : j < ((x.cps.toList.drop a).take (b - a)).length := (List.getElem?_eq_some_iff.mp hj).1
    simp at h1
    omega
  rw [List.getElem?_take_of_lt hlt, List.getElem?_drop] at hj
  exact hn (a + j) (by omega) (by omega) (hat _ hj)

theorem parts_free2 (x y : Str) (c : Nat) (hat : ∀ i, x.cps.toList[i]? = some c → At x y x.length i) : ∀ (cuts : List Nat) (a f : Nat), ChainG x y x.length a cuts f → (∀ k, f ≤ k → ¬ At x y x.length k) → ∀ p ∈ partsFrom x y.length a cuts, c ∉ p.cps.toList
  | [], a, f, h, hn, p, hp => by
    have e : f = a := h
    subst e
    rw [List.mem_singleton.mp hp]
    exact part_free2 x y c f x.length hat fun k h1 _ => hn k h1
  | d :: r, a, f, h, hn, p, hp => by
    rcases List.mem_cons.mp hp with rfl | hp'
    · exact part_free2 x y c a d hat h.2.2.1
    · exact parts_free2 x y c hat r _ f h.2.2.2 hn p hp'

theorem split_free2 (x y : Str) (c : Nat) (hy : 1 ≤ y.length) (hk : Builtin.Str.strKind y = 1) (hk2 : 1 ≤ Builtin.Str.strKind x) (hat : ∀ i, x.cps.toList[i]? = some c → At x y x.length i) : ∀ p ∈ Txt.split x y, c ∉ p.cps.toList := by
  obtain ⟨f, hG, hn⟩ := occ_tight x y hy
  unfold Txt.split
  split
  · rename_i hc
    intro p hp
    rw [List.mem_singleton.mp hp]
    intro hm
    obtain ⟨j, hj⟩ := List.getElem?_of_mem hm
    have hA := hat j hj
    rw [Bool.or_eq_true, decide_eq_true_eq, decide_eq_true_eq] at hc
    rcases hc with h | h
    · have := hA.1; omega
    · omega
  · split
    · rename_i he
      intro p hp
      rw [List.mem_singleton.mp hp]
      have e0 : occurrences x y 0 x.length (x.length + 1) = [] := List.isEmpty_iff.mp he
      rw [e0] at hG
      have ef : f = 0 := hG
      subst ef
      rw [← sub_whole x]
      exact part_free2 x y c 0 x.length hat fun k h1 _ => hn k h1
    · rw [partsBetween_eq]
      exact parts_free2 x y c hat _ 0 f hG hn

theorem kind_pos (x : Str) : 1 ≤ Builtin.Str.strKind x := by
  unfold Builtin.Str.strKind
  (repeat' split) <;> decide
theorem split_ne (x y : Str) : Txt.split x y ≠ [] := by
  unfold Txt.split
  split
  · simp
  · split
    · simp
    · rw [partsBetween_eq]
      obtain ⟨p, r, e⟩ := partsFrom_ne x y.length 0 (occurrences x y 0 x.length (x.length + 1))
      rw [e]
      simp

theorem map_inj : ∀ {ps qs : List Str}, (ps.map fun p => p.cps.toList) = (qs.map fun p => p.cps.toList) → ps = qs
  | [], [], _ => rfl
  | [], _ :: _, h => by simp at h
  | _ :: _, [], h => by simp at h
  | p :: ps, q :: qs, h => by
    rw [List.map_cons, List.map_cons] at h
    have h2 := List.cons.inj h
    rw [map_inj h2.2, Str.ext' (Array.toList_inj.mp h2.1)]

theorem split_eq (x y : Str) (c : Nat) (w : List Nat) (parts : List Str) (hy : y.cps.toList = c :: w) (hk : Builtin.Str.strKind y = 1) (hw : c ∉ w) (hp : parts ≠ []) (hx : x.cps.toList = joinL y.cps.toList (parts.map fun p => p.cps.toList)) (hfree : ∀ p ∈ parts, c ∉ p.cps.toList) : Txt.split x y = parts := by
  have hyl : y.length = w.length + 1 := by
    have := congrArg List.length hy
    rw [Array.length_toList] at this
    exact this
  have hfree' : ∀ q ∈ parts.map (fun p => p.cps.toList), c ∉ q := fun q hq => by
    obtain ⟨p, hp1, rfl⟩ := List.mem_map.mp hq
    exact hfree p hp1
  have hat : ∀ i, x.cps.toList[i]? = some c → At x y x.length i := fun i hi => by
    have hi0 := hi
    rw [hx, hy] at hi
    obtain ⟨r, hr⟩ := join_at hw hfree' hi
    rw [← hy, ← hx] at hr
    have hlen : x.cps.toList.length = x.length := Array.length_toList
    have hl2 := congrArg List.length hr
    rw [List.length_drop, List.length_append, hlen, Array.length_toList] at hl2
    have hyl2 : y.cps.size = y.length := rfl
    refine ⟨?_, ?_⟩
    · have : i < x.cps.toList.length := (List.getElem?_eq_some_iff.mp hi0).1
      omega
    · rw [subAt_eq, hr]
      have e : y.length = y.cps.toList.length := by rw [Array.length_toList]; rfl
      rw [e, List.take_left]
      exact beq_self_eq_true _
  have hfree2 := split_free2 x y c (by omega) hk (kind_pos x) hat
  have hj : (Str.join y (Txt.split x y)).cps.toList = x.cps.toList := by rw [join_split x y]
  rw [join_list_eq, hx, hy] at hj
  refine map_inj (join_inj ?_ hfree' ?_ ?_ hj)
  · intro q hq
    obtain ⟨p, hp1, rfl⟩ := List.mem_map.mp hq
    exact hfree2 p hp1
  · intro h
    exact split_ne x y (List.map_eq_nil_iff.mp h)
  · intro h
    exact hp (List.map_eq_nil_iff.mp h)

theorem replace_gen (x y z : Str) (hy : 1 ≤ y.length) (hk : Builtin.Str.strKind y = 1) : Txt.replace x y z = Str.join z (Txt.split x y) := by
  have h10 : (y.length == 0) = false := by
    rw [beq_eq_false_iff_ne]
    omega
  unfold Txt.replace
  rw [h10, Bool.false_and, Bool.or_false]
  cases he : (occurrences x y 0 x.length (x.length + 1)).isEmpty
  · rw [if_neg Bool.false_ne_true, glued_eq_join]
    by_cases hc : (decide (x.length < y.length) || decide (Builtin.Str.strKind x < Builtin.Str.strKind y)) = true
    · exfalso
      obtain ⟨f, h⟩ := occ_chain x y (x.length + 1)
      cases ho : occurrences x y 0 x.length (x.length + 1) with
      | nil => rw [ho] at he; exact absurd he (by simp)
      | cons i r =>
        rw [ho] at h
        have hA := h.2.1
        rw [Bool.or_eq_true, decide_eq_true_eq, decide_eq_true_eq] at hc
        have := hA.1
        have := kind_pos x
        omega
    · unfold Txt.split
      rw [if_neg hc, he, if_neg Bool.false_ne_true]
  · rw [if_pos rfl]
    unfold Txt.split
    split
    · rfl
    · rfl
end Mine

end
section
open PySem PySem.W
namespace Mine
open PySem.StrLaws

def Free (l : List Nat) : Prop := (10 : Nat) ∉ l ∧ (13 : Nat) ∉ l
/-- a line of the text as the mail writes it: a leading dot is doubled -/
def qL : List Nat → List Nat
  | [] => []
  | c :: r => if c = 46 then 46 :: 46 :: r else c :: r

theorem norm_free : ∀ (l r : List Nat), Free l → normB false (l ++ r) = l ++ normB false r
  | [], r, _ => rfl
  | c :: l, r, h => by
    have h1 : ¬ c = 10 := fun e => h.1 (e ▸ .head _)
    have h2 : ¬ c = 13 := fun e => h.2 (e ▸ .head _)
    rw [List.cons_append, normB, if_neg h1, if_neg h2, norm_free l r ⟨fun m => h.1 (.tail _ m), fun m => h.2 (.tail _ m)⟩]
    rfl
theorem norm_free_t (l r : List Nat) (h : Free l) (hl : l ≠ []) : normB true (l ++ r) = l ++ normB false r := by
  cases l with
  | nil => exact absurd rfl hl
  | cons c l =>
    rw [← norm_free (c :: l) r h]
    exact normB_true fun r' e => by
      have := (List.cons.inj e).1
      exact h.1 (this ▸ .head _)
def IsEnd (e : List Nat) : Prop := e = [10] ∨ e = [13] ∨ e = [13, 10]
theorem norm_end {e l r : List Nat} (he : IsEnd e) (h : Free l) (hl : l ≠ []) : normB false (e ++ (l ++ r)) = 13 :: 10 :: (l ++ normB false r) := by
  rcases he with rfl | rfl | rfl
  · rw [List.cons_append, List.nil_append, normB, if_pos rfl, if_neg Bool.false_ne_true, norm_free l r h]
  · rw [List.cons_append, List.nil_append, normB, if_neg (by decide), if_pos rfl, norm_free_t l r h hl]
  · rw [List.cons_append, List.cons_append, List.nil_append, normB, if_neg (by decide), if_pos rfl, normB, if_pos rfl, if_pos rfl, norm_free l r h]
theorem dot_free : ∀ (l r : List Nat), (10 : Nat) ∉ l → dotted false (l ++ r) = l ++ dotted false r
  | [], r, _ => rfl
  | c :: l, r, h => by
    have h1 : ¬ c = 10 := fun e => h (e ▸ .head _)
    rw [List.cons_append, dotted, if_neg (fun e => Bool.false_ne_true e.1), beq_eq_false_iff_ne.mpr h1, dot_free l r fun m => h (.tail _ m)]
    rfl
theorem dot_line (l r : List Nat) (h : (10 : Nat) ∉ l) (hl : l ≠ []) : dotted true (l ++ r) = qL l ++ dotted false r := by
  cases l with
  | nil => exact absurd rfl hl
  | cons c l =>
    have h2 : (10 : Nat) ∉ l := fun m => h (.tail _ m)
    rw [List.cons_append, dotted]
    by_cases hc : c = 46
    · rw [if_pos ⟨rfl, hc⟩, dot_free l r h2, qL, if_pos hc]
      rfl
    · have h1 : ¬ c = 10 := fun e => h (e ▸ .head _)
      rw [if_neg (fun e => hc e.2), beq_eq_false_iff_ne.mpr h1, dot_free l r h2, qL, if_neg hc]
      rfl
theorem dot_end (r : List Nat) : dotted false (13 :: 10 :: r) = 13 :: 10 :: dotted true r := rfl
theorem dot_nil : dotted false [] = [] := rfl

theorem quoted_text {l0 l1 l2 l3 l4 e0 e1 e2 e3 : List Nat} (h0 : Free l0) (h1 : Free l1) (h2 : Free l2) (h3 : Free l3) (h4 : Free l4) (n0 : l0 ≠ []) (n1 : l1 ≠ []) (n2 : l2 ≠ []) (n3 : l3 ≠ []) (n4 : l4 ≠ [])
    (i0 : IsEnd e0) (i1 : IsEnd e1) (i2 : IsEnd e2) (i3 : IsEnd e3) :
    quoted (l0 ++ (e0 ++ (l1 ++ (e1 ++ (l2 ++ (e2 ++ (l3 ++ (e3 ++ (l4 ++ []))))))))) = joinL [13, 10] [qL l0, qL l1, qL l2, qL l3, qL l4] := by
  unfold quoted norm
  rw [norm_free l0 _ h0, norm_end i0 h1 n1, norm_end i1 h2 n2, norm_end i2 h3 n3, norm_end i3 h4 n4]
  rw [dot_line l0 _ h0.1 n0, dot_end, dot_line l1 _ h1.1 n1, dot_end, dot_line l2 _ h2.1 n2, dot_end, dot_line l3 _ h3.1 n3, dot_end, dot_line l4 _ h4.1 n4]
  show _ ++ 13 :: 10 :: (_ ++ 13 :: 10 :: (_ ++ 13 :: 10 :: (_ ++ 13 :: 10 :: (_ ++ [])))) = _
  simp [joinL]

abbrev mk (l : List Nat) : Str := ⟨l.toArray⟩
theorem mk_eq {x : Str} {l : List Nat} (h : x.cps.toList = l) : x = mk l := by
  cases x
  rw [← h]
theorem cut_mk (p w : List Nat) (n : Nat) (h : p.length = n) : cut n (mk (p ++ w)) = mk w := by
  have e := sliceText_from (x := mk (p ++ w)) (i := (n : Int)) ⟨by omega, by simp; omega⟩
  have e2 : cut n (mk (p ++ w)) = sliceText (mk (p ++ w)) (some (n : Int)) none := rfl
  rw [e2, e]
  show mk _ = mk _
  have e3 : ((p ++ w).toArray.toList.drop (n : Int).toNat) = w := by
    rw [← h]
    simp
  rw [e3]
  have e4 : w.take (((mk (p ++ w)).cps.toList.length : Int) - (n : Int)).toNat = w := by
    apply List.take_of_length_le
    simp
    omega
  rw [e4]
theorem lf_eq : (Str.ofString "\n").cps.toList = [10] := by decide +kernel
theorem crlf_eq : (Str.ofString "\r\n").cps.toList = [13, 10] := by decide +kernel

section
variable {kk : Nat} {m0 m1 m2 m3 m4 w0 w1 w2 w3 w4 : List Nat} {x : Str}
abbrev fr5 (m0 m1 m2 m3 m4 : List Nat) : Prop := Free m0 ∧ Free m1 ∧ Free m2 ∧ Free m3 ∧ Free m4

theorem Free.add {a b : List Nat} (ha : Free a) (hb : Free b) : Free (a ++ b) := ⟨by rw [List.mem_append]; exact fun h => h.elim ha.1 hb.1, by rw [List.mem_append]; exact fun h => h.elim ha.2 hb.2⟩

theorem split_lf_crlf (hx : x.cps.toList = joinL [13, 10] [w0, w1, w2, w3, w4]) (h : fr5 w0 w1 w2 w3 w4) :
    Txt.split x (Str.ofString "\n") = [mk (w0 ++ [13]), mk (w1 ++ [13]), mk (w2 ++ [13]), mk (w3 ++ [13]), mk w4] := by
  obtain ⟨h0, h1, h2, h3, h4⟩ := h
  refine split_eq x _ 10 [] _ lf_eq (by decide +kernel) (by simp) (by simp) ?_ ?_
  · rw [hx, lf_eq]
    simp [joinL]
  · intro p hp
    simp only [List.mem_cons, List.not_mem_nil, or_false] at hp
    rcases hp with rfl | rfl | rfl | rfl | rfl <;> simp
    · exact h0.1
    · exact h1.1
    · exact h2.1
    · exact h3.1
    · exact h4.1
theorem split_crlf (hx : x.cps.toList = joinL [13, 10] [w0, w1, w2, w3, w4]) (h : fr5 w0 w1 w2 w3 w4) :
    Txt.split x (Str.ofString "\r\n") = [mk w0, mk w1, mk w2, mk w3, mk w4] := by
  obtain ⟨h0, h1, h2, h3, h4⟩ := h
  refine split_eq x _ 13 [10] _ crlf_eq (by decide +kernel) (by decide) (by simp) ?_ ?_
  · rw [hx, crlf_eq]
    simp [joinL]
  · intro p hp
    simp only [List.mem_cons, List.not_mem_nil, or_false] at hp
    rcases hp with rfl | rfl | rfl | rfl | rfl <;> simp
    · exact h0.2
    · exact h1.2
    · exact h2.2
    · exact h3.2
    · exact h4.2
theorem split_lf (hx : x.cps.toList = joinL [10] [w0, w1, w2, w3, w4]) (h : fr5 w0 w1 w2 w3 w4) :
    Txt.split x (Str.ofString "\n") = [mk w0, mk w1, mk w2, mk w3, mk w4] := by
  obtain ⟨h0, h1, h2, h3, h4⟩ := h
  refine split_eq x _ 10 [] _ lf_eq (by decide +kernel) (by simp) (by simp) ?_ ?_
  · rw [hx, lf_eq]
    simp [joinL]
  · intro p hp
    simp only [List.mem_cons, List.not_mem_nil, or_false] at hp
    rcases hp with rfl | rfl | rfl | rfl | rfl <;> simp
    · exact h0.1
    · exact h1.1
    · exact h2.1
    · exact h3.1
    · exact h4.1
theorem join5 (y : Str) : (Txt.join y [mk w0, mk w1, mk w2, mk w3, mk w4]).cps.toList = joinL y.cps.toList [w0, w1, w2, w3, w4] := by
  show (Builtin.Str.glued y _).cps.toList = _
  rw [glued_eq_join, join_list_eq]
  rfl
theorem repl_crlf (hx : x.cps.toList = joinL [13, 10] [w0, w1, w2, w3, w4]) (h : fr5 w0 w1 w2 w3 w4) :
    (Txt.replace x (Str.ofString "\r\n") (Str.ofString "\n")).cps.toList = joinL [10] [w0, w1, w2, w3, w4] := by
  rw [replace_gen x _ _ (by decide +kernel) (by decide +kernel), split_crlf hx h, join_list_eq, lf_eq]
  rfl

variable (k0 : m0.length = kk) (k1 : m1.length = kk) (k2 : m2.length = kk) (k3 : m3.length = kk) (k4 : m4.length = kk)
include k0 k1 k2 k3 k4
theorem even_join : (Txt.join (Str.ofString "\n") ([mk ((m0 ++ w0) ++ [13]), mk ((m1 ++ w1) ++ [13]), mk ((m2 ++ w2) ++ [13]), mk ((m3 ++ w3) ++ [13]), mk (m4 ++ w4)].map (cut kk))).cps.toList = joinL [13, 10] [w0, w1, w2, w3, w4] := by
  simp only [List.map_cons, List.map_nil, List.append_assoc]
  rw [cut_mk m0 _ _ k0, cut_mk m1 _ _ k1, cut_mk m2 _ _ k2, cut_mk m3 _ _ k3, cut_mk m4 _ _ k4, join5, lf_eq]
  simp [joinL]
theorem odd_join : (Txt.join (Str.ofString "\n") ([mk (m0 ++ w0), mk (m1 ++ w1), mk (m2 ++ w2), mk (m3 ++ w3), mk (m4 ++ w4)].map (cut kk))).cps.toList = joinL [10] [w0, w1, w2, w3, w4] := by
  simp only [List.map_cons, List.map_nil]
  rw [cut_mk m0 _ _ k0, cut_mk m1 _ _ k1, cut_mk m2 _ _ k2, cut_mk m3 _ _ k3, cut_mk m4 _ _ k4, join5, lf_eq]
theorem even_text (hw : fr5 w0 w1 w2 w3 w4) : Txt.split (Txt.join (Str.ofString "\n") ([mk ((m0 ++ w0) ++ [13]), mk ((m1 ++ w1) ++ [13]), mk ((m2 ++ w2) ++ [13]), mk ((m3 ++ w3) ++ [13]), mk (m4 ++ w4)].map (cut kk))) (Str.ofString "\r\n") = [mk w0, mk w1, mk w2, mk w3, mk w4] := split_crlf (even_join k0 k1 k2 k3 k4) hw
theorem odd_text (hw : fr5 w0 w1 w2 w3 w4) : Txt.split (Txt.join (Str.ofString "\n") ([mk (m0 ++ w0), mk (m1 ++ w1), mk (m2 ++ w2), mk (m3 ++ w3), mk (m4 ++ w4)].map (cut kk))) (Str.ofString "\n") = [mk w0, mk w1, mk w2, mk w3, mk w4] := split_lf (odd_join k0 k1 k2 k3 k4) hw
end
end Mine

end
section
open PySem PySem.W
namespace Mine
open PySem.StrLaws

def endS (j : Int) : Str := if j = 0 then Str.ofString "\n" else if j = 1 then Str.ofString "\r" else Str.ofString "\r\n"
theorem endS_len (j : Int) : (endS j).length ≤ 2 := by
  unfold endS
  (repeat' split) <;> decide +kernel
theorem endS_is (j : Int) : IsEnd (endS j).cps.toList := by
  unfold endS
  split
  · exact .inl (by decide +kernel)
  · split
    · exact .inr (.inl (by decide +kernel))
    · exact .inr (.inr (by decide +kernel))

abbrev nm1 : Str := Str.ofString "a"
abbrev nm2 : Str := Str.ofString "\x0b\\"
abbrev nm3 : Str := Str.ofString " \u0085"
abbrev rowS (a : Int) (y : Str) : Str := Txt.mul (Str.ofString ".") a ++ y
abbrev marS (count : Int) : Str := Txt.mul (Str.ofString " ") (count + 1)
abbrev lineS (k which count : Int) (t e row : Str) : Str := if k = which then (t ++ e) ++ row else ((t ++ e) ++ marS count) ++ row
abbrev T0 (count : Int) : Str := marS count ++ Str.ofString "\t"
abbrev T1 (which count turn : Int) (r1 : Str) : Str := lineS 0 which count (T0 count) (endS ((turn + 0).fmod 3)) r1
abbrev T2 (which count turn : Int) (r1 r2 : Str) : Str := lineS 1 which count (T1 which count turn r1) (endS ((turn + 1).fmod 3)) r2
abbrev T3 (which count turn : Int) (r1 r2 r3 : Str) : Str := lineS 2 which count (T2 which count turn r1 r2) (endS ((turn + 2).fmod 3)) r3
abbrev TX (which count turn : Int) (r1 r2 r3 : Str) : Str := ((T3 which count turn r1 r2 r3 ++ endS (turn.fmod 3)) ++ Txt.mul (Str.ofString ".") count) ++ Str.ofString "."

theorem mulL {y : Str} {c : Nat} (hy : y = ⟨#[c]⟩) (n : Int) (h : 0 ≤ n) : (Txt.mul y n).cps.toList = List.replicate n.toNat c := by
  rw [hy]
  exact txt_mul c n h
theorem dotS_eq : Str.ofString "." = ⟨#[46]⟩ := by decide +kernel
theorem blankS_eq : Str.ofString " " = ⟨#[32]⟩ := by decide +kernel
theorem toL_add (x y : Str) : (x ++ y).cps.toList = x.cps.toList ++ y.cps.toList := by rw [Str.cps_append, Array.toList_append]
theorem row_list {a : Int} (h : 0 ≤ a) (y : Str) : (rowS a y).cps.toList = List.replicate a.toNat 46 ++ y.cps.toList := by
  rw [toL_add, mulL dotS_eq a h]
theorem mar_list {n : Int} (h : 0 ≤ n) : (marS n).cps.toList = List.replicate (n.toNat + 1) 32 := by
  rw [mulL blankS_eq _ (by omega)]
  congr 1
  omega
theorem len_add {x y : Str} {K L : Nat} (hx : x.length ≤ K) (hy : y.length ≤ L) : (x ++ y).length ≤ K + L := by
  have : (x ++ y).cps.size = x.cps.size + y.cps.size := Array.size_append
  show (x ++ y).cps.size ≤ _
  have h1 : x.cps.size = x.length := rfl
  have h2 : y.cps.size = y.length := rfl
  omega
theorem len_mul {y : Str} {c : Nat} (hy : y = ⟨#[c]⟩) {n : Int} (h : 0 ≤ n) {N : Nat} (hn : n ≤ (N : Int)) : (Txt.mul y n).length ≤ N := by
  have := congrArg List.length (mulL hy n h)
  rw [List.length_replicate, Array.length_toList] at this
  show (Txt.mul y n).cps.size ≤ N
  omega

theorem free_rep (c n : Nat) (h1 : c ≠ 10) (h2 : c ≠ 13) : Free (List.replicate n c) := ⟨fun h => h1 (List.eq_of_mem_replicate h).symm, fun h => h2 (List.eq_of_mem_replicate h).symm⟩
theorem q_sp (n : Nat) (r : List Nat) : qL (List.replicate (n + 1) 32 ++ r) = List.replicate (n + 1) 32 ++ r := by
  rw [List.replicate_succ, List.cons_append, qL, if_neg (by decide)]
theorem q_dot (n : Nat) (r : List Nat) : qL (List.replicate (n + 1) 46 ++ r) = List.replicate (n + 1 + 1) 46 ++ r := by
  rw [List.replicate_succ, List.cons_append, qL, if_pos rfl, ← List.cons_append, ← List.cons_append, ← List.replicate_succ, ← List.replicate_succ]

theorem rep_cut {a count : Int} (h1 : 1 ≤ count) (h2 : count ≤ a) (r : List Nat) : qL (List.replicate a.toNat 46 ++ r) = List.replicate (count.toNat + 1) 46 ++ (List.replicate (a - count).toNat 46 ++ r) := by
  have e : a.toNat = (count.toNat - 1 + 1) + (a - count).toNat := by omega
  rw [e, ← List.replicate_append_replicate, List.append_assoc, q_dot]
  have e2 : count.toNat - 1 + 1 = count.toNat := by omega
  rw [e2]

/-- what the walk needs to know of the text that _dedent gets, and of what it gives -/
def Dents (x sep : Str) (kk : Nat) (out : List Str) : Prop :=
  ∃ l0 l1 l2 l3 l4 rest, Txt.split x (Str.ofString "\n") = [l0, l1, l2, l3, l4] ∧ l0.cps.toList = List.replicate kk 32 ++ 9 :: rest ∧ (∀ y ∈ [l0, l1, l2, l3, l4], y.length ≤ 1000) ∧ x.length ≤ 1000 ∧ (Txt.join (Str.ofString "\n") ([l0, l1, l2, l3, l4].map (cut kk))).length ≤ 1000 ∧ Txt.split (Txt.join (Str.ofString "\n") ([l0, l1, l2, l3, l4].map (cut kk))) sep = out

theorem mk_len {l : List Nat} {N : Nat} (h : l.length ≤ N) : (mk l).length ≤ N := by
  show l.toArray.size ≤ N
  rw [List.size_toArray]
  exact h

theorem dents_of {x : Str} {kk : Nat} {m1 m2 m3 m4 w1 w2 w3 w4 : List Nat} (hkk : kk ≤ 9) (hx : x.cps.toList = joinL [13, 10] [List.replicate kk 32 ++ [9], m1 ++ w1, m2 ++ w2, m3 ++ w3, m4 ++ w4]) (k1 : m1.length = kk) (k2 : m2.length = kk) (k3 : m3.length = kk) (k4 : m4.length = kk)
    (f1 : Free m1) (f2 : Free m2) (f3 : Free m3) (f4 : Free m4) (g1 : Free w1) (g2 : Free w2) (g3 : Free w3) (g4 : Free w4) (z1 : w1.length ≤ 100) (z2 : w2.length ≤ 100) (z3 : w3.length ≤ 100) (z4 : w4.length ≤ 100) :
    Dents x (Str.ofString "\r\n") kk [mk [9], mk w1, mk w2, mk w3, mk w4] ∧ Dents (Txt.replace x (Str.ofString "\r\n") (Str.ofString "\n")) (Str.ofString "\n") kk [mk [9], mk w1, mk w2, mk w3, mk w4] := by
  have g0 : Free [9] := by constructor <;> decide
  have f0 := free_rep 32 kk (by decide) (by decide)
  have fr : fr5 (List.replicate kk 32 ++ [9]) (m1 ++ w1) (m2 ++ w2) (m3 ++ w3) (m4 ++ w4) := ⟨f0.add g0, f1.add g1, f2.add g2, f3.add g3, f4.add g4⟩
  have fw : fr5 [9] w1 w2 w3 w4 := ⟨g0, g1, g2, g3, g4⟩
  have k0 : (List.replicate kk 32 : List Nat).length = kk := List.length_replicate
  refine ⟨⟨_, _, _, _, _, [13], split_lf_crlf hx fr, ?_, ?_, ?_, ?_, even_text k0 k1 k2 k3 k4 fw⟩, ⟨_, _, _, _, _, [], split_lf (repl_crlf hx fr) fr, rfl, ?_, ?_, ?_, odd_text k0 k1 k2 k3 k4 fw⟩⟩
  · show List.replicate kk 32 ++ [9] ++ [13] = _
    rw [List.append_assoc]
    rfl
  · intro y hy
    simp only [List.mem_cons, List.not_mem_nil, or_false] at hy
    rcases hy with rfl | rfl | rfl | rfl | rfl <;> (refine mk_len ?_; simp only [List.length_append, List.length_cons, List.length_nil, List.length_replicate]; omega)
  · have := congrArg List.length hx
    rw [Array.length_toList] at this
    simp only [joinL, List.length_append, List.length_cons, List.length_nil, List.length_replicate] at this
    show x.cps.size ≤ 1000
    omega
  · have := congrArg List.length (even_join (w0 := [9]) (w1 := w1) (w2 := w2) (w3 := w3) (w4 := w4) k0 k1 k2 k3 k4)
    rw [Array.length_toList] at this
    simp only [joinL, List.length_append, List.length_cons, List.length_nil, List.length_replicate] at this
    refine Nat.le_trans (Nat.le_of_eq this) ?_
    omega
  · intro y hy
    simp only [List.mem_cons, List.not_mem_nil, or_false] at hy
    rcases hy with rfl | rfl | rfl | rfl | rfl <;> (refine mk_len ?_; simp only [List.length_append, List.length_cons, List.length_nil, List.length_replicate]; omega)
  · have := congrArg List.length (repl_crlf hx fr)
    rw [Array.length_toList] at this
    simp only [joinL, List.length_append, List.length_cons, List.length_nil, List.length_replicate] at this
    show Array.size _ ≤ 1000
    omega
  · have := congrArg List.length (odd_join (w0 := [9]) (w1 := w1) (w2 := w2) (w3 := w3) (w4 := w4) k0 k1 k2 k3 k4)
    rw [Array.length_toList] at this
    simp only [joinL, List.length_append, List.length_cons, List.length_nil, List.length_replicate] at this
    refine Nat.le_trans (Nat.le_of_eq this) ?_
    omega

abbrev lineL (k which : Int) (kk : Nat) (r : List Nat) : List Nat := if k = which then r else List.replicate kk 32 ++ r
theorem line_list {k which count : Int} {t e row : Str} (h : 0 ≤ count) : (lineS k which count t e row).cps.toList = t.cps.toList ++ (e.cps.toList ++ lineL k which (count.toNat + 1) row.cps.toList) := by
  unfold lineS lineL
  split
  · rw [toL_add, toL_add, List.append_assoc]
  · rw [toL_add, toL_add, toL_add, mar_list h, List.append_assoc, List.append_assoc]

theorem line_ok {k which count a : Int} {y : List Nat} (h1 : 1 ≤ count) (h2 : count ≤ 8) (h3 : k = which → count ≤ a) (h0 : 0 ≤ a ∧ a ≤ 8) (hy : Free y) (hz : y.length ≤ 2) (hn : y ≠ []) :
    Free (lineL k which (count.toNat + 1) (List.replicate a.toNat 46 ++ y)) ∧ lineL k which (count.toNat + 1) (List.replicate a.toNat 46 ++ y) ≠ [] ∧
    ∃ m w, qL (lineL k which (count.toNat + 1) (List.replicate a.toNat 46 ++ y)) = m ++ w ∧ m.length = count.toNat + 1 ∧ Free m ∧ Free w ∧ w.length ≤ 100 ∧ w = List.replicate ((if which = k then a - count else a)).toNat 46 ++ y := by
  have fy := (free_rep 46 a.toNat (by decide) (by decide)).add hy
  unfold lineL
  by_cases h : k = which
  · have h' : which = k := h.symm
    rw [if_pos h, if_pos h']
    refine ⟨fy, ?_, _, _, rep_cut h1 (h3 h) y, List.length_replicate, free_rep 46 _ (by decide) (by decide), (free_rep 46 _ (by decide) (by decide)).add hy, ?_, rfl⟩
    · intro e
      exact hn (List.append_eq_nil_iff.mp e).2
    · rw [List.length_append, List.length_replicate]
      omega
  · have h' : ¬ which = k := fun e => h e.symm
    rw [if_neg h, if_neg h']
    refine ⟨(free_rep 32 _ (by decide) (by decide)).add fy, ?_, _, _, q_sp count.toNat _, List.length_replicate, free_rep 32 _ (by decide) (by decide), fy, ?_, rfl⟩
    · intro e
      exact hn (List.append_eq_nil_iff.mp (List.append_eq_nil_iff.mp e).2).2
    · rw [List.length_append, List.length_replicate]
      omega

theorem row_mk {a : Int} (h : 0 ≤ a) (y : Str) : mk (List.replicate a.toNat 46 ++ y.cps.toList) = rowS a y := (mk_eq (row_list h y)).symm

theorem text_ok {a b c count turn which : Int} (ha : 0 ≤ a ∧ a ≤ 8) (hb : 0 ≤ b ∧ b ≤ 8) (hc : 0 ≤ c ∧ c ≤ 8) (h1 : 1 ≤ count) (h8 : count ≤ 8) (ha2 : which = 0 → count ≤ a) (hb2 : which = 1 → count ≤ b) (hc2 : which = 2 → count ≤ c) :
    Dents (quotedStr (TX which count turn (rowS a nm1) (rowS b nm2) (rowS c nm3))) (Str.ofString "\r\n") (count.toNat + 1) (writtenL (if which = 0 then a - count else a) (if which = 1 then b - count else b) (if which = 2 then c - count else c)) ∧
    Dents (Txt.replace (quotedStr (TX which count turn (rowS a nm1) (rowS b nm2) (rowS c nm3))) (Str.ofString "\r\n") (Str.ofString "\n")) (Str.ofString "\n") (count.toNat + 1) (writtenL (if which = 0 then a - count else a) (if which = 1 then b - count else b) (if which = 2 then c - count else c)) := by
  have e1 : nm1.cps.toList = [97] := by decide +kernel
  have e2 : nm2.cps.toList = [11, 92] := by decide +kernel
  have e3 : nm3.cps.toList = [32, 133] := by decide +kernel
  have e4 : (Str.ofString ".").cps.toList = [46] := by decide +kernel
  have e0 : (Str.ofString "\t").cps.toList = [9] := by decide +kernel
  obtain ⟨p1, n1, m1, w1, q1, k1, fm1, fw1, z1, ew1⟩ := line_ok (k := 0) (which := which) h1 h8 (fun e => ha2 e.symm) ha (y := nm1.cps.toList) (by rw [e1]; constructor <;> decide) (by rw [e1]; decide) (by rw [e1]; decide)
  obtain ⟨p2, n2, m2, w2, q2, k2, fm2, fw2, z2, ew2⟩ := line_ok (k := 1) (which := which) h1 h8 (fun e => hb2 e.symm) hb (y := nm2.cps.toList) (by rw [e2]; constructor <;> decide) (by rw [e2]; decide) (by rw [e2]; decide)
  obtain ⟨p3, n3, m3, w3, q3, k3, fm3, fw3, z3, ew3⟩ := line_ok (k := 2) (which := which) h1 h8 (fun e => hc2 e.symm) hc (y := nm3.cps.toList) (by rw [e3]; constructor <;> decide) (by rw [e3]; decide) (by rw [e3]; decide)
  have hl4 : Free (List.replicate count.toNat 46 ++ [46]) := (free_rep 46 _ (by decide) (by decide)).add (by constructor <;> decide)
  have hl0 : Free (List.replicate (count.toNat + 1) 32 ++ [9]) := (free_rep 32 _ (by decide) (by decide)).add (by constructor <;> decide)
  have hX : (quotedStr (TX which count turn (rowS a nm1) (rowS b nm2) (rowS c nm3))).cps.toList = joinL [13, 10] [List.replicate (count.toNat + 1) 32 ++ [9], m1 ++ w1, m2 ++ w2, m3 ++ w3, List.replicate (count.toNat + 1) 46 ++ [46]] := by
    show quoted (TX which count turn (rowS a nm1) (rowS b nm2) (rowS c nm3)).cps.toList = _
    have et : (TX which count turn (rowS a nm1) (rowS b nm2) (rowS c nm3)).cps.toList = (List.replicate (count.toNat + 1) 32 ++ [9]) ++ ((endS ((turn + 0).fmod 3)).cps.toList ++ (lineL 0 which (count.toNat + 1) (List.replicate a.toNat 46 ++ nm1.cps.toList) ++ ((endS ((turn + 1).fmod 3)).cps.toList ++
        (lineL 1 which (count.toNat + 1) (List.replicate b.toNat 46 ++ nm2.cps.toList) ++ ((endS ((turn + 2).fmod 3)).cps.toList ++ (lineL 2 which (count.toNat + 1) (List.replicate c.toNat 46 ++ nm3.cps.toList) ++ ((endS (turn.fmod 3)).cps.toList ++ ((List.replicate count.toNat 46 ++ [46]) ++ [])))))))) := by
      unfold TX T3 T2 T1 T0
      rw [toL_add, toL_add, toL_add, line_list (by omega), line_list (by omega), line_list (by omega), toL_add, mar_list (by omega), mulL dotS_eq count (by omega), row_list ha.1, row_list hb.1, row_list hc.1, e0, e4]
      simp only [List.append_assoc, List.append_nil]
    have hq0 : qL (List.replicate (count.toNat + 1) 32 ++ [9]) = List.replicate (count.toNat + 1) 32 ++ [9] := q_sp _ _
    have hq4 : qL (List.replicate count.toNat 46 ++ [46]) = List.replicate (count.toNat + 1) 46 ++ [46] := by
      have := rep_cut (a := count) h1 (Int.le_refl _) [46]
      rw [this, Int.sub_self]
      rfl
    rw [et, quoted_text hl0 p1 p2 p3 hl4 (by simp) n1 n2 n3 (by simp) (endS_is _) (endS_is _) (endS_is _) (endS_is _), q1, q2, q3, hq0, hq4]
  have h := dents_of (by omega) hX k1 k2 k3 List.length_replicate fm1 fm2 fm3 (free_rep 46 _ (by decide) (by decide)) fw1 fw2 fw3 (by constructor <;> decide) z1 z2 z3 (by decide)
  have eo : [mk [9], mk w1, mk w2, mk w3, mk [46]] = writtenL (if which = 0 then a - count else a) (if which = 1 then b - count else b) (if which = 2 then c - count else c) := by
    rw [ew1, ew2, ew3, row_mk (by split <;> omega), row_mk (by split <;> omega), row_mk (by split <;> omega)]
    have d0 : mk [9] = Str.ofString "\t" := by decide +kernel
    have d4 : mk [46] = Str.ofString "." := by decide +kernel
    rw [d0, d4]
    rfl
  rw [eo] at h
  exact h
end Mine

end
section
open PySem PySem.W PySem.Calls PyProof.Rows
set_option Elab.async false
namespace Mine
set_option maxRecDepth 100000

section
variable {prog : Program} {w : World} {A : Around} {E : Value → Shared → Prop} {s : Shared} {env : Env} {h₀ : Heap} {x : Str} {body : List Stmt} {Q : Flow → Shared → Prop}
/-- what a turn of the loop must leave -/
def RPost (h₀ : Heap) (L : Addr) (J : (Str → Option Value) → List (Addr × Obj) → Prop) (own : List (Addr × Obj)) (I : Addr) (s₁ : Shared) (Q : Flow → Shared → Prop) (f : Flow) (s₂ : Shared) : Prop :=
  match f with
  | .ret v => Q (.ret v) s₂
  | .brk => False
  | _ => ∃ h' tk m' nx, s₂ = { s₁ with heap := h', toks := tk } ∧ Fr h₀ L h' m' ∧ News h₀ L h' (own ++ nx) ∧ (∀ p ∈ nx, p.1 ≠ I) ∧ J m' nx

theorem range_loop {r : Addr} {b₀ : Int} {t₀ u₀ v₀ : Tok} {n : Nat} {m₀ : Str → Option Value} {news : List (Addr × Obj)} (J : Nat → (Str → Option Value) → List (Addr × Obj) → Prop)
    (hh : A.handled = none) (hr : IsRange s.heap r 0 b₀ 1 t₀ u₀ v₀) (hsmall : Builtin.Range.small 0 b₀ 1 = true) (hn : Builtin.Range.rangeSize 0 b₀ 1 = (n : Int)) (F : Fr h₀ env.locals s.heap m₀) (N : News h₀ env.locals s.heap news) (hj : J 0 m₀ news)
    (turn : ∀ i m₁ nx h tk own I t, i < n → J i m₁ nx → (∀ p ∈ own, p.1 = I) → (∀ p ∈ nx, p.1 ≠ I) → (∃ o, h.get? I = some o) → Fr h₀ env.locals h (fun y => if y = x then some (.int (i : Int) t) else m₁ y) → News h₀ env.locals h (own ++ nx) →
      wpAny (model prog w) A (execs body env) (RPost h₀ env.locals (J (i + 1)) own I { s with heap := h, toks := tk } Q) E { s with heap := h, toks := tk })
    (done : ∀ m₁ nx h tk, J n m₁ nx → Fr h₀ env.locals h m₁ → News h₀ env.locals h nx → Q .next { s with heap := h, toks := tk }) :
    wpAny (model prog w) A (pyIter (.ref r)) (fun it s₂ => LoopAtV prog w A h₀ env x body Q E it s₂) E s := by
  refine wpAny_pyIter_range hr hsmall ?_
  have W : Walks prog w A s.heap.objs.size [s.heap.objs.size] [s.heap.objs.size] n (fun i v => i < n ∧ ∃ t, v = .int (0 + i * 1) t)
      (fun i h => IsRangeIter h s.heap.objs.size (0 + (i : Nat) * 1) ((n : Int) - (i : Nat)) 1) := (Walks.range hh _ 0 1 n).bound
  refine ⟨s.heap.objs.size, _, _, n, _, _, m₀, news, J, rfl, W, ?_, ?_, ?_, (by show IsRangeIter _ _ _ _ _; rw [hn]; simpa using Heap.get?_push_size _ rfl), F.push _, (fun p hp => ⟨Heap.get?_push_of_some _ (N p hp).1, (N p hp).2⟩), hj, ?_, ?_⟩
  · intro hm
    exact absurd F.ns.lt ((List.mem_singleton.mp hm) ▸ Nat.lt_irrefl _)
  · intro b hb
    rw [List.mem_singleton.mp hb]
    exact next_is_new F
  · intro p hp hI
    exact absurd (Heap.lt_size (N p hp).1) ((List.mem_singleton.mp hI) ▸ Nat.lt_irrefl _)
  · rintro i v m₁ news₁ s₁ own ⟨hh', tk', rfl⟩ hin ⟨_, t, rfl⟩ hJ hoff hown hget _ hSt F₁ N₁
    have e1 : 0 + (i : Int) * 1 = (i : Int) := by omega
    rw [e1] at F₁
    refine wpAny_mono (turn i m₁ news₁ hh' tk' own s.heap.objs.size t hin hJ (fun p hp => List.mem_singleton.mp (hown p hp)) (fun p hp e => hoff p hp (List.mem_singleton.mpr e)) ⟨_, hSt⟩ F₁ N₁) (fun f s₂ p => ?_) fun _ _ e => e
    have fin : (∃ h' tk m' nx, s₂ = { ({ s with heap := hh', toks := tk' } : Shared) with heap := h', toks := tk } ∧ Fr h₀ env.locals h' m' ∧ News h₀ env.locals h' (own ++ nx) ∧ (∀ p ∈ nx, p.1 ≠ s.heap.objs.size) ∧ J (i + 1) m' nx) →
        LoopStepU h₀ env.locals [s.heap.objs.size] own (J (i + 1)) { s with heap := hh', toks := tk' } .next s₂ := by
      rintro ⟨h', tk, m', nx, e, F', N', ho, hJ'⟩
      exact ⟨rfl, h', tk, m', nx, e, F', N', fun p hp hq => ho p hp (List.mem_singleton.mp hq), hJ'⟩
    cases f with
    | ret v => exact .ret p
    | brk => exact p.elim
    | next => exact .next (fin p)
    | cont => exact .cont (fin p)
  · intro h' tk m' news' F' N' _ hJ
    exact done m' news' h' tk hJ F' N'
end
end Mine

end
section
open PySem PySem.W PySem.Calls PyProof.Rows
set_option Elab.async false
namespace Mine
set_option maxRecDepth 100000

section
variable {prog : Program} {w : World} {A : Around} {E : Value → Shared → Prop} {s : Shared} {env : Env} {h₀ : Heap} {body : List Stmt} {Q : Flow → Shared → Prop}
def TPost (h₀ : Heap) (L : Addr) (xk xt : Str) (m : Str → Option Value) (T : Str) (news : List (Addr × Obj)) (s₁ : Shared) (f : Flow) (s₂ : Shared) : Prop :=
  f = .next ∧ ∃ h' tk vk tv, s₂ = { s₁ with heap := h', toks := tk } ∧ Fr h₀ L h' (map2 m xk xt vk (some (.str T tv))) ∧ News h₀ L h' news

theorem text_loopT {r : Addr} {b₀ : Int} {t₀ u₀ v₀ : Tok} {m₀ : Str → Option Value} {news : List (Addr × Obj)} {t0 : Tok} (xk xt : Str) (T : Nat → Str)
    (hh : A.handled = none) (hr : IsRange s.heap r 0 b₀ 1 t₀ u₀ v₀) (hb : b₀ = 3) (F : Fr h₀ env.locals s.heap m₀) (N : News h₀ env.locals s.heap news) (ht : m₀ xt = some (.str (T 0) t0))
    (turn : ∀ (i : Nat) h tk own t vk tv, i < 3 → Fr h₀ env.locals h (fun y => if y = xk then some (.int (i : Int) t) else map2 m₀ xk xt vk (some (.str (T i) tv)) y) → News h₀ env.locals h (own ++ news) →
      wpAny (model prog w) A (execs body env) (TPost h₀ env.locals xk xt m₀ (T (i + 1)) (own ++ news) { s with heap := h, toks := tk }) E { s with heap := h, toks := tk })
    (done : ∀ h tk vk tv, Fr h₀ env.locals h (map2 m₀ xk xt vk (some (.str (T 3) tv))) → News h₀ env.locals h news → Q .next { s with heap := h, toks := tk }) :
    wpAny (model prog w) A (pyIter (.ref r)) (fun it s₂ => LoopAtV prog w A h₀ env xk body Q E it s₂) E s := by
  subst hb
  refine range_loop (n := 3) (fun i m nx => nx = news ∧ ∃ vk tv, m = map2 m₀ xk xt vk (some (.str (T i) tv))) hh hr (by decide +kernel) (by decide +kernel) F N ⟨rfl, m₀ xk, t0, ?_⟩ ?_ ?_
  · rw [← ht, map2_start]
  · rintro i m₁ nx h tk own I t hi ⟨rfl, vk, tv, rfl⟩ hown hnx _ F₁ N₁
    refine wpAny_mono (turn i h tk own t vk tv hi F₁ N₁) ?_ fun _ _ e => e
    rintro f s₂ ⟨rfl, h', tk', vk', tv', e, F', N'⟩
    exact ⟨h', tk', _, nx, e, F', N', hnx, rfl, vk', tv', rfl⟩
  · rintro m₁ nx h tk ⟨rfl, vk, tv, rfl⟩ F₁ N₁
    exact done h tk vk tv F₁ N₁
def pick4 (T0 T1 T2 T3 : Str) : Nat → Str
  | 0 => T0
  | 1 => T1
  | 2 => T2
  | _ => T3
theorem text_loop {r : Addr} {b₀ : Int} {t₀ u₀ v₀ : Tok} {m₀ : Str → Option Value} {news : List (Addr × Obj)} {t0 : Tok} {xk : Str} (xt T0 T1 T2 T3 : Str)
    (hh : A.handled = none) (hr : IsRange s.heap r 0 b₀ 1 t₀ u₀ v₀) (hb : b₀ = 3) (F : Fr h₀ env.locals s.heap m₀) (N : News h₀ env.locals s.heap news) (ht : m₀ xt = some (.str T0 t0))
    (turn0 : ∀ h tk own t vk tv, Fr h₀ env.locals h (fun y => if y = xk then some (.int 0 t) else map2 m₀ xk xt vk (some (.str T0 tv)) y) → News h₀ env.locals h (own ++ news) →
      wpAny (model prog w) A (execs body env) (TPost h₀ env.locals xk xt m₀ T1 (own ++ news) { s with heap := h, toks := tk }) E { s with heap := h, toks := tk })
    (turn1 : ∀ h tk own t vk tv, Fr h₀ env.locals h (fun y => if y = xk then some (.int 1 t) else map2 m₀ xk xt vk (some (.str T1 tv)) y) → News h₀ env.locals h (own ++ news) →
      wpAny (model prog w) A (execs body env) (TPost h₀ env.locals xk xt m₀ T2 (own ++ news) { s with heap := h, toks := tk }) E { s with heap := h, toks := tk })
    (turn2 : ∀ h tk own t vk tv, Fr h₀ env.locals h (fun y => if y = xk then some (.int 2 t) else map2 m₀ xk xt vk (some (.str T2 tv)) y) → News h₀ env.locals h (own ++ news) →
      wpAny (model prog w) A (execs body env) (TPost h₀ env.locals xk xt m₀ T3 (own ++ news) { s with heap := h, toks := tk }) E { s with heap := h, toks := tk })
    (done : ∀ h tk vk tv, Fr h₀ env.locals h (map2 m₀ xk xt vk (some (.str T3 tv))) → News h₀ env.locals h news → Q .next { s with heap := h, toks := tk }) :
    wpAny (model prog w) A (pyIter (.ref r)) (fun it s₂ => LoopAtV prog w A h₀ env xk body Q E it s₂) E s := by
  have e0 : pick4 T0 T1 T2 T3 0 = T0 := rfl
  have e1 : pick4 T0 T1 T2 T3 (0 + 1) = T1 := rfl
  have e2 : pick4 T0 T1 T2 T3 (1 + 1) = T2 := rfl
  have e3 : pick4 T0 T1 T2 T3 (2 + 1) = T3 := rfl
  have i0 : ((0 : Nat) : Int) = 0 := rfl
  have i1 : ((1 : Nat) : Int) = 1 := rfl
  have i2 : ((2 : Nat) : Int) = 2 := rfl
  generalize pick4 T0 T1 T2 T3 = T at e0 e1 e2 e3
  subst e0 e1 e2 e3
  refine text_loopT xk xt T hh hr hb F N ht ?_ done
  intro i h tk own t vk tv hi F₁ N₁
  have hc : i = 0 ∨ i = 1 ∨ i = 2 := by omega
  rcases hc with e | e | e
  · subst e
    rw [i0] at F₁
    exact turn0 h tk own t vk tv F₁ N₁
  · subst e
    rw [i1] at F₁
    exact turn1 h tk own t vk tv F₁ N₁
  · subst e
    rw [i2] at F₁
    exact turn2 h tk own t vk tv F₁ N₁
theorem end_item {value slice : Expr} {L D : Addr} {news : List (Addr × Obj)} {t0 t1 t2 u : Tok} {ep : Nat} {j : Int} {Q : Value → Shared → Prop} (N : News h₀ L s.heap news)
    (hm : (D, ({ cls := .type "tuple", data := .seq #[.str (Str.ofString "\n") t0, .str (Str.ofString "\r") t1, .str (Str.ofString "\r\n") t2] ep } : Obj)) ∈ news) (hj : 0 ≤ j ∧ j < 3) (h : ∀ t, (endS j).length ≤ 2 → Q (.str (endS j) t) s)
    (hs : subscripted slice false (.ref D) (.int j u) = operate [.ref D, .int j u] (getItem (.ref D) (.int j u)) := by with_unfolding_all rfl) :
    wpAny (model prog w) A (subscriptTail value slice (.ref D) (.int j u)) Q E s := by
  have h3 : j = 0 ∨ j = 1 ∨ j = 2 := by omega
  have ht := News.isTup N hm
  rcases h3 with rfl | rfl | rfl
  · exact item_tupleT (l := [_, _, _]) ht (by decide) (by decide) rfl rfl (h t0 (endS_len 0)) hs
  · exact item_tupleT (l := [_, _, _]) ht (by decide) (by decide) rfl rfl (h t1 (endS_len 1)) hs
  · exact item_tupleT (l := [_, _, _]) ht (by decide) (by decide) rfl rfl (h t2 (endS_len 2)) hs
end
theorem fm3 (x : Int) : 0 ≤ x.fmod 3 ∧ x.fmod 3 < 3 := ⟨Int.fmod_nonneg_of_pos x (by decide), Int.fmod_lt_of_pos x (by decide)⟩
end Mine

end
section
open PySem PySem.W PySem.Calls PyProof.Rows
set_option Elab.async false
namespace Mine
set_option maxRecDepth 100000

theorem all_local {scope : Scope} {binds : List (Str × Value)} (h : (binds.all fun y => scope.names.lookup y.1 == some .local) = true) : ∀ y ∈ binds, scope.names.lookup y.1 = some .local := fun y hy => by
  exact eq_of_beq (List.all_eq_true.mp h y hy)
local macro_rules | `(tactic| walk_at "enter G") => `(tactic| (refine' enter_plain ?k1 ?k2 ?k3 ?k5 ?kA ?kF ?kK ?k6 ?k7 ?k8 ?k9 ?kB ?_ ?c1 ?c2 ?c3 ?c4; (case kA => exact rfl); (case kF => exact rfl); (case kK => assumption); (case k1 => k_asm); (case k2 => k_asm); (case k3 => k_asm); (case k5 => k_asm); (case k6 => k_is); (case k7 => k_is); (case k8 => ktr_room); (case k9 => exact BindsTo.of_eq rfl); (case kB => exact all_local (by exact rfl)); (case c1 => decide +kernel); (case c2 => exact rfl); (case c3 => exact rfl); (case c4 => exact rfl); k_whole; intro L' h' F' N' B' X' T'; (try dsimp only); (try k_fold)))
section
variable {prog : Program} {w : World} {A : Around} {E : Value → Shared → Prop} {s : Shared} {x y z : Str} {t u v : Tok} {Q : Value → Shared → Prop} {K L : Nat}
theorem iaddB (hx : x.length ≤ K) (hy : y.length ≤ L) (hs : K + L ≤ 16777216) (h : ∀ t' k, (x ++ y).length ≤ K + L → Q (.str (x ++ y) t') { s with toks := k }) : wpAny (model prog w) A (inplaceOp .Add (.str x t) (.str y u)) Q E s :=
  SB.iadd (fun t' k => h t' k (len_add hx hy)) (by rw [sizeLine_eq]; omega)
theorem replB (hu : u ≠ 0) (hv : v ≠ 0) (huv : u ≠ v) (hyz : (y == z) = false) (hx : x.length ≤ 1000) (hz : z.length ≤ 14) (h : ∀ t' k, Q (.str (Txt.replace x y z) t') { s with toks := k }) : wpAny (model prog w) A (call (.builtin "str.replace") [.str x t, .str y u, .str z v]) Q E s :=
  SC.replaceW hu hv huv hyz (by omega) hz h
end
theorem dup_if (x : Str) (a b : Option Value) (m : Str → Option Value) : (fun y => if y = x then a else if y = x then b else m y) = fun y => if y = x then a else m y := by
  funext y
  by_cases h : y = x
  · rw [if_pos h, if_pos h]
  · rw [if_neg h, if_neg h, if_neg h]
theorem sz_le {x : Str} (h : x.length ≤ 1000) : x.length + 2 ≤ sizeLine := by
  rw [sizeLine_eq]
  omega

theorem par_ite {c : Prop} [Decidable c] {P R : Prop} (h1 : c → P) (h2 : ¬ c → R) : if c then P else R := by
  by_cases h : c
  · rw [if_pos h]; exact h1 h
  · rw [if_neg h]; exact h2 h
local macro_rules | `(tactic| walk_at "ite") => `(tactic| (k_here; (with_reducible show (if decide (Int.fmod _ 2 = 0) = true then _ else _)); (refine par_ite ?_ ?_); all_goals intro hpar'))
local macro_rules | `(tactic| walk_at "execs nil") => `(tactic| (k_here; (with_reducible refine wpAny_execs_nil ?_); try dsimp only))
local macro_rules | `(tactic| walk_at "execs cons") => `(tactic| (k_here; (with_reducible refine wpAny_execs_cons ?_); try dsimp only))
local macro_rules | `(tactic| walk_at "call builtin:str.replace") => `(tactic| (k_here; (refine replB (Nat.succ_ne_zero _) (Nat.succ_ne_zero _) (by omega) (by decide +kernel) (by with_reducible assumption) (by decide +kernel) ?_); intro t' k'))
local macro_rules | `(tactic| walk_at "inplaceOp Add str str") => `(tactic| (refine iaddB (by with_reducible assumption) (by with_reducible assumption) (by decide) ?_; intro t' k' hl'))
local macro_rules | `(tactic| walk_at "call ref") => `(tactic| (k_here; k_dflt (first | (refine' quotedata_tells _ _ _ _ ?hx _ _ _ _ _ _ _ _ _ _ _ _ _ _ _ _ _ _ _ _ _ _ rfl rfl ?B ?F ?X ?N ?T rfl ?hd ?hu ?_; (case B => k_asm); (case F => k_asm); (case X => k_asm); (case N => k_asm); (case T => k_asm); (case hx => exact Nat.le_trans (by with_reducible assumption) (by decide)); (case hd => ((try dsimp only [ktrTop, Around.deeper]); omega)); (case hu => ((try dsimp only [ktrTop, Around.deeper]); omega))) | (refine' dedent_tells _ _ _ _ _ _ _ _ _ _ _ ?hx ?hs ?h0 ?hls _ _ _ _ _ _ _ _ _ _ _ _ _ _ _ _ _ _ _ _ _ _ rfl rfl ?B ?F ?X ?N ?T rfl ?hd ?hu ?_; (case B => k_asm); (case F => k_asm); (case X => k_asm); (case N => k_asm); (case T => k_asm); (case hs => with_reducible assumption); (case h0 => with_reducible assumption); (case hls => with_reducible assumption); (case hx => with_reducible assumption); (case hd => ((try dsimp only [ktrTop, Around.deeper]); omega)); (case hu => ((try dsimp only [ktrTop, Around.deeper]); omega)))); intro h' t' k' hFN; (obtain ⟨F', N'⟩ := hFN); (try dsimp only)))
local macro_rules | `(tactic| walk_at "call builtin:str.split") => `(tactic| (k_here; (with_reducible show wpAny _ _ (call (Value.builtin "str.split") _) _ _ _); (refine KSpl.split1 (by k_asm) (by k_asm) (by decide) ?_ ?hsz; (case hsz => exact sz_le (by with_reducible assumption)); (intro D' l' h' k' e' a' F' N' l1; (have l2 := l1); (try k_lt l1); (first | (rename Txt.split (Txt.join _ _) _ = _ => hS; rw [hS] at e') | (rename Txt.split (Txt.join _ _) _ = _ => hS0; clear hS0; rename Txt.split (Txt.join _ _) _ = _ => hS; rw [hS] at e')); (rw [e'] at a')))))
local macro_rules | `(tactic| walk_at "subscriptTail Name Constant ref int") => `(tactic| (k_here; k_dflt (refine' item_at ?F ?hl ?h0 ?h1 ?hx ?_ ?hs; (case F => k_asm); (case hl => assumption); (case hx => rfl); (case h0 => decide); (case h1 => decide); (case hs => with_unfolding_all rfl)); (try dsimp only)))
local macro_rules | `(tactic| walk_at "subscriptTail Name BinOp ref int") => `(tactic| (k_here; k_dflt (first | (refine' item_at ?F ?hl ?h0 ?h1 ?hx ?_ ?hs; (case F => k_asm); (case hl => assumption); (case hx => rfl); (case h0 => decide); (case h1 => decide); (case hs => with_unfolding_all rfl)) | (refine' end_item ?N ?hm ?hj ?_ ?hs; (case N => k_asm); (case hm => k_mem); (case hj => exact fm3 _); (case hs => with_unfolding_all rfl); intro t' hl')); (try dsimp only)))
local macro_rules | `(tactic| walk_at "binaryOp Mult str int") => `(tactic| (first | (refine mulX (c := 46) (N := 8) (by decide +kernel) ?h0 ?hn (by decide) ?_; (case h0 => omega); (case hn => omega); intro t' k' hl') | (refine mulX (c := 32) (N := 9) (by decide +kernel) ?h0 ?hn (by decide) ?_; (case h0 => omega); (case hn => omega); intro t' k' hl')))
local macro_rules | `(tactic| walk_at "binaryOp Add str str") => `(tactic| (refine addB (by with_reducible assumption) (by with_reducible assumption) (by decide) ?_; intro t' k' hl'))
local macro_rules | `(tactic| walk_at "exec For Name Call") => `(tactic| (k_here; (with_reducible show wpAny _ _ (exec (Stmt.For _ (PySem.Expr.Call (PySem.Expr.Name _ _) _ _ _) _ _ _) _) _ _ _); k_dflt (refine' For_invVF ?F ?hx ?hp ?_ ?hs ?hE; (case F => k_asm); (case hx => exact rfl); (case hp => exact rfl); (case hs => (intro _; rfl)); (case hE => passes_own))))
local macro_rules | `(tactic| walk_at "exec For Name Call cons nil") => `(tactic| walk_at "exec For Name Call")
local macro_rules | `(tactic| walk_at "pyIter ref") => `(tactic| (k_here; refine Stop.of ?_))
set_option rowWalk.seconds 0 in
set_option maxHeartbeats 8000000 in
theorem taken_tells (w : World) (lr : Addr) (a b c count turn which : Int) (xs : List Value) (tw tc tt : Tok) (ha : 0 ≤ a ∧ a ≤ 8) (hb : 0 ≤ b ∧ b ≤ 8) (hc : 0 ≤ c ∧ c ≤ 8)
    (hxs : StrsAre xs (writtenL a b c)) (hwh : which = 0 ∨ which = 1 ∨ which = 2) (hcnt : 1 ≤ count ∧ count ≤ [a, b, c].getD which.toNat 0) (hturn : 0 ≤ turn ∧ turn ≤ 24) :
    TellG 2 PG w 96 [.ref lr, .int which tw, .int count tc, .int turn tt] (fun g => g.IsList lr xs.toArray) fun g keeps Q => ∀ h' l k ys ep, keeps h' → h'.get? l = some (listOf ys.toArray ep) → g.get? l = none →
      StrsAre ys (writtenL (if which = 0 then a - count else a) (if which = 1 then b - count else b) (if which = 2 then c - count else c)) → Q (.ref l) h' k := by
  have kf : Mine.hd.heap_39 = Mine.hd.heap_39 ∧ PySem.Challenge.rw_sc0023_01 = PySem.Challenge.rw_sc0023_01 := by k_fill; exact ⟨rfl, rfl⟩
  clear kf
  intro p loose mean mg mb dp un gd cn cs a0 ccd cl outer A₀ base h₀ L m s Q E hp hl B F X T hk hd hu hpre ret
  subst hp hl
  obtain ⟨g, gens, drawn, toks, os⟩ := s
  dsimp only at F hpre ret
  have hc8 : count ≤ 8 := by
    rcases hwh with rfl | rfl | rfl
    · have h : count ≤ a := hcnt.2
      omega
    · have h : count ≤ b := hcnt.2
      omega
    · have h : count ≤ c := hcnt.2
      omega
  have hc1 := hcnt.1
  obtain ⟨hDe, hDo⟩ := text_ok (turn := turn) (which := which) ha hb hc hc1 hc8 (fun e => by subst e; exact hcnt.2) (fun e => by subst e; exact hcnt.2) (fun e => by subst e; exact hcnt.2)
  have hr0 : (Str.ofString "\t").length ≤ 1 := by decide +kernel
  have hr1 : (rowS a nm1).length ≤ 10 := len_add (len_mul dotS_eq ha.1 (N := 8) (by omega)) (L := 2) (by decide +kernel)
  have hr2 : (rowS b nm2).length ≤ 10 := len_add (len_mul dotS_eq hb.1 (N := 8) (by omega)) (L := 2) (by decide +kernel)
  have hr3 : (rowS c nm3).length ≤ 10 := len_add (len_mul dotS_eq hc.1 (N := 8) (by omega)) (L := 2) (by decide +kernel)
  have hr4 : (Str.ofString ".").length ≤ 1 := by decide +kernel
  have hmg : (marS count).length ≤ 9 := len_mul blankS_eq (by omega) (by omega)
  have ht0 : (T0 count).length ≤ 10 := len_add hmg hr0
  replace hxs : StrsAre xs [Str.ofString "\t", rowS a nm1, rowS b nm2, rowS c nm3, Str.ofString "."] := hxs
  generalize rowS a nm1 = R1 at *
  generalize rowS b nm2 = R2 at *
  generalize rowS c nm3 = R3 at *
  rcases hxs with _ | ⟨_, tx0, hxs⟩
  rcases hxs with _ | ⟨_, tx1, hxs⟩
  rcases hxs with _ | ⟨_, tx2, hxs⟩
  rcases hxs with _ | ⟨_, tx3, hxs⟩
  rcases hxs with _ | ⟨_, tx4, hxs⟩
  cases hxs
  rcases hwh with rfl | rfl | rfl
  · have ht1 : (T1 0 count turn R1).length ≤ 22 := len_add (len_add ht0 (endS_len _)) hr1
    have ht2 : (T2 0 count turn R1 R2).length ≤ 43 := len_add (len_add (len_add ht1 (endS_len _)) hmg) hr2
    have ht3 : (T3 0 count turn R1 R2 R3).length ≤ 64 := len_add (len_add (len_add ht2 (endS_len _)) hmg) hr3
    have q1 : (T0 count ++ endS ((turn + 0).fmod 3)) ++ R1 = T1 0 count turn R1 := rfl
    have q2 : ((T1 0 count turn R1 ++ endS ((turn + 1).fmod 3)) ++ marS count) ++ R2 = T2 0 count turn R1 R2 := rfl
    have q3 : ((T2 0 count turn R1 R2 ++ endS ((turn + 2).fmod 3)) ++ marS count) ++ R3 = T3 0 count turn R1 R2 R3 := rfl
    unfold TX at hDe hDo
    have q0 : marS count ++ Str.ofString "\t" = T0 count := rfl
    generalize T3 0 count turn R1 R2 R3 = S3 at *
    generalize T2 0 count turn R1 R2 = S2 at *
    generalize T1 0 count turn R1 = S1 at *
    generalize T0 count = S0 at *
    obtain ⟨x0, x1, x2, x3, x4, xr, hD1, hD2, hD3, hD4, hD5, hD6⟩ := hDe
    obtain ⟨y0, y1, y2, y3, y4, yr, hO1, hO2, hO3, hO4, hO5, hO6⟩ := hDo
    refine wpAny_call ?_
    k_dflt walk_at "enter G"
    clear B F X T
    k_steps
    unfold Stop
    with_unfolding_all refine' text_loop (Str.ofString "text") S0 S1 S2 S3 ?hh ?hr ?hb ?F ?N ?ht ?turn0 ?turn1 ?turn2 ?done
    case hh => rfl
    case hr => assumption
    case hb => rfl
    case F =>
      rename Fr _ _ _ _ => F2
      rw [q0] at F2
      exact F2
    case N => k_asm
    case ht => rfl
    case turn0 =>
      intro h tk own t vk tv F₁ N₁
      k_steps
      refine' ⟨rfl, _, _, _, _, rfl, ?fr, ?nw⟩
      case nw => k_asm
      case fr =>
        rename Fr _ _ _ _ => F2
        rw [dup_if] at F2
        try rw [dup_if] at F2
        rw [map2_again, q1] at F2
        exact F2
    case turn1 =>
      intro h tk own t vk tv F₁ N₁
      k_steps
      refine' ⟨rfl, _, _, _, _, rfl, ?fr, ?nw⟩
      case nw => k_asm
      case fr =>
        rename Fr _ _ _ _ => F2
        rw [dup_if] at F2
        try rw [dup_if] at F2
        rw [map2_again, q2] at F2
        exact F2
    case turn2 =>
      intro h tk own t vk tv F₁ N₁
      k_steps
      refine' ⟨rfl, _, _, _, _, rfl, ?fr, ?nw⟩
      case nw => k_asm
      case fr =>
        rename Fr _ _ _ _ => F2
        rw [dup_if] at F2
        try rw [dup_if] at F2
        rw [map2_again, q3] at F2
        exact F2
    case done =>
      intro h tk vk tv F₁ N₁
      k_steps
      all_goals (have hN := news_head (by k_asm))
      all_goals exact ret _ _ _ _ _ (fr_keeps (by k_asm)) hN.1 hN.2 (by assumption)
  · have ht1 : (T1 1 count turn R1).length ≤ 31 := len_add (len_add (len_add ht0 (endS_len _)) hmg) hr1
    have ht2 : (T2 1 count turn R1 R2).length ≤ 43 := len_add (len_add ht1 (endS_len _)) hr2
    have ht3 : (T3 1 count turn R1 R2 R3).length ≤ 64 := len_add (len_add (len_add ht2 (endS_len _)) hmg) hr3
    have q1 : ((T0 count ++ endS ((turn + 0).fmod 3)) ++ marS count) ++ R1 = T1 1 count turn R1 := rfl
    have q2 : (T1 1 count turn R1 ++ endS ((turn + 1).fmod 3)) ++ R2 = T2 1 count turn R1 R2 := rfl
    have q3 : ((T2 1 count turn R1 R2 ++ endS ((turn + 2).fmod 3)) ++ marS count) ++ R3 = T3 1 count turn R1 R2 R3 := rfl
    unfold TX at hDe hDo
    have q0 : marS count ++ Str.ofString "\t" = T0 count := rfl
    generalize T3 1 count turn R1 R2 R3 = S3 at *
    generalize T2 1 count turn R1 R2 = S2 at *
    generalize T1 1 count turn R1 = S1 at *
    generalize T0 count = S0 at *
    obtain ⟨x0, x1, x2, x3, x4, xr, hD1, hD2, hD3, hD4, hD5, hD6⟩ := hDe
    obtain ⟨y0, y1, y2, y3, y4, yr, hO1, hO2, hO3, hO4, hO5, hO6⟩ := hDo
    refine wpAny_call ?_
    k_dflt walk_at "enter G"
    clear B F X T
    k_steps
    unfold Stop
    with_unfolding_all refine' text_loop (Str.ofString "text") S0 S1 S2 S3 ?hh ?hr ?hb ?F ?N ?ht ?turn0 ?turn1 ?turn2 ?done
    case hh => rfl
    case hr => assumption
    case hb => rfl
    case F =>
      rename Fr _ _ _ _ => F2
      rw [q0] at F2
      exact F2
    case N => k_asm
    case ht => rfl
    case turn0 =>
      intro h tk own t vk tv F₁ N₁
      k_steps
      refine' ⟨rfl, _, _, _, _, rfl, ?fr, ?nw⟩
      case nw => k_asm
      case fr =>
        rename Fr _ _ _ _ => F2
        rw [dup_if] at F2
        try rw [dup_if] at F2
        rw [map2_again, q1] at F2
        exact F2
    case turn1 =>
      intro h tk own t vk tv F₁ N₁
      k_steps
      refine' ⟨rfl, _, _, _, _, rfl, ?fr, ?nw⟩
      case nw => k_asm
      case fr =>
        rename Fr _ _ _ _ => F2
        rw [dup_if] at F2
        try rw [dup_if] at F2
        rw [map2_again, q2] at F2
        exact F2
    case turn2 =>
      intro h tk own t vk tv F₁ N₁
      k_steps
      refine' ⟨rfl, _, _, _, _, rfl, ?fr, ?nw⟩
      case nw => k_asm
      case fr =>
        rename Fr _ _ _ _ => F2
        rw [dup_if] at F2
        try rw [dup_if] at F2
        rw [map2_again, q3] at F2
        exact F2
    case done =>
      intro h tk vk tv F₁ N₁
      k_steps
      all_goals (have hN := news_head (by k_asm))
      all_goals exact ret _ _ _ _ _ (fr_keeps (by k_asm)) hN.1 hN.2 (by assumption)
  · have ht1 : (T1 2 count turn R1).length ≤ 31 := len_add (len_add (len_add ht0 (endS_len _)) hmg) hr1
    have ht2 : (T2 2 count turn R1 R2).length ≤ 52 := len_add (len_add (len_add ht1 (endS_len _)) hmg) hr2
    have ht3 : (T3 2 count turn R1 R2 R3).length ≤ 64 := len_add (len_add ht2 (endS_len _)) hr3
    have q1 : ((T0 count ++ endS ((turn + 0).fmod 3)) ++ marS count) ++ R1 = T1 2 count turn R1 := rfl
    have q2 : ((T1 2 count turn R1 ++ endS ((turn + 1).fmod 3)) ++ marS count) ++ R2 = T2 2 count turn R1 R2 := rfl
    have q3 : (T2 2 count turn R1 R2 ++ endS ((turn + 2).fmod 3)) ++ R3 = T3 2 count turn R1 R2 R3 := rfl
    unfold TX at hDe hDo
    have q0 : marS count ++ Str.ofString "\t" = T0 count := rfl
    generalize T3 2 count turn R1 R2 R3 = S3 at *
    generalize T2 2 count turn R1 R2 = S2 at *
    generalize T1 2 count turn R1 = S1 at *
    generalize T0 count = S0 at *
    obtain ⟨x0, x1, x2, x3, x4, xr, hD1, hD2, hD3, hD4, hD5, hD6⟩ := hDe
    obtain ⟨y0, y1, y2, y3, y4, yr, hO1, hO2, hO3, hO4, hO5, hO6⟩ := hDo
    refine wpAny_call ?_
    k_dflt walk_at "enter G"
    clear B F X T
    k_steps
    unfold Stop
    with_unfolding_all refine' text_loop (Str.ofString "text") S0 S1 S2 S3 ?hh ?hr ?hb ?F ?N ?ht ?turn0 ?turn1 ?turn2 ?done
    case hh => rfl
    case hr => assumption
    case hb => rfl
    case F =>
      rename Fr _ _ _ _ => F2
      rw [q0] at F2
      exact F2
    case N => k_asm
    case ht => rfl
    case turn0 =>
      intro h tk own t vk tv F₁ N₁
      k_steps
      refine' ⟨rfl, _, _, _, _, rfl, ?fr, ?nw⟩
      case nw => k_asm
      case fr =>
        rename Fr _ _ _ _ => F2
        rw [dup_if] at F2
        try rw [dup_if] at F2
        rw [map2_again, q1] at F2
        exact F2
    case turn1 =>
      intro h tk own t vk tv F₁ N₁
      k_steps
      refine' ⟨rfl, _, _, _, _, rfl, ?fr, ?nw⟩
      case nw => k_asm
      case fr =>
        rename Fr _ _ _ _ => F2
        rw [dup_if] at F2
        try rw [dup_if] at F2
        rw [map2_again, q2] at F2
        exact F2
    case turn2 =>
      intro h tk own t vk tv F₁ N₁
      k_steps
      refine' ⟨rfl, _, _, _, _, rfl, ?fr, ?nw⟩
      case nw => k_asm
      case fr =>
        rename Fr _ _ _ _ => F2
        rw [dup_if] at F2
        try rw [dup_if] at F2
        rw [map2_again, q3] at F2
        exact F2
    case done =>
      intro h tk vk tv F₁ N₁
      k_steps
      all_goals (have hN := news_head (by k_asm))
      all_goals exact ret _ _ _ _ _ (fr_keeps (by k_asm)) hN.1 hN.2 (by assumption)
end Mine

end
section
open PySem PySem.W PySem.Calls PyProof.Rows
set_option Elab.async false
namespace Mine
set_option maxRecDepth 100000
theorem ints_of : ∀ {xs : List Value}, (∀ v ∈ xs, ∃ n t, v = .int n t) → ∃ zs, IntsAre xs zs
  | [], _ => ⟨[], .nil⟩
  | v :: r, h => by
    obtain ⟨n, t, rfl⟩ := h v (.head _)
    obtain ⟨zs, hz⟩ := ints_of fun u hu => h u (.tail _ hu)
    exact ⟨n :: zs, .cons n t hz⟩
theorem of_ints {xs : List Value} {ns : List Int} (h : IntsAre xs ns) : ∀ v ∈ xs, ∃ n t, v = .int n t := by
  induction h with
  | nil => intro v hv; cases hv
  | cons n t _ ih =>
    intro v hv
    rcases List.mem_cons.mp hv with rfl | hv
    · exact ⟨n, t, rfl⟩
    · exact ih v hv
theorem pick_ints {vs : List Value} {ns : List Int} (hi : IntsAre vs ns) (lo hi' st : Option Int) : ∃ zs, IntsAre (slicePick vs.toArray lo hi' st).toList zs := by
  refine ints_of fun v hv => of_ints hi v ?_
  have h1 := hv
  unfold slicePick at h1
  rw [List.toList_toArray] at h1
  obtain ⟨j, _, e⟩ := List.mem_filterMap.mp h1
  have e2 : vs[j]? = some v := by simpa using e
  exact List.mem_of_getElem? e2
section
variable {prog : Program} {w : World} {A : Around} {E : Value → Shared → Prop} {s : Shared} {h₀ : Heap} {L l : Addr} {m : Str → Option Value} {news : List (Addr × Obj)} {vs : List Value} {ns : List Int} {vl vu vk : Value} {lo hi st : Option Int} {value slice : PySem.Expr} {ops : List Value} {Q : Value → Shared → Prop}
theorem pick_ints2 {vs : List Value} {ns : List Int} (hi : IntsAre vs ns) (lo hi' st : Option Int) : IntsAre (slicePick vs.toArray lo hi' st).toList (numsOf (slicePick vs.toArray lo hi' st).toList) := by
  obtain ⟨zs, h⟩ := pick_ints hi lo hi' st
  rw [IntsAre.numsOf h]
  exact h
theorem slice_fun (F : Fr h₀ L s.heap m) (N : News h₀ L s.heap news) (hl : s.heap.IsList l vs.toArray) (hv : IntsAre vs ns) (pl : IsPart vl lo) (pu : IsPart vu hi) (pk : IsPart vk st) (h0 : st ≠ some 0)
    (h : ∀ D h' xs, IntsAre xs (numsOf (slicePick vs.toArray lo hi st).toList) → Fr h₀ L h' m → News h₀ L h' ((D, listOf xs.toArray 0) :: news) → (∀ p ∈ news, p.1 < D) → Q (.ref D) { s with heap := h' })
    (hs : subscripted slice false (.ref l) (.ref s.heap.objs.size) = operate ops (getItem (.ref l) (.ref s.heap.objs.size))) (ht : ∀ r, letTemporaryGo value (.ref l) r = pure ()) (hz : vs.toArray.size ≤ sizeLine) :
    wpAny (model prog w) A (subscriptTail value slice (.ref l) (.ref s.heap.objs.size)) Q E { s with heap := s.heap.push { cls := .type "slice", data := .fields #[vl, vu, vk] } } :=
  kmk_slice3_lit F N hl pl pu pk h0 rfl (fun D h' F' N' l1 => h D h' _ (pick_ints2 hv lo hi st) F' N' l1) hs ht hz
theorem slice_step (F : Fr h₀ L s.heap m) (N : News h₀ L s.heap news) (hl : s.heap.IsList l vs.toArray) (hv : IntsAre vs ns) (pl : IsPart vl lo) (pu : IsPart vu hi) (pk : IsPart vk st) (h0 : st ≠ some 0)
    (h : ∀ D h' xs zs, IntsAre xs zs → Fr h₀ L h' m → News h₀ L h' ((D, listOf xs.toArray 0) :: news) → (∀ p ∈ news, p.1 < D) → Q (.ref D) { s with heap := h' })
    (hs : subscripted slice false (.ref l) (.ref s.heap.objs.size) = operate ops (getItem (.ref l) (.ref s.heap.objs.size))) (ht : ∀ r, letTemporaryGo value (.ref l) r = pure ()) (hz : vs.toArray.size ≤ sizeLine) :
    wpAny (model prog w) A (subscriptTail value slice (.ref l) (.ref s.heap.objs.size)) Q E { s with heap := s.heap.push { cls := .type "slice", data := .fields #[vl, vu, vk] } } := by
  obtain ⟨zs, hz'⟩ := pick_ints hv lo hi st
  refine kmk_slice3_lit F N hl pl pu pk h0 rfl (fun D h' F' N' l1 => ?_) hs ht hz
  exact h D h' _ zs hz' F' N' l1
end
end Mine

end
section
open PySem PySem.W PySem.Calls PyProof.Rows
set_option Elab.async false
namespace Mine
set_option maxRecDepth 100000

local macro_rules | `(tactic| walk_at "enter G") => `(tactic| (refine' enter_cells ?k1 ?k2 ?k3 ?k5 ?kA ?kF ?kK ?k6 ?k7 ?k8 ?k9 ?kB ?kD ?_ ?c2 ?c3 ?c4; (case kA => exact rfl); (case kF => exact rfl); (case kK => assumption); (case k1 => k_asm); (case k2 => k_asm); (case k3 => k_asm); (case k5 => k_asm); (case k6 => k_is); (case k7 => k_is); (case k8 => ktr_room); (case k9 => exact BindsTo.of_eq rfl); (case kB => exact rfl); (case kD => decide +kernel); (case c2 => exact rfl); (case c3 => exact rfl); (case c4 => exact rfl); k_whole; intro L' h' tk' cells' F' N' Y' B' X' T'; k_cells Y'; (try simp only [List.cons_append, List.nil_append] at N'); (try dsimp only); (try k_fold)))
local macro_rules | `(tactic| walk_at "subscriptTail Name Slice ref ref") => `(tactic| (k_here; k_dflt (refine' slice_fun ?F ?N ?l ?v ?p ?q ?k ?o ?_ ?s ?t ?z; (case F => k_asm); (case N => k_asm); (case l => kmk_list); (case v => with_reducible assumption); (case p => kmk_part); (case q => kmk_part); (case k => kmk_part); (case o => decide); (case s => with_unfolding_all rfl); (case t => kmk_pure); (case z => with_reducible assumption)); intro D' h' xs' hxz' F' N' l1; (try k_lt l1); (try k_sweep)))
local macro_rules | `(tactic| walk_at "call builtin:sum") => `(tactic| (k_here; k_dflt (refine' sumK ?k0 ?k1 ?k2 ?k3 ?k4 ?_; (case k0 => with_unfolding_all rfl); (case k1 => k_asm); (case k2 => k_asm); (case k3 => is_list); (case k4 => with_reducible assumption)); intro h' tk' t' F' N'))
set_option rowWalk.seconds 0 in
set_option maxHeartbeats 4000000 in
theorem numbers_tells (w : World) (ls : Addr) (vs : List Value) (ns : List Int) (hi : IntsAre vs ns) (hz : vs.toArray.size ≤ sizeLine) :
    TellG 1 PG w 74 [.ref ls] (fun g => g.IsList ls vs.toArray) fun g keeps Q => ∀ h' l k xs ep zs, keeps h' → h'.get? l = some (listOf xs.toArray ep) → g.get? l = none → IntsAre xs zs → zs.length = 8 → Q (.ref l) h' k := by
  have kf : Mine.hd.heap_39 = Mine.hd.heap_39 ∧ PySem.Challenge.rw_sc0023_01 = PySem.Challenge.rw_sc0023_01 := by k_fill; exact ⟨rfl, rfl⟩
  clear kf
  intro p loose mean mg mb dp un gd cn cs a0 ccd cl outer A₀ base h₀ L m s Q E hp hl B F X T hk hd hu hpre ret
  subst hp hl
  obtain ⟨g, gens, drawn, toks, os⟩ := s
  dsimp only at F hpre ret
  refine wpAny_call ?_
  k_dflt walk_at "enter G"
  clear B F X T
  k_steps
  have hN := news_head (by k_asm)
  exact ret _ _ _ _ _ _ (fr_keeps (by k_asm)) hN.1 hN.2 (by assumption) (by rfl)
end Mine

end
section
open PySem PySem.W
namespace Mine

def ansR (x y z : Int) : Int × Int :=
  let left := Builtin.bitXor (Builtin.bitXor x y) z
  let hs := r3.filter fun k => (([x, y, z].getD k.toNat 0).fdiv (2 ^ (highI left).toNat)).fmod 2 == 1
  if highI left = -1 then (-1, 0)
  else if decide (hs = []) = true then (-1, 0)
  else (hs.getD 0 0, [x, y, z].getD (hs.getD 0 0).toNat 0 - Builtin.bitXor ([x, y, z].getD (hs.getD 0 0).toNat 0) left)

theorem answer_eq (a b c : Int) : answer a b c = ansR (a.fmod 3) (b.fmod 3) (c.fmod 3) := rfl

def sub3 (x y z w n : Int) : Int × Int × Int := (if w = 0 then (x - n).fmod 3 else x, if w = 1 then (y - n).fmod 3 else y, if w = 2 then (z - n).fmod 3 else z)
def ansT (t : Int × Int × Int) : Int × Int := ansR t.1 t.2.1 t.2.2

theorem game_mine : ∀ x ∈ r3, ∀ y ∈ r3, ∀ z ∈ r3, ansR x y z ≠ (-1, 0) →
    ((ansR x y z).1 = 0 ∨ (ansR x y z).1 = 1 ∨ (ansR x y z).1 = 2) ∧ ((ansR x y z).2 = 1 ∨ (ansR x y z).2 = 2) ∧ (ansR x y z).2 ≤ [x, y, z].getD (ansR x y z).1.toNat 0 ∧
    ansT (sub3 x y z (ansR x y z).1 (ansR x y z).2) = (-1, 0) := by decide +kernel
theorem game_theirs : ∀ x ∈ r3, ∀ y ∈ r3, ∀ z ∈ r3, ansR x y z = (-1, 0) → ∀ w ∈ r3, ∀ n ∈ [(1 : Int), 2, 4, 8], ansT (sub3 x y z w n) ≠ (-1, 0) := by decide +kernel

theorem r3_mem {x : Int} : x ∈ r3 ↔ x = 0 ∨ x = 1 ∨ x = 2 := by
  simp [r3, List.range, List.range.loop]
theorem fmod_r3 (x : Int) : x.fmod 3 ∈ r3 := by
  have h1 := Int.fmod_nonneg_of_pos x (b := 3) (by decide)
  have h2 := Int.fmod_lt_of_pos x (b := 3) (by decide)
  rw [r3_mem]
  omega
theorem fmod_sub (a n : Int) : ((a.fmod 3) - n).fmod 3 = (a - n).fmod 3 := by
  rw [Int.fmod_eq_emod_of_nonneg _ (by decide), Int.fmod_eq_emod_of_nonneg _ (by decide), Int.fmod_eq_emod_of_nonneg _ (by decide)]
  omega
abbrev off (k w n a : Int) : Int := if w = k then a - n else a
theorem sub_fmod (a b c w n : Int) : sub3 (a.fmod 3) (b.fmod 3) (c.fmod 3) w n = ((off 0 w n a).fmod 3, (off 1 w n b).fmod 3, (off 2 w n c).fmod 3) := by
  unfold sub3 off
  have ff : ∀ x : Int, (x.fmod 3).fmod 3 = x.fmod 3 := fun x => by
    have := fmod_sub x 0
    simpa using this
  congr 1
  · split
    · exact fmod_sub a n
    · rfl
  · congr 1
    · split
      · exact fmod_sub b n
      · rfl
    · split
      · exact fmod_sub c n
      · rfl

theorem mod_le {a : Int} (h : 0 ≤ a) : a.fmod 3 ≤ a := by
  rw [Int.fmod_eq_emod_of_nonneg _ (by decide)]
  omega

/-- my turn: what the answer gives, and that it leaves the other side a lost place -/
theorem mine_turn {a b c : Int} (ha : 0 ≤ a) (hb : 0 ≤ b) (hc : 0 ≤ c) (h : answer a b c ≠ (-1, 0)) :
    ((answer a b c).1 = 0 ∨ (answer a b c).1 = 1 ∨ (answer a b c).1 = 2) ∧ ((answer a b c).2 = 1 ∨ (answer a b c).2 = 2) ∧ (answer a b c).2 ≤ [a, b, c].getD (answer a b c).1.toNat 0 ∧
    answer (off 0 (answer a b c).1 (answer a b c).2 a) (off 1 (answer a b c).1 (answer a b c).2 b) (off 2 (answer a b c).1 (answer a b c).2 c) = (-1, 0) := by
  have g := game_mine _ (fmod_r3 a) _ (fmod_r3 b) _ (fmod_r3 c) h
  rw [sub_fmod] at g
  have e := answer_eq a b c
  rw [← e] at g
  obtain ⟨g1, g2, g3, g4⟩ := g
  refine ⟨g1, g2, ?_, g4⟩
  refine Int.le_trans g3 ?_
  rcases g1 with e1 | e1 | e1 <;> rw [e1]
  · exact mod_le ha
  · exact mod_le hb
  · exact mod_le hc
theorem their_turn {a b c w n : Int} (h : answer a b c = (-1, 0)) (hw : w = 0 ∨ w = 1 ∨ w = 2) (hn : n = 1 ∨ n = 2 ∨ n = 4 ∨ n = 8) : answer (off 0 w n a) (off 1 w n b) (off 2 w n c) ≠ (-1, 0) := by
  have g := game_theirs _ (fmod_r3 a) _ (fmod_r3 b) _ (fmod_r3 c) h w (r3_mem.mpr hw) n (by simpa using hn)
  rw [sub_fmod] at g
  exact g
theorem answer_zero : answer 0 0 0 = (-1, 0) := by decide +kernel
end Mine

end
section
open PySem PySem.W
namespace Mine
theorem single_shift : ∀ f ∈ List.range 100, ∀ x ∈ [(0 : Int), 1, 2, 3, 4, 5, 6, 7, 8], singleB (x * 2 ^ f) = singleB x := by decide +kernel
theorem high_shift : ∀ f ∈ List.range 100, ∀ x ∈ [(1 : Int), 2, 3, 4, 5, 6, 7, 8], highI (x * 2 ^ f) = (f : Int) + highI x := by decide +kernel
theorem single_vals : ∀ x ∈ [(1 : Int), 2, 4, 8], singleB x = true ∧ singleB (-x) = false := by decide +kernel
end Mine

end
section
open PySem PySem.W PySem.Calls PyProof.Rows
set_option Elab.async false
namespace Mine
set_option maxRecDepth 100000

theorem tellG_add {h₀ g h' : Heap} {L l : Addr} {m : Str → Option Value} {news : List (Addr × Obj)} {o : Obj} (F : Fr h₀ L g m) (N : News h₀ L g news) (hk : ∀ b o, g.get? b = some o → h'.get? b = some o) (hg : h'.get? l = some o) (hn : g.get? l = none) :
    Fr h₀ L h' m ∧ News h₀ L h' ((l, o) :: news) ∧ ∀ p ∈ news, p.1 ≠ l := by
  refine ⟨F.keeps hk, fun p hp => ?_, fun p hp e => ?_⟩
  · rcases List.mem_cons.mp hp with rfl | hp
    · refine ⟨hg, ?_, ?_⟩
      · intro e
        have e' : l = L := e
        obtain ⟨o', _, _, h1, _⟩ := F.ns
        rw [← e', hn] at h1
        cases h1
      · cases h : h₀.get? l with
        | none => rfl
        | some o' =>
          have := F.keep l o' h
          rw [hn] at this
          cases this
    · exact ⟨hk _ _ (N p hp).1, (N p hp).2⟩
  · have := (N p hp).1
    rw [e, hn] at this
    cases this
end Mine

end
section
open PySem PySem.W PySem.Calls PyProof.Rows
namespace Mine
set_option maxRecDepth 100000

def lawBody : List Stmt := match PySem.Challenge.pw_sc0023_01.main.body.getLast? with | some (.FunctionDef _ _ b _ _ _ _ _ _ _) => b | _ => []
def lawScope : Scope := match PySem.Challenge.pw_sc0023_01.main.body.getLast? with | some (.FunctionDef _ _ _ _ _ _ sc _ _ _) => sc | _ => default
def loopBody : List Stmt := match lawBody with | [_, _, _, _, .For _ _ b _ _, _] => b | _ => []
def branch : Stmt := match loopBody with | st :: _ => st | _ => .Pass default
def tailBody : List Stmt := match loopBody with | _ :: r => r | _ => []
abbrev lawEnv (L fa : Addr) (cd : Value) : Env := envOfC (Str.ofString "law") lawScope L fa cd
noncomputable abbrev lawA (L fa : Addr) (cd : Value) : Around := callerA.deeper (lawEnv L fa cd)

theorem ovr_self {m : Str → Option Value} {x : Str} {v : Value} (h : m x = some v) : (fun y => if y = x then some v else m y) = m := by
  funext y
  by_cases e : y = x
  · rw [if_pos e, e, h]
  · rw [if_neg e]
theorem ovr_fr {h₀ h : Heap} {L : Addr} {m : Str → Option Value} {x : Str} {v : Value} (F : Fr h₀ L h m) (e : m x = some v) : Fr h₀ L h (fun y => if y = x then some v else m y) := by
  rw [ovr_self e]
  exact F

section
variable {M : Model} {A : Around} {E : Value → Shared → Prop} {s : Shared} {env : Env} {st : Stmt} {rest : List Stmt}
/-- one statement, what it leaves, then the rest -/
theorem exec_cut {Q : Flow → Shared → Prop} (Mid : Shared → Prop) (h1 : wpAny M A (exec st env) (fun f s' => (f = .next ∧ Mid s') ∨ ∃ v, f = .ret v ∧ Q (.ret v) s') E s)
    (h2 : ∀ s', Mid s' → wpAny M A (execs rest env) Q E s') : wpAny M A (execs (st :: rest) env) Q E s := by
  refine wpAny_execs_cons (wpAny_mono h1 ?_ fun _ _ e => e)
  rintro f s' (⟨rfl, hm⟩ | ⟨v, rfl, hq⟩)
  · exact h2 s' hm
  · exact hq
end
end Mine

end
section
open PySem PySem.W PySem.Calls PyProof.Rows
set_option Elab.async false
namespace Mine
set_option maxRecDepth 100000

section
variable {prog : Program} {w : World} {A : Around} {E : Value → Shared → Prop} {s : Shared} {env : Env} {h₀ : Heap} {x : Str} {body : List Stmt} {Q : Flow → Shared → Prop}
/-- the same loop; the iterator stands in the ledger as one entry -/
theorem range_loopI {r : Addr} {b₀ : Int} {t₀ u₀ v₀ : Tok} {n : Nat} {m₀ : Str → Option Value} {news : List (Addr × Obj)} (J : Nat → (Str → Option Value) → List (Addr × Obj) → Prop)
    (hh : A.handled = none) (hr : IsRange s.heap r 0 b₀ 1 t₀ u₀ v₀) (hsmall : Builtin.Range.small 0 b₀ 1 = true) (hn : Builtin.Range.rangeSize 0 b₀ 1 = (n : Int)) (F : Fr h₀ env.locals s.heap m₀) (N : News h₀ env.locals s.heap news) (hj : J 0 m₀ news)
    (turn : ∀ i m₁ nx h tk I oI t, i < n → J i m₁ nx → (∀ p ∈ nx, p.1 ≠ I) → Fr h₀ env.locals h (fun y => if y = x then some (.int (i : Int) t) else m₁ y) → News h₀ env.locals h ((I, oI) :: nx) →
      wpAny (model prog w) A (execs body env) (RPost h₀ env.locals (J (i + 1)) [(I, oI)] I { s with heap := h, toks := tk } Q) E { s with heap := h, toks := tk })
    (done : ∀ m₁ nx h tk, J n m₁ nx → Fr h₀ env.locals h m₁ → News h₀ env.locals h nx → Q .next { s with heap := h, toks := tk }) :
    wpAny (model prog w) A (pyIter (.ref r)) (fun it s₂ => LoopAtV prog w A h₀ env x body Q E it s₂) E s := by
  refine wpAny_pyIter_range hr hsmall ?_
  have W : Walks prog w A s.heap.objs.size [s.heap.objs.size] [s.heap.objs.size] n (fun i v => i < n ∧ ∃ t, v = .int (0 + i * 1) t)
      (fun i h => IsRangeIter h s.heap.objs.size (0 + (i : Nat) * 1) ((n : Int) - (i : Nat)) 1) := (Walks.range hh _ 0 1 n).bound
  refine ⟨s.heap.objs.size, _, _, n, _, _, m₀, news, J, rfl, W, ?_, ?_, ?_, (by show IsRangeIter _ _ _ _ _; rw [hn]; simpa using Heap.get?_push_size _ rfl), F.push _, (fun p hp => ⟨Heap.get?_push_of_some _ (N p hp).1, (N p hp).2⟩), hj, ?_, ?_⟩
  · intro hm
    exact absurd F.ns.lt ((List.mem_singleton.mp hm) ▸ Nat.lt_irrefl _)
  · intro b hb
    rw [List.mem_singleton.mp hb]
    exact next_is_new F
  · intro p hp hI
    exact absurd (Heap.lt_size (N p hp).1) ((List.mem_singleton.mp hI) ▸ Nat.lt_irrefl _)
  · rintro i v m₁ news₁ s₁ own ⟨hh', tk', rfl⟩ hin ⟨_, t, rfl⟩ hJ hoff hown hget _ hSt F₁ N₁
    have e1 : 0 + (i : Int) * 1 = (i : Int) := by omega
    rw [e1] at F₁
    have hIL : s.heap.objs.size ≠ env.locals := fun e => absurd F.ns.lt (by rw [e]; exact Nat.lt_irrefl _)
    have hI0 : h₀.get? s.heap.objs.size = none := next_is_new F
    have hSt' : ∃ o, hh'.get? s.heap.objs.size = some o := ⟨_, hSt⟩
    obtain ⟨oI, hoI⟩ := hSt'
    have N₂ : News h₀ env.locals hh' ((s.heap.objs.size, oI) :: news₁) := fun p hp => by
      rcases List.mem_cons.mp hp with rfl | hp
      · exact ⟨hoI, hIL, hI0⟩
      · exact N₁ p (List.mem_append_right _ hp)
    refine wpAny_mono (turn i m₁ news₁ hh' tk' s.heap.objs.size oI t hin hJ (fun p hp e => hoff p hp (List.mem_singleton.mpr e)) F₁ N₂) (fun f s₂ p => ?_) fun _ _ e => e
    have fin : (∃ h' tk m' nx, s₂ = { ({ s with heap := hh', toks := tk' } : Shared) with heap := h', toks := tk } ∧ Fr h₀ env.locals h' m' ∧ News h₀ env.locals h' ([(s.heap.objs.size, oI)] ++ nx) ∧ (∀ p ∈ nx, p.1 ≠ s.heap.objs.size) ∧ J (i + 1) m' nx) →
        LoopStepU h₀ env.locals [s.heap.objs.size] own (J (i + 1)) { s with heap := hh', toks := tk' } .next s₂ := by
      rintro ⟨h', tk, m', nx, e, F', N', ho, hJ'⟩
      refine ⟨rfl, h', tk, m', nx, e, F', fun p hp => ?_, fun p hp hq => ho p hp (List.mem_singleton.mp hq), hJ'⟩
      rcases List.mem_append.mp hp with hp | hp
      · have e1 := List.mem_singleton.mp (hown p hp)
        have e2 := (N₁ p (List.mem_append_left _ hp)).1
        obtain ⟨p1, p2⟩ := p
        dsimp only at e1 e2
        subst e1
        rw [hoI] at e2
        cases e2
        exact N' _ (List.mem_append_left _ (.head _))
      · exact N' p (List.mem_append_right _ hp)
    cases f with
    | ret v => exact .ret p
    | brk => exact p.elim
    | next => exact .next (fin p)
    | cont => exact .cont (fin p)
  · intro h' tk m' news' F' N' _ hJ
    exact done m' news' h' tk hJ F' N'
end
end Mine

end
section
open PySem PySem.W PySem.Calls PyProof.Rows
set_option Elab.async false
namespace Mine
set_option maxRecDepth 100000

def mineB (a b c : Int) : Bool := !((answer a b c).1 == -1 && (answer a b c).2 == 0)
theorem mineB_true {a b c : Int} (h : mineB a b c = true) : answer a b c ≠ (-1, 0) := by
  intro e
  unfold mineB at h
  rw [e] at h
  cases h
theorem mineB_false {a b c : Int} (h : mineB a b c = false) : answer a b c = (-1, 0) := by
  unfold mineB at h
  simp only [Bool.not_eq_false', Bool.and_eq_true, beq_iff_eq] at h
  exact Prod.ext h.1 h.2
theorem mineB_of {a b c : Int} (h : answer a b c = (-1, 0)) : mineB a b c = false := by
  unfold mineB
  rw [h]
  rfl
theorem mineB_ne {a b c : Int} (h : answer a b c ≠ (-1, 0)) : mineB a b c = true := by
  cases e : mineB a b c with
  | true => rfl
  | false => exact absurd (mineB_false e) h
theorem mineB_zero : mineB 0 0 0 = false := mineB_of answer_zero
theorem mine_eq {i n a b c : Int} (h : (i, n) = answer a b c) : (!(i == -1 && n == 0)) = mineB a b c := by
  unfold mineB
  rw [← h]

/-- the state between the turns -/
def LJ (L an : Addr) (no : Obj) (i : Nat) (m : Str → Option Value) (nx : List (Addr × Obj)) : Prop :=
  ∃ (a b c : Int) (ta tb tc : Tok) (ad ar : Addr) (ed er : Nat) (rs : List Value) (w0 w1 w2 : Obj) (v0 v1 v2 : Option Value),
    nx = [(ar, listOf rs.toArray er), (ad, listOf #[.int a ta, .int b tb, .int c tc] ed), (an, no), (L + 1 + 1 + 1, w2), (L + 1 + 1, w1), (L + 1, w0)] ∧
    (0 ≤ a ∧ a ≤ 8) ∧ (0 ≤ b ∧ b ≤ 8) ∧ (0 ≤ c ∧ c ≤ 8) ∧ a + b + c + (i : Int) ≤ 24 ∧ StrsAre rs (writtenL a b c) ∧
    (w0.data = .cell v0 ∧ w1.data = .cell v1 ∧ w2.data = .cell v2) ∧
    (m (Str.ofString "numbers") = some (.ref an) ∧ m (Str.ofString "dots") = some (.ref ad) ∧ m (Str.ofString "rows") = some (.ref ar) ∧ m (Str.ofString "mine") = some (.bool (mineB a b c))) ∧
    (@Ne Nat ar (L + 1 + 1 + 1) ∧ @Ne Nat ar (L + 1 + 1) ∧ @Ne Nat ar (L + 1)) ∧ (@Ne Nat ad (L + 1 + 1 + 1) ∧ @Ne Nat ad (L + 1 + 1) ∧ @Ne Nat ad (L + 1)) ∧ (@Ne Nat an (L + 1 + 1 + 1) ∧ @Ne Nat an (L + 1 + 1) ∧ @Ne Nat an (L + 1))

theorem ints8 {xs : List Value} {zs : List Int} (h : IntsAre xs zs) (hl : zs.length = 8) : ∃ (z0 z1 z2 z3 z4 z5 z6 z7 : Int) (t0 t1 t2 t3 t4 t5 t6 t7 : Tok), xs = [.int z0 t0, .int z1 t1, .int z2 t2, .int z3 t3, .int z4 t4, .int z5 t5, .int z6 t6, .int z7 t7] := by
  rcases h with _ | ⟨z0, t0, h⟩; · cases hl
  rcases h with _ | ⟨z1, t1, h⟩; · cases hl
  rcases h with _ | ⟨z2, t2, h⟩; · cases hl
  rcases h with _ | ⟨z3, t3, h⟩; · cases hl
  rcases h with _ | ⟨z4, t4, h⟩; · cases hl
  rcases h with _ | ⟨z5, t5, h⟩; · cases hl
  rcases h with _ | ⟨z6, t6, h⟩; · cases hl
  rcases h with _ | ⟨z7, t7, h⟩; · cases hl
  cases h with
  | nil => exact ⟨_, _, _, _, _, _, _, _, _, _, _, _, _, _, _, _, rfl⟩
  | cons _ _ _ => cases hl
theorem dots_ok (z : Int) : 0 ≤ 1 + z.fmod 8 ∧ 1 + z.fmod 8 ≤ 8 := by
  have h1 := Int.fmod_nonneg_of_pos z (b := 8) (by decide)
  have h2 := Int.fmod_lt_of_pos z (b := 8) (by decide)
  omega
theorem sz63 {vs : List Value} {ns : List Int} (h : IntsAre vs ns) (hn : ¬ ((63 : Nat) : Int) < (ns.length : Int)) : vs.toArray.size ≤ sizeLine := by
  have := h.length
  rw [List.size_toArray, sizeLine_eq]
  omega
noncomputable def AllNe (d : Nat) : List (Addr × Obj) → Prop
  | [] => True
  | p :: r => @Ne Nat p.1 d ∧ AllNe d r
theorem allNe_of {d : Addr} : ∀ {l : List (Addr × Obj)}, (∀ p ∈ l, p.1 ≠ d) → AllNe d l
  | [], _ => trivial
  | p :: _, h => ⟨h p (.head _), allNe_of fun q hq => h q (.tail _ hq)⟩
/-- of the ledger what is named -/
theorem news_sub {g h : Heap} {L : Addr} {nx ny : List (Addr × Obj)} (N : News g L h nx) (hs : ∀ p ∈ ny, p ∈ nx) : News g L h ny := fun p hp => N p (hs p hp)
end Mine

end
section
open PySem PySem.W PySem.Calls PyProof.Rows
set_option Elab.async false
namespace Mine
set_option maxRecDepth 100000

/-- what the branch leaves: a taking -/
def Mid (h₀ : Heap) (L an : Addr) (no : Obj) (I : Addr) (oI : Obj) (ad ar : Addr) (od orr : Obj) (a b c i : Int) (t : Tok) (gens : Array GenState) (drawn : Drawn) (os : OsState) (s' : Shared) : Prop :=
  ∃ (h' : Heap) (tk : Nat) (m : Str → Option Value) (w0 w1 w2 : Obj) (v0 v1 v2 : Option Value) (wh ct : Int) (tw tc : Tok),
    s' = { heap := h', gens := gens, drawn := drawn, toks := tk, os := os } ∧ Fr h₀ L h' m ∧
    News h₀ L h' [(I, oI), (ar, orr), (ad, od), (an, no), (L + 1 + 1 + 1, w2), (L + 1 + 1, w1), (L + 1, w0)] ∧
    (w0.data = .cell v0 ∧ w1.data = .cell v1 ∧ w2.data = .cell v2) ∧
    (m (Str.ofString "numbers") = some (.ref an) ∧ m (Str.ofString "dots") = some (.ref ad) ∧ m (Str.ofString "rows") = some (.ref ar) ∧ m (Str.ofString "mine") = some (.bool (mineB a b c)) ∧
      m (Str.ofString "turn") = some (.int i t) ∧ m (Str.ofString "which") = some (.int wh tw) ∧ m (Str.ofString "count") = some (.int ct tc)) ∧
    (wh = 0 ∨ wh = 1 ∨ wh = 2) ∧ (ct = 1 ∨ ct = 2 ∨ ct = 4 ∨ ct = 8) ∧ ct ≤ [a, b, c].getD wh.toNat 0 ∧
    mineB (off 0 wh ct a) (off 1 wh ct b) (off 2 wh ct c) = !mineB a b c
def BPost (h₀ : Heap) (L an : Addr) (no : Obj) (I : Addr) (oI : Obj) (ad ar : Addr) (od orr : Obj) (a b c i : Int) (t : Tok) (gens : Array GenState) (drawn : Drawn) (os : OsState) (Q : Flow → Shared → Prop) (f : Flow) (s' : Shared) : Prop :=
  (f = .next ∧ Mid h₀ L an no I oI ad ar od orr a b c i t gens drawn os s') ∨ ∃ v, f = .ret v ∧ Q (.ret v) s'

local macro_rules | `(tactic| walk_at "call ref") => `(tactic| (k_here; refine Stop.of ?_))
set_option rowWalk.seconds 0 in
set_option maxHeartbeats 8000000 in
theorem branch_mine {w : World} {mean : ExcName → Option Value} {mg mb : Str → Option Value} {h₀ : Heap} {L fa : Addr} {cd : Value} {Q : Flow → Shared → Prop} {E : Value → Shared → Prop} {gens : Array GenState} {drawn : Drawn} {os : OsState}
    {an : Addr} {no : Obj} (B : Below callerA h₀ [] h₀) (X : (Mine.hd.heap_39 w.params).In h₀) (T : Top Mine.hd.view_39 LO mean mg mb h₀)
    {g : Heap} {tk : Nat} {I : Addr} {oI : Obj} {t : Tok} {i a b c : Int} {ta tb tc : Tok} {ad ar : Addr} {ed : Nat} {orr : Obj} {w0 w1 w2 : Obj} {v0 v1 v2 : Option Value} {mb' : Str → Option Value}
    (ha : 0 ≤ a ∧ a ≤ 8) (hb : 0 ≤ b ∧ b ≤ 8) (hc : 0 ≤ c ∧ c ≤ 8) (hm : mineB a b c = true)
    (hw0 : w0.data = .cell v0) (hw1 : w1.data = .cell v1) (hw2 : w2.data = .cell v2)
    (F : Fr h₀ L g (fun y => if y = Str.ofString "turn" then some (.int i t) else if y = Str.ofString "mine" then some (.bool true) else if y = Str.ofString "rows" then some (.ref ar) else if y = Str.ofString "dots" then some (.ref ad) else if y = Str.ofString "numbers" then some (.ref an) else mb' y))
    (N : News h₀ L g [(I, oI), (ar, orr), (ad, listOf #[.int a ta, .int b tb, .int c tc] ed), (an, no), (L + 1 + 1 + 1, w2), (L + 1 + 1, w1), (L + 1, w0)]) :
    wpAny (model PG w) (lawA L fa cd) (exec branch (lawEnv L fa cd)) (BPost h₀ L an no I oI ad ar (listOf #[.int a ta, .int b tb, .int c tc] ed) orr a b c i t gens drawn os Q) E { heap := g, gens := gens, drawn := drawn, toks := tk, os := os } := by
  have kf : Mine.hd.heap_39 = Mine.hd.heap_39 ∧ PySem.Challenge.rw_sc0023_01 = PySem.Challenge.rw_sc0023_01 := by k_fill; exact ⟨rfl, rfl⟩
  clear kf
  change wpAny _ (callerA.deeper (envOfC (Str.ofString "law") { kind := _, names := _, isGenerator := _, isCoroutine := _, more := _ } L fa cd)) (exec (.If (.Name _ _) _ _ _) (envOfC (Str.ofString "law") { kind := _, names := _, isGenerator := _, isCoroutine := _, more := _ } L fa cd)) _ _ _
  k_steps
  change wpAny _ _ _ _ _ _
  refine' answer_tells _ _ a b c ta tb tc ha hb hc _ _ _ _ _ _ _ _ _ _ _ _ _ _ _ _ _ _ _ _ _ _ rfl rfl ?B ?F ?X ?T rfl ?hd ?hu ?pre ?_
  case B => k_asm
  case F => k_asm
  case X => k_asm
  case T => k_asm
  case hd => decide
  case hu => decide
  case pre => is_list
  intro h3 l3 k3 i3 n3 ti3 tn3 ep3 hk3 hg3 hn3 he3
  obtain ⟨F3, N3, hne3⟩ := tellG_add (by k_asm) (by k_asm) hk3 hg3 hn3
  clear hk3 hg3 hn3
  replace hne3 := allNe_of hne3
  simp only [AllNe, and_true] at hne3
  k_steps
  obtain ⟨g1, g2, g3, g4⟩ := mine_turn ha.1 hb.1 hc.1 (mineB_true hm)
  have e1 : i3 = (answer a b c).1 := congrArg Prod.fst he3
  have e2 : n3 = (answer a b c).2 := congrArg Prod.snd he3
  rw [← e1, ← e2] at g3 g4
  rw [← e1] at g1
  rw [← e2] at g2
  refine Or.inl ⟨rfl, _, _, _, w0, w1, w2, v0, v1, v2, i3, n3, _, _, rfl, by k_asm, ?_, ⟨hw0, hw1, hw2⟩, ⟨rfl, rfl, rfl, by rw [hm]; rfl, rfl, rfl, rfl⟩, g1, ?_, g3, ?_⟩
  · refine news_sub (by assumption) ?_
    refine List.forall_mem_cons.mpr ⟨by k_mem, List.forall_mem_cons.mpr ⟨by k_mem, List.forall_mem_cons.mpr ⟨by k_mem, List.forall_mem_cons.mpr ⟨by k_mem, List.forall_mem_cons.mpr ⟨by k_mem, List.forall_mem_cons.mpr ⟨by k_mem, List.forall_mem_cons.mpr ⟨by k_mem, List.forall_mem_nil _⟩⟩⟩⟩⟩⟩⟩
  · rcases g2 with e | e
    · exact .inl e
    · exact .inr (.inl e)
  · rw [mineB_of g4, hm]
    rfl
end Mine

end
section
open PySem PySem.W PySem.Calls PyProof.Rows PyProof.V PySem.Spec
set_option Elab.async false
namespace Mine
set_option maxRecDepth 100000

theorem cs_lay : ∀ ns : List Str, (∀ x ∈ ns, PyData.strOk x = true) → PyData.canLayAll0 (ns.map PyData.str) = true
  | [], _ => rfl
  | x :: r, h => by simp [PyData.canLayAll0, PyData.canLay0, h x (.head _), cs_lay r fun y hy => h y (.tail _ hy)]
theorem cs_depth : ∀ ns : List Str, PyData.depthAll (ns.map PyData.str) = 0
  | [] => rfl
  | _ :: r => by simp [PyData.depthAll, PyData.depth, cs_depth r]
theorem cs_shaped (ns : List Str) (h : ∀ x ∈ ns, PyData.strOk x = true) : SeqAt.shaped (.list (ns.map PyData.str)) = true := by
  simp [SeqAt.shaped, PyData.canLay0, PyData.depth, cs_lay ns h, cs_depth]
theorem strOk_of {x : Str} (h : ∀ c ∈ x.cps.toList, c < 200) : PyData.strOk x = true := by
  unfold PyData.strOk
  rw [← Array.all_toList, List.all_eq_true]
  intro c hc
  have := h c hc
  simp only [decide_eq_true_eq]
  omega
theorem row_ok {a : Int} (ha : 0 ≤ a) (y : Str) (hy : ∀ c ∈ y.cps.toList, c < 200) : PyData.strOk (rowS a y) = true := by
  refine strOk_of fun c hc => ?_
  rw [row_list ha] at hc
  rcases List.mem_append.mp hc with h | h
  · have := List.eq_of_mem_replicate h
    omega
  · exact hy c h
theorem written_ok {a b c : Int} (ha : 0 ≤ a) (hb : 0 ≤ b) (hc : 0 ≤ c) : ∀ x ∈ writtenL a b c, PyData.strOk x = true := by
  intro x hx
  unfold writtenL at hx
  simp only [List.mem_cons, List.not_mem_nil, or_false] at hx
  rcases hx with rfl | rfl | rfl | rfl | rfl
  · decide +kernel
  · exact row_ok ha _ (by decide +kernel)
  · exact row_ok hb _ (by decide +kernel)
  · exact row_ok hc _ (by decide +kernel)
  · decide +kernel
theorem cs_same : ∀ ns : List Str, PySem.Spec.sameAll (ns.map PyData.str) (ns.map PyData.str) = true
  | [] => by simp [PySem.Spec.sameAll]
  | a :: r => by
    simp only [List.map_cons, PySem.Spec.sameAll, PySem.Spec.same, cs_same r]
    simp
theorem cs_carried : ∀ {vs : List Value} {ns : List Str}, StrsAre vs ns → CarriedAll vs (ns.map PyData.str)
  | _, _, .nil => .nil
  | _, _, .cons _ t r => .cons (.str _ t) (cs_carried r)
theorem cb_lay : ∀ ns : List Bool, PyData.canLayAll0 (ns.map PyData.bool) = true
  | [] => rfl
  | _ :: r => by simp [PyData.canLayAll0, PyData.canLay0, cb_lay r]
theorem cb_depth : ∀ ns : List Bool, PyData.depthAll (ns.map PyData.bool) = 0
  | [] => rfl
  | _ :: r => by simp [PyData.depthAll, PyData.depth, cb_depth r]
theorem cb_shaped (ns : List Bool) : SeqAt.shaped (.list (ns.map PyData.bool)) = true := by
  simp [SeqAt.shaped, PyData.canLay0, PyData.depth, cb_lay, cb_depth]
theorem cb_same : ∀ ns : List Bool, PySem.Spec.sameAll (ns.map PyData.bool) (ns.map PyData.bool) = true
  | [] => by simp [PySem.Spec.sameAll]
  | a :: r => by
    simp only [List.map_cons, PySem.Spec.sameAll, PySem.Spec.same, cb_same r]
    simp
theorem cb_carried : ∀ (ns : List Bool), CarriedAll (ns.map Value.bool) (ns.map PyData.bool)
  | [] => .nil
  | b :: r => .cons (.bool b) (cb_carried r)
section
variable {prog : Program} {w : World} {A : Around} {E : Value → Shared → Prop} {s : Shared} {a b : Addr} {xs ys : List Value} {ss : List Str} {bs : List Bool} {Q : Value → Shared → Prop}
/-- two lists of the same texts do not differ -/
theorem ne_strs (ha : s.heap.IsList a xs.toArray) (hb : s.heap.IsList b ys.toArray) (hi : StrsAre xs ss) (hj : StrsAre ys ss) (hok : ∀ x ∈ ss, PyData.strOk x = true) (hu : A.units + 64 < cLine) (h : Q (.bool false) s) :
    wpAny (model prog w) A (compareOp .NotEq (.ref a) (.ref b)) Q E s :=
  ne_dataH_same (reads_newData ha (cs_carried hi)) (reads_newData hb (cs_carried hj)) (cs_shaped _ hok) (cs_shaped _ hok) hu (SeqAt.noMix_of_shape (.list .str) rfl _ _ (list_map_has fun _ => rfl) (list_map_has fun _ => rfl)) (by
    have e : PySem.Spec.same (.list (ss.map PyData.str)) (.list (ss.map PyData.str)) = true := by simp only [PySem.Spec.same]; exact cs_same ss
    rw [e]; exact h)
/-- two lists of the same truth values do not differ -/
theorem ne_bools (ha : s.heap.IsList a (bs.map Value.bool).toArray) (hb : s.heap.IsList b (bs.map Value.bool).toArray) (hu : A.units + 64 < cLine) (h : Q (.bool false) s) :
    wpAny (model prog w) A (compareOp .NotEq (.ref a) (.ref b)) Q E s :=
  ne_dataH_same (reads_newData ha (cb_carried bs)) (reads_newData hb (cb_carried bs)) (cb_shaped _) (cb_shaped _) hu (SeqAt.noMix_of_shape (.list .bool) rfl _ _ (list_map_has fun _ => rfl) (list_map_has fun _ => rfl)) (by
    have e : PySem.Spec.same (.list (bs.map PyData.bool)) (.list (bs.map PyData.bool)) = true := by simp only [PySem.Spec.same]; exact cb_same bs
    rw [e]; exact h)
end
end Mine

end
section
open PySem PySem.W PySem.Calls PyProof.Rows
set_option Elab.async false
namespace Mine
set_option maxRecDepth 100000

section
variable {prog : Program} {w : World} {A : Around} {E : Value → Shared → Prop} {s : Shared} {h₀ : Heap} {L : Addr} {m : Str → Option Value} {env : Env}

/-- a tuple that the ground or the ledger holds -/
def TupAt (h₀ : Heap) (ax : Addr) (its : Array Value) (news : List (Addr × Obj)) : Prop := h₀.IsTuple ax its ∨ ∃ o, (ax, o) ∈ news ∧ o.cls = .type "tuple" ∧ ∃ n, o.data = .seq its n
theorem TupAt.tup {h₀ h : Heap} {L ax : Addr} {its : Array Value} {news : List (Addr × Obj)} (x : TupAt h₀ ax its news) (k : ∀ b o, h₀.get? b = some o → h.get? b = some o) (N : News h₀ L h news) : h.IsTuple ax its := by
  rcases x with ⟨o, e, r⟩ | ⟨o, hm, r⟩
  · exact ⟨o, k _ _ e, r⟩
  · exact ⟨o, (N _ hm).1, r⟩
theorem tup_st {ax I : Addr} {its : Array Value} : ∀ i (h h' : Heap) (o : Obj) (nw : List (Addr × Obj)), (h.IsTupleIter I ax i ∧ h.IsTuple ax its) → h.get? I = some o → h'.get? I = some o → (∀ b o, h₀.get? b = some o → h'.get? b = some o) → News h₀ L h' nw → TupAt h₀ ax its nw → (h'.IsTupleIter I ax i ∧ h'.IsTuple ax its) :=
  fun i h h' o nw st e e' k N S => ⟨by obtain ⟨o', q, r⟩ := st.1; rw [e] at q; cases q; exact ⟨o, e', r⟩, S.tup k N⟩

/-- the source is a tuple of the ledger -/
def SrcTup (prog : Program) (w : World) (A : Around) (h₀ : Heap) (L : Addr) (m : Str → Option Value) (env : Env) (ct elt : Expr) (x : Str) (scope : Scope) (cl : List (Str × Addr)) (Fin : Shared → List Value → List (Addr × Obj) → Prop) (xv : Value) (s₁ : Shared) : Prop :=
  ∃ ax its news, xv = .ref ax ∧ A.handled = none ∧ Fr h₀ L s₁.heap m ∧ News h₀ L s₁.heap news ∧ TupAt h₀ ax its news ∧ its.size ≤ sizeLine ∧
    ∀ s₂ : Shared, (∃ h, s₂ = { s₁ with heap := h }) → LCt.CompRestT prog w A h₀ L m env ct elt x scope cl s₂ (TupAt h₀ ax its) (fun i v => its[i]? = some v) (Fin s₂) its.size 0 [] news
theorem SrcTup.ledger {ct elt : Expr} {x : Str} {scope : Scope} {cl : List (Str × Addr)} {Fin : Shared → List Value → List (Addr × Obj) → Prop} {ax : Addr} {its : Array Value} {k : Nat} {news : List (Addr × Obj)} {s₁ : Shared}
    (hh : A.handled = none) (F : Fr h₀ L s₁.heap m) (N : News h₀ L s₁.heap news) (hm : (ax, ({ cls := .type "tuple", data := .seq its k } : Obj)) ∈ news) (hsz : its.size ≤ sizeLine)
    (h : ∀ g, LCt.CompRestT prog w A h₀ L m env ct elt x scope cl { s₁ with heap := g } (TupAt h₀ ax its) (fun i v => its[i]? = some v) (Fin { s₁ with heap := g }) its.size 0 [] news) :
    SrcTup prog w A h₀ L m env ct elt x scope cl Fin (.ref ax) s₁ := ⟨ax, its, news, rfl, hh, F, N, .inr ⟨_, hm, rfl, _, rfl⟩, hsz, fun _ ⟨g, e⟩ => e ▸ h g⟩

theorem ListComp_tup {ct elt iter : Expr} {x : Str} {px : Pos} {scope : Scope} {cl : List (Str × Addr)} {pos : Pos} {Q : Value → Shared → Prop} (_F₀ : Fr h₀ L s.heap m)
    (hclos : closureFor scope env = pure cl) (hcell : ∀ y ∈ scope.names, y.2 ≠ .cell) (hkind : scope.kind = .function)
    (hnames : ∀ y ∈ scope.names, y.2 = .local → scope.names.lookup y.1 = some .local) (hx : scope.names.lookup x = some .local)
    (h : wpAny (model prog w) A (eval iter env) (SrcTup prog w A h₀ L m env ct elt x scope cl (fun s₂ => LCg.FinE h₀ L m s₂ Q)) E s)
    (hs : ∀ x, foldedSetIterable iter env x = pure x := by intro _; rfl) :
    wpAny (model prog w) A (eval (.ListComp elt [⟨.Name x px, iter, [ct], 0⟩] scope pos) env) Q E s := by
  rw [eval_ListComp]
  refine wpAny_comprehension_free (use := none) rfl hs hclos hkind hnames (wpAny_mono h (fun xv s₁ h₁ => ?_) fun _ _ e => e)
  obtain ⟨ax, its, news, rfl, hh, F, N, S, hsz, R⟩ := h₁
  have hl := S.tup F.keep N
  have hlt : ax < s₁.heap.objs.size := by obtain ⟨_, e, _⟩ := hl; exact Heap.lt_size e
  refine wpAny_pyIter_tuple hl ?_
  have up : ∀ b o, s₁.heap.get? b = some o → (s₁.heap.push { cls := .type "tuple_iterator", data := .fields #[.ref ax, .int 0 0] }).get? b = some o := fun b o e => Heap.get?_push_of_some _ e
  have hl' : (s₁.heap.push { cls := .type "tuple_iterator", data := .fields #[.ref ax, .int 0 0] }).IsTuple ax its := by
    obtain ⟨o, e, r⟩ := hl
    exact ⟨o, up _ _ e, r⟩
  refine LCt.block_T (Walks.tuple hh s₁.heap.objs.size ax (Nat.ne_of_lt hlt) its) hsz (fun i h st => by obtain ⟨o, e, _⟩ := st.1; exact ⟨o, e⟩) tup_st hcell hkind hx ⟨⟨_, Heap.get?_push_size _ rfl, rfl, rfl⟩, hl'⟩ (fun b hb => ?_)
    (F.keeps up) (N.grown up) (Nat.ne_of_lt F.ns.lt) (next_is_new F) (fun p hp => Nat.ne_of_lt (Heap.lt_size (N p hp).1)) S (R _ ⟨_, rfl⟩) ?_
  · show b < (s₁.heap.push _).objs.size
    rw [Heap.size_push]
    rcases List.mem_cons.mp hb with rfl | hb
    · exact Nat.lt_succ_self _
    · rw [List.mem_singleton.mp hb]; exact Nat.lt_succ_of_lt hlt
  · intro D C h tk m' ys news' F' N' o1 hn hC₀ hD₀ hCL hDL hCD offC fin
    refine ⟨m', hn, fun h'' hs'' => fin D h'' tk (F'.change hs'' hCL hC₀) (fun p hp => ?_) o1⟩
    refine ⟨hs''.extBut _ _ ?_ (N' p hp).1, (N' p hp).2⟩
    rcases List.mem_cons.mp hp with rfl | hp
    · exact Ne.symm hCD
    · exact offC p hp

/-- the end of an element: the value, nothing else -/
def ElEnd (h₀ : Heap) (L : Addr) (m : Str → Option Value) (s : Shared) (all : List (Addr × Obj)) (b : Value) (v : Value) (s' : Shared) : Prop :=
  v = b ∧ ∃ h' tk', s' = { s with heap := h', toks := tk' } ∧ Fr h₀ L h' m ∧ News h₀ L h' all

/-- what the elements of a comprehension over a range are, said ahead of it -/
structure MTag (p : Nat → Value) : Prop where

theorem map_range {n : Nat} {elt : Expr} {x : Str} {scope : Scope} {cl : List (Str × Addr)} {S : List (Addr × Obj) → Prop} {Fin : List Value → List (Addr × Obj) → Prop} {news : List (Addr × Obj)} {p : Nat → Value} (_hP : MTag p) (hS : S news)
    (turn : ∀ (k : Nat) t I oI C oC D m₂ ys h tk (E' : Value → Shared → Prop), k < n → LCg.NsObj oC m₂ → m₂ x = some (.int (k : Int) t) → Fr h₀ L h m → News h₀ L h ((I, oI) :: (C, oC) :: (D, LCg.lst ys) :: news) → LCg.Off3 I C D news → ((@Ne Nat I C) ∧ (@Ne Nat I D) ∧ (@Ne Nat C D)) →
      wpAny (model prog w) A (eval elt (compEnvC scope cl C env)) (ElEnd h₀ L m s ((I, oI) :: (C, oC) :: (D, LCg.lst ys) :: news) (p k)) E' { s with heap := h, toks := tk })
    (fin : Fin ((List.range n).map p) news) : LCg.CompRest prog w A h₀ L m env elt x scope cl s S (fun i v => ∃ t, v = .int (0 + (i : Int)) t) Fin n 0 [] news := by
  have key : ∀ (j i : Nat) (ys : List Value), i + j = n → ys = (List.range i).map p → LCg.CompRest prog w A h₀ L m env elt x scope cl s S (fun i v => ∃ t, v = .int (0 + (i : Int)) t) Fin j i ys news := by
    intro j
    induction j with
    | zero =>
      intro i ys hi hy
      have e : i = n := by omega
      subst e
      subst hy
      exact LCg.CompRest.zero fin
    | succ j ih =>
      intro i ys hi hy
      refine LCg.CompRest.succ ?_
      intro v I oI C oC D m₂ h tk E' hv hC hx F N off ne
      obtain ⟨t, rfl⟩ := hv
      rw [Int.zero_add] at hx
      refine wpAny_mono (turn i t I oI C oC D m₂ ys h tk E' (by omega) hC hx F N off ne) (fun y s₂ hq => ?_) fun _ _ e => e
      obtain ⟨rfl, h', tk', rfl, F', N'⟩ := hq
      refine ⟨h', tk', news, rfl, F', N', off, hS, ?_⟩
      refine ih (i + 1) _ (by omega) ?_
      rw [hy, List.range_succ, List.map_append]
      rfl
  exact key n 0 [] (by omega) rfl

/-- a comprehension with a test that no item of the list passes -/
theorem none_list {its : Array Value} {elt ct : Expr} {x : Str} {scope : Scope} {cl : List (Str × Addr)} {S : List (Addr × Obj) → Prop} {Fin : List Value → List (Addr × Obj) → Prop} {news : List (Addr × Obj)} (hS : S news)
    (turn : ∀ v I oI C oC D m₂ ys h tk (E' : Value → Shared → Prop), v ∈ its → LCg.NsObj oC m₂ → m₂ x = some v → Fr h₀ L h m → News h₀ L h ((I, oI) :: (C, oC) :: (D, LCg.lst ys) :: news) → LCg.Off3 I C D news → ((@Ne Nat I C) ∧ (@Ne Nat I D) ∧ (@Ne Nat C D)) →
      wpAny (model prog w) A (isTrue ct (compEnvC scope cl C env) (eval ct (compEnvC scope cl C env))) (TestEnd h₀ L m s ((I, oI) :: (C, oC) :: (D, LCg.lst ys) :: news) false) E' { s with heap := h, toks := tk })
    (fin : Fin [] news) : LCt.CompRestT prog w A h₀ L m env ct elt x scope cl s S (fun i v => its[i]? = some v) Fin its.size 0 [] news := by
  have key : ∀ (j i : Nat), i + j = its.size → LCt.CompRestT prog w A h₀ L m env ct elt x scope cl s S (fun i v => its[i]? = some v) Fin j i [] news := by
    intro j
    induction j with
    | zero => intro i _; exact LCt.CompRestT.zero fin
    | succ j ih =>
      intro i hi
      refine LCt.CompRestT.succ ?_
      intro v I oI C oC D m₂ h tk E' hv hC hx F N off ne
      refine wpAny_mono (turn v I oI C oC D m₂ [] h tk E' (Array.mem_of_getElem? hv) hC hx F N off ne) (fun ok s₂ hq => ?_) fun _ _ e => e
      obtain ⟨rfl, h', tk', rfl, F', N'⟩ := hq
      rw [if_neg Bool.false_ne_true]
      exact ⟨h', tk', news, rfl, F', N', off, hS, ih (i + 1) (by omega)⟩
  exact key its.size 0 (by omega)
end
/-- places that are not x, hidden from omega -/
structure Ap (x : Nat) (l : List Nat) : Prop where
  ne : ∀ y ∈ l, y ≠ x
theorem Ap.get {x y : Nat} {l : List Nat} (h : Ap x l) (hm : y ∈ l) : y ≠ x := h.ne y hm
theorem off1_get {D a : Addr} {o : Obj} : ∀ {l : List (Addr × Obj)}, LCg.Off1 D l → (a, o) ∈ l → @Ne Nat a D
  | [], _, hm => nomatch hm
  | p :: r, x, hm => by
    rcases List.mem_cons.mp hm with e | hm
    · have := x.1
      rw [← e] at this
      exact this
    · exact off1_get x.2 hm
end Mine

end
section
open PySem PySem.W PySem.Calls PyProof.Rows
set_option Elab.async false
namespace Mine
set_option maxRecDepth 100000

def singStmt : Stmt := match branch with | .If _ _ [.If _ _ (_ :: _ :: _ :: st :: _) _] _ => st | _ => .Pass default
def toldBody : List Stmt := match branch with | .If _ _ [.If _ _ (_ :: _ :: _ :: _ :: r) _] _ => r | _ => []
def Sings (d : Int) (sv : List Value) : Prop := ∃ t1 t2 t3 t4 : Tok, (d < 2 ∧ sv = [.int 1 t1]) ∨ (2 ≤ d ∧ d < 4 ∧ sv = [.int 1 t1, .int 2 t2]) ∨ (4 ≤ d ∧ d < 8 ∧ sv = [.int 1 t1, .int 2 t2, .int 4 t3]) ∨ (8 ≤ d ∧ sv = [.int 1 t1, .int 2 t2, .int 4 t3, .int 8 t4])
abbrev tmap (wh i : Int) (tw t : Tok) (ar ad an : Addr) (mb' : Str → Option Value) : Str → Option Value := fun y => if y = Str.ofString "which" then some (.int wh tw) else if y = Str.ofString "turn" then some (.int i t) else if y = Str.ofString "mine" then some (.bool false) else if y = Str.ofString "rows" then some (.ref ar) else if y = Str.ofString "dots" then some (.ref ad) else if y = Str.ofString "numbers" then some (.ref an) else mb' y
def SPost (h₀ : Heap) (L an : Addr) (no : Obj) (I : Addr) (oI : Obj) (ad ar : Addr) (od orr : Obj) (w1 w0 : Obj) (d wh i : Int) (tw t : Tok) (mb' : Str → Option Value) (gens : Array GenState) (drawn : Drawn) (os : OsState) (f : Flow) (s' : Shared) : Prop :=
  f = .next ∧ ∃ (h' : Heap) (tk : Nat) (D : Addr) (o : Obj) (sv : List Value) (k : Nat), s' = { heap := h', gens := gens, drawn := drawn, toks := tk, os := os } ∧ Fr h₀ L h' (tmap wh i tw t ar ad an mb') ∧
    News h₀ L h' [(D, listOf sv.toArray k), (I, oI), (ar, orr), (ad, od), (an, no), (L + 1 + 1 + 1, o), (L + 1 + 1, w1), (L + 1, w0)] ∧ o.data = .cell (some (.ref D)) ∧ Sings d sv
def theirBody : List Stmt := match branch with | .If _ _ [.If _ _ (_ :: _ :: _ :: r) _] _ => r | _ => []

theorem forall8 {P : (Addr × Obj) → Prop} {a b c d e f g h : Addr × Obj} (h1 : P a) (h2 : P b) (h3 : P c) (h4 : P d) (h5 : P e) (h6 : P f) (h7 : P g) (h8 : P h) : ∀ p ∈ [a, b, c, d, e, f, g, h], P p := by
  intro p hp
  simp only [List.mem_cons, List.not_mem_nil, or_false] at hp
  rcases hp with rfl | rfl | rfl | rfl | rfl | rfl | rfl | rfl <;> assumption
local macro_rules | `(tactic| walk_at "call ref") => `(tactic| (k_here; refine Stop.of ?_))
local macro_rules | `(tactic| walk_at "eval Call") => `(tactic| (k_here; k_dflt (refine Call_ ?_)))
local macro_rules | `(tactic| k_ne) => `(tactic| (refine neN ?_; (try dsimp only); first | exact Ap.get (by with_reducible assumption) (by k_mem) | exact off1_get (by with_reducible assumption) (by k_mem) | exact Ne.symm (off1_get (by with_reducible assumption) (by k_mem)) | omega))
local macro_rules | `(tactic| lcg_off) => `(tactic| with_reducible assumption)
local macro_rules | `(tactic| walk_at "FinE") => `(tactic| ((unfold LCg.FinE); intro D' h' tk' F' N' o1'; (try simp only [List.nil_append, List.cons_append] at N'); (try dsimp only)))
local macro_rules | `(tactic| walk_at "eval ListComp") => `(tactic| (k_here; refine Stop.of ?_))
local macro_rules | `(tactic| walk_at "exec Assign cons ListComp") => `(tactic| (k_here; first | k_dflt (refine wpAny_Assign_Name ?_) | refine Stop.of ?_))
local macro_rules | `(tactic| walk_at "CompRestT") => `(tactic| (with_unfolding_all first
  | (refine LCt.CompRestT.succ ?_; intro v' I' oI' C' oC' D' m' h' tk' E' hv' hC' hx' F' N' off' ne'; lcg_open hv'; clear ne')
  | refine LCt.CompRestT.zero ?_))
set_option rowWalk.seconds 0 in
set_option maxHeartbeats 8000000 in
theorem singles_ok {w : World} {mean : ExcName → Option Value} {mg mb : Str → Option Value} {h₀ : Heap} {L fa : Addr} {cd : Value} {E : Value → Shared → Prop} {gens : Array GenState} {drawn : Drawn} {os : OsState}
    {an : Addr} {no : Obj} (B : Below callerA h₀ [] h₀) (X : (Mine.hd.heap_39 w.params).In h₀) (T : Top Mine.hd.view_39 LO mean mg mb h₀)
    {g : Heap} {tk : Nat} {I : Addr} {oI : Obj} {t tw td tf : Tok} {i wh d f : Int} {ad ar : Addr} {od orr : Obj} {w0 w1 w2 : Obj} {v2 : Option Value} {mb' : Str → Option Value}
    (hd1 : 1 ≤ d) (hd8 : d ≤ 8) 
    (hw0 : w0.data = .cell (some (.int f tf))) (hw1 : w1.data = .cell (some (.int d td))) (hw2 : w2.data = .cell v2)
    (hA : Ap (L + 1 + 1 + 1) [I, ar, ad, an])
    (F : Fr h₀ L g (fun y => if y = Str.ofString "which" then some (.int wh tw) else if y = Str.ofString "turn" then some (.int i t) else if y = Str.ofString "mine" then some (.bool false) else if y = Str.ofString "rows" then some (.ref ar) else if y = Str.ofString "dots" then some (.ref ad) else if y = Str.ofString "numbers" then some (.ref an) else mb' y))
    (N : News h₀ L g [(I, oI), (ar, orr), (ad, od), (an, no), (L + 1 + 1 + 1, w2), (L + 1 + 1, w1), (L + 1, w0)]) :
    wpAny (model PG w) (lawA L fa cd) (exec singStmt (lawEnv L fa cd)) (SPost h₀ L an no I oI ad ar od orr w1 w0 d wh i tw t mb' gens drawn os) E { heap := g, gens := gens, drawn := drawn, toks := tk, os := os } := by
  have kf : Mine.hd.heap_39 = Mine.hd.heap_39 ∧ PySem.Challenge.rw_sc0023_01 = PySem.Challenge.rw_sc0023_01 := by k_fill; exact ⟨rfl, rfl⟩
  clear kf
  change wpAny _ (callerA.deeper (envOfC (Str.ofString "law") { kind := _, names := _, isGenerator := _, isCoroutine := _, more := _ } L fa cd)) (exec (.Assign _ _ _) (envOfC (Str.ofString "law") { kind := _, names := _, isGenerator := _, isCoroutine := _, more := _ } L fa cd)) _ _ _
  k_steps
  change wpAny _ _ _ _ _ _
  refine ListComp_tup (by k_asm) (by with_unfolding_all rfl) (by decide) (by rfl) (by decide) (by rfl) ?_
  k_steps
  k_dflt (refine SrcTup.ledger (by rfl) (by k_asm) (by k_asm) (by k_mem) (Nat.le_of_ble_eq_true rfl) ?_)
  intro g'
  change LCt.CompRestT _ _ _ _ _ _ _ _ _ _ _ _ _ _ _ _ 4 0 _ _
  k_steps
  · refine' ⟨rfl, _, _, _, _, _, _, rfl, ?f, ?n, ?o, _, _, _, _, .inr (.inr (.inr ⟨?a, rfl⟩))⟩
    case f => k_asm
    case n => exact news_sub (by k_asm) (forall8 (by k_mem) (by k_mem) (by k_mem) (by k_mem) (by k_mem) (by k_mem) (by k_mem) (by k_mem))
    case o => assumption
    case a => omega
  · refine' ⟨rfl, _, _, _, _, _, _, rfl, ?f, ?n, ?o, _, _, _, 0, .inr (.inr (.inl ⟨?a, ?b, rfl⟩))⟩
    case f => k_asm
    case n => exact news_sub (by k_asm) (forall8 (by k_mem) (by k_mem) (by k_mem) (by k_mem) (by k_mem) (by k_mem) (by k_mem) (by k_mem))
    case o => assumption
    case a => omega
    case b => omega
  · refine' ⟨rfl, _, _, _, _, _, _, rfl, ?f, ?n, ?o, _, _, 0, 0, .inr (.inl ⟨?a, ?b, rfl⟩)⟩
    case f => k_asm
    case n => exact news_sub (by k_asm) (forall8 (by k_mem) (by k_mem) (by k_mem) (by k_mem) (by k_mem) (by k_mem) (by k_mem) (by k_mem))
    case o => assumption
    case a => omega
    case b => omega
  · refine' ⟨rfl, _, _, _, _, _, _, rfl, ?f, ?n, ?o, _, 0, 0, 0, .inl ⟨?a, rfl⟩⟩
    case f => k_asm
    case n => exact news_sub (by k_asm) (forall8 (by k_mem) (by k_mem) (by k_mem) (by k_mem) (by k_mem) (by k_mem) (by k_mem) (by k_mem))
    case o => assumption
    case a => omega
end Mine

end
section
open PySem PySem.W PySem.Calls PyProof.Rows
set_option Elab.async false
namespace Mine
set_option maxRecDepth 100000

theorem small_d {d : Int} (h1 : 1 ≤ d) (h8 : d ≤ 8) : Builtin.Range.small 0 (d + 1) 1 = true := by
  have : d = 1 ∨ d = 2 ∨ d = 3 ∨ d = 4 ∨ d = 5 ∨ d = 6 ∨ d = 7 ∨ d = 8 := by omega
  rcases this with rfl | rfl | rfl | rfl | rfl | rfl | rfl | rfl <;> decide +kernel
theorem size_d {d : Int} (h1 : 1 ≤ d) (h8 : d ≤ 8) : Builtin.Range.rangeSize 0 (d + 1) 1 = (((d + 1).toNat : Nat) : Int) := by
  have : d = 1 ∨ d = 2 ∨ d = 3 ∨ d = 4 ∨ d = 5 ∨ d = 6 ∨ d = 7 ∨ d = 8 := by omega
  rcases this with rfl | rfl | rfl | rfl | rfl | rfl | rfl | rfl <;> decide +kernel
theorem fits_d {d : Int} (h8 : d ≤ 8) : (d + 1).toNat ≤ sizeLine := by
  rw [sizeLine_eq]
  omega
theorem single_far {k : Nat} {f : Int} (hk : k ≤ 8) (h0 : 0 ≤ f) (h1 : f < 100) : singleB ((k : Int) * 2 ^ f.toNat) = singleB (k : Int) := by
  refine single_shift f.toNat (List.mem_range.mpr (by omega)) (k : Int) ?_
  simp only [List.mem_cons, List.not_mem_nil, or_false]
  omega
theorem high_far {d f : Int} (hd1 : 1 ≤ d) (hd8 : d ≤ 8) (h0 : 0 ≤ f) (h1 : f < 100) : highI (d * 2 ^ f.toNat) = f + highI d := by
  have := high_shift f.toNat (List.mem_range.mpr (by omega)) d (by simp only [List.mem_cons, List.not_mem_nil, or_false]; omega)
  rw [this]
  omega
/-- what the two lists of truth values hold -/
abbrev tagP : Nat → Value := fun k => .bool (singleB (k : Int))
theorem bools_of (n : Nat) : ∃ bs : List Bool, (List.range n).map tagP = bs.map Value.bool := ⟨(List.range n).map fun k : Nat => singleB (k : Int), by rw [List.map_map]; rfl⟩
theorem any_0 {k : Nat} (h : k < 2) : ([1].any fun x => x == (k : Int)) = singleB (k : Int) := (by decide +kernel : ∀ k : Nat, k < 2 → ([(1 : Int)].any fun x => x == (k : Int)) = singleB (k : Int)) k h
theorem any_1 {k : Nat} (h : k < 4) : ([1, 2].any fun x => x == (k : Int)) = singleB (k : Int) := (by decide +kernel : ∀ k : Nat, k < 4 → ([(1 : Int), 2].any fun x => x == (k : Int)) = singleB (k : Int)) k h
theorem any_2 {k : Nat} (h : k < 8) : ([1, 2, 4].any fun x => x == (k : Int)) = singleB (k : Int) := (by decide +kernel : ∀ k : Nat, k < 8 → ([(1 : Int), 2, 4].any fun x => x == (k : Int)) = singleB (k : Int)) k h
theorem any_3 {k : Nat} (h : k < 9) : ([1, 2, 4, 8].any fun x => x == (k : Int)) = singleB (k : Int) := (by decide +kernel : ∀ k : Nat, k < 9 → ([(1 : Int), 2, 4, 8].any fun x => x == (k : Int)) = singleB (k : Int)) k h
theorem lst_at {h₀ h : Heap} {L l : Addr} {news : List (Addr × Obj)} {ys : List Value} (N : News h₀ L h news) (hm : (l, LCg.lst ys) ∈ news) : h.IsList l ys.toArray := ⟨_, (N _ hm).1, rfl, _, rfl⟩
theorem log_0 {d : Int} (h1 : 1 ≤ d) (h2 : d < 2) : highI d = 0 := by
  have : d = 1 := by omega
  subst this
  decide +kernel
theorem log_1 {d : Int} (h1 : 2 ≤ d) (h2 : d < 4) : highI d = 1 := by
  have : d = 2 ∨ d = 3 := by omega
  rcases this with rfl | rfl <;> decide +kernel
theorem log_2 {d : Int} (h1 : 4 ≤ d) (h2 : d < 8) : highI d = 2 := by
  have : d = 4 ∨ d = 5 ∨ d = 6 ∨ d = 7 := by omega
  rcases this with rfl | rfl | rfl | rfl <;> decide +kernel
theorem log_3 {d : Int} (h1 : 8 ≤ d) (h2 : d < 9) : highI d = 3 := by
  have : d = 8 := by omega
  subst this
  decide +kernel
theorem forall7 {P : (Addr × Obj) → Prop} {a b c d e f g : Addr × Obj} (h1 : P a) (h2 : P b) (h3 : P c) (h4 : P d) (h5 : P e) (h6 : P f) (h7 : P g) : ∀ p ∈ [a, b, c, d, e, f, g], P p := by
  intro p hp
  simp only [List.mem_cons, List.not_mem_nil, or_false] at hp
  rcases hp with rfl | rfl | rfl | rfl | rfl | rfl | rfl <;> assumption
theorem its_size {d : Int} (h8 : d ≤ 8) : ((List.range (d + 1).toNat).map tagP).toArray.size ≤ sizeLine := by
  rw [List.size_toArray, List.length_map, List.length_range]
  exact fits_d h8
theorem its_bool {n : Nat} {v : Value} (h : v ∈ ((List.range n).map tagP).toArray) : ∃ b : Bool, v = .bool b := by
  rw [List.mem_toArray] at h
  obtain ⟨k, _, rfl⟩ := List.mem_map.mp h
  exact ⟨_, rfl⟩
section
variable {prog : Program} {w : World} {A : Around} {E : Value → Shared → Prop} {s : Shared} {a b : Addr} {ys : List Value} {Q : Value → Shared → Prop}
theorem ne_tags (ha : s.heap.IsList a ys.toArray) (hb : s.heap.IsList b ys.toArray) (hy : ∃ bs : List Bool, ys = bs.map Value.bool) (hu : A.units + 64 < cLine) (h : Q (.bool false) s) :
    wpAny (model prog w) A (compareOp .NotEq (.ref a) (.ref b)) Q E s := by
  obtain ⟨bs, rfl⟩ := hy
  exact ne_bools ha hb hu h
end

local macro_rules | `(tactic| walk_at "call ref") => `(tactic| (k_here; refine Stop.of ?_))
local macro_rules | `(tactic| walk_at "call ref") => `(tactic| (k_here; k_dflt (refine' single_tells _ _ _ _ _ _ _ _ _ _ _ _ _ _ _ _ _ _ _ _ _ _ _ _ _ _ rfl rfl ?B ?F ?X ?N ?T rfl ?hd ?hu ?_; (case B => k_asm); (case F => k_asm); (case X => k_asm); (case N => k_asm); (case T => k_asm); (case hd => decide); (case hu => decide)); (intro h' k' hFN); (obtain ⟨F', N'⟩ := hFN); (try dsimp only)))
local macro_rules | `(tactic| walk_at "eval Call") => `(tactic| (k_here; k_dflt (refine Call_ ?_)))
local macro_rules | `(tactic| k_ne) => `(tactic| (refine neN ?_; (try dsimp only); first | exact Ap.get (by with_reducible assumption) (by k_mem) | exact off1_get (by with_reducible assumption) (by k_mem) | exact Ne.symm (off1_get (by with_reducible assumption) (by k_mem)) | omega))
local macro_rules | `(tactic| lcg_off) => `(tactic| with_reducible assumption)
local macro_rules | `(tactic| walk_at "FinE") => `(tactic| ((unfold LCg.FinE); intro D' h' tk' F' N' o1'; (try simp only [List.nil_append, List.cons_append] at N'); (try dsimp only)))
local macro_rules | `(tactic| walk_at "FinA") => `(tactic| ((unfold LCg.FinA); intro D' h' tk' F' N' o1'; (try simp only [List.nil_append, List.cons_append] at N'); (try dsimp only)))
local macro_rules | `(tactic| walk_at "eval ListComp") => `(tactic| (k_here; refine Stop.of ?_))
local macro_rules | `(tactic| walk_at "exec Assign cons ListComp") => `(tactic| (k_here; refine Stop.of ?_))
local macro_rules | `(tactic| walk_at "CompSrc") => `(tactic| (k_here; refine Stop.of ?_))
local macro_rules | `(tactic| walk_at "CompSrcT") => `(tactic| (k_here; refine Stop.of ?_))
local macro_rules | `(tactic| walk_at "ElEnd") => `(tactic| (refine Stop.of ?_))
local macro_rules | `(tactic| walk_at "TestEnd") => `(tactic| (refine Stop.of ?_))
local macro_rules | `(tactic| walk_at "compareOp NotEq ref ref") => `(tactic| (k_here; refine Stop.of ?_))

set_option rowWalk.seconds 0 in
set_option maxHeartbeats 8000000 in
theorem told_0 {w : World} {mean : ExcName → Option Value} {mg mb : Str → Option Value} {h₀ : Heap} {L fa : Addr} {cd : Value} {Q : Flow → Shared → Prop} {E : Value → Shared → Prop} {gens : Array GenState} {drawn : Drawn} {os : OsState}
    {an : Addr} {no : Obj} (B : Below callerA h₀ [] h₀) (X : (Mine.hd.heap_39 w.params).In h₀) (T : Top Mine.hd.view_39 LO mean mg mb h₀)
    {g : Heap} {tk : Nat} {I D : Addr} {oI : Obj} {t tw td tf t1 t2 t3 t4 : Tok} {i a b c wh d f : Int} {ad ar : Addr} {od orr : Obj} {w0 w1 w2 : Obj} {kk : Nat} {mb' : Str → Option Value}
    (hwh : wh = 0 ∨ wh = 1 ∨ wh = 2) (hlo : 1 ≤ d) (hhi : d < 2) (hdle : d ≤ [a, b, c].getD wh.toNat 0) (hf0 : 0 ≤ f) (hf1 : f < 100) (hm : mineB a b c = false)
    (hw0 : w0.data = .cell (some (.int f tf))) (hw1 : w1.data = .cell (some (.int d td))) (hw2 : w2.data = .cell (some (.ref D)))
    (F : Fr h₀ L g (fun y => if y = Str.ofString "which" then some (.int wh tw) else if y = Str.ofString "turn" then some (.int i t) else if y = Str.ofString "mine" then some (.bool false) else if y = Str.ofString "rows" then some (.ref ar) else if y = Str.ofString "dots" then some (.ref ad) else if y = Str.ofString "numbers" then some (.ref an) else mb' y))
    (N : News h₀ L g [(D, listOf #[.int 1 t1] kk), (I, oI), (ar, orr), (ad, od), (an, no), (L + 1 + 1 + 1, w2), (L + 1 + 1, w1), (L + 1, w0)]) :
    wpAny (model PG w) (lawA L fa cd) (execs toldBody (lawEnv L fa cd)) (BPost h₀ L an no I oI ad ar od orr a b c i t gens drawn os Q) E { heap := g, gens := gens, drawn := drawn, toks := tk, os := os } := by
  have kf : Mine.hd.heap_39 = Mine.hd.heap_39 ∧ PySem.Challenge.rw_sc0023_01 = PySem.Challenge.rw_sc0023_01 := by k_fill; exact ⟨rfl, rfl⟩
  clear kf
  have hd1 : 1 ≤ d := by omega
  have hd8 : d ≤ 8 := by omega
  change wpAny _ (callerA.deeper (envOfC (Str.ofString "law") { kind := _, names := _, isGenerator := _, isCoroutine := _, more := _ } L fa cd)) (execs (_ :: _ :: _ :: _ :: _ :: []) (envOfC (Str.ofString "law") { kind := _, names := _, isGenerator := _, isCoroutine := _, more := _ } L fa cd)) _ _ _
  k_steps
  change wpAny _ _ _ _ _ _
  k_dflt (refine LCg.Assign_ListComp_U (F₀ := by k_asm) (by rfl) (by with_unfolding_all rfl) (by rfl) (by decide) (by rfl) (by decide) (by rfl) (by rfl) (by rfl) ?_)
  k_steps
  unfold Stop
  k_dflt (refine LCg.CompSrc.range (by rfl) (by k_asm) (by k_asm) (by assumption) (small_d hd1 hd8) (size_d hd1 hd8) (fits_d hd8) ?_)
  intro g'
  refine map_range (p := tagP) ⟨⟩ trivial ?_ ?_
  · intro k tx I' oI' C' oC' D' m' ys' h' tk' E' hk hC hx F' N' off ne
    clear ne
    have hk8 : k ≤ 8 := by omega
    k_steps
    unfold Stop
    refine' ⟨?e, _, _, rfl, ?f, ?n⟩
    case f => k_asm
    case n => k_asm
    case e => exact congrArg Value.bool (single_far hk8 hf0 hf1)
  k_steps
  change wpAny _ _ _ _ _ _
  k_dflt (refine LCg.ListComp_U (F₀ := by k_asm) (by rfl) (by decide) (by rfl) (by decide) (by rfl) ?_)
  k_steps
  unfold Stop
  k_dflt (refine LCg.CompSrc.range (by rfl) (by k_asm) (by k_asm) (by assumption) (small_d hd1 hd8) (size_d hd1 hd8) (fits_d hd8) ?_)
  intro g2
  refine map_range (p := tagP) ⟨⟩ trivial ?_ ?_
  · intro k tx I' oI' C' oC' D' m' ys' h' tk' E' hk hC hx F' N' off ne
    clear ne
    have hk8 : (k : Int) ≤ d := by omega
    k_steps
    unfold Stop
    refine' ⟨?e, _, _, rfl, ?f, ?n⟩
    case f => k_asm
    case n => k_asm
    case e => exact congrArg Value.bool (any_0 (by omega))
  k_steps
  change wpAny _ _ _ _ _ _
  refine ne_tags (lst_at (by k_asm) (by k_mem)) (lst_at (by k_asm) (by k_mem)) (bools_of _) (Nat.le_of_ble_eq_true rfl) ?_
  k_steps
  change wpAny _ _ _ _ _ _
  k_dflt (refine LCt.ListComp_T (F₀ := by k_asm) (by with_unfolding_all rfl) (by decide) (by rfl) (by decide) (by rfl) ?_)
  k_steps
  unfold Stop
  k_dflt (refine LCt.CompSrcT.ledger (by rfl) (by k_asm) (by k_asm) (by k_mem) (its_size hd8) ?_)
  intro g3
  refine none_list (Or.inr ⟨_, by k_mem, rfl, _, rfl⟩) ?_ ?_
  · intro v I' oI' C' oC' D' m' ys' h' tk' E' hv hC hx F' N' off ne
    clear ne
    obtain ⟨bb, rfl⟩ := its_bool hv
    clear hv
    k_steps
    unfold Stop
    refine' ⟨?e, _, _, rfl, ?f, ?n⟩
    case f => k_asm
    case n => k_asm
    case e => rfl
  k_steps
  change wpAny _ _ _ _ _ _
  refine ne_tags (ys := []) (lst_at (by k_asm) (by k_mem)) (lst_at (by k_asm) (by k_mem)) ⟨[], rfl⟩ (Nat.le_of_ble_eq_true rfl) ?_
  k_steps
  change wpAny _ _ _ _ _ _
  refine' high_tells _ _ (d * 2 ^ f.toNat) _ _ _ _ _ _ _ _ _ _ _ _ _ _ _ _ _ _ _ _ _ _ _ rfl rfl ?B ?F ?X ?N ?T rfl ?hd ?hu ?_
  case B => k_asm
  case F => k_asm
  case X => k_asm
  case N => k_asm
  case T => k_asm
  case hd => decide
  case hu => decide
  intro h5 tv k5 hFN5
  obtain ⟨F5, N5⟩ := hFN5
  obtain ⟨hv, hve, hv2⟩ : ∃ hv, highI (d * 2 ^ f.toNat) = hv ∧ hv = f + 0 := ⟨_, rfl, by rw [high_far hd1 hd8 hf0 hf1, log_0 hlo hhi]⟩
  rw [hve]
  clear hve
  k_steps
  · exfalso
    omega
  · have hct : (1 : Int) = 1 ∨ (1 : Int) = 2 ∨ (1 : Int) = 4 ∨ (1 : Int) = 8 := by decide
    refine' Or.inl ⟨rfl, _, _, _, w0, w1, w2, _, _, _, wh, 1, tw, t1, rfl, ?f, ?n, ⟨hw0, hw1, hw2⟩, ?q, hwh, hct, Int.le_trans hlo hdle, ?g⟩
    case f => k_asm
    case n => exact news_sub (by k_asm) (forall7 (by k_mem) (by k_mem) (by k_mem) (by k_mem) (by k_mem) (by k_mem) (by k_mem))
    case q => exact ⟨rfl, rfl, rfl, congrArg (fun x => some (Value.bool x)) hm.symm, rfl, rfl, rfl⟩
    case g =>
      rw [hm]
      exact mineB_ne (their_turn (mineB_false hm) hwh hct)

set_option rowWalk.seconds 0 in
set_option maxHeartbeats 8000000 in
theorem told_1 {w : World} {mean : ExcName → Option Value} {mg mb : Str → Option Value} {h₀ : Heap} {L fa : Addr} {cd : Value} {Q : Flow → Shared → Prop} {E : Value → Shared → Prop} {gens : Array GenState} {drawn : Drawn} {os : OsState}
    {an : Addr} {no : Obj} (B : Below callerA h₀ [] h₀) (X : (Mine.hd.heap_39 w.params).In h₀) (T : Top Mine.hd.view_39 LO mean mg mb h₀)
    {g : Heap} {tk : Nat} {I D : Addr} {oI : Obj} {t tw td tf t1 t2 t3 t4 : Tok} {i a b c wh d f : Int} {ad ar : Addr} {od orr : Obj} {w0 w1 w2 : Obj} {kk : Nat} {mb' : Str → Option Value}
    (hwh : wh = 0 ∨ wh = 1 ∨ wh = 2) (hlo : 2 ≤ d) (hhi : d < 4) (hdle : d ≤ [a, b, c].getD wh.toNat 0) (hf0 : 0 ≤ f) (hf1 : f < 100) (hm : mineB a b c = false)
    (hw0 : w0.data = .cell (some (.int f tf))) (hw1 : w1.data = .cell (some (.int d td))) (hw2 : w2.data = .cell (some (.ref D)))
    (F : Fr h₀ L g (fun y => if y = Str.ofString "which" then some (.int wh tw) else if y = Str.ofString "turn" then some (.int i t) else if y = Str.ofString "mine" then some (.bool false) else if y = Str.ofString "rows" then some (.ref ar) else if y = Str.ofString "dots" then some (.ref ad) else if y = Str.ofString "numbers" then some (.ref an) else mb' y))
    (N : News h₀ L g [(D, listOf #[.int 1 t1, .int 2 t2] kk), (I, oI), (ar, orr), (ad, od), (an, no), (L + 1 + 1 + 1, w2), (L + 1 + 1, w1), (L + 1, w0)]) :
    wpAny (model PG w) (lawA L fa cd) (execs toldBody (lawEnv L fa cd)) (BPost h₀ L an no I oI ad ar od orr a b c i t gens drawn os Q) E { heap := g, gens := gens, drawn := drawn, toks := tk, os := os } := by
  have kf : Mine.hd.heap_39 = Mine.hd.heap_39 ∧ PySem.Challenge.rw_sc0023_01 = PySem.Challenge.rw_sc0023_01 := by k_fill; exact ⟨rfl, rfl⟩
  clear kf
  have hd1 : 1 ≤ d := by omega
  have hd8 : d ≤ 8 := by omega
  change wpAny _ (callerA.deeper (envOfC (Str.ofString "law") { kind := _, names := _, isGenerator := _, isCoroutine := _, more := _ } L fa cd)) (execs (_ :: _ :: _ :: _ :: _ :: []) (envOfC (Str.ofString "law") { kind := _, names := _, isGenerator := _, isCoroutine := _, more := _ } L fa cd)) _ _ _
  k_steps
  change wpAny _ _ _ _ _ _
  k_dflt (refine LCg.Assign_ListComp_U (F₀ := by k_asm) (by rfl) (by with_unfolding_all rfl) (by rfl) (by decide) (by rfl) (by decide) (by rfl) (by rfl) (by rfl) ?_)
  k_steps
  unfold Stop
  k_dflt (refine LCg.CompSrc.range (by rfl) (by k_asm) (by k_asm) (by assumption) (small_d hd1 hd8) (size_d hd1 hd8) (fits_d hd8) ?_)
  intro g'
  refine map_range (p := tagP) ⟨⟩ trivial ?_ ?_
  · intro k tx I' oI' C' oC' D' m' ys' h' tk' E' hk hC hx F' N' off ne
    clear ne
    have hk8 : k ≤ 8 := by omega
    k_steps
    unfold Stop
    refine' ⟨?e, _, _, rfl, ?f, ?n⟩
    case f => k_asm
    case n => k_asm
    case e => exact congrArg Value.bool (single_far hk8 hf0 hf1)
  k_steps
  change wpAny _ _ _ _ _ _
  k_dflt (refine LCg.ListComp_U (F₀ := by k_asm) (by rfl) (by decide) (by rfl) (by decide) (by rfl) ?_)
  k_steps
  unfold Stop
  k_dflt (refine LCg.CompSrc.range (by rfl) (by k_asm) (by k_asm) (by assumption) (small_d hd1 hd8) (size_d hd1 hd8) (fits_d hd8) ?_)
  intro g2
  refine map_range (p := tagP) ⟨⟩ trivial ?_ ?_
  · intro k tx I' oI' C' oC' D' m' ys' h' tk' E' hk hC hx F' N' off ne
    clear ne
    have hk8 : (k : Int) ≤ d := by omega
    k_steps
    unfold Stop
    refine' ⟨?e, _, _, rfl, ?f, ?n⟩
    case f => k_asm
    case n => k_asm
    case e => exact congrArg Value.bool (any_1 (by omega))
  k_steps
  change wpAny _ _ _ _ _ _
  refine ne_tags (lst_at (by k_asm) (by k_mem)) (lst_at (by k_asm) (by k_mem)) (bools_of _) (Nat.le_of_ble_eq_true rfl) ?_
  k_steps
  change wpAny _ _ _ _ _ _
  k_dflt (refine LCt.ListComp_T (F₀ := by k_asm) (by with_unfolding_all rfl) (by decide) (by rfl) (by decide) (by rfl) ?_)
  k_steps
  unfold Stop
  k_dflt (refine LCt.CompSrcT.ledger (by rfl) (by k_asm) (by k_asm) (by k_mem) (its_size hd8) ?_)
  intro g3
  refine none_list (Or.inr ⟨_, by k_mem, rfl, _, rfl⟩) ?_ ?_
  · intro v I' oI' C' oC' D' m' ys' h' tk' E' hv hC hx F' N' off ne
    clear ne
    obtain ⟨bb, rfl⟩ := its_bool hv
    clear hv
    k_steps
    unfold Stop
    refine' ⟨?e, _, _, rfl, ?f, ?n⟩
    case f => k_asm
    case n => k_asm
    case e => rfl
  k_steps
  change wpAny _ _ _ _ _ _
  refine ne_tags (ys := []) (lst_at (by k_asm) (by k_mem)) (lst_at (by k_asm) (by k_mem)) ⟨[], rfl⟩ (Nat.le_of_ble_eq_true rfl) ?_
  k_steps
  change wpAny _ _ _ _ _ _
  refine' high_tells _ _ (d * 2 ^ f.toNat) _ _ _ _ _ _ _ _ _ _ _ _ _ _ _ _ _ _ _ _ _ _ _ rfl rfl ?B ?F ?X ?N ?T rfl ?hd ?hu ?_
  case B => k_asm
  case F => k_asm
  case X => k_asm
  case N => k_asm
  case T => k_asm
  case hd => decide
  case hu => decide
  intro h5 tv k5 hFN5
  obtain ⟨F5, N5⟩ := hFN5
  obtain ⟨hv, hve, hv2⟩ : ∃ hv, highI (d * 2 ^ f.toNat) = hv ∧ hv = f + 1 := ⟨_, rfl, by rw [high_far hd1 hd8 hf0 hf1, log_1 hlo hhi]⟩
  rw [hve]
  clear hve
  k_steps
  · exfalso
    omega
  · have hct : (2 : Int) = 1 ∨ (2 : Int) = 2 ∨ (2 : Int) = 4 ∨ (2 : Int) = 8 := by decide
    refine' Or.inl ⟨rfl, _, _, _, w0, w1, w2, _, _, _, wh, 2, tw, t2, rfl, ?f, ?n, ⟨hw0, hw1, hw2⟩, ?q, hwh, hct, Int.le_trans hlo hdle, ?g⟩
    case f => k_asm
    case n => exact news_sub (by k_asm) (forall7 (by k_mem) (by k_mem) (by k_mem) (by k_mem) (by k_mem) (by k_mem) (by k_mem))
    case q => exact ⟨rfl, rfl, rfl, congrArg (fun x => some (Value.bool x)) hm.symm, rfl, rfl, rfl⟩
    case g =>
      rw [hm]
      exact mineB_ne (their_turn (mineB_false hm) hwh hct)

set_option rowWalk.seconds 0 in
set_option maxHeartbeats 8000000 in
theorem told_2 {w : World} {mean : ExcName → Option Value} {mg mb : Str → Option Value} {h₀ : Heap} {L fa : Addr} {cd : Value} {Q : Flow → Shared → Prop} {E : Value → Shared → Prop} {gens : Array GenState} {drawn : Drawn} {os : OsState}
    {an : Addr} {no : Obj} (B : Below callerA h₀ [] h₀) (X : (Mine.hd.heap_39 w.params).In h₀) (T : Top Mine.hd.view_39 LO mean mg mb h₀)
    {g : Heap} {tk : Nat} {I D : Addr} {oI : Obj} {t tw td tf t1 t2 t3 t4 : Tok} {i a b c wh d f : Int} {ad ar : Addr} {od orr : Obj} {w0 w1 w2 : Obj} {kk : Nat} {mb' : Str → Option Value}
    (hwh : wh = 0 ∨ wh = 1 ∨ wh = 2) (hlo : 4 ≤ d) (hhi : d < 8) (hdle : d ≤ [a, b, c].getD wh.toNat 0) (hf0 : 0 ≤ f) (hf1 : f < 100) (hm : mineB a b c = false)
    (hw0 : w0.data = .cell (some (.int f tf))) (hw1 : w1.data = .cell (some (.int d td))) (hw2 : w2.data = .cell (some (.ref D)))
    (F : Fr h₀ L g (fun y => if y = Str.ofString "which" then some (.int wh tw) else if y = Str.ofString "turn" then some (.int i t) else if y = Str.ofString "mine" then some (.bool false) else if y = Str.ofString "rows" then some (.ref ar) else if y = Str.ofString "dots" then some (.ref ad) else if y = Str.ofString "numbers" then some (.ref an) else mb' y))
    (N : News h₀ L g [(D, listOf #[.int 1 t1, .int 2 t2, .int 4 t3] kk), (I, oI), (ar, orr), (ad, od), (an, no), (L + 1 + 1 + 1, w2), (L + 1 + 1, w1), (L + 1, w0)]) :
    wpAny (model PG w) (lawA L fa cd) (execs toldBody (lawEnv L fa cd)) (BPost h₀ L an no I oI ad ar od orr a b c i t gens drawn os Q) E { heap := g, gens := gens, drawn := drawn, toks := tk, os := os } := by
  have kf : Mine.hd.heap_39 = Mine.hd.heap_39 ∧ PySem.Challenge.rw_sc0023_01 = PySem.Challenge.rw_sc0023_01 := by k_fill; exact ⟨rfl, rfl⟩
  clear kf
  have hd1 : 1 ≤ d := by omega
  have hd8 : d ≤ 8 := by omega
  change wpAny _ (callerA.deeper (envOfC (Str.ofString "law") { kind := _, names := _, isGenerator := _, isCoroutine := _, more := _ } L fa cd)) (execs (_ :: _ :: _ :: _ :: _ :: []) (envOfC (Str.ofString "law") { kind := _, names := _, isGenerator := _, isCoroutine := _, more := _ } L fa cd)) _ _ _
  k_steps
  change wpAny _ _ _ _ _ _
  k_dflt (refine LCg.Assign_ListComp_U (F₀ := by k_asm) (by rfl) (by with_unfolding_all rfl) (by rfl) (by decide) (by rfl) (by decide) (by rfl) (by rfl) (by rfl) ?_)
  k_steps
  unfold Stop
  k_dflt (refine LCg.CompSrc.range (by rfl) (by k_asm) (by k_asm) (by assumption) (small_d hd1 hd8) (size_d hd1 hd8) (fits_d hd8) ?_)
  intro g'
  refine map_range (p := tagP) ⟨⟩ trivial ?_ ?_
  · intro k tx I' oI' C' oC' D' m' ys' h' tk' E' hk hC hx F' N' off ne
    clear ne
    have hk8 : k ≤ 8 := by omega
    k_steps
    unfold Stop
    refine' ⟨?e, _, _, rfl, ?f, ?n⟩
    case f => k_asm
    case n => k_asm
    case e => exact congrArg Value.bool (single_far hk8 hf0 hf1)
  k_steps
  change wpAny _ _ _ _ _ _
  k_dflt (refine LCg.ListComp_U (F₀ := by k_asm) (by rfl) (by decide) (by rfl) (by decide) (by rfl) ?_)
  k_steps
  unfold Stop
  k_dflt (refine LCg.CompSrc.range (by rfl) (by k_asm) (by k_asm) (by assumption) (small_d hd1 hd8) (size_d hd1 hd8) (fits_d hd8) ?_)
  intro g2
  refine map_range (p := tagP) ⟨⟩ trivial ?_ ?_
  · intro k tx I' oI' C' oC' D' m' ys' h' tk' E' hk hC hx F' N' off ne
    clear ne
    have hk8 : (k : Int) ≤ d := by omega
    k_steps
    unfold Stop
    refine' ⟨?e, _, _, rfl, ?f, ?n⟩
    case f => k_asm
    case n => k_asm
    case e => exact congrArg Value.bool (any_2 (by omega))
  k_steps
  change wpAny _ _ _ _ _ _
  refine ne_tags (lst_at (by k_asm) (by k_mem)) (lst_at (by k_asm) (by k_mem)) (bools_of _) (Nat.le_of_ble_eq_true rfl) ?_
  k_steps
  change wpAny _ _ _ _ _ _
  k_dflt (refine LCt.ListComp_T (F₀ := by k_asm) (by with_unfolding_all rfl) (by decide) (by rfl) (by decide) (by rfl) ?_)
  k_steps
  unfold Stop
  k_dflt (refine LCt.CompSrcT.ledger (by rfl) (by k_asm) (by k_asm) (by k_mem) (its_size hd8) ?_)
  intro g3
  refine none_list (Or.inr ⟨_, by k_mem, rfl, _, rfl⟩) ?_ ?_
  · intro v I' oI' C' oC' D' m' ys' h' tk' E' hv hC hx F' N' off ne
    clear ne
    obtain ⟨bb, rfl⟩ := its_bool hv
    clear hv
    k_steps
    unfold Stop
    refine' ⟨?e, _, _, rfl, ?f, ?n⟩
    case f => k_asm
    case n => k_asm
    case e => rfl
  k_steps
  change wpAny _ _ _ _ _ _
  refine ne_tags (ys := []) (lst_at (by k_asm) (by k_mem)) (lst_at (by k_asm) (by k_mem)) ⟨[], rfl⟩ (Nat.le_of_ble_eq_true rfl) ?_
  k_steps
  change wpAny _ _ _ _ _ _
  refine' high_tells _ _ (d * 2 ^ f.toNat) _ _ _ _ _ _ _ _ _ _ _ _ _ _ _ _ _ _ _ _ _ _ _ rfl rfl ?B ?F ?X ?N ?T rfl ?hd ?hu ?_
  case B => k_asm
  case F => k_asm
  case X => k_asm
  case N => k_asm
  case T => k_asm
  case hd => decide
  case hu => decide
  intro h5 tv k5 hFN5
  obtain ⟨F5, N5⟩ := hFN5
  obtain ⟨hv, hve, hv2⟩ : ∃ hv, highI (d * 2 ^ f.toNat) = hv ∧ hv = f + 2 := ⟨_, rfl, by rw [high_far hd1 hd8 hf0 hf1, log_2 hlo hhi]⟩
  rw [hve]
  clear hve
  k_steps
  · exfalso
    omega
  · have hct : (4 : Int) = 1 ∨ (4 : Int) = 2 ∨ (4 : Int) = 4 ∨ (4 : Int) = 8 := by decide
    refine' Or.inl ⟨rfl, _, _, _, w0, w1, w2, _, _, _, wh, 4, tw, t3, rfl, ?f, ?n, ⟨hw0, hw1, hw2⟩, ?q, hwh, hct, Int.le_trans hlo hdle, ?g⟩
    case f => k_asm
    case n => exact news_sub (by k_asm) (forall7 (by k_mem) (by k_mem) (by k_mem) (by k_mem) (by k_mem) (by k_mem) (by k_mem))
    case q => exact ⟨rfl, rfl, rfl, congrArg (fun x => some (Value.bool x)) hm.symm, rfl, rfl, rfl⟩
    case g =>
      rw [hm]
      exact mineB_ne (their_turn (mineB_false hm) hwh hct)

set_option rowWalk.seconds 0 in
set_option maxHeartbeats 8000000 in
theorem told_3 {w : World} {mean : ExcName → Option Value} {mg mb : Str → Option Value} {h₀ : Heap} {L fa : Addr} {cd : Value} {Q : Flow → Shared → Prop} {E : Value → Shared → Prop} {gens : Array GenState} {drawn : Drawn} {os : OsState}
    {an : Addr} {no : Obj} (B : Below callerA h₀ [] h₀) (X : (Mine.hd.heap_39 w.params).In h₀) (T : Top Mine.hd.view_39 LO mean mg mb h₀)
    {g : Heap} {tk : Nat} {I D : Addr} {oI : Obj} {t tw td tf t1 t2 t3 t4 : Tok} {i a b c wh d f : Int} {ad ar : Addr} {od orr : Obj} {w0 w1 w2 : Obj} {kk : Nat} {mb' : Str → Option Value}
    (hwh : wh = 0 ∨ wh = 1 ∨ wh = 2) (hlo : 8 ≤ d) (hhi : d < 9) (hdle : d ≤ [a, b, c].getD wh.toNat 0) (hf0 : 0 ≤ f) (hf1 : f < 100) (hm : mineB a b c = false)
    (hw0 : w0.data = .cell (some (.int f tf))) (hw1 : w1.data = .cell (some (.int d td))) (hw2 : w2.data = .cell (some (.ref D)))
    (F : Fr h₀ L g (fun y => if y = Str.ofString "which" then some (.int wh tw) else if y = Str.ofString "turn" then some (.int i t) else if y = Str.ofString "mine" then some (.bool false) else if y = Str.ofString "rows" then some (.ref ar) else if y = Str.ofString "dots" then some (.ref ad) else if y = Str.ofString "numbers" then some (.ref an) else mb' y))
    (N : News h₀ L g [(D, listOf #[.int 1 t1, .int 2 t2, .int 4 t3, .int 8 t4] kk), (I, oI), (ar, orr), (ad, od), (an, no), (L + 1 + 1 + 1, w2), (L + 1 + 1, w1), (L + 1, w0)]) :
    wpAny (model PG w) (lawA L fa cd) (execs toldBody (lawEnv L fa cd)) (BPost h₀ L an no I oI ad ar od orr a b c i t gens drawn os Q) E { heap := g, gens := gens, drawn := drawn, toks := tk, os := os } := by
  have kf : Mine.hd.heap_39 = Mine.hd.heap_39 ∧ PySem.Challenge.rw_sc0023_01 = PySem.Challenge.rw_sc0023_01 := by k_fill; exact ⟨rfl, rfl⟩
  clear kf
  have hd1 : 1 ≤ d := by omega
  have hd8 : d ≤ 8 := by omega
  change wpAny _ (callerA.deeper (envOfC (Str.ofString "law") { kind := _, names := _, isGenerator := _, isCoroutine := _, more := _ } L fa cd)) (execs (_ :: _ :: _ :: _ :: _ :: []) (envOfC (Str.ofString "law") { kind := _, names := _, isGenerator := _, isCoroutine := _, more := _ } L fa cd)) _ _ _
  k_steps
  change wpAny _ _ _ _ _ _
  k_dflt (refine LCg.Assign_ListComp_U (F₀ := by k_asm) (by rfl) (by with_unfolding_all rfl) (by rfl) (by decide) (by rfl) (by decide) (by rfl) (by rfl) (by rfl) ?_)
  k_steps
  unfold Stop
  k_dflt (refine LCg.CompSrc.range (by rfl) (by k_asm) (by k_asm) (by assumption) (small_d hd1 hd8) (size_d hd1 hd8) (fits_d hd8) ?_)
  intro g'
  refine map_range (p := tagP) ⟨⟩ trivial ?_ ?_
  · intro k tx I' oI' C' oC' D' m' ys' h' tk' E' hk hC hx F' N' off ne
    clear ne
    have hk8 : k ≤ 8 := by omega
    k_steps
    unfold Stop
    refine' ⟨?e, _, _, rfl, ?f, ?n⟩
    case f => k_asm
    case n => k_asm
    case e => exact congrArg Value.bool (single_far hk8 hf0 hf1)
  k_steps
  change wpAny _ _ _ _ _ _
  k_dflt (refine LCg.ListComp_U (F₀ := by k_asm) (by rfl) (by decide) (by rfl) (by decide) (by rfl) ?_)
  k_steps
  unfold Stop
  k_dflt (refine LCg.CompSrc.range (by rfl) (by k_asm) (by k_asm) (by assumption) (small_d hd1 hd8) (size_d hd1 hd8) (fits_d hd8) ?_)
  intro g2
  refine map_range (p := tagP) ⟨⟩ trivial ?_ ?_
  · intro k tx I' oI' C' oC' D' m' ys' h' tk' E' hk hC hx F' N' off ne
    clear ne
    have hk8 : (k : Int) ≤ d := by omega
    k_steps
    unfold Stop
    refine' ⟨?e, _, _, rfl, ?f, ?n⟩
    case f => k_asm
    case n => k_asm
    case e => exact congrArg Value.bool (any_3 (by omega))
  k_steps
  change wpAny _ _ _ _ _ _
  refine ne_tags (lst_at (by k_asm) (by k_mem)) (lst_at (by k_asm) (by k_mem)) (bools_of _) (Nat.le_of_ble_eq_true rfl) ?_
  k_steps
  change wpAny _ _ _ _ _ _
  k_dflt (refine LCt.ListComp_T (F₀ := by k_asm) (by with_unfolding_all rfl) (by decide) (by rfl) (by decide) (by rfl) ?_)
  k_steps
  unfold Stop
  k_dflt (refine LCt.CompSrcT.ledger (by rfl) (by k_asm) (by k_asm) (by k_mem) (its_size hd8) ?_)
  intro g3
  refine none_list (Or.inr ⟨_, by k_mem, rfl, _, rfl⟩) ?_ ?_
  · intro v I' oI' C' oC' D' m' ys' h' tk' E' hv hC hx F' N' off ne
    clear ne
    obtain ⟨bb, rfl⟩ := its_bool hv
    clear hv
    k_steps
    unfold Stop
    refine' ⟨?e, _, _, rfl, ?f, ?n⟩
    case f => k_asm
    case n => k_asm
    case e => rfl
  k_steps
  change wpAny _ _ _ _ _ _
  refine ne_tags (ys := []) (lst_at (by k_asm) (by k_mem)) (lst_at (by k_asm) (by k_mem)) ⟨[], rfl⟩ (Nat.le_of_ble_eq_true rfl) ?_
  k_steps
  change wpAny _ _ _ _ _ _
  refine' high_tells _ _ (d * 2 ^ f.toNat) _ _ _ _ _ _ _ _ _ _ _ _ _ _ _ _ _ _ _ _ _ _ _ rfl rfl ?B ?F ?X ?N ?T rfl ?hd ?hu ?_
  case B => k_asm
  case F => k_asm
  case X => k_asm
  case N => k_asm
  case T => k_asm
  case hd => decide
  case hu => decide
  intro h5 tv k5 hFN5
  obtain ⟨F5, N5⟩ := hFN5
  obtain ⟨hv, hve, hv2⟩ : ∃ hv, highI (d * 2 ^ f.toNat) = hv ∧ hv = f + 3 := ⟨_, rfl, by rw [high_far hd1 hd8 hf0 hf1, log_3 hlo hhi]⟩
  rw [hve]
  clear hve
  k_steps
  · exfalso
    omega
  · have hct : (8 : Int) = 1 ∨ (8 : Int) = 2 ∨ (8 : Int) = 4 ∨ (8 : Int) = 8 := by decide
    refine' Or.inl ⟨rfl, _, _, _, w0, w1, w2, _, _, _, wh, 8, tw, t4, rfl, ?f, ?n, ⟨hw0, hw1, hw2⟩, ?q, hwh, hct, Int.le_trans hlo hdle, ?g⟩
    case f => k_asm
    case n => exact news_sub (by k_asm) (forall7 (by k_mem) (by k_mem) (by k_mem) (by k_mem) (by k_mem) (by k_mem) (by k_mem))
    case q => exact ⟨rfl, rfl, rfl, congrArg (fun x => some (Value.bool x)) hm.symm, rfl, rfl, rfl⟩
    case g =>
      rw [hm]
      exact mineB_ne (their_turn (mineB_false hm) hwh hct)
end Mine

end
section
open PySem PySem.W PySem.Calls PyProof.Rows
set_option Elab.async false
namespace Mine
set_option maxRecDepth 100000

section
variable {prog : Program} {w : World} {A : Around} {E : Value → Shared → Prop} {s : Shared} {a b : Int} {t u : Tok} {Q : Value → Shared → Prop}
theorem floordiv_any (hb : b ≠ 0) (h : ∀ d : Int, Q (.int d s.toks) { s with toks := s.toks + 1 })
    (hp : Builtin.divisionGoesByPylong a b = false ∨ PySem.PylongRoom (model prog w) A s := by first | exact Or.inr (PySem.PylongRoom.of (by first | assumption | (refine PySem.Heap.NoLimit.keeps ?_ (PyProof.Rows.Fr.keep (by assumption)); first | assumption | exact PyProof.Rows.Glob.nolimit (by assumption) | exact PyProof.Rows.Top.nolimit (by assumption)) | exact PyProof.Rows.Glob.nolimit (by assumption) | exact PyProof.Rows.Top.nolimit (by assumption)) (of_decide_eq_true (by with_unfolding_all rfl))) | assumption) : wpAny (model prog w) A (binaryOp .FloorDiv (.int a t) (.int b u)) Q E s :=
  floordiv_int hb (h _) hp
theorem pow24 (n : Nat) : (24 : Int) ^ n ≠ 0 := Int.pow_ne_zero (by decide)
end
theorem tmap_fr {h₀ h : Heap} {L : Addr} {m : Str → Option Value} {wh i : Int} {tw t : Tok} {ar ad an : Addr} (F : Fr h₀ L h m) (e1 : m (Str.ofString "numbers") = some (.ref an)) (e2 : m (Str.ofString "dots") = some (.ref ad)) (e3 : m (Str.ofString "rows") = some (.ref ar))
    (e4 : m (Str.ofString "mine") = some (.bool false)) (e5 : m (Str.ofString "turn") = some (.int i t)) (e6 : m (Str.ofString "which") = some (.int wh tw)) : Fr h₀ L h (tmap wh i tw t ar ad an m) := by
  have e : tmap wh i tw t ar ad an m = m := by
    funext y
    show (if y = Str.ofString "which" then some (Value.int wh tw) else if y = Str.ofString "turn" then some (.int i t) else if y = Str.ofString "mine" then some (.bool false) else if y = Str.ofString "rows" then some (.ref ar) else if y = Str.ofString "dots" then some (.ref ad) else if y = Str.ofString "numbers" then some (.ref an) else m y) = m y
    by_cases h6 : y = Str.ofString "which"
    · rw [if_pos h6, h6, e6]
    rw [if_neg h6]
    by_cases h5 : y = Str.ofString "turn"
    · rw [if_pos h5, h5, e5]
    rw [if_neg h5]
    by_cases h4 : y = Str.ofString "mine"
    · rw [if_pos h4, h4, e4]
    rw [if_neg h4]
    by_cases h3 : y = Str.ofString "rows"
    · rw [if_pos h3, h3, e3]
    rw [if_neg h3]
    by_cases h2 : y = Str.ofString "dots"
    · rw [if_pos h2, h2, e2]
    rw [if_neg h2]
    by_cases h1 : y = Str.ofString "numbers"
    · rw [if_pos h1, h1, e1]
    rw [if_neg h1]
  rw [e]
  exact F
theorem news_tail {g h : Heap} {L : Addr} {p : Addr × Obj} {r : List (Addr × Obj)} (N : News g L h (p :: r)) : News g L h r := fun q hq => N q (.tail _ hq)
theorem off1_of {D : Addr} : ∀ {l : List (Addr × Obj)}, (∀ p ∈ l, p.1 ≠ D) → LCg.Off1 D l
  | [], _ => trivial
  | p :: _, h => ⟨h p (.head _), off1_of fun q hq => h q (.tail _ hq)⟩
theorem le8 {a b c wh d : Int} (ha : a ≤ 8) (hb : b ≤ 8) (hc : c ≤ 8) (h0 : 0 ≤ wh) (h3 : wh < 3) (h : d ≤ [a, b, c].getD wh.toNat 0) : d ≤ 8 := by
  have : wh = 0 ∨ wh = 1 ∨ wh = 2 := by omega
  rcases this with rfl | rfl | rfl
  · exact Int.le_trans h ha
  · exact Int.le_trans h hb
  · exact Int.le_trans h hc
theorem wh3 {wh : Int} (h0 : 0 ≤ wh) (h3 : wh < 3) : wh = 0 ∨ wh = 1 ∨ wh = 2 := by omega
local macro_rules | `(tactic| walk_at "call ref") => `(tactic| (k_here; refine Stop.of ?_))
local macro_rules | `(tactic| walk_at "exec Assign cons ListComp") => `(tactic| (k_here; refine Stop.of ?_))
local macro_rules | `(tactic| k_ne) => `(tactic| (refine neN ?_; (try dsimp only); first | exact Ap.get (by with_reducible assumption) (by k_mem) | exact off1_get (by with_reducible assumption) (by k_mem) | exact Ne.symm (off1_get (by with_reducible assumption) (by k_mem)) | omega))
local macro_rules | `(tactic| walk_at "binaryOp FloorDiv int int") => `(tactic| (k_here; (with_reducible show wpAny _ _ (binaryOp _ _ (Value.int (HPow.hPow _ _) _)) _ _ _); k_dflt (refine floordiv_any (pow24 _) ?_); intro d'; (try dsimp only)))
local macro_rules | `(tactic| walk_at "eval Call") => `(tactic| (k_here; k_dflt (refine Call_ ?_)))
local macro_rules | `(tactic| walk_at "subscriptTail Name BinOp ref int") => `(tactic| (k_here; k_dflt (refine' ksa_sub ?N ?hm ?hi ?h0 ?h1 ?hf ?_ ?hs; (case N => k_asm); (case hm => k_mem); (case hi => exact .cons _ _ (.cons _ _ (.cons _ _ (.cons _ _ (.cons _ _ (.cons _ _ (.cons _ _ (.cons _ _ .nil)))))))); (case h0 => omega); (case h1 => ((simp only [List.length_cons, List.length_nil]); omega)); (case hf => exact lt63 (by omega)); (case hs => with_unfolding_all rfl)); intro t'; (try dsimp only)))
set_option rowWalk.seconds 0 in
set_option maxHeartbeats 8000000 in
theorem branch_theirs {w : World} {mean : ExcName → Option Value} {mg mb : Str → Option Value} {h₀ : Heap} {L fa : Addr} {cd : Value} {Q : Flow → Shared → Prop} {E : Value → Shared → Prop} {gens : Array GenState} {drawn : Drawn} {os : OsState}
    {an : Addr} {ep : Nat} {z0 z1 z2 z3 z4 z5 z6 z7 : Int} {t0 t1 t2 t3 t4 t5 t6 t7 : Tok} (B : Below callerA h₀ [] h₀) (X : (Mine.hd.heap_39 w.params).In h₀) (T : Top Mine.hd.view_39 LO mean mg mb h₀)
    (hQ : ∀ h k m, Fr h₀ L h m → Q (.ret (.bool true)) { heap := h, gens := gens, drawn := drawn, toks := k, os := os })
    {g : Heap} {tk : Nat} {I : Addr} {oI : Obj} {t : Tok} {i a b c : Int} {ta tb tc : Tok} {ad ar : Addr} {ed : Nat} {orr : Obj} {w0 w1 w2 : Obj} {v0 v1 v2 : Option Value} {mb' : Str → Option Value}
    (ha : 0 ≤ a ∧ a ≤ 8) (hb : 0 ≤ b ∧ b ≤ 8) (hc : 0 ≤ c ∧ c ≤ 8) (hi0 : 0 ≤ i) (hi24 : i ≤ 24) (hm : mineB a b c = false)
    (hw0 : w0.data = .cell v0) (hw1 : w1.data = .cell v1) (hw2 : w2.data = .cell v2)
    (hA1 : Ap (L + 1) [I, ar, ad, an]) (hA2 : Ap (L + 1 + 1) [I, ar, ad, an]) (hA3 : Ap (L + 1 + 1 + 1) [I, ar, ad, an])
    (F : Fr h₀ L g (fun y => if y = Str.ofString "turn" then some (.int i t) else if y = Str.ofString "mine" then some (.bool false) else if y = Str.ofString "rows" then some (.ref ar) else if y = Str.ofString "dots" then some (.ref ad) else if y = Str.ofString "numbers" then some (.ref an) else mb' y))
    (N : News h₀ L g [(I, oI), (ar, orr), (ad, listOf #[.int a ta, .int b tb, .int c tc] ed), (an, listOf #[.int z0 t0, .int z1 t1, .int z2 t2, .int z3 t3, .int z4 t4, .int z5 t5, .int z6 t6, .int z7 t7] ep), (L + 1 + 1 + 1, w2), (L + 1 + 1, w1), (L + 1, w0)]) :
    wpAny (model PG w) (lawA L fa cd) (exec branch (lawEnv L fa cd)) (BPost h₀ L an (listOf #[.int z0 t0, .int z1 t1, .int z2 t2, .int z3 t3, .int z4 t4, .int z5 t5, .int z6 t6, .int z7 t7] ep) I oI ad ar (listOf #[.int a ta, .int b tb, .int c tc] ed) orr a b c i t gens drawn os Q) E { heap := g, gens := gens, drawn := drawn, toks := tk, os := os } := by
  have kf : Mine.hd.heap_39 = Mine.hd.heap_39 ∧ PySem.Challenge.rw_sc0023_01 = PySem.Challenge.rw_sc0023_01 := by k_fill; exact ⟨rfl, rfl⟩
  clear kf
  change wpAny _ (callerA.deeper (envOfC (Str.ofString "law") { kind := _, names := _, isGenerator := _, isCoroutine := _, more := _ } L fa cd)) (exec (.If (.Name _ _) _ _ _) (envOfC (Str.ofString "law") { kind := _, names := _, isGenerator := _, isCoroutine := _, more := _ } L fa cd)) _ _ _
  have h5a : 0 ≤ i.fmod 5 := Int.fmod_nonneg_of_pos i (by decide)
  have h5b : i.fmod 5 < 5 := Int.fmod_lt_of_pos i (by decide)
  have h5c : 0 ≤ i.fdiv 5 ∧ i.fdiv 5 ≤ 4 := by
    rw [Int.fdiv_eq_ediv_of_nonneg _ (by decide)]
    omega
  k_steps
  · exact Or.inr ⟨_, rfl, hQ _ _ _ (by k_asm)⟩
  change wpAny _ _ _ _ _ _
  refine' drawn_tells _ _ a b c _ ta tb tc _ ha hb hc ?hp _ _ _ _ _ _ _ _ _ _ _ _ _ _ _ _ _ _ _ _ _ _ rfl rfl ?B ?F ?X ?T rfl ?hd ?hu ?pre ?_
  case B => k_asm
  case F => k_asm
  case X => k_asm
  case T => k_asm
  case hp => omega
  case hd => decide
  case hu => decide
  case pre => is_list
  intro h3 l3 k3 wh d tw td ep3 hk3 hg3 hn3 hwh0 hwh3 hd1 hdle
  obtain ⟨F3, N3, hne3⟩ := tellG_add (by k_asm) (by k_asm) hk3 hg3 hn3
  clear hk3 hg3 hn3
  replace hne3 := off1_of hne3
  k_steps
  change wpAny _ _ _ _ _ _
  have hwh := wh3 hwh0 hwh3
  have hd8 := le8 ha.2 hb.2 hc.2 hwh0 hwh3 hdle
  rename Fr _ _ _ _ => FF
  rename News _ _ _ _ => NN
  replace FF := tmap_fr (wh := wh) (i := i) (ar := ar) (ad := ad) (an := an) (tw := tw) (t := t) FF rfl rfl rfl rfl rfl rfl
  rename (_ = Data.cell (some (Value.int (Int.fmod _ _) _))) => hc0
  rename (_ = Data.cell (some (Value.int d td))) => hc1
  refine wpAny_mono (singles_ok (fa := fa) (cd := cd) B X T hd1 hd8 hc0 hc1 hw2 hA3 FF (news_tail NN)) ?_ (fun _ _ e => e)
  rintro f s' ⟨rfl, h', tk', D, o, sv, k, rfl, F', N', ho, q1, q2, q3, q4, hS⟩
  change wpAny _ _ (execs toldBody (lawEnv L fa cd)) _ _ _
  rcases hS with ⟨h2, rfl⟩ | ⟨h1, h2, rfl⟩ | ⟨h1, h2, rfl⟩ | ⟨h1, rfl⟩
  · refine wpAny_mono (told_0 (Q := Q) (t1 := q1) (t2 := q2) (t3 := q3) (t4 := q4) B X T hwh hd1 h2 hdle (Int.fmod_nonneg_of_pos _ (by decide)) (Int.fmod_lt_of_pos _ (by decide)) hm hc0 hc1 ho F' N') ?_ (fun _ _ e => e)
    rintro f s' (⟨rfl, hmid⟩ | ⟨v, rfl, hq⟩)
    · exact wpAny_execs_nil (Or.inl ⟨rfl, hmid⟩)
    · exact Or.inr ⟨v, rfl, hq⟩
  · refine wpAny_mono (told_1 (Q := Q) (t1 := q1) (t2 := q2) (t3 := q3) (t4 := q4) B X T hwh h1 h2 hdle (Int.fmod_nonneg_of_pos _ (by decide)) (Int.fmod_lt_of_pos _ (by decide)) hm hc0 hc1 ho F' N') ?_ (fun _ _ e => e)
    rintro f s' (⟨rfl, hmid⟩ | ⟨v, rfl, hq⟩)
    · exact wpAny_execs_nil (Or.inl ⟨rfl, hmid⟩)
    · exact Or.inr ⟨v, rfl, hq⟩
  · refine wpAny_mono (told_2 (Q := Q) (t1 := q1) (t2 := q2) (t3 := q3) (t4 := q4) B X T hwh h1 h2 hdle (Int.fmod_nonneg_of_pos _ (by decide)) (Int.fmod_lt_of_pos _ (by decide)) hm hc0 hc1 ho F' N') ?_ (fun _ _ e => e)
    rintro f s' (⟨rfl, hmid⟩ | ⟨v, rfl, hq⟩)
    · exact wpAny_execs_nil (Or.inl ⟨rfl, hmid⟩)
    · exact Or.inr ⟨v, rfl, hq⟩
  · refine wpAny_mono (told_3 (Q := Q) (t1 := q1) (t2 := q2) (t3 := q3) (t4 := q4) B X T hwh h1 (by omega) hdle (Int.fmod_nonneg_of_pos _ (by decide)) (Int.fmod_lt_of_pos _ (by decide)) hm hc0 hc1 ho F' N') ?_ (fun _ _ e => e)
    rintro f s' (⟨rfl, hmid⟩ | ⟨v, rfl, hq⟩)
    · exact wpAny_execs_nil (Or.inl ⟨rfl, hmid⟩)
    · exact Or.inr ⟨v, rfl, hq⟩
end Mine

end
section
open PySem PySem.W PySem.Calls PyProof.Rows
set_option Elab.async false
namespace Mine
set_option maxRecDepth 100000

theorem list_at {h₀ h : Heap} {L l : Addr} {news : List (Addr × Obj)} {its : Array Value} {n : Nat} (N : News h₀ L h news) (hm : (l, listOf its n) ∈ news) : h.IsList l its := ⟨_, (N _ hm).1, rfl, n, rfl⟩
local macro_rules | `(tactic| walk_at "call ref") => `(tactic| (k_here; refine Stop.of ?_))
local macro_rules | `(tactic| walk_at "eval Call") => `(tactic| (k_here; k_dflt (refine Call_ ?_)))
local macro_rules | `(tactic| walk_at "compareOp NotEq ref ref") => `(tactic| (k_here; refine Stop.of ?_))
set_option rowWalk.seconds 0 in
set_option maxHeartbeats 8000000 in
theorem tail_ok {w : World} {mean : ExcName → Option Value} {mg mb : Str → Option Value} {h₀ : Heap} {L fa : Addr} {cd : Value} {Q : Flow → Shared → Prop} {E : Value → Shared → Prop} {gens : Array GenState} {drawn : Drawn} {os : OsState}
    {an : Addr} {no : Obj} (B : Below callerA h₀ [] h₀) (X : (Mine.hd.heap_39 w.params).In h₀) (T : Top Mine.hd.view_39 LO mean mg mb h₀)
    {g g0 : Heap} {tk tk0 : Nat} {I : Addr} {oI : Obj} {t : Tok} {n : Nat} {a b c : Int} {ta tb tc : Tok} {ad ar : Addr} {ed er : Nat} {rs : List Value} {w0 w1 w2 : Obj} {v0 v1 v2 : Option Value} {mb' : Str → Option Value} {wh ct : Int} {tw tcn : Tok}
    (ha : 0 ≤ a ∧ a ≤ 8) (hb : 0 ≤ b ∧ b ≤ 8) (hc : 0 ≤ c ∧ c ≤ 8) (hn : n < 25) (hsum : a + b + c + (n : Int) ≤ 24) (hrs : StrsAre rs (writtenL a b c))
    (hap : (@Ne Nat an (L + 1 + 1 + 1) ∧ @Ne Nat an (L + 1 + 1) ∧ @Ne Nat an (L + 1)))
    (hw0 : w0.data = .cell v0) (hw1 : w1.data = .cell v1) (hw2 : w2.data = .cell v2)
    (hnI : @Ne Nat an I ∧ @Ne Nat (L + 1 + 1 + 1) I ∧ @Ne Nat (L + 1 + 1) I ∧ @Ne Nat (L + 1) I)
    (hwh : wh = 0 ∨ wh = 1 ∨ wh = 2) (hct : ct = 1 ∨ ct = 2 ∨ ct = 4 ∨ ct = 8) (hle : ct ≤ [a, b, c].getD wh.toNat 0) (hmine : mineB (off 0 wh ct a) (off 1 wh ct b) (off 2 wh ct c) = !mineB a b c)
    (F : Fr h₀ L g (fun y => if y = Str.ofString "count" then some (.int ct tcn) else if y = Str.ofString "which" then some (.int wh tw) else if y = Str.ofString "turn" then some (.int (n : Int) t) else if y = Str.ofString "mine" then some (.bool (mineB a b c)) else if y = Str.ofString "rows" then some (.ref ar) else if y = Str.ofString "dots" then some (.ref ad) else if y = Str.ofString "numbers" then some (.ref an) else mb' y))
    (N : News h₀ L g [(I, oI), (ar, listOf rs.toArray er), (ad, listOf #[.int a ta, .int b tb, .int c tc] ed), (an, no), (L + 1 + 1 + 1, w2), (L + 1 + 1, w1), (L + 1, w0)]) :
    wpAny (model PG w) (lawA L fa cd) (execs tailBody (lawEnv L fa cd)) (RPost h₀ L (LJ L an no (n + 1)) [(I, oI)] I { heap := g0, gens := gens, drawn := drawn, toks := tk0, os := os } Q) E { heap := g, gens := gens, drawn := drawn, toks := tk, os := os } := by
  have kf : Mine.hd.heap_39 = Mine.hd.heap_39 ∧ PySem.Challenge.rw_sc0023_01 = PySem.Challenge.rw_sc0023_01 := by k_fill; exact ⟨rfl, rfl⟩
  clear kf
  have hs1 : singleB ct = true ∧ singleB (-ct) = false := single_vals ct (by simpa using hct)
  have hturn : 0 ≤ (n : Int) ∧ (n : Int) ≤ 24 := by omega
  have hc1 : 1 ≤ ct := by omega
  change wpAny _ (callerA.deeper (envOfC (Str.ofString "law") { kind := _, names := _, isGenerator := _, isCoroutine := _, more := _ } L fa cd)) (execs (_ :: _ :: _ :: _ :: _ :: []) (envOfC (Str.ofString "law") { kind := _, names := _, isGenerator := _, isCoroutine := _, more := _ } L fa cd)) _ _ _
  generalize hnn : (n : Int) = nn at *
  k_steps
  change wpAny _ _ _ _ _ _
  refine' single_tells _ _ ct _ _ _ _ _ _ _ _ _ _ _ _ _ _ _ _ _ _ _ _ _ _ _ rfl rfl ?B ?F ?X ?N ?T rfl ?hd ?hu ?_
  case B => k_asm
  case F => k_asm
  case X => k_asm
  case N => k_asm
  case T => k_asm
  case hd => decide
  case hu => decide
  intro h1 k1 hFN1
  obtain ⟨F1, N1⟩ := hFN1
  rw [hs1.1]
  k_steps
  change wpAny _ _ _ _ _ _
  refine' single_tells _ _ (-ct) _ _ _ _ _ _ _ _ _ _ _ _ _ _ _ _ _ _ _ _ _ _ _ rfl rfl ?B ?F ?X ?N ?T rfl ?hd ?hu ?_
  case B => k_asm
  case F => k_asm
  case X => k_asm
  case N => k_asm
  case T => k_asm
  case hd => decide
  case hu => decide
  intro h2 k2 hFN2
  obtain ⟨F2, N2⟩ := hFN2
  rw [hs1.2]
  rcases hwh with rfl | rfl | rfl
  · have hle' : ct ≤ a := hle
    have hmine' : mineB (a - ct) b c = !mineB a b c := hmine
    have hd' : 0 ≤ a - ct ∧ a - ct ≤ 8 := by omega
    have eg : [a, b, c].getD (Int.toNat 0) 0 = a := rfl
    clear hle hmine
    k_steps
    change wpAny _ _ _ _ _ _
    rw [eg] at *
    refine' taken_tells _ _ a b c ct nn 0 rs _ _ _ ha hb hc hrs ?hwh ⟨hc1, hle'⟩ hturn _ _ _ _ _ _ _ _ _ _ _ _ _ _ _ _ _ _ _ _ _ _ rfl rfl ?B ?F ?X ?T rfl ?hd ?hu ?pre ?_
    case B => k_asm
    case F => k_asm
    case X => k_asm
    case T => k_asm
    case hd => decide
    case hu => decide
    case hwh => exact .inl rfl
    case pre => is_list
    intro h3 l3 k3 ys3 ep3 hk3 hg3 hn3 hs3
    obtain ⟨F3, N3, hne3⟩ := tellG_add (by k_asm) (by k_asm) hk3 hg3 hn3
    clear hk3 hg3 hn3
    replace hne3 := allNe_of hne3
    simp only [AllNe, and_true] at hne3
    have hl3 : (@Ne Nat l3 I) ∧ (@Ne Nat l3 (L + 1 + 1 + 1) ∧ @Ne Nat l3 (L + 1 + 1) ∧ @Ne Nat l3 (L + 1)) := by
      obtain ⟨_, _, _, _, _, q1, _, _, _, q2, q3, q4⟩ := hne3
      exact ⟨Ne.symm q1, Ne.symm q2, Ne.symm q3, Ne.symm q4⟩
    clear hne3
    replace hs3 : StrsAre ys3 (writtenL (a - ct) b c) := hs3
    k_steps
    change wpAny _ _ _ _ _ _
    refine' written_tells _ _ (a - ct) b c _ tb tc ?ha ?hb ?hc _ _ _ _ _ _ _ _ _ _ _ _ _ _ _ _ _ _ _ _ _ _ rfl rfl ?B ?F ?X ?T rfl ?hd ?hu ?pre ?_
    case B => k_asm
    case F => k_asm
    case X => k_asm
    case T => k_asm
    case hd => decide
    case hu => decide
    case ha => assumption
    case hb => assumption
    case hc => assumption
    case pre =>
      refine' list_at ?pN ?pm
      case pN => k_asm
      case pm => k_mem
    intro h4 l4 k4 ys4 ep4 hk4 hg4 hn4 hs4
    obtain ⟨F4, N4, hne4⟩ := tellG_add (by k_asm) (by k_asm) hk4 hg4 hn4
    clear hk4 hg4 hn4 hne4
    k_steps
    change wpAny _ _ _ _ _ _
    refine ne_strs (by is_list) (by is_list) hs3 hs4 (written_ok (by omega) (by omega) (by omega)) (Nat.le_of_ble_eq_true rfl) ?_
    k_steps
    refine' ⟨_, _, _, _, rfl, ?fr, ?nw, ?ne, ?lj⟩
    case fr => k_asm
    case lj =>
      refine' ⟨(a - ct), b, c, k2, tb, tc, _, l3, 0, ep3, ys3, w0, w1, w2, v0, v1, v2, rfl, hd', hb, hc, ?_, hs3, ⟨hw0, hw1, hw2⟩, ⟨rfl, rfl, rfl, ?_⟩, ?_, ?_, hap⟩
      · clear hl3 hap hnI
        omega
      · exact congrArg (fun x => some (Value.bool x)) hmine'.symm
      · exact hl3.2
      · clear hl3 hap hnI
        refine ⟨?_, ?_, ?_⟩ <;> omega
    case nw =>
      refine news_sub (by assumption) ?_
      refine List.forall_mem_cons.mpr ⟨by k_mem, List.forall_mem_cons.mpr ⟨by k_mem, List.forall_mem_cons.mpr ⟨by k_mem, List.forall_mem_cons.mpr ⟨by k_mem, List.forall_mem_cons.mpr ⟨by k_mem, List.forall_mem_cons.mpr ⟨by k_mem, List.forall_mem_cons.mpr ⟨by k_mem, List.forall_mem_nil _⟩⟩⟩⟩⟩⟩⟩
    case ne =>
      refine List.forall_mem_cons.mpr ⟨hl3.1, List.forall_mem_cons.mpr ⟨?_, List.forall_mem_cons.mpr ⟨hnI.1, List.forall_mem_cons.mpr ⟨hnI.2.1, List.forall_mem_cons.mpr ⟨hnI.2.2.1, List.forall_mem_cons.mpr ⟨hnI.2.2.2, List.forall_mem_nil _⟩⟩⟩⟩⟩⟩
      clear hl3 hap hnI
      k_ne
  · have hle' : ct ≤ b := hle
    have hmine' : mineB a (b - ct) c = !mineB a b c := hmine
    have hd' : 0 ≤ b - ct ∧ b - ct ≤ 8 := by omega
    have eg : [a, b, c].getD (Int.toNat 1) 0 = b := rfl
    clear hle hmine
    k_steps
    change wpAny _ _ _ _ _ _
    rw [eg] at *
    refine' taken_tells _ _ a b c ct nn 1 rs _ _ _ ha hb hc hrs ?hwh ⟨hc1, hle'⟩ hturn _ _ _ _ _ _ _ _ _ _ _ _ _ _ _ _ _ _ _ _ _ _ rfl rfl ?B ?F ?X ?T rfl ?hd ?hu ?pre ?_
    case B => k_asm
    case F => k_asm
    case X => k_asm
    case T => k_asm
    case hd => decide
    case hu => decide
    case hwh => exact .inr (.inl rfl)
    case pre => is_list
    intro h3 l3 k3 ys3 ep3 hk3 hg3 hn3 hs3
    obtain ⟨F3, N3, hne3⟩ := tellG_add (by k_asm) (by k_asm) hk3 hg3 hn3
    clear hk3 hg3 hn3
    replace hne3 := allNe_of hne3
    simp only [AllNe, and_true] at hne3
    have hl3 : (@Ne Nat l3 I) ∧ (@Ne Nat l3 (L + 1 + 1 + 1) ∧ @Ne Nat l3 (L + 1 + 1) ∧ @Ne Nat l3 (L + 1)) := by
      obtain ⟨_, _, _, _, _, q1, _, _, _, q2, q3, q4⟩ := hne3
      exact ⟨Ne.symm q1, Ne.symm q2, Ne.symm q3, Ne.symm q4⟩
    clear hne3
    replace hs3 : StrsAre ys3 (writtenL a (b - ct) c) := hs3
    k_steps
    change wpAny _ _ _ _ _ _
    refine' written_tells _ _ a (b - ct) c ta _ tc ?ha ?hb ?hc _ _ _ _ _ _ _ _ _ _ _ _ _ _ _ _ _ _ _ _ _ _ rfl rfl ?B ?F ?X ?T rfl ?hd ?hu ?pre ?_
    case B => k_asm
    case F => k_asm
    case X => k_asm
    case T => k_asm
    case hd => decide
    case hu => decide
    case ha => assumption
    case hb => assumption
    case hc => assumption
    case pre =>
      refine' list_at ?pN ?pm
      case pN => k_asm
      case pm => k_mem
    intro h4 l4 k4 ys4 ep4 hk4 hg4 hn4 hs4
    obtain ⟨F4, N4, hne4⟩ := tellG_add (by k_asm) (by k_asm) hk4 hg4 hn4
    clear hk4 hg4 hn4 hne4
    k_steps
    change wpAny _ _ _ _ _ _
    refine ne_strs (by is_list) (by is_list) hs3 hs4 (written_ok (by omega) (by omega) (by omega)) (Nat.le_of_ble_eq_true rfl) ?_
    k_steps
    refine' ⟨_, _, _, _, rfl, ?fr, ?nw, ?ne, ?lj⟩
    case fr => k_asm
    case lj =>
      refine' ⟨a, (b - ct), c, ta, k2, tc, _, l3, 0, ep3, ys3, w0, w1, w2, v0, v1, v2, rfl, ha, hd', hc, ?_, hs3, ⟨hw0, hw1, hw2⟩, ⟨rfl, rfl, rfl, ?_⟩, ?_, ?_, hap⟩
      · clear hl3 hap hnI
        omega
      · exact congrArg (fun x => some (Value.bool x)) hmine'.symm
      · exact hl3.2
      · clear hl3 hap hnI
        refine ⟨?_, ?_, ?_⟩ <;> omega
    case nw =>
      refine news_sub (by assumption) ?_
      refine List.forall_mem_cons.mpr ⟨by k_mem, List.forall_mem_cons.mpr ⟨by k_mem, List.forall_mem_cons.mpr ⟨by k_mem, List.forall_mem_cons.mpr ⟨by k_mem, List.forall_mem_cons.mpr ⟨by k_mem, List.forall_mem_cons.mpr ⟨by k_mem, List.forall_mem_cons.mpr ⟨by k_mem, List.forall_mem_nil _⟩⟩⟩⟩⟩⟩⟩
    case ne =>
      refine List.forall_mem_cons.mpr ⟨hl3.1, List.forall_mem_cons.mpr ⟨?_, List.forall_mem_cons.mpr ⟨hnI.1, List.forall_mem_cons.mpr ⟨hnI.2.1, List.forall_mem_cons.mpr ⟨hnI.2.2.1, List.forall_mem_cons.mpr ⟨hnI.2.2.2, List.forall_mem_nil _⟩⟩⟩⟩⟩⟩
      clear hl3 hap hnI
      k_ne
  · have hle' : ct ≤ c := hle
    have hmine' : mineB a b (c - ct) = !mineB a b c := hmine
    have hd' : 0 ≤ c - ct ∧ c - ct ≤ 8 := by omega
    have eg : [a, b, c].getD (Int.toNat 2) 0 = c := rfl
    clear hle hmine
    k_steps
    change wpAny _ _ _ _ _ _
    rw [eg] at *
    refine' taken_tells _ _ a b c ct nn 2 rs _ _ _ ha hb hc hrs ?hwh ⟨hc1, hle'⟩ hturn _ _ _ _ _ _ _ _ _ _ _ _ _ _ _ _ _ _ _ _ _ _ rfl rfl ?B ?F ?X ?T rfl ?hd ?hu ?pre ?_
    case B => k_asm
    case F => k_asm
    case X => k_asm
    case T => k_asm
    case hd => decide
    case hu => decide
    case hwh => exact .inr (.inr rfl)
    case pre => is_list
    intro h3 l3 k3 ys3 ep3 hk3 hg3 hn3 hs3
    obtain ⟨F3, N3, hne3⟩ := tellG_add (by k_asm) (by k_asm) hk3 hg3 hn3
    clear hk3 hg3 hn3
    replace hne3 := allNe_of hne3
    simp only [AllNe, and_true] at hne3
    have hl3 : (@Ne Nat l3 I) ∧ (@Ne Nat l3 (L + 1 + 1 + 1) ∧ @Ne Nat l3 (L + 1 + 1) ∧ @Ne Nat l3 (L + 1)) := by
      obtain ⟨_, _, _, _, _, q1, _, _, _, q2, q3, q4⟩ := hne3
      exact ⟨Ne.symm q1, Ne.symm q2, Ne.symm q3, Ne.symm q4⟩
    clear hne3
    replace hs3 : StrsAre ys3 (writtenL a b (c - ct)) := hs3
    k_steps
    change wpAny _ _ _ _ _ _
    refine' written_tells _ _ a b (c - ct) ta tb _ ?ha ?hb ?hc _ _ _ _ _ _ _ _ _ _ _ _ _ _ _ _ _ _ _ _ _ _ rfl rfl ?B ?F ?X ?T rfl ?hd ?hu ?pre ?_
    case B => k_asm
    case F => k_asm
    case X => k_asm
    case T => k_asm
    case hd => decide
    case hu => decide
    case ha => assumption
    case hb => assumption
    case hc => assumption
    case pre =>
      refine' list_at ?pN ?pm
      case pN => k_asm
      case pm => k_mem
    intro h4 l4 k4 ys4 ep4 hk4 hg4 hn4 hs4
    obtain ⟨F4, N4, hne4⟩ := tellG_add (by k_asm) (by k_asm) hk4 hg4 hn4
    clear hk4 hg4 hn4 hne4
    k_steps
    change wpAny _ _ _ _ _ _
    refine ne_strs (by is_list) (by is_list) hs3 hs4 (written_ok (by omega) (by omega) (by omega)) (Nat.le_of_ble_eq_true rfl) ?_
    k_steps
    refine' ⟨_, _, _, _, rfl, ?fr, ?nw, ?ne, ?lj⟩
    case fr => k_asm
    case lj =>
      refine' ⟨a, b, (c - ct), ta, tb, k2, _, l3, 0, ep3, ys3, w0, w1, w2, v0, v1, v2, rfl, ha, hb, hd', ?_, hs3, ⟨hw0, hw1, hw2⟩, ⟨rfl, rfl, rfl, ?_⟩, ?_, ?_, hap⟩
      · clear hl3 hap hnI
        omega
      · exact congrArg (fun x => some (Value.bool x)) hmine'.symm
      · exact hl3.2
      · clear hl3 hap hnI
        refine ⟨?_, ?_, ?_⟩ <;> omega
    case nw =>
      refine news_sub (by assumption) ?_
      refine List.forall_mem_cons.mpr ⟨by k_mem, List.forall_mem_cons.mpr ⟨by k_mem, List.forall_mem_cons.mpr ⟨by k_mem, List.forall_mem_cons.mpr ⟨by k_mem, List.forall_mem_cons.mpr ⟨by k_mem, List.forall_mem_cons.mpr ⟨by k_mem, List.forall_mem_cons.mpr ⟨by k_mem, List.forall_mem_nil _⟩⟩⟩⟩⟩⟩⟩
    case ne =>
      refine List.forall_mem_cons.mpr ⟨hl3.1, List.forall_mem_cons.mpr ⟨?_, List.forall_mem_cons.mpr ⟨hnI.1, List.forall_mem_cons.mpr ⟨hnI.2.1, List.forall_mem_cons.mpr ⟨hnI.2.2.1, List.forall_mem_cons.mpr ⟨hnI.2.2.2, List.forall_mem_nil _⟩⟩⟩⟩⟩⟩
      clear hl3 hap hnI
      k_ne
end Mine

end
section
open PySem PySem.W PySem.Calls PyProof.Rows
set_option Elab.async false
namespace Mine
set_option maxRecDepth 100000
def setAll (l : List (Str × Value)) (m : Str → Option Value) : Str → Option Value := l.foldr (fun p m y => if y = p.1 then some p.2 else m y) m
theorem setAll_self : ∀ (l : List (Str × Value)) (m : Str → Option Value), (∀ p ∈ l, m p.1 = some p.2) → setAll l m = m
  | [], _, _ => rfl
  | p :: r, m, h => by
    have e : setAll (p :: r) m = fun y => if y = p.1 then some p.2 else setAll r m y := rfl
    rw [e, setAll_self r m fun q hq => h q (.tail _ hq)]
    exact ovr_self (h p (.head _))
theorem setAll_fr {h₀ h : Heap} {L : Addr} {m : Str → Option Value} (l : List (Str × Value)) (F : Fr h₀ L h m) (hl : ∀ p ∈ l, m p.1 = some p.2) : Fr h₀ L h (setAll l m) := by
  rw [setAll_self l m hl]
  exact F
theorem all4 {P : Str × Value → Prop} {a b c d : Str × Value} (h1 : P a) (h2 : P b) (h3 : P c) (h4 : P d) : ∀ p ∈ [a, b, c, d], P p := by
  intro p hp
  simp only [List.mem_cons, List.not_mem_nil, or_false] at hp
  rcases hp with rfl | rfl | rfl | rfl <;> assumption
theorem all5 {P : Str × Value → Prop} {a b c d e : Str × Value} (h1 : P a) (h2 : P b) (h3 : P c) (h4 : P d) (h5 : P e) : ∀ p ∈ [a, b, c, d, e], P p := by
  intro p hp
  simp only [List.mem_cons, List.not_mem_nil, or_false] at hp
  rcases hp with rfl | rfl | rfl | rfl | rfl <;> assumption
theorem all7 {P : Str × Value → Prop} {a b c d e f g : Str × Value} (h1 : P a) (h2 : P b) (h3 : P c) (h4 : P d) (h5 : P e) (h6 : P f) (h7 : P g) : ∀ p ∈ [a, b, c, d, e, f, g], P p := by
  intro p hp
  simp only [List.mem_cons, List.not_mem_nil, or_false] at hp
  rcases hp with rfl | rfl | rfl | rfl | rfl | rfl | rfl <;> assumption
theorem ap4 {x a b c d : Nat} (h1 : a ≠ x) (h2 : b ≠ x) (h3 : c ≠ x) (h4 : d ≠ x) : Ap x [a, b, c, d] := ⟨by
  intro y hy
  simp only [List.mem_cons, List.not_mem_nil, or_false] at hy
  rcases hy with rfl | rfl | rfl | rfl <;> assumption⟩
theorem turn_ok {w : World} {mean : ExcName → Option Value} {mg mb : Str → Option Value} {h₀ : Heap} {L fa : Addr} {cd : Value} {Q : Flow → Shared → Prop} {E : Value → Shared → Prop} {gens : Array GenState} {drawn : Drawn} {os : OsState}
    {an : Addr} {ep : Nat} {z0 z1 z2 z3 z4 z5 z6 z7 : Int} {t0 t1 t2 t3 t4 t5 t6 t7 : Tok}
    (B : Below callerA h₀ [] h₀) (X : (Mine.hd.heap_39 w.params).In h₀) (T : Top Mine.hd.view_39 LO mean mg mb h₀)
    (hQ : ∀ h k m, Fr h₀ L h m → Q (.ret (.bool true)) { heap := h, gens := gens, drawn := drawn, toks := k, os := os })
    (i : Nat) (m₁ : Str → Option Value) (nx : List (Addr × Obj)) (g : Heap) (tk : Nat) (I : Addr) (oI : Obj) (t : Tok) (hi : i < 25)
    (hJ : LJ L an (listOf #[.int z0 t0, .int z1 t1, .int z2 t2, .int z3 t3, .int z4 t4, .int z5 t5, .int z6 t6, .int z7 t7] ep) i m₁ nx) (hnx : ∀ p ∈ nx, p.1 ≠ I)
    (F : Fr h₀ L g (fun y => if y = Str.ofString "turn" then some (.int (i : Int) t) else m₁ y)) (N : News h₀ L g ((I, oI) :: nx)) :
    wpAny (model PG w) (lawA L fa cd) (execs loopBody (lawEnv L fa cd))
      (RPost h₀ L (LJ L an (listOf #[.int z0 t0, .int z1 t1, .int z2 t2, .int z3 t3, .int z4 t4, .int z5 t5, .int z6 t6, .int z7 t7] ep) (i + 1)) [(I, oI)] I { heap := g, gens := gens, drawn := drawn, toks := tk, os := os } Q) E
      { heap := g, gens := gens, drawn := drawn, toks := tk, os := os } := by
  obtain ⟨a, b, c, ta, tb, tc, ad, ar, ed, er, rs, w0, w1, w2, v0, v1, v2, rfl, ha, hb, hc, hsum, hrs, ⟨hw0, hw1, hw2⟩, ⟨e1, e2, e3, e4⟩, ⟨r1, r2, r3⟩, ⟨d1, d2, d3⟩, hap⟩ := hJ
  obtain ⟨i1, i2, i3, i4, i5, i6, _⟩ := allNe_of hnx
  change wpAny _ _ (execs (branch :: tailBody) (lawEnv L fa cd)) _ _ _
  refine exec_cut (Mid h₀ L an (listOf #[.int z0 t0, .int z1 t1, .int z2 t2, .int z3 t3, .int z4 t4, .int z5 t5, .int z6 t6, .int z7 t7] ep) I oI ad ar (listOf #[.int a ta, .int b tb, .int c tc] ed) (listOf rs.toArray er) a b c (i : Int) t gens drawn os) ?_ ?_
  · cases hm : mineB a b c with
    | true =>
      rw [hm] at e4
      have e5 : (fun y => if y = Str.ofString "turn" then some (Value.int (i : Int) t) else m₁ y) = fun y => if y = Str.ofString "turn" then some (Value.int (i : Int) t) else setAll [(Str.ofString "mine", .bool true), (Str.ofString "rows", .ref ar), (Str.ofString "dots", .ref ad), (Str.ofString "numbers", .ref an)] m₁ y := by
        rw [setAll_self _ m₁ (all4 e4 e3 e2 e1)]
      rw [e5] at F
      exact branch_mine (Q := Q) (mb' := m₁) B X T ha hb hc hm hw0 hw1 hw2 F N
    | false =>
      rw [hm] at e4
      have e5 : (fun y => if y = Str.ofString "turn" then some (Value.int (i : Int) t) else m₁ y) = fun y => if y = Str.ofString "turn" then some (Value.int (i : Int) t) else setAll [(Str.ofString "mine", .bool false), (Str.ofString "rows", .ref ar), (Str.ofString "dots", .ref ad), (Str.ofString "numbers", .ref an)] m₁ y := by
        rw [setAll_self _ m₁ (all4 e4 e3 e2 e1)]
      rw [e5] at F
      exact branch_theirs (Q := Q) (mb' := m₁) B X T hQ ha hb hc (by omega) (by omega) hm hw0 hw1 hw2 (ap4 (Ne.symm i6) r3 d3 hap.2.2) (ap4 (Ne.symm i5) r2 d2 hap.2.1) (ap4 (Ne.symm i4) r1 d1 hap.1) F N
  · rintro s' ⟨h', tk', m, w0', w1', w2', v0', v1', v2', wh, ct, tw, tcn, rfl, F', N', ⟨hw0', hw1', hw2'⟩, ⟨m1, m2, m3, m4, m5, m6, m7⟩, hwh, hct, hle, hmn⟩
    have F2 := setAll_fr [(Str.ofString "count", .int ct tcn), (Str.ofString "which", .int wh tw), (Str.ofString "turn", .int (i : Int) t), (Str.ofString "mine", .bool (mineB a b c)), (Str.ofString "rows", .ref ar), (Str.ofString "dots", .ref ad), (Str.ofString "numbers", .ref an)] F' (all7 m7 m6 m5 m4 m3 m2 m1)
    exact tail_ok (mb' := m) B X T ha hb hc hi hsum hrs hap hw0' hw1' hw2' ⟨i3, i4, i5, i6⟩ hwh hct hle hmn F2 N'
end Mine

end
section
open PySem PySem.W PySem.Calls PyProof.Rows
set_option Elab.async false
namespace Mine
set_option maxRecDepth 100000

local macro_rules | `(tactic| walk_at "call ref") => `(tactic| (k_here; refine Stop.of ?_))
local macro_rules | `(tactic| walk_at "pyIter ref") => `(tactic| (k_here; refine Stop.of ?_))

set_option rowWalk.seconds 0 in
set_option maxHeartbeats 8000000 in
theorem law_main {w : World} {mean : ExcName → Option Value} {mg mb : Str → Option Value} {h₀ : Heap} {L fa ls : Addr} {cd : Value} {vs : List Value} {ns : List Int} {w0 w1 w2 : Obj} {s : Shared} {Q : Flow → Shared → Prop} {E : Value → Shared → Prop}
    (B : Below callerA h₀ [] h₀) (F : Fr h₀ L s.heap (fun y => if y = Str.ofString "script" then some (Value.ref ls) else none)) (X : (Mine.hd.heap_39 w.params).In h₀) (T : Top Mine.hd.view_39 LO mean mg mb h₀)
    (N : News h₀ L s.heap [(L + 1 + 1 + 1, w2), (L + 1 + 1, w1), (L + 1, w0)]) (hd2 : w2.data = .cell none) (hd1 : w1.data = .cell none) (hd0 : w0.data = .cell none)
    (hl : h₀.IsList ls vs.toArray) (hi : IntsAre vs ns) (hn : ¬ ((63 : Nat) : Int) < (ns.length : Int)) (hE : PassesOwn (model PG w) (lawA L fa cd) (lawEnv L fa cd) E)
    (hQ : ∀ h k m, Fr h₀ L h m → Q (.ret (.bool true)) { s with heap := h, toks := k }) : wpAny (model PG w) (lawA L fa cd) (execs lawBody (lawEnv L fa cd)) Q E s := by
  have kf : Mine.hd.heap_39 = Mine.hd.heap_39 ∧ PySem.Challenge.rw_sc0023_01 = PySem.Challenge.rw_sc0023_01 := by k_fill; exact ⟨rfl, rfl⟩
  clear kf
  obtain ⟨g, gens, drawn, toks, os⟩ := s
  dsimp only at F N hQ
  change wpAny _ (callerA.deeper (envOfC (Str.ofString "law") { kind := _, names := _, isGenerator := _, isCoroutine := _, more := _ } L fa cd)) (execs (_ :: _ :: _ :: _ :: _ :: _ :: []) (envOfC (Str.ofString "law") { kind := _, names := _, isGenerator := _, isCoroutine := _, more := _ } L fa cd)) _ _ _
  k_steps
  change wpAny _ _ _ _ _ _
  refine' numbers_tells _ _ _ _ ?hi ?hz _ _ _ _ _ _ _ _ _ _ _ _ _ _ _ _ _ _ _ _ _ _ rfl rfl ?B ?F ?X ?T rfl ?hd ?hu ?pre ?_
  case B => k_asm
  case F => k_asm
  case X => k_asm
  case T => k_asm
  case hi => k_asm
  case hz => exact sz63 (by assumption) (by assumption)
  case hd => decide
  case hu => decide
  case pre => is_list
  intro h1 l1 k1 xs1 ep1 zs1 hk1 hg1 hn1 hi1 hl1
  obtain ⟨F1, N1, hne1⟩ := tellG_add (by k_asm) (by k_asm) hk1 hg1 hn1
  clear hk1 hg1 hn1
  replace hne1 := allNe_of hne1
  simp only [AllNe, and_true] at hne1
  obtain ⟨z0, z1, z2, z3, z4, z5, z6, z7, t0, t1, t2, t3, t4, t5, t6, t7, rfl⟩ := ints8 hi1 hl1
  clear hi1 hl1
  k_steps
  rename IntsAre _ _ => hy
  simp only [List.map_cons, List.map_nil] at hy
  rcases hy with _ | ⟨_, ta, hy⟩
  rcases hy with _ | ⟨_, tb, hy⟩
  rcases hy with _ | ⟨_, tc, hy⟩
  cases hy
  have ha := dots_ok z0
  have hb := dots_ok z1
  have hc := dots_ok z2
  generalize 1 + z0.fmod 8 = a at *
  generalize 1 + z1.fmod 8 = b at *
  generalize 1 + z2.fmod 8 = c at *
  change wpAny _ _ _ _ _ _
  refine' written_tells _ _ a b c ta tb tc ha hb hc _ _ _ _ _ _ _ _ _ _ _ _ _ _ _ _ _ _ _ _ _ _ rfl rfl ?B ?F ?X ?T rfl ?hd ?hu ?pre ?_
  case B => k_asm
  case F => k_asm
  case X => k_asm
  case T => k_asm
  case hd => decide
  case hu => decide
  case pre => is_list
  intro h2 l2 k2 xs2 ep2 hk2 hg2 hn2 hs2
  obtain ⟨F2, N2, hne2⟩ := tellG_add (by k_asm) (by k_asm) hk2 hg2 hn2
  clear hk2 hg2 hn2
  replace hne2 := allNe_of hne2
  simp only [AllNe, and_true] at hne2
  k_steps
  change wpAny _ _ _ _ _ _
  refine' answer_tells _ _ a b c ta tb tc ha hb hc _ _ _ _ _ _ _ _ _ _ _ _ _ _ _ _ _ _ _ _ _ _ rfl rfl ?B ?F ?X ?T rfl ?hd ?hu ?pre ?_
  case B => k_asm
  case F => k_asm
  case X => k_asm
  case T => k_asm
  case hd => decide
  case hu => decide
  case pre => is_list
  intro h3 l3 k3 i3 n3 ti3 tn3 ep3 hk3 hg3 hn3 he3
  obtain ⟨F3, N3, hne3⟩ := tellG_add (by k_asm) (by k_asm) hk3 hg3 hn3
  clear hk3 hg3 hn3
  replace hne3 := allNe_of hne3
  simp only [AllNe, and_true] at hne3
  k_steps
  change wpAny _ _ _ _ _ _
  k_dflt refine' range_loopI (n := 25) (LJ L l1 (listOf #[.int z0 t0, .int z1 t1, .int z2 t2, .int z3 t3, .int z4 t4, .int z5 t5, .int z6 t6, .int z7 t7] ep1)) ?hh ?hr ?hs ?hn ?F ?N ?hj ?turn ?done
  case hh => rfl
  case hr => assumption
  case hs => decide +kernel
  case hn => decide +kernel
  case F => k_asm
  case hj =>
    refine ⟨a, b, c, ta, tb, tc, _, l2, 3, ep2, xs2, w0, w1, w2, none, none, none, rfl, ha, hb, hc, by omega, hs2, ⟨hd0, hd1, hd2⟩, ⟨rfl, rfl, rfl, ?_⟩, ?_⟩
    · exact congrArg (fun x => some (Value.bool x)) (mine_eq he3)
    · refine ⟨⟨?_, ?_, ?_⟩, ⟨?_, ?_, ?_⟩, ⟨?_, ?_, ?_⟩⟩ <;> omega
  case N =>
    refine news_sub (by assumption) ?_
    refine List.forall_mem_cons.mpr ⟨by k_mem, List.forall_mem_cons.mpr ⟨by k_mem, List.forall_mem_cons.mpr ⟨by k_mem, List.forall_mem_cons.mpr ⟨by k_mem, List.forall_mem_cons.mpr ⟨by k_mem, List.forall_mem_cons.mpr ⟨by k_mem, List.forall_mem_nil _⟩⟩⟩⟩⟩⟩
  case turn =>
    intro i m₁ nx h tk I oI t hi hJ hnx F₁ N₁
    exact turn_ok B X T hQ i m₁ nx h tk I oI t hi hJ hnx F₁ N₁
  case done =>
    rintro m₁ nx h tk ⟨a, b, c, ta, tb, tc, ad, ar, ed, er, rs, w0, w1, w2, v0, v1, v2, rfl, ha, hb, hc, hs, _⟩ F₁ N₁
    exfalso
    omega
end Mine

end
section
open PySem PySem.W PySem.Calls PyProof.Rows
set_option Elab.async false
namespace Mine
set_option maxRecDepth 100000
theorem loose_eq : looseW Mine.hd.view_39 [Str.ofString "_twin_re_1", Str.ofString "_twin_re_2"] = LO := by decide +kernel
set_option rowWalk.seconds 0 in
set_option maxHeartbeats 8000000 in
theorem law_all : PySem.Challenge.rw_sc0023_01.Holds := by
  refine hd ?_
  k_go0
  all_goals try k_fold
  rename Top _ _ _ _ _ _ => T0
  replace T0 : Top _ LO _ _ _ _ := loose_eq ▸ T0
  rename_i h₁ tk₁ F0 w2 w1 w0 hd2 hd1 hd0 N0 X0
  clear X0
  replace F0 : Fr _ _ _ (fun y => if y = Str.ofString "script" then some (.ref _) else none) := F0
  replace hd0 : w0.data = .cell none := hd0
  replace hd1 : w1.data = .cell none := hd1
  replace hd2 : w2.data = .cell none := hd2
  rename Ground _ _ _ _ _ _ _ _ _ => G0
  clear G0
  rename Heap.CodeRec _ _ _ => hcd
  clear hcd
  rename Dflts _ _ _ _ _ _ => hDf
  clear hDf
  rename Below _ _ _ _ => B0
  rename (¬ _ < _) => hn0
  refine' law_main B0 F0 (by assumption) T0 N0 hd2 hd1 hd0 (by assumption) (by assumption) hn0 ?_ ?_
  · passes_own
  · intro h k m F
    clear F0 N0
    k_steps
end Mine

end
theorem PySem.Challenge.cw_sc0023_01_holds : PySem.Challenge.rw_sc0023_01.Holds :=
  Mine.law_all
